import JvmDerived
import JvmDerived.Pilot.@@N@@Statement
import JvmDerived.Pilot.@@N@@Code
set_option linter.unusedVariables false
set_option linter.unusedSimpArgs false
namespace Jvm.RoadKit
open Sem ClassFile Op Lib Jvm.Stand Jvm.Free Jvm.LawKit
section New
variable {p : Program} {l : Launch} {e : Env} {R : Room} {s : State} {m : MethodId} {args : Array Value} {below : List Frame} {meth : Method} {c : Code} {T : State} {locs : List Loc} {cells slots : Nat}
theorem retI (X : Stand p l e R s m args below meth c T locs cells slots) (hx : p.tables.exec = Jvm.exec) {pc : Nat} {Ls : Array Slot} {z : Int32} {rest : List Value} (hret : meth.sig.returnType = some .int) (hd : decode c.code pc = .ok (.ireturn, 1)) {fs : List Frame}
    (hl : ∀ (f : JFrame) (acts : List Action), f.method = m → f.locked = none → f.entered = [] → (doReturn e (T.setTop f) acts (some (.int z))).1 = T.setFrames fs) : Steps p.tables e below (T.setTop (mkF m pc Ls (.int z :: rest))) (T.setFrames fs) := by
  have hm' : T.vm.method? m = some meth := X.method'
  have hn : narrow .int (.int z) = .int z := rfl
  show Steps p.tables e below (T.setTop { method := m, pc := pc, locals := Ls, stack := _ :: rest, locked := none }) _
  jvm_step X.here [X.here.top, hx, hd, hm', hret, hn]
  first | (intro acts; rw [hl _ acts rfl rfl rfl]) | rw [hl _ _ rfl rfl rfl]
  exact Steps.refl _
end New
end Jvm.RoadKit
/- laws to paste: Road.lenW, Road.chN, Road.codOf (cut by pick.py; bodies as the Statement names them) -/
namespace Jvm.Pilot.@@N@@
namespace StrChars
open Jvm Sem ClassFile Op Lib Jvm.Stand Jvm.Free.XT Jvm.Free.ALB Jvm.Free.JM Jvm.Free
open Jvm.Lib.Cold (StaticIs)
/-- a char array whose places are chars -/
def Ch (a : Addr) (A : Cell) (U : State) : Prop := Arr .char a A U ∧ Typed .char A
theorem Ch.mv {a : Addr} {A : Cell} {U U' : State} (h : Ch a A U) (hal : U.vm.Alike U'.vm) (hh : U'.heap = U.heap) : Ch a A U' := ⟨h.1.mv hal hh, h.2⟩
theorem Ch.keep {a : Addr} {A : Cell} {U U' : State} (h : Ch a A U) (hal : U.vm.Alike U'.vm) (hk : U'.heap[a]? = some A) : Ch a A U' := ⟨h.1.keep hal hk, h.2⟩
/-- what place i of a char[]'s cell holds -/
def cv (A : Cell) (i : Nat) : Int32 := match A.slots[i]? with | some (.int x) => x | _ => 0
theorem Ch.get {a : Addr} {A : Cell} {U : State} (h : Ch a A U) {i : Nat} (hi : i < A.slots.size) : A.slots[i]? = some (.int (cv A i)) := by
  have e := Array.getElem?_eq_getElem hi
  have f := h.2 i _ e
  unfold cv; rw [e]
  generalize A.slots[i] = v at f
  cases v <;> simp [fits] at f ⊢
/-- the byte that i2b leaves of a char -/
def lo8 (x : Int32) : Int32 := x.toInt8.toInt32
theorem fits_lo8 (y : Int32) : fits .byte (.int (lo8 y)) = true := by
  have h1 := y.toInt8.le_toInt
  have h2 := y.toInt8.toInt_lt
  simp only [lo8, fits, Bool.and_eq_true, decide_eq_true_eq, Int32.le_iff_toInt_le, Int8.toInt_toInt32, show (-128 : Int32).toInt = -128 from by decide, show (127 : Int32).toInt = 127 from by decide]
  omega
/-- A' is A but that each place j of lo .. hi - 1 holds f j -/
def Laid (A A' : Cell) (lo hi : Nat) (f : Nat → Value) : Prop := A'.cls = A.cls ∧ A'.vm = A.vm ∧ A'.slots.size = A.slots.size ∧ ∀ i, A'.slots[i]? = if lo ≤ i ∧ i < hi then some (f i) else A.slots[i]?
theorem Laid.zero (A : Cell) (lo : Nat) (f : Nat → Value) : Laid A A lo (lo + 0) f := ⟨rfl, rfl, rfl, fun i => by rw [if_neg (by omega)]⟩
theorem Laid.step {A Ak : Cell} {lo k : Nat} {f : Nat → Value} {v : Value} (h : Laid A Ak lo k f) (hlo : lo ≤ k) (hk : k < Ak.slots.size) (hv : v = f k) : Laid A (Ak.setSlot k v) lo (k + 1) f := by
  refine ⟨h.1, h.2.1, by simpa [Cell.setSlot] using h.2.2.1, fun i => ?_⟩
  by_cases e : k = i
  · subst e; rw [Cell.slots_setSlot_self v hk, if_pos (by omega), hv]
  · rw [Cell.slots_setSlot_ne v e, h.2.2.2 i]
    by_cases q : lo ≤ i ∧ i < k
    · rw [if_pos q, if_pos (by omega)]
    · rw [if_neg q, if_neg (by omega)]
def U16 : String := "java/lang/StringUTF16"
namespace Cmp5
def yN : MethodName := ⟨"java/lang/StringUTF16", "compress", "([CI[BII)I"⟩
abbrev yB : ByteArray := jdk_52_method_21_code
theorem d0 : decode yB 0 = .ok (.iconst 0, 1) := by decide +kernel
theorem d1 : decode yB 1 = .ok (.istore 5, 2) := by decide +kernel
theorem d3 : decode yB 3 = .ok (.iload 5, 2) := by decide +kernel
theorem d5 : decode yB 5 = .ok (.iload 4, 2) := by decide +kernel
theorem d7 : decode yB 7 = .ok (.if_icmp (.ge) 37, 3) := by decide +kernel
theorem d10 : decode yB 10 = .ok (.aload_n 0, 1) := by decide +kernel
theorem d11 : decode yB 11 = .ok (.iload_n 1, 1) := by decide +kernel
theorem d12 : decode yB 12 = .ok (.caload, 1) := by decide +kernel
theorem d13 : decode yB 13 = .ok (.istore 6, 2) := by decide +kernel
theorem d15 : decode yB 15 = .ok (.iload 6, 2) := by decide +kernel
theorem d17 : decode yB 17 = .ok (.sipush 255, 3) := by decide +kernel
theorem d20 : decode yB 20 = .ok (.if_icmp (.le) 6, 3) := by decide +kernel
theorem d26 : decode yB 26 = .ok (.aload_n 2, 1) := by decide +kernel
theorem d27 : decode yB 27 = .ok (.iload_n 3, 1) := by decide +kernel
theorem d28 : decode yB 28 = .ok (.iload 6, 2) := by decide +kernel
theorem d30 : decode yB 30 = .ok (.i2b, 1) := by decide +kernel
theorem d31 : decode yB 31 = .ok (.bastore, 1) := by decide +kernel
theorem d32 : decode yB 32 = .ok (.iinc 1 1, 3) := by decide +kernel
theorem d35 : decode yB 35 = .ok (.iinc 3 1, 3) := by decide +kernel
theorem d38 : decode yB 38 = .ok (.iinc 5 1, 3) := by decide +kernel
theorem d41 : decode yB 41 = .ok (.goto (-38), 3) := by decide +kernel
theorem d44 : decode yB 44 = .ok (.iload 4, 2) := by decide +kernel
theorem d46 : decode yB 46 = .ok (.ireturn, 1) := by decide +kernel
def site : List Cond := []
def tab : Cond := tabOf yN yB 7 (some .int) site
def P (b : Addr) (A : Cell) (d : Addr) (B : Cell) (o q len : Nat) (args : Array Value) (s : State) : Prop := args = #[.ref b, .int (Int32.ofNat o), .ref d, .int (Int32.ofNat q), .int (Int32.ofNat len)] ∧ Ch b A s ∧ Arr .byte d B s ∧ b ≠ d ∧ o + len ≤ A.slots.size ∧ q + len ≤ B.slots.size ∧ ∀ i, i < len → ¬ 255 < cv A (o + i)
def E (b : Addr) (A : Cell) (d : Addr) (B : Cell) (o q len : Nat) (r : Option Value) (s u : State) : Prop := r = some (.int (Int32.ofNat len)) ∧ ∃ B', Put d B' s u ∧ Laid B B' q (q + len) (fun j => Value.int (lo8 (cv A (o + (j - q)))))
/-- no char of the range above 255: len; the places written hold each char's low byte -/
theorem law (l : Launch) (b : Addr) (A : Cell) (d : Addr) (B : Cell) (o q len : Nat) : Law l yN 5 5 0 0 yB 7 (some .int) site (P b A d B o q len) (E b A d B o q len) (copyLocs d q len) 0 0 := by
  refine Law.of_walk (plainFor_of_name (by decide +kernel)) (by decide +kernel) (by decide +kernel) (by decide) (fun _ _ h => by rw [h.1]; rfl) (fun _ U U' hal hh h => ⟨h.1, h.2.1.mv hal hh, h.2.2.1.mv hal hh, h.2.2.2⟩) (fun r U U' V V' h1 hal h2 h => ⟨h.1, h.2.elim fun B' q => ⟨B', q.1.mv h1 h2, q.2⟩⟩) ?_
  intro p e s m args below meth c s₁ X0 hexec hbytes hml hret hlk hnm hown hh0 W hP
  obtain ⟨rfl, hA, hB, hne, l1, l2, hp⟩ := hP
  have c1 : Steps p.tables e below (s₁.setTop (entryFrame m #[.ref b, .int (Int32.ofNat o), .ref d, .int (Int32.ofNat q), .int (Int32.ofNat len)] 7)) (s₁.setTop (mkF m 0 #[.val (.ref b), .val (.int (Int32.ofNat o)), .val (.ref d), .val (.int (Int32.ofNat q)), .val (.int (Int32.ofNat len)), .unset, .unset] [])) := entry rfl
  have hA0 := hA.1.mv X0.warmed.alike hh0
  have hB0 := hB.mv X0.warmed.alike hh0
  have a31 := hA.1.2.2.2
  have c2 : Steps p.tables e below (s₁.setTop (entryFrame m #[.ref b, .int (Int32.ofNat o), .ref d, .int (Int32.ofNat q), .int (Int32.ofNat len)] 7)) (s₁.setTop (mkF m 3 #[.val (.ref b), .val (.int (Int32.ofNat o)), .val (.ref d), .val (.int (Int32.ofNat q)), .val (.int (Int32.ofNat len)), .val (.int 0), .unset] [])) := c1.trans (by
    refine iconstV X0.here hexec rfl 0 (hb hbytes d0) (by decide) ?_
    refine XS.istore X0.here hexec rfl (hb hbytes d1) rfl rfl ?_
    exact Steps.refl _)
  have loop : ∀ (r i : Nat), i + r = len → ∀ (z : Slot), (z = .unset ∨ ∃ w, z = .val w ∧ w.category = 1) → ∀ (Tl : State) (Bk : Cell), Stand p l e { frames := 0, locals := 0, cells := 0, slots := 0 } s m #[.ref b, .int (Int32.ofNat o), .ref d, .int (Int32.ofNat q), .int (Int32.ofNat len)] below meth c Tl ([] ++ copyLocs d q i) 0 0 → Put d Bk s₁ Tl → Laid B Bk q (q + i) (fun j => Value.int (lo8 (cv A (o + (j - q))))) →
      Steps p.tables e below (s₁.setTop (entryFrame m #[.ref b, .int (Int32.ofNat o), .ref d, .int (Int32.ofNat q), .int (Int32.ofNat len)] 7)) (Tl.setTop (mkF m 3 #[.val (.ref b), .val (.int (Int32.ofNat (o + i))), .val (.ref d), .val (.int (Int32.ofNat (q + i))), .val (.int (Int32.ofNat len)), .val (.int (Int32.ofNat i)), z] [])) → ∃ (T' : State) (B' : Cell) (z' : Slot), Stand p l e { frames := 0, locals := 0, cells := 0, slots := 0 } s m #[.ref b, .int (Int32.ofNat o), .ref d, .int (Int32.ofNat q), .int (Int32.ofNat len)] below meth c T' ([] ++ copyLocs d q len) 0 0 ∧ Put d B' s₁ T' ∧ Laid B B' q (q + len) (fun j => Value.int (lo8 (cv A (o + (j - q))))) ∧
      Steps p.tables e below (s₁.setTop (entryFrame m #[.ref b, .int (Int32.ofNat o), .ref d, .int (Int32.ofNat q), .int (Int32.ofNat len)] 7)) (T'.setTop (mkF m 3 #[.val (.ref b), .val (.int (Int32.ofNat (o + len))), .val (.ref d), .val (.int (Int32.ofNat (q + len))), .val (.int (Int32.ofNat len)), .val (.int (Int32.ofNat len)), z'] [])) := by
    intro r
    induction r with
    | zero =>
      intro i hi z hz Tl Bk Xl pl fl cl
      have hil : i = len := by omega
      rw [hil] at Xl fl cl
      exact ⟨Tl, Bk, z, Xl, pl, fl, cl⟩
    | succ r ih =>
      intro i hi z hz Tl Bk Xl pl fl cl
      have all := X0.warmed.alike.symm.trans Xl.warmed.alike
      have hAl := hA0.keep all (pl.other hne hA0.1)
      have hBk := hB0.like all pl.1 fl.1 fl.2.1 fl.2.2.1
      have hlt : q + i < Bk.slots.size := by rw [fl.2.2.1]; omega
      have c3 : Steps p.tables e below (s₁.setTop (entryFrame m #[.ref b, .int (Int32.ofNat o), .ref d, .int (Int32.ofNat q), .int (Int32.ofNat len)] 7)) (Tl.setTop (mkF m 12 #[.val (.ref b), .val (.int (Int32.ofNat (o + i))), .val (.ref d), .val (.int (Int32.ofNat (q + i))), .val (.int (Int32.ofNat len)), .val (.int (Int32.ofNat i)), z] [.int (Int32.ofNat (o + i)), .ref b])) := cl.trans (by
        refine XS.iload Xl.here hexec rfl (hb hbytes d3) rfl ?_
        refine XS.iload Xl.here hexec rfl (hb hbytes d5) rfl ?_
        refine XS.icmpNo Xl.here hexec rfl (hb hbytes d7) rfl (ii_ge_f (lt32 (by omega) (by omega))) ?_
        refine XS.aloadN Xl.here hexec rfl (hb hbytes d10) rfl rfl ?_
        refine XS.iloadN Xl.here hexec rfl (hb hbytes d11) rfl ?_
        exact Steps.refl _)
      have c4 : Steps p.tables e below (s₁.setTop (entryFrame m #[.ref b, .int (Int32.ofNat o), .ref d, .int (Int32.ofNat q), .int (Int32.ofNat len)] 7)) (Tl.setTop (mkF m 13 #[.val (.ref b), .val (.int (Int32.ofNat (o + i))), .val (.ref d), .val (.int (Int32.ofNat (q + i))), .val (.int (Int32.ofNat len)), .val (.int (Int32.ofNat i)), z] [.int (cv A (o + i))])) := c3.trans (by
        refine Xl.aget hexec hAl rfl (hA.get (i := o + i) (by omega)) rfl rfl (hb hbytes d12) ?_
        exact Steps.refl _)
      have c5 : Steps p.tables e below (s₁.setTop (entryFrame m #[.ref b, .int (Int32.ofNat o), .ref d, .int (Int32.ofNat q), .int (Int32.ofNat len)] 7)) (Tl.setTop (mkF m 15 #[.val (.ref b), .val (.int (Int32.ofNat (o + i))), .val (.ref d), .val (.int (Int32.ofNat (q + i))), .val (.int (Int32.ofNat len)), .val (.int (Int32.ofNat i)), .val (.int (cv A (o + i)))] [])) := c4.trans (by
        refine XS.istoreS Xl.here hexec rfl (hb hbytes d13) rfl rfl hz ?_
        exact Steps.refl _)
      have c6 : Steps p.tables e below (s₁.setTop (entryFrame m #[.ref b, .int (Int32.ofNat o), .ref d, .int (Int32.ofNat q), .int (Int32.ofNat len)] 7)) (Tl.setTop (mkF m 31 #[.val (.ref b), .val (.int (Int32.ofNat (o + i))), .val (.ref d), .val (.int (Int32.ofNat (q + i))), .val (.int (Int32.ofNat len)), .val (.int (Int32.ofNat i)), .val (.int (cv A (o + i)))] [.int (lo8 (cv A (o + i))), .int (Int32.ofNat (q + i)), .ref d])) := c5.trans (by
        refine XS.iload Xl.here hexec rfl (hb hbytes d15) rfl ?_
        refine sipushV Xl.here hexec rfl 255 (hb hbytes d17) (by decide) ?_
        refine XS.icmpYes Xl.here hexec rfl (pc0 := 20) rfl (hb hbytes d20) rfl (ii_le_t (hp i (by omega))) (by decide) rfl ?_
        refine XS.aloadN Xl.here hexec rfl (hb hbytes d26) rfl rfl ?_
        refine XS.iloadN Xl.here hexec rfl (hb hbytes d27) rfl ?_
        refine XS.iload Xl.here hexec rfl (hb hbytes d28) rfl ?_
        refine i2b Xl.here hexec rfl (hb hbytes d30) rfl ?_
        exact Steps.refl _)
      obtain ⟨T7, X7, p7, st7⟩ := Xl.aput hexec hBk rfl hlt rfl (fits_lo8 (cv A (o + i))) (g := (mkF m 31 #[.val (.ref b), .val (.int (Int32.ofNat (o + i))), .val (.ref d), .val (.int (Int32.ofNat (q + i))), .val (.int (Int32.ofNat len)), .val (.int (Int32.ofNat i)), .val (.int (cv A (o + i)))] [.int (lo8 (cv A (o + i))), .int (Int32.ofNat (q + i)), .ref d])) rfl (rest := []) rfl (hb hbytes d31)
      have c8 : Steps p.tables e below (s₁.setTop (entryFrame m #[.ref b, .int (Int32.ofNat o), .ref d, .int (Int32.ofNat q), .int (Int32.ofNat len)] 7)) (T7.setTop (mkF m 32 #[.val (.ref b), .val (.int (Int32.ofNat (o + i))), .val (.ref d), .val (.int (Int32.ofNat (q + i))), .val (.int (Int32.ofNat len)), .val (.int (Int32.ofNat i)), .val (.int (cv A (o + i)))] [])) := c6.trans (st7 _ (Steps.refl _))
      have c9 : Steps p.tables e below (s₁.setTop (entryFrame m #[.ref b, .int (Int32.ofNat o), .ref d, .int (Int32.ofNat q), .int (Int32.ofNat len)] 7)) (T7.setTop (mkF m 3 #[.val (.ref b), .val (.int (Int32.ofNat (o + i) + 1)), .val (.ref d), .val (.int (Int32.ofNat (q + i) + 1)), .val (.int (Int32.ofNat len)), .val (.int (Int32.ofNat i + 1)), .val (.int (cv A (o + i)))] [])) := c8.trans (by
        refine iincV X7.here hexec rfl 1 (hb hbytes d32) (by decide) rfl rfl ?_
        refine iincV X7.here hexec rfl 1 (hb hbytes d35) (by decide) rfl rfl ?_
        refine iincV X7.here hexec rfl 1 (hb hbytes d38) (by decide) rfl rfl ?_
        refine XS.goto X7.here hexec rfl (pc0 := 41) rfl (hb hbytes d41) (by decide) rfl ?_
        exact Steps.refl _)
      have c10 : Steps p.tables e below (s₁.setTop (entryFrame m #[.ref b, .int (Int32.ofNat o), .ref d, .int (Int32.ofNat q), .int (Int32.ofNat len)] 7)) (T7.setTop (mkF m 3 #[.val (.ref b), .val (.int (Int32.ofNat (o + (i + 1)))), .val (.ref d), .val (.int (Int32.ofNat (q + (i + 1)))), .val (.int (Int32.ofNat len)), .val (.int (Int32.ofNat (i + 1))), .val (.int (cv A (o + i)))] [])) := by
        have := c9
        rw [succ32, succ32, succ32] at this
        exact this
      exact ih (i + 1) (by omega) _ (Or.inr ⟨_, rfl, rfl⟩) T7 _ (by rw [copyLocs_step, ← List.append_assoc]; exact X7) (pl.trans p7) (fl.step (by omega) hlt (by simp)) c10
  obtain ⟨T9, B9, z9, X9, p9, f9, g9⟩ := loop len 0 (by omega) .unset (Or.inl rfl) s₁ B (by simpa [copyLocs] using X0) ⟨hB0.1, fun _ _ => rfl, rfl⟩ (Laid.zero _ _ _) c2
  have c11 : Steps p.tables e below (s₁.setTop (entryFrame m #[.ref b, .int (Int32.ofNat o), .ref d, .int (Int32.ofNat q), .int (Int32.ofNat len)] 7)) (T9.setTop (mkF m 46 #[.val (.ref b), .val (.int (Int32.ofNat (o + len))), .val (.ref d), .val (.int (Int32.ofNat (q + len))), .val (.int (Int32.ofNat len)), .val (.int (Int32.ofNat len)), z9] [.int (Int32.ofNat len)])) := g9.trans (by
    refine XS.iload X9.here hexec rfl (hb hbytes d3) rfl ?_
    refine XS.iload X9.here hexec rfl (hb hbytes d5) rfl ?_
    refine XS.icmpYes X9.here hexec rfl (pc0 := 7) rfl (hb hbytes d7) rfl (ii_ge_t (nlt32 (by omega) (Nat.le_refl _))) (by decide) rfl ?_
    refine XS.iload X9.here hexec rfl (hb hbytes d44) rfl ?_
    exact Steps.refl _)
  exact ⟨T9, some (.int (Int32.ofNat len)), _, _, _, X9, by simp, rfl, rfl, (fun h => by cases h), ⟨rfl, B9, p9.from hh0, f9⟩, fun fs hl => c11.trans (X9.ireturnOut hexec hret rfl (Or.inl rfl) (hb hbytes d46) hl)⟩
end Cmp5
namespace Cmp3
def yN : MethodName := ⟨"java/lang/StringUTF16", "compress", "([CII)[B"⟩
abbrev yB : ByteArray := jdk_52_method_16_code
theorem d0 : decode yB 0 = .ok (.iload_n 2, 1) := by decide +kernel
theorem d1 : decode yB 1 = .ok (.newarray .byte, 2) := by decide +kernel
theorem d3 : decode yB 3 = .ok (.astore_n 3, 1) := by decide +kernel
theorem d4 : decode yB 4 = .ok (.aload_n 0, 1) := by decide +kernel
theorem d5 : decode yB 5 = .ok (.iload_n 1, 1) := by decide +kernel
theorem d6 : decode yB 6 = .ok (.aload_n 3, 1) := by decide +kernel
theorem d7 : decode yB 7 = .ok (.iconst 0, 1) := by decide +kernel
theorem d8 : decode yB 8 = .ok (.iload_n 2, 1) := by decide +kernel
theorem d9 : decode yB 9 = .ok (.invokestatic 115, 3) := by decide +kernel
theorem d12 : decode yB 12 = .ok (.istore 4, 2) := by decide +kernel
theorem d14 : decode yB 14 = .ok (.iload 4, 2) := by decide +kernel
theorem d16 : decode yB 16 = .ok (.iload_n 2, 1) := by decide +kernel
theorem d17 : decode yB 17 = .ok (.if_icmp (.eq) 40, 3) := by decide +kernel
theorem d57 : decode yB 57 = .ok (.aload_n 3, 1) := by decide +kernel
theorem d58 : decode yB 58 = .ok (.areturn, 1) := by decide +kernel
def site : List Cond := [.arrayClass .byte, Cmp5.tab] ++ staticW U16 115 Cmp5.yN
def tab : Cond := tabOf yN yB 6 (some (.array .byte)) site
def P (b : Addr) (A : Cell) (o len : Nat) (args : Array Value) (s : State) : Prop := args = #[.ref b, .int (Int32.ofNat o), .int (Int32.ofNat len)] ∧ Ch b A s ∧ o + len ≤ A.slots.size ∧ len ≤ 536870912 ∧ ∀ i, i < len → ¬ 255 < cv A (o + i)
def E (b : Addr) (A : Cell) (o len : Nat) (r : Option Value) (s u : State) : Prop := NewArr .byte "[B" len (fun j => .int (lo8 (cv A (o + j)))) r s u ∧ u.heap.size = s.heap.size + 1
/-- no char of the range above 255: a new byte[] of their low bytes -/
theorem law (l : Launch) (b : Addr) (A : Cell) (o len : Nat) : Law l yN 3 3 1 18 yB 6 (some (.array .byte)) site (P b A o len) (E b A o len) [] 1 len := by
  refine Law.of_walk (plainFor_of_name (by decide +kernel)) (by decide +kernel) (by decide +kernel) (by decide) (fun _ _ h => by rw [h.1]; rfl) (fun _ U U' hal hh h => ⟨h.1, h.2.1.mv hal hh, h.2.2⟩) (fun r U U' V V' h1 hal h2 h => ⟨NewArr.mv r U U' V V' h1 hal h2 h.1, by rw [h1, h2]; exact h.2⟩) ?_
  intro p e s m args below meth c s₁ X0 hexec hbytes hml hret hlk hnm hown hh0 W hP
  obtain ⟨rfl, hA, l1, l2, hp⟩ := hP
  have a31 := hA.1.2.2.2
  have c1 : Steps p.tables e below (s₁.setTop (entryFrame m #[.ref b, .int (Int32.ofNat o), .int (Int32.ofNat len)] 6)) (s₁.setTop (mkF m 0 #[.val (.ref b), .val (.int (Int32.ofNat o)), .val (.int (Int32.ofNat len)), .unset, .unset, .unset] [])) := entry rfl
  have c2 : Steps p.tables e below (s₁.setTop (entryFrame m #[.ref b, .int (Int32.ofNat o), .int (Int32.ofNat len)] 6)) (s₁.setTop (mkF m 1 #[.val (.ref b), .val (.int (Int32.ofNat o)), .val (.int (Int32.ofNat len)), .unset, .unset, .unset] [.int (Int32.ofNat len)])) := c1.trans (by
    refine XS.iloadN X0.here hexec rfl (hb hbytes d0) rfl ?_
    exact Steps.refl _)
  obtain ⟨T3, B3, X3, ba3, bs3, bv3, bh3, bf3, st3⟩ := X0.anew hexec (atype := .byte) (wk W (.arrayClass .byte)) rfl (by show len * 1 ≤ _; omega) (by omega) (g := (mkF m 1 #[.val (.ref b), .val (.int (Int32.ofNat o)), .val (.int (Int32.ofNat len)), .unset, .unset, .unset] [.int (Int32.ofNat len)])) rfl (hb hbytes d1) (rest := []) rfl (Nat.le_refl _) (by show 0 + len ≤ len; omega)
  rw [hh0] at ba3 st3
  have kp3 : XT.Kept s T3 := (XT.Kept.of_eq hh0).push bh3
  have hA3 := hA.keep X3.warmed.alike (kp3 _ _ hA.1.1)
  have hne : b ≠ s.heap.size := hA.1.ne
  have c4 : Steps p.tables e below (s₁.setTop (entryFrame m #[.ref b, .int (Int32.ofNat o), .int (Int32.ofNat len)] 6)) (T3.setTop (mkF m 3 #[.val (.ref b), .val (.int (Int32.ofNat o)), .val (.int (Int32.ofNat len)), .unset, .unset, .unset] [.ref s.heap.size])) := c2.trans (st3 _ (Steps.refl _))
  have c5 : Steps p.tables e below (s₁.setTop (entryFrame m #[.ref b, .int (Int32.ofNat o), .int (Int32.ofNat len)] 6)) (T3.setTop (mkF m 9 #[.val (.ref b), .val (.int (Int32.ofNat o)), .val (.int (Int32.ofNat len)), .val (.ref s.heap.size), .unset, .unset] [.int (Int32.ofNat len), .int 0, .ref s.heap.size, .int (Int32.ofNat o), .ref b])) := c4.trans (by
    refine XS.astoreN X3.here hexec rfl (hb hbytes d3) rfl rfl rfl ?_
    refine XS.aloadN X3.here hexec rfl (hb hbytes d4) rfl rfl ?_
    refine XS.iloadN X3.here hexec rfl (hb hbytes d5) rfl ?_
    refine XS.aloadN X3.here hexec rfl (hb hbytes d6) rfl rfl ?_
    refine iconstV X3.here hexec rfl 0 (hb hbytes d7) (by decide) ?_
    refine XS.iloadN X3.here hexec rfl (hb hbytes d8) rfl ?_
    exact Steps.refl _)
  obtain ⟨v6, T6, X6, E6, g6⟩ := X3.callS hexec (Cmp5.law l b A s.heap.size B3 o 0 len) hown (wks W (staticW U16 115 Cmp5.yN)) (wk W Cmp5.tab) (W := 0) (Nat.le_of_ble_eq_true rfl) (Nat.le_of_ble_eq_true rfl) (Nat.le_refl _) (by show 0 + len + 0 ≤ len; omega) (g := (mkF m 9 #[.val (.ref b), .val (.int (Int32.ofNat o)), .val (.int (Int32.ofNat len)), .val (.ref s.heap.size), .unset, .unset] [.int (Int32.ofNat len), .int (Int32.ofNat 0), .ref s.heap.size, .int (Int32.ofNat o), .ref b])) rfl (by rw [hml]; rfl) c5 (argsL := [.ref b, .int (Int32.ofNat o), .ref s.heap.size, .int (Int32.ofNat 0), .int (Int32.ofNat len)]) (rest := []) rfl rfl (by show 2 * 0 + 0 ≤ _; decide) (hb hbytes d9) (⟨rfl, hA3, ba3, hne, l1, by rw [bs3]; simp, hp⟩)
  obtain ⟨rfl, B6, p6, f6⟩ := E6
  have c7 : Steps p.tables e below (s₁.setTop (entryFrame m #[.ref b, .int (Int32.ofNat o), .int (Int32.ofNat len)] 6)) (T6.setTop (mkF m 12 #[.val (.ref b), .val (.int (Int32.ofNat o)), .val (.int (Int32.ofNat len)), .val (.ref s.heap.size), .unset, .unset] [.int (Int32.ofNat len)])) := g6
  have c8 : Steps p.tables e below (s₁.setTop (entryFrame m #[.ref b, .int (Int32.ofNat o), .int (Int32.ofNat len)] 6)) (T6.setTop (mkF m 58 #[.val (.ref b), .val (.int (Int32.ofNat o)), .val (.int (Int32.ofNat len)), .val (.ref s.heap.size), .val (.int (Int32.ofNat len)), .unset] [.ref s.heap.size])) := c7.trans (by
    refine XS.istore X6.here hexec rfl (hb hbytes d12) rfl rfl ?_
    refine XS.iload X6.here hexec rfl (hb hbytes d14) rfl ?_
    refine XS.iloadN X6.here hexec rfl (hb hbytes d16) rfl ?_
    refine XS.icmpYes X6.here hexec rfl (pc0 := 17) rfl (hb hbytes d17) rfl (ii_eq_t rfl) (by decide) rfl ?_
    refine XS.aloadN X6.here hexec rfl (hb hbytes d57) rfl rfl ?_
    exact Steps.refl _)
  have X8 := X6.wide (L' := []) (cells' := 1) (slots' := len) (fun x hx hlt => by
    simp only [List.nil_append, copyLocs, List.mem_map, List.mem_range] at hx
    obtain ⟨i, -, rfl⟩ := hx
    exact absurd hlt (Nat.lt_irrefl _)) (Nat.le_refl _) (by omega)
  exact ⟨T6, some (.ref s.heap.size), _, _, _, X8, rfl, rfl, rfl, (fun h => by cases h), ⟨⟨rfl, B6, ba3.like (X3.warmed.alike.symm.trans X6.warmed.alike) p6.1 f6.1 f6.2.1 f6.2.2.1, f6.2.1.trans bv3, by rw [X6.warmed.alike.findClass, f6.1]; exact bf3, by rw [f6.2.2.1, bs3]; simp, fun j hj => by rw [f6.2.2.2 j, if_pos (by omega)]; rfl, kp3.put p6 (Nat.le_refl _)⟩, by rw [p6.2.2, bh3, hh0]; simp⟩, fun fs hl => c8.trans (X8.areturnOut hexec rfl hret rfl (hb hbytes d58) hl)⟩
end Cmp3
namespace CodL
def yN : MethodName := ⟨"java/lang/StringUTF16", "coderFromArrayLen", "([BI)B"⟩
abbrev yB : ByteArray := jdk_52_method_15_code
theorem d0 : decode yB 0 = .ok (.iload_n 1, 1) := by decide +kernel
theorem d1 : decode yB 1 = .ok (.aload_n 0, 1) := by decide +kernel
theorem d2 : decode yB 2 = .ok (.arraylength, 1) := by decide +kernel
theorem d3 : decode yB 3 = .ok (.isub, 1) := by decide +kernel
theorem d4 : decode yB 4 = .ok (.bipush 31, 2) := by decide +kernel
theorem d6 : decode yB 6 = .ok (.iushr, 1) := by decide +kernel
theorem d7 : decode yB 7 = .ok (.i2b, 1) := by decide +kernel
theorem d8 : decode yB 8 = .ok (.ireturn, 1) := by decide +kernel
def site : List Cond := []
def tab : Cond := tabOf yN yB 2 (some .byte) site
def P (d : Addr) (B : Cell) (args : Array Value) (s : State) : Prop := args = #[.ref d, .int (Int32.ofNat B.slots.size)] ∧ Arr .byte d B s
def E (r : Option Value) (s u : State) : Prop := XT.PureE (some (.int 0)) r s u
/-- an array as long as the number of chars: LATIN1 -/
theorem law (l : Launch) (d : Addr) (B : Cell) : Law l yN 2 2 0 0 yB 2 (some .byte) site (P d B) E [] 0 0 := by
  refine Law.of_walk (plainFor_of_name (by decide +kernel)) (by decide +kernel) (by decide +kernel) (by decide) (fun _ _ h => by rw [h.1]; rfl) (fun _ U U' hal hh h => ⟨h.1, h.2.mv hal hh⟩) (fun r U U' V V' h1 hal h2 h => XT.PureE.mv r U U' V V' h1 hal h2 h) ?_
  intro p e s m args below meth c s₁ X0 hexec hbytes hml hret hlk hnm hown hh0 W hP
  obtain ⟨rfl, hB⟩ := hP
  have hB0 := hB.mv X0.warmed.alike hh0
  have c1 : Steps p.tables e below (s₁.setTop (entryFrame m #[.ref d, .int (Int32.ofNat B.slots.size)] 2)) (s₁.setTop (mkF m 0 #[.val (.ref d), .val (.int (Int32.ofNat B.slots.size))] [])) := entry rfl
  have c2 : Steps p.tables e below (s₁.setTop (entryFrame m #[.ref d, .int (Int32.ofNat B.slots.size)] 2)) (s₁.setTop (mkF m 2 #[.val (.ref d), .val (.int (Int32.ofNat B.slots.size))] [.ref d, .int (Int32.ofNat B.slots.size)])) := c1.trans (by
    refine XS.iloadN X0.here hexec rfl (hb hbytes d0) rfl ?_
    refine XS.aloadN X0.here hexec rfl (hb hbytes d1) rfl rfl ?_
    exact Steps.refl _)
  have c3 : Steps p.tables e below (s₁.setTop (entryFrame m #[.ref d, .int (Int32.ofNat B.slots.size)] 2)) (s₁.setTop (mkF m 8 #[.val (.ref d), .val (.int (Int32.ofNat B.slots.size))] [.int (lo8 (ushr (Int32.ofNat B.slots.size - Int32.ofNat B.slots.size) 31))])) := c2.trans (by
    refine X0.alen hexec hB0 rfl rfl (hb hbytes d2) ?_
    refine XS.isub X0.here hexec rfl (hb hbytes d3) rfl ?_
    refine bipushV X0.here hexec rfl 31 (hb hbytes d4) (by decide) ?_
    refine iushr X0.here hexec rfl (hb hbytes d6) rfl ?_
    refine i2b X0.here hexec rfl (hb hbytes d7) rfl ?_
    exact Steps.refl _)
  have e0 : lo8 (ushr (Int32.ofNat B.slots.size - Int32.ofNat B.slots.size) 31) = 0 := by rw [Int32.sub_self]; decide
  rw [e0] at c3
  exact ⟨s₁, some (.int 0), _, _, _, X0, rfl, rfl, rfl, (fun h => by cases h), ⟨rfl, hh0⟩, fun fs hl => c3.trans (X0.ireturnOut hexec hret rfl (Or.inr (Or.inr (Or.inl rfl))) (hb hbytes d8) hl)⟩
end CodL
/-- the String at a is Latin-1 over a new byte[] (the heap's one new cell): the low bytes of the len chars of A from o on; every cell but a is kept -/
def Got (a : Addr) (D : Cell) (fV fC : Field) (A : Cell) (o len : Nat) (r : Option Value) (s u : State) : Prop := r = none ∧ ∃ D' V : Cell, Blank "java/lang/String" a D' u ∧ Same D D' [fV.slot, fC.slot] ∧ D'.slots[fV.slot]? = some (.ref s.heap.size) ∧ D'.slots[fC.slot]? = some (.int 0) ∧ Arr .byte s.heap.size V u ∧ V.vm = .none ∧ u.vm.findClass "[B" = some V.cls ∧ V.slots.size = len ∧ (∀ j, j < len → V.slots[j]? = some (.int (lo8 (cv A (o + j))))) ∧ (∀ (y : Addr) (c : Cell), y ≠ a → s.heap[y]? = some c → u.heap[y]? = some c) ∧ u.heap.size = s.heap.size + 1
theorem Got.mv {a : Addr} {D A : Cell} {fV fC : Field} {o len : Nat} : ∀ r (U U' V V' : State), U'.heap = U.heap → V.vm.Alike V'.vm → V'.heap = V.heap → Got a D fV fC A o len r U V → Got a D fV fC A o len r U' V' :=
  fun r U U' V V' h1 hal h2 ⟨e0, D', X, a1, a2, a3, a4, a5, a6, a7, a8, a9, a10, a11⟩ => ⟨e0, D', X, a1.mv hal h2, a2, by rw [h1]; exact a3, a4, by rw [h1]; exact a5.mv hal h2, a6, by rw [hal.findClass]; exact a7, a8, a9, by rw [h1, h2]; exact a10, by rw [h1, h2]; exact a11⟩
namespace New4
def yN : MethodName := ⟨"java/lang/String", "<init>", "([CIILjava/lang/Void;)V"⟩
abbrev yB : ByteArray := jdk_42_method_149_code
theorem d0 : decode yB 0 = .ok (.aload_n 0, 1) := by decide +kernel
theorem d1 : decode yB 1 = .ok (.invokespecial 1, 3) := by decide +kernel
theorem d4 : decode yB 4 = .ok (.iload_n 3, 1) := by decide +kernel
theorem d5 : decode yB 5 = .ok (.ifCond (.ne) 22, 3) := by decide +kernel
theorem d27 : decode yB 27 = .ok (.getstatic 38, 3) := by decide +kernel
theorem d30 : decode yB 30 = .ok (.ifCond (.eq) 28, 3) := by decide +kernel
theorem d33 : decode yB 33 = .ok (.aload_n 1, 1) := by decide +kernel
theorem d34 : decode yB 34 = .ok (.iload_n 2, 1) := by decide +kernel
theorem d35 : decode yB 35 = .ok (.iload_n 3, 1) := by decide +kernel
theorem d36 : decode yB 36 = .ok (.invokestatic 177, 3) := by decide +kernel
theorem d39 : decode yB 39 = .ok (.astore 5, 2) := by decide +kernel
theorem d41 : decode yB 41 = .ok (.aload_n 0, 1) := by decide +kernel
theorem d42 : decode yB 42 = .ok (.aload 5, 2) := by decide +kernel
theorem d44 : decode yB 44 = .ok (.iload_n 3, 1) := by decide +kernel
theorem d45 : decode yB 45 = .ok (.invokestatic 47, 3) := by decide +kernel
theorem d48 : decode yB 48 = .ok (.putfield 15, 3) := by decide +kernel
theorem d51 : decode yB 51 = .ok (.aload_n 0, 1) := by decide +kernel
theorem d52 : decode yB 52 = .ok (.aload 5, 2) := by decide +kernel
theorem d54 : decode yB 54 = .ok (.putfield 9, 3) := by decide +kernel
theorem d57 : decode yB 57 = .ok (.return_, 1) := by decide +kernel
def site : List Cond := [.fieldLink "java/lang/String" 38 "java/lang/String" "COMPACT_STRINGS" "Z", Cmp3.tab, CodL.tab, .laysFinal "java/lang/String" "java/lang/String" "value" "[B", .fieldLink "java/lang/String" 9 "java/lang/String" "value" "[B", .laysFinal "java/lang/String" "java/lang/String" "coder" "B", .fieldLink "java/lang/String" 15 "java/lang/String" "coder" "B"] ++ objW "java/lang/String" 1 ++ staticW "java/lang/String" 177 Cmp3.yN ++ staticW "java/lang/String" 47 CodL.yN
def tab : Cond := tabOf yN yB 6 none site
def P (a : Addr) (D : Cell) (fV fC : Field) (b : Addr) (A : Cell) (z : Int32) (o len : Nat) (args : Array Value) (s : State) : Prop := args = #[.ref a, .ref b, .int (Int32.ofNat o), .int (Int32.ofNat len), .null] ∧ Blank "java/lang/String" a D s ∧ Found "java/lang/String" "value" "[B" fV s ∧ Found "java/lang/String" "coder" "B" fC s ∧ Ch b A s ∧ StaticIs s "java/lang/String" "COMPACT_STRINGS" "Z" (.int z) ∧ ¬ z = 0 ∧ 0 < len ∧ o + len ≤ A.slots.size ∧ len ≤ 536870912 ∧ ∀ i, i < len → ¬ 255 < cv A (o + i)
def E (a : Addr) (D : Cell) (fV fC : Field) (A : Cell) (o len : Nat) (r : Option Value) (s u : State) : Prop := Got a D fV fC A o len r s u
/-- len > 0, no char of the range above 255: a Latin-1 String of their low bytes -/
theorem law (l : Launch) (a : Addr) (D : Cell) (fV fC : Field) (b : Addr) (A : Cell) (z : Int32) (o len : Nat) : Law l yN 5 4 2 35 yB 6 none site (P a D fV fC b A z o len) (E a D fV fC A o len) [⟨a, fC.slot⟩, ⟨a, fV.slot⟩] 1 len := by
  refine Law.of_walk (plainFor_of_name (by decide +kernel)) (by decide +kernel) (by decide +kernel) (by decide) (fun _ _ h => by rw [h.1]; rfl) (fun _ U U' hal hh h => ⟨h.1, h.2.1.mv hal hh, h.2.2.1.al hal, h.2.2.2.1.al hal, h.2.2.2.2.1.mv hal hh, h.2.2.2.2.2.1.there hal hh, h.2.2.2.2.2.2⟩) (fun r U U' V V' h1 hal h2 h => Got.mv r U U' V V' h1 hal h2 h) ?_
  intro p e s m args below meth c s₁ X0 hexec hbytes hml hret hlk hnm hown hh0 W hP
  obtain ⟨rfl, hB, f1, f2, hA, s1, hz, l0, l1, l2, hp⟩ := hP
  have a31 := hA.1.2.2.2
  have c1 : Steps p.tables e below (s₁.setTop (entryFrame m #[.ref a, .ref b, .int (Int32.ofNat o), .int (Int32.ofNat len), .null] 6)) (s₁.setTop (mkF m 0 #[.val (.ref a), .val (.ref b), .val (.int (Int32.ofNat o)), .val (.int (Int32.ofNat len)), .val .null, .unset] [])) := entry rfl
  have c2 : Steps p.tables e below (s₁.setTop (entryFrame m #[.ref a, .ref b, .int (Int32.ofNat o), .int (Int32.ofNat len), .null] 6)) (s₁.setTop (mkF m 1 #[.val (.ref a), .val (.ref b), .val (.int (Int32.ofNat o)), .val (.int (Int32.ofNat len)), .val .null, .unset] [.ref a])) := c1.trans (by
    refine XS.aloadN X0.here hexec rfl (hb hbytes d0) rfl rfl ?_
    exact Steps.refl _)
  obtain ⟨T3, X3, q3, st3⟩ := X0.oinit hexec hown (wks W (objW "java/lang/String" 1)) (g := (mkF m 1 #[.val (.ref a), .val (.ref b), .val (.int (Int32.ofNat o)), .val (.int (Int32.ofNat len)), .val .null, .unset] [.ref a])) rfl (by rw [hml]; rfl) (rest := []) rfl (hb hbytes d1) (W := 0) (by show 2 * 0 + 0 ≤ _; decide) (Nat.le_of_ble_eq_true rfl) (Nat.le_of_ble_eq_true rfl)
  have hh3 := q3.trans hh0
  have c4 : Steps p.tables e below (s₁.setTop (entryFrame m #[.ref a, .ref b, .int (Int32.ofNat o), .int (Int32.ofNat len), .null] 6)) (T3.setTop (mkF m 27 #[.val (.ref a), .val (.ref b), .val (.int (Int32.ofNat o)), .val (.int (Int32.ofNat len)), .val .null, .unset] [])) := (c2.trans (st3 _ (Steps.refl _))).trans (by
    refine XS.iloadN X3.here hexec rfl (hb hbytes d4) rfl ?_
    refine XS.ifYes X3.here hexec rfl (pc0 := 5) rfl (hb hbytes d5) rfl (i0_ne_t (nz32 (by omega) l0)) (by decide) rfl ?_
    exact Steps.refl _)
  obtain ⟨T5, X5, q5, st5⟩ := X3.sget hexec hown (wk W (.fieldLink "java/lang/String" 38 "java/lang/String" "COMPACT_STRINGS" "Z")) s1 (fun _ _ h => by rw [hh3]; exact h) (g := (mkF m 27 #[.val (.ref a), .val (.ref b), .val (.int (Int32.ofNat o)), .val (.int (Int32.ofNat len)), .val .null, .unset] [])) rfl (hb hbytes d27)
  have hh5 := q5.trans hh3
  have c6 : Steps p.tables e below (s₁.setTop (entryFrame m #[.ref a, .ref b, .int (Int32.ofNat o), .int (Int32.ofNat len), .null] 6)) (T5.setTop (mkF m 30 #[.val (.ref a), .val (.ref b), .val (.int (Int32.ofNat o)), .val (.int (Int32.ofNat len)), .val .null, .unset] [.int z])) := c4.trans (st5 _ (Steps.refl _))
  have c7 : Steps p.tables e below (s₁.setTop (entryFrame m #[.ref a, .ref b, .int (Int32.ofNat o), .int (Int32.ofNat len), .null] 6)) (T5.setTop (mkF m 36 #[.val (.ref a), .val (.ref b), .val (.int (Int32.ofNat o)), .val (.int (Int32.ofNat len)), .val .null, .unset] [.int (Int32.ofNat len), .int (Int32.ofNat o), .ref b])) := c6.trans (by
    refine XS.ifNo X5.here hexec rfl (hb hbytes d30) rfl (i0_eq_f hz) ?_
    refine XS.aloadN X5.here hexec rfl (hb hbytes d33) rfl rfl ?_
    refine XS.iloadN X5.here hexec rfl (hb hbytes d34) rfl ?_
    refine XS.iloadN X5.here hexec rfl (hb hbytes d35) rfl ?_
    exact Steps.refl _)
  obtain ⟨v8, T8, X8, E8, g8⟩ := X5.callS hexec (Cmp3.law l b A o len) hown (wks W (staticW "java/lang/String" 177 Cmp3.yN)) (wk W Cmp3.tab) (W := 0) (Nat.le_of_ble_eq_true rfl) (Nat.le_of_ble_eq_true rfl) (Nat.le_refl _) (by show 0 + len ≤ len; omega) (g := (mkF m 36 #[.val (.ref a), .val (.ref b), .val (.int (Int32.ofNat o)), .val (.int (Int32.ofNat len)), .val .null, .unset] [.int (Int32.ofNat len), .int (Int32.ofNat o), .ref b])) rfl (by rw [hml]; rfl) c7 (argsL := [.ref b, .int (Int32.ofNat o), .int (Int32.ofNat len)]) (rest := []) rfl rfl (by show 2 * 0 + 0 ≤ _; decide) (hb hbytes d36) (⟨rfl, hA.mv X5.warmed.alike hh5, l1, l2, hp⟩)
  obtain ⟨e8, z8⟩ := E8
  obtain ⟨rfl, N, n1, n2, n3, n4, n5, n6⟩ := NewArr.mv _ T5 s _ _ hh5.symm (Vm.Alike.refl _) rfl e8
  rw [hh5] at z8
  have hB1 := hB.keep X8.warmed.alike (n6 _ _ hB.1)
  have hne : s.heap.size ≠ a := (Nat.ne_of_lt (Array.getElem?_eq_some_iff.mp hB.1).1).symm
  have c9 : Steps p.tables e below (s₁.setTop (entryFrame m #[.ref a, .ref b, .int (Int32.ofNat o), .int (Int32.ofNat len), .null] 6)) (T8.setTop (mkF m 39 #[.val (.ref a), .val (.ref b), .val (.int (Int32.ofNat o)), .val (.int (Int32.ofNat len)), .val .null, .unset] [.ref s.heap.size])) := g8
  have c10 : Steps p.tables e below (s₁.setTop (entryFrame m #[.ref a, .ref b, .int (Int32.ofNat o), .int (Int32.ofNat len), .null] 6)) (T8.setTop (mkF m 45 #[.val (.ref a), .val (.ref b), .val (.int (Int32.ofNat o)), .val (.int (Int32.ofNat len)), .val .null, .val (.ref s.heap.size)] [.int (Int32.ofNat N.slots.size), .ref s.heap.size, .ref a])) := by
    have hc : Steps p.tables e below (s₁.setTop (entryFrame m #[.ref a, .ref b, .int (Int32.ofNat o), .int (Int32.ofNat len), .null] 6)) (T8.setTop (mkF m 45 #[.val (.ref a), .val (.ref b), .val (.int (Int32.ofNat o)), .val (.int (Int32.ofNat len)), .val .null, .val (.ref s.heap.size)] [.int (Int32.ofNat len), .ref s.heap.size, .ref a])) := c9.trans (by
      refine XS.astore X8.here hexec rfl (hb hbytes d39) rfl rfl rfl ?_
      refine XS.aloadN X8.here hexec rfl (hb hbytes d41) rfl rfl ?_
      refine XS.aload X8.here hexec rfl (hb hbytes d42) rfl rfl ?_
      refine XS.iloadN X8.here hexec rfl (hb hbytes d44) rfl ?_
      exact Steps.refl _)
    rw [n4]; exact hc
  obtain ⟨v11, T11, X11, E11, g11⟩ := X8.callS hexec (CodL.law l s.heap.size N) hown (wks W (staticW "java/lang/String" 47 CodL.yN)) (wk W CodL.tab) (W := 1) (Nat.le_of_ble_eq_true rfl) (Nat.le_of_ble_eq_true rfl) (Nat.le_refl _) (by show 0 + len + 0 ≤ len; omega) (g := (mkF m 45 #[.val (.ref a), .val (.ref b), .val (.int (Int32.ofNat o)), .val (.int (Int32.ofNat len)), .val .null, .val (.ref s.heap.size)] [.int (Int32.ofNat N.slots.size), .ref s.heap.size, .ref a])) rfl (by rw [hml]; rfl) c10 (argsL := [.ref s.heap.size, .int (Int32.ofNat N.slots.size)]) (rest := [.ref a]) rfl rfl (by show 2 * 0 + (1 + 0) ≤ _; decide) (hb hbytes d45) (⟨rfl, n1⟩)
  obtain ⟨rfl, q11⟩ := E11
  have hB11 := hB1.mv (X8.warmed.alike.symm.trans X11.warmed.alike) q11
  have c12 : Steps p.tables e below (s₁.setTop (entryFrame m #[.ref a, .ref b, .int (Int32.ofNat o), .int (Int32.ofNat len), .null] 6)) (T11.setTop (mkF m 48 #[.val (.ref a), .val (.ref b), .val (.int (Int32.ofNat o)), .val (.int (Int32.ofNat len)), .val .null, .val (.ref s.heap.size)] [.int 0, .ref a])) := g11
  obtain ⟨T13, X13, p13, bl13, sl13, st13⟩ := X11.finit hexec hown (wk W (.fieldLink "java/lang/String" 15 "java/lang/String" "coder" "B")) (Or.inr ⟨_, (wk W (.laysFinal "java/lang/String" "java/lang/String" "coder" "B"))⟩) (Or.inl ⟨rfl, hnm⟩) f2 (Or.inl rfl) hB11 (t := .byte) (by decide +kernel) rfl (g := (mkF m 48 #[.val (.ref a), .val (.ref b), .val (.int (Int32.ofNat o)), .val (.int (Int32.ofNat len)), .val .null, .val (.ref s.heap.size)] [.int 0, .ref a])) rfl (rest := []) rfl (hb hbytes d48)
  have c14 : Steps p.tables e below (s₁.setTop (entryFrame m #[.ref a, .ref b, .int (Int32.ofNat o), .int (Int32.ofNat len), .null] 6)) (T13.setTop (mkF m 54 #[.val (.ref a), .val (.ref b), .val (.int (Int32.ofNat o)), .val (.int (Int32.ofNat len)), .val .null, .val (.ref s.heap.size)] [.ref s.heap.size, .ref a])) := (c12.trans (st13 _ (Steps.refl _))).trans (by
    refine XS.aloadN X13.here hexec rfl (hb hbytes d51) rfl rfl ?_
    refine XS.aload X13.here hexec rfl (hb hbytes d52) rfl rfl ?_
    exact Steps.refl _)
  obtain ⟨T15, X15, p15, bl15, sl15, st15⟩ := X13.finit hexec hown (wk W (.fieldLink "java/lang/String" 9 "java/lang/String" "value" "[B")) (Or.inr ⟨_, (wk W (.laysFinal "java/lang/String" "java/lang/String" "value" "[B"))⟩) (Or.inl ⟨rfl, hnm⟩) f1 (Or.inl rfl) bl13 (t := (.array .byte)) (by decide +kernel) rfl (g := (mkF m 54 #[.val (.ref a), .val (.ref b), .val (.int (Int32.ofNat o)), .val (.int (Int32.ofNat len)), .val .null, .val (.ref s.heap.size)] [.ref s.heap.size, .ref a])) rfl (rest := []) rfl (hb hbytes d54)
  have c16 : Steps p.tables e below (s₁.setTop (entryFrame m #[.ref a, .ref b, .int (Int32.ofNat o), .int (Int32.ofNat len), .null] 6)) (T15.setTop (mkF m 57 #[.val (.ref a), .val (.ref b), .val (.int (Int32.ofNat o)), .val (.int (Int32.ofNat len)), .val .null, .val (.ref s.heap.size)] [])) := c14.trans (st15 _ (Steps.refl _))
  have ap := apart (Or.inr ⟨_, (wk W (.laysFinal "java/lang/String" "java/lang/String" "value" "[B"))⟩) (Or.inr ⟨_, (wk W (.laysFinal "java/lang/String" "java/lang/String" "coder" "B"))⟩) f1 f2 (t₁ := .array .byte) (t₂ := .byte) (by decide +kernel) (by decide +kernel) (by decide)
  have al := X8.warmed.alike.symm.trans X15.warmed.alike
  have n7 : T11.heap[s.heap.size]? = some N := by rw [q11]; exact n1.1
  exact ⟨T15, none, _, _, _, X15, by simp, rfl, by omega, (fun _ => rfl), ⟨rfl, _, N, bl15, ((Same.refl D _).set _ (by simp)).set _ (by simp), sl15, (Cell.slots_setSlot_ne _ ap).trans sl13, n1.keep al (p15.other hne (p13.other hne n7)), n2, by rw [al.findClass]; exact n3, n4, n5, fun y c h1 h2 => p15.other h1 (p13.other h1 (by rw [q11]; exact n6 y c h2)), by rw [p15.2.2, p13.2.2, q11]; exact z8⟩, fun fs hl => c16.trans (X15.returnOut hexec hret (hb hbytes d57) hl)⟩
end New4
namespace New1
def yN : MethodName := ⟨"java/lang/String", "<init>", "([C)V"⟩
abbrev yB : ByteArray := jdk_42_method_3_code
theorem d0 : decode yB 0 = .ok (.aload_n 0, 1) := by decide +kernel
theorem d1 : decode yB 1 = .ok (.aload_n 1, 1) := by decide +kernel
theorem d2 : decode yB 2 = .ok (.iconst 0, 1) := by decide +kernel
theorem d3 : decode yB 3 = .ok (.aload_n 1, 1) := by decide +kernel
theorem d4 : decode yB 4 = .ok (.arraylength, 1) := by decide +kernel
theorem d5 : decode yB 5 = .ok (.aconst_null, 1) := by decide +kernel
theorem d6 : decode yB 6 = .ok (.invokespecial 27, 3) := by decide +kernel
theorem d9 : decode yB 9 = .ok (.return_, 1) := by decide +kernel
def site : List Cond := [New4.tab] ++ initW "java/lang/String" 27 New4.yN
def tab : Cond := tabOf yN yB 2 none site
def P (a : Addr) (D : Cell) (fV fC : Field) (b : Addr) (A : Cell) (z : Int32) (args : Array Value) (s : State) : Prop := args = #[.ref a, .ref b] ∧ Blank "java/lang/String" a D s ∧ Found "java/lang/String" "value" "[B" fV s ∧ Found "java/lang/String" "coder" "B" fC s ∧ Ch b A s ∧ StaticIs s "java/lang/String" "COMPACT_STRINGS" "Z" (.int z) ∧ ¬ z = 0 ∧ 0 < A.slots.size ∧ A.slots.size ≤ 536870912 ∧ ∀ i, i < A.slots.size → ¬ 255 < cv A i
def E (a : Addr) (D : Cell) (fV fC : Field) (A : Cell) (r : Option Value) (s u : State) : Prop := Got a D fV fC A 0 A.slots.size r s u
/-- new String(chars), not empty, no char above 255: a Latin-1 String of their low bytes -/
theorem law (l : Launch) (a : Addr) (D : Cell) (fV fC : Field) (b : Addr) (A : Cell) (z : Int32) : Law l yN 2 1 3 52 yB 2 none site (P a D fV fC b A z) (E a D fV fC A) [⟨a, fC.slot⟩, ⟨a, fV.slot⟩] 1 A.slots.size := by
  refine Law.of_walk (plainFor_of_name (by decide +kernel)) (by decide +kernel) (by decide +kernel) (by decide) (fun _ _ h => by rw [h.1]; rfl) (fun _ U U' hal hh h => ⟨h.1, h.2.1.mv hal hh, h.2.2.1.al hal, h.2.2.2.1.al hal, h.2.2.2.2.1.mv hal hh, h.2.2.2.2.2.1.there hal hh, h.2.2.2.2.2.2⟩) (fun r U U' V V' h1 hal h2 h => Got.mv r U U' V V' h1 hal h2 h) ?_
  intro p e s m args below meth c s₁ X0 hexec hbytes hml hret hlk hnm hown hh0 W hP
  obtain ⟨rfl, hB, f1, f2, hA, s1, hz, l0, l2, hp⟩ := hP
  have c1 : Steps p.tables e below (s₁.setTop (entryFrame m #[.ref a, .ref b] 2)) (s₁.setTop (mkF m 0 #[.val (.ref a), .val (.ref b)] [])) := entry rfl
  have c2 : Steps p.tables e below (s₁.setTop (entryFrame m #[.ref a, .ref b] 2)) (s₁.setTop (mkF m 6 #[.val (.ref a), .val (.ref b)] [.null, .int (Int32.ofNat A.slots.size), .int 0, .ref b, .ref a])) := c1.trans (by
    refine XS.aloadN X0.here hexec rfl (hb hbytes d0) rfl rfl ?_
    refine XS.aloadN X0.here hexec rfl (hb hbytes d1) rfl rfl ?_
    refine iconstV X0.here hexec rfl 0 (hb hbytes d2) (by decide) ?_
    refine XS.aloadN X0.here hexec rfl (hb hbytes d3) rfl rfl ?_
    refine X0.alen hexec (hA.1.mv X0.warmed.alike hh0) rfl rfl (hb hbytes d4) ?_
    refine XS.aconstNull X0.here hexec rfl (hb hbytes d5) ?_
    exact Steps.refl _)
  obtain ⟨v3, T3, X3, E3, g3⟩ := X0.callN hexec (New4.law l a D fV fC b A z 0 A.slots.size) rfl hown (wks W (initW "java/lang/String" 27 New4.yN)) (W New4.tab (by simp only [site, List.mem_cons, List.mem_append, true_or, or_true])) (W := 0) (Nat.le_of_ble_eq_true rfl) (Nat.le_of_ble_eq_true rfl) (Nat.le_refl _) (by show 0 + A.slots.size ≤ A.slots.size; omega) (g := (mkF m 6 #[.val (.ref a), .val (.ref b)] [.null, .int (Int32.ofNat A.slots.size), .int (Int32.ofNat 0), .ref b, .ref a])) rfl (by rw [hml]; rfl) c2 (argsL := [.ref b, .int (Int32.ofNat 0), .int (Int32.ofNat A.slots.size), .null]) (rest := []) rfl rfl (by show 2 * 0 + 0 ≤ _; decide) (hb hbytes d6) (⟨rfl, hB.mv X0.warmed.alike hh0, f1.al X0.warmed.alike, f2.al X0.warmed.alike, hA.mv X0.warmed.alike hh0, s1.there X0.warmed.alike hh0, hz, l0, by omega, l2, fun i hi => by rw [Nat.zero_add]; exact hp i hi⟩)
  have e0 := Got.mv _ s₁ s _ _ hh0.symm (Vm.Alike.refl _) rfl E3
  obtain rfl := e0.1
  have c4 : Steps p.tables e below (s₁.setTop (entryFrame m #[.ref a, .ref b] 2)) (T3.setTop (mkF m 9 #[.val (.ref a), .val (.ref b)] [])) := g3
  exact ⟨T3, none, _, _, _, X3, by simp, rfl, by omega, (fun _ => rfl), e0, fun fs hl => c4.trans (X3.returnOut hexec hret (hb hbytes d9) hl)⟩
theorem pays {l : Launch} {R : Room} {p : Program} {e : Env} {below : List Frame} {s : State} {sargs : Array Value} {len W : Nat} (a : Addr) (D : Cell) (fV fC : Field) (b : Addr) (A : Cell) (z : Int32) (htab : tab.before sargs s = true) (hfr : 4 ≤ R.frames) (hlo : W + 65 ≤ R.locals) :
    Back l R p e below s sargs yN len W (fun A₁ a₁ => A₁.cells + 1 ≤ R.cells ∧ A₁.slots + A.slots.size ≤ R.slots ∧ P a D fV fC b A z a₁ A₁.U) (fun A₁ _ v₁ B₁ => E a D fV fC A v₁ A₁.U B₁.U ∧ B₁.locs = A₁.locs ++ [⟨a, fC.slot⟩, ⟨a, fV.slot⟩] ∧ B₁.cells = A₁.cells + 1 ∧ B₁.slots = A₁.slots + A.slots.size) :=
  (law l a D fV fC b A z).pays htab hfr (by omega)
end New1
/-- the byte, read back as charAt reads it, is the char -/
theorem lo8_mask {x : Int32} (h0 : ¬ x < 0) (h1 : ¬ 255 < x) : lo8 x &&& 255 = x := by
  have t : ∀ k : Fin 256, lo8 (Int32.ofNat k.val) &&& 255 = Int32.ofNat k.val := by decide +kernel
  rw [Int32.lt_iff_toInt_lt] at h0 h1
  have e0 : (0 : Int32).toInt = 0 := rfl
  have e1 : (255 : Int32).toInt = 255 := rfl
  obtain ⟨k, hk⟩ : ∃ k : Nat, x.toInt = k := ⟨x.toInt.toNat, by omega⟩
  have hx : x = Int32.ofNat k := Int32.toInt_inj.mp (by rw [hk, Int32.toInt_ofNat_small (by omega)])
  rw [hx]
  exact t ⟨k, by omega⟩
end StrChars
namespace StrChars.Road
open Jvm Sem ClassFile Op Lib Jvm.Stand Jvm.Free Jvm.Free.XT
open Jvm.Lib.Cold (StaticIs)
abbrev ST : String := "java/lang/String"
/-- every table word that New1's law asks, flat -/
abbrev words : List Jvm.Cond := [.code New1.yN New1.yB 2 none, .initialized ST, .methodLink ST 27 New4.yN, .instanceMethod New4.yN,
  .code New4.yN New4.yB 6 none, .fieldLink ST 38 ST "COMPACT_STRINGS" "Z", .laysFinal ST ST "value" "[B", .fieldLink ST 9 ST "value" "[B", .laysFinal ST ST "coder" "B", .fieldLink ST 15 ST "coder" "B",
  .methodLink ST 1 Lib.objectInit, .instanceMethod Lib.objectInit, .code Lib.objectInit ⟨#[0xb1]⟩ 1 none, .methodLink ST 177 Cmp3.yN, .static Cmp3.yN, .methodLink ST 47 CodL.yN, .static CodL.yN,
  .code Cmp3.yN Cmp3.yB 6 (some (.array .byte)), .initialized U16, .arrayClass .byte, .methodLink U16 115 Cmp5.yN, .static Cmp5.yN, .code Cmp5.yN Cmp5.yB 7 (some .int), .code CodL.yN CodL.yB 2 (some .byte)]
theorem tab_of {a : Array Value} {s : State} (h : ∀ w ∈ words, w.before a s = true) : New1.tab.before a s = true := by
  have h5 : Cmp5.tab.before a s = true := unparts (wk h (.code Cmp5.yN Cmp5.yB 7 (some .int))) (wks h (.initialized Cmp5.yN.cls :: Cmp5.site))
  have hc : CodL.tab.before a s = true := unparts (wk h (.code CodL.yN CodL.yB 2 (some .byte))) (wks h (.initialized CodL.yN.cls :: CodL.site))
  have q5 : ∀ w ∈ Cmp5.tab :: words, w.before a s = true := fun w hw => (List.mem_cons.mp hw).elim (fun e => e ▸ h5) (h w)
  have h3 : Cmp3.tab.before a s = true := unparts (wk q5 (.code Cmp3.yN Cmp3.yB 6 (some (.array .byte)))) (wks q5 (.initialized Cmp3.yN.cls :: Cmp3.site))
  have q3 : ∀ w ∈ Cmp3.tab :: CodL.tab :: words, w.before a s = true := fun w hw => (List.mem_cons.mp hw).elim (fun e => e ▸ h3) fun hw => (List.mem_cons.mp hw).elim (fun e => e ▸ hc) (h w)
  have h4 : New4.tab.before a s = true := unparts (wk q3 (.code New4.yN New4.yB 6 none)) (wks q3 (.initialized New4.yN.cls :: New4.site))
  have q4 : ∀ w ∈ New4.tab :: words, w.before a s = true := fun w hw => (List.mem_cons.mp hw).elim (fun e => e ▸ h4) (h w)
  exact unparts (wk q4 (.code New1.yN New1.yB 2 none)) (wks q4 (.initialized New1.yN.cls :: New1.site))
/-- the words ride from the start Z to the walk's own state -/
theorem moved {Z s : State} {a0 args : Array Value} (hZ : Z.Warmed39 s.vm) (hw : ∀ d ∈ words, d.before a0 Z = true) : ∀ d ∈ words, d.before args s = true := fun d hd => by
  have q := hw d hd
  have t : ∀ d ∈ words, d = .arrayClass .byte ∨ (d.onTables && d.keepsFace) = true := by decide +kernel
  rcases t d hd with rfl | t
  · exact RoadKit.mvA hZ q
  · exact RoadKit.mv hZ q t
/-- WHAT COMES BACK, over the tables of the start Z: h the heap at the call, h' behind it -/
def Q (Z : State) (x : Addr) (A : Cell) (h : Heap) (v : Option Value) (h' : Heap) (L : List Loc) : Prop := v = none ∧ (∀ y ∈ L, y.base = x) ∧ RoadKit.Keep h h' [x] ∧ h'.size = h.size + 1 ∧ RoadKit.Exa Z h' x ST ∧ RoadKit.Fld Z h' x ST "value" "[B" (.ref h.size) ∧ RoadKit.Fld Z h' x ST "coder" "B" (.int 0) ∧
  (∃ V : Cell, RoadKit.Arr Z h' h.size V .byte ∧ V.vm = .none ∧ Z.vm.findClass "[B" = some V.cls ∧ V.slots.size = A.slots.size ∧ ∀ j, j < A.slots.size → V.slots[j]? = some (.int (lo8 (cv A j)))) ∧
  ∀ (O n d : String) (w : Value), RoadKit.Fld Z h x O n d w → RoadKit.slotOf Z O n d ≠ RoadKit.slotOf Z ST "value" "[B" → RoadKit.slotOf Z O n d ≠ RoadKit.slotOf Z ST "coder" "B" → RoadKit.Fld Z h' x O n d w
/-- **new String(chars) AT A CALL, IN THE ROAD'S FORM**: for specialBack behind newO: x the fresh String, b the char[] with the cell A -/
theorem back {p : Program} {l : Launch} {e : Env} {R : Room} {s : State} {args : Array Value} {below : List Frame} {len W : Nat} {Z : State} {a0 : Array Value} {h : Heap} (hZ : Z.Warmed39 s.vm) (hw : ∀ d ∈ words, d.before a0 Z = true) {kI : Nat} (wi : (Jvm.Cond.instantiable ST kI).before a0 Z = true)
    {x b : Addr} {A : Cell} {z : Int32} {v0 c0 : Value} (E : RoadKit.Exa Z h x ST) (V : RoadKit.Fld Z h x ST "value" "[B" v0) (C : RoadKit.Fld Z h x ST "coder" "B" c0) (K : RoadKit.Arr Z h b A .char) (hty : Typed .char A) (S : RoadKit.Sta Z h ST "COMPACT_STRINGS" "Z" (.int z)) (hz : ¬ z = 0)
    (l0 : 0 < A.slots.size) (l2 : A.slots.size ≤ 536870912) (hp : ∀ i, i < A.slots.size → ¬ 255 < cv A i) (hfr : 4 ≤ R.frames) (hlo : W + 65 ≤ R.locals) :
    Back l R p e below s args New1.yN len W (fun P a => a = #[.ref x, .ref b] ∧ P.U.heap = h ∧ P.cells + 1 ≤ R.cells ∧ P.slots + A.slots.size ≤ R.slots)
      (fun P _ v B => ∃ L, Q Z x A h v B.U.heap L ∧ B.locs = P.locs ++ L ∧ B.cells = P.cells + 1 ∧ B.slots = P.slots + A.slots.size) := by
  intro m meth c P g ig mk a X hg hsize hdg hW hn hp'
  obtain ⟨rfl, rfl, r1, r2⟩ := hp'
  have al : Z.vm.Alike P.U.vm := hZ.alike.trans X.warmed.alike
  obtain ⟨D, cfV, kV, iV, fV, hD, gV, stV, knV, obV, asV, slV⟩ := id V
  obtain ⟨D', cfC, kC, iC, fC, hD', gC, stC, -, -, asC, slC⟩ := id C
  cases hD.symm.trans hD'
  obtain ⟨D2, kD, e1, e2, e3, e4, e5⟩ := id E
  cases hD.symm.trans e1
  obtain ⟨c2, k2, i1, i2, i3, -⟩ := Cond.instantiable_spec wi
  cases e2.symm.trans i1
  cases e3.symm.trans i2
  obtain ⟨kU, u1, u2⟩ := al.2.2 _ _ e3
  have hB : Blank ST x D P.U := ⟨hD, ⟨knV, fun q hq => by rw [hq] at obV; cases obV⟩, by rw [al.findClass]; exact e2, kU, u1, by rw [u2]; exact i3, by rw [u2]; exact e5 i3⟩
  have F1 : Found ST "value" "[B" fV P.U := ⟨SBG.found_only al ⟨cfV, kV, iV, gV⟩, stV⟩
  have F2 : Found ST "coder" "B" fC P.U := ⟨SBG.found_only al ⟨cfC, kC, iC, gC⟩, stC⟩
  have hA : Ch b A P.U := ⟨⟨K.1, State.isArrayOf_alike al K.2.1, K.2.2, by omega⟩, hty⟩
  have hS : StaticIs P.U ST "COMPACT_STRINGS" "Z" (.int z) := by
    obtain ⟨cfS, iS, kS, fS, st, cS, t1, t2, t3, t4, t5, t6, t7⟩ := S
    exact StaticIs.there (s := { Z with heap := P.U.heap }) ⟨cfS, iS, kS, fS, st, cS, t1, t2, t3, t4, t5, (fun q => by rw [q] at t6; cases t6), t7⟩ al rfl
  obtain ⟨v, B, X', ⟨⟨hv, E', V', q1, q2, q3, q4, q5, q6, q7, q8, q9, q10, q11⟩, hl, hc, hs⟩, st⟩ := New1.pays x D fV fC b A z (tab_of (moved hZ hw)) hfr hlo m meth c P g ig mk _ X hg hsize hdg hW hn ⟨r1, r2, rfl, hB, F1, F2, hA, hS, hz, l0, l2, hp⟩
  have al' : Z.vm.Alike B.U.vm := hZ.alike.trans X'.warmed.alike
  have hsz : E'.slots.size = D.slots.size := by
    obtain ⟨-, -, -, kB, w1, w2, w3⟩ := q1
    obtain ⟨kB', y1, y2⟩ := al'.2.2 _ _ e3
    rw [q2.2.1] at w1
    cases w1.symm.trans y1
    rw [w3, e5 i3, y2]
  refine ⟨v, B, X', ⟨_, ⟨hv, ?_, ⟨by omega, fun y cy hy hn' => q10 y cy (by simpa using hn') hy, fun y cy hy => ?_⟩, q11, ⟨E', _, q1.1, by rw [q2.2.1]; exact e2, by rw [q2.2.1]; exact e3, by rw [q2.1]; exact obV, fun _ => by rw [hsz]; exact e5 i3⟩,
    ⟨E', cfV, kV, iV, fV, q1.1, gV, stV, by rw [q2.1]; exact knV, by rw [q2.1]; exact obV, by rw [q2.2.1]; exact asV, q3⟩, ⟨E', cfC, kC, iC, fC, q1.1, gC, stC, by rw [q2.1]; exact knV, by rw [q2.1]; exact obV, by rw [q2.2.1]; exact asC, q4⟩,
    ⟨V', ⟨q5.1, State.isArrayOf_alike al'.symm q5.2.1, q5.2.2.1⟩, q6, by rw [← al'.findClass]; exact q7, q8, fun j hj => by have := q9 j hj; rwa [Nat.zero_add] at this⟩, fun O n d w F n1 n2 => ?_⟩, hl, hc, hs⟩, st⟩
  · intro y hy
    simp only [List.mem_cons, List.not_mem_nil, or_false] at hy
    rcases hy with rfl | rfl <;> rfl
  · by_cases q : y = x
    · subst q
      cases hD.symm.trans hy
      exact ⟨E', q1.1, q2.2.1, q2.1, hsz⟩
    · exact ⟨cy, q10 y cy q hy, rfl, rfl, rfl⟩
  · obtain ⟨D3, cf, k, i, f, g1, g2, g3, g4, g5, g6, g7⟩ := F
    cases hD.symm.trans g1
    simp only [RoadKit.slotOf, g2, gV, gC, Option.map_some, Option.getD_some] at n1 n2
    exact ⟨E', cf, k, i, f, q1.1, g2, g3, by rw [q2.1]; exact g4, by rw [q2.1]; exact g5, by rw [q2.2.1]; exact g6, by rw [q2.2.2 f.slot (by simp [n1, n2])]; exact g7⟩
end StrChars.Road
namespace StrChars.Road
open Jvm Sem ClassFile Op Lib Jvm.Stand Jvm.Free Jvm.Free.XT
/-- WHAT COMES BACK, the byte[] as a list of values -/
def QA (Z : State) (x : Addr) (zn : Int32) (cs : List Int32) (h : Heap) (v : Option Value) (h' : Heap) (L : List Loc) : Prop := v = none ∧ (∀ y ∈ L, y.base = x) ∧ RoadKit.Keep h h' [x] ∧ h'.size = h.size + 1 ∧ RoadKit.Exa Z h' x ST ∧ RoadKit.Fld Z h' x ST "value" "[B" (.ref h.size) ∧ RoadKit.Fld Z h' x ST "coder" "B" (.int 0) ∧
  (∃ kb, Z.vm.findClass "[B" = some kb ∧ RoadKit.Arv Z h' h.size kb .byte zn (cs.map fun c => .int (lo8 c)) (.int 0)) ∧
  ∀ (O n d : String) (w : Value), RoadKit.Fld Z h x O n d w → RoadKit.slotOf Z O n d ≠ RoadKit.slotOf Z ST "value" "[B" → RoadKit.slotOf Z O n d ≠ RoadKit.slotOf Z ST "coder" "B" → RoadKit.Fld Z h' x O n d w
/-- **new String(chars) AT A CALL, THE ARRAYS AS LISTS**: the char[] at b holds cs, not empty, no char above 255 -/
theorem backArv {p : Program} {l : Launch} {e : Env} {R : Room} {s : State} {args : Array Value} {below : List Frame} {len W : Nat} {Z : State} {a0 : Array Value} {h : Heap} (hZ : Z.Warmed39 s.vm) (hw : ∀ d ∈ words, d.before a0 Z = true) {kI : Nat} (wi : (Jvm.Cond.instantiable ST kI).before a0 Z = true)
    {x b : Addr} {k : ClassId} {zn z : Int32} {cs : List Int32} {dv v0 c0 : Value} (E : RoadKit.Exa Z h x ST) (V : RoadKit.Fld Z h x ST "value" "[B" v0) (C : RoadKit.Fld Z h x ST "coder" "B" c0) (K : RoadKit.Arv Z h b k .char zn (cs.map Value.int) dv) (S : RoadKit.Sta Z h ST "COMPACT_STRINGS" "Z" (.int z)) (hz : ¬ z = 0)
    (hlen : zn.toNatClampNeg = cs.length) (h0 : 0 < cs.length) (hbig : cs.length ≤ 536870912) (hall : ∀ c ∈ cs, ¬ 255 < c) (hfr : 4 ≤ R.frames) (hlo : W + 65 ≤ R.locals) :
    Back l R p e below s args New1.yN len W (fun P a => a = #[.ref x, .ref b] ∧ P.U.heap = h ∧ P.cells + 1 ≤ R.cells ∧ P.slots + cs.length ≤ R.slots)
      (fun P _ v B => ∃ L, QA Z x zn cs h v B.U.heap L ∧ B.locs = P.locs ++ L ∧ B.cells = P.cells + 1 ∧ B.slots = P.slots + cs.length) := by
  obtain ⟨A, K1, K2, K3, K4, K5, K6⟩ := K
  have e : A.slots.size = cs.length := K3.trans hlen
  have hat : ∀ (i : Nat) (hi : i < cs.length), A.slots[i]? = some (.int cs[i]) := fun i hi => by rw [K5 i (by omega)]; simp [List.getD_eq_getElem?_getD, hi]
  have hcv : ∀ (i : Nat) (hi : i < cs.length), cv A i = cs[i] := fun i hi => by unfold cv; rw [hat i hi]
  have hty : Typed .char A := fun i v hv => by
    have hi : i < A.slots.size := (Array.getElem?_eq_some_iff.mp hv).1
    have q := K5 i hi
    rw [hv] at q
    rw [Option.some.inj q]
    exact K6 i hi
  refine Back.mono (back hZ hw wi E V C K1 hty S hz (by omega) (by omega) (fun i hi => by rw [hcv i (by omega)]; exact hall _ (List.getElem_mem _)) hfr hlo) (fun P a hp => ⟨hp.1, hp.2.1, hp.2.2.1, by rw [e]; exact hp.2.2.2⟩) (fun P a v B hp hq => ?_)
  obtain ⟨L, ⟨q1, q2, q3, q4, q5, q6, q7, ⟨V', v1, v2, v3, v4, v5⟩, q9⟩, hl, hc, hs⟩ := hq
  refine ⟨L, ⟨q1, q2, q3, q4, q5, q6, q7, ⟨V'.cls, v3, V', v1, rfl, by rw [v4, e, hlen], K4, fun i hi => ?_, fun i hi => ?_⟩, q9⟩, hl, hc, by rw [hs, e]⟩
  · have hi' : i < cs.length := by omega
    rw [v5 i (by omega), hcv i hi']; simp [List.getD_eq_getElem?_getD, hi']
  · have hi' : i < cs.length := by omega
    simp only [List.getD_eq_getElem?_getD, List.getElem?_map, List.getElem?_eq_getElem hi', Option.map_some, Option.getD_some]
    exact fits_lo8 _
end StrChars.Road
namespace StrChars.Road
open Jvm Sem ClassFile Op Lib Jvm.Stand Jvm.Free Jvm.Free.XT
/-- WHAT COMES BACK, in the writer's own shape -/
def QV (Z : State) (x : Addr) (N : Int32) (bs : List Int32) (h : Heap) (n0 : Nat) (v : Option Value) (h' : Heap) (L : List Loc) : Prop := v = none ∧ RoadKit.Fr n0 L ∧ RoadKit.Keep h h' [x] ∧ RoadKit.Exa Z h' x ST ∧ RoadKit.Fld Z h' x ST "coder" "B" (.int 0) ∧
  ∃ (t : Addr) (kb : ClassId), n0 ≤ t ∧ h.size ≤ t ∧ ¬ t = x ∧ RoadKit.Fld Z h' x ST "value" "[B" (.ref t) ∧ RoadKit.Arv Z h' t kb .byte N (bs.map Value.int) (.int 0)
/-- **new String(chars) AT A CALL, FOR THE WRITER**: a char[] of n known ints, each 0 to 255 -/
theorem backV {p : Program} {l : Launch} {e : Env} {R : Room} {s : State} {args : Array Value} {below : List Frame} {len W : Nat} {Z : State} {a0 : Array Value} {h : Heap} (hZ : Z.Warmed39 s.vm) (hw : ∀ d ∈ words, d.before a0 Z = true) {kI : Nat} (wi : (Jvm.Cond.instantiable ST kI).before a0 Z = true)
    {x b : Addr} {kC : ClassId} {cs bs : List Int32} {d v0 c0 : Value} {z N : Int32} {n n0 : Nat} (hx0 : n0 ≤ x) (hh0 : n0 ≤ h.size) (E : RoadKit.Exa Z h x ST) (V : RoadKit.Fld Z h x ST "value" "[B" v0) (C : RoadKit.Fld Z h x ST "coder" "B" c0) (K : RoadKit.Arv Z h b kC .char N (cs.map Value.int) d) (S : RoadKit.Sta Z h ST "COMPACT_STRINGS" "Z" (.int z)) (hz : ¬ z = 0)
    (hn : cs.length = n) (hN : N = Int32.ofNat n) (l0 : 0 < n) (l2 : n ≤ 4000) (hp : ∀ c ∈ cs, ¬ c < 0 ∧ ¬ (255 : Int32) < c) (hb : bs = cs.map (fun c => c.toInt8.toInt32)) (hfr : 4 ≤ R.frames) (hlo : W + 65 ≤ R.locals) :
    Back l R p e below s args (⟨"java/lang/String", "<init>", "([C)V"⟩ : MethodName) len W (fun P a => a = #[.ref x, .ref b] ∧ P.U.heap = h ∧ P.cells + 1 ≤ R.cells ∧ P.slots + n ≤ R.slots)
      (fun P _ v B => ∃ L, QV Z x N bs h n0 v B.U.heap L ∧ B.locs = P.locs ++ L ∧ B.cells = P.cells + 1 ∧ B.slots = P.slots + n) := by
  subst hn hN hb
  refine Back.mono (backArv hZ hw wi E V C K S hz (n32 (by omega)) l0 (by omega) (fun c hc => (hp c hc).2) hfr hlo) (fun P a hp => hp) (fun P a v B hp hq => ?_)
  obtain ⟨L, ⟨q1, q2, q3, q4, q5, q6, q7, ⟨kb, v1, v2⟩, q9⟩, hl, hc, hs⟩ := hq
  exact ⟨L, ⟨q1, fun y hy => by rw [q2 y hy]; exact hx0, q3, q5, q7, h.size, kb, hh0, Nat.le_refl _, Nat.ne_of_gt E.lt, q6, by rw [List.map_map]; exact v2⟩, hl, hc, hs⟩
end StrChars.Road
namespace StrChars
open Jvm Sem ClassFile Op Lib Jvm.Stand Jvm.Free.XT Jvm.Free.ALB Jvm.Free.JM Jvm.Free
open Jvm.Lib.Cold (StaticIs)
def hi8 (x : Int32) : Int32 := lo8 (x >>> ((8 : Int32) &&& 31))
/-- what StringUTF16.getChar makes of two bytes -/
def pairCh (u v : Int32) : Int32 := (((u &&& 255) <<< ((0 : Int32) &&& 31)) ||| ((v &&& 255) <<< ((8 : Int32) &&& 31))).toUInt32.toUInt16.toUInt32.toInt32
theorem shr0 (c : Int32) : c >>> ((0 : Int32) &&& 31) = c := by
  have e : ((0 : Int32) &&& 31) = 0 := by decide
  rw [e]
  apply Int32.toBitVec_inj.mp
  rw [Int32.toBitVec_shiftRight]
  have e1 : ((0 : Int32).toBitVec.smod 32) = 0#32 := by decide
  rw [e1, BitVec.sshiftRight_eq']
  exact BitVec.sshiftRight_zero
theorem lo8_and (x : Int32) : (lo8 x &&& 255).toBitVec.toNat = x.toBitVec.toNat % 256 := by
  have h : (lo8 x).toBitVec = (x.toBitVec.signExtend 8).signExtend 32 := by rw [lo8, Int8.toBitVec_toInt32, Int32.toBitVec_toInt8]
  rw [Int32.toBitVec_and, BitVec.toNat_and, h]
  have e : ((x.toBitVec.signExtend 8).signExtend 32).toNat % 256 = x.toBitVec.toNat % 256 := by
    rw [BitVec.toNat_signExtend]
    have hlt := x.toBitVec.isLt
    simp only [BitVec.toNat_setWidth, BitVec.toNat_signExtend]
    split <;> split <;> omega
  rw [← e]
  exact Nat.and_two_pow_sub_one_eq_mod _ 8
theorem pair_says {c : Int32} (h0 : ¬ c < 0) (h1 : ¬ 65535 < c) : pairCh (lo8 c) (hi8 c) = c := by
  rw [Int32.lt_iff_toInt_lt] at h0 h1
  have e0 : (0 : Int32).toInt = 0 := rfl
  have e1 : (65535 : Int32).toInt = 65535 := rfl
  have hc : c.toInt = c.toBitVec.toNat := by
    have := c.toBitVec.isLt
    have e : c.toInt = c.toBitVec.toInt := rfl
    rw [e] at h0 h1
    rw [e]
    rw [BitVec.toInt_eq_toNat_cond] at h0 h1 ⊢
    split at h0 <;> split <;> omega
  have hn : c.toBitVec.toNat < 65536 := by omega
  have a1 := lo8_and c
  have a2 : (hi8 c &&& 255).toBitVec.toNat = c.toBitVec.toNat / 256 := by
    rw [hi8, lo8_and]
    have e : ((8 : Int32) &&& 31) = 8 := by decide
    rw [e, Int32.toBitVec_shiftRight]
    have e2 : ((8 : Int32).toBitVec.smod 32) = 8#32 := by decide
    rw [e2, BitVec.sshiftRight_eq', BitVec.toNat_sshiftRight_of_msb_false (by rw [BitVec.msb_eq_false_iff_two_mul_lt]; omega)]
    show c.toBitVec.toNat >>> 8 % 256 = _
    rw [Nat.shiftRight_eq_div_pow]
    omega
  unfold pairCh
  apply Int32.toBitVec_inj.mp
  apply BitVec.eq_of_toNat_eq
  have f0 : ((0 : Int32) &&& 31) = 0 := by decide
  have f8 : ((8 : Int32) &&& 31) = 8 := by decide
  rw [f0, f8]
  have g : (((lo8 c &&& 255) <<< (0 : Int32)) ||| ((hi8 c &&& 255) <<< (8 : Int32))).toBitVec.toNat = c.toBitVec.toNat := by
    rw [Int32.toBitVec_or, Int32.toBitVec_shiftLeft, Int32.toBitVec_shiftLeft]
    have s0 : ((0 : Int32).toBitVec.smod 32) = 0#32 := by decide
    have s8 : ((8 : Int32).toBitVec.smod 32) = 8#32 := by decide
    rw [s0, s8, BitVec.toNat_or]
    simp only [BitVec.shiftLeft_eq', BitVec.toNat_shiftLeft, a1, a2]
    show (c.toBitVec.toNat % 256) <<< 0 % 2 ^ 32 ||| (c.toBitVec.toNat / 256) <<< 8 % 2 ^ 32 = _
    rw [Nat.shiftLeft_zero, Nat.mod_eq_of_lt (show c.toBitVec.toNat % 256 < 2 ^ 32 by omega), Nat.mod_eq_of_lt (show (c.toBitVec.toNat / 256) <<< 8 < 2 ^ 32 by rw [Nat.shiftLeft_eq]; omega), Nat.or_comm, ← Nat.shiftLeft_add_eq_or_of_lt (by omega), Nat.shiftLeft_eq]
    omega
  show BitVec.toNat (((((lo8 c &&& 255) <<< (0 : Int32)) ||| ((hi8 c &&& 255) <<< (8 : Int32))).toBitVec.setWidth 16).setWidth 32) = _
  rw [BitVec.toNat_setWidth, BitVec.toNat_setWidth, g]
  omega
end StrChars
namespace StrChars
open Jvm Sem ClassFile Op Lib Jvm.Stand Jvm.Free.XT Jvm.Free.ALB Jvm.Free.JM Jvm.Free
open Jvm.Lib.Cold (StaticIs)
theorem shr1 {n : Nat} (h : 2 * n < 2 ^ 31) : Int32.ofNat (2 * n) >>> ((1 : Int32) &&& 31) = Int32.ofNat n := by
  have e : ((1 : Int32) &&& 31) = 1 := by decide
  rw [e]
  apply Int32.toBitVec_inj.mp
  rw [Int32.toBitVec_shiftRight]
  have e1 : ((1 : Int32).toBitVec.smod 32) = 1#32 := by decide
  have hm : (BitVec.ofNat 32 (2 * n)).toNat = 2 * n := by rw [BitVec.toNat_ofNat, Nat.mod_eq_of_lt (by omega)]
  rw [e1, BitVec.sshiftRight_eq']
  apply BitVec.eq_of_toNat_eq
  show ((BitVec.ofNat 32 (2 * n)).sshiftRight 1).toNat = (BitVec.ofNat 32 n).toNat
  rw [BitVec.toNat_sshiftRight_of_msb_false (by rw [BitVec.msb_eq_false_iff_two_mul_lt, hm]; omega), hm, BitVec.toNat_ofNat, Nat.shiftRight_eq_div_pow]
  omega
/-- charAt's cast of a byte read back -/
def chr8 (u : Int32) : Int32 := (u &&& 255).toUInt32.toUInt16.toUInt32.toInt32
theorem chr8_lo8 {c : Int32} (h0 : ¬ c < 0) (h1 : ¬ 255 < c) : chr8 (lo8 c) = c := by
  have t : ∀ k : Fin 256, (Int32.ofNat k.val).toUInt32.toUInt16.toUInt32.toInt32 = Int32.ofNat k.val := by decide +kernel
  unfold chr8
  rw [lo8_mask h0 h1]
  rw [Int32.lt_iff_toInt_lt] at h0 h1
  have e0 : (0 : Int32).toInt = 0 := rfl
  have e1 : (255 : Int32).toInt = 255 := rfl
  obtain ⟨k, hk⟩ : ∃ k : Nat, c.toInt = k := ⟨c.toInt.toNat, by omega⟩
  have hx : c = Int32.ofNat k := Int32.toInt_inj.mp (by rw [hk, Int32.toInt_ofNat_small (by omega)])
  rw [hx]
  exact t ⟨k, by omega⟩
theorem narrow_ch {c : Int32} (h0 : ¬ c < 0) (h1 : ¬ 65535 < c) : narrow .char (.int c) = .int c := by
  have q : narrow .char (.int (pairCh (lo8 c) (hi8 c))) = .int (pairCh (lo8 c) (hi8 c)) := narrow_c _
  rwa [pair_says h0 h1] at q
/-- the array's cell V codes the n chars f 0 .. f (n - 1) by the coder cd, as the JDK does: coder 1 just where some char is above 255 -/
def Cod (cd : Int32) (n : Nat) (f : Nat → Int32) (V : Cell) : Prop := (cd = 0 ∧ V.slots.size = n ∧ ∀ j, j < n → V.slots[j]? = some (.int (lo8 (f j))) ∧ ¬ 255 < f j) ∨ (cd = 1 ∧ V.slots.size = 2 * n ∧ (∀ j, j < n → V.slots[2 * j]? = some (.int (lo8 (f j))) ∧ V.slots[2 * j + 1]? = some (.int (hi8 (f j)))) ∧ ∃ j, j < n ∧ 255 < f j)
theorem Cod.cd {cd : Int32} {n : Nat} {f : Nat → Int32} {V : Cell} (h : Cod cd n f V) : cd = 0 ∨ cd = 1 := h.imp (fun q => q.1) fun q => q.1
theorem Cod.len {cd : Int32} {n : Nat} {f : Nat → Int32} {V : Cell} (h : Cod cd n f V) (hs : V.slots.size < 2 ^ 31) : Int32.ofNat V.slots.size >>> (cd &&& 31) = Int32.ofNat n := by
  rcases h with ⟨rfl, h, -⟩ | ⟨rfl, h, -⟩
  · rw [shr0, h]
  · rw [h, shr1 (by omega)]
/-- **x is a String of the n chars f 0 .. f (n - 1)**, Latin-1 or UTF-16; its array at t has the cell V -/
def Txt (x t : Addr) (V : Cell) (cd : Int32) (n : Nat) (f : Nat → Int32) (U : State) : Prop := Exact "java/lang/String" x U ∧ Has x "java/lang/String" "value" "[B" (.ref t) U ∧ Has x "java/lang/String" "coder" "B" (.int cd) U ∧ XT.Arr .byte t V U ∧ Cod cd n f V ∧ ∀ j, j < n → ¬ f j < 0 ∧ ¬ 65535 < f j
theorem Txt.mv {x t : Addr} {V : Cell} {cd : Int32} {n : Nat} {f : Nat → Int32} {U U' : State} (h : Txt x t V cd n f U) (hal : U.vm.Alike U'.vm) (hh : U'.heap = U.heap) : Txt x t V cd n f U' := ⟨h.1.mv hal hh, h.2.1.mv hal hh, h.2.2.1.mv hal hh, h.2.2.2.1.mv hal hh, h.2.2.2.2⟩
namespace Cdr
def yN : MethodName := ⟨"java/lang/String", "coder", "()B"⟩
abbrev yB : ByteArray := jdk_42_method_152_code
theorem d0 : decode yB 0 = .ok (.getstatic 38, 3) := by decide +kernel
theorem d3 : decode yB 3 = .ok (.ifCond (.eq) 10, 3) := by decide +kernel
theorem d6 : decode yB 6 = .ok (.aload_n 0, 1) := by decide +kernel
theorem d7 : decode yB 7 = .ok (.getfield 15, 3) := by decide +kernel
theorem d10 : decode yB 10 = .ok (.goto 4, 3) := by decide +kernel
theorem d14 : decode yB 14 = .ok (.ireturn, 1) := by decide +kernel
def site : List Cond := [.fieldLink "java/lang/String" 38 "java/lang/String" "COMPACT_STRINGS" "Z", .fieldLink "java/lang/String" 15 "java/lang/String" "coder" "B"]
def tab : Cond := tabOf yN yB 1 (some .byte) site
def P (x : Addr) (cd z : Int32) (args : Array Value) (s : State) : Prop := args = #[.ref x] ∧ Has x "java/lang/String" "coder" "B" (.int cd) s ∧ (cd = 0 ∨ cd = 1) ∧ StaticIs s "java/lang/String" "COMPACT_STRINGS" "Z" (.int z) ∧ ¬ z = 0
def E (cd : Int32) (r : Option Value) (s u : State) : Prop := XT.PureE (some (.int cd)) r s u
theorem law (l : Launch) (x : Addr) (cd z : Int32) : Law l yN 1 0 0 0 yB 1 (some .byte) site (P x cd z) (E cd) [] 0 0 := by
  refine Law.of_walk (plainFor_of_name (by decide +kernel)) (by decide +kernel) (by decide +kernel) (by decide) (fun _ _ h => by rw [h.1]; rfl) (fun _ U U' hal hh h => ⟨h.1, h.2.1.mv hal hh, h.2.2.1, h.2.2.2.1.there hal hh, h.2.2.2.2⟩) (fun r U U' V V' h1 hal h2 h => XT.PureE.mv r U U' V V' h1 hal h2 h) ?_
  intro p e s m args below meth c s₁ X0 hexec hbytes hml hret hlk hnm hown hh0 W hP
  obtain ⟨rfl, hx, hc, s1, hz⟩ := hP
  have c1 : Steps p.tables e below (s₁.setTop (entryFrame m #[.ref x] 1)) (s₁.setTop (mkF m 0 #[.val (.ref x)] [])) := entry rfl
  obtain ⟨T2, X2, q2, st2⟩ := X0.sget hexec hown (wk W (.fieldLink "java/lang/String" 38 "java/lang/String" "COMPACT_STRINGS" "Z")) s1 (fun _ _ h => by rw [hh0]; exact h) (g := (mkF m 0 #[.val (.ref x)] [])) rfl (hb hbytes d0)
  have hh2 := q2.trans hh0
  have c3 : Steps p.tables e below (s₁.setTop (entryFrame m #[.ref x] 1)) (T2.setTop (mkF m 7 #[.val (.ref x)] [.ref x])) := (c1.trans (st2 _ (Steps.refl _))).trans (by
    refine XS.ifNo X2.here hexec rfl (hb hbytes d3) rfl (i0_eq_f hz) ?_
    refine XS.aloadN X2.here hexec rfl (hb hbytes d6) rfl rfl ?_
    exact Steps.refl _)
  obtain ⟨T4, X4, q4, st4⟩ := X2.hget hexec hown (wk W (.fieldLink "java/lang/String" 15 "java/lang/String" "coder" "B")) (hx.mv X2.warmed.alike hh2) (g := (mkF m 7 #[.val (.ref x)] [.ref x])) rfl (rest := []) rfl (hb hbytes d7)
  have c5 : Steps p.tables e below (s₁.setTop (entryFrame m #[.ref x] 1)) (T4.setTop (mkF m 14 #[.val (.ref x)] [.int cd])) := (c3.trans (st4 _ (Steps.refl _))).trans (by
    refine XS.goto X4.here hexec rfl (pc0 := 10) rfl (hb hbytes d10) (by decide) rfl ?_
    exact Steps.refl _)
  exact ⟨T4, some (.int cd), _, _, _, X4, rfl, rfl, rfl, (fun h => by cases h), ⟨rfl, q4.trans hh2⟩, fun fs hl => c5.trans (X4.ireturnOut hexec hret (by rcases hc with rfl | rfl <;> rfl) (Or.inr (Or.inr (Or.inl rfl))) (hb hbytes d14) hl)⟩
end Cdr
namespace Len
def yN : MethodName := ⟨"java/lang/String", "length", "()I"⟩
abbrev yB : ByteArray := jdk_42_method_54_code
theorem d0 : decode yB 0 = .ok (.aload_n 0, 1) := by decide +kernel
theorem d1 : decode yB 1 = .ok (.getfield 9, 3) := by decide +kernel
theorem d4 : decode yB 4 = .ok (.arraylength, 1) := by decide +kernel
theorem d5 : decode yB 5 = .ok (.aload_n 0, 1) := by decide +kernel
theorem d6 : decode yB 6 = .ok (.invokevirtual 335, 3) := by decide +kernel
theorem d9 : decode yB 9 = .ok (.ishr, 1) := by decide +kernel
theorem d10 : decode yB 10 = .ok (.ireturn, 1) := by decide +kernel
def site : List Cond := [.fieldLink "java/lang/String" 9 "java/lang/String" "value" "[B", Cdr.tab] ++ virtW "java/lang/String" 335 "java/lang/String" Cdr.yN Cdr.yN
def tab : Cond := tabOf yN yB 1 (some .int) site
def P (x t : Addr) (V : Cell) (cd : Int32) (n : Nat) (f : Nat → Int32) (z : Int32) (args : Array Value) (s : State) : Prop := args = #[.ref x] ∧ Txt x t V cd n f s ∧ StaticIs s "java/lang/String" "COMPACT_STRINGS" "Z" (.int z) ∧ ¬ z = 0
def E (n : Nat) (r : Option Value) (s u : State) : Prop := XT.PureE (some (.int (Int32.ofNat n))) r s u
/-- length() of a String of n chars, in either coding -/
theorem law (l : Launch) (x t : Addr) (V : Cell) (cd : Int32) (n : Nat) (f : Nat → Int32) (z : Int32) : Law l yN 1 0 1 13 yB 1 (some .int) site (P x t V cd n f z) (E n) [] 0 0 := by
  refine Law.of_walk (plainFor_of_name (by decide +kernel)) (by decide +kernel) (by decide +kernel) (by decide) (fun _ _ h => by rw [h.1]; rfl) (fun _ U U' hal hh h => ⟨h.1, h.2.1.mv hal hh, h.2.2.1.there hal hh, h.2.2.2⟩) (fun r U U' V V' h1 hal h2 h => XT.PureE.mv r U U' V V' h1 hal h2 h) ?_
  intro p e s m args below meth c s₁ X0 hexec hbytes hml hret hlk hnm hown hh0 W hP
  obtain ⟨rfl, hx, s1, hz⟩ := hP
  have v31 := hx.2.2.2.1.2.2.2
  have c1 : Steps p.tables e below (s₁.setTop (entryFrame m #[.ref x] 1)) (s₁.setTop (mkF m 1 #[.val (.ref x)] [.ref x])) := Steps.trans (entry rfl) (by
    show Steps p.tables e below (s₁.setTop (mkF m 0 #[.val (.ref x)] [])) _
    refine XS.aloadN X0.here hexec rfl (hb hbytes d0) rfl rfl ?_
    exact Steps.refl _)
  obtain ⟨T2, X2, q2, st2⟩ := X0.hget hexec hown (wk W (.fieldLink "java/lang/String" 9 "java/lang/String" "value" "[B")) (hx.mv X0.warmed.alike hh0).2.1 (g := (mkF m 1 #[.val (.ref x)] [.ref x])) rfl (rest := []) rfl (hb hbytes d1)
  have hh2 := q2.trans hh0
  have hx2 := hx.mv X2.warmed.alike hh2
  have c3 : Steps p.tables e below (s₁.setTop (entryFrame m #[.ref x] 1)) (T2.setTop (mkF m 6 #[.val (.ref x)] [.ref x, .int (Int32.ofNat V.slots.size)])) := (c1.trans (st2 _ (Steps.refl _))).trans (by
    refine X2.alen hexec hx2.2.2.2.1 rfl rfl (hb hbytes d4) ?_
    refine XS.aloadN X2.here hexec rfl (hb hbytes d5) rfl rfl ?_
    exact Steps.refl _)
  obtain ⟨v4, T4, X4, E4, g4⟩ := X2.callV hexec (Cdr.law l x cd z) hown (wks W (virtW "java/lang/String" 335 "java/lang/String" Cdr.yN Cdr.yN)) rfl (by decide) (wk W Cdr.tab) (W := 1) (Nat.le_of_ble_eq_true rfl) (Nat.le_of_ble_eq_true rfl) (Nat.le_refl _) (Nat.le_refl _) (hx2.1.fc X2.warmed.alike) hx2.1.is (g := (mkF m 6 #[.val (.ref x)] [.ref x, .int (Int32.ofNat V.slots.size)])) rfl (by rw [hml]; rfl) c3 (argsL := []) (rest := [.int (Int32.ofNat V.slots.size)]) rfl rfl (by show 2 * 0 + (1 + 0) ≤ _; decide) (hb hbytes d6) (⟨rfl, hx2.2.2.1, hx.2.2.2.2.1.cd, s1.there X2.warmed.alike hh2, hz⟩)
  obtain ⟨rfl, q4⟩ := E4
  have c5 : Steps p.tables e below (s₁.setTop (entryFrame m #[.ref x] 1)) (T4.setTop (mkF m 10 #[.val (.ref x)] [.int (Int32.ofNat V.slots.size >>> (cd &&& 31))])) := Steps.trans g4 (by
    refine ishr X4.here hexec rfl (hb hbytes d9) rfl ?_
    exact Steps.refl _)
  rw [hx.2.2.2.2.1.len v31] at c5
  exact ⟨T4, some (.int (Int32.ofNat n)), _, _, _, X4, rfl, rfl, rfl, (fun h => by cases h), ⟨rfl, q4.trans hh2⟩, fun fs hl => c5.trans (X4.ireturnOut hexec hret rfl (Or.inl rfl) (hb hbytes d10) hl)⟩
theorem pays {l : Launch} {R : Room} {p : Program} {e : Env} {below : List Frame} {s : State} {sargs : Array Value} {len W : Nat} (x t : Addr) (V : Cell) (cd : Int32) (n : Nat) (f : Nat → Int32) (z : Int32) (htab : tab.before sargs s = true) (hfr : 2 ≤ R.frames) (hlo : W + 25 ≤ R.locals) :
    Back l R p e below s sargs yN len W (fun A₁ a₁ => A₁.cells + 0 ≤ R.cells ∧ A₁.slots + 0 ≤ R.slots ∧ P x t V cd n f z a₁ A₁.U) (fun A₁ _ v₁ B₁ => E n v₁ A₁.U B₁.U ∧ B₁.locs = A₁.locs ++ [] ∧ B₁.cells = A₁.cells + 0 ∧ B₁.slots = A₁.slots + 0) :=
  (law l x t V cd n f z).pays htab hfr (by omega)
end Len
namespace IsL
def yN : MethodName := ⟨"java/lang/String", "isLatin1", "()Z"⟩
abbrev yB : ByteArray := jdk_42_method_154_code
theorem d0 : decode yB 0 = .ok (.getstatic 38, 3) := by decide +kernel
theorem d3 : decode yB 3 = .ok (.ifCond (.eq) 14, 3) := by decide +kernel
theorem d6 : decode yB 6 = .ok (.aload_n 0, 1) := by decide +kernel
theorem d7 : decode yB 7 = .ok (.getfield 15, 3) := by decide +kernel
theorem d10 : decode yB 10 = .ok (.ifCond (.ne) 7, 3) := by decide +kernel
theorem d13 : decode yB 13 = .ok (.iconst 1, 1) := by decide +kernel
theorem d14 : decode yB 14 = .ok (.goto 4, 3) := by decide +kernel
theorem d17 : decode yB 17 = .ok (.iconst 0, 1) := by decide +kernel
theorem d18 : decode yB 18 = .ok (.ireturn, 1) := by decide +kernel
def site : List Cond := [.fieldLink "java/lang/String" 38 "java/lang/String" "COMPACT_STRINGS" "Z", .fieldLink "java/lang/String" 15 "java/lang/String" "coder" "B"]
def tab : Cond := tabOf yN yB 1 (some .boolean) site
def P (x : Addr) (cd z : Int32) (args : Array Value) (s : State) : Prop := args = #[.ref x] ∧ Has x "java/lang/String" "coder" "B" (.int cd) s ∧ (cd = 0 ∨ cd = 1) ∧ StaticIs s "java/lang/String" "COMPACT_STRINGS" "Z" (.int z) ∧ ¬ z = 0
def E (cd : Int32) (r : Option Value) (s u : State) : Prop := XT.PureE (some (.int (1 - cd))) r s u
theorem law (l : Launch) (x : Addr) (cd z : Int32) : Law l yN 1 0 0 0 yB 1 (some .boolean) site (P x cd z) (E cd) [] 0 0 := by
  refine Law.of_walk (plainFor_of_name (by decide +kernel)) (by decide +kernel) (by decide +kernel) (by decide) (fun _ _ h => by rw [h.1]; rfl) (fun _ U U' hal hh h => ⟨h.1, h.2.1.mv hal hh, h.2.2.1, h.2.2.2.1.there hal hh, h.2.2.2.2⟩) (fun r U U' V V' h1 hal h2 h => XT.PureE.mv r U U' V V' h1 hal h2 h) ?_
  intro p e s m args below meth c s₁ X0 hexec hbytes hml hret hlk hnm hown hh0 W hP
  obtain ⟨rfl, hx, hc, s1, hz⟩ := hP
  have c1 : Steps p.tables e below (s₁.setTop (entryFrame m #[.ref x] 1)) (s₁.setTop (mkF m 0 #[.val (.ref x)] [])) := entry rfl
  obtain ⟨T2, X2, q2, st2⟩ := X0.sget hexec hown (wk W (.fieldLink "java/lang/String" 38 "java/lang/String" "COMPACT_STRINGS" "Z")) s1 (fun _ _ h => by rw [hh0]; exact h) (g := (mkF m 0 #[.val (.ref x)] [])) rfl (hb hbytes d0)
  have hh2 := q2.trans hh0
  have c3 : Steps p.tables e below (s₁.setTop (entryFrame m #[.ref x] 1)) (T2.setTop (mkF m 7 #[.val (.ref x)] [.ref x])) := (c1.trans (st2 _ (Steps.refl _))).trans (by
    refine XS.ifNo X2.here hexec rfl (hb hbytes d3) rfl (i0_eq_f hz) ?_
    refine XS.aloadN X2.here hexec rfl (hb hbytes d6) rfl rfl ?_
    exact Steps.refl _)
  obtain ⟨T4, X4, q4, st4⟩ := X2.hget hexec hown (wk W (.fieldLink "java/lang/String" 15 "java/lang/String" "coder" "B")) (hx.mv X2.warmed.alike hh2) (g := (mkF m 7 #[.val (.ref x)] [.ref x])) rfl (rest := []) rfl (hb hbytes d7)
  have c5 : Steps p.tables e below (s₁.setTop (entryFrame m #[.ref x] 1)) (T4.setTop (mkF m 10 #[.val (.ref x)] [.int cd])) := c3.trans (st4 _ (Steps.refl _))
  have c6 : Steps p.tables e below (s₁.setTop (entryFrame m #[.ref x] 1)) (T4.setTop (mkF m 18 #[.val (.ref x)] [.int (1 - cd)])) := by
    rcases hc with rfl | rfl
    · exact c5.trans (by
        refine XS.ifNo X4.here hexec rfl (hb hbytes d10) rfl (i0_ne_f rfl) ?_
        refine iconstV X4.here hexec rfl 1 (hb hbytes d13) (by decide) ?_
        refine XS.goto X4.here hexec rfl (pc0 := 14) rfl (hb hbytes d14) (by decide) rfl ?_
        exact Steps.refl _)
    · exact c5.trans (by
        refine XS.ifYes X4.here hexec rfl (pc0 := 10) rfl (hb hbytes d10) rfl (i0_ne_t (by decide)) (by decide) rfl ?_
        refine iconstV X4.here hexec rfl 0 (hb hbytes d17) (by decide) ?_
        exact Steps.refl _)
  exact ⟨T4, some (.int (1 - cd)), _, _, _, X4, rfl, rfl, rfl, (fun h => by cases h), ⟨rfl, q4.trans hh2⟩, fun fs hl => c6.trans (X4.ireturnOut hexec hret (by rcases hc with rfl | rfl <;> rfl) (Or.inr (Or.inl rfl)) (hb hbytes d18) hl)⟩
end IsL
namespace LChA
def yN : MethodName := ⟨"java/lang/StringLatin1", "charAt", "([BI)C"⟩
abbrev yB : ByteArray := jdk_43_method_2_code
theorem d0 : decode yB 0 = .ok (.iload_n 1, 1) := by decide +kernel
theorem d1 : decode yB 1 = .ok (.aload_n 0, 1) := by decide +kernel
theorem d2 : decode yB 2 = .ok (.arraylength, 1) := by decide +kernel
theorem d3 : decode yB 3 = .ok (.invokestatic 9, 3) := by decide +kernel
theorem d6 : decode yB 6 = .ok (.aload_n 0, 1) := by decide +kernel
theorem d7 : decode yB 7 = .ok (.iload_n 1, 1) := by decide +kernel
theorem d8 : decode yB 8 = .ok (.baload, 1) := by decide +kernel
theorem d9 : decode yB 9 = .ok (.sipush 255, 3) := by decide +kernel
theorem d12 : decode yB 12 = .ok (.iand, 1) := by decide +kernel
theorem d13 : decode yB 13 = .ok (.i2c, 1) := by decide +kernel
theorem d14 : decode yB 14 = .ok (.ireturn, 1) := by decide +kernel
def site : List Cond := [JO.Str_checkIndex.tab] ++ staticW "java/lang/StringLatin1" 9 JO.Str_checkIndex.yN
def tab : Cond := tabOf yN yB 2 (some .char) site
def P (t : Addr) (V : Cell) (i : Nat) (u : Int32) (fm : Value) (args : Array Value) (s : State) : Prop := args = #[.ref t, .int (Int32.ofNat i)] ∧ XT.Arr .byte t V s ∧ V.slots[i]? = some (.int u) ∧ (StaticIs s "jdk/internal/util/Preconditions" "SIOOBE_FORMATTER" "Ljava/util/function/BiFunction;" fm ∧ fm.isRef = true)
def E (u : Int32) (r : Option Value) (s w : State) : Prop := XT.PureE (some (.int (chr8 u))) r s w
theorem law (l : Launch) (t : Addr) (V : Cell) (i : Nat) (u : Int32) (fm : Value) : Law l yN 2 2 2 27 yB 2 (some .char) site (P t V i u fm) (E u) [] 0 0 := by
  refine Law.of_walk (plainFor_of_name (by decide +kernel)) (by decide +kernel) (by decide +kernel) (by decide) (fun _ _ h => by rw [h.1]; rfl) (fun _ U U' hal hh h => ⟨h.1, h.2.1.mv hal hh, h.2.2.1, h.2.2.2.1.there hal hh, h.2.2.2.2⟩) (fun r U U' V V' h1 hal h2 h => XT.PureE.mv r U U' V V' h1 hal h2 h) ?_
  intro p e s m args below meth c s₁ X0 hexec hbytes hml hret hlk hnm hown hh0 W hP
  obtain ⟨rfl, hV, hu, s1, rf⟩ := hP
  have v31 := hV.2.2.2
  have hi : i < V.slots.size := (Array.getElem?_eq_some_iff.mp hu).1
  have c1 : Steps p.tables e below (s₁.setTop (entryFrame m #[.ref t, .int (Int32.ofNat i)] 2)) (s₁.setTop (mkF m 0 #[.val (.ref t), .val (.int (Int32.ofNat i))] [])) := entry rfl
  have c2 : Steps p.tables e below (s₁.setTop (entryFrame m #[.ref t, .int (Int32.ofNat i)] 2)) (s₁.setTop (mkF m 3 #[.val (.ref t), .val (.int (Int32.ofNat i))] [.int (Int32.ofNat V.slots.size), .int (Int32.ofNat i)])) := c1.trans (by
    refine XS.iloadN X0.here hexec rfl (hb hbytes d0) rfl ?_
    refine XS.aloadN X0.here hexec rfl (hb hbytes d1) rfl rfl ?_
    refine X0.alen hexec (hV.mv X0.warmed.alike hh0) rfl rfl (hb hbytes d2) ?_
    exact Steps.refl _)
  obtain ⟨v3, T3, X3, E3, g3⟩ := X0.callS hexec (JO.Str_checkIndex.law l (Int32.ofNat i) (Int32.ofNat V.slots.size) fm) hown (wks W (staticW "java/lang/StringLatin1" 9 JO.Str_checkIndex.yN)) (wk W JO.Str_checkIndex.tab) (W := 0) (Nat.le_of_ble_eq_true rfl) (Nat.le_of_ble_eq_true rfl) (Nat.le_refl _) (Nat.le_refl _) (g := (mkF m 3 #[.val (.ref t), .val (.int (Int32.ofNat i))] [.int (Int32.ofNat V.slots.size), .int (Int32.ofNat i)])) rfl (by rw [hml]; rfl) c2 (argsL := [.int (Int32.ofNat i), .int (Int32.ofNat V.slots.size)]) (rest := []) rfl rfl (by show 2 * 0 + 0 ≤ _; decide) (hb hbytes d3) (⟨rfl, rf, s1.there X0.warmed.alike hh0, Int32.ofNat_not_neg (by omega), lt32 v31 hi⟩)
  obtain ⟨rfl, q3⟩ := E3
  have hh3 := q3.trans hh0
  have c4 : Steps p.tables e below (s₁.setTop (entryFrame m #[.ref t, .int (Int32.ofNat i)] 2)) (T3.setTop (mkF m 14 #[.val (.ref t), .val (.int (Int32.ofNat i))] [.int (chr8 u)])) := Steps.trans g3 (by
    refine XS.aloadN X3.here hexec rfl (hb hbytes d6) rfl rfl ?_
    refine XS.iloadN X3.here hexec rfl (hb hbytes d7) rfl ?_
    refine X3.aget hexec (hV.mv X3.warmed.alike hh3) rfl hu rfl rfl (hb hbytes d8) ?_
    refine sipushV X3.here hexec rfl 255 (hb hbytes d9) (by decide) ?_
    refine XS.iand X3.here hexec rfl (hb hbytes d12) rfl ?_
    refine i2c X3.here hexec rfl (hb hbytes d13) rfl ?_
    exact Steps.refl _)
  exact ⟨T3, some (.int (chr8 u)), _, _, _, X3, rfl, rfl, rfl, (fun h => by cases h), ⟨rfl, hh3⟩, fun fs hl => c4.trans (X3.ireturnOut hexec hret (narrow_c _) (Or.inr (Or.inr (Or.inr (Or.inl rfl)))) (hb hbytes d14) hl)⟩
end LChA
end StrChars
namespace StrChars.Road
open Jvm Sem ClassFile Op Lib Jvm.Stand Jvm.Free Jvm.Free.XT
open Jvm.Lib.Cold (StaticIs)
theorem consq {a : Array Value} {s : State} {c : Jvm.Cond} {L : List Jvm.Cond} (h0 : c.before a s = true) (h : ∀ w ∈ L, w.before a s = true) : ∀ w ∈ c :: L, w.before a s = true := fun w hw => (List.mem_cons.mp hw).elim (fun e => e ▸ h0) (h w)
/-- the words of String.length(), either coding -/
abbrev wordsLen : List Jvm.Cond := [.code Len.yN Len.yB 1 (some .int), .initialized ST, .fieldLink ST 9 ST "value" "[B", .fieldLink ST 38 ST "COMPACT_STRINGS" "Z", .fieldLink ST 15 ST "coder" "B", .code Cdr.yN Cdr.yB 1 (some .byte), .methodLink ST 335 Cdr.yN, .declares Cdr.yN, .selects ST Cdr.yN Cdr.yN, .instanceMethod Cdr.yN]
theorem tabLen_of {a : Array Value} {s : State} (h : ∀ w ∈ wordsLen, w.before a s = true) : Len.tab.before a s = true := by
  have hc : Cdr.tab.before a s = true := unparts (wk h (.code Cdr.yN Cdr.yB 1 (some .byte))) (wks h (.initialized Cdr.yN.cls :: Cdr.site))
  have q := consq hc h
  exact unparts (wk q (.code Len.yN Len.yB 1 (some .int))) (wks q (.initialized Len.yN.cls :: Len.site))
theorem movedLen {Z s : State} {a0 args : Array Value} (hZ : Z.Warmed39 s.vm) (hw : ∀ d ∈ wordsLen, d.before a0 Z = true) : ∀ d ∈ wordsLen, d.before args s = true := fun d hd => by
  have q := hw d hd
  have t : ∀ d ∈ wordsLen, d = .arrayClass .byte ∨ (d.onTables && d.keepsFace) = true := by decide +kernel
  rcases t d hd with rfl | t
  · exact RoadKit.mvA hZ q
  · exact RoadKit.mv hZ q t
/-- the bytes of the chars cs, low before high -/
def wideBytes : List Int32 → List Value
  | [] => []
  | c :: cs => .int (lo8 c) :: .int (hi8 c) :: wideBytes cs
theorem wide_lo (d : Value) : ∀ (cs : List Int32) (j : Nat), j < cs.length → (wideBytes cs).getD (2 * j) d = .int (lo8 (cs.getD j 0))
  | [], j, h => absurd h (Nat.not_lt_zero j)
  | c :: cs, 0, _ => rfl
  | c :: cs, j + 1, h => by
    have q := wide_lo d cs j (by simpa using h)
    rw [show 2 * (j + 1) = 2 * j + 1 + 1 from by omega]
    simpa [wideBytes] using q
theorem wide_hi (d : Value) : ∀ (cs : List Int32) (j : Nat), j < cs.length → (wideBytes cs).getD (2 * j + 1) d = .int (hi8 (cs.getD j 0))
  | [], j, h => absurd h (Nat.not_lt_zero j)
  | c :: cs, 0, _ => rfl
  | c :: cs, j + 1, h => by
    have q := wide_hi d cs j (by simpa using h)
    rw [show 2 * (j + 1) + 1 = 2 * j + 1 + 1 + 1 from by omega]
    simpa [wideBytes] using q
theorem low_at (d : Value) (cs : List Int32) (j : Nat) (h : j < cs.length) : (cs.map fun c => Value.int (lo8 c)).getD j d = .int (lo8 (cs.getD j 0)) := by
  simp [List.getD_eq_getElem?_getD, h]
/-- an array of N2 bytes vs codes the chars cs by the coder cd -/
def CodA (cs : List Int32) (cd N2 : Int32) (vs : List Value) : Prop := (cd = 0 ∧ N2 = Int32.ofNat cs.length ∧ vs = (cs.map fun c => Value.int (lo8 c)) ∧ ∀ c ∈ cs, ¬ 255 < c) ∨ (cd = 1 ∧ N2 = Int32.ofNat (2 * cs.length) ∧ vs = wideBytes cs ∧ ∃ c ∈ cs, 255 < c)
theorem CodA.cod {cs : List Int32} {cd N2 : Int32} {vs : List Value} {V : Cell} (h : CodA cs cd N2 vs) (hn : 2 * cs.length < 2 ^ 31) (hs : V.slots.size = N2.toNatClampNeg) (hv : RoadKit.Has V vs (.int 0)) : Cod cd cs.length (fun j => cs.getD j 0) V := by
  rcases h with ⟨rfl, rfl, rfl, h⟩ | ⟨rfl, rfl, rfl, c, hc, hw⟩
  · rw [n32 (by omega)] at hs
    exact Or.inl ⟨rfl, hs, fun j hj => ⟨by rw [hv j (by omega), low_at _ _ _ hj], by
      have e : cs.getD j 0 = cs[j] := by simp [List.getD_eq_getElem?_getD, hj]
      show ¬ 255 < cs.getD j 0
      rw [e]; exact h _ (List.getElem_mem _)⟩⟩
  · rw [n32 (by omega)] at hs
    obtain ⟨j, hj, rfl⟩ := List.getElem_of_mem hc
    exact Or.inr ⟨rfl, hs, fun j hj => ⟨by rw [hv _ (by omega), wide_lo _ _ _ hj], by rw [hv _ (by omega), wide_hi _ _ _ hj]⟩, j, hj, by
      have e : cs.getD j 0 = cs[j] := by simp [List.getD_eq_getElem?_getD, hj]
      show 255 < cs.getD j 0
      rw [e]; exact hw⟩
/-- an object of exactly java/lang/String, its two fields found: as the laws ask it -/
theorem strObj {Z U : State} {a0 : Array Value} {kI : Nat} (wi : (Jvm.Cond.instantiable ST kI).before a0 Z = true) (al : Z.vm.Alike U.vm) {x : Addr} {v0 c0 : Value} (E : RoadKit.Exa Z U.heap x ST) (V : RoadKit.Fld Z U.heap x ST "value" "[B" v0) (C : RoadKit.Fld Z U.heap x ST "coder" "B" c0) :
    ∃ (D : Cell) (fV fC : Field), Blank ST x D U ∧ Found ST "value" "[B" fV U ∧ Found ST "coder" "B" fC U ∧ D.slots[fV.slot]? = some v0 ∧ D.slots[fC.slot]? = some c0 ∧ RoadKit.slotOf Z ST "value" "[B" = fV.slot ∧ RoadKit.slotOf Z ST "coder" "B" = fC.slot := by
  obtain ⟨D, cfV, kV, iV, fV, hD, gV, stV, knV, obV, asV, slV⟩ := V
  obtain ⟨D', cfC, kC, iC, fC, hD', gC, stC, -, -, asC, slC⟩ := C
  cases hD.symm.trans hD'
  obtain ⟨D2, kD, e1, e2, e3, e4, e5⟩ := E
  cases hD.symm.trans e1
  obtain ⟨c2, k2, i1, i2, i3, -⟩ := Cond.instantiable_spec wi
  cases e2.symm.trans i1
  cases e3.symm.trans i2
  obtain ⟨kU, u1, u2⟩ := al.2.2 _ _ e3
  exact ⟨D, fV, fC, ⟨hD, ⟨knV, fun q hq => by rw [hq] at obV; cases obV⟩, by rw [al.findClass]; exact e2, kU, u1, by rw [u2]; exact i3, by rw [u2]; exact e5 i3⟩, ⟨SBG.found_only al ⟨cfV, kV, iV, gV⟩, stV⟩, ⟨SBG.found_only al ⟨cfC, kC, iC, gC⟩, stC⟩, slV, slC, by simp [RoadKit.slotOf, gV], by simp [RoadKit.slotOf, gC]⟩
theorem sta_is {Z U : State} (al : Z.vm.Alike U.vm) {C n d : String} {v : Value} (S : RoadKit.Sta Z U.heap C n d v) : StaticIs U C n d v := by
  obtain ⟨cfS, iS, kS, fS, st, cS, t1, t2, t3, t4, t5, t6, t7⟩ := S
  exact StaticIs.there (s := { Z with heap := U.heap }) ⟨cfS, iS, kS, fS, st, cS, t1, t2, t3, t4, t5, (fun q => by rw [q] at t6; cases t6), t7⟩ al rfl
/-- **length() OF SUCH A STRING** -/
theorem lenW {p : Program} {l : Launch} {e : Env} {R : Room} {s : State} {args : Array Value} {below : List Frame} {len W : Nat} {Z : State} {a0 : Array Value} {h : Heap} (hZ : Z.Warmed39 s.vm) (hw : ∀ d ∈ wordsLen, d.before a0 Z = true) {kI : Nat} (wi : (Jvm.Cond.instantiable ST kI).before a0 Z = true)
    {x t : Addr} {kb : ClassId} {cs : List Int32} {cd N2 z : Int32} {vs : List Value} (E : RoadKit.Exa Z h x ST) (V : RoadKit.Fld Z h x ST "value" "[B" (.ref t)) (C : RoadKit.Fld Z h x ST "coder" "B" (.int cd)) (K : RoadKit.Arv Z h t kb .byte N2 vs (.int 0)) (hc : CodA cs cd N2 vs) (hb : ∀ c ∈ cs, ¬ c < 0 ∧ ¬ (65535 : Int32) < c)
    (S : RoadKit.Sta Z h ST "COMPACT_STRINGS" "Z" (.int z)) (hz : ¬ z = 0) (l2 : cs.length ≤ 4000) (hfr : 2 ≤ R.frames) (hlo : W + 25 ≤ R.locals) :
    Back l R p e below s args (⟨"java/lang/String", "length", "()I"⟩ : MethodName) len W (fun P a => a = #[.ref x] ∧ P.U.heap = h ∧ P.cells + 0 ≤ R.cells ∧ P.slots + 0 ≤ R.slots)
      (fun P _ v B => ∃ L, (v = some (.int (Int32.ofNat cs.length)) ∧ L = [] ∧ B.U.heap = h) ∧ B.locs = P.locs ++ L ∧ B.cells = P.cells + 0 ∧ B.slots = P.slots + 0) := by
  obtain ⟨A, K1, K2, K3, K4, K5, K6⟩ := K
  have hcod := hc.cod (by omega) K3 K5
  intro m meth c P g ig mk a X hg hsize hdg hW hn hp'
  obtain ⟨rfl, rfl, r1, r2⟩ := hp'
  have al : Z.vm.Alike P.U.vm := hZ.alike.trans X.warmed.alike
  obtain ⟨D, fV, fC, hB, F1, F2, g1, g2, -, -⟩ := strObj wi al E V C
  have hx : Txt x t A cd cs.length (fun j => cs.getD j 0) P.U := ⟨⟨_, hB.2.2.1, D, hB.1, rfl, by cases q : D.vm <;> first | rfl | exact absurd q (hB.2.1.2 _)⟩, Has.of hB F1 g1, Has.of hB F2 g2, ⟨K1.1, State.isArrayOf_alike al K1.2.1, K1.2.2, by rcases hcod with ⟨-, q, -⟩ | ⟨-, q, -⟩ <;> omega⟩, hcod, fun j hj => by
    have e : cs.getD j 0 = cs[j] := by simp [List.getD_eq_getElem?_getD, hj]
    show ¬ cs.getD j 0 < 0 ∧ ¬ 65535 < cs.getD j 0
    rw [e]; exact hb _ (List.getElem_mem _)⟩
  obtain ⟨v, B, X', ⟨⟨hv, hh⟩, hl, hk, hs⟩, st⟩ := Len.pays x t A cd cs.length (fun j => cs.getD j 0) z (tabLen_of (movedLen hZ hw)) hfr hlo m meth c P g ig mk _ X hg hsize hdg hW hn ⟨r1, r2, rfl, hx, sta_is al S, hz⟩
  exact ⟨v, B, X', ⟨[], ⟨hv, rfl, hh⟩, hl, hk, hs⟩, st⟩
end StrChars.Road
namespace StrChars.Road
open Jvm Sem ClassFile Op Lib Jvm.Stand Jvm.Free Jvm.Free.XT
open Jvm.Lib.Cold (StaticIs)
/-- the road's facts of a String, as the laws ask it -/
theorem txt_of {Z U : State} {a0 : Array Value} {kI : Nat} (wi : (Jvm.Cond.instantiable ST kI).before a0 Z = true) (al : Z.vm.Alike U.vm) {x t : Addr} {kb : ClassId} {cs : List Int32} {cd N2 : Int32} {vs : List Value} (E : RoadKit.Exa Z U.heap x ST) (V : RoadKit.Fld Z U.heap x ST "value" "[B" (.ref t)) (C : RoadKit.Fld Z U.heap x ST "coder" "B" (.int cd)) (K : RoadKit.Arv Z U.heap t kb .byte N2 vs (.int 0)) (hc : CodA cs cd N2 vs) (hb : ∀ c ∈ cs, ¬ c < 0 ∧ ¬ (65535 : Int32) < c) (l2 : cs.length ≤ 4000) :
    ∃ A, Txt x t A cd cs.length (fun j => cs.getD j 0) U := by
  obtain ⟨A, K1, K2, K3, K4, K5, K6⟩ := K
  have hcod := hc.cod (by omega) K3 K5
  obtain ⟨D, fV, fC, hB, F1, F2, g1, g2, -, -⟩ := strObj wi al E V C
  exact ⟨A, ⟨_, hB.2.2.1, D, hB.1, rfl, by cases q : D.vm <;> first | rfl | exact absurd q (hB.2.1.2 _)⟩, Has.of hB F1 g1, Has.of hB F2 g2, ⟨K1.1, State.isArrayOf_alike al K1.2.1, K1.2.2, by rcases hcod with ⟨-, q, -⟩ | ⟨-, q, -⟩ <;> omega⟩, hcod, fun j hj => by
    have e : cs.getD j 0 = cs[j] := by simp [List.getD_eq_getElem?_getD, hj]
    show ¬ cs.getD j 0 < 0 ∧ ¬ 65535 < cs.getD j 0
    rw [e]; exact hb _ (List.getElem_mem _)⟩
end StrChars.Road
namespace StrChars
open Jvm Sem ClassFile Op Lib Jvm.Stand Jvm.Free.XT Jvm.Free.ALB Jvm.Free.JM Jvm.Free
open Jvm.Lib.Cold (StaticIs)
namespace ChN
def yN : MethodName := ⟨"java/lang/String", "charAt", "(I)C"⟩
abbrev yB : ByteArray := jdk_42_method_56_code
theorem d0 : decode yB 0 = .ok (.aload_n 0, 1) := by decide +kernel
theorem d1 : decode yB 1 = .ok (.invokevirtual 492, 3) := by decide +kernel
theorem d4 : decode yB 4 = .ok (.ifCond (.eq) 12, 3) := by decide +kernel
theorem d7 : decode yB 7 = .ok (.aload_n 0, 1) := by decide +kernel
theorem d8 : decode yB 8 = .ok (.getfield 9, 3) := by decide +kernel
theorem d11 : decode yB 11 = .ok (.iload_n 1, 1) := by decide +kernel
theorem d12 : decode yB 12 = .ok (.invokestatic 495, 3) := by decide +kernel
theorem d15 : decode yB 15 = .ok (.ireturn, 1) := by decide +kernel
def site : List Cond := [.fieldLink "java/lang/String" 9 "java/lang/String" "value" "[B", IsL.tab, LChA.tab] ++ virtW "java/lang/String" 492 "java/lang/String" IsL.yN IsL.yN ++ staticW "java/lang/String" 495 LChA.yN
def tab : Cond := tabOf yN yB 2 (some .char) site
def P (x t : Addr) (V : Cell) (n : Nat) (f : Nat → Int32) (z : Int32) (fm : Value) (i : Nat) (args : Array Value) (s : State) : Prop := args = #[.ref x, .int (Int32.ofNat i)] ∧ Txt x t V 0 n f s ∧ i < n ∧ StaticIs s "java/lang/String" "COMPACT_STRINGS" "Z" (.int z) ∧ ¬ z = 0 ∧ StaticIs s "jdk/internal/util/Preconditions" "SIOOBE_FORMATTER" "Ljava/util/function/BiFunction;" fm ∧ fm.isRef = true
def E (f : Nat → Int32) (i : Nat) (r : Option Value) (s u : State) : Prop := XT.PureE (some (.int (f i))) r s u
/-- charAt(i) of a Latin-1 String of n chars, i < n: f i -/
theorem law (l : Launch) (x t : Addr) (V : Cell) (n : Nat) (f : Nat → Int32) (z : Int32) (fm : Value) (i : Nat) : Law l yN 2 1 3 40 yB 2 (some .char) site (P x t V n f z fm i) (E f i) [] 0 0 := by
  refine Law.of_walk (plainFor_of_name (by decide +kernel)) (by decide +kernel) (by decide +kernel) (by decide) (fun _ _ h => by rw [h.1]; rfl) (fun _ U U' hal hh h => ⟨h.1, h.2.1.mv hal hh, h.2.2.1, h.2.2.2.1.there hal hh, h.2.2.2.2.1, h.2.2.2.2.2.1.there hal hh, h.2.2.2.2.2.2⟩) (fun r U U' V V' h1 hal h2 h => XT.PureE.mv r U U' V V' h1 hal h2 h) ?_
  intro p e s m args below meth c s₁ X0 hexec hbytes hml hret hlk hnm hown hh0 W hP
  obtain ⟨rfl, hx, hi, s1, hz, s3, rf⟩ := hP
  have v31 := hx.2.2.2.1.2.2.2
  have hr := hx.2.2.2.2.2 i hi
  have hx0 := hx.mv X0.warmed.alike hh0
  have c1 : Steps p.tables e below (s₁.setTop (entryFrame m #[.ref x, .int (Int32.ofNat i)] 2)) (s₁.setTop (mkF m 1 #[.val (.ref x), .val (.int (Int32.ofNat i))] [.ref x])) := Steps.trans (entry rfl) (by
    show Steps p.tables e below (s₁.setTop (mkF m 0 #[.val (.ref x), .val (.int (Int32.ofNat i))] [])) _
    refine XS.aloadN X0.here hexec rfl (hb hbytes d0) rfl rfl ?_
    exact Steps.refl _)
  obtain ⟨v2, T2, X2, E2, g2⟩ := X0.callV hexec (IsL.law l x 0 z) hown (wks W (virtW "java/lang/String" 492 "java/lang/String" IsL.yN IsL.yN)) rfl (by decide) (wk W IsL.tab) (W := 0) (Nat.le_of_ble_eq_true rfl) (Nat.le_of_ble_eq_true rfl) (Nat.le_refl _) (Nat.le_refl _) (hx0.1.fc X0.warmed.alike) hx0.1.is (g := (mkF m 1 #[.val (.ref x), .val (.int (Int32.ofNat i))] [.ref x])) rfl (by rw [hml]; rfl) c1 (argsL := []) (rest := []) rfl rfl (by show 2 * 0 + 0 ≤ _; decide) (hb hbytes d1) (⟨rfl, hx0.2.2.1, hx.2.2.2.2.1.cd, s1.there X0.warmed.alike hh0, hz⟩)
  obtain ⟨rfl, q2⟩ := E2
  have hh2 := q2.trans hh0
  have hx2 := hx.mv X2.warmed.alike hh2
  obtain ⟨-, k1, k2⟩ | ⟨k0, -⟩ := hx.2.2.2.2.1
  · have c3 : Steps p.tables e below (s₁.setTop (entryFrame m #[.ref x, .int (Int32.ofNat i)] 2)) (T2.setTop (mkF m 8 #[.val (.ref x), .val (.int (Int32.ofNat i))] [.ref x])) := Steps.trans g2 (by
      refine XS.ifNo X2.here hexec rfl (hb hbytes d4) rfl (i0_eq_f (by decide)) ?_
      refine XS.aloadN X2.here hexec rfl (hb hbytes d7) rfl rfl ?_
      exact Steps.refl _)
    obtain ⟨T4, X4, q4, st4⟩ := X2.hget hexec hown (wk W (.fieldLink "java/lang/String" 9 "java/lang/String" "value" "[B")) hx2.2.1 (g := (mkF m 8 #[.val (.ref x), .val (.int (Int32.ofNat i))] [.ref x])) rfl (rest := []) rfl (hb hbytes d8)
    have hh4 := q4.trans hh2
    have c5 : Steps p.tables e below (s₁.setTop (entryFrame m #[.ref x, .int (Int32.ofNat i)] 2)) (T4.setTop (mkF m 12 #[.val (.ref x), .val (.int (Int32.ofNat i))] [.int (Int32.ofNat i), .ref t])) := (c3.trans (st4 _ (Steps.refl _))).trans (by
      refine XS.iloadN X4.here hexec rfl (hb hbytes d11) rfl ?_
      exact Steps.refl _)
    obtain ⟨v6, T6, X6, E6, g6⟩ := X4.callS hexec (LChA.law l t V i (lo8 (f i)) fm) hown (wks W (staticW "java/lang/String" 495 LChA.yN)) (wk W LChA.tab) (W := 0) (Nat.le_of_ble_eq_true rfl) (Nat.le_of_ble_eq_true rfl) (Nat.le_refl _) (Nat.le_refl _) (g := (mkF m 12 #[.val (.ref x), .val (.int (Int32.ofNat i))] [.int (Int32.ofNat i), .ref t])) rfl (by rw [hml]; rfl) c5 (argsL := [.ref t, .int (Int32.ofNat i)]) (rest := []) rfl rfl (by show 2 * 0 + 0 ≤ _; decide) (hb hbytes d12) (⟨rfl, hx.2.2.2.1.mv X4.warmed.alike hh4, (k2 i hi).1, s3.there X4.warmed.alike hh4, rf⟩)
    obtain ⟨rfl, q6⟩ := E6
    rw [chr8_lo8 hr.1 (k2 i hi).2] at g6
    exact ⟨T6, some (.int (f i)), _, _, _, X6, rfl, rfl, rfl, (fun h => by cases h), ⟨rfl, q6.trans hh4⟩, fun fs hl => Steps.trans g6 (X6.ireturnOut hexec hret (narrow_ch hr.1 hr.2) (Or.inr (Or.inr (Or.inr (Or.inl rfl)))) (hb hbytes d15) hl)⟩
  · exact absurd k0 (by decide)
theorem pays {l : Launch} {R : Room} {p : Program} {e : Env} {below : List Frame} {s : State} {sargs : Array Value} {len W : Nat} (x t : Addr) (V : Cell) (n : Nat) (f : Nat → Int32) (z : Int32) (fm : Value) (i : Nat) (htab : tab.before sargs s = true) (hfr : 4 ≤ R.frames) (hlo : W + 53 ≤ R.locals) :
    Back l R p e below s sargs yN len W (fun A₁ a₁ => A₁.cells + 0 ≤ R.cells ∧ A₁.slots + 0 ≤ R.slots ∧ P x t V n f z fm i a₁ A₁.U) (fun A₁ _ v₁ B₁ => E f i v₁ A₁.U B₁.U ∧ B₁.locs = A₁.locs ++ [] ∧ B₁.cells = A₁.cells + 0 ∧ B₁.slots = A₁.slots + 0) :=
  (law l x t V n f z fm i).pays htab hfr (by omega)
end ChN
end StrChars
namespace StrChars.Road
open Jvm Sem ClassFile Op Lib Jvm.Stand Jvm.Free Jvm.Free.XT
open Jvm.Lib.Cold (StaticIs)
/-- the words of String.charAt(int), the Latin-1 road alone -/
abbrev wordsChN : List Jvm.Cond := [.code ChN.yN ChN.yB 2 (some .char), .initialized ST, .fieldLink ST 9 ST "value" "[B", .fieldLink ST 38 ST "COMPACT_STRINGS" "Z", .fieldLink ST 15 ST "coder" "B", .code IsL.yN IsL.yB 1 (some .boolean), .methodLink ST 492 IsL.yN, .declares IsL.yN, .selects ST IsL.yN IsL.yN, .instanceMethod IsL.yN,
  .methodLink ST 495 LChA.yN, .static LChA.yN, .code LChA.yN LChA.yB 2 (some .char), .initialized "java/lang/StringLatin1", .methodLink "java/lang/StringLatin1" 9 JO.Str_checkIndex.yN, .static JO.Str_checkIndex.yN, .code JO.Str_checkIndex.yN JO.Str_checkIndex.yB 2 none,
  .fieldLink ST 1053 "jdk/internal/util/Preconditions" "SIOOBE_FORMATTER" "Ljava/util/function/BiFunction;", .methodLink ST 1059 JC.PreCheck.yN, .static JC.PreCheck.yN, .code JC.PreCheck.yN JC.PreCheck.yB 3 (some .int), .initialized "jdk/internal/util/Preconditions"]
theorem tabChN_of {a : Array Value} {s : State} (h : ∀ w ∈ wordsChN, w.before a s = true) : ChN.tab.before a s = true := by
  have hp : JC.PreCheck.tab.before a s = true := unparts (wk h (.code JC.PreCheck.yN JC.PreCheck.yB 3 (some .int))) (wks h (.initialized JC.PreCheck.yN.cls :: JC.PreCheck.site))
  have qk := consq hp h
  have hk : JO.Str_checkIndex.tab.before a s = true := unparts (wk qk (.code JO.Str_checkIndex.yN JO.Str_checkIndex.yB 2 none)) (wks qk (.initialized JO.Str_checkIndex.yN.cls :: JO.Str_checkIndex.site))
  have ql := consq hk h
  have hl : LChA.tab.before a s = true := unparts (wk ql (.code LChA.yN LChA.yB 2 (some .char))) (wks ql (.initialized LChA.yN.cls :: LChA.site))
  have hi : IsL.tab.before a s = true := unparts (wk h (.code IsL.yN IsL.yB 1 (some .boolean))) (wks h (.initialized IsL.yN.cls :: IsL.site))
  have q := consq hi (consq hl h)
  exact unparts (wk q (.code ChN.yN ChN.yB 2 (some .char))) (wks q (.initialized ChN.yN.cls :: ChN.site))
theorem movedChN {Z s : State} {a0 args : Array Value} (hZ : Z.Warmed39 s.vm) (hw : ∀ d ∈ wordsChN, d.before a0 Z = true) : ∀ d ∈ wordsChN, d.before args s = true := fun d hd => by
  have t : ∀ d ∈ wordsChN, (d.onTables && d.keepsFace) = true := by decide +kernel
  exact RoadKit.mv hZ (hw d hd) (t d hd)
/-- **charAt(i) OF A LATIN-1 STRING**, i < n: the char -/
theorem chN {p : Program} {l : Launch} {e : Env} {R : Room} {s : State} {args : Array Value} {below : List Frame} {len W : Nat} {Z : State} {a0 : Array Value} {h : Heap} (hZ : Z.Warmed39 s.vm) (hw : ∀ d ∈ wordsChN, d.before a0 Z = true) {kI : Nat} (wi : (Jvm.Cond.instantiable ST kI).before a0 Z = true)
    {x t : Addr} {kb : ClassId} {cs : List Int32} {N2 z : Int32} {vs : List Value} {fm : Value} {i : Nat} {j : Int32} (E : RoadKit.Exa Z h x ST) (V : RoadKit.Fld Z h x ST "value" "[B" (.ref t)) (C : RoadKit.Fld Z h x ST "coder" "B" (.int 0)) (K : RoadKit.Arv Z h t kb .byte N2 vs (.int 0)) (hc : CodA cs 0 N2 vs) (hb : ∀ c ∈ cs, ¬ c < 0 ∧ ¬ (65535 : Int32) < c)
    (S : RoadKit.Sta Z h ST "COMPACT_STRINGS" "Z" (.int z)) (hz : ¬ z = 0) (F : RoadKit.Sta Z h "jdk/internal/util/Preconditions" "SIOOBE_FORMATTER" "Ljava/util/function/BiFunction;" fm) (rf : fm.isRef = true) (l2 : cs.length ≤ 4000) (hi : i < cs.length) (hj : j = Int32.ofNat i) (hfr : 4 ≤ R.frames) (hlo : W + 53 ≤ R.locals) :
    Back l R p e below s args (⟨"java/lang/String", "charAt", "(I)C"⟩ : MethodName) len W (fun P a => a = #[.ref x, .int j] ∧ P.U.heap = h ∧ P.cells + 0 ≤ R.cells ∧ P.slots + 0 ≤ R.slots)
      (fun P _ v B => ∃ L, (v = some (.int (cs.getD i 0)) ∧ L = [] ∧ B.U.heap = h) ∧ B.locs = P.locs ++ L ∧ B.cells = P.cells + 0 ∧ B.slots = P.slots + 0) := by
  subst hj
  intro m meth c P g ig mk a X hg hsize hdg hW hn hp'
  obtain ⟨rfl, rfl, r1, r2⟩ := hp'
  have al : Z.vm.Alike P.U.vm := hZ.alike.trans X.warmed.alike
  obtain ⟨A, hx⟩ := txt_of wi al E V C K hc hb l2
  obtain ⟨v, B, X', ⟨⟨hv, hh⟩, hl, hk, hs⟩, st⟩ := ChN.pays x t A cs.length (fun j => cs.getD j 0) z fm i (tabChN_of (movedChN hZ hw)) hfr hlo m meth c P g ig mk _ X hg hsize hdg hW hn ⟨r1, r2, rfl, hx, hi, sta_is al S, hz, sta_is al F, rf⟩
  exact ⟨v, B, X', ⟨[], ⟨hv, rfl, hh⟩, hl, hk, hs⟩, st⟩
/-- what backV says of its String, as the contracts of this text ask it: cs's low bytes, coder 0 -/
theorem codOf {cs : List Int32} {n : Nat} (hn : cs.length = n) (hb : ∀ c ∈ cs, ¬ 255 < c) : CodA cs 0 (Int32.ofNat n) ((cs.map lo8).map Value.int) := Or.inl ⟨rfl, by rw [hn], by simp [List.map_map, Function.comp_def], hb⟩
end StrChars.Road
end Jvm.Pilot.@@N@@
namespace Jvm.Pilot.@@N@@
open Jvm Jvm.ClassFile Sem Op Lib Jvm.Free Jvm.Stand Jvm.LawKit Jvm.RoadKit Bundle Jvm.Pilot.@@N@@.Jvm.D
/-! own small kit: a walk forward, state by state -/
section OwnKit
variable {p : Program} {l : Launch} {e : Env} {R : Room} {s : State} {m : MethodId} {args : Array Value} {below : List Frame} {meth : Method} {c : Code} {T : State} {locs : List Loc} {cells slots : Nat} {rc rs : Nat} {Q : Option Value → Heap → List Loc → Prop} {Z : State} {h h' : Heap} {a b : Addr} {S S' : State}
/-- from S the run comes to its return, and Q holds there -/
def Go (p : Program) (e : Env) (below : List Frame) (s : State) (rc rs : Nat) (Q : Option Value → Heap → List Loc → Prop) (S : State) : Prop :=
  ∃ s₂ o, Steps p.tables e below S s₂ ∧ s₂.status = .running ∧ Ended s₂ below o ∧ ∃ v L, o = .returned v ∧ Q v s₂.heap L ∧ FrameEnd s o s₂ L rc rs
theorem Go.st (k : ∀ t, Steps p.tables e below S' t → Steps p.tables e below S t) (g : Go p e below s rc rs Q S') : Go p e below s rc rs Q S := by
  obtain ⟨x, y, z, r⟩ := g
  exact ⟨x, y, k x z, r⟩
theorem Go.tr (k : Steps p.tables e below S S') (g : Go p e below s rc rs Q S') : Go p e below s rc rs Q S := by
  obtain ⟨x, y, z, r⟩ := g
  exact ⟨x, y, k.trans z, r⟩
theorem Go.ret (X : Stand p l e R s m args below meth c T locs cells slots) (hlk : meth.locks = false) (v : Option Value) (hv : meth.sig.returnType = none → v = none) {g : JFrame} (hQ : Q v T.heap locs) (hc : cells ≤ rc) (hs : slots ≤ rs)
    (k : ∀ fs, (∀ (f : JFrame) (acts : List Action), f.method = m → f.locked = none → f.entered = [] → (doReturn e (T.setTop f) acts v).1 = T.setFrames fs) → Steps p.tables e below (T.setTop g) (T.setFrames fs)) : Go p e below s rc rs Q (T.setTop g) := by
  obtain ⟨fs, hr, hrun, hended, hW, hsame⟩ := X.leave (v := v) hv hlk
  exact ⟨_, _, k fs hr, hrun, hended, _, _, rfl, hQ, ⟨_, rfl⟩, hW, hsame.mono hc hs⟩
theorem own_w {a0 : Array Value} (hw : ∀ d ∈ tables_1, d.before a0 Z = true) (k : Nat) {d : Jvm.Cond} (q : tables_1[k]? = some d) : d.before a0 Z = true := hw _ (List.mem_of_getElem? q)
theorem own_idx {n j : Int32} {cl : Cell} (S : cl.slots.size = n.toNatClampNeg) (q1 : ¬ j < 0) (q2 : j < n) : ¬ (j < 0 ∨ cl.slots.size ≤ j.toNatClampNeg) := inb_of S ⟨q1, q2⟩
theorem own_iaload (X : Stand p l e R s m args below meth c T locs cells slots) (hx : p.tables.exec = Jvm.exec) (hZ : Z.Warmed39 s.vm) (eT : T.heap = h) {k : ClassId} {n : Int32} {vs : List Value} {d : Value} (V : Arv Z h a k .int n vs d) {j : Int32} (q1 : ¬ j < 0) (q2 : j < n) {v : Value} (hv : vs.getD j.toNatClampNeg d = v) {g : JFrame} (hg : g.method = m) {rest : List Value} (hs : g.stack = .int j :: .ref a :: rest) (hd : decode c.code g.pc = .ok (.iaload, 1)) (t : State) (kk : Steps p.tables e below (T.setTop { g with pc := g.pc + 1, stack := v :: rest }) t) : Steps p.tables e below (T.setTop g) t := by
  obtain ⟨cl, A, -, S, -, H, -⟩ := V
  have hin := own_idx S q1 q2
  exact X.iaload hx (j := j) (v := v) (by rw [eT]; exact A.1) (State.isArrayOf_alike hZ.alike A.2.1) A.2.2 hin (H.at hin hv) (g := g) hg hs hd _ kk
theorem own_laload (X : Stand p l e R s m args below meth c T locs cells slots) (hx : p.tables.exec = Jvm.exec) (hZ : Z.Warmed39 s.vm) (eT : T.heap = h) {k : ClassId} {n : Int32} {vs : List Value} {d : Value} (V : Arv Z h a k .long n vs d) {j : Int32} (q1 : ¬ j < 0) (q2 : j < n) {v : Value} (hv : vs.getD j.toNatClampNeg d = v) {g : JFrame} (hg : g.method = m) {rest : List Value} (hs : g.stack = .int j :: .ref a :: rest) (hd : decode c.code g.pc = .ok (.laload, 1)) (t : State) (kk : Steps p.tables e below (T.setTop { g with pc := g.pc + 1, stack := v :: rest }) t) : Steps p.tables e below (T.setTop g) t := by
  obtain ⟨cl, A, -, S, -, H, -⟩ := V
  have hin := own_idx S q1 q2
  exact X.laload hx (j := j) (v := v) (by rw [eT]; exact A.1) (State.isArrayOf_alike hZ.alike A.2.1) A.2.2 hin (H.at hin hv) (g := g) hg hs hd _ kk
theorem own_caload (X : Stand p l e R s m args below meth c T locs cells slots) (hx : p.tables.exec = Jvm.exec) (hZ : Z.Warmed39 s.vm) (eT : T.heap = h) {k : ClassId} {n : Int32} {vs : List Value} {d : Value} (V : Arv Z h a k .char n vs d) {j : Int32} (q1 : ¬ j < 0) (q2 : j < n) {v : Value} (hv : vs.getD j.toNatClampNeg d = v) {g : JFrame} (hg : g.method = m) {rest : List Value} (hs : g.stack = .int j :: .ref a :: rest) (hd : decode c.code g.pc = .ok (.caload, 1)) (t : State) (kk : Steps p.tables e below (T.setTop { g with pc := g.pc + 1, stack := v :: rest }) t) : Steps p.tables e below (T.setTop g) t := by
  obtain ⟨cl, A, -, S, -, H, -⟩ := V
  have hin := own_idx S q1 q2
  exact X.caload hx (j := j) (v := v) (by rw [eT]; exact A.1) (State.isArrayOf_alike hZ.alike A.2.1) A.2.2 hin (H.at hin hv) (g := g) hg hs hd _ kk
theorem own_baloadB (X : Stand p l e R s m args below meth c T locs cells slots) (hx : p.tables.exec = Jvm.exec) (hZ : Z.Warmed39 s.vm) (eT : T.heap = h) {k : ClassId} {n : Int32} {vs : List Value} {d : Value} (V : Arv Z h a k .byte n vs d) {j : Int32} (q1 : ¬ j < 0) (q2 : j < n) {v : Value} (hv : vs.getD j.toNatClampNeg d = v) {g : JFrame} (hg : g.method = m) {rest : List Value} (hs : g.stack = .int j :: .ref a :: rest) (hd : decode c.code g.pc = .ok (.baload, 1)) (t : State) (kk : Steps p.tables e below (T.setTop { g with pc := g.pc + 1, stack := v :: rest }) t) : Steps p.tables e below (T.setTop g) t := by
  obtain ⟨cl, A, -, S, -, H, -⟩ := V
  have hin := own_idx S q1 q2
  exact X.baloadBytes hx (j := j) (v := v) (by rw [eT]; exact A.1) (State.isArrayOf_alike hZ.alike A.2.1) A.2.2 hin (H.at hin hv) (g := g) hg hs hd _ kk
theorem own_baloadZ (X : Stand p l e R s m args below meth c T locs cells slots) (hx : p.tables.exec = Jvm.exec) (hZ : Z.Warmed39 s.vm) (eT : T.heap = h) {k : ClassId} {n : Int32} {vs : List Value} {d : Value} (V : Arv Z h a k .boolean n vs d) {j : Int32} (q1 : ¬ j < 0) (q2 : j < n) {v : Value} (hv : vs.getD j.toNatClampNeg d = v) {g : JFrame} (hg : g.method = m) {rest : List Value} (hs : g.stack = .int j :: .ref a :: rest) (hd : decode c.code g.pc = .ok (.baload, 1)) (t : State) (kk : Steps p.tables e below (T.setTop { g with pc := g.pc + 1, stack := v :: rest }) t) : Steps p.tables e below (T.setTop g) t := by
  obtain ⟨cl, A, -, S, -, H, -⟩ := V
  have hin := own_idx S q1 q2
  exact X.baloadBooleans hx (j := j) (v := v) (by rw [eT]; exact A.1) (State.isArrayOf_alike hZ.alike A.2.1) A.2.2 hin (H.at hin hv) (g := g) hg hs hd _ kk
theorem own_aaload (X : Stand p l e R s m args below meth c T locs cells slots) (hx : p.tables.exec = Jvm.exec) (hZ : Z.Warmed39 s.vm) (eT : T.heap = h) {k : ClassId} {n : Int32} {vs : List Value} {d : Value} {ty : FieldType} (V : Arv Z h a k ty n vs d) (hty : ty.isReference = true) {j : Int32} (q1 : ¬ j < 0) (q2 : j < n) {v : Value} (hv : vs.getD j.toNatClampNeg d = v) {g : JFrame} (hg : g.method = m) {rest : List Value} (hs : g.stack = .int j :: .ref a :: rest) (hd : decode c.code g.pc = .ok (.aaload, 1)) (t : State) (kk : Steps p.tables e below (T.setTop { g with pc := g.pc + 1, stack := v :: rest }) t) : Steps p.tables e below (T.setTop g) t := by
  obtain ⟨cl, A, -, S, -, H, -⟩ := V
  have hin := own_idx S q1 q2
  exact X.aaload hx (j := j) (v := v) (by rw [eT]; exact A.1) (State.isArrayOf_alike hZ.alike A.2.1) hty A.2.2 hin (H.at hin hv) (g := g) hg hs hd _ kk
theorem own_len (X : Stand p l e R s m args below meth c T locs cells slots) (hx : p.tables.exec = Jvm.exec) (hZ : Z.Warmed39 s.vm) (eT : T.heap = h) {k : ClassId} {n : Int32} {vs : List Value} {d : Value} {ty : FieldType} (V : Arv Z h a k ty n vs d) {g : JFrame} (hg : g.method = m) {rest : List Value} (hs : g.stack = .ref a :: rest) (hd : decode c.code g.pc = .ok (.arraylength, 1)) (t : State) (kk : Steps p.tables e below (T.setTop { g with pc := g.pc + 1, stack := .int n :: rest }) t) : Steps p.tables e below (T.setTop g) t := by
  obtain ⟨cl, A, -, S, N, -, -⟩ := V
  refine X.arraylength hx (by rw [eT]; exact A.1) (State.isArrayOf_alike hZ.alike A.2.1) (g := g) hg hs hd _ ?_
  rw [len_of S N]
  exact kk
theorem own_stI (X : Stand p l e R s m args below meth c T locs cells slots) (hx : p.tables.exec = Jvm.exec) (hZ : Z.Warmed39 s.vm) (eT : T.heap = h) {k : ClassId} {n : Int32} {vs : List Value} {d : Value} (V : Arv Z h a k .int n vs d) {j x : Int32} (q1 : ¬ j < 0) (q2 : j < n) (i : Nat) (hi : j.toNatClampNeg = i) (hl : i < vs.length) {g : JFrame} (hg : g.method = m) {rest : List Value} (hs : g.stack = .int x :: .int j :: .ref a :: rest) (hd : decode c.code g.pc = .ok (.iastore, 1)) :
    ∃ T' h', Stand p l e R s m args below meth c T' (locs ++ [⟨a, j.toNatClampNeg⟩]) cells slots ∧ T'.heap = h' ∧ Wr h h' a j.toNatClampNeg (.int x) ∧ Arv Z h' a k .int n (vs.set i (.int x)) d ∧ ∀ t, Steps p.tables e below (T'.setTop { g with pc := g.pc + 1, stack := rest }) t → Steps p.tables e below (T.setTop g) t := by
  obtain ⟨cl, A, q, S, N, H, G⟩ := V
  obtain ⟨T', h', X', e', W', st⟩ := stI X hx hZ eT A (own_idx S q1 q2) (g := g) hg hs hd
  exact ⟨T', h', X', e', W', Arv.set A q S N H G rfl W' i hi hl, st⟩
theorem own_stJ (X : Stand p l e R s m args below meth c T locs cells slots) (hx : p.tables.exec = Jvm.exec) (hZ : Z.Warmed39 s.vm) (eT : T.heap = h) {k : ClassId} {n : Int32} {vs : List Value} {d : Value} (V : Arv Z h a k .long n vs d) {j : Int32} {x : Int64} (q1 : ¬ j < 0) (q2 : j < n) (i : Nat) (hi : j.toNatClampNeg = i) (hl : i < vs.length) {g : JFrame} (hg : g.method = m) {rest : List Value} (hs : g.stack = .long x :: .int j :: .ref a :: rest) (hd : decode c.code g.pc = .ok (.lastore, 1)) :
    ∃ T' h', Stand p l e R s m args below meth c T' (locs ++ [⟨a, j.toNatClampNeg⟩]) cells slots ∧ T'.heap = h' ∧ Wr h h' a j.toNatClampNeg (.long x) ∧ Arv Z h' a k .long n (vs.set i (.long x)) d ∧ ∀ t, Steps p.tables e below (T'.setTop { g with pc := g.pc + 1, stack := rest }) t → Steps p.tables e below (T.setTop g) t := by
  obtain ⟨cl, A, q, S, N, H, G⟩ := V
  obtain ⟨T', h', X', e', W', st⟩ := stJ X hx hZ eT A (own_idx S q1 q2) (g := g) hg hs hd
  exact ⟨T', h', X', e', W', Arv.set A q S N H G rfl W' i hi hl, st⟩
theorem own_stC (X : Stand p l e R s m args below meth c T locs cells slots) (hx : p.tables.exec = Jvm.exec) (hZ : Z.Warmed39 s.vm) (eT : T.heap = h) {k : ClassId} {n : Int32} {vs : List Value} {d : Value} (V : Arv Z h a k .char n vs d) {j x : Int32} (q1 : ¬ j < 0) (q2 : j < n) (i : Nat) (hi : j.toNatClampNeg = i) (hl : i < vs.length) {g : JFrame} (hg : g.method = m) {rest : List Value} (hs : g.stack = .int x :: .int j :: .ref a :: rest) (hd : decode c.code g.pc = .ok (.castore, 1)) :
    ∃ T' h', Stand p l e R s m args below meth c T' (locs ++ [⟨a, j.toNatClampNeg⟩]) cells slots ∧ T'.heap = h' ∧ Wr h h' a j.toNatClampNeg (.int (nar .char x)) ∧ Arv Z h' a k .char n (vs.set i (.int (nar .char x))) d ∧ ∀ t, Steps p.tables e below (T'.setTop { g with pc := g.pc + 1, stack := rest }) t → Steps p.tables e below (T.setTop g) t := by
  obtain ⟨cl, A, q, S, N, H, G⟩ := V
  obtain ⟨T', h', X', e', W', st⟩ := stC X hx hZ eT A (own_idx S q1 q2) (g := g) hg hs hd
  exact ⟨T', h', X', e', W', Arv.set A q S N H G (fits_nar_char _) W' i hi hl, st⟩
theorem own_stB (X : Stand p l e R s m args below meth c T locs cells slots) (hx : p.tables.exec = Jvm.exec) (hZ : Z.Warmed39 s.vm) (eT : T.heap = h) {k : ClassId} {n : Int32} {vs : List Value} {d : Value} (V : Arv Z h a k .byte n vs d) {j x : Int32} (q1 : ¬ j < 0) (q2 : j < n) (i : Nat) (hi : j.toNatClampNeg = i) (hl : i < vs.length) {g : JFrame} (hg : g.method = m) {rest : List Value} (hs : g.stack = .int x :: .int j :: .ref a :: rest) (hd : decode c.code g.pc = .ok (.bastore, 1)) :
    ∃ T' h', Stand p l e R s m args below meth c T' (locs ++ [⟨a, j.toNatClampNeg⟩]) cells slots ∧ T'.heap = h' ∧ Wr h h' a j.toNatClampNeg (.int (nar .byte x)) ∧ Arv Z h' a k .byte n (vs.set i (.int (nar .byte x))) d ∧ ∀ t, Steps p.tables e below (T'.setTop { g with pc := g.pc + 1, stack := rest }) t → Steps p.tables e below (T.setTop g) t := by
  obtain ⟨cl, A, q, S, N, H, G⟩ := V
  obtain ⟨T', h', X', e', W', st⟩ := stB X hx hZ eT A (own_idx S q1 q2) (g := g) hg hs hd
  exact ⟨T', h', X', e', W', Arv.set A q S N H G (fits_nar_byte _) W' i hi hl, st⟩
theorem own_stZ (X : Stand p l e R s m args below meth c T locs cells slots) (hx : p.tables.exec = Jvm.exec) (hZ : Z.Warmed39 s.vm) (eT : T.heap = h) {k : ClassId} {n : Int32} {vs : List Value} {d : Value} (V : Arv Z h a k .boolean n vs d) {j x : Int32} (q1 : ¬ j < 0) (q2 : j < n) (i : Nat) (hi : j.toNatClampNeg = i) (hl : i < vs.length) {g : JFrame} (hg : g.method = m) {rest : List Value} (hs : g.stack = .int x :: .int j :: .ref a :: rest) (hd : decode c.code g.pc = .ok (.bastore, 1)) :
    ∃ T' h', Stand p l e R s m args below meth c T' (locs ++ [⟨a, j.toNatClampNeg⟩]) cells slots ∧ T'.heap = h' ∧ Wr h h' a j.toNatClampNeg (.int (nar .boolean x)) ∧ Arv Z h' a k .boolean n (vs.set i (.int (nar .boolean x))) d ∧ ∀ t, Steps p.tables e below (T'.setTop { g with pc := g.pc + 1, stack := rest }) t → Steps p.tables e below (T.setTop g) t := by
  obtain ⟨cl, A, q, S, N, H, G⟩ := V
  obtain ⟨T', h', X', e', W', st⟩ := stZ X hx hZ eT A (own_idx S q1 q2) (g := g) hg hs hd
  exact ⟨T', h', X', e', W', Arv.set A q S N H G (fits_nar_bool _) W' i hi hl, st⟩
theorem own_old {n0 : Nat} (O : Old Z n0 h) : n0 ≤ h.size := O.1 ▸ O.2.1
theorem own_res {z z' y : Int32} (hq : y = z') (hz : z = z') : some (Value.int z) = some (Value.int y) := by rw [hq, hz]
theorem own_resJ {z z' y : Int64} (hq : y = z') (hz : z = z') : some (Value.long z) = some (Value.long y) := by rw [hq, hz]
theorem own_narR {v : Value} {t : FieldType} (q : v.isRef = true) (r : t.isReference = true := by rfl) : narrow t v = v := by
  rcases ref_cases q with rfl | ⟨_, rfl⟩ <;> cases t <;> first | rfl | (simp [FieldType.isReference] at r)
theorem own_fitR {v : Value} {t : FieldType} (q : v.isRef = true) (r : t.isReference = true := by rfl) : fits t v = true := by
  rcases ref_cases q with rfl | ⟨_, rfl⟩ <;> cases t <;> first | rfl | (simp [FieldType.isReference] at r)
theorem own_fld {ar : Array Value} {t : Term} {x : Addr} {C n d : String} {k : Int32} (ht : t.eval ar s none [] s = some (.ref x)) (q : (Jvm.Cond.eq (.field t C n d) (.int k)).value ar s none s [] = some true) : Fld s s.heap x C n d (.int k) := by
  obtain ⟨u, w, e1, e2, -, k2⟩ := cmp_v (Or.inl q)
  have e3 : (Term.int k).eval ar s none [] s = some (.int k) := Term.int_eval k
  rw [e3] at e2
  obtain rfl := Option.some.inj e2
  obtain ⟨z, rfl⟩ := k2
  have e4 : z = k := gotT (Cond.eq_ints e1 e3) q
  subst e4
  rw [fld_at ht] at e1
  exact Fld.start e1
theorem own_neI {u w : Int32} (q : u ≠ w) : Value.int u ≠ Value.int w := fun z => q (Value.int.inj z)
theorem own_stR (X : Stand p l e R s m args below meth c T locs cells slots) (hx : p.tables.exec = Jvm.exec) (hZ : Z.Warmed39 s.vm) (eT : T.heap = h) {k : ClassId} {n : Int32} {vs : List Value} {d : Value} {ty : FieldType} {C : String} (V : Arv Z h a k ty n vs d) (hty : ty.isReference = true) (O : Ovr Z k C) {y : Addr} (I : Ins Z h y C true) {j : Int32} (q1 : ¬ j < 0) (q2 : j < n) (i : Nat) (hi : j.toNatClampNeg = i) (hl : i < vs.length) {g : JFrame} (hg : g.method = m) {rest : List Value} (hs : g.stack = .ref y :: .int j :: .ref a :: rest) (hd : decode c.code g.pc = .ok (.aastore, 1)) :
    ∃ T' h', Stand p l e R s m args below meth c T' (locs ++ [⟨a, j.toNatClampNeg⟩]) cells slots ∧ T'.heap = h' ∧ Wr h h' a j.toNatClampNeg (.ref y) ∧ Arv Z h' a k ty n (vs.set i (.ref y)) d ∧ ∀ t, Steps p.tables e below (T'.setTop { g with pc := g.pc + 1, stack := rest }) t → Steps p.tables e below (T.setTop g) t := by
  obtain ⟨cl, A, q, S, N, H, G⟩ := V
  obtain ⟨T', h', X', e', W', st⟩ := stR X hx hZ eT A (own_idx S q1 q2) hty (Sto.ofV A q O I) (g := g) hg hs hd
  exact ⟨T', h', X', e', W', Arv.set A q S N H G (own_fitR rfl hty) W' i hi hl, st⟩
theorem own_dupx2 (X : Stand p l e R s m args below meth c T locs cells slots) (hx : p.tables.exec = Jvm.exec) {g : JFrame} (hg : g.method = m) {x y z : Value} {rest : List Value} (hd : decode c.code g.pc = .ok (.dup_x2, 1)) (hs : g.stack = x :: y :: z :: rest) (hc : x.category = 1) (hc' : y.category = 1) (hc'' : z.category = 1) (t : State) (kk : Steps p.tables e below (T.setTop { g with pc := g.pc + 1, stack := x :: y :: z :: x :: rest }) t) : Steps p.tables e below (T.setTop g) t := by
  subst hg
  jvm_step X.here [X.here.top, hx, hd, dup_x2.wp_sem, hs, hc, hc', hc'']
  exact kk
theorem own_gen {n0 : Nat} (X : Stand p l e R s m args below meth c T locs cells slots) (N : Fr n0 locs) : ∃ L, Stand p l e R s m args below meth c T L cells slots ∧ Fr n0 L := ⟨_, X, N⟩
end OwnKit
/-! the same with the wide end (String constants may have been interned) -/
section OwnW
variable {p : Program} {l : Launch} {e : Env} {R : Room} {s : State} {m : MethodId} {args : Array Value} {below : List Frame} {meth : Method} {c : Code} {T : State} {locs : List Loc} {cells slots : Nat} {rc rs : Nat} {Q : Option Value → Heap → List Loc → Prop} {S S' : State}
def GoW (p : Program) (e : Env) (below : List Frame) (s : State) (rc rs : Nat) (Q : Option Value → Heap → List Loc → Prop) (S : State) : Prop :=
  ∃ s₂ o, Steps p.tables e below S s₂ ∧ s₂.status = .running ∧ Ended s₂ below o ∧ ∃ v L, o = .returned v ∧ Q v s₂.heap L ∧ ReturnedEndW s o s₂ L rc rs
theorem GoW.st (k : ∀ t, Steps p.tables e below S' t → Steps p.tables e below S t) (g : GoW p e below s rc rs Q S') : GoW p e below s rc rs Q S := by
  obtain ⟨x, y, z, r⟩ := g
  exact ⟨x, y, k x z, r⟩
theorem GoW.tr (k : Steps p.tables e below S S') (g : GoW p e below s rc rs Q S') : GoW p e below s rc rs Q S := by
  obtain ⟨x, y, z, r⟩ := g
  exact ⟨x, y, k.trans z, r⟩
theorem GoW.ret {vm1 : Vm} {n1 : Nat} (X : Stand p l e R (s.setVm vm1) m args below meth c T locs cells slots) (hlk : meth.locks = false) (hS : s.Since vm1 n1) (hn : n1 ≤ T.heap.size) (v : Option Value) (hv : meth.sig.returnType = none → v = none) {g : JFrame} (hQ : Q v T.heap locs) (hc : cells ≤ rc) (hs : slots ≤ rs)
    (k : ∀ fs, (∀ (f : JFrame) (acts : List Action), f.method = m → f.locked = none → f.entered = [] → (doReturn e (T.setTop f) acts v).1 = T.setFrames fs) → Steps p.tables e below (T.setTop g) (T.setFrames fs)) : GoW p e below s rc rs Q (T.setTop g) := by
  obtain ⟨fs, hr, hrun, hended, hE⟩ := X.leaveW hS hn (v := v) hv hlk
  exact ⟨_, _, k fs hr, hrun, hended, _, _, rfl, hQ, hE.1, hE.2.1, hE.2.2.1, hE.2.2.2.mono hc hs⟩
end OwnW
/-! the wide end, with the machine's tables in the end's words: which texts may have been interned is carried through calls -/
section OwnV
variable {p : Program} {l : Launch} {e : Env} {R : Room} {s : State} {m : MethodId} {args : Array Value} {below : List Frame} {meth : Method} {c : Code} {T : State} {locs : List Loc} {cells slots : Nat} {rc rs : Nat} {Q : Option Value → Vm → Heap → List Loc → Prop} {S S' Z : State} {a0 : Array Value} {h : Heap} {Ts Ts' : List String}
def GoV (p : Program) (e : Env) (below : List Frame) (s : State) (rc rs : Nat) (Q : Option Value → Vm → Heap → List Loc → Prop) (S : State) : Prop :=
  ∃ s₂ o, Steps p.tables e below S s₂ ∧ s₂.status = .running ∧ Ended s₂ below o ∧ ∃ v L, o = .returned v ∧ Q v s₂.vm s₂.heap L ∧ ReturnedEndW s o s₂ L rc rs
theorem GoV.st (k : ∀ t, Steps p.tables e below S' t → Steps p.tables e below S t) (g : GoV p e below s rc rs Q S') : GoV p e below s rc rs Q S := by
  obtain ⟨x, y, z, r⟩ := g
  exact ⟨x, y, k x z, r⟩
theorem GoV.tr (k : Steps p.tables e below S S') (g : GoV p e below s rc rs Q S') : GoV p e below s rc rs Q S := by
  obtain ⟨x, y, z, r⟩ := g
  exact ⟨x, y, k.trans z, r⟩
theorem GoV.ret {vm1 : Vm} {n1 : Nat} (X : Stand p l e R (s.setVm vm1) m args below meth c T locs cells slots) (hlk : meth.locks = false) (hS : s.Since vm1 n1) (hn : n1 ≤ T.heap.size) (v : Option Value) (hv : meth.sig.returnType = none → v = none) {g : JFrame} (hQ : Q v T.vm T.heap locs) (hc : cells ≤ rc) (hs : slots ≤ rs)
    (k : ∀ fs, (∀ (f : JFrame) (acts : List Action), f.method = m → f.locked = none → f.entered = [] → (doReturn e (T.setTop f) acts v).1 = T.setFrames fs) → Steps p.tables e below (T.setTop g) (T.setFrames fs)) : GoV p e below s rc rs Q (T.setTop g) := by
  obtain ⟨fs, hr, hrun, hended, hE⟩ := X.leaveW hS hn (v := v) hv hlk
  exact ⟨_, _, k fs hr, hrun, hended, _, _, rfl, hQ, hE.1, hE.2.1, hE.2.2.1, hE.2.2.2.mono hc hs⟩
theorem own_ibW {vm0 : Vm} (I : IB Z vm0 Ts) (X : Stand p l e R (s.setVm vm0) m args below meth c T locs cells slots) : IB Z T.vm Ts := by
  obtain ⟨more, a, b⟩ := I
  exact ⟨more, X.warmed.interned_eq.trans a, b⟩
theorem own_ibH {vm' : Vm} (I : IB Z s.vm Ts) (w : s.WarmedH vm') : IB Z vm' Ts := by
  obtain ⟨more, a, b⟩ := I
  exact ⟨more, w.interned_eq.trans a, b⟩
theorem own_ibM {vm0 : Vm} (I : IB Z vm0 Ts) (q : ∀ t ∈ Ts, t ∈ Ts') : IB Z vm0 Ts' := by
  obtain ⟨more, a, b⟩ := I
  exact ⟨more, a, fun x hx => by obtain ⟨t, h1, h2⟩ := b x hx; exact ⟨t, q t h1, h2⟩⟩
theorem own_backIB {y : MethodName} {bytes : ByteArray} {maxL : Nat} {ret : Option FieldType} {rm : Room} {len W : Nat} {as' : Array Value}
    (hM : MetFree l y (head1 [Cond.code y bytes maxL ret] rm) (fun a U => a = as' ∧ Z.Warmed39 U.vm ∧ U.heap = h ∧ IB Z U.vm Ts) (fun _ _ _ _ _ => True) (fun _ U o U' => ∃ v L, o = .returned v ∧ Q v U'.vm U'.heap L ∧ ReturnedEndW U o U' L rm.cells rm.slots))
    (hZ : Z.Warmed39 s.vm) (I : IB Z s.vm Ts) (wc : (Cond.code y bytes maxL ret).before a0 Z = true) (wz : (Cond.initialized y.cls).before a0 Z = true) (hf : rm.frames + 1 ≤ R.frames) (hl : W + (maxL + 11) + rm.locals ≤ R.locals) :
    BackS l R p e below s args y len W (fun A a => a = as' ∧ A.U.heap = h ∧ A.cells + rm.cells ≤ R.cells ∧ A.slots + rm.slots ≤ R.slots)
      (fun A _ v B => ∃ L, Q v B.U.vm B.U.heap L ∧ B.locs = A.locs ++ L ∧ B.cells = A.cells + rm.cells ∧ B.slots = A.slots + rm.slots) :=
  BackS.of_freeW (bytes := bytes) (maxL := maxL) (ret := ret) (E := fun _ _ o t L k n => k = rm.cells ∧ n = rm.slots ∧ ∃ v, o = .returned v ∧ Q v t.vm t.heap L) hM hf hl
    (fun m meth c A a Y hp => have hU : Z.Warmed39 A.U.vm := wtrans hZ Y.warmed
      ⟨by show (Cond.and _ .tt).before a A.U = true; rw [Cond.before_and, mv hU wc]; rfl, mv hU wc, mv hU wz, hp.2.2.1, hp.2.2.2⟩)
    (fun m meth c A a g mk Y hp => ⟨hp.1, wtrans hZ Y.warmed, hp.2.1, own_ibH I Y.warmed⟩) (fun _ _ _ _ _ _ _ _ _ => trivial)
    (fun _ _ _ _ ⟨v, L, h1, h2, h3⟩ => ⟨L, _, _, h3, rfl, rfl, v, h1, h2⟩)
    (fun m meth c A a g mk v t L k n Y hp _ _ ⟨e1, e2, v', e3, e4⟩ => by cases e3; subst e1 e2; exact ⟨L, e4, rfl, rfl, rfl⟩)
theorem own_fldne {x u b : Addr} {C n d : String} (F : Fld Z h u C n d (.ref b)) (G : Fld Z h x C n d .null) : u ≠ x := fun q => by
  subst q
  obtain ⟨c1, cf1, k1, i1, f1, a1, a2, -, -, -, -, a7⟩ := F
  obtain ⟨c2, cf2, k2, i2, f2, b1, b2, -, -, -, -, b7⟩ := G
  cases a1.symm.trans b1
  cases a2.symm.trans b2
  cases a7.symm.trans b7
end OwnV
/-! String constants under a held word that is carried by its addresses: a text that this walk has interned may be loaded again, by any class -/
section OwnH
open Jvm.Free.SB Jvm.Free.SBG
variable {p : Program} {l : Launch} {e : Env} {R : Room} {s : State} {m : MethodId} {args : Array Value} {below : List Frame} {meth : Method} {c : Code} {T : State} {locs : List Loc} {cells slots : Nat} {Z U W : State} {a0 : Array Value} {h h' : Heap} {vm0 vm1 : Vm} {own text : String} {index : Nat} {a b x : Addr} {ca cb : Cell} {Ps : List (Array UInt16 × Addr)}
def Cel (h : Heap) (a : Addr) (c : Cell) : Prop := h[a]? = some c
theorem Cel.ext (F : Cel h a ca) (E : Ext h h') : Cel h' a ca := E.2 a ca F
theorem Cel.keep {ws : List Addr} (F : Cel h a ca) (K : Keep h h' ws) (q : a ∉ ws) : Cel h' a ca := K.2.1 a ca F q
theorem Cel.other {sl : Nat} {v : Value} (F : Cel h a ca) (W : Wr h h' x sl v) (q : a ≠ x) : Cel h' a ca := by
  obtain ⟨cell, -, -, -, rfl⟩ := W
  show (h.setIfInBounds x _)[a]? = some ca
  rw [Array.getElem?_setIfInBounds_ne (Ne.symm q)]
  exact F
theorem Cel.lt (F : Cel h a ca) : a < h.size := (Array.getElem?_eq_some_iff.mp F).1
/-- wherever these two cells lie, a is a Latin-1 String of the units u -/
def OwnSk (Z : State) (a b : Addr) (ca cb : Cell) (u : Array UInt16) : Prop := ∀ U : State, Z.vm.Alike U.vm → Cel U.heap a ca → Cel U.heap b cb → SlOf U a u
/-- what the intern table finds: what it found at the start, or one of Ps -/
def OwnI (Z : State) (vm : Vm) (Ps : List (Array UInt16 × Addr)) : Prop := ∀ (u : Array UInt16) (a : Addr), vm.interned.find? (fun p => p.1 == u) = some (u, a) → Z.vm.interned.find? (fun p => p.1 == u) = some (u, a) ∨ (u, a) ∈ Ps
theorem OwnI.start : OwnI Z Z.vm [] := fun _ _ q => Or.inl q
theorem own_iH (I : OwnI Z s.vm Ps) (w : s.WarmedH vm1) : OwnI Z vm1 Ps := fun u a q => I u a (by rw [← w.interned_eq]; exact q)
theorem own_ibH' {Ts : List String} (I : IB Z s.vm Ts) (w : s.WarmedH vm1) : IB Z vm1 Ts := by
  obtain ⟨more, a, b⟩ := I
  exact ⟨more, w.interned_eq.trans a, b⟩
theorem own_slFacts {u : Array UInt16} (hal : Z.vm.Alike W.vm) (hs : SlOf W a u) (htext : utf16ToString? u = some text) {vs : List Value} {z : Int32} (ht : (∀ c ∈ text.toList, c.toNat < 256) ∧ text.toList.map (fun c => Value.int (Jvm.Lit.byteI c.toNat.toUInt16)) = vs) (hz : ¬ z < 0) (hl : z.toNatClampNeg = vs.length) :
    ∃ (b : Addr) (k : ClassId) (ca cb : Cell), Exa Z W.heap a "java/lang/String" ∧ Fld Z W.heap a "java/lang/String" "coder" "B" (.int 0) ∧ Fld Z W.heap a "java/lang/String" "value" "[B" (.ref b) ∧ Arv Z W.heap b k .byte z vs (.int 0) ∧ Cel W.heap a ca ∧ Cel W.heap b cb ∧ OwnSk Z a b ca cb u := by
  obtain ⟨q, cS, rfl, hSl, ⟨kS, k1, k2, k3⟩, hB, hbyt⟩ := hs
  have hall := hSl
  obtain ⟨⟨s1, s2, s3, fv, fc, s6, s7, s8, s9, s10, ⟨hst, kA, hkA, comp, hkind⟩, s12, s13, s14, s15, s16⟩, hfS, hcS⟩ := hall
  have hla := hal.symm
  obtain ⟨kZ, hkZ, ekZ⟩ := hla.2.2 _ _ k1
  obtain ⟨kB, hkB, ekB⟩ := hla.2.2 _ _ hkA
  obtain ⟨cv, kv, iv, v1, v2⟩ := found_asg hla fv
  obtain ⟨cc, kc, ic, c1, c2⟩ := found_asg hla fc
  have hlat := Jvm.ClassFile.lat_of_text htext ht.1
  have eu : vs = u.toList.map fun x => Value.int (Jvm.Lit.byteI x) := by rw [← ht.2, Jvm.ClassFile.units_of_text htext ht.1, List.map_map]; rfl
  have el : vs.length = u.size := by rw [eu]; simp
  have hsl : q.SA.slots = u.map fun x => Value.int (Jvm.Lit.byteI x) := by rw [hbyt, SBG.stringBytes_lat hlat]; rfl
  have hsz : q.SA.slots.size = u.size := by rw [hsl, Array.size_map]
  have H : Has q.SA vs (.int 0) := fun j hj => by
    have hj' : j < u.size := by omega
    rw [hsl, eu]; simp [hj']
  refine ⟨q.sd, q.SA.cls, q.sC, q.SA, ⟨q.sC, kZ, s1, by rw [hcS, ← hal.findClass]; exact hfS, by rw [hcS]; exact hkZ, s3, fun _ => by rw [k3, ekZ]⟩, ⟨q.sC, cc, kc, ic, q.fSC, s1, c1, s7, s2, s3, c2, s9⟩, ⟨q.sC, cv, kv, iv, q.fSV, s1, v1, s6, s2, s3, v2, s8⟩, ⟨q.SA, ⟨s10, ⟨hst, kB, hkB, comp, by rw [ekB]; exact hkind⟩, s12⟩, rfl, by rw [hsz, hl, el], hz, H, fun j hj => ?_⟩, s1, s10, ?_⟩
  · have e1 := s16 j hj
    rw [SBG.getD_of (H j hj)] at e1
    exact e1
  · intro U hU hca hcb
    have hWU : W.vm.Alike U.vm := hla.trans hU
    obtain ⟨kU, hkU, ekU⟩ := hWU.2.2 _ _ k1
    exact ⟨q, cS, rfl, hSl.carry hWU hca hcb, ⟨kU, hkU, by rw [ekU]; exact k2, by rw [ekU]; exact k3⟩, by rw [hWU.findClass]; exact hB, hbyt⟩
/-- the held word at a later state: an address that the table or the pool has come to name since lies in Ps -/
theorem own_held (hW : Z.Warmed39 U.vm) (w : (Cond.stringLink own index text).before a0 Z = true) (I : OwnI Z U.vm Ps) (hkeep : ∀ (b : Addr) (cl : Cell), Z.heap[b]? = some cl → U.heap[b]? = some cl) (hH : ConstHeldL Z own index) (hSl : ∀ q ∈ Ps, utf16ToString? q.1 = some text → SlOf U q.2 q.1) : ConstHeldL U own index := by
  intro d k' cf i u y hd hk' hcf' hp hu hor
  have hal : Z.vm.Alike U.vm := hW.alike
  have hdZ : Z.vm.findClass own = some d := by rw [← hal.findClass]; exact hd
  obtain ⟨k, cf0, i0, u0, hk, hcf, hp0, hu0, hnm, htext, -⟩ := Cond.stringLink_spec hdZ w
  obtain ⟨k2, hk2, hke, -, ee, -⟩ := hW.2.2.2 d k hk
  cases hk'.symm.trans hk2
  have hcfk : k'.cf = k.cf := by rw [hke]
  cases (hcfk ▸ hcf').symm.trans hcf
  cases hp.symm.trans hp0
  cases hu.symm.trans hu0
  have key : ∀ y, k.resolved[index]? = some none → U.vm.interned.find? (fun p => p.1 == u) = some (u, y) → SlOf U y u := fun y hop hf => by
    rcases I u y hf with q | q
    · exact (hH d k cf i u y hdZ hk hcf hp hu (Or.inr ⟨hop, q⟩)).moved hal hkeep
    · exact hSl _ q htext
  rcases ee index with e0 | ⟨hop, r, e1, hr | ⟨y3, t3, i3, u3, rfl, -, q3, q4, q5⟩⟩
  · rcases hor with h0 | ⟨h0, hf⟩
    · exact (hH d k cf i u y hdZ hk hcf hp hu (Or.inl (e0 ▸ h0))).moved hal hkeep
    · exact key y (e0 ▸ h0) hf
  · exfalso
    cases r <;> simp [State.rightAt, hk, hcf, hnm] at hr
  · rw [hcf] at q3 q4
    obtain rfl : i3 = i := by simpa using q3.symm.trans hp
    obtain rfl : u3 = u := by simpa [ConstantPool.utf8?, hu] using q4.symm
    rcases hor with h0 | ⟨h0, -⟩
    · obtain rfl : y3 = y := by simpa using e1.symm.trans h0
      exact key y3 hop q5
    · simp [e1] at h0
theorem own_ldcH (X : Stand p l e R (s.setVm vm0) m args below meth c T locs cells slots) (hx : p.tables.exec = Jvm.exec) (hZ : Z.Warmed39 vm0) (hown : vm0.findClass own = some m.cls) (w : (Cond.stringLink own index text).before a0 Z = true) (wS : ∀ a ∈ Bundle.stringAtoms, a.before a0 Z = true)
    (eT : T.heap = h) {k0 : Nat} (hS : s.Since vm0 k0) (hk : k0 ≤ h.size) (N : Fr s.heap.size locs) (hH : ConstHeldL (s.setVm vm0) own index) (I : OwnI Z vm0 Ps)
    {vs : List Value} {z : Int32} (ht : (∀ c ∈ text.toList, c.toNat < 256) ∧ text.toList.map (fun c => Value.int (Jvm.Lit.byteI c.toNat.toUInt16)) = vs) (hz : ¬ z < 0) (hl : z.toNatClampNeg = vs.length)
    {g : JFrame} (hg : g.method = m) (hd : decode c.code g.pc = .ok (.ldc index, 2)) {n : Nat} (hn : 4 * text.toList.length ≤ n) (hbig : n ≤ 536870912) (hc : cells + 2 ≤ R.cells) (hl' : slots + (n + 4) ≤ R.slots) :
    ∃ (a : Addr) (T' : State) (h' : Heap) (k1 : Nat) (b : Addr) (k : ClassId) (ca cb : Cell) (u : Array UInt16), Stand p l e R (s.setVm T'.vm) m args below meth c T' locs (cells + 2) (slots + (n + 4)) ∧ T'.heap = h' ∧ Ext h h' ∧ s.Since T'.vm k1 ∧ k1 ≤ h'.size ∧ Z.Warmed39 (s.setVm T'.vm).vm ∧ (s.setVm T'.vm).vm.findClass own = some m.cls ∧
      Exa Z h' a "java/lang/String" ∧ Fld Z h' a "java/lang/String" "coder" "B" (.int 0) ∧ Fld Z h' a "java/lang/String" "value" "[B" (.ref b) ∧ Arv Z h' b k .byte z vs (.int 0) ∧ Cel h' a ca ∧ Cel h' b cb ∧ OwnSk Z a b ca cb u ∧ utf16ToString? u = some text ∧ OwnI Z T'.vm ((u, a) :: Ps) ∧ (∀ Ts, IB s vm0 Ts → IB s T'.vm (text :: Ts)) ∧ Lit (s.setVm T'.vm) own index a ∧
      ∀ target, Steps p.tables e below (T'.setTop { g with pc := g.pc + 2, stack := .ref a :: g.stack }) target → Steps p.tables e below (T.setTop g) target := by
  obtain ⟨k, cf, i, u, hkz, hcf, hp, hu, hnm, htext, -⟩ := Cond.stringLink_spec (s := s.setVm vm0) hown (mvS (s := s.setVm vm0) (args := #[]) hZ w)
  have hTi : T.vm.interned = vm0.interned := X.warmed.interned_eq
  have hkz' : vm0.classes[m.cls]? = some k := hkz
  by_cases hy : ∃ a, Lit (s.setVm vm0) own index a
  · obtain ⟨a, L⟩ := hy
    have hres : k.resolved[index]? = some (some (.string a)) := by
      have L' : (s.setVm vm0).resolvedAt? own index = some (.string a) := L
      have L2 : (k.resolved[index]?).bind id = some (.string a) := by simpa [State.resolvedAt?, hown, hkz', Option.join] using L'
      cases hq : k.resolved[index]? with
      | none => simp [hq] at L2
      | some o => simpa [hq] using L2
    have hs : SlOf T a u := (hH m.cls k cf i u a hown hkz hcf hp hu (Or.inl hres)).moved X.warmed.alike (oldF X N)
    have hal : Z.vm.Alike T.vm := hZ.alike.trans X.warmed.alike
    obtain ⟨b, kb, ca, cb, f1, f2, f3, f4, f5, f6, f7⟩ := own_slFacts hal hs htext ht hz hl
    subst eT
    exact ⟨a, T, _, _, b, kb, ca, cb, u, (X.mono (by omega) (by omega)).retabled X.warmed.wide, rfl, ⟨Nat.le_refl _, fun _ _ q => q⟩, hS.trans (X.warmed.since T.heap.size) hk, Nat.le_refl _, State.Warmed39.trans (t := s.setVm vm0) hZ X.warmed.wide,
      by rw [show (s.setVm T.vm).vm = T.vm from rfl, X.warmed.alike.findClass]; exact hown, f1, f2, f3, f4, f5, f6, f7, htext, fun u' y hf => (I u' y (by rw [← hTi]; exact hf)).imp id (List.mem_cons_of_mem _), fun Ts J => IB.step J (Or.inl hTi), Lit.stays L X.warmed.wide, ldcAgain X hx hZ hown w L hg hd⟩
  · obtain ⟨a, T', X', hS', ⟨kk, hkk, hrr⟩, hb, -, hint, ⟨u2, htext2, hin⟩, st⟩ := X.ldcColdF (oldF X N) hx (own := own) hown (mvS hZ w) (fun d hd => by
      have q := wS d hd
      simp only [Bundle.stringAtoms, List.mem_cons, List.not_mem_nil, or_false] at hd
      rcases hd with rfl | rfl | rfl | rfl | rfl | rfl | rfl
      iterate 2 exact mv (s := s.setVm vm0) hZ q
      exact mvA (s := s.setVm vm0) hZ q
      iterate 4 exact mv (s := s.setVm vm0) hZ q) hH (fun v hv => Jvm.ClassFile.lat_of_text hv ht.1) hg hd hn hbig hc hl'
    have same : ∀ v : Array UInt16, utf16ToString? v = some text → v = u := fun v hv => Array.ext' ((Jvm.ClassFile.units_of_text hv ht.1).trans (Jvm.ClassFile.units_of_text htext ht.1).symm)
    obtain rfl : u2 = u := same u2 htext2
    have hs : SlOf T' a u2 := by
      obtain ⟨q, cS, g1, g2, g3, g4, g5, -⟩ := hin
      exact ⟨q, cS, g1, g2, g3, g4, g5⟩
    have hW : Z.Warmed39 T'.vm := State.Warmed39.trans (t := s.setVm vm0) hZ hS'.1
    obtain ⟨b, kb, ca, cb, f1, f2, f3, f4, f5, f6, f7⟩ := own_slFacts hW.alike hs htext ht hz hl
    have hfa : T'.vm.interned.find? (fun p => p.1 == u2) = some (u2, a) := by
      obtain ⟨k2, hk2, hke, -, ee, -⟩ := hS'.1.2.2.2 m.cls k hkz
      cases hkk.symm.trans hk2
      rcases ee index with e0 | ⟨hop, r, e1, hr | ⟨y3, t3, i3, u3, rfl, -, q3, q4, q5⟩⟩
      · exfalso
        refine hy ⟨a, ?_⟩
        show (s.setVm vm0).resolvedAt? own index = some (.string a)
        have e2 : k.resolved[index]? = some (some (.string a)) := e0 ▸ hrr
        simp [State.resolvedAt?, hown, hkz', e2]
      · exfalso
        cases r <;> simp [State.rightAt, hkz', hcf, hnm] at hr
      · rw [hcf] at q3 q4
        obtain rfl : i3 = i := by simpa using q3.symm.trans hp
        obtain rfl : u3 = u2 := by simpa [ConstantPool.utf8?, hu] using q4.symm
        obtain rfl : y3 = a := by simpa using e1.symm.trans hrr
        exact q5
    subst eT
    have E := ext_of hb
    refine ⟨a, T', _, _, b, kb, ca, cb, u2, X', rfl, E, hS.trans hS' (Nat.le_trans hk E.1), Nat.le_refl _, hW, by rw [show (s.setVm T'.vm).vm = T'.vm from rfl, hS'.1.alike.findClass]; exact hown, f1, f2, f3, f4, f5, f6, f7, htext, fun u' y hf => ?_, fun Ts J => IB.step J (by rw [← hTi]; exact hint), ?_, st⟩
    · by_cases hq : u' = u2
      · subst hq
        have : y = a := by simpa using hf.symm.trans hfa
        subst this
        exact Or.inr (List.mem_cons_self ..)
      · refine (I u' y ?_).imp id (List.mem_cons_of_mem _)
        rw [← hTi]
        rcases hint with e1 | ⟨u3, y3, ht3, e1⟩
        · rw [← e1]; exact hf
        · obtain rfl := same u3 ht3
          rw [e1, Array.find?_push] at hf
          have hne : (u3 == u') = false := by simpa using fun z => hq z.symm
          simpa [hne] using hf
    · have hf : T'.vm.findClass own = some m.cls := by rw [hS'.1.alike.findClass]; exact hown
      simp [Lit, State.resolvedAt?, hf, hkk, hrr]
theorem own_backHC {y : MethodName} {bytes : ByteArray} {maxL : Nat} {ret : Option FieldType} {rm : Room} {len W : Nat} {as' : Array Value} {Q : Option Value → Vm → Heap → List Loc → Prop} {C : List (String × Nat)}
    (hM : MetFree l y (head1 [Cond.code y bytes maxL ret] rm) (fun a U => a = as' ∧ Z.Warmed39 U.vm ∧ U.heap = h ∧ OwnI Z U.vm Ps ∧ ∀ c ∈ C, ConstHeldL U c.1 c.2) (fun _ _ _ _ _ => True) (fun _ U o U' => ∃ v L, o = .returned v ∧ Q v U'.vm U'.heap L ∧ ReturnedEndW U o U' L rm.cells rm.slots))
    (hZ : Z.Warmed39 s.vm) (I : OwnI Z s.vm Ps) (hC : ∀ U : State, Z.Warmed39 U.vm → s.WarmedH U.vm → U.heap = h → ∀ c ∈ C, ConstHeldL U c.1 c.2) (wc : (Cond.code y bytes maxL ret).before a0 Z = true) (wz : (Cond.initialized y.cls).before a0 Z = true) (hf : rm.frames + 1 ≤ R.frames) (hl : W + (maxL + 11) + rm.locals ≤ R.locals) :
    BackS l R p e below s args y len W (fun A a => a = as' ∧ A.U.heap = h ∧ A.cells + rm.cells ≤ R.cells ∧ A.slots + rm.slots ≤ R.slots)
      (fun A _ v B => ∃ L, Q v B.U.vm B.U.heap L ∧ B.locs = A.locs ++ L ∧ B.cells = A.cells + rm.cells ∧ B.slots = A.slots + rm.slots) :=
  BackS.of_freeW (bytes := bytes) (maxL := maxL) (ret := ret) (E := fun _ _ o t L k n => k = rm.cells ∧ n = rm.slots ∧ ∃ v, o = .returned v ∧ Q v t.vm t.heap L) hM hf hl
    (fun m meth c A a Y hp => have hU : Z.Warmed39 A.U.vm := wtrans hZ Y.warmed
      ⟨by show (Cond.and _ .tt).before a A.U = true; rw [Cond.before_and, mv hU wc]; rfl, mv hU wc, mv hU wz, hp.2.2.1, hp.2.2.2⟩)
    (fun m meth c A a g mk Y hp => ⟨hp.1, wtrans hZ Y.warmed, hp.2.1, own_iH I Y.warmed, hC (A.U.calling g mk a) (wtrans hZ Y.warmed) Y.warmed hp.2.1⟩) (fun _ _ _ _ _ _ _ _ _ => trivial)
    (fun _ _ _ _ ⟨v, L, h1, h2, h3⟩ => ⟨L, _, _, h3, rfl, rfl, v, h1, h2⟩)
    (fun m meth c A a g mk v t L k n Y hp _ _ ⟨e1, e2, v', e3, e4⟩ => by cases e3; subst e1 e2; exact ⟨L, e4, rfl, rfl, rfl⟩)
theorem own_heldMv (hW : s.WarmedH U.vm) (w : (Cond.stringLink own index text).before a0 s = true) (hh : U.heap = s.heap) (hH : ConstHeldL s own index) : ConstHeldL U own index :=
  own_held (Ps := []) hW.wide w (own_iH OwnI.start hW) (fun b cl q => by rw [hh]; exact q) hH (fun q hq => by cases hq)
end OwnH
theorem Go.s {p : Program} {e : Env} {below : List Frame} {s S S' : State} {rc rs : Nat} {Q : Option Value → Heap → List Loc → Prop} (k : ∀ {t}, Steps p.tables e below S' t → Steps p.tables e below S t) (g : Go p e below s rc rs Q S') : Go p e below s rc rs Q S := Go.st (fun _ q => k q) g
theorem GoW.s {p : Program} {e : Env} {below : List Frame} {s S S' : State} {rc rs : Nat} {Q : Option Value → Heap → List Loc → Prop} (k : ∀ {t}, Steps p.tables e below S' t → Steps p.tables e below S t) (g : GoW p e below s rc rs Q S') : GoW p e below s rc rs Q S := GoW.st (fun _ q => k q) g
theorem GoV.s {p : Program} {e : Env} {below : List Frame} {s S S' : State} {rc rs : Nat} {Q : Option Value → Vm → Heap → List Loc → Prop} (k : ∀ {t}, Steps p.tables e below S' t → Steps p.tables e below S t) (g : GoV p e below s rc rs Q S') : GoV p e below s rc rs Q S := GoV.st (fun _ q => k q) g
abbrev mN0 : MethodName := ⟨"java/lang/StringUTF16", "newBytesLength", "(I)I"⟩
abbrev mN1 : MethodName := ⟨"java/lang/StringUTF16", "putChar", "([BII)V"⟩
abbrev mN2 : MethodName := ⟨"java/lang/StringUTF16", "getChar", "([BI)C"⟩
abbrev mN3 : MethodName := ⟨"java/lang/StringUTF16", "compress", "([CI[BII)I"⟩
abbrev mN4 : MethodName := ⟨"java/lang/StringUTF16", "newBytesFor", "(I)[B"⟩
abbrev mN5 : MethodName := ⟨"java/lang/StringUTF16", "toBytes", "([CII)[B"⟩
abbrev mN6 : MethodName := ⟨"java/lang/StringUTF16", "compress", "([CII)[B"⟩
abbrev mN7 : MethodName := ⟨"java/lang/StringUTF16", "coderFromArrayLen", "([BI)B"⟩
abbrev mN8 : MethodName := ⟨"java/lang/String", "<init>", "([CIILjava/lang/Void;)V"⟩
abbrev mN9 : MethodName := ⟨"java/lang/String", "<init>", "([C)V"⟩
abbrev mN10 : MethodName := ⟨"com/example/rootward/rootward/model/ShortestPathTreeCompareCodePointsPinLaw", "text", "([CI)Ljava/lang/String;"⟩
abbrev mN11 : MethodName := ⟨"com/example/rootward/rootward/model/ShortestPathTreeCompareCodePointsPinLaw", "put", "([CII)I"⟩
abbrev mN12 : MethodName := ⟨"com/example/rootward/rootward/model/ShortestPathTreeCompareCodePointsPinLaw", "encode", "(III)Ljava/lang/String;"⟩
abbrev mN13 : MethodName := ⟨"java/lang/StringUTF16", "length", "([B)I"⟩
abbrev mN14 : MethodName := ⟨"jdk/internal/util/Preconditions", "checkIndex", "(IILjava/util/function/BiFunction;)I"⟩
abbrev mN15 : MethodName := ⟨"java/lang/String", "checkIndex", "(II)V"⟩
abbrev mN16 : MethodName := ⟨"java/lang/StringUTF16", "checkIndex", "(I[B)V"⟩
abbrev mN17 : MethodName := ⟨"java/lang/StringUTF16", "charAt", "([BI)C"⟩
abbrev mN18 : MethodName := ⟨"java/lang/String", "isLatin1", "()Z"⟩
abbrev mN19 : MethodName := ⟨"java/lang/String", "charAt", "(I)C"⟩
abbrev mN20 : MethodName := ⟨"java/lang/Character", "isHighSurrogate", "(C)Z"⟩
abbrev mN21 : MethodName := ⟨"java/lang/Character", "isLowSurrogate", "(C)Z"⟩
abbrev mN22 : MethodName := ⟨"java/lang/Character", "toCodePoint", "(CC)I"⟩
abbrev mN23 : MethodName := ⟨"java/lang/StringUTF16", "codePointAt", "([BIIZ)I"⟩
abbrev mN24 : MethodName := ⟨"java/lang/StringUTF16", "codePointAt", "([BII)I"⟩
abbrev mN25 : MethodName := ⟨"java/lang/String", "codePointAt", "(I)I"⟩
abbrev mN26 : MethodName := ⟨"java/lang/Math", "min", "(II)I"⟩
abbrev mN27 : MethodName := ⟨"java/lang/Integer", "compare", "(II)I"⟩
abbrev mN28 : MethodName := ⟨"com/example/rootward/rootward/model/ShortestPathTree", "compareCodePoints", "(Ljava/lang/String;Ljava/lang/String;)I"⟩
abbrev mN29 : MethodName := ⟨"java/lang/String", "length", "()I"⟩
abbrev mN30 : MethodName := ⟨"com/example/rootward/rootward/model/ShortestPathTreeCompareCodePointsPinLaw", "scalar", "(I)I"⟩
abbrev mN31 : MethodName := ⟨"com/example/rootward/rootward/model/ShortestPathTreeCompareCodePointsPinLaw", "reference", "(IIIIII)I"⟩
abbrev mN32 : MethodName := ⟨"com/example/rootward/rootward/model/ShortestPathTreeCompareCodePointsPinLaw", "sign", "(I)I"⟩
set_option maxRecDepth 65536
set_option maxHeartbeats 40000000
theorem own_lt (x y : Int32) : (x < y) = (x.toInt < y.toInt) := propext Int32.lt_iff_toInt_lt
theorem own_eq (x y : Int32) : (x = y) = (x.toInt = y.toInt) := propext Int32.toInt_inj.symm
theorem own_rem (x k : Int32) (hk : 0 < k.toInt) : ¬ ((x &&& 2147483647) % k < 0) ∧ (x &&& 2147483647) % k < k := by
  have h1 := c_mask x 2147483647 31 (by decide) (by decide)
  have h2 := c_iremV (x &&& 2147483647) k
  have h3 : 0 ≤ (x &&& 2147483647).toInt := by rw [h1]; exact Int.emod_nonneg _ (by decide)
  have h4 := h2.1 h3 hk
  rw [own_lt, own_lt]
  have h5 : (0 : Int32).toInt = 0 := rfl
  omega
section OwnT
variable {s : State} {ar : Array Value}
theorem own_fldR {t : Term} {x y : Addr} {C n d : String} (ht : t.eval ar s none [] s = some (.ref x)) (e : (Term.field t C n d).eval ar s none [] s = some (.ref y)) : Fld s s.heap x C n d (.ref y) := Fld.start ((fld_at ht).symm.trans e)
theorem own_int {t : Term} {k : Int32} (q : (Jvm.Cond.eq t (.int k)).value ar s none s [] = some true) : t.eval ar s none [] s = some (.int k) := by
  obtain ⟨u, w, e1, e2, -, k2⟩ := cmp_v (Or.inl q)
  have e3 : (Term.int k).eval ar s none [] s = some (.int k) := Term.int_eval k
  rw [e3] at e2
  obtain rfl := Option.some.inj e2
  obtain ⟨z, rfl⟩ := k2
  have e4 : z = k := gotT (Cond.eq_ints e1 e3) q
  subst e4
  exact e1
theorem own_lenv {t : Term} {x : Addr} {cl : Cell} {ty : FieldType} {n : Int32} (ev : t.eval ar s none [] s = some (.ref x)) (A : Arr s s.heap x cl ty) (q : (Jvm.Cond.eq (.length t) (.int n)).value ar s none s [] = some true) : cl.slots.size < 2 ^ 31 ∧ cl.slots.size.toInt32 = n := by
  have e1 := own_int q
  obtain ⟨a, cell, h1, h2, h3⟩ := Term.length_spec e1
  cases ev.symm.trans h1
  have h4 : s.arrayAt? x = some cl := A.fin (Vm.Alike.refl _)
  cases h2.symm.trans h4
  refine ⟨?_, (Value.int.inj h3).symm⟩
  by_cases hlt : cl.slots.size < 2147483648
  · exact hlt
  · exfalso
    simp [Term.eval, h1, h4, hlt] at e1
theorem own_elemv {t : Term} {x : Addr} {cl : Cell} {ty : FieldType} {i k : Int32} (ev : t.eval ar s none [] s = some (.ref x)) (A : Arr s s.heap x cl ty) (q : (Jvm.Cond.eq (.elem t (.int i)) (.int k)).value ar s none s [] = some true) : cl.slots[i.toNatClampNeg]? = some (.int k) :=
  (elem_in (own_int q) ev (Term.int_eval i) A.1).2
end OwnT
theorem own_nbl (c : Int32) : nar .byte c.toInt8.toInt32 = StrChars.lo8 c := Value.int.inj (XT.narrow_b c)
theorem own_plo (c : Int32) : nar .byte ((c >>> ((0 : Int32) &&& 31)).toInt8.toInt32) = StrChars.lo8 c := by rw [StrChars.shr0]; exact own_nbl c
theorem own_phi (c : Int32) : nar .byte ((c >>> ((8 : Int32) &&& 31)).toInt8.toInt32) = StrChars.hi8 c := own_nbl _
theorem own_n16 {c : Int32} (h : ¬ c < 0 ∧ ¬ (65535 : Int32) < c) : nar .char c = c := Value.int.inj (StrChars.narrow_ch h.1 h.2)
theorem own_pair {c : Int32} (h : ¬ c < 0 ∧ ¬ (65535 : Int32) < c) : nar .char (StrChars.pairCh (StrChars.lo8 c) (StrChars.hi8 c)) = c := by rw [StrChars.pair_says h.1 h.2]; exact own_n16 h
theorem dnl_0 : decode jdk_52_method_3_code 0 = .ok (.iload_n 0, 1) := by decide +kernel
theorem dnl_1 : decode jdk_52_method_3_code 1 = .ok (.ifCond .ge 11, 3) := by decide +kernel
theorem dnl_12 : decode jdk_52_method_3_code 12 = .ok (.iload_n 0, 1) := by decide +kernel
theorem dnl_13 : decode jdk_52_method_3_code 13 = .ok (.ldc 20, 2) := by decide +kernel
theorem dnl_15 : decode jdk_52_method_3_code 15 = .ok (.if_icmp .lt 40, 3) := by decide +kernel
theorem dnl_55 : decode jdk_52_method_3_code 55 = .ok (.iload_n 0, 1) := by decide +kernel
theorem dnl_56 : decode jdk_52_method_3_code 56 = .ok (.iconst 1, 1) := by decide +kernel
theorem dnl_57 : decode jdk_52_method_3_code 57 = .ok (.ishl, 1) := by decide +kernel
theorem dnl_58 : decode jdk_52_method_3_code 58 = .ok (.ireturn, 1) := by decide +kernel
theorem pnnl : plainName "java/lang/StringUTF16" = true := by first | (simp [plainName, overriddenIn]; done) | decide +kernel
theorem efnl (m : MethodId) (x0 : Int32) : entryFrame m #[(.int x0)] 1 = mkF m 0 #[.val (.int x0)] [] := by first | (simp [entryFrame, mkF, argsToLocals, Value.category, maxLocals]; done) | rfl
def Qnl (Z : State) (z : Int32) (h0 : Heap) (n0 : Nat) (v : Option Value) (h : Heap) (L : List Loc) : Prop := v = some (.int (z <<< ((1 : Int32) &&& 31))) ∧ Fr n0 L ∧ h = h0
theorem rmnl (l : Launch) (Z : State) (a0 : Array Value) (hw : ∀ d ∈ tables_1, d.before a0 Z = true) (ws : List Jvm.Cond) (z : Int32) (h0 : Heap) (n0 : Nat) (O0 : Old Z n0 h0) (hz1 : ¬ z < 0) (hz2 : z < (1073741823 : Int32)) :
  MetFree l mN0 (head1 (Jvm.Cond.code mN0 jdk_52_method_3_code 1 (some .int) :: ws) ({ frames := 0, cells := 0, slots := 0, locals := 0 } : Room)) (fun A_ U_ => A_ = #[(.int z)] ∧ Z.Warmed39 U_.vm ∧ U_.heap = h0) (fun _ _ _ _ _ => True) (fun _ U o U' => ∃ v L, o = .returned v ∧ Qnl Z z h0 n0 v U'.heap L ∧ FrameEnd U o U' L ({ frames := 0, cells := 0, slots := 0, locals := 0 } : Room).cells ({ frames := 0, cells := 0, slots := 0, locals := 0 } : Room).slots) := by
 refine MetFree.of_bodySF (plainFor_of_name pnnl) hisR ?_
 intro p e s m args below meth cd s₁ Bd hml0 hP hK
 obtain ⟨rfl, hZ, hh⟩ := hP
 have hx := Bd.exec
 have hby := Bd.bytes
 have hlk : meth.locks = false := BodyLoose.notSynchronized Bd
 have hml : cd.maxLocals = 1 := hml0
 have hown : s.vm.findClass "java/lang/StringUTF16" = some m.cls := findClass_of_methodNamed Bd.named
 have X0 : Stand p l e ({ frames := 0, cells := 0, slots := 0, locals := 0 } : Room) s m #[(.int z)] below meth cd s₁ [] 0 0 := Stand.of_body Bd
 have e0 : s₁.heap = h0 := by rw [← hh, Bd.state]; rfl
 have N0 := Fr.nil n0
 have G : Go p e below s 0 0 (Qnl Z z h0 n0) (s₁.setTop (mkF m 0 #[.val (.int z)] [])) := by
  refine Go.s (XS.iloadN X0.here hx rfl (hb hby dnl_0) rfl) ?_
  refine Go.s (XS.ifYes X0.here hx rfl (pc0 := 1) (pc' := 12) rfl (hb hby dnl_1) rfl (XT.i0_ge_t hz1) (by decide) (by decide)) ?_
  show Go p e below s _ _ _ (s₁.setTop (mkF m 12 #[.val (.int z)] []))
  refine Go.s (XS.iloadN X0.here hx rfl (hb hby dnl_12) rfl) ?_
  refine Go.s (X0.ldcI hx hown (mvT hZ (own_w hw 117 rfl)) rfl (hb hby dnl_13)) ?_
  show Go p e below s _ _ _ (s₁.setTop (mkF m 15 #[.val (.int z)] [(.int 1073741823), (.int z)]))
  refine Go.s (XS.icmpYes X0.here hx rfl (pc0 := 15) (pc' := 55) rfl (hb hby dnl_15) rfl (XT.ii_lt_t hz2) (by decide) (by decide)) ?_
  show Go p e below s _ _ _ (s₁.setTop (mkF m 55 #[.val (.int z)] []))
  refine Go.s (XS.iloadN X0.here hx rfl (hb hby dnl_55) rfl) ?_
  refine Go.s (XS.iconst X0.here hx rfl (hb hby dnl_56)) ?_
  refine Go.s (XT.ishl X0.here hx rfl (hb hby dnl_57) rfl) ?_
  show Go p e below s _ _ _ (s₁.setTop (mkF m 58 #[.val (.int z)] [(.int (z <<< ((1 : Int32) &&& 31)))]))
  exact Go.ret X0 hlk (some (.int (z <<< ((1 : Int32) &&& 31)))) (fun h => by rw [Bd.returns] at h; cases h) (by rw [e0]; exact ⟨rfl, N0, rfl⟩) (by decide) (by decide) (fun fs hr => retI X0 hx Bd.returns (hb hby dnl_58) hr)
 obtain ⟨s2, o2, st2, r2⟩ := G
 exact ⟨s2, o2, castTop (efnl m z) st2, r2⟩
theorem dpc_0 : decode jdk_52_method_4_code 0 = .ok (.getstatic 44, 3) := by decide +kernel
theorem dpc_3 : decode jdk_52_method_4_code 3 = .ok (.ifCond .ne 25, 3) := by decide +kernel
theorem dpc_28 : decode jdk_52_method_4_code 28 = .ok (.iload_n 1, 1) := by decide +kernel
theorem dpc_29 : decode jdk_52_method_4_code 29 = .ok (.iconst 1, 1) := by decide +kernel
theorem dpc_30 : decode jdk_52_method_4_code 30 = .ok (.ishl, 1) := by decide +kernel
theorem dpc_31 : decode jdk_52_method_4_code 31 = .ok (.istore_n 1, 1) := by decide +kernel
theorem dpc_32 : decode jdk_52_method_4_code 32 = .ok (.aload_n 0, 1) := by decide +kernel
theorem dpc_33 : decode jdk_52_method_4_code 33 = .ok (.iload_n 1, 1) := by decide +kernel
theorem dpc_34 : decode jdk_52_method_4_code 34 = .ok (.iinc 1 1, 3) := by decide +kernel
theorem dpc_37 : decode jdk_52_method_4_code 37 = .ok (.iload_n 2, 1) := by decide +kernel
theorem dpc_38 : decode jdk_52_method_4_code 38 = .ok (.getstatic 59, 3) := by decide +kernel
theorem dpc_41 : decode jdk_52_method_4_code 41 = .ok (.ishr, 1) := by decide +kernel
theorem dpc_42 : decode jdk_52_method_4_code 42 = .ok (.i2b, 1) := by decide +kernel
theorem dpc_43 : decode jdk_52_method_4_code 43 = .ok (.bastore, 1) := by decide +kernel
theorem dpc_44 : decode jdk_52_method_4_code 44 = .ok (.aload_n 0, 1) := by decide +kernel
theorem dpc_45 : decode jdk_52_method_4_code 45 = .ok (.iload_n 1, 1) := by decide +kernel
theorem dpc_46 : decode jdk_52_method_4_code 46 = .ok (.iload_n 2, 1) := by decide +kernel
theorem dpc_47 : decode jdk_52_method_4_code 47 = .ok (.getstatic 63, 3) := by decide +kernel
theorem dpc_50 : decode jdk_52_method_4_code 50 = .ok (.ishr, 1) := by decide +kernel
theorem dpc_51 : decode jdk_52_method_4_code 51 = .ok (.i2b, 1) := by decide +kernel
theorem dpc_52 : decode jdk_52_method_4_code 52 = .ok (.bastore, 1) := by decide +kernel
theorem dpc_53 : decode jdk_52_method_4_code 53 = .ok (.return_, 1) := by decide +kernel
theorem pnpc : plainName "java/lang/StringUTF16" = true := by first | (simp [plainName, overriddenIn]; done) | decide +kernel
theorem efpc (m : MethodId) (x0 : Addr) (x1 : Int32) (x2 : Int32) : entryFrame m #[(.ref x0), (.int x1), (.int x2)] 3 = mkF m 0 #[.val (.ref x0), .val (.int x1), .val (.int x2)] [] := by first | (simp [entryFrame, mkF, argsToLocals, Value.category, maxLocals]; done) | rfl
def Qpc (Z : State) (b : Addr) (kb : ClassId) (c : Int32) (N : Int32) (vs : List Value) (j : Int32) (jj : Int32) (i : Nat) (h0 : Heap) (n0 : Nat) (v : Option Value) (h : Heap) (L : List Loc) : Prop := v = none ∧ Fr n0 L ∧ Keep h0 h [b] ∧ Arv Z h b kb .byte N ((vs.set i (.int (StrChars.lo8 c))).set (i + 1) (.int (StrChars.hi8 c))) (.int 0)
theorem rmpc (l : Launch) (Z : State) (a0 : Array Value) (hw : ∀ d ∈ tables_1, d.before a0 Z = true) (ws : List Jvm.Cond) (b : Addr) (kb : ClassId) (c : Int32) (N : Int32) (vs : List Value) (j : Int32) (jj : Int32) (i : Nat) (h0 : Heap) (n0 : Nat) (O0 : Old Z n0 h0) (V_b : Arv Z h0 b kb .byte N vs (.int 0)) (hj : j <<< ((1 : Int32) &&& 31) = jj) (hi : jj.toNatClampNeg = i) (hi1 : (jj + (1 : Int32)).toNatClampNeg = i + 1) (q0 : ¬ jj < 0) (q1 : jj < N) (q2 : ¬ (jj + (1 : Int32)) < 0) (q3 : (jj + (1 : Int32)) < N) (hl : i + 1 < vs.length) (gb : n0 ≤ b) (SA : Sta Z Z.heap "java/lang/StringUTF16" "$assertionsDisabled" "Z" (.int 1)) (SHI : Sta Z Z.heap "java/lang/StringUTF16" "HI_BYTE_SHIFT" "I" (.int 0)) (SLO : Sta Z Z.heap "java/lang/StringUTF16" "LO_BYTE_SHIFT" "I" (.int 8)) :
  MetFree l mN1 (head1 (Jvm.Cond.code mN1 jdk_52_method_4_code 3 none :: ws) ({ frames := 0, cells := 0, slots := 0, locals := 0 } : Room)) (fun A_ U_ => A_ = #[(.ref b), (.int j), (.int c)] ∧ Z.Warmed39 U_.vm ∧ U_.heap = h0) (fun _ _ _ _ _ => True) (fun _ U o U' => ∃ v L, o = .returned v ∧ Qpc Z b kb c N vs j jj i h0 n0 v U'.heap L ∧ FrameEnd U o U' L ({ frames := 0, cells := 0, slots := 0, locals := 0 } : Room).cells ({ frames := 0, cells := 0, slots := 0, locals := 0 } : Room).slots) := by
 refine MetFree.of_bodySF (plainFor_of_name pnpc) hisR ?_
 intro p e s m args below meth cd s₁ Bd hml0 hP hK
 obtain ⟨rfl, hZ, hh⟩ := hP
 have hx := Bd.exec
 have hby := Bd.bytes
 have hlk : meth.locks = false := BodyLoose.notSynchronized Bd
 have hml : cd.maxLocals = 3 := hml0
 have hown : s.vm.findClass "java/lang/StringUTF16" = some m.cls := findClass_of_methodNamed Bd.named
 have X0 : Stand p l e ({ frames := 0, cells := 0, slots := 0, locals := 0 } : Room) s m #[(.ref b), (.int j), (.int c)] below meth cd s₁ [] 0 0 := Stand.of_body Bd
 have e0 : s₁.heap = h0 := by rw [← hh, Bd.state]; rfl
 have N0 := Fr.nil n0
 have K0 : Keep h0 h0 [b] := Keep.refl _ _
 have G : Go p e below s 0 0 (Qpc Z b kb c N vs j jj i h0 n0) (s₁.setTop (mkF m 0 #[.val (.ref b), .val (.int j), .val (.int c)] [])) := by
  obtain ⟨T1, X1, e1, st1⟩ := getS X0 hx hZ hown (host := "") (own_w hw 121 rfl) Via.refl e0 (SA.ext O0.2) (g := (mkF m 0 #[.val (.ref b), .val (.int j), .val (.int c)] [])) rfl (hb hby dpc_0)
  refine Go.st st1 ?_
  show Go p e below s _ _ _ (T1.setTop (mkF m 3 #[.val (.ref b), .val (.int j), .val (.int c)] [(.int 1)]))
  refine Go.s (XS.ifYes X1.here hx rfl (pc0 := 3) (pc' := 28) rfl (hb hby dpc_3) rfl (by decide) (by decide) (by decide)) ?_
  show Go p e below s _ _ _ (T1.setTop (mkF m 28 #[.val (.ref b), .val (.int j), .val (.int c)] []))
  refine Go.s (XS.iloadN X1.here hx rfl (hb hby dpc_28) rfl) ?_
  refine Go.s (XS.iconst X1.here hx rfl (hb hby dpc_29)) ?_
  refine Go.s (XT.ishl X1.here hx rfl (hb hby dpc_30) rfl) ?_
  show Go p e below s _ _ _ (T1.setTop (mkF m 31 #[.val (.ref b), .val (.int j), .val (.int c)] [(.int (j <<< ((1 : Int32) &&& 31)))]))
  rw [hj]
  show Go p e below s _ _ _ (T1.setTop (mkF m 31 #[.val (.ref b), .val (.int j), .val (.int c)] [(.int jj)]))
  refine Go.s (XS.istoreN X1.here hx rfl (hb hby dpc_31) rfl (l' := #[.val (.ref b), .val (.int jj), .val (.int c)]) rfl) ?_
  refine Go.s (XS.aloadN X1.here hx rfl (hb hby dpc_32) rfl rfl) ?_
  refine Go.s (XS.iloadN X1.here hx rfl (hb hby dpc_33) rfl) ?_
  refine Go.s (XT.iincV X1.here hx rfl (1 : Int32) (hb hby dpc_34) rfl rfl (l' := #[.val (.ref b), .val (.int (jj + (1 : Int32))), .val (.int c)]) rfl) ?_
  refine Go.s (XS.iloadN X1.here hx rfl (hb hby dpc_37) rfl) ?_
  obtain ⟨T2, X2, e2, st2⟩ := getS X1 hx hZ hown (host := "") (own_w hw 122 rfl) Via.refl e1 (SHI.ext O0.2) (g := (mkF m 38 #[.val (.ref b), .val (.int (jj + (1 : Int32))), .val (.int c)] [(.int c), (.int jj), (.ref b)])) rfl (hb hby dpc_38)
  refine Go.st st2 ?_
  show Go p e below s _ _ _ (T2.setTop (mkF m 41 #[.val (.ref b), .val (.int (jj + (1 : Int32))), .val (.int c)] [(.int 0), (.int c), (.int jj), (.ref b)]))
  refine Go.s (XT.ishr X2.here hx rfl (hb hby dpc_41) rfl) ?_
  show Go p e below s _ _ _ (T2.setTop (mkF m 42 #[.val (.ref b), .val (.int (jj + (1 : Int32))), .val (.int c)] [(.int (c >>> ((0 : Int32) &&& 31))), (.int jj), (.ref b)]))
  refine Go.s (XT.i2b X2.here hx rfl (hb hby dpc_42) rfl) ?_
  show Go p e below s _ _ _ (T2.setTop (mkF m 43 #[.val (.ref b), .val (.int (jj + (1 : Int32))), .val (.int c)] [(.int ((c >>> ((0 : Int32) &&& 31)).toInt8.toInt32)), (.int jj), (.ref b)]))
  obtain ⟨T3, h3, X3, e3, W3, V3, st3⟩ := own_stB X2 hx hZ e2 V_b (j := jj) q0 q1 (i) hi (Nat.lt_of_succ_lt hl) (g := (mkF m 43 #[.val (.ref b), .val (.int (jj + (1 : Int32))), .val (.int c)] [(.int ((c >>> ((0 : Int32) &&& 31)).toInt8.toInt32)), (.int jj), (.ref b)])) rfl rfl (hb hby dpc_43)
  obtain ⟨lc3, X3, N3⟩ := own_gen X3 (Fr.snoc X3 N0 gb)
  have O3 := O0.wr W3 gb
  have K3 := K0.wr W3 (Or.inl (List.mem_of_getElem? (i := 0) rfl))
  have V_b : Arv Z h3 b kb .byte N (List.set vs (i) (.int (nar .byte ((c >>> ((0 : Int32) &&& 31)).toInt8.toInt32)))) (.int 0) := V3
  refine Go.st st3 ?_
  show Go p e below s _ _ _ (T3.setTop (mkF m 44 #[.val (.ref b), .val (.int (jj + (1 : Int32))), .val (.int c)] []))
  refine Go.s (XS.aloadN X3.here hx rfl (hb hby dpc_44) rfl rfl) ?_
  refine Go.s (XS.iloadN X3.here hx rfl (hb hby dpc_45) rfl) ?_
  refine Go.s (XS.iloadN X3.here hx rfl (hb hby dpc_46) rfl) ?_
  obtain ⟨T4, X4, e4, st4⟩ := getS X3 hx hZ hown (host := "") (own_w hw 123 rfl) Via.refl e3 (SLO.ext O3.2) (g := (mkF m 47 #[.val (.ref b), .val (.int (jj + (1 : Int32))), .val (.int c)] [(.int c), (.int (jj + (1 : Int32))), (.ref b)])) rfl (hb hby dpc_47)
  refine Go.st st4 ?_
  show Go p e below s _ _ _ (T4.setTop (mkF m 50 #[.val (.ref b), .val (.int (jj + (1 : Int32))), .val (.int c)] [(.int 8), (.int c), (.int (jj + (1 : Int32))), (.ref b)]))
  refine Go.s (XT.ishr X4.here hx rfl (hb hby dpc_50) rfl) ?_
  show Go p e below s _ _ _ (T4.setTop (mkF m 51 #[.val (.ref b), .val (.int (jj + (1 : Int32))), .val (.int c)] [(.int (c >>> ((8 : Int32) &&& 31))), (.int (jj + (1 : Int32))), (.ref b)]))
  refine Go.s (XT.i2b X4.here hx rfl (hb hby dpc_51) rfl) ?_
  show Go p e below s _ _ _ (T4.setTop (mkF m 52 #[.val (.ref b), .val (.int (jj + (1 : Int32))), .val (.int c)] [(.int ((c >>> ((8 : Int32) &&& 31)).toInt8.toInt32)), (.int (jj + (1 : Int32))), (.ref b)]))
  obtain ⟨T5, h5, X5, e5, W5, V5, st5⟩ := own_stB X4 hx hZ e4 V_b (j := (jj + (1 : Int32))) q2 q3 (i + 1) hi1 (by rw [List.length_set]; exact hl) (g := (mkF m 52 #[.val (.ref b), .val (.int (jj + (1 : Int32))), .val (.int c)] [(.int ((c >>> ((8 : Int32) &&& 31)).toInt8.toInt32)), (.int (jj + (1 : Int32))), (.ref b)])) rfl rfl (hb hby dpc_52)
  obtain ⟨lc5, X5, N5⟩ := own_gen X5 (Fr.snoc X5 N3 gb)
  have O5 := O3.wr W5 gb
  have K5 := K3.wr W5 (Or.inl (List.mem_of_getElem? (i := 0) rfl))
  have V_b : Arv Z h5 b kb .byte N (List.set (List.set vs (i) (.int (nar .byte ((c >>> ((0 : Int32) &&& 31)).toInt8.toInt32)))) (i + 1) (.int (nar .byte ((c >>> ((8 : Int32) &&& 31)).toInt8.toInt32)))) (.int 0) := V5
  refine Go.st st5 ?_
  show Go p e below s _ _ _ (T5.setTop (mkF m 53 #[.val (.ref b), .val (.int (jj + (1 : Int32))), .val (.int c)] []))
  exact Go.ret X5 hlk (none) (fun _ => rfl) (by rw [e5]; exact ⟨rfl, N5, K5, by rw [own_plo, own_phi] at V_b; exact V_b⟩) (by decide) (by decide) (fun fs hr => X5.returnOut hx Bd.returns (hb hby dpc_53) hr)
 obtain ⟨s2, o2, st2, r2⟩ := G
 exact ⟨s2, o2, castTop (efpc m b j c) st2, r2⟩
theorem dgc_0 : decode jdk_52_method_5_code 0 = .ok (.getstatic 44, 3) := by decide +kernel
theorem dgc_3 : decode jdk_52_method_5_code 3 = .ok (.ifCond .ne 25, 3) := by decide +kernel
theorem dgc_28 : decode jdk_52_method_5_code 28 = .ok (.iload_n 1, 1) := by decide +kernel
theorem dgc_29 : decode jdk_52_method_5_code 29 = .ok (.iconst 1, 1) := by decide +kernel
theorem dgc_30 : decode jdk_52_method_5_code 30 = .ok (.ishl, 1) := by decide +kernel
theorem dgc_31 : decode jdk_52_method_5_code 31 = .ok (.istore_n 1, 1) := by decide +kernel
theorem dgc_32 : decode jdk_52_method_5_code 32 = .ok (.aload_n 0, 1) := by decide +kernel
theorem dgc_33 : decode jdk_52_method_5_code 33 = .ok (.iload_n 1, 1) := by decide +kernel
theorem dgc_34 : decode jdk_52_method_5_code 34 = .ok (.iinc 1 1, 3) := by decide +kernel
theorem dgc_37 : decode jdk_52_method_5_code 37 = .ok (.baload, 1) := by decide +kernel
theorem dgc_38 : decode jdk_52_method_5_code 38 = .ok (.sipush 255, 3) := by decide +kernel
theorem dgc_41 : decode jdk_52_method_5_code 41 = .ok (.iand, 1) := by decide +kernel
theorem dgc_42 : decode jdk_52_method_5_code 42 = .ok (.getstatic 59, 3) := by decide +kernel
theorem dgc_45 : decode jdk_52_method_5_code 45 = .ok (.ishl, 1) := by decide +kernel
theorem dgc_46 : decode jdk_52_method_5_code 46 = .ok (.aload_n 0, 1) := by decide +kernel
theorem dgc_47 : decode jdk_52_method_5_code 47 = .ok (.iload_n 1, 1) := by decide +kernel
theorem dgc_48 : decode jdk_52_method_5_code 48 = .ok (.baload, 1) := by decide +kernel
theorem dgc_49 : decode jdk_52_method_5_code 49 = .ok (.sipush 255, 3) := by decide +kernel
theorem dgc_52 : decode jdk_52_method_5_code 52 = .ok (.iand, 1) := by decide +kernel
theorem dgc_53 : decode jdk_52_method_5_code 53 = .ok (.getstatic 63, 3) := by decide +kernel
theorem dgc_56 : decode jdk_52_method_5_code 56 = .ok (.ishl, 1) := by decide +kernel
theorem dgc_57 : decode jdk_52_method_5_code 57 = .ok (.ior, 1) := by decide +kernel
theorem dgc_58 : decode jdk_52_method_5_code 58 = .ok (.i2c, 1) := by decide +kernel
theorem dgc_59 : decode jdk_52_method_5_code 59 = .ok (.ireturn, 1) := by decide +kernel
theorem pngc : plainName "java/lang/StringUTF16" = true := by first | (simp [plainName, overriddenIn]; done) | decide +kernel
theorem efgc (m : MethodId) (x0 : Addr) (x1 : Int32) : entryFrame m #[(.ref x0), (.int x1)] 2 = mkF m 0 #[.val (.ref x0), .val (.int x1)] [] := by first | (simp [entryFrame, mkF, argsToLocals, Value.category, maxLocals]; done) | rfl
def Qgc (Z : State) (b : Addr) (kb : ClassId) (c : Int32) (N : Int32) (vs : List Value) (j : Int32) (jj : Int32) (i : Nat) (h0 : Heap) (n0 : Nat) (v : Option Value) (h : Heap) (L : List Loc) : Prop := v = some (.int c) ∧ Fr n0 L ∧ h = h0
theorem rmgc (l : Launch) (Z : State) (a0 : Array Value) (hw : ∀ d ∈ tables_1, d.before a0 Z = true) (ws : List Jvm.Cond) (b : Addr) (kb : ClassId) (c : Int32) (N : Int32) (vs : List Value) (j : Int32) (jj : Int32) (i : Nat) (h0 : Heap) (n0 : Nat) (O0 : Old Z n0 h0) (V_b : Arv Z h0 b kb .byte N vs (.int 0)) (hj : j <<< ((1 : Int32) &&& 31) = jj) (hi : jj.toNatClampNeg = i) (hi1 : (jj + (1 : Int32)).toNatClampNeg = i + 1) (q0 : ¬ jj < 0) (q1 : jj < N) (q2 : ¬ (jj + (1 : Int32)) < 0) (q3 : (jj + (1 : Int32)) < N) (hv0 : vs.getD i (.int 0) = (.int (StrChars.lo8 c))) (hv1 : vs.getD (i + 1) (.int 0) = (.int (StrChars.hi8 c))) (hcc : ¬ c < 0 ∧ ¬ (65535 : Int32) < c) (SA : Sta Z Z.heap "java/lang/StringUTF16" "$assertionsDisabled" "Z" (.int 1)) (SHI : Sta Z Z.heap "java/lang/StringUTF16" "HI_BYTE_SHIFT" "I" (.int 0)) (SLO : Sta Z Z.heap "java/lang/StringUTF16" "LO_BYTE_SHIFT" "I" (.int 8)) :
  MetFree l mN2 (head1 (Jvm.Cond.code mN2 jdk_52_method_5_code 2 (some .char) :: ws) ({ frames := 0, cells := 0, slots := 0, locals := 0 } : Room)) (fun A_ U_ => A_ = #[(.ref b), (.int j)] ∧ Z.Warmed39 U_.vm ∧ U_.heap = h0) (fun _ _ _ _ _ => True) (fun _ U o U' => ∃ v L, o = .returned v ∧ Qgc Z b kb c N vs j jj i h0 n0 v U'.heap L ∧ FrameEnd U o U' L ({ frames := 0, cells := 0, slots := 0, locals := 0 } : Room).cells ({ frames := 0, cells := 0, slots := 0, locals := 0 } : Room).slots) := by
 refine MetFree.of_bodySF (plainFor_of_name pngc) hisR ?_
 intro p e s m args below meth cd s₁ Bd hml0 hP hK
 obtain ⟨rfl, hZ, hh⟩ := hP
 have hx := Bd.exec
 have hby := Bd.bytes
 have hlk : meth.locks = false := BodyLoose.notSynchronized Bd
 have hml : cd.maxLocals = 2 := hml0
 have hown : s.vm.findClass "java/lang/StringUTF16" = some m.cls := findClass_of_methodNamed Bd.named
 have X0 : Stand p l e ({ frames := 0, cells := 0, slots := 0, locals := 0 } : Room) s m #[(.ref b), (.int j)] below meth cd s₁ [] 0 0 := Stand.of_body Bd
 have e0 : s₁.heap = h0 := by rw [← hh, Bd.state]; rfl
 have N0 := Fr.nil n0
 have G : Go p e below s 0 0 (Qgc Z b kb c N vs j jj i h0 n0) (s₁.setTop (mkF m 0 #[.val (.ref b), .val (.int j)] [])) := by
  obtain ⟨T1, X1, e1, st1⟩ := getS X0 hx hZ hown (host := "") (own_w hw 121 rfl) Via.refl e0 (SA.ext O0.2) (g := (mkF m 0 #[.val (.ref b), .val (.int j)] [])) rfl (hb hby dgc_0)
  refine Go.st st1 ?_
  show Go p e below s _ _ _ (T1.setTop (mkF m 3 #[.val (.ref b), .val (.int j)] [(.int 1)]))
  refine Go.s (XS.ifYes X1.here hx rfl (pc0 := 3) (pc' := 28) rfl (hb hby dgc_3) rfl (by decide) (by decide) (by decide)) ?_
  show Go p e below s _ _ _ (T1.setTop (mkF m 28 #[.val (.ref b), .val (.int j)] []))
  refine Go.s (XS.iloadN X1.here hx rfl (hb hby dgc_28) rfl) ?_
  refine Go.s (XS.iconst X1.here hx rfl (hb hby dgc_29)) ?_
  refine Go.s (XT.ishl X1.here hx rfl (hb hby dgc_30) rfl) ?_
  show Go p e below s _ _ _ (T1.setTop (mkF m 31 #[.val (.ref b), .val (.int j)] [(.int (j <<< ((1 : Int32) &&& 31)))]))
  rw [hj]
  show Go p e below s _ _ _ (T1.setTop (mkF m 31 #[.val (.ref b), .val (.int j)] [(.int jj)]))
  refine Go.s (XS.istoreN X1.here hx rfl (hb hby dgc_31) rfl (l' := #[.val (.ref b), .val (.int jj)]) rfl) ?_
  refine Go.s (XS.aloadN X1.here hx rfl (hb hby dgc_32) rfl rfl) ?_
  refine Go.s (XS.iloadN X1.here hx rfl (hb hby dgc_33) rfl) ?_
  refine Go.s (XT.iincV X1.here hx rfl (1 : Int32) (hb hby dgc_34) rfl rfl (l' := #[.val (.ref b), .val (.int (jj + (1 : Int32)))]) rfl) ?_
  refine Go.s (own_baloadB X1 hx hZ e1 V_b q0 q1 (v := .int (StrChars.lo8 c)) (by rw [hi]; exact hv0) (g := (mkF m 37 #[.val (.ref b), .val (.int (jj + (1 : Int32)))] [(.int jj), (.ref b)])) rfl rfl (hb hby dgc_37) _) ?_
  show Go p e below s _ _ _ (T1.setTop (mkF m 38 #[.val (.ref b), .val (.int (jj + (1 : Int32)))] [(.int (StrChars.lo8 c))]))
  refine Go.s (XS.sipush X1.here hx rfl (hb hby dgc_38)) ?_
  refine Go.s (XS.iand X1.here hx rfl (hb hby dgc_41) rfl) ?_
  obtain ⟨T2, X2, e2, st2⟩ := getS X1 hx hZ hown (host := "") (own_w hw 122 rfl) Via.refl e1 (SHI.ext O0.2) (g := (mkF m 42 #[.val (.ref b), .val (.int (jj + (1 : Int32)))] [(.int ((StrChars.lo8 c) &&& (255 : Int32)))])) rfl (hb hby dgc_42)
  refine Go.st st2 ?_
  show Go p e below s _ _ _ (T2.setTop (mkF m 45 #[.val (.ref b), .val (.int (jj + (1 : Int32)))] [(.int 0), (.int ((StrChars.lo8 c) &&& (255 : Int32)))]))
  refine Go.s (XT.ishl X2.here hx rfl (hb hby dgc_45) rfl) ?_
  show Go p e below s _ _ _ (T2.setTop (mkF m 46 #[.val (.ref b), .val (.int (jj + (1 : Int32)))] [(.int (((StrChars.lo8 c) &&& (255 : Int32)) <<< ((0 : Int32) &&& 31)))]))
  refine Go.s (XS.aloadN X2.here hx rfl (hb hby dgc_46) rfl rfl) ?_
  refine Go.s (XS.iloadN X2.here hx rfl (hb hby dgc_47) rfl) ?_
  refine Go.s (own_baloadB X2 hx hZ e2 V_b q2 q3 (v := .int (StrChars.hi8 c)) (by rw [hi1]; exact hv1) (g := (mkF m 48 #[.val (.ref b), .val (.int (jj + (1 : Int32)))] [(.int (jj + (1 : Int32))), (.ref b), (.int (((StrChars.lo8 c) &&& (255 : Int32)) <<< ((0 : Int32) &&& 31)))])) rfl rfl (hb hby dgc_48) _) ?_
  show Go p e below s _ _ _ (T2.setTop (mkF m 49 #[.val (.ref b), .val (.int (jj + (1 : Int32)))] [(.int (StrChars.hi8 c)), (.int (((StrChars.lo8 c) &&& (255 : Int32)) <<< ((0 : Int32) &&& 31)))]))
  refine Go.s (XS.sipush X2.here hx rfl (hb hby dgc_49)) ?_
  refine Go.s (XS.iand X2.here hx rfl (hb hby dgc_52) rfl) ?_
  obtain ⟨T3, X3, e3, st3⟩ := getS X2 hx hZ hown (host := "") (own_w hw 123 rfl) Via.refl e2 (SLO.ext O0.2) (g := (mkF m 53 #[.val (.ref b), .val (.int (jj + (1 : Int32)))] [(.int ((StrChars.hi8 c) &&& (255 : Int32))), (.int (((StrChars.lo8 c) &&& (255 : Int32)) <<< ((0 : Int32) &&& 31)))])) rfl (hb hby dgc_53)
  refine Go.st st3 ?_
  show Go p e below s _ _ _ (T3.setTop (mkF m 56 #[.val (.ref b), .val (.int (jj + (1 : Int32)))] [(.int 8), (.int ((StrChars.hi8 c) &&& (255 : Int32))), (.int (((StrChars.lo8 c) &&& (255 : Int32)) <<< ((0 : Int32) &&& 31)))]))
  refine Go.s (XT.ishl X3.here hx rfl (hb hby dgc_56) rfl) ?_
  show Go p e below s _ _ _ (T3.setTop (mkF m 57 #[.val (.ref b), .val (.int (jj + (1 : Int32)))] [(.int (((StrChars.hi8 c) &&& (255 : Int32)) <<< ((8 : Int32) &&& 31))), (.int (((StrChars.lo8 c) &&& (255 : Int32)) <<< ((0 : Int32) &&& 31)))]))
  refine Go.s (XT.ior X3.here hx rfl (hb hby dgc_57) rfl) ?_
  show Go p e below s _ _ _ (T3.setTop (mkF m 58 #[.val (.ref b), .val (.int (jj + (1 : Int32)))] [(.int ((((StrChars.lo8 c) &&& (255 : Int32)) <<< ((0 : Int32) &&& 31)) ||| (((StrChars.hi8 c) &&& (255 : Int32)) <<< ((8 : Int32) &&& 31))))]))
  refine Go.s (XT.i2c X3.here hx rfl (hb hby dgc_58) rfl) ?_
  show Go p e below s _ _ _ (T3.setTop (mkF m 59 #[.val (.ref b), .val (.int (jj + (1 : Int32)))] [(.int (((((StrChars.lo8 c) &&& (255 : Int32)) <<< ((0 : Int32) &&& 31)) ||| (((StrChars.hi8 c) &&& (255 : Int32)) <<< ((8 : Int32) &&& 31))).toUInt32.toUInt16.toUInt32.toInt32))]))
  exact Go.ret X3 hlk (some (.int (nar .char (((((StrChars.lo8 c) &&& (255 : Int32)) <<< ((0 : Int32) &&& 31)) ||| (((StrChars.hi8 c) &&& (255 : Int32)) <<< ((8 : Int32) &&& 31))).toUInt32.toUInt16.toUInt32.toInt32)))) (fun h => by rw [Bd.returns] at h; cases h) (by rw [e3]; exact ⟨congrArg some (congrArg Value.int (own_pair hcc)), N0, rfl⟩) (by decide) (by decide) (fun fs hr => retN X3 hx (t := .char) Bd.returns (by simp) (hb hby dgc_59) hr)
 obtain ⟨s2, o2, st2, r2⟩ := G
 exact ⟨s2, o2, castTop (efgc m b j) st2, r2⟩
theorem own_wix (i n : Nat) (h : i < n) (hn : n ≤ 4) : (Int32.ofNat i <<< ((1 : Int32) &&& 31) = Int32.ofNat (2 * i)) ∧ (Int32.ofNat (2 * i)).toNatClampNeg = 2 * i ∧ (Int32.ofNat (2 * i) + (1 : Int32)).toNatClampNeg = 2 * i + 1 ∧ ¬ Int32.ofNat (2 * i) < 0 ∧ Int32.ofNat (2 * i) < Int32.ofNat (2 * n) ∧ ¬ (Int32.ofNat (2 * i) + (1 : Int32)) < 0 ∧ (Int32.ofNat (2 * i) + (1 : Int32)) < Int32.ofNat (2 * n) ∧ ¬ Int32.ofNat i < 0 ∧ Int32.ofNat i < (Int32.ofNat (2 * n) >>> ((1 : Int32) &&& 31)) ∧ (Int32.ofNat i).toNatClampNeg = i ∧ Int32.ofNat i < Int32.ofNat n ∧ (Int32.ofNat i + (1 : Int32) = Int32.ofNat (i + 1)) ∧ (Int32.ofNat (2 * n) >>> ((1 : Int32) &&& 31)) = Int32.ofNat n := by
  have h1 : n = 1 ∨ n = 2 ∨ n = 3 ∨ n = 4 := by omega
  have h2 : i = 0 ∨ i = 1 ∨ i = 2 ∨ i = 3 := by omega
  rcases h1 with rfl | rfl | rfl | rfl <;> rcases h2 with rfl | rfl | rfl | rfl <;> first | (exfalso; omega) | decide +kernel
theorem own_hbD {cs : List Int32} (hb : ∀ c ∈ cs, ¬ c < 0 ∧ ¬ (65535 : Int32) < c) (j : Nat) : ¬ cs.getD j 0 < 0 ∧ ¬ (65535 : Int32) < cs.getD j 0 := by
  rw [List.getD_eq_getElem?_getD]
  cases hj : cs[j]? with
  | none => decide
  | some z => exact hb z (List.mem_of_getElem? hj)
theorem own_memD {cs : List Int32} {i : Nat} {c : Int32} (h : i < cs.length) (e : cs.getD i 0 = c) : c ∈ cs := by
  rw [← e, List.getD_eq_getElem?_getD, List.getElem?_eq_getElem h]
  exact List.getElem_mem h
theorem own_ofne {i n : Nat} (h : i < n) (hn : n ≤ 9) : ¬ Int32.ofNat i = Int32.ofNat n := fun q => by
  rw [own_eq, Int32.toInt_ofNat_of_lt (by omega), Int32.toInt_ofNat_of_lt (by omega)] at q
  omega
theorem own_hb0  : ∀ c ∈ ([] : List Int32), ¬ c < 0 ∧ ¬ (65535 : Int32) < c := by
  intro c hc
  cases hc
theorem own_hb1 {c0 : Int32} (hc0 : ¬ c0 < 0 ∧ ¬ (65535 : Int32) < c0) : ∀ c ∈ ([c0] : List Int32), ¬ c < 0 ∧ ¬ (65535 : Int32) < c := by
  intro c hc
  simp only [List.mem_cons, List.not_mem_nil, or_false] at hc
  rcases hc with rfl
  · exact hc0
theorem own_hb2 {c0 c1 : Int32} (hc0 : ¬ c0 < 0 ∧ ¬ (65535 : Int32) < c0) (hc1 : ¬ c1 < 0 ∧ ¬ (65535 : Int32) < c1) : ∀ c ∈ ([c0, c1] : List Int32), ¬ c < 0 ∧ ¬ (65535 : Int32) < c := by
  intro c hc
  simp only [List.mem_cons, List.not_mem_nil, or_false] at hc
  rcases hc with rfl | rfl
  · exact hc0
  · exact hc1
theorem own_hb3 {c0 c1 c2 : Int32} (hc0 : ¬ c0 < 0 ∧ ¬ (65535 : Int32) < c0) (hc1 : ¬ c1 < 0 ∧ ¬ (65535 : Int32) < c1) (hc2 : ¬ c2 < 0 ∧ ¬ (65535 : Int32) < c2) : ∀ c ∈ ([c0, c1, c2] : List Int32), ¬ c < 0 ∧ ¬ (65535 : Int32) < c := by
  intro c hc
  simp only [List.mem_cons, List.not_mem_nil, or_false] at hc
  rcases hc with rfl | rfl | rfl
  · exact hc0
  · exact hc1
  · exact hc2
theorem own_hb4 {c0 c1 c2 c3 : Int32} (hc0 : ¬ c0 < 0 ∧ ¬ (65535 : Int32) < c0) (hc1 : ¬ c1 < 0 ∧ ¬ (65535 : Int32) < c1) (hc2 : ¬ c2 < 0 ∧ ¬ (65535 : Int32) < c2) (hc3 : ¬ c3 < 0 ∧ ¬ (65535 : Int32) < c3) : ∀ c ∈ ([c0, c1, c2, c3] : List Int32), ¬ c < 0 ∧ ¬ (65535 : Int32) < c := by
  intro c hc
  simp only [List.mem_cons, List.not_mem_nil, or_false] at hc
  rcases hc with rfl | rfl | rfl | rfl
  · exact hc0
  · exact hc1
  · exact hc2
  · exact hc3
theorem dci1_0 : decode jdk_52_method_21_code 0 = .ok (.iconst 0, 1) := by decide +kernel
theorem dci1_1 : decode jdk_52_method_21_code 1 = .ok (.istore 5, 2) := by decide +kernel
theorem dci1_3 : decode jdk_52_method_21_code 3 = .ok (.iload 5, 2) := by decide +kernel
theorem dci1_5 : decode jdk_52_method_21_code 5 = .ok (.iload 4, 2) := by decide +kernel
theorem dci1_7 : decode jdk_52_method_21_code 7 = .ok (.if_icmp .ge 37, 3) := by decide +kernel
theorem dci1_10 : decode jdk_52_method_21_code 10 = .ok (.aload_n 0, 1) := by decide +kernel
theorem dci1_11 : decode jdk_52_method_21_code 11 = .ok (.iload_n 1, 1) := by decide +kernel
theorem dci1_12 : decode jdk_52_method_21_code 12 = .ok (.caload, 1) := by decide +kernel
theorem dci1_13 : decode jdk_52_method_21_code 13 = .ok (.istore 6, 2) := by decide +kernel
theorem dci1_15 : decode jdk_52_method_21_code 15 = .ok (.iload 6, 2) := by decide +kernel
theorem dci1_17 : decode jdk_52_method_21_code 17 = .ok (.sipush 255, 3) := by decide +kernel
theorem dci1_20 : decode jdk_52_method_21_code 20 = .ok (.if_icmp .le 6, 3) := by decide +kernel
theorem dci1_23 : decode jdk_52_method_21_code 23 = .ok (.iload 5, 2) := by decide +kernel
theorem dci1_25 : decode jdk_52_method_21_code 25 = .ok (.ireturn, 1) := by decide +kernel
theorem dci1_26 : decode jdk_52_method_21_code 26 = .ok (.aload_n 2, 1) := by decide +kernel
theorem dci1_27 : decode jdk_52_method_21_code 27 = .ok (.iload_n 3, 1) := by decide +kernel
theorem dci1_28 : decode jdk_52_method_21_code 28 = .ok (.iload 6, 2) := by decide +kernel
theorem dci1_30 : decode jdk_52_method_21_code 30 = .ok (.i2b, 1) := by decide +kernel
theorem dci1_31 : decode jdk_52_method_21_code 31 = .ok (.bastore, 1) := by decide +kernel
theorem dci1_32 : decode jdk_52_method_21_code 32 = .ok (.iinc 1 1, 3) := by decide +kernel
theorem dci1_35 : decode jdk_52_method_21_code 35 = .ok (.iinc 3 1, 3) := by decide +kernel
theorem dci1_38 : decode jdk_52_method_21_code 38 = .ok (.iinc 5 1, 3) := by decide +kernel
theorem dci1_41 : decode jdk_52_method_21_code 41 = .ok (.goto (-38), 3) := by decide +kernel
theorem dci1_44 : decode jdk_52_method_21_code 44 = .ok (.iload 4, 2) := by decide +kernel
theorem dci1_46 : decode jdk_52_method_21_code 46 = .ok (.ireturn, 1) := by decide +kernel
theorem pnci1 : plainName "java/lang/StringUTF16" = true := by first | (simp [plainName, overriddenIn]; done) | decide +kernel
theorem efci1 (m : MethodId) (x0 : Addr) (x1 : Int32) (x2 : Addr) (x3 : Int32) (x4 : Int32) : entryFrame m #[(.ref x0), (.int x1), (.ref x2), (.int x3), (.int x4)] 7 = mkF m 0 #[.val (.ref x0), .val (.int x1), .val (.ref x2), .val (.int x3), .val (.int x4), .unset, .unset] [] := by first | (simp [entryFrame, mkF, argsToLocals, Value.category, maxLocals]; done) | rfl
def Qci1 (Z : State) (a : Addr) (ka : ClassId) (b : Addr) (kb : ClassId) (c0 : Int32) (h0 : Heap) (n0 : Nat) (v : Option Value) (h : Heap) (L : List Loc) : Prop := ∃ vs : List Value, Fr n0 L ∧ Keep h0 h [b] ∧ Arv Z h b kb .byte (1 : Int32) vs (.int 0) ∧ ((v = some (.int 1) ∧ vs = [(.int (StrChars.lo8 c0))] ∧ ¬ (255 : Int32) < c0) ∨ (v = some (.int 0) ∧ (255 : Int32) < c0))
theorem rmci1 (l : Launch) (Z : State) (a0 : Array Value) (hw : ∀ d ∈ tables_1, d.before a0 Z = true) (ws : List Jvm.Cond) (a : Addr) (ka : ClassId) (b : Addr) (kb : ClassId) (c0 : Int32) (h0 : Heap) (n0 : Nat) (O0 : Old Z n0 h0) (V_a : Arv Z h0 a ka .char (1 : Int32) [(.int c0)] (.int 0)) (V_b : Arv Z h0 b kb .byte (1 : Int32) [(.int 0)] (.int 0)) (gb : n0 ≤ b) (nab : a ≠ b) :
  MetFree l mN3 (head1 (Jvm.Cond.code mN3 jdk_52_method_21_code 7 (some .int) :: ws) ({ frames := 0, cells := 0, slots := 0, locals := 0 } : Room)) (fun A_ U_ => A_ = #[(.ref a), (.int 0), (.ref b), (.int 0), (.int 1)] ∧ Z.Warmed39 U_.vm ∧ U_.heap = h0) (fun _ _ _ _ _ => True) (fun _ U o U' => ∃ v L, o = .returned v ∧ Qci1 Z a ka b kb c0 h0 n0 v U'.heap L ∧ FrameEnd U o U' L ({ frames := 0, cells := 0, slots := 0, locals := 0 } : Room).cells ({ frames := 0, cells := 0, slots := 0, locals := 0 } : Room).slots) := by
 refine MetFree.of_bodySF (plainFor_of_name pnci1) hisR ?_
 intro p e s m args below meth cd s₁ Bd hml0 hP hK
 obtain ⟨rfl, hZ, hh⟩ := hP
 have hx := Bd.exec
 have hby := Bd.bytes
 have hlk : meth.locks = false := BodyLoose.notSynchronized Bd
 have hml : cd.maxLocals = 7 := hml0
 have hown : s.vm.findClass "java/lang/StringUTF16" = some m.cls := findClass_of_methodNamed Bd.named
 have X0 : Stand p l e ({ frames := 0, cells := 0, slots := 0, locals := 0 } : Room) s m #[(.ref a), (.int 0), (.ref b), (.int 0), (.int 1)] below meth cd s₁ [] 0 0 := Stand.of_body Bd
 have e0 : s₁.heap = h0 := by rw [← hh, Bd.state]; rfl
 have N0 := Fr.nil n0
 have K0 : Keep h0 h0 [b] := Keep.refl _ _
 have G : Go p e below s 0 0 (Qci1 Z a ka b kb c0 h0 n0) (s₁.setTop (mkF m 0 #[.val (.ref a), .val (.int 0), .val (.ref b), .val (.int 0), .val (.int 1), .unset, .unset] [])) := by
  refine Go.s (XS.iconst X0.here hx rfl (hb hby dci1_0)) ?_
  refine Go.s (XS.istore X0.here hx rfl (hb hby dci1_1) rfl (l' := #[.val (.ref a), .val (.int 0), .val (.ref b), .val (.int 0), .val (.int 1), .val (.int 0), .unset]) rfl) ?_
  refine Go.s (XS.iload X0.here hx rfl (hb hby dci1_3) rfl) ?_
  refine Go.s (XS.iload X0.here hx rfl (hb hby dci1_5) rfl) ?_
  refine Go.s (XS.icmpNo X0.here hx rfl (hb hby dci1_7) rfl (by decide)) ?_
  show Go p e below s _ _ _ (s₁.setTop (mkF m 10 #[.val (.ref a), .val (.int 0), .val (.ref b), .val (.int 0), .val (.int 1), .val (.int 0), .unset] []))
  refine Go.s (XS.aloadN X0.here hx rfl (hb hby dci1_10) rfl rfl) ?_
  refine Go.s (XS.iloadN X0.here hx rfl (hb hby dci1_11) rfl) ?_
  refine Go.s (own_caload X0 hx hZ e0 V_a (by decide) (by decide) (v := (.int c0)) rfl (g := (mkF m 12 #[.val (.ref a), .val (.int 0), .val (.ref b), .val (.int 0), .val (.int 1), .val (.int 0), .unset] [(.int 0), (.ref a)])) rfl rfl (hb hby dci1_12) _) ?_
  show Go p e below s _ _ _ (s₁.setTop (mkF m 13 #[.val (.ref a), .val (.int 0), .val (.ref b), .val (.int 0), .val (.int 1), .val (.int 0), .unset] [(.int c0)]))
  refine Go.s (XS.istore X0.here hx rfl (hb hby dci1_13) rfl (l' := #[.val (.ref a), .val (.int 0), .val (.ref b), .val (.int 0), .val (.int 1), .val (.int 0), .val (.int c0)]) rfl) ?_
  refine Go.s (XS.iload X0.here hx rfl (hb hby dci1_15) rfl) ?_
  refine Go.s (XS.sipush X0.here hx rfl (hb hby dci1_17)) ?_
  by_cases c20_1 : (255 : Int32) < c0
  · refine Go.s (XS.icmpNo X0.here hx rfl (hb hby dci1_20) rfl (XT.ii_le_f c20_1)) ?_
    show Go p e below s _ _ _ (s₁.setTop (mkF m 23 #[.val (.ref a), .val (.int 0), .val (.ref b), .val (.int 0), .val (.int 1), .val (.int 0), .val (.int c0)] []))
    refine Go.s (XS.iload X0.here hx rfl (hb hby dci1_23) rfl) ?_
    exact Go.ret X0 hlk (some (.int 0)) (fun h => by rw [Bd.returns] at h; cases h) (by rw [e0]; exact ⟨_, N0, K0, V_b, Or.inr (⟨rfl, c20_1⟩)⟩) (by decide) (by decide) (fun fs hr => retI X0 hx Bd.returns (hb hby dci1_25) hr)
  · refine Go.s (XS.icmpYes X0.here hx rfl (pc0 := 20) (pc' := 26) rfl (hb hby dci1_20) rfl (XT.ii_le_t c20_1) (by decide) (by decide)) ?_
    show Go p e below s _ _ _ (s₁.setTop (mkF m 26 #[.val (.ref a), .val (.int 0), .val (.ref b), .val (.int 0), .val (.int 1), .val (.int 0), .val (.int c0)] []))
    refine Go.s (XS.aloadN X0.here hx rfl (hb hby dci1_26) rfl rfl) ?_
    refine Go.s (XS.iloadN X0.here hx rfl (hb hby dci1_27) rfl) ?_
    refine Go.s (XS.iload X0.here hx rfl (hb hby dci1_28) rfl) ?_
    refine Go.s (XT.i2b X0.here hx rfl (hb hby dci1_30) rfl) ?_
    show Go p e below s _ _ _ (s₁.setTop (mkF m 31 #[.val (.ref a), .val (.int 0), .val (.ref b), .val (.int 0), .val (.int 1), .val (.int 0), .val (.int c0)] [(.int (c0.toInt8.toInt32)), (.int 0), (.ref b)]))
    obtain ⟨T2, h2, X2, e2, W2, V2, st2⟩ := own_stB X0 hx hZ e0 V_b (j := (0 : Int32)) (by decide) (by decide) 0 rfl (Nat.le_of_ble_eq_true rfl) (g := (mkF m 31 #[.val (.ref a), .val (.int 0), .val (.ref b), .val (.int 0), .val (.int 1), .val (.int 0), .val (.int c0)] [(.int (c0.toInt8.toInt32)), (.int 0), (.ref b)])) rfl rfl (hb hby dci1_31)
    obtain ⟨lc2, X2, N2⟩ := own_gen X2 (Fr.snoc X2 N0 gb)
    have O2 := O0.wr W2 gb
    have K2 := K0.wr W2 (Or.inl (List.mem_of_getElem? (i := 0) rfl))
    have V_a := V_a.other W2 nab
    have V_b : Arv Z h2 b kb .byte (1 : Int32) [(.int (nar .byte (c0.toInt8.toInt32)))] (.int 0) := V2
    refine Go.st st2 ?_
    show Go p e below s _ _ _ (T2.setTop (mkF m 32 #[.val (.ref a), .val (.int 0), .val (.ref b), .val (.int 0), .val (.int 1), .val (.int 0), .val (.int c0)] []))
    refine Go.s (XT.iincV X2.here hx rfl (1 : Int32) (hb hby dci1_32) rfl rfl (l' := #[.val (.ref a), .val (.int 1), .val (.ref b), .val (.int 0), .val (.int 1), .val (.int 0), .val (.int c0)]) rfl) ?_
    refine Go.s (XT.iincV X2.here hx rfl (1 : Int32) (hb hby dci1_35) rfl rfl (l' := #[.val (.ref a), .val (.int 1), .val (.ref b), .val (.int 1), .val (.int 1), .val (.int 0), .val (.int c0)]) rfl) ?_
    refine Go.s (XT.iincV X2.here hx rfl (1 : Int32) (hb hby dci1_38) rfl rfl (l' := #[.val (.ref a), .val (.int 1), .val (.ref b), .val (.int 1), .val (.int 1), .val (.int 1), .val (.int c0)]) rfl) ?_
    refine Go.s (XS.goto X2.here hx rfl (pc0 := 41) (pc' := 3) rfl (hb hby dci1_41) (by decide) (by decide)) ?_
    refine Go.s (XS.iload X2.here hx rfl (hb hby dci1_3) rfl) ?_
    refine Go.s (XS.iload X2.here hx rfl (hb hby dci1_5) rfl) ?_
    refine Go.s (XS.icmpYes X2.here hx rfl (pc0 := 7) (pc' := 44) rfl (hb hby dci1_7) rfl (by decide) (by decide) (by decide)) ?_
    show Go p e below s _ _ _ (T2.setTop (mkF m 44 #[.val (.ref a), .val (.int 1), .val (.ref b), .val (.int 1), .val (.int 1), .val (.int 1), .val (.int c0)] []))
    refine Go.s (XS.iload X2.here hx rfl (hb hby dci1_44) rfl) ?_
    exact Go.ret X2 hlk (some (.int 1)) (fun h => by rw [Bd.returns] at h; cases h) (by rw [e2]; exact ⟨_, N2, K2, V_b, Or.inl ⟨rfl, by simp only [own_nbl], c20_1⟩⟩) (by decide) (by decide) (fun fs hr => retI X2 hx Bd.returns (hb hby dci1_46) hr)
 obtain ⟨s2, o2, st2, r2⟩ := G
 exact ⟨s2, o2, castTop (efci1 m a (0 : Int32) b (0 : Int32) (1 : Int32)) st2, r2⟩
theorem dnb1_0 : decode jdk_52_method_2_code 0 = .ok (.iload_n 0, 1) := by decide +kernel
theorem dnb1_1 : decode jdk_52_method_2_code 1 = .ok (.invokestatic 11, 3) := by decide +kernel
theorem dnb1_4 : decode jdk_52_method_2_code 4 = .ok (.newarray .byte, 2) := by decide +kernel
theorem dnb1_6 : decode jdk_52_method_2_code 6 = .ok (.areturn, 1) := by decide +kernel
theorem pdnb1_0 : parseMethodDescriptor "(I)I" = some ⟨[.int], some .int⟩ := by decide +kernel
theorem pnnb1 : plainName "java/lang/StringUTF16" = true := by first | (simp [plainName, overriddenIn]; done) | decide +kernel
theorem efnb1 (m : MethodId) (x0 : Int32) : entryFrame m #[(.int x0)] 1 = mkF m 0 #[.val (.int x0)] [] := by first | (simp [entryFrame, mkF, argsToLocals, Value.category, maxLocals]; done) | rfl
def Qnb1 (Z : State)  (h0 : Heap) (n0 : Nat) (v : Option Value) (h : Heap) (L : List Loc) : Prop := ∃ (b : Addr) (kb : ClassId), v = some (.ref b) ∧ Fr n0 L ∧ Keep h0 h [] ∧ n0 ≤ b ∧ h0.size ≤ b ∧ Arv Z h b kb .byte (2 : Int32) [(.int 0), (.int 0)] (.int 0)
theorem rmnb1 (l : Launch) (Z : State) (a0 : Array Value) (hw : ∀ d ∈ tables_1, d.before a0 Z = true) (ws : List Jvm.Cond)  (h0 : Heap) (n0 : Nat) (O0 : Old Z n0 h0)  :
  MetFree l mN4 (head1 (Jvm.Cond.code mN4 jdk_52_method_2_code 1 (some (.array .byte)) :: ws) ({ frames := 1, cells := 1, slots := 2, locals := 12 } : Room)) (fun A_ U_ => A_ = #[(.int 1)] ∧ Z.Warmed39 U_.vm ∧ U_.heap = h0) (fun _ _ _ _ _ => True) (fun _ U o U' => ∃ v L, o = .returned v ∧ Qnb1 Z  h0 n0 v U'.heap L ∧ FrameEnd U o U' L ({ frames := 1, cells := 1, slots := 2, locals := 12 } : Room).cells ({ frames := 1, cells := 1, slots := 2, locals := 12 } : Room).slots) := by
 refine MetFree.of_bodySF (plainFor_of_name pnnb1) hisR ?_
 intro p e s m args below meth cd s₁ Bd hml0 hP hK
 obtain ⟨rfl, hZ, hh⟩ := hP
 have hx := Bd.exec
 have hby := Bd.bytes
 have hlk : meth.locks = false := BodyLoose.notSynchronized Bd
 have hml : cd.maxLocals = 1 := hml0
 have hown : s.vm.findClass "java/lang/StringUTF16" = some m.cls := findClass_of_methodNamed Bd.named
 have X0 : Stand p l e ({ frames := 1, cells := 1, slots := 2, locals := 12 } : Room) s m #[(.int 1)] below meth cd s₁ [] 0 0 := Stand.of_body Bd
 have e0 : s₁.heap = h0 := by rw [← hh, Bd.state]; rfl
 have N0 := Fr.nil n0
 have K0 : Keep h0 h0 [] := Keep.refl _ _
 have G : Go p e below s 1 2 (Qnb1 Z  h0 n0) (s₁.setTop (mkF m 0 #[.val (.int 1)] [])) := by
  refine Go.s (XS.iloadN X0.here hx rfl (hb hby dnb1_0) rfl) ?_
  obtain ⟨_, _, ⟨T1, L1, k1, n1⟩, -, X1, ⟨Lc1, hQ1, l1, y1, z1⟩, st1⟩ := Jvm.LawKit.callS X0 hx (y := mN0) hown (mvT hZ (own_w hw 114 rfl)) (mvT hZ (own_w hw 115 rfl)) (mvT hZ (own_w hw 70 rfl)) (mvT hZ (own_w hw 116 rfl)) (by decide) (backOf (W := 0) (rmnl l Z a0 hw [] (1 : Int32) h0 n0 O0 (by decide) (by decide)) hZ (own_w hw 116 rfl) (own_w hw 70 rfl) (by decide) (by decide)) (g := (mkF m 1 #[.val (.int 1)] [(.int 1)])) rfl (by rw [hml]; rfl) (argsL := [(.int 1)]) (rest := []) (lenOf pdnb1_0 rfl) rfl (by show 2 * 0 + _ ≤ _; exact Nat.le_of_eq rfl) (hb hby dnb1_1) (fun _ _ => ⟨rfl, e0, (by decide : 0 + 0 ≤ _), (by decide : 0 + 0 ≤ _)⟩)
  dsimp only [Pt.U, Pt.locs, Pt.cells, Pt.slots] at X1 l1 y1 z1 st1 hQ1
  subst y1 z1
  obtain ⟨rfl, Nc1, e1⟩ := hQ1
  have N1 : Fr n0 L1 := by rw [l1]; exact Fr.app N0 Nc1
  refine Go.st st1 ?_
  show Go p e below s _ _ _ (T1.setTop (mkF m 4 #[.val (.int 1)] [(.int 2)]))
  obtain ⟨T2, h2, k2, X2, e2, E2, A2, st2⟩ := newP X1 hx hZ (own_w hw 28 rfl) e1 (g := (mkF m 4 #[.val (.int 1)] [(.int 2)])) rfl (hb hby dnb1_4) rfl (by decide) (cap := 2) (by decide) (by decide) (by decide) (by decide)
  obtain ⟨b2, g2⟩ : ∃ z, z = h0.size := ⟨_, rfl⟩
  rw [← g2] at A2 st2
  have g_b2 : n0 ≤ b2 := Nat.le_trans (own_old O0) (Nat.le_of_eq g2.symm)
  have sz_b2 : h0.size ≤ b2 := Nat.le_trans K0.1 (Nat.le_of_eq g2.symm)
  have O2 := O0.ext E2
  have K2 := K0.ext E2
  have V_b2 : Arv Z h2 b2 k2 .byte (2 : Int32) [(.int 0), (.int 0)] (.int 0) := (Arv.new A2 (by decide)).pad (pad_rep [] (.int 0) 2)
  refine Go.st st2 ?_
  show Go p e below s _ _ _ (T2.setTop (mkF m 6 #[.val (.int 1)] [(.ref b2)]))
  exact Go.ret X2 hlk (some (.ref b2)) (fun h => by rw [Bd.returns] at h; cases h) (by rw [e2]; exact ⟨b2, _, rfl, N1, K2, g_b2, sz_b2, V_b2⟩) (by decide) (by decide) (fun fs hr => retOut X2 hx Bd.returns rfl (Or.inr (Or.inr (Or.inr (Or.inr ⟨rfl, rfl, rfl⟩)))) (hb hby dnb1_6) hr)
 obtain ⟨s2, o2, st2, r2⟩ := G
 exact ⟨s2, o2, castTop (efnb1 m (1 : Int32)) st2, r2⟩
theorem dtb1_0 : decode jdk_52_method_14_code 0 = .ok (.iload_n 2, 1) := by decide +kernel
theorem dtb1_1 : decode jdk_52_method_14_code 1 = .ok (.invokestatic 107, 3) := by decide +kernel
theorem dtb1_4 : decode jdk_52_method_14_code 4 = .ok (.astore_n 3, 1) := by decide +kernel
theorem dtb1_5 : decode jdk_52_method_14_code 5 = .ok (.iconst 0, 1) := by decide +kernel
theorem dtb1_6 : decode jdk_52_method_14_code 6 = .ok (.istore 4, 2) := by decide +kernel
theorem dtb1_8 : decode jdk_52_method_14_code 8 = .ok (.iload 4, 2) := by decide +kernel
theorem dtb1_10 : decode jdk_52_method_14_code 10 = .ok (.iload_n 2, 1) := by decide +kernel
theorem dtb1_11 : decode jdk_52_method_14_code 11 = .ok (.if_icmp .ge 21, 3) := by decide +kernel
theorem dtb1_14 : decode jdk_52_method_14_code 14 = .ok (.aload_n 3, 1) := by decide +kernel
theorem dtb1_15 : decode jdk_52_method_14_code 15 = .ok (.iload 4, 2) := by decide +kernel
theorem dtb1_17 : decode jdk_52_method_14_code 17 = .ok (.aload_n 0, 1) := by decide +kernel
theorem dtb1_18 : decode jdk_52_method_14_code 18 = .ok (.iload_n 1, 1) := by decide +kernel
theorem dtb1_19 : decode jdk_52_method_14_code 19 = .ok (.caload, 1) := by decide +kernel
theorem dtb1_20 : decode jdk_52_method_14_code 20 = .ok (.invokestatic 111, 3) := by decide +kernel
theorem dtb1_23 : decode jdk_52_method_14_code 23 = .ok (.iinc 1 1, 3) := by decide +kernel
theorem dtb1_26 : decode jdk_52_method_14_code 26 = .ok (.iinc 4 1, 3) := by decide +kernel
theorem dtb1_29 : decode jdk_52_method_14_code 29 = .ok (.goto (-21), 3) := by decide +kernel
theorem dtb1_32 : decode jdk_52_method_14_code 32 = .ok (.aload_n 3, 1) := by decide +kernel
theorem dtb1_33 : decode jdk_52_method_14_code 33 = .ok (.areturn, 1) := by decide +kernel
theorem pdtb1_0 : parseMethodDescriptor "(I)[B" = some ⟨[.int], some (.array .byte)⟩ := by decide +kernel
theorem pdtb1_1 : parseMethodDescriptor "([BII)V" = some ⟨[(.array .byte), .int, .int], none⟩ := by decide +kernel
theorem pntb1 : plainName "java/lang/StringUTF16" = true := by first | (simp [plainName, overriddenIn]; done) | decide +kernel
theorem eftb1 (m : MethodId) (x0 : Addr) (x1 : Int32) (x2 : Int32) : entryFrame m #[(.ref x0), (.int x1), (.int x2)] 5 = mkF m 0 #[.val (.ref x0), .val (.int x1), .val (.int x2), .unset, .unset] [] := by first | (simp [entryFrame, mkF, argsToLocals, Value.category, maxLocals]; done) | rfl
def Qtb1 (Z : State) (a : Addr) (ka : ClassId) (c0 : Int32) (h0 : Heap) (n0 : Nat) (v : Option Value) (h : Heap) (L : List Loc) : Prop := ∃ (b : Addr) (kb : ClassId), v = some (.ref b) ∧ Fr n0 L ∧ Keep h0 h [] ∧ n0 ≤ b ∧ h0.size ≤ b ∧ Arv Z h b kb .byte (2 : Int32) [(.int (StrChars.lo8 c0)), (.int (StrChars.hi8 c0))] (.int 0)
theorem rmtb1 (l : Launch) (Z : State) (a0 : Array Value) (hw : ∀ d ∈ tables_1, d.before a0 Z = true) (ws : List Jvm.Cond) (a : Addr) (ka : ClassId) (c0 : Int32) (h0 : Heap) (n0 : Nat) (O0 : Old Z n0 h0) (V_a : Arv Z h0 a ka .char (1 : Int32) [(.int c0)] (.int 0)) (SA : Sta Z Z.heap "java/lang/StringUTF16" "$assertionsDisabled" "Z" (.int 1)) (SHI : Sta Z Z.heap "java/lang/StringUTF16" "HI_BYTE_SHIFT" "I" (.int 0)) (SLO : Sta Z Z.heap "java/lang/StringUTF16" "LO_BYTE_SHIFT" "I" (.int 8)) :
  MetFree l mN5 (head1 (Jvm.Cond.code mN5 jdk_52_method_14_code 5 (some (.array .byte)) :: ws) ({ frames := 2, cells := 1, slots := 2, locals := 24 } : Room)) (fun A_ U_ => A_ = #[(.ref a), (.int 0), (.int 1)] ∧ Z.Warmed39 U_.vm ∧ U_.heap = h0) (fun _ _ _ _ _ => True) (fun _ U o U' => ∃ v L, o = .returned v ∧ Qtb1 Z a ka c0 h0 n0 v U'.heap L ∧ FrameEnd U o U' L ({ frames := 2, cells := 1, slots := 2, locals := 24 } : Room).cells ({ frames := 2, cells := 1, slots := 2, locals := 24 } : Room).slots) := by
 refine MetFree.of_bodySF (plainFor_of_name pntb1) hisR ?_
 intro p e s m args below meth cd s₁ Bd hml0 hP hK
 obtain ⟨rfl, hZ, hh⟩ := hP
 have hx := Bd.exec
 have hby := Bd.bytes
 have hlk : meth.locks = false := BodyLoose.notSynchronized Bd
 have hml : cd.maxLocals = 5 := hml0
 have hown : s.vm.findClass "java/lang/StringUTF16" = some m.cls := findClass_of_methodNamed Bd.named
 have X0 : Stand p l e ({ frames := 2, cells := 1, slots := 2, locals := 24 } : Room) s m #[(.ref a), (.int 0), (.int 1)] below meth cd s₁ [] 0 0 := Stand.of_body Bd
 have e0 : s₁.heap = h0 := by rw [← hh, Bd.state]; rfl
 have N0 := Fr.nil n0
 have K0 : Keep h0 h0 [] := Keep.refl _ _
 have G : Go p e below s 1 2 (Qtb1 Z a ka c0 h0 n0) (s₁.setTop (mkF m 0 #[.val (.ref a), .val (.int 0), .val (.int 1), .unset, .unset] [])) := by
  refine Go.s (XS.iloadN X0.here hx rfl (hb hby dtb1_0) rfl) ?_
  obtain ⟨_, _, ⟨T1, L1, k1, n1⟩, -, X1, ⟨Lc1, hQ1, l1, y1, z1⟩, st1⟩ := Jvm.LawKit.callS X0 hx (y := mN4) hown (mvT hZ (own_w hw 111 rfl)) (mvT hZ (own_w hw 112 rfl)) (mvT hZ (own_w hw 70 rfl)) (mvT hZ (own_w hw 113 rfl)) (by decide) (backOf (W := 0) (rmnb1 l Z a0 hw []  h0 n0 O0 ) hZ (own_w hw 113 rfl) (own_w hw 70 rfl) (by decide) (by decide)) (g := (mkF m 1 #[.val (.ref a), .val (.int 0), .val (.int 1), .unset, .unset] [(.int 1)])) rfl (by rw [hml]; rfl) (argsL := [(.int 1)]) (rest := []) (lenOf pdtb1_0 rfl) rfl (by show 2 * 0 + _ ≤ _; exact Nat.le_of_eq rfl) (hb hby dtb1_1) (fun _ _ => ⟨rfl, e0, (by decide : 0 + 1 ≤ _), (by decide : 0 + 2 ≤ _)⟩)
  dsimp only [Pt.U, Pt.locs, Pt.cells, Pt.slots] at X1 l1 y1 z1 st1 hQ1
  subst y1 z1
  obtain ⟨b1, kb1, rfl, Nc1, Kc1, gb1, szb1, NV⟩ := hQ1
  have N1 : Fr n0 L1 := by rw [l1]; exact Fr.app N0 Nc1
  have g_b1 : n0 ≤ b1 := gb1
  have sz_b1 : h0.size ≤ b1 := Nat.le_trans K0.1 szb1
  have ne_a_b1 : a ≠ b1 := Nat.ne_of_lt (Nat.lt_of_lt_of_le V_a.lt szb1)
  have V_a := V_a.keep Kc1 nin0
  have O1 := O0.keep Kc1 all0
  have K1 := K0.trans Kc1 all0
  have V_b1 : Arv Z T1.heap b1 kb1 .byte (2 : Int32) [(.int 0), (.int 0)] (.int 0) := NV
  refine Go.st st1 ?_
  show Go p e below s _ _ _ (T1.setTop (mkF m 4 #[.val (.ref a), .val (.int 0), .val (.int 1), .unset, .unset] [(.ref b1)]))
  refine Go.s (XS.astoreN X1.here hx rfl (hb hby dtb1_4) rfl rfl (l' := #[.val (.ref a), .val (.int 0), .val (.int 1), .val (.ref b1), .unset]) rfl) ?_
  refine Go.s (XS.iconst X1.here hx rfl (hb hby dtb1_5)) ?_
  refine Go.s (XS.istore X1.here hx rfl (hb hby dtb1_6) rfl (l' := #[.val (.ref a), .val (.int 0), .val (.int 1), .val (.ref b1), .val (.int 0)]) rfl) ?_
  refine Go.s (XS.iload X1.here hx rfl (hb hby dtb1_8) rfl) ?_
  refine Go.s (XS.iloadN X1.here hx rfl (hb hby dtb1_10) rfl) ?_
  refine Go.s (XS.icmpNo X1.here hx rfl (hb hby dtb1_11) rfl (by decide)) ?_
  show Go p e below s _ _ _ (T1.setTop (mkF m 14 #[.val (.ref a), .val (.int 0), .val (.int 1), .val (.ref b1), .val (.int 0)] []))
  refine Go.s (XS.aloadN X1.here hx rfl (hb hby dtb1_14) rfl rfl) ?_
  refine Go.s (XS.iload X1.here hx rfl (hb hby dtb1_15) rfl) ?_
  refine Go.s (XS.aloadN X1.here hx rfl (hb hby dtb1_17) rfl rfl) ?_
  refine Go.s (XS.iloadN X1.here hx rfl (hb hby dtb1_18) rfl) ?_
  refine Go.s (own_caload X1 hx hZ rfl V_a (by decide) (by decide) (v := (.int c0)) rfl (g := (mkF m 19 #[.val (.ref a), .val (.int 0), .val (.int 1), .val (.ref b1), .val (.int 0)] [(.int 0), (.ref a), (.int 0), (.ref b1)])) rfl rfl (hb hby dtb1_19) _) ?_
  show Go p e below s _ _ _ (T1.setTop (mkF m 20 #[.val (.ref a), .val (.int 0), .val (.int 1), .val (.ref b1), .val (.int 0)] [(.int c0), (.int 0), (.ref b1)]))
  obtain ⟨_, _, ⟨T2, L2, k2, n2⟩, -, X2, ⟨Lc2, hQ2, l2, y2, z2⟩, st2⟩ := Jvm.LawKit.callS X1 hx (y := mN1) hown (mvT hZ (own_w hw 118 rfl)) (mvT hZ (own_w hw 119 rfl)) (mvT hZ (own_w hw 70 rfl)) (mvT hZ (own_w hw 120 rfl)) (by decide) (backOf (W := 0) (rmpc l Z a0 hw [] b1 kb1 c0 (2 : Int32) [(.int 0), (.int 0)] (0 : Int32) (0 : Int32) 0 T1.heap n0 O1 V_b1 (by decide) (by decide) (by decide) (by decide) (by decide) (by decide) (by decide) (Nat.le_of_ble_eq_true rfl) g_b1 SA SHI SLO) hZ (own_w hw 120 rfl) (own_w hw 70 rfl) (by decide) (by decide)) (g := (mkF m 20 #[.val (.ref a), .val (.int 0), .val (.int 1), .val (.ref b1), .val (.int 0)] [(.int c0), (.int 0), (.ref b1)])) rfl (by rw [hml]; rfl) (argsL := [(.ref b1), (.int 0), (.int c0)]) (rest := []) (lenOf pdtb1_1 rfl) rfl (by show 2 * 0 + _ ≤ _; exact Nat.le_of_eq rfl) (hb hby dtb1_20) (fun _ _ => ⟨rfl, rfl, (by decide : 1 + 0 ≤ _), (by decide : 2 + 0 ≤ _)⟩)
  dsimp only [Pt.U, Pt.locs, Pt.cells, Pt.slots] at X2 l2 y2 z2 st2 hQ2
  subst y2 z2
  obtain ⟨rfl, Nc2, Kc2, NV⟩ := hQ2
  have N2 : Fr n0 L2 := by rw [l2]; exact Fr.app N1 Nc2
  have V_a := V_a.keep Kc2 (ninS ne_a_b1 nin0)
  have O2 := O1.keep Kc2 (allS g_b1 all0)
  have K2 := K1.trans Kc2 (allS (Or.inr sz_b1) all0)
  have V_b1 : Arv Z T2.heap b1 kb1 .byte (2 : Int32) [(.int (StrChars.lo8 c0)), (.int (StrChars.hi8 c0))] (.int 0) := NV
  refine Go.st st2 ?_
  show Go p e below s _ _ _ (T2.setTop (mkF m 23 #[.val (.ref a), .val (.int 0), .val (.int 1), .val (.ref b1), .val (.int 0)] []))
  refine Go.s (XT.iincV X2.here hx rfl (1 : Int32) (hb hby dtb1_23) rfl rfl (l' := #[.val (.ref a), .val (.int 1), .val (.int 1), .val (.ref b1), .val (.int 0)]) rfl) ?_
  refine Go.s (XT.iincV X2.here hx rfl (1 : Int32) (hb hby dtb1_26) rfl rfl (l' := #[.val (.ref a), .val (.int 1), .val (.int 1), .val (.ref b1), .val (.int 1)]) rfl) ?_
  refine Go.s (XS.goto X2.here hx rfl (pc0 := 29) (pc' := 8) rfl (hb hby dtb1_29) (by decide) (by decide)) ?_
  refine Go.s (XS.iload X2.here hx rfl (hb hby dtb1_8) rfl) ?_
  refine Go.s (XS.iloadN X2.here hx rfl (hb hby dtb1_10) rfl) ?_
  refine Go.s (XS.icmpYes X2.here hx rfl (pc0 := 11) (pc' := 32) rfl (hb hby dtb1_11) rfl (by decide) (by decide) (by decide)) ?_
  show Go p e below s _ _ _ (T2.setTop (mkF m 32 #[.val (.ref a), .val (.int 1), .val (.int 1), .val (.ref b1), .val (.int 1)] []))
  refine Go.s (XS.aloadN X2.here hx rfl (hb hby dtb1_32) rfl rfl) ?_
  exact Go.ret X2 hlk (some (.ref b1)) (fun h => by rw [Bd.returns] at h; cases h) (by exact ⟨b1, _, rfl, N2, K2, g_b1, sz_b1, V_b1⟩) (by decide) (by decide) (fun fs hr => retOut X2 hx Bd.returns rfl (Or.inr (Or.inr (Or.inr (Or.inr ⟨rfl, rfl, rfl⟩)))) (hb hby dtb1_33) hr)
 obtain ⟨s2, o2, st2, r2⟩ := G
 exact ⟨s2, o2, castTop (eftb1 m a (0 : Int32) (1 : Int32)) st2, r2⟩
theorem dco1_0 : decode jdk_52_method_16_code 0 = .ok (.iload_n 2, 1) := by decide +kernel
theorem dco1_1 : decode jdk_52_method_16_code 1 = .ok (.newarray .byte, 2) := by decide +kernel
theorem dco1_3 : decode jdk_52_method_16_code 3 = .ok (.astore_n 3, 1) := by decide +kernel
theorem dco1_4 : decode jdk_52_method_16_code 4 = .ok (.aload_n 0, 1) := by decide +kernel
theorem dco1_5 : decode jdk_52_method_16_code 5 = .ok (.iload_n 1, 1) := by decide +kernel
theorem dco1_6 : decode jdk_52_method_16_code 6 = .ok (.aload_n 3, 1) := by decide +kernel
theorem dco1_7 : decode jdk_52_method_16_code 7 = .ok (.iconst 0, 1) := by decide +kernel
theorem dco1_8 : decode jdk_52_method_16_code 8 = .ok (.iload_n 2, 1) := by decide +kernel
theorem dco1_9 : decode jdk_52_method_16_code 9 = .ok (.invokestatic 115, 3) := by decide +kernel
theorem dco1_12 : decode jdk_52_method_16_code 12 = .ok (.istore 4, 2) := by decide +kernel
theorem dco1_14 : decode jdk_52_method_16_code 14 = .ok (.iload 4, 2) := by decide +kernel
theorem dco1_16 : decode jdk_52_method_16_code 16 = .ok (.iload_n 2, 1) := by decide +kernel
theorem dco1_17 : decode jdk_52_method_16_code 17 = .ok (.if_icmp .eq 40, 3) := by decide +kernel
theorem dco1_20 : decode jdk_52_method_16_code 20 = .ok (.aload_n 0, 1) := by decide +kernel
theorem dco1_21 : decode jdk_52_method_16_code 21 = .ok (.iload_n 1, 1) := by decide +kernel
theorem dco1_22 : decode jdk_52_method_16_code 22 = .ok (.iload_n 2, 1) := by decide +kernel
theorem dco1_23 : decode jdk_52_method_16_code 23 = .ok (.invokestatic 119, 3) := by decide +kernel
theorem dco1_26 : decode jdk_52_method_16_code 26 = .ok (.astore 5, 2) := by decide +kernel
theorem dco1_28 : decode jdk_52_method_16_code 28 = .ok (.aload 5, 2) := by decide +kernel
theorem dco1_30 : decode jdk_52_method_16_code 30 = .ok (.iload 4, 2) := by decide +kernel
theorem dco1_32 : decode jdk_52_method_16_code 32 = .ok (.invokestatic 71, 3) := by decide +kernel
theorem dco1_35 : decode jdk_52_method_16_code 35 = .ok (.sipush 255, 3) := by decide +kernel
theorem dco1_38 : decode jdk_52_method_16_code 38 = .ok (.if_icmp .gt 16, 3) := by decide +kernel
theorem dco1_54 : decode jdk_52_method_16_code 54 = .ok (.aload 5, 2) := by decide +kernel
theorem dco1_56 : decode jdk_52_method_16_code 56 = .ok (.areturn, 1) := by decide +kernel
theorem dco1_57 : decode jdk_52_method_16_code 57 = .ok (.aload_n 3, 1) := by decide +kernel
theorem dco1_58 : decode jdk_52_method_16_code 58 = .ok (.areturn, 1) := by decide +kernel
theorem pdco1_0 : parseMethodDescriptor "([CI[BII)I" = some ⟨[(.array .char), .int, (.array .byte), .int, .int], some .int⟩ := by decide +kernel
theorem pdco1_1 : parseMethodDescriptor "([CII)[B" = some ⟨[(.array .char), .int, .int], some (.array .byte)⟩ := by decide +kernel
theorem pdco1_2 : parseMethodDescriptor "([BI)C" = some ⟨[(.array .byte), .int], some .char⟩ := by decide +kernel
theorem pnco1 : plainName "java/lang/StringUTF16" = true := by first | (simp [plainName, overriddenIn]; done) | decide +kernel
theorem efco1 (m : MethodId) (x0 : Addr) (x1 : Int32) (x2 : Int32) : entryFrame m #[(.ref x0), (.int x1), (.int x2)] 6 = mkF m 0 #[.val (.ref x0), .val (.int x1), .val (.int x2), .unset, .unset, .unset] [] := by first | (simp [entryFrame, mkF, argsToLocals, Value.category, maxLocals]; done) | rfl
def Qco1 (Z : State) (a : Addr) (ka : ClassId) (c0 : Int32) (h0 : Heap) (n0 : Nat) (v : Option Value) (h : Heap) (L : List Loc) : Prop := ∃ (t : Addr) (kt : ClassId) (cd N : Int32) (vs : List Value), v = some (.ref t) ∧ Fr n0 L ∧ Keep h0 h [] ∧ n0 ≤ t ∧ h0.size ≤ t ∧ Arv Z h t kt .byte N vs (.int 0) ∧ StrChars.Road.CodA ([c0] : List Int32) cd N vs
theorem rmco1 (l : Launch) (Z : State) (a0 : Array Value) (hw : ∀ d ∈ tables_1, d.before a0 Z = true) (ws : List Jvm.Cond) (a : Addr) (ka : ClassId) (c0 : Int32) (h0 : Heap) (n0 : Nat) (O0 : Old Z n0 h0) (V_a : Arv Z h0 a ka .char (1 : Int32) [(.int c0)] (.int 0)) (hc0 : ¬ c0 < 0 ∧ ¬ (65535 : Int32) < c0) (SA : Sta Z Z.heap "java/lang/StringUTF16" "$assertionsDisabled" "Z" (.int 1)) (SHI : Sta Z Z.heap "java/lang/StringUTF16" "HI_BYTE_SHIFT" "I" (.int 0)) (SLO : Sta Z Z.heap "java/lang/StringUTF16" "LO_BYTE_SHIFT" "I" (.int 8)) :
  MetFree l mN6 (head1 (Jvm.Cond.code mN6 jdk_52_method_16_code 6 (some (.array .byte)) :: ws) ({ frames := 3, cells := 2, slots := 3, locals := 40 } : Room)) (fun A_ U_ => A_ = #[(.ref a), (.int 0), (.int 1)] ∧ Z.Warmed39 U_.vm ∧ U_.heap = h0) (fun _ _ _ _ _ => True) (fun _ U o U' => ∃ v L, o = .returned v ∧ Qco1 Z a ka c0 h0 n0 v U'.heap L ∧ FrameEnd U o U' L ({ frames := 3, cells := 2, slots := 3, locals := 40 } : Room).cells ({ frames := 3, cells := 2, slots := 3, locals := 40 } : Room).slots) := by
 refine MetFree.of_bodySF (plainFor_of_name pnco1) hisR ?_
 intro p e s m args below meth cd s₁ Bd hml0 hP hK
 obtain ⟨rfl, hZ, hh⟩ := hP
 have hx := Bd.exec
 have hby := Bd.bytes
 have hlk : meth.locks = false := BodyLoose.notSynchronized Bd
 have hml : cd.maxLocals = 6 := hml0
 have hown : s.vm.findClass "java/lang/StringUTF16" = some m.cls := findClass_of_methodNamed Bd.named
 have X0 : Stand p l e ({ frames := 3, cells := 2, slots := 3, locals := 40 } : Room) s m #[(.ref a), (.int 0), (.int 1)] below meth cd s₁ [] 0 0 := Stand.of_body Bd
 have e0 : s₁.heap = h0 := by rw [← hh, Bd.state]; rfl
 have N0 := Fr.nil n0
 have K0 : Keep h0 h0 [] := Keep.refl _ _
 have G : Go p e below s 2 3 (Qco1 Z a ka c0 h0 n0) (s₁.setTop (mkF m 0 #[.val (.ref a), .val (.int 0), .val (.int 1), .unset, .unset, .unset] [])) := by
  refine Go.s (XS.iloadN X0.here hx rfl (hb hby dco1_0) rfl) ?_
  obtain ⟨T1, h1, k1, X1, e1, E1, A1, st1⟩ := newP X0 hx hZ (own_w hw 28 rfl) e0 (g := (mkF m 1 #[.val (.ref a), .val (.int 0), .val (.int 1), .unset, .unset, .unset] [(.int 1)])) rfl (hb hby dco1_1) rfl (by decide) (cap := 1) (by decide) (by decide) (by decide) (by decide)
  obtain ⟨b1, g1⟩ : ∃ z, z = h0.size := ⟨_, rfl⟩
  rw [← g1] at A1 st1
  have g_b1 : n0 ≤ b1 := Nat.le_trans (own_old O0) (Nat.le_of_eq g1.symm)
  have sz_b1 : h0.size ≤ b1 := Nat.le_trans K0.1 (Nat.le_of_eq g1.symm)
  have ne_a_b1 : a ≠ b1 := by rw [g1]; exact Nat.ne_of_lt V_a.lt
  have V_a := V_a.ext E1
  have O1 := O0.ext E1
  have K1 := K0.ext E1
  have V_b1 : Arv Z h1 b1 k1 .byte (1 : Int32) [(.int 0)] (.int 0) := (Arv.new A1 (by decide)).pad (pad_rep [] (.int 0) 1)
  refine Go.st st1 ?_
  show Go p e below s _ _ _ (T1.setTop (mkF m 3 #[.val (.ref a), .val (.int 0), .val (.int 1), .unset, .unset, .unset] [(.ref b1)]))
  refine Go.s (XS.astoreN X1.here hx rfl (hb hby dco1_3) rfl rfl (l' := #[.val (.ref a), .val (.int 0), .val (.int 1), .val (.ref b1), .unset, .unset]) rfl) ?_
  refine Go.s (XS.aloadN X1.here hx rfl (hb hby dco1_4) rfl rfl) ?_
  refine Go.s (XS.iloadN X1.here hx rfl (hb hby dco1_5) rfl) ?_
  refine Go.s (XS.aloadN X1.here hx rfl (hb hby dco1_6) rfl rfl) ?_
  refine Go.s (XS.iconst X1.here hx rfl (hb hby dco1_7)) ?_
  refine Go.s (XS.iloadN X1.here hx rfl (hb hby dco1_8) rfl) ?_
  obtain ⟨v2, _, ⟨T2, L2, k2, n2⟩, -, X2, ⟨Lc2, hQ2, l2, y2, z2⟩, st2⟩ := Jvm.LawKit.callS X1 hx (y := mN3) hown (mvT hZ (own_w hw 72 rfl)) (mvT hZ (own_w hw 73 rfl)) (mvT hZ (own_w hw 70 rfl)) (mvT hZ (own_w hw 74 rfl)) (by decide) (backOf (W := 0) (rmci1 l Z a0 hw [] a ka b1 k1 c0 h1 n0 O1 V_a V_b1 g_b1 ne_a_b1) hZ (own_w hw 74 rfl) (own_w hw 70 rfl) (by decide) (by decide)) (g := (mkF m 9 #[.val (.ref a), .val (.int 0), .val (.int 1), .val (.ref b1), .unset, .unset] [(.int 1), (.int 0), (.ref b1), (.int 0), (.ref a)])) rfl (by rw [hml]; rfl) (argsL := [(.ref a), (.int 0), (.ref b1), (.int 0), (.int 1)]) (rest := []) (lenOf pdco1_0 rfl) rfl (by show 2 * 0 + _ ≤ _; exact Nat.le_of_eq rfl) (hb hby dco1_9) (fun _ _ => ⟨rfl, e1, (by decide : 1 + 0 ≤ _), (by decide : 1 + 0 ≤ _)⟩)
  dsimp only [Pt.U, Pt.locs, Pt.cells, Pt.slots] at X2 l2 y2 z2 st2 hQ2
  subst y2 z2
  obtain ⟨vs2, Nc2, Kc2, NV, hd2⟩ := hQ2
  have N2 : Fr n0 L2 := by rw [l2]; exact Fr.app N0 Nc2
  have V_a := V_a.keep Kc2 (ninS ne_a_b1 nin0)
  have O2 := O1.keep Kc2 (allS g_b1 all0)
  have K2 := K1.trans Kc2 (allS (Or.inr sz_b1) all0)
  have V_b1 : Arv Z T2.heap b1 k1 .byte (1 : Int32) vs2 (.int 0) := NV
  obtain ⟨r2, rfl, hr2⟩ : ∃ r : Int32, v2 = some (.int r) ∧ ((r = (1 : Int32) ∧ vs2 = [(.int (StrChars.lo8 c0))] ∧ ¬ (255 : Int32) < c0) ∨ (∃ (i : Nat) (c : Int32), i < 1 ∧ r = Int32.ofNat i ∧ ([c0] : List Int32).getD i 0 = c ∧ (255 : Int32) < c)) := by
    rcases hd2 with ⟨h_, q_⟩ | ⟨h_, q_⟩
    · exact ⟨_, h_, Or.inl ⟨rfl, q_⟩⟩
    · exact ⟨_, h_, Or.inr ⟨0, _, by decide, rfl, rfl, q_⟩⟩
  refine Go.st st2 ?_
  show Go p e below s _ _ _ (T2.setTop (mkF m 12 #[.val (.ref a), .val (.int 0), .val (.int 1), .val (.ref b1), .unset, .unset] [(.int r2)]))
  rcases hr2 with ⟨rfl, ev, hall⟩ | ⟨i, c, hi, rfl, hc_, hbig⟩
  · rw [ev] at V_b1
    show Go p e below s _ _ _ (T2.setTop (mkF m 12 #[.val (.ref a), .val (.int 0), .val (.int 1), .val (.ref b1), .unset, .unset] [(.int 1)]))
    refine Go.s (XS.istore X2.here hx rfl (hb hby dco1_12) rfl (l' := #[.val (.ref a), .val (.int 0), .val (.int 1), .val (.ref b1), .val (.int 1), .unset]) rfl) ?_
    refine Go.s (XS.iload X2.here hx rfl (hb hby dco1_14) rfl) ?_
    refine Go.s (XS.iloadN X2.here hx rfl (hb hby dco1_16) rfl) ?_
    refine Go.s (XS.icmpYes X2.here hx rfl (pc0 := 17) (pc' := 57) rfl (hb hby dco1_17) rfl (by decide) (by decide) (by decide)) ?_
    show Go p e below s _ _ _ (T2.setTop (mkF m 57 #[.val (.ref a), .val (.int 0), .val (.int 1), .val (.ref b1), .val (.int 1), .unset] []))
    refine Go.s (XS.aloadN X2.here hx rfl (hb hby dco1_57) rfl rfl) ?_
    exact Go.ret X2 hlk (some (.ref b1)) (fun h => by rw [Bd.returns] at h; cases h) (by exact ⟨b1, _, _, _, _, rfl, N2, K2, g_b1, sz_b1, V_b1, Or.inl ⟨rfl, rfl, rfl, by intro c hc; simp only [List.mem_cons, List.not_mem_nil, or_false] at hc; rcases hc with rfl; exact hall⟩⟩) (by decide) (by decide) (fun fs hr => retOut X2 hx Bd.returns rfl (Or.inr (Or.inr (Or.inr (Or.inr ⟨rfl, rfl, rfl⟩)))) (hb hby dco1_58) hr)
  · have w := own_wix i 1 hi (by decide)
    have hv0 : List.getD ([(.int (StrChars.lo8 c0)), (.int (StrChars.hi8 c0))] : List Value) (2 * i) (.int 0) = (.int (StrChars.lo8 c)) := by rw [← hc_]; exact StrChars.Road.wide_lo _ [c0] i hi
    have hv1 : List.getD ([(.int (StrChars.lo8 c0)), (.int (StrChars.hi8 c0))] : List Value) (2 * i + 1) (.int 0) = (.int (StrChars.hi8 c)) := by rw [← hc_]; exact StrChars.Road.wide_hi _ [c0] i hi
    have hcc : ¬ c < 0 ∧ ¬ (65535 : Int32) < c := by rw [← hc_]; exact own_hbD (own_hb1 hc0) i
    show Go p e below s _ _ _ (T2.setTop (mkF m 12 #[.val (.ref a), .val (.int 0), .val (.int 1), .val (.ref b1), .unset, .unset] [(.int (Int32.ofNat i))]))
    refine Go.s (XS.istore X2.here hx rfl (hb hby dco1_12) rfl (l' := #[.val (.ref a), .val (.int 0), .val (.int 1), .val (.ref b1), .val (.int (Int32.ofNat i)), .unset]) rfl) ?_
    refine Go.s (XS.iload X2.here hx rfl (hb hby dco1_14) rfl) ?_
    refine Go.s (XS.iloadN X2.here hx rfl (hb hby dco1_16) rfl) ?_
    refine Go.s (XS.icmpNo X2.here hx rfl (hb hby dco1_17) rfl (XT.ii_eq_f (own_ofne hi (by decide)))) ?_
    show Go p e below s _ _ _ (T2.setTop (mkF m 20 #[.val (.ref a), .val (.int 0), .val (.int 1), .val (.ref b1), .val (.int (Int32.ofNat i)), .unset] []))
    refine Go.s (XS.aloadN X2.here hx rfl (hb hby dco1_20) rfl rfl) ?_
    refine Go.s (XS.iloadN X2.here hx rfl (hb hby dco1_21) rfl) ?_
    refine Go.s (XS.iloadN X2.here hx rfl (hb hby dco1_22) rfl) ?_
    obtain ⟨_, _, ⟨T3, L3, k3, n3⟩, -, X3, ⟨Lc3, hQ3, l3, y3, z3⟩, st3⟩ := Jvm.LawKit.callS X2 hx (y := mN5) hown (mvT hZ (own_w hw 108 rfl)) (mvT hZ (own_w hw 109 rfl)) (mvT hZ (own_w hw 70 rfl)) (mvT hZ (own_w hw 110 rfl)) (by decide) (backOf (W := 0) (rmtb1 l Z a0 hw [] a ka c0 T2.heap n0 O2 V_a SA SHI SLO) hZ (own_w hw 110 rfl) (own_w hw 70 rfl) (by decide) (by decide)) (g := (mkF m 23 #[.val (.ref a), .val (.int 0), .val (.int 1), .val (.ref b1), .val (.int (Int32.ofNat i)), .unset] [(.int 1), (.int 0), (.ref a)])) rfl (by rw [hml]; rfl) (argsL := [(.ref a), (.int 0), (.int 1)]) (rest := []) (lenOf pdco1_1 rfl) rfl (by show 2 * 0 + _ ≤ _; exact Nat.le_of_eq rfl) (hb hby dco1_23) (fun _ _ => ⟨rfl, rfl, (by decide : 1 + 1 ≤ _), (by decide : 1 + 2 ≤ _)⟩)
    dsimp only [Pt.U, Pt.locs, Pt.cells, Pt.slots] at X3 l3 y3 z3 st3 hQ3
    subst y3 z3
    obtain ⟨b3, kb3, rfl, Nc3, Kc3, gb3, szb3, NV⟩ := hQ3
    have N3 : Fr n0 L3 := by rw [l3]; exact Fr.app N2 Nc3
    have g_b3 : n0 ≤ b3 := gb3
    have sz_b3 : h0.size ≤ b3 := Nat.le_trans K2.1 szb3
    have ne_a_b3 : a ≠ b3 := Nat.ne_of_lt (Nat.lt_of_lt_of_le V_a.lt szb3)
    have ne_b1_b3 : b1 ≠ b3 := Nat.ne_of_lt (Nat.lt_of_lt_of_le V_b1.lt szb3)
    have V_a := V_a.keep Kc3 nin0
    have V_b1 := V_b1.keep Kc3 nin0
    have O3 := O2.keep Kc3 all0
    have K3 := K2.trans Kc3 all0
    have V_b3 : Arv Z T3.heap b3 kb3 .byte (2 : Int32) [(.int (StrChars.lo8 c0)), (.int (StrChars.hi8 c0))] (.int 0) := NV
    refine Go.st st3 ?_
    show Go p e below s _ _ _ (T3.setTop (mkF m 26 #[.val (.ref a), .val (.int 0), .val (.int 1), .val (.ref b1), .val (.int (Int32.ofNat i)), .unset] [(.ref b3)]))
    refine Go.s (XS.astore X3.here hx rfl (hb hby dco1_26) rfl rfl (l' := #[.val (.ref a), .val (.int 0), .val (.int 1), .val (.ref b1), .val (.int (Int32.ofNat i)), .val (.ref b3)]) rfl) ?_
    refine Go.s (XS.aload X3.here hx rfl (hb hby dco1_28) rfl rfl) ?_
    refine Go.s (XS.iload X3.here hx rfl (hb hby dco1_30) rfl) ?_
    obtain ⟨_, _, ⟨T4, L4, k4, n4⟩, -, X4, ⟨Lc4, hQ4, l4, y4, z4⟩, st4⟩ := Jvm.LawKit.callS X3 hx (y := mN2) hown (mvT hZ (own_w hw 124 rfl)) (mvT hZ (own_w hw 125 rfl)) (mvT hZ (own_w hw 70 rfl)) (mvT hZ (own_w hw 126 rfl)) (by decide) (backOf (W := 0) (rmgc l Z a0 hw [] b3 kb3 c (2 : Int32) [(.int (StrChars.lo8 c0)), (.int (StrChars.hi8 c0))] (Int32.ofNat i) (Int32.ofNat (2 * i)) (2 * i) T3.heap n0 O3 V_b3 w.1 w.2.1 w.2.2.1 w.2.2.2.1 w.2.2.2.2.1 w.2.2.2.2.2.1 w.2.2.2.2.2.2.1 hv0 hv1 hcc SA SHI SLO) hZ (own_w hw 126 rfl) (own_w hw 70 rfl) (by decide) (by decide)) (g := (mkF m 32 #[.val (.ref a), .val (.int 0), .val (.int 1), .val (.ref b1), .val (.int (Int32.ofNat i)), .val (.ref b3)] [(.int (Int32.ofNat i)), (.ref b3)])) rfl (by rw [hml]; rfl) (argsL := [(.ref b3), (.int (Int32.ofNat i))]) (rest := []) (lenOf pdco1_2 rfl) rfl (by show 2 * 0 + _ ≤ _; exact Nat.le_of_eq rfl) (hb hby dco1_32) (fun _ _ => ⟨rfl, rfl, (by decide : 2 + 0 ≤ _), (by decide : 3 + 0 ≤ _)⟩)
    dsimp only [Pt.U, Pt.locs, Pt.cells, Pt.slots] at X4 l4 y4 z4 st4 hQ4
    subst y4 z4
    obtain ⟨rfl, Nc4, e4⟩ := hQ4
    have N4 : Fr n0 L4 := by rw [l4]; exact Fr.app N3 Nc4
    refine Go.st st4 ?_
    show Go p e below s _ _ _ (T4.setTop (mkF m 35 #[.val (.ref a), .val (.int 0), .val (.int 1), .val (.ref b1), .val (.int (Int32.ofNat i)), .val (.ref b3)] [(.int c)]))
    refine Go.s (XS.sipush X4.here hx rfl (hb hby dco1_35)) ?_
    refine Go.s (XS.icmpYes X4.here hx rfl (pc0 := 38) (pc' := 54) rfl (hb hby dco1_38) rfl (XT.ii_gt_t hbig) (by decide) (by decide)) ?_
    show Go p e below s _ _ _ (T4.setTop (mkF m 54 #[.val (.ref a), .val (.int 0), .val (.int 1), .val (.ref b1), .val (.int (Int32.ofNat i)), .val (.ref b3)] []))
    refine Go.s (XS.aload X4.here hx rfl (hb hby dco1_54) rfl rfl) ?_
    exact Go.ret X4 hlk (some (.ref b3)) (fun h => by rw [Bd.returns] at h; cases h) (by rw [e4]; exact ⟨b3, _, _, _, _, rfl, N4, K3, g_b3, sz_b3, V_b3, Or.inr ⟨rfl, rfl, rfl, c, own_memD hi hc_, hbig⟩⟩) (by decide) (by decide) (fun fs hr => retOut X4 hx Bd.returns rfl (Or.inr (Or.inr (Or.inr (Or.inr ⟨rfl, rfl, rfl⟩)))) (hb hby dco1_56) hr)
 obtain ⟨s2, o2, st2, r2⟩ := G
 exact ⟨s2, o2, castTop (efco1 m a (0 : Int32) (1 : Int32)) st2, r2⟩
theorem pnci2 : plainName "java/lang/StringUTF16" = true := by first | (simp [plainName, overriddenIn]; done) | decide +kernel
theorem efci2 (m : MethodId) (x0 : Addr) (x1 : Int32) (x2 : Addr) (x3 : Int32) (x4 : Int32) : entryFrame m #[(.ref x0), (.int x1), (.ref x2), (.int x3), (.int x4)] 7 = mkF m 0 #[.val (.ref x0), .val (.int x1), .val (.ref x2), .val (.int x3), .val (.int x4), .unset, .unset] [] := by first | (simp [entryFrame, mkF, argsToLocals, Value.category, maxLocals]; done) | rfl
def Qci2 (Z : State) (a : Addr) (ka : ClassId) (b : Addr) (kb : ClassId) (c0 : Int32) (c1 : Int32) (h0 : Heap) (n0 : Nat) (v : Option Value) (h : Heap) (L : List Loc) : Prop := ∃ vs : List Value, Fr n0 L ∧ Keep h0 h [b] ∧ Arv Z h b kb .byte (2 : Int32) vs (.int 0) ∧ ((v = some (.int 2) ∧ vs = [(.int (StrChars.lo8 c0)), (.int (StrChars.lo8 c1))] ∧ ¬ (255 : Int32) < c0 ∧ ¬ (255 : Int32) < c1) ∨ (v = some (.int 0) ∧ (255 : Int32) < c0) ∨ (v = some (.int 1) ∧ (255 : Int32) < c1))
theorem rmci2 (l : Launch) (Z : State) (a0 : Array Value) (hw : ∀ d ∈ tables_1, d.before a0 Z = true) (ws : List Jvm.Cond) (a : Addr) (ka : ClassId) (b : Addr) (kb : ClassId) (c0 : Int32) (c1 : Int32) (h0 : Heap) (n0 : Nat) (O0 : Old Z n0 h0) (V_a : Arv Z h0 a ka .char (2 : Int32) [(.int c0), (.int c1)] (.int 0)) (V_b : Arv Z h0 b kb .byte (2 : Int32) [(.int 0), (.int 0)] (.int 0)) (gb : n0 ≤ b) (nab : a ≠ b) :
  MetFree l mN3 (head1 (Jvm.Cond.code mN3 jdk_52_method_21_code 7 (some .int) :: ws) ({ frames := 0, cells := 0, slots := 0, locals := 0 } : Room)) (fun A_ U_ => A_ = #[(.ref a), (.int 0), (.ref b), (.int 0), (.int 2)] ∧ Z.Warmed39 U_.vm ∧ U_.heap = h0) (fun _ _ _ _ _ => True) (fun _ U o U' => ∃ v L, o = .returned v ∧ Qci2 Z a ka b kb c0 c1 h0 n0 v U'.heap L ∧ FrameEnd U o U' L ({ frames := 0, cells := 0, slots := 0, locals := 0 } : Room).cells ({ frames := 0, cells := 0, slots := 0, locals := 0 } : Room).slots) := by
 refine MetFree.of_bodySF (plainFor_of_name pnci2) hisR ?_
 intro p e s m args below meth cd s₁ Bd hml0 hP hK
 obtain ⟨rfl, hZ, hh⟩ := hP
 have hx := Bd.exec
 have hby := Bd.bytes
 have hlk : meth.locks = false := BodyLoose.notSynchronized Bd
 have hml : cd.maxLocals = 7 := hml0
 have hown : s.vm.findClass "java/lang/StringUTF16" = some m.cls := findClass_of_methodNamed Bd.named
 have X0 : Stand p l e ({ frames := 0, cells := 0, slots := 0, locals := 0 } : Room) s m #[(.ref a), (.int 0), (.ref b), (.int 0), (.int 2)] below meth cd s₁ [] 0 0 := Stand.of_body Bd
 have e0 : s₁.heap = h0 := by rw [← hh, Bd.state]; rfl
 have N0 := Fr.nil n0
 have K0 : Keep h0 h0 [b] := Keep.refl _ _
 have G : Go p e below s 0 0 (Qci2 Z a ka b kb c0 c1 h0 n0) (s₁.setTop (mkF m 0 #[.val (.ref a), .val (.int 0), .val (.ref b), .val (.int 0), .val (.int 2), .unset, .unset] [])) := by
  refine Go.s (XS.iconst X0.here hx rfl (hb hby dci1_0)) ?_
  refine Go.s (XS.istore X0.here hx rfl (hb hby dci1_1) rfl (l' := #[.val (.ref a), .val (.int 0), .val (.ref b), .val (.int 0), .val (.int 2), .val (.int 0), .unset]) rfl) ?_
  refine Go.s (XS.iload X0.here hx rfl (hb hby dci1_3) rfl) ?_
  refine Go.s (XS.iload X0.here hx rfl (hb hby dci1_5) rfl) ?_
  refine Go.s (XS.icmpNo X0.here hx rfl (hb hby dci1_7) rfl (by decide)) ?_
  show Go p e below s _ _ _ (s₁.setTop (mkF m 10 #[.val (.ref a), .val (.int 0), .val (.ref b), .val (.int 0), .val (.int 2), .val (.int 0), .unset] []))
  refine Go.s (XS.aloadN X0.here hx rfl (hb hby dci1_10) rfl rfl) ?_
  refine Go.s (XS.iloadN X0.here hx rfl (hb hby dci1_11) rfl) ?_
  refine Go.s (own_caload X0 hx hZ e0 V_a (by decide) (by decide) (v := (.int c0)) rfl (g := (mkF m 12 #[.val (.ref a), .val (.int 0), .val (.ref b), .val (.int 0), .val (.int 2), .val (.int 0), .unset] [(.int 0), (.ref a)])) rfl rfl (hb hby dci1_12) _) ?_
  show Go p e below s _ _ _ (s₁.setTop (mkF m 13 #[.val (.ref a), .val (.int 0), .val (.ref b), .val (.int 0), .val (.int 2), .val (.int 0), .unset] [(.int c0)]))
  refine Go.s (XS.istore X0.here hx rfl (hb hby dci1_13) rfl (l' := #[.val (.ref a), .val (.int 0), .val (.ref b), .val (.int 0), .val (.int 2), .val (.int 0), .val (.int c0)]) rfl) ?_
  refine Go.s (XS.iload X0.here hx rfl (hb hby dci1_15) rfl) ?_
  refine Go.s (XS.sipush X0.here hx rfl (hb hby dci1_17)) ?_
  by_cases c20_1 : (255 : Int32) < c0
  · refine Go.s (XS.icmpNo X0.here hx rfl (hb hby dci1_20) rfl (XT.ii_le_f c20_1)) ?_
    show Go p e below s _ _ _ (s₁.setTop (mkF m 23 #[.val (.ref a), .val (.int 0), .val (.ref b), .val (.int 0), .val (.int 2), .val (.int 0), .val (.int c0)] []))
    refine Go.s (XS.iload X0.here hx rfl (hb hby dci1_23) rfl) ?_
    exact Go.ret X0 hlk (some (.int 0)) (fun h => by rw [Bd.returns] at h; cases h) (by rw [e0]; exact ⟨_, N0, K0, V_b, Or.inr (Or.inl ⟨rfl, c20_1⟩)⟩) (by decide) (by decide) (fun fs hr => retI X0 hx Bd.returns (hb hby dci1_25) hr)
  · refine Go.s (XS.icmpYes X0.here hx rfl (pc0 := 20) (pc' := 26) rfl (hb hby dci1_20) rfl (XT.ii_le_t c20_1) (by decide) (by decide)) ?_
    show Go p e below s _ _ _ (s₁.setTop (mkF m 26 #[.val (.ref a), .val (.int 0), .val (.ref b), .val (.int 0), .val (.int 2), .val (.int 0), .val (.int c0)] []))
    refine Go.s (XS.aloadN X0.here hx rfl (hb hby dci1_26) rfl rfl) ?_
    refine Go.s (XS.iloadN X0.here hx rfl (hb hby dci1_27) rfl) ?_
    refine Go.s (XS.iload X0.here hx rfl (hb hby dci1_28) rfl) ?_
    refine Go.s (XT.i2b X0.here hx rfl (hb hby dci1_30) rfl) ?_
    show Go p e below s _ _ _ (s₁.setTop (mkF m 31 #[.val (.ref a), .val (.int 0), .val (.ref b), .val (.int 0), .val (.int 2), .val (.int 0), .val (.int c0)] [(.int (c0.toInt8.toInt32)), (.int 0), (.ref b)]))
    obtain ⟨T2, h2, X2, e2, W2, V2, st2⟩ := own_stB X0 hx hZ e0 V_b (j := (0 : Int32)) (by decide) (by decide) 0 rfl (Nat.le_of_ble_eq_true rfl) (g := (mkF m 31 #[.val (.ref a), .val (.int 0), .val (.ref b), .val (.int 0), .val (.int 2), .val (.int 0), .val (.int c0)] [(.int (c0.toInt8.toInt32)), (.int 0), (.ref b)])) rfl rfl (hb hby dci1_31)
    obtain ⟨lc2, X2, N2⟩ := own_gen X2 (Fr.snoc X2 N0 gb)
    have O2 := O0.wr W2 gb
    have K2 := K0.wr W2 (Or.inl (List.mem_of_getElem? (i := 0) rfl))
    have V_a := V_a.other W2 nab
    have V_b : Arv Z h2 b kb .byte (2 : Int32) [(.int (nar .byte (c0.toInt8.toInt32))), (.int 0)] (.int 0) := V2
    refine Go.st st2 ?_
    show Go p e below s _ _ _ (T2.setTop (mkF m 32 #[.val (.ref a), .val (.int 0), .val (.ref b), .val (.int 0), .val (.int 2), .val (.int 0), .val (.int c0)] []))
    refine Go.s (XT.iincV X2.here hx rfl (1 : Int32) (hb hby dci1_32) rfl rfl (l' := #[.val (.ref a), .val (.int 1), .val (.ref b), .val (.int 0), .val (.int 2), .val (.int 0), .val (.int c0)]) rfl) ?_
    refine Go.s (XT.iincV X2.here hx rfl (1 : Int32) (hb hby dci1_35) rfl rfl (l' := #[.val (.ref a), .val (.int 1), .val (.ref b), .val (.int 1), .val (.int 2), .val (.int 0), .val (.int c0)]) rfl) ?_
    refine Go.s (XT.iincV X2.here hx rfl (1 : Int32) (hb hby dci1_38) rfl rfl (l' := #[.val (.ref a), .val (.int 1), .val (.ref b), .val (.int 1), .val (.int 2), .val (.int 1), .val (.int c0)]) rfl) ?_
    refine Go.s (XS.goto X2.here hx rfl (pc0 := 41) (pc' := 3) rfl (hb hby dci1_41) (by decide) (by decide)) ?_
    refine Go.s (XS.iload X2.here hx rfl (hb hby dci1_3) rfl) ?_
    refine Go.s (XS.iload X2.here hx rfl (hb hby dci1_5) rfl) ?_
    refine Go.s (XS.icmpNo X2.here hx rfl (hb hby dci1_7) rfl (by decide)) ?_
    show Go p e below s _ _ _ (T2.setTop (mkF m 10 #[.val (.ref a), .val (.int 1), .val (.ref b), .val (.int 1), .val (.int 2), .val (.int 1), .val (.int c0)] []))
    refine Go.s (XS.aloadN X2.here hx rfl (hb hby dci1_10) rfl rfl) ?_
    refine Go.s (XS.iloadN X2.here hx rfl (hb hby dci1_11) rfl) ?_
    refine Go.s (own_caload X2 hx hZ e2 V_a (by decide) (by decide) (v := (.int c1)) rfl (g := (mkF m 12 #[.val (.ref a), .val (.int 1), .val (.ref b), .val (.int 1), .val (.int 2), .val (.int 1), .val (.int c0)] [(.int 1), (.ref a)])) rfl rfl (hb hby dci1_12) _) ?_
    show Go p e below s _ _ _ (T2.setTop (mkF m 13 #[.val (.ref a), .val (.int 1), .val (.ref b), .val (.int 1), .val (.int 2), .val (.int 1), .val (.int c0)] [(.int c1)]))
    refine Go.s (XS.istore X2.here hx rfl (hb hby dci1_13) rfl (l' := #[.val (.ref a), .val (.int 1), .val (.ref b), .val (.int 1), .val (.int 2), .val (.int 1), .val (.int c1)]) rfl) ?_
    refine Go.s (XS.iload X2.here hx rfl (hb hby dci1_15) rfl) ?_
    refine Go.s (XS.sipush X2.here hx rfl (hb hby dci1_17)) ?_
    by_cases c20_3 : (255 : Int32) < c1
    · refine Go.s (XS.icmpNo X2.here hx rfl (hb hby dci1_20) rfl (XT.ii_le_f c20_3)) ?_
      show Go p e below s _ _ _ (T2.setTop (mkF m 23 #[.val (.ref a), .val (.int 1), .val (.ref b), .val (.int 1), .val (.int 2), .val (.int 1), .val (.int c1)] []))
      refine Go.s (XS.iload X2.here hx rfl (hb hby dci1_23) rfl) ?_
      exact Go.ret X2 hlk (some (.int 1)) (fun h => by rw [Bd.returns] at h; cases h) (by rw [e2]; exact ⟨_, N2, K2, V_b, Or.inr (Or.inr (⟨rfl, c20_3⟩))⟩) (by decide) (by decide) (fun fs hr => retI X2 hx Bd.returns (hb hby dci1_25) hr)
    · refine Go.s (XS.icmpYes X2.here hx rfl (pc0 := 20) (pc' := 26) rfl (hb hby dci1_20) rfl (XT.ii_le_t c20_3) (by decide) (by decide)) ?_
      show Go p e below s _ _ _ (T2.setTop (mkF m 26 #[.val (.ref a), .val (.int 1), .val (.ref b), .val (.int 1), .val (.int 2), .val (.int 1), .val (.int c1)] []))
      refine Go.s (XS.aloadN X2.here hx rfl (hb hby dci1_26) rfl rfl) ?_
      refine Go.s (XS.iloadN X2.here hx rfl (hb hby dci1_27) rfl) ?_
      refine Go.s (XS.iload X2.here hx rfl (hb hby dci1_28) rfl) ?_
      refine Go.s (XT.i2b X2.here hx rfl (hb hby dci1_30) rfl) ?_
      show Go p e below s _ _ _ (T2.setTop (mkF m 31 #[.val (.ref a), .val (.int 1), .val (.ref b), .val (.int 1), .val (.int 2), .val (.int 1), .val (.int c1)] [(.int (c1.toInt8.toInt32)), (.int 1), (.ref b)]))
      obtain ⟨T4, h4, X4, e4, W4, V4, st4⟩ := own_stB X2 hx hZ e2 V_b (j := (1 : Int32)) (by decide) (by decide) 1 rfl (Nat.le_of_ble_eq_true rfl) (g := (mkF m 31 #[.val (.ref a), .val (.int 1), .val (.ref b), .val (.int 1), .val (.int 2), .val (.int 1), .val (.int c1)] [(.int (c1.toInt8.toInt32)), (.int 1), (.ref b)])) rfl rfl (hb hby dci1_31)
      obtain ⟨lc4, X4, N4⟩ := own_gen X4 (Fr.snoc X4 N2 gb)
      have O4 := O2.wr W4 gb
      have K4 := K2.wr W4 (Or.inl (List.mem_of_getElem? (i := 0) rfl))
      have V_a := V_a.other W4 nab
      have V_b : Arv Z h4 b kb .byte (2 : Int32) [(.int (nar .byte (c0.toInt8.toInt32))), (.int (nar .byte (c1.toInt8.toInt32)))] (.int 0) := V4
      refine Go.st st4 ?_
      show Go p e below s _ _ _ (T4.setTop (mkF m 32 #[.val (.ref a), .val (.int 1), .val (.ref b), .val (.int 1), .val (.int 2), .val (.int 1), .val (.int c1)] []))
      refine Go.s (XT.iincV X4.here hx rfl (1 : Int32) (hb hby dci1_32) rfl rfl (l' := #[.val (.ref a), .val (.int 2), .val (.ref b), .val (.int 1), .val (.int 2), .val (.int 1), .val (.int c1)]) rfl) ?_
      refine Go.s (XT.iincV X4.here hx rfl (1 : Int32) (hb hby dci1_35) rfl rfl (l' := #[.val (.ref a), .val (.int 2), .val (.ref b), .val (.int 2), .val (.int 2), .val (.int 1), .val (.int c1)]) rfl) ?_
      refine Go.s (XT.iincV X4.here hx rfl (1 : Int32) (hb hby dci1_38) rfl rfl (l' := #[.val (.ref a), .val (.int 2), .val (.ref b), .val (.int 2), .val (.int 2), .val (.int 2), .val (.int c1)]) rfl) ?_
      refine Go.s (XS.goto X4.here hx rfl (pc0 := 41) (pc' := 3) rfl (hb hby dci1_41) (by decide) (by decide)) ?_
      refine Go.s (XS.iload X4.here hx rfl (hb hby dci1_3) rfl) ?_
      refine Go.s (XS.iload X4.here hx rfl (hb hby dci1_5) rfl) ?_
      refine Go.s (XS.icmpYes X4.here hx rfl (pc0 := 7) (pc' := 44) rfl (hb hby dci1_7) rfl (by decide) (by decide) (by decide)) ?_
      show Go p e below s _ _ _ (T4.setTop (mkF m 44 #[.val (.ref a), .val (.int 2), .val (.ref b), .val (.int 2), .val (.int 2), .val (.int 2), .val (.int c1)] []))
      refine Go.s (XS.iload X4.here hx rfl (hb hby dci1_44) rfl) ?_
      exact Go.ret X4 hlk (some (.int 2)) (fun h => by rw [Bd.returns] at h; cases h) (by rw [e4]; exact ⟨_, N4, K4, V_b, Or.inl ⟨rfl, by simp only [own_nbl], c20_1, c20_3⟩⟩) (by decide) (by decide) (fun fs hr => retI X4 hx Bd.returns (hb hby dci1_46) hr)
 obtain ⟨s2, o2, st2, r2⟩ := G
 exact ⟨s2, o2, castTop (efci2 m a (0 : Int32) b (0 : Int32) (2 : Int32)) st2, r2⟩
theorem pnnb2 : plainName "java/lang/StringUTF16" = true := by first | (simp [plainName, overriddenIn]; done) | decide +kernel
theorem efnb2 (m : MethodId) (x0 : Int32) : entryFrame m #[(.int x0)] 1 = mkF m 0 #[.val (.int x0)] [] := by first | (simp [entryFrame, mkF, argsToLocals, Value.category, maxLocals]; done) | rfl
def Qnb2 (Z : State)  (h0 : Heap) (n0 : Nat) (v : Option Value) (h : Heap) (L : List Loc) : Prop := ∃ (b : Addr) (kb : ClassId), v = some (.ref b) ∧ Fr n0 L ∧ Keep h0 h [] ∧ n0 ≤ b ∧ h0.size ≤ b ∧ Arv Z h b kb .byte (4 : Int32) [(.int 0), (.int 0), (.int 0), (.int 0)] (.int 0)
theorem rmnb2 (l : Launch) (Z : State) (a0 : Array Value) (hw : ∀ d ∈ tables_1, d.before a0 Z = true) (ws : List Jvm.Cond)  (h0 : Heap) (n0 : Nat) (O0 : Old Z n0 h0)  :
  MetFree l mN4 (head1 (Jvm.Cond.code mN4 jdk_52_method_2_code 1 (some (.array .byte)) :: ws) ({ frames := 1, cells := 1, slots := 4, locals := 12 } : Room)) (fun A_ U_ => A_ = #[(.int 2)] ∧ Z.Warmed39 U_.vm ∧ U_.heap = h0) (fun _ _ _ _ _ => True) (fun _ U o U' => ∃ v L, o = .returned v ∧ Qnb2 Z  h0 n0 v U'.heap L ∧ FrameEnd U o U' L ({ frames := 1, cells := 1, slots := 4, locals := 12 } : Room).cells ({ frames := 1, cells := 1, slots := 4, locals := 12 } : Room).slots) := by
 refine MetFree.of_bodySF (plainFor_of_name pnnb2) hisR ?_
 intro p e s m args below meth cd s₁ Bd hml0 hP hK
 obtain ⟨rfl, hZ, hh⟩ := hP
 have hx := Bd.exec
 have hby := Bd.bytes
 have hlk : meth.locks = false := BodyLoose.notSynchronized Bd
 have hml : cd.maxLocals = 1 := hml0
 have hown : s.vm.findClass "java/lang/StringUTF16" = some m.cls := findClass_of_methodNamed Bd.named
 have X0 : Stand p l e ({ frames := 1, cells := 1, slots := 4, locals := 12 } : Room) s m #[(.int 2)] below meth cd s₁ [] 0 0 := Stand.of_body Bd
 have e0 : s₁.heap = h0 := by rw [← hh, Bd.state]; rfl
 have N0 := Fr.nil n0
 have K0 : Keep h0 h0 [] := Keep.refl _ _
 have G : Go p e below s 1 4 (Qnb2 Z  h0 n0) (s₁.setTop (mkF m 0 #[.val (.int 2)] [])) := by
  refine Go.s (XS.iloadN X0.here hx rfl (hb hby dnb1_0) rfl) ?_
  obtain ⟨_, _, ⟨T1, L1, k1, n1⟩, -, X1, ⟨Lc1, hQ1, l1, y1, z1⟩, st1⟩ := Jvm.LawKit.callS X0 hx (y := mN0) hown (mvT hZ (own_w hw 114 rfl)) (mvT hZ (own_w hw 115 rfl)) (mvT hZ (own_w hw 70 rfl)) (mvT hZ (own_w hw 116 rfl)) (by decide) (backOf (W := 0) (rmnl l Z a0 hw [] (2 : Int32) h0 n0 O0 (by decide) (by decide)) hZ (own_w hw 116 rfl) (own_w hw 70 rfl) (by decide) (by decide)) (g := (mkF m 1 #[.val (.int 2)] [(.int 2)])) rfl (by rw [hml]; rfl) (argsL := [(.int 2)]) (rest := []) (lenOf pdnb1_0 rfl) rfl (by show 2 * 0 + _ ≤ _; exact Nat.le_of_eq rfl) (hb hby dnb1_1) (fun _ _ => ⟨rfl, e0, (by decide : 0 + 0 ≤ _), (by decide : 0 + 0 ≤ _)⟩)
  dsimp only [Pt.U, Pt.locs, Pt.cells, Pt.slots] at X1 l1 y1 z1 st1 hQ1
  subst y1 z1
  obtain ⟨rfl, Nc1, e1⟩ := hQ1
  have N1 : Fr n0 L1 := by rw [l1]; exact Fr.app N0 Nc1
  refine Go.st st1 ?_
  show Go p e below s _ _ _ (T1.setTop (mkF m 4 #[.val (.int 2)] [(.int 4)]))
  obtain ⟨T2, h2, k2, X2, e2, E2, A2, st2⟩ := newP X1 hx hZ (own_w hw 28 rfl) e1 (g := (mkF m 4 #[.val (.int 2)] [(.int 4)])) rfl (hb hby dnb1_4) rfl (by decide) (cap := 4) (by decide) (by decide) (by decide) (by decide)
  obtain ⟨b2, g2⟩ : ∃ z, z = h0.size := ⟨_, rfl⟩
  rw [← g2] at A2 st2
  have g_b2 : n0 ≤ b2 := Nat.le_trans (own_old O0) (Nat.le_of_eq g2.symm)
  have sz_b2 : h0.size ≤ b2 := Nat.le_trans K0.1 (Nat.le_of_eq g2.symm)
  have O2 := O0.ext E2
  have K2 := K0.ext E2
  have V_b2 : Arv Z h2 b2 k2 .byte (4 : Int32) [(.int 0), (.int 0), (.int 0), (.int 0)] (.int 0) := (Arv.new A2 (by decide)).pad (pad_rep [] (.int 0) 4)
  refine Go.st st2 ?_
  show Go p e below s _ _ _ (T2.setTop (mkF m 6 #[.val (.int 2)] [(.ref b2)]))
  exact Go.ret X2 hlk (some (.ref b2)) (fun h => by rw [Bd.returns] at h; cases h) (by rw [e2]; exact ⟨b2, _, rfl, N1, K2, g_b2, sz_b2, V_b2⟩) (by decide) (by decide) (fun fs hr => retOut X2 hx Bd.returns rfl (Or.inr (Or.inr (Or.inr (Or.inr ⟨rfl, rfl, rfl⟩)))) (hb hby dnb1_6) hr)
 obtain ⟨s2, o2, st2, r2⟩ := G
 exact ⟨s2, o2, castTop (efnb2 m (2 : Int32)) st2, r2⟩
theorem pntb2 : plainName "java/lang/StringUTF16" = true := by first | (simp [plainName, overriddenIn]; done) | decide +kernel
theorem eftb2 (m : MethodId) (x0 : Addr) (x1 : Int32) (x2 : Int32) : entryFrame m #[(.ref x0), (.int x1), (.int x2)] 5 = mkF m 0 #[.val (.ref x0), .val (.int x1), .val (.int x2), .unset, .unset] [] := by first | (simp [entryFrame, mkF, argsToLocals, Value.category, maxLocals]; done) | rfl
def Qtb2 (Z : State) (a : Addr) (ka : ClassId) (c0 : Int32) (c1 : Int32) (h0 : Heap) (n0 : Nat) (v : Option Value) (h : Heap) (L : List Loc) : Prop := ∃ (b : Addr) (kb : ClassId), v = some (.ref b) ∧ Fr n0 L ∧ Keep h0 h [] ∧ n0 ≤ b ∧ h0.size ≤ b ∧ Arv Z h b kb .byte (4 : Int32) [(.int (StrChars.lo8 c0)), (.int (StrChars.hi8 c0)), (.int (StrChars.lo8 c1)), (.int (StrChars.hi8 c1))] (.int 0)
theorem rmtb2 (l : Launch) (Z : State) (a0 : Array Value) (hw : ∀ d ∈ tables_1, d.before a0 Z = true) (ws : List Jvm.Cond) (a : Addr) (ka : ClassId) (c0 : Int32) (c1 : Int32) (h0 : Heap) (n0 : Nat) (O0 : Old Z n0 h0) (V_a : Arv Z h0 a ka .char (2 : Int32) [(.int c0), (.int c1)] (.int 0)) (SA : Sta Z Z.heap "java/lang/StringUTF16" "$assertionsDisabled" "Z" (.int 1)) (SHI : Sta Z Z.heap "java/lang/StringUTF16" "HI_BYTE_SHIFT" "I" (.int 0)) (SLO : Sta Z Z.heap "java/lang/StringUTF16" "LO_BYTE_SHIFT" "I" (.int 8)) :
  MetFree l mN5 (head1 (Jvm.Cond.code mN5 jdk_52_method_14_code 5 (some (.array .byte)) :: ws) ({ frames := 2, cells := 1, slots := 4, locals := 24 } : Room)) (fun A_ U_ => A_ = #[(.ref a), (.int 0), (.int 2)] ∧ Z.Warmed39 U_.vm ∧ U_.heap = h0) (fun _ _ _ _ _ => True) (fun _ U o U' => ∃ v L, o = .returned v ∧ Qtb2 Z a ka c0 c1 h0 n0 v U'.heap L ∧ FrameEnd U o U' L ({ frames := 2, cells := 1, slots := 4, locals := 24 } : Room).cells ({ frames := 2, cells := 1, slots := 4, locals := 24 } : Room).slots) := by
 refine MetFree.of_bodySF (plainFor_of_name pntb2) hisR ?_
 intro p e s m args below meth cd s₁ Bd hml0 hP hK
 obtain ⟨rfl, hZ, hh⟩ := hP
 have hx := Bd.exec
 have hby := Bd.bytes
 have hlk : meth.locks = false := BodyLoose.notSynchronized Bd
 have hml : cd.maxLocals = 5 := hml0
 have hown : s.vm.findClass "java/lang/StringUTF16" = some m.cls := findClass_of_methodNamed Bd.named
 have X0 : Stand p l e ({ frames := 2, cells := 1, slots := 4, locals := 24 } : Room) s m #[(.ref a), (.int 0), (.int 2)] below meth cd s₁ [] 0 0 := Stand.of_body Bd
 have e0 : s₁.heap = h0 := by rw [← hh, Bd.state]; rfl
 have N0 := Fr.nil n0
 have K0 : Keep h0 h0 [] := Keep.refl _ _
 have G : Go p e below s 1 4 (Qtb2 Z a ka c0 c1 h0 n0) (s₁.setTop (mkF m 0 #[.val (.ref a), .val (.int 0), .val (.int 2), .unset, .unset] [])) := by
  refine Go.s (XS.iloadN X0.here hx rfl (hb hby dtb1_0) rfl) ?_
  obtain ⟨_, _, ⟨T1, L1, k1, n1⟩, -, X1, ⟨Lc1, hQ1, l1, y1, z1⟩, st1⟩ := Jvm.LawKit.callS X0 hx (y := mN4) hown (mvT hZ (own_w hw 111 rfl)) (mvT hZ (own_w hw 112 rfl)) (mvT hZ (own_w hw 70 rfl)) (mvT hZ (own_w hw 113 rfl)) (by decide) (backOf (W := 0) (rmnb2 l Z a0 hw []  h0 n0 O0 ) hZ (own_w hw 113 rfl) (own_w hw 70 rfl) (by decide) (by decide)) (g := (mkF m 1 #[.val (.ref a), .val (.int 0), .val (.int 2), .unset, .unset] [(.int 2)])) rfl (by rw [hml]; rfl) (argsL := [(.int 2)]) (rest := []) (lenOf pdtb1_0 rfl) rfl (by show 2 * 0 + _ ≤ _; exact Nat.le_of_eq rfl) (hb hby dtb1_1) (fun _ _ => ⟨rfl, e0, (by decide : 0 + 1 ≤ _), (by decide : 0 + 4 ≤ _)⟩)
  dsimp only [Pt.U, Pt.locs, Pt.cells, Pt.slots] at X1 l1 y1 z1 st1 hQ1
  subst y1 z1
  obtain ⟨b1, kb1, rfl, Nc1, Kc1, gb1, szb1, NV⟩ := hQ1
  have N1 : Fr n0 L1 := by rw [l1]; exact Fr.app N0 Nc1
  have g_b1 : n0 ≤ b1 := gb1
  have sz_b1 : h0.size ≤ b1 := Nat.le_trans K0.1 szb1
  have ne_a_b1 : a ≠ b1 := Nat.ne_of_lt (Nat.lt_of_lt_of_le V_a.lt szb1)
  have V_a := V_a.keep Kc1 nin0
  have O1 := O0.keep Kc1 all0
  have K1 := K0.trans Kc1 all0
  have V_b1 : Arv Z T1.heap b1 kb1 .byte (4 : Int32) [(.int 0), (.int 0), (.int 0), (.int 0)] (.int 0) := NV
  refine Go.st st1 ?_
  show Go p e below s _ _ _ (T1.setTop (mkF m 4 #[.val (.ref a), .val (.int 0), .val (.int 2), .unset, .unset] [(.ref b1)]))
  refine Go.s (XS.astoreN X1.here hx rfl (hb hby dtb1_4) rfl rfl (l' := #[.val (.ref a), .val (.int 0), .val (.int 2), .val (.ref b1), .unset]) rfl) ?_
  refine Go.s (XS.iconst X1.here hx rfl (hb hby dtb1_5)) ?_
  refine Go.s (XS.istore X1.here hx rfl (hb hby dtb1_6) rfl (l' := #[.val (.ref a), .val (.int 0), .val (.int 2), .val (.ref b1), .val (.int 0)]) rfl) ?_
  refine Go.s (XS.iload X1.here hx rfl (hb hby dtb1_8) rfl) ?_
  refine Go.s (XS.iloadN X1.here hx rfl (hb hby dtb1_10) rfl) ?_
  refine Go.s (XS.icmpNo X1.here hx rfl (hb hby dtb1_11) rfl (by decide)) ?_
  show Go p e below s _ _ _ (T1.setTop (mkF m 14 #[.val (.ref a), .val (.int 0), .val (.int 2), .val (.ref b1), .val (.int 0)] []))
  refine Go.s (XS.aloadN X1.here hx rfl (hb hby dtb1_14) rfl rfl) ?_
  refine Go.s (XS.iload X1.here hx rfl (hb hby dtb1_15) rfl) ?_
  refine Go.s (XS.aloadN X1.here hx rfl (hb hby dtb1_17) rfl rfl) ?_
  refine Go.s (XS.iloadN X1.here hx rfl (hb hby dtb1_18) rfl) ?_
  refine Go.s (own_caload X1 hx hZ rfl V_a (by decide) (by decide) (v := (.int c0)) rfl (g := (mkF m 19 #[.val (.ref a), .val (.int 0), .val (.int 2), .val (.ref b1), .val (.int 0)] [(.int 0), (.ref a), (.int 0), (.ref b1)])) rfl rfl (hb hby dtb1_19) _) ?_
  show Go p e below s _ _ _ (T1.setTop (mkF m 20 #[.val (.ref a), .val (.int 0), .val (.int 2), .val (.ref b1), .val (.int 0)] [(.int c0), (.int 0), (.ref b1)]))
  obtain ⟨_, _, ⟨T2, L2, k2, n2⟩, -, X2, ⟨Lc2, hQ2, l2, y2, z2⟩, st2⟩ := Jvm.LawKit.callS X1 hx (y := mN1) hown (mvT hZ (own_w hw 118 rfl)) (mvT hZ (own_w hw 119 rfl)) (mvT hZ (own_w hw 70 rfl)) (mvT hZ (own_w hw 120 rfl)) (by decide) (backOf (W := 0) (rmpc l Z a0 hw [] b1 kb1 c0 (4 : Int32) [(.int 0), (.int 0), (.int 0), (.int 0)] (0 : Int32) (0 : Int32) 0 T1.heap n0 O1 V_b1 (by decide) (by decide) (by decide) (by decide) (by decide) (by decide) (by decide) (Nat.le_of_ble_eq_true rfl) g_b1 SA SHI SLO) hZ (own_w hw 120 rfl) (own_w hw 70 rfl) (by decide) (by decide)) (g := (mkF m 20 #[.val (.ref a), .val (.int 0), .val (.int 2), .val (.ref b1), .val (.int 0)] [(.int c0), (.int 0), (.ref b1)])) rfl (by rw [hml]; rfl) (argsL := [(.ref b1), (.int 0), (.int c0)]) (rest := []) (lenOf pdtb1_1 rfl) rfl (by show 2 * 0 + _ ≤ _; exact Nat.le_of_eq rfl) (hb hby dtb1_20) (fun _ _ => ⟨rfl, rfl, (by decide : 1 + 0 ≤ _), (by decide : 4 + 0 ≤ _)⟩)
  dsimp only [Pt.U, Pt.locs, Pt.cells, Pt.slots] at X2 l2 y2 z2 st2 hQ2
  subst y2 z2
  obtain ⟨rfl, Nc2, Kc2, NV⟩ := hQ2
  have N2 : Fr n0 L2 := by rw [l2]; exact Fr.app N1 Nc2
  have V_a := V_a.keep Kc2 (ninS ne_a_b1 nin0)
  have O2 := O1.keep Kc2 (allS g_b1 all0)
  have K2 := K1.trans Kc2 (allS (Or.inr sz_b1) all0)
  have V_b1 : Arv Z T2.heap b1 kb1 .byte (4 : Int32) [(.int (StrChars.lo8 c0)), (.int (StrChars.hi8 c0)), (.int 0), (.int 0)] (.int 0) := NV
  refine Go.st st2 ?_
  show Go p e below s _ _ _ (T2.setTop (mkF m 23 #[.val (.ref a), .val (.int 0), .val (.int 2), .val (.ref b1), .val (.int 0)] []))
  refine Go.s (XT.iincV X2.here hx rfl (1 : Int32) (hb hby dtb1_23) rfl rfl (l' := #[.val (.ref a), .val (.int 1), .val (.int 2), .val (.ref b1), .val (.int 0)]) rfl) ?_
  refine Go.s (XT.iincV X2.here hx rfl (1 : Int32) (hb hby dtb1_26) rfl rfl (l' := #[.val (.ref a), .val (.int 1), .val (.int 2), .val (.ref b1), .val (.int 1)]) rfl) ?_
  refine Go.s (XS.goto X2.here hx rfl (pc0 := 29) (pc' := 8) rfl (hb hby dtb1_29) (by decide) (by decide)) ?_
  refine Go.s (XS.iload X2.here hx rfl (hb hby dtb1_8) rfl) ?_
  refine Go.s (XS.iloadN X2.here hx rfl (hb hby dtb1_10) rfl) ?_
  refine Go.s (XS.icmpNo X2.here hx rfl (hb hby dtb1_11) rfl (by decide)) ?_
  show Go p e below s _ _ _ (T2.setTop (mkF m 14 #[.val (.ref a), .val (.int 1), .val (.int 2), .val (.ref b1), .val (.int 1)] []))
  refine Go.s (XS.aloadN X2.here hx rfl (hb hby dtb1_14) rfl rfl) ?_
  refine Go.s (XS.iload X2.here hx rfl (hb hby dtb1_15) rfl) ?_
  refine Go.s (XS.aloadN X2.here hx rfl (hb hby dtb1_17) rfl rfl) ?_
  refine Go.s (XS.iloadN X2.here hx rfl (hb hby dtb1_18) rfl) ?_
  refine Go.s (own_caload X2 hx hZ rfl V_a (by decide) (by decide) (v := (.int c1)) rfl (g := (mkF m 19 #[.val (.ref a), .val (.int 1), .val (.int 2), .val (.ref b1), .val (.int 1)] [(.int 1), (.ref a), (.int 1), (.ref b1)])) rfl rfl (hb hby dtb1_19) _) ?_
  show Go p e below s _ _ _ (T2.setTop (mkF m 20 #[.val (.ref a), .val (.int 1), .val (.int 2), .val (.ref b1), .val (.int 1)] [(.int c1), (.int 1), (.ref b1)]))
  obtain ⟨_, _, ⟨T3, L3, k3, n3⟩, -, X3, ⟨Lc3, hQ3, l3, y3, z3⟩, st3⟩ := Jvm.LawKit.callS X2 hx (y := mN1) hown (mvT hZ (own_w hw 118 rfl)) (mvT hZ (own_w hw 119 rfl)) (mvT hZ (own_w hw 70 rfl)) (mvT hZ (own_w hw 120 rfl)) (by decide) (backOf (W := 0) (rmpc l Z a0 hw [] b1 kb1 c1 (4 : Int32) [(.int (StrChars.lo8 c0)), (.int (StrChars.hi8 c0)), (.int 0), (.int 0)] (1 : Int32) (2 : Int32) 2 T2.heap n0 O2 V_b1 (by decide) (by decide) (by decide) (by decide) (by decide) (by decide) (by decide) (Nat.le_of_ble_eq_true rfl) g_b1 SA SHI SLO) hZ (own_w hw 120 rfl) (own_w hw 70 rfl) (by decide) (by decide)) (g := (mkF m 20 #[.val (.ref a), .val (.int 1), .val (.int 2), .val (.ref b1), .val (.int 1)] [(.int c1), (.int 1), (.ref b1)])) rfl (by rw [hml]; rfl) (argsL := [(.ref b1), (.int 1), (.int c1)]) (rest := []) (lenOf pdtb1_1 rfl) rfl (by show 2 * 0 + _ ≤ _; exact Nat.le_of_eq rfl) (hb hby dtb1_20) (fun _ _ => ⟨rfl, rfl, (by decide : 1 + 0 ≤ _), (by decide : 4 + 0 ≤ _)⟩)
  dsimp only [Pt.U, Pt.locs, Pt.cells, Pt.slots] at X3 l3 y3 z3 st3 hQ3
  subst y3 z3
  obtain ⟨rfl, Nc3, Kc3, NV⟩ := hQ3
  have N3 : Fr n0 L3 := by rw [l3]; exact Fr.app N2 Nc3
  have V_a := V_a.keep Kc3 (ninS ne_a_b1 nin0)
  have O3 := O2.keep Kc3 (allS g_b1 all0)
  have K3 := K2.trans Kc3 (allS (Or.inr sz_b1) all0)
  have V_b1 : Arv Z T3.heap b1 kb1 .byte (4 : Int32) [(.int (StrChars.lo8 c0)), (.int (StrChars.hi8 c0)), (.int (StrChars.lo8 c1)), (.int (StrChars.hi8 c1))] (.int 0) := NV
  refine Go.st st3 ?_
  show Go p e below s _ _ _ (T3.setTop (mkF m 23 #[.val (.ref a), .val (.int 1), .val (.int 2), .val (.ref b1), .val (.int 1)] []))
  refine Go.s (XT.iincV X3.here hx rfl (1 : Int32) (hb hby dtb1_23) rfl rfl (l' := #[.val (.ref a), .val (.int 2), .val (.int 2), .val (.ref b1), .val (.int 1)]) rfl) ?_
  refine Go.s (XT.iincV X3.here hx rfl (1 : Int32) (hb hby dtb1_26) rfl rfl (l' := #[.val (.ref a), .val (.int 2), .val (.int 2), .val (.ref b1), .val (.int 2)]) rfl) ?_
  refine Go.s (XS.goto X3.here hx rfl (pc0 := 29) (pc' := 8) rfl (hb hby dtb1_29) (by decide) (by decide)) ?_
  refine Go.s (XS.iload X3.here hx rfl (hb hby dtb1_8) rfl) ?_
  refine Go.s (XS.iloadN X3.here hx rfl (hb hby dtb1_10) rfl) ?_
  refine Go.s (XS.icmpYes X3.here hx rfl (pc0 := 11) (pc' := 32) rfl (hb hby dtb1_11) rfl (by decide) (by decide) (by decide)) ?_
  show Go p e below s _ _ _ (T3.setTop (mkF m 32 #[.val (.ref a), .val (.int 2), .val (.int 2), .val (.ref b1), .val (.int 2)] []))
  refine Go.s (XS.aloadN X3.here hx rfl (hb hby dtb1_32) rfl rfl) ?_
  exact Go.ret X3 hlk (some (.ref b1)) (fun h => by rw [Bd.returns] at h; cases h) (by exact ⟨b1, _, rfl, N3, K3, g_b1, sz_b1, V_b1⟩) (by decide) (by decide) (fun fs hr => retOut X3 hx Bd.returns rfl (Or.inr (Or.inr (Or.inr (Or.inr ⟨rfl, rfl, rfl⟩)))) (hb hby dtb1_33) hr)
 obtain ⟨s2, o2, st2, r2⟩ := G
 exact ⟨s2, o2, castTop (eftb2 m a (0 : Int32) (2 : Int32)) st2, r2⟩
theorem pnco2 : plainName "java/lang/StringUTF16" = true := by first | (simp [plainName, overriddenIn]; done) | decide +kernel
theorem efco2 (m : MethodId) (x0 : Addr) (x1 : Int32) (x2 : Int32) : entryFrame m #[(.ref x0), (.int x1), (.int x2)] 6 = mkF m 0 #[.val (.ref x0), .val (.int x1), .val (.int x2), .unset, .unset, .unset] [] := by first | (simp [entryFrame, mkF, argsToLocals, Value.category, maxLocals]; done) | rfl
def Qco2 (Z : State) (a : Addr) (ka : ClassId) (c0 : Int32) (c1 : Int32) (h0 : Heap) (n0 : Nat) (v : Option Value) (h : Heap) (L : List Loc) : Prop := ∃ (t : Addr) (kt : ClassId) (cd N : Int32) (vs : List Value), v = some (.ref t) ∧ Fr n0 L ∧ Keep h0 h [] ∧ n0 ≤ t ∧ h0.size ≤ t ∧ Arv Z h t kt .byte N vs (.int 0) ∧ StrChars.Road.CodA ([c0, c1] : List Int32) cd N vs
theorem rmco2 (l : Launch) (Z : State) (a0 : Array Value) (hw : ∀ d ∈ tables_1, d.before a0 Z = true) (ws : List Jvm.Cond) (a : Addr) (ka : ClassId) (c0 : Int32) (c1 : Int32) (h0 : Heap) (n0 : Nat) (O0 : Old Z n0 h0) (V_a : Arv Z h0 a ka .char (2 : Int32) [(.int c0), (.int c1)] (.int 0)) (hc0 : ¬ c0 < 0 ∧ ¬ (65535 : Int32) < c0) (hc1 : ¬ c1 < 0 ∧ ¬ (65535 : Int32) < c1) (SA : Sta Z Z.heap "java/lang/StringUTF16" "$assertionsDisabled" "Z" (.int 1)) (SHI : Sta Z Z.heap "java/lang/StringUTF16" "HI_BYTE_SHIFT" "I" (.int 0)) (SLO : Sta Z Z.heap "java/lang/StringUTF16" "LO_BYTE_SHIFT" "I" (.int 8)) :
  MetFree l mN6 (head1 (Jvm.Cond.code mN6 jdk_52_method_16_code 6 (some (.array .byte)) :: ws) ({ frames := 3, cells := 2, slots := 6, locals := 40 } : Room)) (fun A_ U_ => A_ = #[(.ref a), (.int 0), (.int 2)] ∧ Z.Warmed39 U_.vm ∧ U_.heap = h0) (fun _ _ _ _ _ => True) (fun _ U o U' => ∃ v L, o = .returned v ∧ Qco2 Z a ka c0 c1 h0 n0 v U'.heap L ∧ FrameEnd U o U' L ({ frames := 3, cells := 2, slots := 6, locals := 40 } : Room).cells ({ frames := 3, cells := 2, slots := 6, locals := 40 } : Room).slots) := by
 refine MetFree.of_bodySF (plainFor_of_name pnco2) hisR ?_
 intro p e s m args below meth cd s₁ Bd hml0 hP hK
 obtain ⟨rfl, hZ, hh⟩ := hP
 have hx := Bd.exec
 have hby := Bd.bytes
 have hlk : meth.locks = false := BodyLoose.notSynchronized Bd
 have hml : cd.maxLocals = 6 := hml0
 have hown : s.vm.findClass "java/lang/StringUTF16" = some m.cls := findClass_of_methodNamed Bd.named
 have X0 : Stand p l e ({ frames := 3, cells := 2, slots := 6, locals := 40 } : Room) s m #[(.ref a), (.int 0), (.int 2)] below meth cd s₁ [] 0 0 := Stand.of_body Bd
 have e0 : s₁.heap = h0 := by rw [← hh, Bd.state]; rfl
 have N0 := Fr.nil n0
 have K0 : Keep h0 h0 [] := Keep.refl _ _
 have G : Go p e below s 2 6 (Qco2 Z a ka c0 c1 h0 n0) (s₁.setTop (mkF m 0 #[.val (.ref a), .val (.int 0), .val (.int 2), .unset, .unset, .unset] [])) := by
  refine Go.s (XS.iloadN X0.here hx rfl (hb hby dco1_0) rfl) ?_
  obtain ⟨T1, h1, k1, X1, e1, E1, A1, st1⟩ := newP X0 hx hZ (own_w hw 28 rfl) e0 (g := (mkF m 1 #[.val (.ref a), .val (.int 0), .val (.int 2), .unset, .unset, .unset] [(.int 2)])) rfl (hb hby dco1_1) rfl (by decide) (cap := 2) (by decide) (by decide) (by decide) (by decide)
  obtain ⟨b1, g1⟩ : ∃ z, z = h0.size := ⟨_, rfl⟩
  rw [← g1] at A1 st1
  have g_b1 : n0 ≤ b1 := Nat.le_trans (own_old O0) (Nat.le_of_eq g1.symm)
  have sz_b1 : h0.size ≤ b1 := Nat.le_trans K0.1 (Nat.le_of_eq g1.symm)
  have ne_a_b1 : a ≠ b1 := by rw [g1]; exact Nat.ne_of_lt V_a.lt
  have V_a := V_a.ext E1
  have O1 := O0.ext E1
  have K1 := K0.ext E1
  have V_b1 : Arv Z h1 b1 k1 .byte (2 : Int32) [(.int 0), (.int 0)] (.int 0) := (Arv.new A1 (by decide)).pad (pad_rep [] (.int 0) 2)
  refine Go.st st1 ?_
  show Go p e below s _ _ _ (T1.setTop (mkF m 3 #[.val (.ref a), .val (.int 0), .val (.int 2), .unset, .unset, .unset] [(.ref b1)]))
  refine Go.s (XS.astoreN X1.here hx rfl (hb hby dco1_3) rfl rfl (l' := #[.val (.ref a), .val (.int 0), .val (.int 2), .val (.ref b1), .unset, .unset]) rfl) ?_
  refine Go.s (XS.aloadN X1.here hx rfl (hb hby dco1_4) rfl rfl) ?_
  refine Go.s (XS.iloadN X1.here hx rfl (hb hby dco1_5) rfl) ?_
  refine Go.s (XS.aloadN X1.here hx rfl (hb hby dco1_6) rfl rfl) ?_
  refine Go.s (XS.iconst X1.here hx rfl (hb hby dco1_7)) ?_
  refine Go.s (XS.iloadN X1.here hx rfl (hb hby dco1_8) rfl) ?_
  obtain ⟨v2, _, ⟨T2, L2, k2, n2⟩, -, X2, ⟨Lc2, hQ2, l2, y2, z2⟩, st2⟩ := Jvm.LawKit.callS X1 hx (y := mN3) hown (mvT hZ (own_w hw 72 rfl)) (mvT hZ (own_w hw 73 rfl)) (mvT hZ (own_w hw 70 rfl)) (mvT hZ (own_w hw 74 rfl)) (by decide) (backOf (W := 0) (rmci2 l Z a0 hw [] a ka b1 k1 c0 c1 h1 n0 O1 V_a V_b1 g_b1 ne_a_b1) hZ (own_w hw 74 rfl) (own_w hw 70 rfl) (by decide) (by decide)) (g := (mkF m 9 #[.val (.ref a), .val (.int 0), .val (.int 2), .val (.ref b1), .unset, .unset] [(.int 2), (.int 0), (.ref b1), (.int 0), (.ref a)])) rfl (by rw [hml]; rfl) (argsL := [(.ref a), (.int 0), (.ref b1), (.int 0), (.int 2)]) (rest := []) (lenOf pdco1_0 rfl) rfl (by show 2 * 0 + _ ≤ _; exact Nat.le_of_eq rfl) (hb hby dco1_9) (fun _ _ => ⟨rfl, e1, (by decide : 1 + 0 ≤ _), (by decide : 2 + 0 ≤ _)⟩)
  dsimp only [Pt.U, Pt.locs, Pt.cells, Pt.slots] at X2 l2 y2 z2 st2 hQ2
  subst y2 z2
  obtain ⟨vs2, Nc2, Kc2, NV, hd2⟩ := hQ2
  have N2 : Fr n0 L2 := by rw [l2]; exact Fr.app N0 Nc2
  have V_a := V_a.keep Kc2 (ninS ne_a_b1 nin0)
  have O2 := O1.keep Kc2 (allS g_b1 all0)
  have K2 := K1.trans Kc2 (allS (Or.inr sz_b1) all0)
  have V_b1 : Arv Z T2.heap b1 k1 .byte (2 : Int32) vs2 (.int 0) := NV
  obtain ⟨r2, rfl, hr2⟩ : ∃ r : Int32, v2 = some (.int r) ∧ ((r = (2 : Int32) ∧ vs2 = [(.int (StrChars.lo8 c0)), (.int (StrChars.lo8 c1))] ∧ ¬ (255 : Int32) < c0 ∧ ¬ (255 : Int32) < c1) ∨ (∃ (i : Nat) (c : Int32), i < 2 ∧ r = Int32.ofNat i ∧ ([c0, c1] : List Int32).getD i 0 = c ∧ (255 : Int32) < c)) := by
    rcases hd2 with ⟨h_, q_⟩ | ⟨h_, q_⟩ | ⟨h_, q_⟩
    · exact ⟨_, h_, Or.inl ⟨rfl, q_⟩⟩
    · exact ⟨_, h_, Or.inr ⟨0, _, by decide, rfl, rfl, q_⟩⟩
    · exact ⟨_, h_, Or.inr ⟨1, _, by decide, rfl, rfl, q_⟩⟩
  refine Go.st st2 ?_
  show Go p e below s _ _ _ (T2.setTop (mkF m 12 #[.val (.ref a), .val (.int 0), .val (.int 2), .val (.ref b1), .unset, .unset] [(.int r2)]))
  rcases hr2 with ⟨rfl, ev, hall⟩ | ⟨i, c, hi, rfl, hc_, hbig⟩
  · rw [ev] at V_b1
    show Go p e below s _ _ _ (T2.setTop (mkF m 12 #[.val (.ref a), .val (.int 0), .val (.int 2), .val (.ref b1), .unset, .unset] [(.int 2)]))
    refine Go.s (XS.istore X2.here hx rfl (hb hby dco1_12) rfl (l' := #[.val (.ref a), .val (.int 0), .val (.int 2), .val (.ref b1), .val (.int 2), .unset]) rfl) ?_
    refine Go.s (XS.iload X2.here hx rfl (hb hby dco1_14) rfl) ?_
    refine Go.s (XS.iloadN X2.here hx rfl (hb hby dco1_16) rfl) ?_
    refine Go.s (XS.icmpYes X2.here hx rfl (pc0 := 17) (pc' := 57) rfl (hb hby dco1_17) rfl (by decide) (by decide) (by decide)) ?_
    show Go p e below s _ _ _ (T2.setTop (mkF m 57 #[.val (.ref a), .val (.int 0), .val (.int 2), .val (.ref b1), .val (.int 2), .unset] []))
    refine Go.s (XS.aloadN X2.here hx rfl (hb hby dco1_57) rfl rfl) ?_
    exact Go.ret X2 hlk (some (.ref b1)) (fun h => by rw [Bd.returns] at h; cases h) (by exact ⟨b1, _, _, _, _, rfl, N2, K2, g_b1, sz_b1, V_b1, Or.inl ⟨rfl, rfl, rfl, by intro c hc; simp only [List.mem_cons, List.not_mem_nil, or_false] at hc; rcases hc with rfl | rfl; exact hall.1; exact hall.2⟩⟩) (by decide) (by decide) (fun fs hr => retOut X2 hx Bd.returns rfl (Or.inr (Or.inr (Or.inr (Or.inr ⟨rfl, rfl, rfl⟩)))) (hb hby dco1_58) hr)
  · have w := own_wix i 2 hi (by decide)
    have hv0 : List.getD ([(.int (StrChars.lo8 c0)), (.int (StrChars.hi8 c0)), (.int (StrChars.lo8 c1)), (.int (StrChars.hi8 c1))] : List Value) (2 * i) (.int 0) = (.int (StrChars.lo8 c)) := by rw [← hc_]; exact StrChars.Road.wide_lo _ [c0, c1] i hi
    have hv1 : List.getD ([(.int (StrChars.lo8 c0)), (.int (StrChars.hi8 c0)), (.int (StrChars.lo8 c1)), (.int (StrChars.hi8 c1))] : List Value) (2 * i + 1) (.int 0) = (.int (StrChars.hi8 c)) := by rw [← hc_]; exact StrChars.Road.wide_hi _ [c0, c1] i hi
    have hcc : ¬ c < 0 ∧ ¬ (65535 : Int32) < c := by rw [← hc_]; exact own_hbD (own_hb2 hc0 hc1) i
    show Go p e below s _ _ _ (T2.setTop (mkF m 12 #[.val (.ref a), .val (.int 0), .val (.int 2), .val (.ref b1), .unset, .unset] [(.int (Int32.ofNat i))]))
    refine Go.s (XS.istore X2.here hx rfl (hb hby dco1_12) rfl (l' := #[.val (.ref a), .val (.int 0), .val (.int 2), .val (.ref b1), .val (.int (Int32.ofNat i)), .unset]) rfl) ?_
    refine Go.s (XS.iload X2.here hx rfl (hb hby dco1_14) rfl) ?_
    refine Go.s (XS.iloadN X2.here hx rfl (hb hby dco1_16) rfl) ?_
    refine Go.s (XS.icmpNo X2.here hx rfl (hb hby dco1_17) rfl (XT.ii_eq_f (own_ofne hi (by decide)))) ?_
    show Go p e below s _ _ _ (T2.setTop (mkF m 20 #[.val (.ref a), .val (.int 0), .val (.int 2), .val (.ref b1), .val (.int (Int32.ofNat i)), .unset] []))
    refine Go.s (XS.aloadN X2.here hx rfl (hb hby dco1_20) rfl rfl) ?_
    refine Go.s (XS.iloadN X2.here hx rfl (hb hby dco1_21) rfl) ?_
    refine Go.s (XS.iloadN X2.here hx rfl (hb hby dco1_22) rfl) ?_
    obtain ⟨_, _, ⟨T3, L3, k3, n3⟩, -, X3, ⟨Lc3, hQ3, l3, y3, z3⟩, st3⟩ := Jvm.LawKit.callS X2 hx (y := mN5) hown (mvT hZ (own_w hw 108 rfl)) (mvT hZ (own_w hw 109 rfl)) (mvT hZ (own_w hw 70 rfl)) (mvT hZ (own_w hw 110 rfl)) (by decide) (backOf (W := 0) (rmtb2 l Z a0 hw [] a ka c0 c1 T2.heap n0 O2 V_a SA SHI SLO) hZ (own_w hw 110 rfl) (own_w hw 70 rfl) (by decide) (by decide)) (g := (mkF m 23 #[.val (.ref a), .val (.int 0), .val (.int 2), .val (.ref b1), .val (.int (Int32.ofNat i)), .unset] [(.int 2), (.int 0), (.ref a)])) rfl (by rw [hml]; rfl) (argsL := [(.ref a), (.int 0), (.int 2)]) (rest := []) (lenOf pdco1_1 rfl) rfl (by show 2 * 0 + _ ≤ _; exact Nat.le_of_eq rfl) (hb hby dco1_23) (fun _ _ => ⟨rfl, rfl, (by decide : 1 + 1 ≤ _), (by decide : 2 + 4 ≤ _)⟩)
    dsimp only [Pt.U, Pt.locs, Pt.cells, Pt.slots] at X3 l3 y3 z3 st3 hQ3
    subst y3 z3
    obtain ⟨b3, kb3, rfl, Nc3, Kc3, gb3, szb3, NV⟩ := hQ3
    have N3 : Fr n0 L3 := by rw [l3]; exact Fr.app N2 Nc3
    have g_b3 : n0 ≤ b3 := gb3
    have sz_b3 : h0.size ≤ b3 := Nat.le_trans K2.1 szb3
    have ne_a_b3 : a ≠ b3 := Nat.ne_of_lt (Nat.lt_of_lt_of_le V_a.lt szb3)
    have ne_b1_b3 : b1 ≠ b3 := Nat.ne_of_lt (Nat.lt_of_lt_of_le V_b1.lt szb3)
    have V_a := V_a.keep Kc3 nin0
    have V_b1 := V_b1.keep Kc3 nin0
    have O3 := O2.keep Kc3 all0
    have K3 := K2.trans Kc3 all0
    have V_b3 : Arv Z T3.heap b3 kb3 .byte (4 : Int32) [(.int (StrChars.lo8 c0)), (.int (StrChars.hi8 c0)), (.int (StrChars.lo8 c1)), (.int (StrChars.hi8 c1))] (.int 0) := NV
    refine Go.st st3 ?_
    show Go p e below s _ _ _ (T3.setTop (mkF m 26 #[.val (.ref a), .val (.int 0), .val (.int 2), .val (.ref b1), .val (.int (Int32.ofNat i)), .unset] [(.ref b3)]))
    refine Go.s (XS.astore X3.here hx rfl (hb hby dco1_26) rfl rfl (l' := #[.val (.ref a), .val (.int 0), .val (.int 2), .val (.ref b1), .val (.int (Int32.ofNat i)), .val (.ref b3)]) rfl) ?_
    refine Go.s (XS.aload X3.here hx rfl (hb hby dco1_28) rfl rfl) ?_
    refine Go.s (XS.iload X3.here hx rfl (hb hby dco1_30) rfl) ?_
    obtain ⟨_, _, ⟨T4, L4, k4, n4⟩, -, X4, ⟨Lc4, hQ4, l4, y4, z4⟩, st4⟩ := Jvm.LawKit.callS X3 hx (y := mN2) hown (mvT hZ (own_w hw 124 rfl)) (mvT hZ (own_w hw 125 rfl)) (mvT hZ (own_w hw 70 rfl)) (mvT hZ (own_w hw 126 rfl)) (by decide) (backOf (W := 0) (rmgc l Z a0 hw [] b3 kb3 c (4 : Int32) [(.int (StrChars.lo8 c0)), (.int (StrChars.hi8 c0)), (.int (StrChars.lo8 c1)), (.int (StrChars.hi8 c1))] (Int32.ofNat i) (Int32.ofNat (2 * i)) (2 * i) T3.heap n0 O3 V_b3 w.1 w.2.1 w.2.2.1 w.2.2.2.1 w.2.2.2.2.1 w.2.2.2.2.2.1 w.2.2.2.2.2.2.1 hv0 hv1 hcc SA SHI SLO) hZ (own_w hw 126 rfl) (own_w hw 70 rfl) (by decide) (by decide)) (g := (mkF m 32 #[.val (.ref a), .val (.int 0), .val (.int 2), .val (.ref b1), .val (.int (Int32.ofNat i)), .val (.ref b3)] [(.int (Int32.ofNat i)), (.ref b3)])) rfl (by rw [hml]; rfl) (argsL := [(.ref b3), (.int (Int32.ofNat i))]) (rest := []) (lenOf pdco1_2 rfl) rfl (by show 2 * 0 + _ ≤ _; exact Nat.le_of_eq rfl) (hb hby dco1_32) (fun _ _ => ⟨rfl, rfl, (by decide : 2 + 0 ≤ _), (by decide : 6 + 0 ≤ _)⟩)
    dsimp only [Pt.U, Pt.locs, Pt.cells, Pt.slots] at X4 l4 y4 z4 st4 hQ4
    subst y4 z4
    obtain ⟨rfl, Nc4, e4⟩ := hQ4
    have N4 : Fr n0 L4 := by rw [l4]; exact Fr.app N3 Nc4
    refine Go.st st4 ?_
    show Go p e below s _ _ _ (T4.setTop (mkF m 35 #[.val (.ref a), .val (.int 0), .val (.int 2), .val (.ref b1), .val (.int (Int32.ofNat i)), .val (.ref b3)] [(.int c)]))
    refine Go.s (XS.sipush X4.here hx rfl (hb hby dco1_35)) ?_
    refine Go.s (XS.icmpYes X4.here hx rfl (pc0 := 38) (pc' := 54) rfl (hb hby dco1_38) rfl (XT.ii_gt_t hbig) (by decide) (by decide)) ?_
    show Go p e below s _ _ _ (T4.setTop (mkF m 54 #[.val (.ref a), .val (.int 0), .val (.int 2), .val (.ref b1), .val (.int (Int32.ofNat i)), .val (.ref b3)] []))
    refine Go.s (XS.aload X4.here hx rfl (hb hby dco1_54) rfl rfl) ?_
    exact Go.ret X4 hlk (some (.ref b3)) (fun h => by rw [Bd.returns] at h; cases h) (by rw [e4]; exact ⟨b3, _, _, _, _, rfl, N4, K3, g_b3, sz_b3, V_b3, Or.inr ⟨rfl, rfl, rfl, c, own_memD hi hc_, hbig⟩⟩) (by decide) (by decide) (fun fs hr => retOut X4 hx Bd.returns rfl (Or.inr (Or.inr (Or.inr (Or.inr ⟨rfl, rfl, rfl⟩)))) (hb hby dco1_56) hr)
 obtain ⟨s2, o2, st2, r2⟩ := G
 exact ⟨s2, o2, castTop (efco2 m a (0 : Int32) (2 : Int32)) st2, r2⟩
theorem pnci3 : plainName "java/lang/StringUTF16" = true := by first | (simp [plainName, overriddenIn]; done) | decide +kernel
theorem efci3 (m : MethodId) (x0 : Addr) (x1 : Int32) (x2 : Addr) (x3 : Int32) (x4 : Int32) : entryFrame m #[(.ref x0), (.int x1), (.ref x2), (.int x3), (.int x4)] 7 = mkF m 0 #[.val (.ref x0), .val (.int x1), .val (.ref x2), .val (.int x3), .val (.int x4), .unset, .unset] [] := by first | (simp [entryFrame, mkF, argsToLocals, Value.category, maxLocals]; done) | rfl
def Qci3 (Z : State) (a : Addr) (ka : ClassId) (b : Addr) (kb : ClassId) (c0 : Int32) (c1 : Int32) (c2 : Int32) (h0 : Heap) (n0 : Nat) (v : Option Value) (h : Heap) (L : List Loc) : Prop := ∃ vs : List Value, Fr n0 L ∧ Keep h0 h [b] ∧ Arv Z h b kb .byte (3 : Int32) vs (.int 0) ∧ ((v = some (.int 3) ∧ vs = [(.int (StrChars.lo8 c0)), (.int (StrChars.lo8 c1)), (.int (StrChars.lo8 c2))] ∧ ¬ (255 : Int32) < c0 ∧ ¬ (255 : Int32) < c1 ∧ ¬ (255 : Int32) < c2) ∨ (v = some (.int 0) ∧ (255 : Int32) < c0) ∨ (v = some (.int 1) ∧ (255 : Int32) < c1) ∨ (v = some (.int 2) ∧ (255 : Int32) < c2))
theorem rmci3 (l : Launch) (Z : State) (a0 : Array Value) (hw : ∀ d ∈ tables_1, d.before a0 Z = true) (ws : List Jvm.Cond) (a : Addr) (ka : ClassId) (b : Addr) (kb : ClassId) (c0 : Int32) (c1 : Int32) (c2 : Int32) (h0 : Heap) (n0 : Nat) (O0 : Old Z n0 h0) (V_a : Arv Z h0 a ka .char (3 : Int32) [(.int c0), (.int c1), (.int c2)] (.int 0)) (V_b : Arv Z h0 b kb .byte (3 : Int32) [(.int 0), (.int 0), (.int 0)] (.int 0)) (gb : n0 ≤ b) (nab : a ≠ b) :
  MetFree l mN3 (head1 (Jvm.Cond.code mN3 jdk_52_method_21_code 7 (some .int) :: ws) ({ frames := 0, cells := 0, slots := 0, locals := 0 } : Room)) (fun A_ U_ => A_ = #[(.ref a), (.int 0), (.ref b), (.int 0), (.int 3)] ∧ Z.Warmed39 U_.vm ∧ U_.heap = h0) (fun _ _ _ _ _ => True) (fun _ U o U' => ∃ v L, o = .returned v ∧ Qci3 Z a ka b kb c0 c1 c2 h0 n0 v U'.heap L ∧ FrameEnd U o U' L ({ frames := 0, cells := 0, slots := 0, locals := 0 } : Room).cells ({ frames := 0, cells := 0, slots := 0, locals := 0 } : Room).slots) := by
 refine MetFree.of_bodySF (plainFor_of_name pnci3) hisR ?_
 intro p e s m args below meth cd s₁ Bd hml0 hP hK
 obtain ⟨rfl, hZ, hh⟩ := hP
 have hx := Bd.exec
 have hby := Bd.bytes
 have hlk : meth.locks = false := BodyLoose.notSynchronized Bd
 have hml : cd.maxLocals = 7 := hml0
 have hown : s.vm.findClass "java/lang/StringUTF16" = some m.cls := findClass_of_methodNamed Bd.named
 have X0 : Stand p l e ({ frames := 0, cells := 0, slots := 0, locals := 0 } : Room) s m #[(.ref a), (.int 0), (.ref b), (.int 0), (.int 3)] below meth cd s₁ [] 0 0 := Stand.of_body Bd
 have e0 : s₁.heap = h0 := by rw [← hh, Bd.state]; rfl
 have N0 := Fr.nil n0
 have K0 : Keep h0 h0 [b] := Keep.refl _ _
 have G : Go p e below s 0 0 (Qci3 Z a ka b kb c0 c1 c2 h0 n0) (s₁.setTop (mkF m 0 #[.val (.ref a), .val (.int 0), .val (.ref b), .val (.int 0), .val (.int 3), .unset, .unset] [])) := by
  refine Go.s (XS.iconst X0.here hx rfl (hb hby dci1_0)) ?_
  refine Go.s (XS.istore X0.here hx rfl (hb hby dci1_1) rfl (l' := #[.val (.ref a), .val (.int 0), .val (.ref b), .val (.int 0), .val (.int 3), .val (.int 0), .unset]) rfl) ?_
  refine Go.s (XS.iload X0.here hx rfl (hb hby dci1_3) rfl) ?_
  refine Go.s (XS.iload X0.here hx rfl (hb hby dci1_5) rfl) ?_
  refine Go.s (XS.icmpNo X0.here hx rfl (hb hby dci1_7) rfl (by decide)) ?_
  show Go p e below s _ _ _ (s₁.setTop (mkF m 10 #[.val (.ref a), .val (.int 0), .val (.ref b), .val (.int 0), .val (.int 3), .val (.int 0), .unset] []))
  refine Go.s (XS.aloadN X0.here hx rfl (hb hby dci1_10) rfl rfl) ?_
  refine Go.s (XS.iloadN X0.here hx rfl (hb hby dci1_11) rfl) ?_
  refine Go.s (own_caload X0 hx hZ e0 V_a (by decide) (by decide) (v := (.int c0)) rfl (g := (mkF m 12 #[.val (.ref a), .val (.int 0), .val (.ref b), .val (.int 0), .val (.int 3), .val (.int 0), .unset] [(.int 0), (.ref a)])) rfl rfl (hb hby dci1_12) _) ?_
  show Go p e below s _ _ _ (s₁.setTop (mkF m 13 #[.val (.ref a), .val (.int 0), .val (.ref b), .val (.int 0), .val (.int 3), .val (.int 0), .unset] [(.int c0)]))
  refine Go.s (XS.istore X0.here hx rfl (hb hby dci1_13) rfl (l' := #[.val (.ref a), .val (.int 0), .val (.ref b), .val (.int 0), .val (.int 3), .val (.int 0), .val (.int c0)]) rfl) ?_
  refine Go.s (XS.iload X0.here hx rfl (hb hby dci1_15) rfl) ?_
  refine Go.s (XS.sipush X0.here hx rfl (hb hby dci1_17)) ?_
  by_cases c20_1 : (255 : Int32) < c0
  · refine Go.s (XS.icmpNo X0.here hx rfl (hb hby dci1_20) rfl (XT.ii_le_f c20_1)) ?_
    show Go p e below s _ _ _ (s₁.setTop (mkF m 23 #[.val (.ref a), .val (.int 0), .val (.ref b), .val (.int 0), .val (.int 3), .val (.int 0), .val (.int c0)] []))
    refine Go.s (XS.iload X0.here hx rfl (hb hby dci1_23) rfl) ?_
    exact Go.ret X0 hlk (some (.int 0)) (fun h => by rw [Bd.returns] at h; cases h) (by rw [e0]; exact ⟨_, N0, K0, V_b, Or.inr (Or.inl ⟨rfl, c20_1⟩)⟩) (by decide) (by decide) (fun fs hr => retI X0 hx Bd.returns (hb hby dci1_25) hr)
  · refine Go.s (XS.icmpYes X0.here hx rfl (pc0 := 20) (pc' := 26) rfl (hb hby dci1_20) rfl (XT.ii_le_t c20_1) (by decide) (by decide)) ?_
    show Go p e below s _ _ _ (s₁.setTop (mkF m 26 #[.val (.ref a), .val (.int 0), .val (.ref b), .val (.int 0), .val (.int 3), .val (.int 0), .val (.int c0)] []))
    refine Go.s (XS.aloadN X0.here hx rfl (hb hby dci1_26) rfl rfl) ?_
    refine Go.s (XS.iloadN X0.here hx rfl (hb hby dci1_27) rfl) ?_
    refine Go.s (XS.iload X0.here hx rfl (hb hby dci1_28) rfl) ?_
    refine Go.s (XT.i2b X0.here hx rfl (hb hby dci1_30) rfl) ?_
    show Go p e below s _ _ _ (s₁.setTop (mkF m 31 #[.val (.ref a), .val (.int 0), .val (.ref b), .val (.int 0), .val (.int 3), .val (.int 0), .val (.int c0)] [(.int (c0.toInt8.toInt32)), (.int 0), (.ref b)]))
    obtain ⟨T2, h2, X2, e2, W2, V2, st2⟩ := own_stB X0 hx hZ e0 V_b (j := (0 : Int32)) (by decide) (by decide) 0 rfl (Nat.le_of_ble_eq_true rfl) (g := (mkF m 31 #[.val (.ref a), .val (.int 0), .val (.ref b), .val (.int 0), .val (.int 3), .val (.int 0), .val (.int c0)] [(.int (c0.toInt8.toInt32)), (.int 0), (.ref b)])) rfl rfl (hb hby dci1_31)
    obtain ⟨lc2, X2, N2⟩ := own_gen X2 (Fr.snoc X2 N0 gb)
    have O2 := O0.wr W2 gb
    have K2 := K0.wr W2 (Or.inl (List.mem_of_getElem? (i := 0) rfl))
    have V_a := V_a.other W2 nab
    have V_b : Arv Z h2 b kb .byte (3 : Int32) [(.int (nar .byte (c0.toInt8.toInt32))), (.int 0), (.int 0)] (.int 0) := V2
    refine Go.st st2 ?_
    show Go p e below s _ _ _ (T2.setTop (mkF m 32 #[.val (.ref a), .val (.int 0), .val (.ref b), .val (.int 0), .val (.int 3), .val (.int 0), .val (.int c0)] []))
    refine Go.s (XT.iincV X2.here hx rfl (1 : Int32) (hb hby dci1_32) rfl rfl (l' := #[.val (.ref a), .val (.int 1), .val (.ref b), .val (.int 0), .val (.int 3), .val (.int 0), .val (.int c0)]) rfl) ?_
    refine Go.s (XT.iincV X2.here hx rfl (1 : Int32) (hb hby dci1_35) rfl rfl (l' := #[.val (.ref a), .val (.int 1), .val (.ref b), .val (.int 1), .val (.int 3), .val (.int 0), .val (.int c0)]) rfl) ?_
    refine Go.s (XT.iincV X2.here hx rfl (1 : Int32) (hb hby dci1_38) rfl rfl (l' := #[.val (.ref a), .val (.int 1), .val (.ref b), .val (.int 1), .val (.int 3), .val (.int 1), .val (.int c0)]) rfl) ?_
    refine Go.s (XS.goto X2.here hx rfl (pc0 := 41) (pc' := 3) rfl (hb hby dci1_41) (by decide) (by decide)) ?_
    refine Go.s (XS.iload X2.here hx rfl (hb hby dci1_3) rfl) ?_
    refine Go.s (XS.iload X2.here hx rfl (hb hby dci1_5) rfl) ?_
    refine Go.s (XS.icmpNo X2.here hx rfl (hb hby dci1_7) rfl (by decide)) ?_
    show Go p e below s _ _ _ (T2.setTop (mkF m 10 #[.val (.ref a), .val (.int 1), .val (.ref b), .val (.int 1), .val (.int 3), .val (.int 1), .val (.int c0)] []))
    refine Go.s (XS.aloadN X2.here hx rfl (hb hby dci1_10) rfl rfl) ?_
    refine Go.s (XS.iloadN X2.here hx rfl (hb hby dci1_11) rfl) ?_
    refine Go.s (own_caload X2 hx hZ e2 V_a (by decide) (by decide) (v := (.int c1)) rfl (g := (mkF m 12 #[.val (.ref a), .val (.int 1), .val (.ref b), .val (.int 1), .val (.int 3), .val (.int 1), .val (.int c0)] [(.int 1), (.ref a)])) rfl rfl (hb hby dci1_12) _) ?_
    show Go p e below s _ _ _ (T2.setTop (mkF m 13 #[.val (.ref a), .val (.int 1), .val (.ref b), .val (.int 1), .val (.int 3), .val (.int 1), .val (.int c0)] [(.int c1)]))
    refine Go.s (XS.istore X2.here hx rfl (hb hby dci1_13) rfl (l' := #[.val (.ref a), .val (.int 1), .val (.ref b), .val (.int 1), .val (.int 3), .val (.int 1), .val (.int c1)]) rfl) ?_
    refine Go.s (XS.iload X2.here hx rfl (hb hby dci1_15) rfl) ?_
    refine Go.s (XS.sipush X2.here hx rfl (hb hby dci1_17)) ?_
    by_cases c20_3 : (255 : Int32) < c1
    · refine Go.s (XS.icmpNo X2.here hx rfl (hb hby dci1_20) rfl (XT.ii_le_f c20_3)) ?_
      show Go p e below s _ _ _ (T2.setTop (mkF m 23 #[.val (.ref a), .val (.int 1), .val (.ref b), .val (.int 1), .val (.int 3), .val (.int 1), .val (.int c1)] []))
      refine Go.s (XS.iload X2.here hx rfl (hb hby dci1_23) rfl) ?_
      exact Go.ret X2 hlk (some (.int 1)) (fun h => by rw [Bd.returns] at h; cases h) (by rw [e2]; exact ⟨_, N2, K2, V_b, Or.inr (Or.inr (Or.inl ⟨rfl, c20_3⟩))⟩) (by decide) (by decide) (fun fs hr => retI X2 hx Bd.returns (hb hby dci1_25) hr)
    · refine Go.s (XS.icmpYes X2.here hx rfl (pc0 := 20) (pc' := 26) rfl (hb hby dci1_20) rfl (XT.ii_le_t c20_3) (by decide) (by decide)) ?_
      show Go p e below s _ _ _ (T2.setTop (mkF m 26 #[.val (.ref a), .val (.int 1), .val (.ref b), .val (.int 1), .val (.int 3), .val (.int 1), .val (.int c1)] []))
      refine Go.s (XS.aloadN X2.here hx rfl (hb hby dci1_26) rfl rfl) ?_
      refine Go.s (XS.iloadN X2.here hx rfl (hb hby dci1_27) rfl) ?_
      refine Go.s (XS.iload X2.here hx rfl (hb hby dci1_28) rfl) ?_
      refine Go.s (XT.i2b X2.here hx rfl (hb hby dci1_30) rfl) ?_
      show Go p e below s _ _ _ (T2.setTop (mkF m 31 #[.val (.ref a), .val (.int 1), .val (.ref b), .val (.int 1), .val (.int 3), .val (.int 1), .val (.int c1)] [(.int (c1.toInt8.toInt32)), (.int 1), (.ref b)]))
      obtain ⟨T4, h4, X4, e4, W4, V4, st4⟩ := own_stB X2 hx hZ e2 V_b (j := (1 : Int32)) (by decide) (by decide) 1 rfl (Nat.le_of_ble_eq_true rfl) (g := (mkF m 31 #[.val (.ref a), .val (.int 1), .val (.ref b), .val (.int 1), .val (.int 3), .val (.int 1), .val (.int c1)] [(.int (c1.toInt8.toInt32)), (.int 1), (.ref b)])) rfl rfl (hb hby dci1_31)
      obtain ⟨lc4, X4, N4⟩ := own_gen X4 (Fr.snoc X4 N2 gb)
      have O4 := O2.wr W4 gb
      have K4 := K2.wr W4 (Or.inl (List.mem_of_getElem? (i := 0) rfl))
      have V_a := V_a.other W4 nab
      have V_b : Arv Z h4 b kb .byte (3 : Int32) [(.int (nar .byte (c0.toInt8.toInt32))), (.int (nar .byte (c1.toInt8.toInt32))), (.int 0)] (.int 0) := V4
      refine Go.st st4 ?_
      show Go p e below s _ _ _ (T4.setTop (mkF m 32 #[.val (.ref a), .val (.int 1), .val (.ref b), .val (.int 1), .val (.int 3), .val (.int 1), .val (.int c1)] []))
      refine Go.s (XT.iincV X4.here hx rfl (1 : Int32) (hb hby dci1_32) rfl rfl (l' := #[.val (.ref a), .val (.int 2), .val (.ref b), .val (.int 1), .val (.int 3), .val (.int 1), .val (.int c1)]) rfl) ?_
      refine Go.s (XT.iincV X4.here hx rfl (1 : Int32) (hb hby dci1_35) rfl rfl (l' := #[.val (.ref a), .val (.int 2), .val (.ref b), .val (.int 2), .val (.int 3), .val (.int 1), .val (.int c1)]) rfl) ?_
      refine Go.s (XT.iincV X4.here hx rfl (1 : Int32) (hb hby dci1_38) rfl rfl (l' := #[.val (.ref a), .val (.int 2), .val (.ref b), .val (.int 2), .val (.int 3), .val (.int 2), .val (.int c1)]) rfl) ?_
      refine Go.s (XS.goto X4.here hx rfl (pc0 := 41) (pc' := 3) rfl (hb hby dci1_41) (by decide) (by decide)) ?_
      refine Go.s (XS.iload X4.here hx rfl (hb hby dci1_3) rfl) ?_
      refine Go.s (XS.iload X4.here hx rfl (hb hby dci1_5) rfl) ?_
      refine Go.s (XS.icmpNo X4.here hx rfl (hb hby dci1_7) rfl (by decide)) ?_
      show Go p e below s _ _ _ (T4.setTop (mkF m 10 #[.val (.ref a), .val (.int 2), .val (.ref b), .val (.int 2), .val (.int 3), .val (.int 2), .val (.int c1)] []))
      refine Go.s (XS.aloadN X4.here hx rfl (hb hby dci1_10) rfl rfl) ?_
      refine Go.s (XS.iloadN X4.here hx rfl (hb hby dci1_11) rfl) ?_
      refine Go.s (own_caload X4 hx hZ e4 V_a (by decide) (by decide) (v := (.int c2)) rfl (g := (mkF m 12 #[.val (.ref a), .val (.int 2), .val (.ref b), .val (.int 2), .val (.int 3), .val (.int 2), .val (.int c1)] [(.int 2), (.ref a)])) rfl rfl (hb hby dci1_12) _) ?_
      show Go p e below s _ _ _ (T4.setTop (mkF m 13 #[.val (.ref a), .val (.int 2), .val (.ref b), .val (.int 2), .val (.int 3), .val (.int 2), .val (.int c1)] [(.int c2)]))
      refine Go.s (XS.istore X4.here hx rfl (hb hby dci1_13) rfl (l' := #[.val (.ref a), .val (.int 2), .val (.ref b), .val (.int 2), .val (.int 3), .val (.int 2), .val (.int c2)]) rfl) ?_
      refine Go.s (XS.iload X4.here hx rfl (hb hby dci1_15) rfl) ?_
      refine Go.s (XS.sipush X4.here hx rfl (hb hby dci1_17)) ?_
      by_cases c20_5 : (255 : Int32) < c2
      · refine Go.s (XS.icmpNo X4.here hx rfl (hb hby dci1_20) rfl (XT.ii_le_f c20_5)) ?_
        show Go p e below s _ _ _ (T4.setTop (mkF m 23 #[.val (.ref a), .val (.int 2), .val (.ref b), .val (.int 2), .val (.int 3), .val (.int 2), .val (.int c2)] []))
        refine Go.s (XS.iload X4.here hx rfl (hb hby dci1_23) rfl) ?_
        exact Go.ret X4 hlk (some (.int 2)) (fun h => by rw [Bd.returns] at h; cases h) (by rw [e4]; exact ⟨_, N4, K4, V_b, Or.inr (Or.inr (Or.inr (⟨rfl, c20_5⟩)))⟩) (by decide) (by decide) (fun fs hr => retI X4 hx Bd.returns (hb hby dci1_25) hr)
      · refine Go.s (XS.icmpYes X4.here hx rfl (pc0 := 20) (pc' := 26) rfl (hb hby dci1_20) rfl (XT.ii_le_t c20_5) (by decide) (by decide)) ?_
        show Go p e below s _ _ _ (T4.setTop (mkF m 26 #[.val (.ref a), .val (.int 2), .val (.ref b), .val (.int 2), .val (.int 3), .val (.int 2), .val (.int c2)] []))
        refine Go.s (XS.aloadN X4.here hx rfl (hb hby dci1_26) rfl rfl) ?_
        refine Go.s (XS.iloadN X4.here hx rfl (hb hby dci1_27) rfl) ?_
        refine Go.s (XS.iload X4.here hx rfl (hb hby dci1_28) rfl) ?_
        refine Go.s (XT.i2b X4.here hx rfl (hb hby dci1_30) rfl) ?_
        show Go p e below s _ _ _ (T4.setTop (mkF m 31 #[.val (.ref a), .val (.int 2), .val (.ref b), .val (.int 2), .val (.int 3), .val (.int 2), .val (.int c2)] [(.int (c2.toInt8.toInt32)), (.int 2), (.ref b)]))
        obtain ⟨T6, h6, X6, e6, W6, V6, st6⟩ := own_stB X4 hx hZ e4 V_b (j := (2 : Int32)) (by decide) (by decide) 2 rfl (Nat.le_of_ble_eq_true rfl) (g := (mkF m 31 #[.val (.ref a), .val (.int 2), .val (.ref b), .val (.int 2), .val (.int 3), .val (.int 2), .val (.int c2)] [(.int (c2.toInt8.toInt32)), (.int 2), (.ref b)])) rfl rfl (hb hby dci1_31)
        obtain ⟨lc6, X6, N6⟩ := own_gen X6 (Fr.snoc X6 N4 gb)
        have O6 := O4.wr W6 gb
        have K6 := K4.wr W6 (Or.inl (List.mem_of_getElem? (i := 0) rfl))
        have V_a := V_a.other W6 nab
        have V_b : Arv Z h6 b kb .byte (3 : Int32) [(.int (nar .byte (c0.toInt8.toInt32))), (.int (nar .byte (c1.toInt8.toInt32))), (.int (nar .byte (c2.toInt8.toInt32)))] (.int 0) := V6
        refine Go.st st6 ?_
        show Go p e below s _ _ _ (T6.setTop (mkF m 32 #[.val (.ref a), .val (.int 2), .val (.ref b), .val (.int 2), .val (.int 3), .val (.int 2), .val (.int c2)] []))
        refine Go.s (XT.iincV X6.here hx rfl (1 : Int32) (hb hby dci1_32) rfl rfl (l' := #[.val (.ref a), .val (.int 3), .val (.ref b), .val (.int 2), .val (.int 3), .val (.int 2), .val (.int c2)]) rfl) ?_
        refine Go.s (XT.iincV X6.here hx rfl (1 : Int32) (hb hby dci1_35) rfl rfl (l' := #[.val (.ref a), .val (.int 3), .val (.ref b), .val (.int 3), .val (.int 3), .val (.int 2), .val (.int c2)]) rfl) ?_
        refine Go.s (XT.iincV X6.here hx rfl (1 : Int32) (hb hby dci1_38) rfl rfl (l' := #[.val (.ref a), .val (.int 3), .val (.ref b), .val (.int 3), .val (.int 3), .val (.int 3), .val (.int c2)]) rfl) ?_
        refine Go.s (XS.goto X6.here hx rfl (pc0 := 41) (pc' := 3) rfl (hb hby dci1_41) (by decide) (by decide)) ?_
        refine Go.s (XS.iload X6.here hx rfl (hb hby dci1_3) rfl) ?_
        refine Go.s (XS.iload X6.here hx rfl (hb hby dci1_5) rfl) ?_
        refine Go.s (XS.icmpYes X6.here hx rfl (pc0 := 7) (pc' := 44) rfl (hb hby dci1_7) rfl (by decide) (by decide) (by decide)) ?_
        show Go p e below s _ _ _ (T6.setTop (mkF m 44 #[.val (.ref a), .val (.int 3), .val (.ref b), .val (.int 3), .val (.int 3), .val (.int 3), .val (.int c2)] []))
        refine Go.s (XS.iload X6.here hx rfl (hb hby dci1_44) rfl) ?_
        exact Go.ret X6 hlk (some (.int 3)) (fun h => by rw [Bd.returns] at h; cases h) (by rw [e6]; exact ⟨_, N6, K6, V_b, Or.inl ⟨rfl, by simp only [own_nbl], c20_1, c20_3, c20_5⟩⟩) (by decide) (by decide) (fun fs hr => retI X6 hx Bd.returns (hb hby dci1_46) hr)
 obtain ⟨s2, o2, st2, r2⟩ := G
 exact ⟨s2, o2, castTop (efci3 m a (0 : Int32) b (0 : Int32) (3 : Int32)) st2, r2⟩
theorem pnnb3 : plainName "java/lang/StringUTF16" = true := by first | (simp [plainName, overriddenIn]; done) | decide +kernel
theorem efnb3 (m : MethodId) (x0 : Int32) : entryFrame m #[(.int x0)] 1 = mkF m 0 #[.val (.int x0)] [] := by first | (simp [entryFrame, mkF, argsToLocals, Value.category, maxLocals]; done) | rfl
def Qnb3 (Z : State)  (h0 : Heap) (n0 : Nat) (v : Option Value) (h : Heap) (L : List Loc) : Prop := ∃ (b : Addr) (kb : ClassId), v = some (.ref b) ∧ Fr n0 L ∧ Keep h0 h [] ∧ n0 ≤ b ∧ h0.size ≤ b ∧ Arv Z h b kb .byte (6 : Int32) [(.int 0), (.int 0), (.int 0), (.int 0), (.int 0), (.int 0)] (.int 0)
theorem rmnb3 (l : Launch) (Z : State) (a0 : Array Value) (hw : ∀ d ∈ tables_1, d.before a0 Z = true) (ws : List Jvm.Cond)  (h0 : Heap) (n0 : Nat) (O0 : Old Z n0 h0)  :
  MetFree l mN4 (head1 (Jvm.Cond.code mN4 jdk_52_method_2_code 1 (some (.array .byte)) :: ws) ({ frames := 1, cells := 1, slots := 6, locals := 12 } : Room)) (fun A_ U_ => A_ = #[(.int 3)] ∧ Z.Warmed39 U_.vm ∧ U_.heap = h0) (fun _ _ _ _ _ => True) (fun _ U o U' => ∃ v L, o = .returned v ∧ Qnb3 Z  h0 n0 v U'.heap L ∧ FrameEnd U o U' L ({ frames := 1, cells := 1, slots := 6, locals := 12 } : Room).cells ({ frames := 1, cells := 1, slots := 6, locals := 12 } : Room).slots) := by
 refine MetFree.of_bodySF (plainFor_of_name pnnb3) hisR ?_
 intro p e s m args below meth cd s₁ Bd hml0 hP hK
 obtain ⟨rfl, hZ, hh⟩ := hP
 have hx := Bd.exec
 have hby := Bd.bytes
 have hlk : meth.locks = false := BodyLoose.notSynchronized Bd
 have hml : cd.maxLocals = 1 := hml0
 have hown : s.vm.findClass "java/lang/StringUTF16" = some m.cls := findClass_of_methodNamed Bd.named
 have X0 : Stand p l e ({ frames := 1, cells := 1, slots := 6, locals := 12 } : Room) s m #[(.int 3)] below meth cd s₁ [] 0 0 := Stand.of_body Bd
 have e0 : s₁.heap = h0 := by rw [← hh, Bd.state]; rfl
 have N0 := Fr.nil n0
 have K0 : Keep h0 h0 [] := Keep.refl _ _
 have G : Go p e below s 1 6 (Qnb3 Z  h0 n0) (s₁.setTop (mkF m 0 #[.val (.int 3)] [])) := by
  refine Go.s (XS.iloadN X0.here hx rfl (hb hby dnb1_0) rfl) ?_
  obtain ⟨_, _, ⟨T1, L1, k1, n1⟩, -, X1, ⟨Lc1, hQ1, l1, y1, z1⟩, st1⟩ := Jvm.LawKit.callS X0 hx (y := mN0) hown (mvT hZ (own_w hw 114 rfl)) (mvT hZ (own_w hw 115 rfl)) (mvT hZ (own_w hw 70 rfl)) (mvT hZ (own_w hw 116 rfl)) (by decide) (backOf (W := 0) (rmnl l Z a0 hw [] (3 : Int32) h0 n0 O0 (by decide) (by decide)) hZ (own_w hw 116 rfl) (own_w hw 70 rfl) (by decide) (by decide)) (g := (mkF m 1 #[.val (.int 3)] [(.int 3)])) rfl (by rw [hml]; rfl) (argsL := [(.int 3)]) (rest := []) (lenOf pdnb1_0 rfl) rfl (by show 2 * 0 + _ ≤ _; exact Nat.le_of_eq rfl) (hb hby dnb1_1) (fun _ _ => ⟨rfl, e0, (by decide : 0 + 0 ≤ _), (by decide : 0 + 0 ≤ _)⟩)
  dsimp only [Pt.U, Pt.locs, Pt.cells, Pt.slots] at X1 l1 y1 z1 st1 hQ1
  subst y1 z1
  obtain ⟨rfl, Nc1, e1⟩ := hQ1
  have N1 : Fr n0 L1 := by rw [l1]; exact Fr.app N0 Nc1
  refine Go.st st1 ?_
  show Go p e below s _ _ _ (T1.setTop (mkF m 4 #[.val (.int 3)] [(.int 6)]))
  obtain ⟨T2, h2, k2, X2, e2, E2, A2, st2⟩ := newP X1 hx hZ (own_w hw 28 rfl) e1 (g := (mkF m 4 #[.val (.int 3)] [(.int 6)])) rfl (hb hby dnb1_4) rfl (by decide) (cap := 6) (by decide) (by decide) (by decide) (by decide)
  obtain ⟨b2, g2⟩ : ∃ z, z = h0.size := ⟨_, rfl⟩
  rw [← g2] at A2 st2
  have g_b2 : n0 ≤ b2 := Nat.le_trans (own_old O0) (Nat.le_of_eq g2.symm)
  have sz_b2 : h0.size ≤ b2 := Nat.le_trans K0.1 (Nat.le_of_eq g2.symm)
  have O2 := O0.ext E2
  have K2 := K0.ext E2
  have V_b2 : Arv Z h2 b2 k2 .byte (6 : Int32) [(.int 0), (.int 0), (.int 0), (.int 0), (.int 0), (.int 0)] (.int 0) := (Arv.new A2 (by decide)).pad (pad_rep [] (.int 0) 6)
  refine Go.st st2 ?_
  show Go p e below s _ _ _ (T2.setTop (mkF m 6 #[.val (.int 3)] [(.ref b2)]))
  exact Go.ret X2 hlk (some (.ref b2)) (fun h => by rw [Bd.returns] at h; cases h) (by rw [e2]; exact ⟨b2, _, rfl, N1, K2, g_b2, sz_b2, V_b2⟩) (by decide) (by decide) (fun fs hr => retOut X2 hx Bd.returns rfl (Or.inr (Or.inr (Or.inr (Or.inr ⟨rfl, rfl, rfl⟩)))) (hb hby dnb1_6) hr)
 obtain ⟨s2, o2, st2, r2⟩ := G
 exact ⟨s2, o2, castTop (efnb3 m (3 : Int32)) st2, r2⟩
theorem pntb3 : plainName "java/lang/StringUTF16" = true := by first | (simp [plainName, overriddenIn]; done) | decide +kernel
theorem eftb3 (m : MethodId) (x0 : Addr) (x1 : Int32) (x2 : Int32) : entryFrame m #[(.ref x0), (.int x1), (.int x2)] 5 = mkF m 0 #[.val (.ref x0), .val (.int x1), .val (.int x2), .unset, .unset] [] := by first | (simp [entryFrame, mkF, argsToLocals, Value.category, maxLocals]; done) | rfl
def Qtb3 (Z : State) (a : Addr) (ka : ClassId) (c0 : Int32) (c1 : Int32) (c2 : Int32) (h0 : Heap) (n0 : Nat) (v : Option Value) (h : Heap) (L : List Loc) : Prop := ∃ (b : Addr) (kb : ClassId), v = some (.ref b) ∧ Fr n0 L ∧ Keep h0 h [] ∧ n0 ≤ b ∧ h0.size ≤ b ∧ Arv Z h b kb .byte (6 : Int32) [(.int (StrChars.lo8 c0)), (.int (StrChars.hi8 c0)), (.int (StrChars.lo8 c1)), (.int (StrChars.hi8 c1)), (.int (StrChars.lo8 c2)), (.int (StrChars.hi8 c2))] (.int 0)
theorem rmtb3 (l : Launch) (Z : State) (a0 : Array Value) (hw : ∀ d ∈ tables_1, d.before a0 Z = true) (ws : List Jvm.Cond) (a : Addr) (ka : ClassId) (c0 : Int32) (c1 : Int32) (c2 : Int32) (h0 : Heap) (n0 : Nat) (O0 : Old Z n0 h0) (V_a : Arv Z h0 a ka .char (3 : Int32) [(.int c0), (.int c1), (.int c2)] (.int 0)) (SA : Sta Z Z.heap "java/lang/StringUTF16" "$assertionsDisabled" "Z" (.int 1)) (SHI : Sta Z Z.heap "java/lang/StringUTF16" "HI_BYTE_SHIFT" "I" (.int 0)) (SLO : Sta Z Z.heap "java/lang/StringUTF16" "LO_BYTE_SHIFT" "I" (.int 8)) :
  MetFree l mN5 (head1 (Jvm.Cond.code mN5 jdk_52_method_14_code 5 (some (.array .byte)) :: ws) ({ frames := 2, cells := 1, slots := 6, locals := 24 } : Room)) (fun A_ U_ => A_ = #[(.ref a), (.int 0), (.int 3)] ∧ Z.Warmed39 U_.vm ∧ U_.heap = h0) (fun _ _ _ _ _ => True) (fun _ U o U' => ∃ v L, o = .returned v ∧ Qtb3 Z a ka c0 c1 c2 h0 n0 v U'.heap L ∧ FrameEnd U o U' L ({ frames := 2, cells := 1, slots := 6, locals := 24 } : Room).cells ({ frames := 2, cells := 1, slots := 6, locals := 24 } : Room).slots) := by
 refine MetFree.of_bodySF (plainFor_of_name pntb3) hisR ?_
 intro p e s m args below meth cd s₁ Bd hml0 hP hK
 obtain ⟨rfl, hZ, hh⟩ := hP
 have hx := Bd.exec
 have hby := Bd.bytes
 have hlk : meth.locks = false := BodyLoose.notSynchronized Bd
 have hml : cd.maxLocals = 5 := hml0
 have hown : s.vm.findClass "java/lang/StringUTF16" = some m.cls := findClass_of_methodNamed Bd.named
 have X0 : Stand p l e ({ frames := 2, cells := 1, slots := 6, locals := 24 } : Room) s m #[(.ref a), (.int 0), (.int 3)] below meth cd s₁ [] 0 0 := Stand.of_body Bd
 have e0 : s₁.heap = h0 := by rw [← hh, Bd.state]; rfl
 have N0 := Fr.nil n0
 have K0 : Keep h0 h0 [] := Keep.refl _ _
 have G : Go p e below s 1 6 (Qtb3 Z a ka c0 c1 c2 h0 n0) (s₁.setTop (mkF m 0 #[.val (.ref a), .val (.int 0), .val (.int 3), .unset, .unset] [])) := by
  refine Go.s (XS.iloadN X0.here hx rfl (hb hby dtb1_0) rfl) ?_
  obtain ⟨_, _, ⟨T1, L1, k1, n1⟩, -, X1, ⟨Lc1, hQ1, l1, y1, z1⟩, st1⟩ := Jvm.LawKit.callS X0 hx (y := mN4) hown (mvT hZ (own_w hw 111 rfl)) (mvT hZ (own_w hw 112 rfl)) (mvT hZ (own_w hw 70 rfl)) (mvT hZ (own_w hw 113 rfl)) (by decide) (backOf (W := 0) (rmnb3 l Z a0 hw []  h0 n0 O0 ) hZ (own_w hw 113 rfl) (own_w hw 70 rfl) (by decide) (by decide)) (g := (mkF m 1 #[.val (.ref a), .val (.int 0), .val (.int 3), .unset, .unset] [(.int 3)])) rfl (by rw [hml]; rfl) (argsL := [(.int 3)]) (rest := []) (lenOf pdtb1_0 rfl) rfl (by show 2 * 0 + _ ≤ _; exact Nat.le_of_eq rfl) (hb hby dtb1_1) (fun _ _ => ⟨rfl, e0, (by decide : 0 + 1 ≤ _), (by decide : 0 + 6 ≤ _)⟩)
  dsimp only [Pt.U, Pt.locs, Pt.cells, Pt.slots] at X1 l1 y1 z1 st1 hQ1
  subst y1 z1
  obtain ⟨b1, kb1, rfl, Nc1, Kc1, gb1, szb1, NV⟩ := hQ1
  have N1 : Fr n0 L1 := by rw [l1]; exact Fr.app N0 Nc1
  have g_b1 : n0 ≤ b1 := gb1
  have sz_b1 : h0.size ≤ b1 := Nat.le_trans K0.1 szb1
  have ne_a_b1 : a ≠ b1 := Nat.ne_of_lt (Nat.lt_of_lt_of_le V_a.lt szb1)
  have V_a := V_a.keep Kc1 nin0
  have O1 := O0.keep Kc1 all0
  have K1 := K0.trans Kc1 all0
  have V_b1 : Arv Z T1.heap b1 kb1 .byte (6 : Int32) [(.int 0), (.int 0), (.int 0), (.int 0), (.int 0), (.int 0)] (.int 0) := NV
  refine Go.st st1 ?_
  show Go p e below s _ _ _ (T1.setTop (mkF m 4 #[.val (.ref a), .val (.int 0), .val (.int 3), .unset, .unset] [(.ref b1)]))
  refine Go.s (XS.astoreN X1.here hx rfl (hb hby dtb1_4) rfl rfl (l' := #[.val (.ref a), .val (.int 0), .val (.int 3), .val (.ref b1), .unset]) rfl) ?_
  refine Go.s (XS.iconst X1.here hx rfl (hb hby dtb1_5)) ?_
  refine Go.s (XS.istore X1.here hx rfl (hb hby dtb1_6) rfl (l' := #[.val (.ref a), .val (.int 0), .val (.int 3), .val (.ref b1), .val (.int 0)]) rfl) ?_
  refine Go.s (XS.iload X1.here hx rfl (hb hby dtb1_8) rfl) ?_
  refine Go.s (XS.iloadN X1.here hx rfl (hb hby dtb1_10) rfl) ?_
  refine Go.s (XS.icmpNo X1.here hx rfl (hb hby dtb1_11) rfl (by decide)) ?_
  show Go p e below s _ _ _ (T1.setTop (mkF m 14 #[.val (.ref a), .val (.int 0), .val (.int 3), .val (.ref b1), .val (.int 0)] []))
  refine Go.s (XS.aloadN X1.here hx rfl (hb hby dtb1_14) rfl rfl) ?_
  refine Go.s (XS.iload X1.here hx rfl (hb hby dtb1_15) rfl) ?_
  refine Go.s (XS.aloadN X1.here hx rfl (hb hby dtb1_17) rfl rfl) ?_
  refine Go.s (XS.iloadN X1.here hx rfl (hb hby dtb1_18) rfl) ?_
  refine Go.s (own_caload X1 hx hZ rfl V_a (by decide) (by decide) (v := (.int c0)) rfl (g := (mkF m 19 #[.val (.ref a), .val (.int 0), .val (.int 3), .val (.ref b1), .val (.int 0)] [(.int 0), (.ref a), (.int 0), (.ref b1)])) rfl rfl (hb hby dtb1_19) _) ?_
  show Go p e below s _ _ _ (T1.setTop (mkF m 20 #[.val (.ref a), .val (.int 0), .val (.int 3), .val (.ref b1), .val (.int 0)] [(.int c0), (.int 0), (.ref b1)]))
  obtain ⟨_, _, ⟨T2, L2, k2, n2⟩, -, X2, ⟨Lc2, hQ2, l2, y2, z2⟩, st2⟩ := Jvm.LawKit.callS X1 hx (y := mN1) hown (mvT hZ (own_w hw 118 rfl)) (mvT hZ (own_w hw 119 rfl)) (mvT hZ (own_w hw 70 rfl)) (mvT hZ (own_w hw 120 rfl)) (by decide) (backOf (W := 0) (rmpc l Z a0 hw [] b1 kb1 c0 (6 : Int32) [(.int 0), (.int 0), (.int 0), (.int 0), (.int 0), (.int 0)] (0 : Int32) (0 : Int32) 0 T1.heap n0 O1 V_b1 (by decide) (by decide) (by decide) (by decide) (by decide) (by decide) (by decide) (Nat.le_of_ble_eq_true rfl) g_b1 SA SHI SLO) hZ (own_w hw 120 rfl) (own_w hw 70 rfl) (by decide) (by decide)) (g := (mkF m 20 #[.val (.ref a), .val (.int 0), .val (.int 3), .val (.ref b1), .val (.int 0)] [(.int c0), (.int 0), (.ref b1)])) rfl (by rw [hml]; rfl) (argsL := [(.ref b1), (.int 0), (.int c0)]) (rest := []) (lenOf pdtb1_1 rfl) rfl (by show 2 * 0 + _ ≤ _; exact Nat.le_of_eq rfl) (hb hby dtb1_20) (fun _ _ => ⟨rfl, rfl, (by decide : 1 + 0 ≤ _), (by decide : 6 + 0 ≤ _)⟩)
  dsimp only [Pt.U, Pt.locs, Pt.cells, Pt.slots] at X2 l2 y2 z2 st2 hQ2
  subst y2 z2
  obtain ⟨rfl, Nc2, Kc2, NV⟩ := hQ2
  have N2 : Fr n0 L2 := by rw [l2]; exact Fr.app N1 Nc2
  have V_a := V_a.keep Kc2 (ninS ne_a_b1 nin0)
  have O2 := O1.keep Kc2 (allS g_b1 all0)
  have K2 := K1.trans Kc2 (allS (Or.inr sz_b1) all0)
  have V_b1 : Arv Z T2.heap b1 kb1 .byte (6 : Int32) [(.int (StrChars.lo8 c0)), (.int (StrChars.hi8 c0)), (.int 0), (.int 0), (.int 0), (.int 0)] (.int 0) := NV
  refine Go.st st2 ?_
  show Go p e below s _ _ _ (T2.setTop (mkF m 23 #[.val (.ref a), .val (.int 0), .val (.int 3), .val (.ref b1), .val (.int 0)] []))
  refine Go.s (XT.iincV X2.here hx rfl (1 : Int32) (hb hby dtb1_23) rfl rfl (l' := #[.val (.ref a), .val (.int 1), .val (.int 3), .val (.ref b1), .val (.int 0)]) rfl) ?_
  refine Go.s (XT.iincV X2.here hx rfl (1 : Int32) (hb hby dtb1_26) rfl rfl (l' := #[.val (.ref a), .val (.int 1), .val (.int 3), .val (.ref b1), .val (.int 1)]) rfl) ?_
  refine Go.s (XS.goto X2.here hx rfl (pc0 := 29) (pc' := 8) rfl (hb hby dtb1_29) (by decide) (by decide)) ?_
  refine Go.s (XS.iload X2.here hx rfl (hb hby dtb1_8) rfl) ?_
  refine Go.s (XS.iloadN X2.here hx rfl (hb hby dtb1_10) rfl) ?_
  refine Go.s (XS.icmpNo X2.here hx rfl (hb hby dtb1_11) rfl (by decide)) ?_
  show Go p e below s _ _ _ (T2.setTop (mkF m 14 #[.val (.ref a), .val (.int 1), .val (.int 3), .val (.ref b1), .val (.int 1)] []))
  refine Go.s (XS.aloadN X2.here hx rfl (hb hby dtb1_14) rfl rfl) ?_
  refine Go.s (XS.iload X2.here hx rfl (hb hby dtb1_15) rfl) ?_
  refine Go.s (XS.aloadN X2.here hx rfl (hb hby dtb1_17) rfl rfl) ?_
  refine Go.s (XS.iloadN X2.here hx rfl (hb hby dtb1_18) rfl) ?_
  refine Go.s (own_caload X2 hx hZ rfl V_a (by decide) (by decide) (v := (.int c1)) rfl (g := (mkF m 19 #[.val (.ref a), .val (.int 1), .val (.int 3), .val (.ref b1), .val (.int 1)] [(.int 1), (.ref a), (.int 1), (.ref b1)])) rfl rfl (hb hby dtb1_19) _) ?_
  show Go p e below s _ _ _ (T2.setTop (mkF m 20 #[.val (.ref a), .val (.int 1), .val (.int 3), .val (.ref b1), .val (.int 1)] [(.int c1), (.int 1), (.ref b1)]))
  obtain ⟨_, _, ⟨T3, L3, k3, n3⟩, -, X3, ⟨Lc3, hQ3, l3, y3, z3⟩, st3⟩ := Jvm.LawKit.callS X2 hx (y := mN1) hown (mvT hZ (own_w hw 118 rfl)) (mvT hZ (own_w hw 119 rfl)) (mvT hZ (own_w hw 70 rfl)) (mvT hZ (own_w hw 120 rfl)) (by decide) (backOf (W := 0) (rmpc l Z a0 hw [] b1 kb1 c1 (6 : Int32) [(.int (StrChars.lo8 c0)), (.int (StrChars.hi8 c0)), (.int 0), (.int 0), (.int 0), (.int 0)] (1 : Int32) (2 : Int32) 2 T2.heap n0 O2 V_b1 (by decide) (by decide) (by decide) (by decide) (by decide) (by decide) (by decide) (Nat.le_of_ble_eq_true rfl) g_b1 SA SHI SLO) hZ (own_w hw 120 rfl) (own_w hw 70 rfl) (by decide) (by decide)) (g := (mkF m 20 #[.val (.ref a), .val (.int 1), .val (.int 3), .val (.ref b1), .val (.int 1)] [(.int c1), (.int 1), (.ref b1)])) rfl (by rw [hml]; rfl) (argsL := [(.ref b1), (.int 1), (.int c1)]) (rest := []) (lenOf pdtb1_1 rfl) rfl (by show 2 * 0 + _ ≤ _; exact Nat.le_of_eq rfl) (hb hby dtb1_20) (fun _ _ => ⟨rfl, rfl, (by decide : 1 + 0 ≤ _), (by decide : 6 + 0 ≤ _)⟩)
  dsimp only [Pt.U, Pt.locs, Pt.cells, Pt.slots] at X3 l3 y3 z3 st3 hQ3
  subst y3 z3
  obtain ⟨rfl, Nc3, Kc3, NV⟩ := hQ3
  have N3 : Fr n0 L3 := by rw [l3]; exact Fr.app N2 Nc3
  have V_a := V_a.keep Kc3 (ninS ne_a_b1 nin0)
  have O3 := O2.keep Kc3 (allS g_b1 all0)
  have K3 := K2.trans Kc3 (allS (Or.inr sz_b1) all0)
  have V_b1 : Arv Z T3.heap b1 kb1 .byte (6 : Int32) [(.int (StrChars.lo8 c0)), (.int (StrChars.hi8 c0)), (.int (StrChars.lo8 c1)), (.int (StrChars.hi8 c1)), (.int 0), (.int 0)] (.int 0) := NV
  refine Go.st st3 ?_
  show Go p e below s _ _ _ (T3.setTop (mkF m 23 #[.val (.ref a), .val (.int 1), .val (.int 3), .val (.ref b1), .val (.int 1)] []))
  refine Go.s (XT.iincV X3.here hx rfl (1 : Int32) (hb hby dtb1_23) rfl rfl (l' := #[.val (.ref a), .val (.int 2), .val (.int 3), .val (.ref b1), .val (.int 1)]) rfl) ?_
  refine Go.s (XT.iincV X3.here hx rfl (1 : Int32) (hb hby dtb1_26) rfl rfl (l' := #[.val (.ref a), .val (.int 2), .val (.int 3), .val (.ref b1), .val (.int 2)]) rfl) ?_
  refine Go.s (XS.goto X3.here hx rfl (pc0 := 29) (pc' := 8) rfl (hb hby dtb1_29) (by decide) (by decide)) ?_
  refine Go.s (XS.iload X3.here hx rfl (hb hby dtb1_8) rfl) ?_
  refine Go.s (XS.iloadN X3.here hx rfl (hb hby dtb1_10) rfl) ?_
  refine Go.s (XS.icmpNo X3.here hx rfl (hb hby dtb1_11) rfl (by decide)) ?_
  show Go p e below s _ _ _ (T3.setTop (mkF m 14 #[.val (.ref a), .val (.int 2), .val (.int 3), .val (.ref b1), .val (.int 2)] []))
  refine Go.s (XS.aloadN X3.here hx rfl (hb hby dtb1_14) rfl rfl) ?_
  refine Go.s (XS.iload X3.here hx rfl (hb hby dtb1_15) rfl) ?_
  refine Go.s (XS.aloadN X3.here hx rfl (hb hby dtb1_17) rfl rfl) ?_
  refine Go.s (XS.iloadN X3.here hx rfl (hb hby dtb1_18) rfl) ?_
  refine Go.s (own_caload X3 hx hZ rfl V_a (by decide) (by decide) (v := (.int c2)) rfl (g := (mkF m 19 #[.val (.ref a), .val (.int 2), .val (.int 3), .val (.ref b1), .val (.int 2)] [(.int 2), (.ref a), (.int 2), (.ref b1)])) rfl rfl (hb hby dtb1_19) _) ?_
  show Go p e below s _ _ _ (T3.setTop (mkF m 20 #[.val (.ref a), .val (.int 2), .val (.int 3), .val (.ref b1), .val (.int 2)] [(.int c2), (.int 2), (.ref b1)]))
  obtain ⟨_, _, ⟨T4, L4, k4, n4⟩, -, X4, ⟨Lc4, hQ4, l4, y4, z4⟩, st4⟩ := Jvm.LawKit.callS X3 hx (y := mN1) hown (mvT hZ (own_w hw 118 rfl)) (mvT hZ (own_w hw 119 rfl)) (mvT hZ (own_w hw 70 rfl)) (mvT hZ (own_w hw 120 rfl)) (by decide) (backOf (W := 0) (rmpc l Z a0 hw [] b1 kb1 c2 (6 : Int32) [(.int (StrChars.lo8 c0)), (.int (StrChars.hi8 c0)), (.int (StrChars.lo8 c1)), (.int (StrChars.hi8 c1)), (.int 0), (.int 0)] (2 : Int32) (4 : Int32) 4 T3.heap n0 O3 V_b1 (by decide) (by decide) (by decide) (by decide) (by decide) (by decide) (by decide) (Nat.le_of_ble_eq_true rfl) g_b1 SA SHI SLO) hZ (own_w hw 120 rfl) (own_w hw 70 rfl) (by decide) (by decide)) (g := (mkF m 20 #[.val (.ref a), .val (.int 2), .val (.int 3), .val (.ref b1), .val (.int 2)] [(.int c2), (.int 2), (.ref b1)])) rfl (by rw [hml]; rfl) (argsL := [(.ref b1), (.int 2), (.int c2)]) (rest := []) (lenOf pdtb1_1 rfl) rfl (by show 2 * 0 + _ ≤ _; exact Nat.le_of_eq rfl) (hb hby dtb1_20) (fun _ _ => ⟨rfl, rfl, (by decide : 1 + 0 ≤ _), (by decide : 6 + 0 ≤ _)⟩)
  dsimp only [Pt.U, Pt.locs, Pt.cells, Pt.slots] at X4 l4 y4 z4 st4 hQ4
  subst y4 z4
  obtain ⟨rfl, Nc4, Kc4, NV⟩ := hQ4
  have N4 : Fr n0 L4 := by rw [l4]; exact Fr.app N3 Nc4
  have V_a := V_a.keep Kc4 (ninS ne_a_b1 nin0)
  have O4 := O3.keep Kc4 (allS g_b1 all0)
  have K4 := K3.trans Kc4 (allS (Or.inr sz_b1) all0)
  have V_b1 : Arv Z T4.heap b1 kb1 .byte (6 : Int32) [(.int (StrChars.lo8 c0)), (.int (StrChars.hi8 c0)), (.int (StrChars.lo8 c1)), (.int (StrChars.hi8 c1)), (.int (StrChars.lo8 c2)), (.int (StrChars.hi8 c2))] (.int 0) := NV
  refine Go.st st4 ?_
  show Go p e below s _ _ _ (T4.setTop (mkF m 23 #[.val (.ref a), .val (.int 2), .val (.int 3), .val (.ref b1), .val (.int 2)] []))
  refine Go.s (XT.iincV X4.here hx rfl (1 : Int32) (hb hby dtb1_23) rfl rfl (l' := #[.val (.ref a), .val (.int 3), .val (.int 3), .val (.ref b1), .val (.int 2)]) rfl) ?_
  refine Go.s (XT.iincV X4.here hx rfl (1 : Int32) (hb hby dtb1_26) rfl rfl (l' := #[.val (.ref a), .val (.int 3), .val (.int 3), .val (.ref b1), .val (.int 3)]) rfl) ?_
  refine Go.s (XS.goto X4.here hx rfl (pc0 := 29) (pc' := 8) rfl (hb hby dtb1_29) (by decide) (by decide)) ?_
  refine Go.s (XS.iload X4.here hx rfl (hb hby dtb1_8) rfl) ?_
  refine Go.s (XS.iloadN X4.here hx rfl (hb hby dtb1_10) rfl) ?_
  refine Go.s (XS.icmpYes X4.here hx rfl (pc0 := 11) (pc' := 32) rfl (hb hby dtb1_11) rfl (by decide) (by decide) (by decide)) ?_
  show Go p e below s _ _ _ (T4.setTop (mkF m 32 #[.val (.ref a), .val (.int 3), .val (.int 3), .val (.ref b1), .val (.int 3)] []))
  refine Go.s (XS.aloadN X4.here hx rfl (hb hby dtb1_32) rfl rfl) ?_
  exact Go.ret X4 hlk (some (.ref b1)) (fun h => by rw [Bd.returns] at h; cases h) (by exact ⟨b1, _, rfl, N4, K4, g_b1, sz_b1, V_b1⟩) (by decide) (by decide) (fun fs hr => retOut X4 hx Bd.returns rfl (Or.inr (Or.inr (Or.inr (Or.inr ⟨rfl, rfl, rfl⟩)))) (hb hby dtb1_33) hr)
 obtain ⟨s2, o2, st2, r2⟩ := G
 exact ⟨s2, o2, castTop (eftb3 m a (0 : Int32) (3 : Int32)) st2, r2⟩
theorem pnco3 : plainName "java/lang/StringUTF16" = true := by first | (simp [plainName, overriddenIn]; done) | decide +kernel
theorem efco3 (m : MethodId) (x0 : Addr) (x1 : Int32) (x2 : Int32) : entryFrame m #[(.ref x0), (.int x1), (.int x2)] 6 = mkF m 0 #[.val (.ref x0), .val (.int x1), .val (.int x2), .unset, .unset, .unset] [] := by first | (simp [entryFrame, mkF, argsToLocals, Value.category, maxLocals]; done) | rfl
def Qco3 (Z : State) (a : Addr) (ka : ClassId) (c0 : Int32) (c1 : Int32) (c2 : Int32) (h0 : Heap) (n0 : Nat) (v : Option Value) (h : Heap) (L : List Loc) : Prop := ∃ (t : Addr) (kt : ClassId) (cd N : Int32) (vs : List Value), v = some (.ref t) ∧ Fr n0 L ∧ Keep h0 h [] ∧ n0 ≤ t ∧ h0.size ≤ t ∧ Arv Z h t kt .byte N vs (.int 0) ∧ StrChars.Road.CodA ([c0, c1, c2] : List Int32) cd N vs
theorem rmco3 (l : Launch) (Z : State) (a0 : Array Value) (hw : ∀ d ∈ tables_1, d.before a0 Z = true) (ws : List Jvm.Cond) (a : Addr) (ka : ClassId) (c0 : Int32) (c1 : Int32) (c2 : Int32) (h0 : Heap) (n0 : Nat) (O0 : Old Z n0 h0) (V_a : Arv Z h0 a ka .char (3 : Int32) [(.int c0), (.int c1), (.int c2)] (.int 0)) (hc0 : ¬ c0 < 0 ∧ ¬ (65535 : Int32) < c0) (hc1 : ¬ c1 < 0 ∧ ¬ (65535 : Int32) < c1) (hc2 : ¬ c2 < 0 ∧ ¬ (65535 : Int32) < c2) (SA : Sta Z Z.heap "java/lang/StringUTF16" "$assertionsDisabled" "Z" (.int 1)) (SHI : Sta Z Z.heap "java/lang/StringUTF16" "HI_BYTE_SHIFT" "I" (.int 0)) (SLO : Sta Z Z.heap "java/lang/StringUTF16" "LO_BYTE_SHIFT" "I" (.int 8)) :
  MetFree l mN6 (head1 (Jvm.Cond.code mN6 jdk_52_method_16_code 6 (some (.array .byte)) :: ws) ({ frames := 3, cells := 2, slots := 9, locals := 40 } : Room)) (fun A_ U_ => A_ = #[(.ref a), (.int 0), (.int 3)] ∧ Z.Warmed39 U_.vm ∧ U_.heap = h0) (fun _ _ _ _ _ => True) (fun _ U o U' => ∃ v L, o = .returned v ∧ Qco3 Z a ka c0 c1 c2 h0 n0 v U'.heap L ∧ FrameEnd U o U' L ({ frames := 3, cells := 2, slots := 9, locals := 40 } : Room).cells ({ frames := 3, cells := 2, slots := 9, locals := 40 } : Room).slots) := by
 refine MetFree.of_bodySF (plainFor_of_name pnco3) hisR ?_
 intro p e s m args below meth cd s₁ Bd hml0 hP hK
 obtain ⟨rfl, hZ, hh⟩ := hP
 have hx := Bd.exec
 have hby := Bd.bytes
 have hlk : meth.locks = false := BodyLoose.notSynchronized Bd
 have hml : cd.maxLocals = 6 := hml0
 have hown : s.vm.findClass "java/lang/StringUTF16" = some m.cls := findClass_of_methodNamed Bd.named
 have X0 : Stand p l e ({ frames := 3, cells := 2, slots := 9, locals := 40 } : Room) s m #[(.ref a), (.int 0), (.int 3)] below meth cd s₁ [] 0 0 := Stand.of_body Bd
 have e0 : s₁.heap = h0 := by rw [← hh, Bd.state]; rfl
 have N0 := Fr.nil n0
 have K0 : Keep h0 h0 [] := Keep.refl _ _
 have G : Go p e below s 2 9 (Qco3 Z a ka c0 c1 c2 h0 n0) (s₁.setTop (mkF m 0 #[.val (.ref a), .val (.int 0), .val (.int 3), .unset, .unset, .unset] [])) := by
  refine Go.s (XS.iloadN X0.here hx rfl (hb hby dco1_0) rfl) ?_
  obtain ⟨T1, h1, k1, X1, e1, E1, A1, st1⟩ := newP X0 hx hZ (own_w hw 28 rfl) e0 (g := (mkF m 1 #[.val (.ref a), .val (.int 0), .val (.int 3), .unset, .unset, .unset] [(.int 3)])) rfl (hb hby dco1_1) rfl (by decide) (cap := 3) (by decide) (by decide) (by decide) (by decide)
  obtain ⟨b1, g1⟩ : ∃ z, z = h0.size := ⟨_, rfl⟩
  rw [← g1] at A1 st1
  have g_b1 : n0 ≤ b1 := Nat.le_trans (own_old O0) (Nat.le_of_eq g1.symm)
  have sz_b1 : h0.size ≤ b1 := Nat.le_trans K0.1 (Nat.le_of_eq g1.symm)
  have ne_a_b1 : a ≠ b1 := by rw [g1]; exact Nat.ne_of_lt V_a.lt
  have V_a := V_a.ext E1
  have O1 := O0.ext E1
  have K1 := K0.ext E1
  have V_b1 : Arv Z h1 b1 k1 .byte (3 : Int32) [(.int 0), (.int 0), (.int 0)] (.int 0) := (Arv.new A1 (by decide)).pad (pad_rep [] (.int 0) 3)
  refine Go.st st1 ?_
  show Go p e below s _ _ _ (T1.setTop (mkF m 3 #[.val (.ref a), .val (.int 0), .val (.int 3), .unset, .unset, .unset] [(.ref b1)]))
  refine Go.s (XS.astoreN X1.here hx rfl (hb hby dco1_3) rfl rfl (l' := #[.val (.ref a), .val (.int 0), .val (.int 3), .val (.ref b1), .unset, .unset]) rfl) ?_
  refine Go.s (XS.aloadN X1.here hx rfl (hb hby dco1_4) rfl rfl) ?_
  refine Go.s (XS.iloadN X1.here hx rfl (hb hby dco1_5) rfl) ?_
  refine Go.s (XS.aloadN X1.here hx rfl (hb hby dco1_6) rfl rfl) ?_
  refine Go.s (XS.iconst X1.here hx rfl (hb hby dco1_7)) ?_
  refine Go.s (XS.iloadN X1.here hx rfl (hb hby dco1_8) rfl) ?_
  obtain ⟨v2, _, ⟨T2, L2, k2, n2⟩, -, X2, ⟨Lc2, hQ2, l2, y2, z2⟩, st2⟩ := Jvm.LawKit.callS X1 hx (y := mN3) hown (mvT hZ (own_w hw 72 rfl)) (mvT hZ (own_w hw 73 rfl)) (mvT hZ (own_w hw 70 rfl)) (mvT hZ (own_w hw 74 rfl)) (by decide) (backOf (W := 0) (rmci3 l Z a0 hw [] a ka b1 k1 c0 c1 c2 h1 n0 O1 V_a V_b1 g_b1 ne_a_b1) hZ (own_w hw 74 rfl) (own_w hw 70 rfl) (by decide) (by decide)) (g := (mkF m 9 #[.val (.ref a), .val (.int 0), .val (.int 3), .val (.ref b1), .unset, .unset] [(.int 3), (.int 0), (.ref b1), (.int 0), (.ref a)])) rfl (by rw [hml]; rfl) (argsL := [(.ref a), (.int 0), (.ref b1), (.int 0), (.int 3)]) (rest := []) (lenOf pdco1_0 rfl) rfl (by show 2 * 0 + _ ≤ _; exact Nat.le_of_eq rfl) (hb hby dco1_9) (fun _ _ => ⟨rfl, e1, (by decide : 1 + 0 ≤ _), (by decide : 3 + 0 ≤ _)⟩)
  dsimp only [Pt.U, Pt.locs, Pt.cells, Pt.slots] at X2 l2 y2 z2 st2 hQ2
  subst y2 z2
  obtain ⟨vs2, Nc2, Kc2, NV, hd2⟩ := hQ2
  have N2 : Fr n0 L2 := by rw [l2]; exact Fr.app N0 Nc2
  have V_a := V_a.keep Kc2 (ninS ne_a_b1 nin0)
  have O2 := O1.keep Kc2 (allS g_b1 all0)
  have K2 := K1.trans Kc2 (allS (Or.inr sz_b1) all0)
  have V_b1 : Arv Z T2.heap b1 k1 .byte (3 : Int32) vs2 (.int 0) := NV
  obtain ⟨r2, rfl, hr2⟩ : ∃ r : Int32, v2 = some (.int r) ∧ ((r = (3 : Int32) ∧ vs2 = [(.int (StrChars.lo8 c0)), (.int (StrChars.lo8 c1)), (.int (StrChars.lo8 c2))] ∧ ¬ (255 : Int32) < c0 ∧ ¬ (255 : Int32) < c1 ∧ ¬ (255 : Int32) < c2) ∨ (∃ (i : Nat) (c : Int32), i < 3 ∧ r = Int32.ofNat i ∧ ([c0, c1, c2] : List Int32).getD i 0 = c ∧ (255 : Int32) < c)) := by
    rcases hd2 with ⟨h_, q_⟩ | ⟨h_, q_⟩ | ⟨h_, q_⟩ | ⟨h_, q_⟩
    · exact ⟨_, h_, Or.inl ⟨rfl, q_⟩⟩
    · exact ⟨_, h_, Or.inr ⟨0, _, by decide, rfl, rfl, q_⟩⟩
    · exact ⟨_, h_, Or.inr ⟨1, _, by decide, rfl, rfl, q_⟩⟩
    · exact ⟨_, h_, Or.inr ⟨2, _, by decide, rfl, rfl, q_⟩⟩
  refine Go.st st2 ?_
  show Go p e below s _ _ _ (T2.setTop (mkF m 12 #[.val (.ref a), .val (.int 0), .val (.int 3), .val (.ref b1), .unset, .unset] [(.int r2)]))
  rcases hr2 with ⟨rfl, ev, hall⟩ | ⟨i, c, hi, rfl, hc_, hbig⟩
  · rw [ev] at V_b1
    show Go p e below s _ _ _ (T2.setTop (mkF m 12 #[.val (.ref a), .val (.int 0), .val (.int 3), .val (.ref b1), .unset, .unset] [(.int 3)]))
    refine Go.s (XS.istore X2.here hx rfl (hb hby dco1_12) rfl (l' := #[.val (.ref a), .val (.int 0), .val (.int 3), .val (.ref b1), .val (.int 3), .unset]) rfl) ?_
    refine Go.s (XS.iload X2.here hx rfl (hb hby dco1_14) rfl) ?_
    refine Go.s (XS.iloadN X2.here hx rfl (hb hby dco1_16) rfl) ?_
    refine Go.s (XS.icmpYes X2.here hx rfl (pc0 := 17) (pc' := 57) rfl (hb hby dco1_17) rfl (by decide) (by decide) (by decide)) ?_
    show Go p e below s _ _ _ (T2.setTop (mkF m 57 #[.val (.ref a), .val (.int 0), .val (.int 3), .val (.ref b1), .val (.int 3), .unset] []))
    refine Go.s (XS.aloadN X2.here hx rfl (hb hby dco1_57) rfl rfl) ?_
    exact Go.ret X2 hlk (some (.ref b1)) (fun h => by rw [Bd.returns] at h; cases h) (by exact ⟨b1, _, _, _, _, rfl, N2, K2, g_b1, sz_b1, V_b1, Or.inl ⟨rfl, rfl, rfl, by intro c hc; simp only [List.mem_cons, List.not_mem_nil, or_false] at hc; rcases hc with rfl | rfl | rfl; exact hall.1; exact hall.2.1; exact hall.2.2⟩⟩) (by decide) (by decide) (fun fs hr => retOut X2 hx Bd.returns rfl (Or.inr (Or.inr (Or.inr (Or.inr ⟨rfl, rfl, rfl⟩)))) (hb hby dco1_58) hr)
  · have w := own_wix i 3 hi (by decide)
    have hv0 : List.getD ([(.int (StrChars.lo8 c0)), (.int (StrChars.hi8 c0)), (.int (StrChars.lo8 c1)), (.int (StrChars.hi8 c1)), (.int (StrChars.lo8 c2)), (.int (StrChars.hi8 c2))] : List Value) (2 * i) (.int 0) = (.int (StrChars.lo8 c)) := by rw [← hc_]; exact StrChars.Road.wide_lo _ [c0, c1, c2] i hi
    have hv1 : List.getD ([(.int (StrChars.lo8 c0)), (.int (StrChars.hi8 c0)), (.int (StrChars.lo8 c1)), (.int (StrChars.hi8 c1)), (.int (StrChars.lo8 c2)), (.int (StrChars.hi8 c2))] : List Value) (2 * i + 1) (.int 0) = (.int (StrChars.hi8 c)) := by rw [← hc_]; exact StrChars.Road.wide_hi _ [c0, c1, c2] i hi
    have hcc : ¬ c < 0 ∧ ¬ (65535 : Int32) < c := by rw [← hc_]; exact own_hbD (own_hb3 hc0 hc1 hc2) i
    show Go p e below s _ _ _ (T2.setTop (mkF m 12 #[.val (.ref a), .val (.int 0), .val (.int 3), .val (.ref b1), .unset, .unset] [(.int (Int32.ofNat i))]))
    refine Go.s (XS.istore X2.here hx rfl (hb hby dco1_12) rfl (l' := #[.val (.ref a), .val (.int 0), .val (.int 3), .val (.ref b1), .val (.int (Int32.ofNat i)), .unset]) rfl) ?_
    refine Go.s (XS.iload X2.here hx rfl (hb hby dco1_14) rfl) ?_
    refine Go.s (XS.iloadN X2.here hx rfl (hb hby dco1_16) rfl) ?_
    refine Go.s (XS.icmpNo X2.here hx rfl (hb hby dco1_17) rfl (XT.ii_eq_f (own_ofne hi (by decide)))) ?_
    show Go p e below s _ _ _ (T2.setTop (mkF m 20 #[.val (.ref a), .val (.int 0), .val (.int 3), .val (.ref b1), .val (.int (Int32.ofNat i)), .unset] []))
    refine Go.s (XS.aloadN X2.here hx rfl (hb hby dco1_20) rfl rfl) ?_
    refine Go.s (XS.iloadN X2.here hx rfl (hb hby dco1_21) rfl) ?_
    refine Go.s (XS.iloadN X2.here hx rfl (hb hby dco1_22) rfl) ?_
    obtain ⟨_, _, ⟨T3, L3, k3, n3⟩, -, X3, ⟨Lc3, hQ3, l3, y3, z3⟩, st3⟩ := Jvm.LawKit.callS X2 hx (y := mN5) hown (mvT hZ (own_w hw 108 rfl)) (mvT hZ (own_w hw 109 rfl)) (mvT hZ (own_w hw 70 rfl)) (mvT hZ (own_w hw 110 rfl)) (by decide) (backOf (W := 0) (rmtb3 l Z a0 hw [] a ka c0 c1 c2 T2.heap n0 O2 V_a SA SHI SLO) hZ (own_w hw 110 rfl) (own_w hw 70 rfl) (by decide) (by decide)) (g := (mkF m 23 #[.val (.ref a), .val (.int 0), .val (.int 3), .val (.ref b1), .val (.int (Int32.ofNat i)), .unset] [(.int 3), (.int 0), (.ref a)])) rfl (by rw [hml]; rfl) (argsL := [(.ref a), (.int 0), (.int 3)]) (rest := []) (lenOf pdco1_1 rfl) rfl (by show 2 * 0 + _ ≤ _; exact Nat.le_of_eq rfl) (hb hby dco1_23) (fun _ _ => ⟨rfl, rfl, (by decide : 1 + 1 ≤ _), (by decide : 3 + 6 ≤ _)⟩)
    dsimp only [Pt.U, Pt.locs, Pt.cells, Pt.slots] at X3 l3 y3 z3 st3 hQ3
    subst y3 z3
    obtain ⟨b3, kb3, rfl, Nc3, Kc3, gb3, szb3, NV⟩ := hQ3
    have N3 : Fr n0 L3 := by rw [l3]; exact Fr.app N2 Nc3
    have g_b3 : n0 ≤ b3 := gb3
    have sz_b3 : h0.size ≤ b3 := Nat.le_trans K2.1 szb3
    have ne_a_b3 : a ≠ b3 := Nat.ne_of_lt (Nat.lt_of_lt_of_le V_a.lt szb3)
    have ne_b1_b3 : b1 ≠ b3 := Nat.ne_of_lt (Nat.lt_of_lt_of_le V_b1.lt szb3)
    have V_a := V_a.keep Kc3 nin0
    have V_b1 := V_b1.keep Kc3 nin0
    have O3 := O2.keep Kc3 all0
    have K3 := K2.trans Kc3 all0
    have V_b3 : Arv Z T3.heap b3 kb3 .byte (6 : Int32) [(.int (StrChars.lo8 c0)), (.int (StrChars.hi8 c0)), (.int (StrChars.lo8 c1)), (.int (StrChars.hi8 c1)), (.int (StrChars.lo8 c2)), (.int (StrChars.hi8 c2))] (.int 0) := NV
    refine Go.st st3 ?_
    show Go p e below s _ _ _ (T3.setTop (mkF m 26 #[.val (.ref a), .val (.int 0), .val (.int 3), .val (.ref b1), .val (.int (Int32.ofNat i)), .unset] [(.ref b3)]))
    refine Go.s (XS.astore X3.here hx rfl (hb hby dco1_26) rfl rfl (l' := #[.val (.ref a), .val (.int 0), .val (.int 3), .val (.ref b1), .val (.int (Int32.ofNat i)), .val (.ref b3)]) rfl) ?_
    refine Go.s (XS.aload X3.here hx rfl (hb hby dco1_28) rfl rfl) ?_
    refine Go.s (XS.iload X3.here hx rfl (hb hby dco1_30) rfl) ?_
    obtain ⟨_, _, ⟨T4, L4, k4, n4⟩, -, X4, ⟨Lc4, hQ4, l4, y4, z4⟩, st4⟩ := Jvm.LawKit.callS X3 hx (y := mN2) hown (mvT hZ (own_w hw 124 rfl)) (mvT hZ (own_w hw 125 rfl)) (mvT hZ (own_w hw 70 rfl)) (mvT hZ (own_w hw 126 rfl)) (by decide) (backOf (W := 0) (rmgc l Z a0 hw [] b3 kb3 c (6 : Int32) [(.int (StrChars.lo8 c0)), (.int (StrChars.hi8 c0)), (.int (StrChars.lo8 c1)), (.int (StrChars.hi8 c1)), (.int (StrChars.lo8 c2)), (.int (StrChars.hi8 c2))] (Int32.ofNat i) (Int32.ofNat (2 * i)) (2 * i) T3.heap n0 O3 V_b3 w.1 w.2.1 w.2.2.1 w.2.2.2.1 w.2.2.2.2.1 w.2.2.2.2.2.1 w.2.2.2.2.2.2.1 hv0 hv1 hcc SA SHI SLO) hZ (own_w hw 126 rfl) (own_w hw 70 rfl) (by decide) (by decide)) (g := (mkF m 32 #[.val (.ref a), .val (.int 0), .val (.int 3), .val (.ref b1), .val (.int (Int32.ofNat i)), .val (.ref b3)] [(.int (Int32.ofNat i)), (.ref b3)])) rfl (by rw [hml]; rfl) (argsL := [(.ref b3), (.int (Int32.ofNat i))]) (rest := []) (lenOf pdco1_2 rfl) rfl (by show 2 * 0 + _ ≤ _; exact Nat.le_of_eq rfl) (hb hby dco1_32) (fun _ _ => ⟨rfl, rfl, (by decide : 2 + 0 ≤ _), (by decide : 9 + 0 ≤ _)⟩)
    dsimp only [Pt.U, Pt.locs, Pt.cells, Pt.slots] at X4 l4 y4 z4 st4 hQ4
    subst y4 z4
    obtain ⟨rfl, Nc4, e4⟩ := hQ4
    have N4 : Fr n0 L4 := by rw [l4]; exact Fr.app N3 Nc4
    refine Go.st st4 ?_
    show Go p e below s _ _ _ (T4.setTop (mkF m 35 #[.val (.ref a), .val (.int 0), .val (.int 3), .val (.ref b1), .val (.int (Int32.ofNat i)), .val (.ref b3)] [(.int c)]))
    refine Go.s (XS.sipush X4.here hx rfl (hb hby dco1_35)) ?_
    refine Go.s (XS.icmpYes X4.here hx rfl (pc0 := 38) (pc' := 54) rfl (hb hby dco1_38) rfl (XT.ii_gt_t hbig) (by decide) (by decide)) ?_
    show Go p e below s _ _ _ (T4.setTop (mkF m 54 #[.val (.ref a), .val (.int 0), .val (.int 3), .val (.ref b1), .val (.int (Int32.ofNat i)), .val (.ref b3)] []))
    refine Go.s (XS.aload X4.here hx rfl (hb hby dco1_54) rfl rfl) ?_
    exact Go.ret X4 hlk (some (.ref b3)) (fun h => by rw [Bd.returns] at h; cases h) (by rw [e4]; exact ⟨b3, _, _, _, _, rfl, N4, K3, g_b3, sz_b3, V_b3, Or.inr ⟨rfl, rfl, rfl, c, own_memD hi hc_, hbig⟩⟩) (by decide) (by decide) (fun fs hr => retOut X4 hx Bd.returns rfl (Or.inr (Or.inr (Or.inr (Or.inr ⟨rfl, rfl, rfl⟩)))) (hb hby dco1_56) hr)
 obtain ⟨s2, o2, st2, r2⟩ := G
 exact ⟨s2, o2, castTop (efco3 m a (0 : Int32) (3 : Int32)) st2, r2⟩
theorem pnci4 : plainName "java/lang/StringUTF16" = true := by first | (simp [plainName, overriddenIn]; done) | decide +kernel
theorem efci4 (m : MethodId) (x0 : Addr) (x1 : Int32) (x2 : Addr) (x3 : Int32) (x4 : Int32) : entryFrame m #[(.ref x0), (.int x1), (.ref x2), (.int x3), (.int x4)] 7 = mkF m 0 #[.val (.ref x0), .val (.int x1), .val (.ref x2), .val (.int x3), .val (.int x4), .unset, .unset] [] := by first | (simp [entryFrame, mkF, argsToLocals, Value.category, maxLocals]; done) | rfl
def Qci4 (Z : State) (a : Addr) (ka : ClassId) (b : Addr) (kb : ClassId) (c0 : Int32) (c1 : Int32) (c2 : Int32) (c3 : Int32) (h0 : Heap) (n0 : Nat) (v : Option Value) (h : Heap) (L : List Loc) : Prop := ∃ vs : List Value, Fr n0 L ∧ Keep h0 h [b] ∧ Arv Z h b kb .byte (4 : Int32) vs (.int 0) ∧ ((v = some (.int 4) ∧ vs = [(.int (StrChars.lo8 c0)), (.int (StrChars.lo8 c1)), (.int (StrChars.lo8 c2)), (.int (StrChars.lo8 c3))] ∧ ¬ (255 : Int32) < c0 ∧ ¬ (255 : Int32) < c1 ∧ ¬ (255 : Int32) < c2 ∧ ¬ (255 : Int32) < c3) ∨ (v = some (.int 0) ∧ (255 : Int32) < c0) ∨ (v = some (.int 1) ∧ (255 : Int32) < c1) ∨ (v = some (.int 2) ∧ (255 : Int32) < c2) ∨ (v = some (.int 3) ∧ (255 : Int32) < c3))
theorem rmci4 (l : Launch) (Z : State) (a0 : Array Value) (hw : ∀ d ∈ tables_1, d.before a0 Z = true) (ws : List Jvm.Cond) (a : Addr) (ka : ClassId) (b : Addr) (kb : ClassId) (c0 : Int32) (c1 : Int32) (c2 : Int32) (c3 : Int32) (h0 : Heap) (n0 : Nat) (O0 : Old Z n0 h0) (V_a : Arv Z h0 a ka .char (4 : Int32) [(.int c0), (.int c1), (.int c2), (.int c3)] (.int 0)) (V_b : Arv Z h0 b kb .byte (4 : Int32) [(.int 0), (.int 0), (.int 0), (.int 0)] (.int 0)) (gb : n0 ≤ b) (nab : a ≠ b) :
  MetFree l mN3 (head1 (Jvm.Cond.code mN3 jdk_52_method_21_code 7 (some .int) :: ws) ({ frames := 0, cells := 0, slots := 0, locals := 0 } : Room)) (fun A_ U_ => A_ = #[(.ref a), (.int 0), (.ref b), (.int 0), (.int 4)] ∧ Z.Warmed39 U_.vm ∧ U_.heap = h0) (fun _ _ _ _ _ => True) (fun _ U o U' => ∃ v L, o = .returned v ∧ Qci4 Z a ka b kb c0 c1 c2 c3 h0 n0 v U'.heap L ∧ FrameEnd U o U' L ({ frames := 0, cells := 0, slots := 0, locals := 0 } : Room).cells ({ frames := 0, cells := 0, slots := 0, locals := 0 } : Room).slots) := by
 refine MetFree.of_bodySF (plainFor_of_name pnci4) hisR ?_
 intro p e s m args below meth cd s₁ Bd hml0 hP hK
 obtain ⟨rfl, hZ, hh⟩ := hP
 have hx := Bd.exec
 have hby := Bd.bytes
 have hlk : meth.locks = false := BodyLoose.notSynchronized Bd
 have hml : cd.maxLocals = 7 := hml0
 have hown : s.vm.findClass "java/lang/StringUTF16" = some m.cls := findClass_of_methodNamed Bd.named
 have X0 : Stand p l e ({ frames := 0, cells := 0, slots := 0, locals := 0 } : Room) s m #[(.ref a), (.int 0), (.ref b), (.int 0), (.int 4)] below meth cd s₁ [] 0 0 := Stand.of_body Bd
 have e0 : s₁.heap = h0 := by rw [← hh, Bd.state]; rfl
 have N0 := Fr.nil n0
 have K0 : Keep h0 h0 [b] := Keep.refl _ _
 have G : Go p e below s 0 0 (Qci4 Z a ka b kb c0 c1 c2 c3 h0 n0) (s₁.setTop (mkF m 0 #[.val (.ref a), .val (.int 0), .val (.ref b), .val (.int 0), .val (.int 4), .unset, .unset] [])) := by
  refine Go.s (XS.iconst X0.here hx rfl (hb hby dci1_0)) ?_
  refine Go.s (XS.istore X0.here hx rfl (hb hby dci1_1) rfl (l' := #[.val (.ref a), .val (.int 0), .val (.ref b), .val (.int 0), .val (.int 4), .val (.int 0), .unset]) rfl) ?_
  refine Go.s (XS.iload X0.here hx rfl (hb hby dci1_3) rfl) ?_
  refine Go.s (XS.iload X0.here hx rfl (hb hby dci1_5) rfl) ?_
  refine Go.s (XS.icmpNo X0.here hx rfl (hb hby dci1_7) rfl (by decide)) ?_
  show Go p e below s _ _ _ (s₁.setTop (mkF m 10 #[.val (.ref a), .val (.int 0), .val (.ref b), .val (.int 0), .val (.int 4), .val (.int 0), .unset] []))
  refine Go.s (XS.aloadN X0.here hx rfl (hb hby dci1_10) rfl rfl) ?_
  refine Go.s (XS.iloadN X0.here hx rfl (hb hby dci1_11) rfl) ?_
  refine Go.s (own_caload X0 hx hZ e0 V_a (by decide) (by decide) (v := (.int c0)) rfl (g := (mkF m 12 #[.val (.ref a), .val (.int 0), .val (.ref b), .val (.int 0), .val (.int 4), .val (.int 0), .unset] [(.int 0), (.ref a)])) rfl rfl (hb hby dci1_12) _) ?_
  show Go p e below s _ _ _ (s₁.setTop (mkF m 13 #[.val (.ref a), .val (.int 0), .val (.ref b), .val (.int 0), .val (.int 4), .val (.int 0), .unset] [(.int c0)]))
  refine Go.s (XS.istore X0.here hx rfl (hb hby dci1_13) rfl (l' := #[.val (.ref a), .val (.int 0), .val (.ref b), .val (.int 0), .val (.int 4), .val (.int 0), .val (.int c0)]) rfl) ?_
  refine Go.s (XS.iload X0.here hx rfl (hb hby dci1_15) rfl) ?_
  refine Go.s (XS.sipush X0.here hx rfl (hb hby dci1_17)) ?_
  by_cases c20_1 : (255 : Int32) < c0
  · refine Go.s (XS.icmpNo X0.here hx rfl (hb hby dci1_20) rfl (XT.ii_le_f c20_1)) ?_
    show Go p e below s _ _ _ (s₁.setTop (mkF m 23 #[.val (.ref a), .val (.int 0), .val (.ref b), .val (.int 0), .val (.int 4), .val (.int 0), .val (.int c0)] []))
    refine Go.s (XS.iload X0.here hx rfl (hb hby dci1_23) rfl) ?_
    exact Go.ret X0 hlk (some (.int 0)) (fun h => by rw [Bd.returns] at h; cases h) (by rw [e0]; exact ⟨_, N0, K0, V_b, Or.inr (Or.inl ⟨rfl, c20_1⟩)⟩) (by decide) (by decide) (fun fs hr => retI X0 hx Bd.returns (hb hby dci1_25) hr)
  · refine Go.s (XS.icmpYes X0.here hx rfl (pc0 := 20) (pc' := 26) rfl (hb hby dci1_20) rfl (XT.ii_le_t c20_1) (by decide) (by decide)) ?_
    show Go p e below s _ _ _ (s₁.setTop (mkF m 26 #[.val (.ref a), .val (.int 0), .val (.ref b), .val (.int 0), .val (.int 4), .val (.int 0), .val (.int c0)] []))
    refine Go.s (XS.aloadN X0.here hx rfl (hb hby dci1_26) rfl rfl) ?_
    refine Go.s (XS.iloadN X0.here hx rfl (hb hby dci1_27) rfl) ?_
    refine Go.s (XS.iload X0.here hx rfl (hb hby dci1_28) rfl) ?_
    refine Go.s (XT.i2b X0.here hx rfl (hb hby dci1_30) rfl) ?_
    show Go p e below s _ _ _ (s₁.setTop (mkF m 31 #[.val (.ref a), .val (.int 0), .val (.ref b), .val (.int 0), .val (.int 4), .val (.int 0), .val (.int c0)] [(.int (c0.toInt8.toInt32)), (.int 0), (.ref b)]))
    obtain ⟨T2, h2, X2, e2, W2, V2, st2⟩ := own_stB X0 hx hZ e0 V_b (j := (0 : Int32)) (by decide) (by decide) 0 rfl (Nat.le_of_ble_eq_true rfl) (g := (mkF m 31 #[.val (.ref a), .val (.int 0), .val (.ref b), .val (.int 0), .val (.int 4), .val (.int 0), .val (.int c0)] [(.int (c0.toInt8.toInt32)), (.int 0), (.ref b)])) rfl rfl (hb hby dci1_31)
    obtain ⟨lc2, X2, N2⟩ := own_gen X2 (Fr.snoc X2 N0 gb)
    have O2 := O0.wr W2 gb
    have K2 := K0.wr W2 (Or.inl (List.mem_of_getElem? (i := 0) rfl))
    have V_a := V_a.other W2 nab
    have V_b : Arv Z h2 b kb .byte (4 : Int32) [(.int (nar .byte (c0.toInt8.toInt32))), (.int 0), (.int 0), (.int 0)] (.int 0) := V2
    refine Go.st st2 ?_
    show Go p e below s _ _ _ (T2.setTop (mkF m 32 #[.val (.ref a), .val (.int 0), .val (.ref b), .val (.int 0), .val (.int 4), .val (.int 0), .val (.int c0)] []))
    refine Go.s (XT.iincV X2.here hx rfl (1 : Int32) (hb hby dci1_32) rfl rfl (l' := #[.val (.ref a), .val (.int 1), .val (.ref b), .val (.int 0), .val (.int 4), .val (.int 0), .val (.int c0)]) rfl) ?_
    refine Go.s (XT.iincV X2.here hx rfl (1 : Int32) (hb hby dci1_35) rfl rfl (l' := #[.val (.ref a), .val (.int 1), .val (.ref b), .val (.int 1), .val (.int 4), .val (.int 0), .val (.int c0)]) rfl) ?_
    refine Go.s (XT.iincV X2.here hx rfl (1 : Int32) (hb hby dci1_38) rfl rfl (l' := #[.val (.ref a), .val (.int 1), .val (.ref b), .val (.int 1), .val (.int 4), .val (.int 1), .val (.int c0)]) rfl) ?_
    refine Go.s (XS.goto X2.here hx rfl (pc0 := 41) (pc' := 3) rfl (hb hby dci1_41) (by decide) (by decide)) ?_
    refine Go.s (XS.iload X2.here hx rfl (hb hby dci1_3) rfl) ?_
    refine Go.s (XS.iload X2.here hx rfl (hb hby dci1_5) rfl) ?_
    refine Go.s (XS.icmpNo X2.here hx rfl (hb hby dci1_7) rfl (by decide)) ?_
    show Go p e below s _ _ _ (T2.setTop (mkF m 10 #[.val (.ref a), .val (.int 1), .val (.ref b), .val (.int 1), .val (.int 4), .val (.int 1), .val (.int c0)] []))
    refine Go.s (XS.aloadN X2.here hx rfl (hb hby dci1_10) rfl rfl) ?_
    refine Go.s (XS.iloadN X2.here hx rfl (hb hby dci1_11) rfl) ?_
    refine Go.s (own_caload X2 hx hZ e2 V_a (by decide) (by decide) (v := (.int c1)) rfl (g := (mkF m 12 #[.val (.ref a), .val (.int 1), .val (.ref b), .val (.int 1), .val (.int 4), .val (.int 1), .val (.int c0)] [(.int 1), (.ref a)])) rfl rfl (hb hby dci1_12) _) ?_
    show Go p e below s _ _ _ (T2.setTop (mkF m 13 #[.val (.ref a), .val (.int 1), .val (.ref b), .val (.int 1), .val (.int 4), .val (.int 1), .val (.int c0)] [(.int c1)]))
    refine Go.s (XS.istore X2.here hx rfl (hb hby dci1_13) rfl (l' := #[.val (.ref a), .val (.int 1), .val (.ref b), .val (.int 1), .val (.int 4), .val (.int 1), .val (.int c1)]) rfl) ?_
    refine Go.s (XS.iload X2.here hx rfl (hb hby dci1_15) rfl) ?_
    refine Go.s (XS.sipush X2.here hx rfl (hb hby dci1_17)) ?_
    by_cases c20_3 : (255 : Int32) < c1
    · refine Go.s (XS.icmpNo X2.here hx rfl (hb hby dci1_20) rfl (XT.ii_le_f c20_3)) ?_
      show Go p e below s _ _ _ (T2.setTop (mkF m 23 #[.val (.ref a), .val (.int 1), .val (.ref b), .val (.int 1), .val (.int 4), .val (.int 1), .val (.int c1)] []))
      refine Go.s (XS.iload X2.here hx rfl (hb hby dci1_23) rfl) ?_
      exact Go.ret X2 hlk (some (.int 1)) (fun h => by rw [Bd.returns] at h; cases h) (by rw [e2]; exact ⟨_, N2, K2, V_b, Or.inr (Or.inr (Or.inl ⟨rfl, c20_3⟩))⟩) (by decide) (by decide) (fun fs hr => retI X2 hx Bd.returns (hb hby dci1_25) hr)
    · refine Go.s (XS.icmpYes X2.here hx rfl (pc0 := 20) (pc' := 26) rfl (hb hby dci1_20) rfl (XT.ii_le_t c20_3) (by decide) (by decide)) ?_
      show Go p e below s _ _ _ (T2.setTop (mkF m 26 #[.val (.ref a), .val (.int 1), .val (.ref b), .val (.int 1), .val (.int 4), .val (.int 1), .val (.int c1)] []))
      refine Go.s (XS.aloadN X2.here hx rfl (hb hby dci1_26) rfl rfl) ?_
      refine Go.s (XS.iloadN X2.here hx rfl (hb hby dci1_27) rfl) ?_
      refine Go.s (XS.iload X2.here hx rfl (hb hby dci1_28) rfl) ?_
      refine Go.s (XT.i2b X2.here hx rfl (hb hby dci1_30) rfl) ?_
      show Go p e below s _ _ _ (T2.setTop (mkF m 31 #[.val (.ref a), .val (.int 1), .val (.ref b), .val (.int 1), .val (.int 4), .val (.int 1), .val (.int c1)] [(.int (c1.toInt8.toInt32)), (.int 1), (.ref b)]))
      obtain ⟨T4, h4, X4, e4, W4, V4, st4⟩ := own_stB X2 hx hZ e2 V_b (j := (1 : Int32)) (by decide) (by decide) 1 rfl (Nat.le_of_ble_eq_true rfl) (g := (mkF m 31 #[.val (.ref a), .val (.int 1), .val (.ref b), .val (.int 1), .val (.int 4), .val (.int 1), .val (.int c1)] [(.int (c1.toInt8.toInt32)), (.int 1), (.ref b)])) rfl rfl (hb hby dci1_31)
      obtain ⟨lc4, X4, N4⟩ := own_gen X4 (Fr.snoc X4 N2 gb)
      have O4 := O2.wr W4 gb
      have K4 := K2.wr W4 (Or.inl (List.mem_of_getElem? (i := 0) rfl))
      have V_a := V_a.other W4 nab
      have V_b : Arv Z h4 b kb .byte (4 : Int32) [(.int (nar .byte (c0.toInt8.toInt32))), (.int (nar .byte (c1.toInt8.toInt32))), (.int 0), (.int 0)] (.int 0) := V4
      refine Go.st st4 ?_
      show Go p e below s _ _ _ (T4.setTop (mkF m 32 #[.val (.ref a), .val (.int 1), .val (.ref b), .val (.int 1), .val (.int 4), .val (.int 1), .val (.int c1)] []))
      refine Go.s (XT.iincV X4.here hx rfl (1 : Int32) (hb hby dci1_32) rfl rfl (l' := #[.val (.ref a), .val (.int 2), .val (.ref b), .val (.int 1), .val (.int 4), .val (.int 1), .val (.int c1)]) rfl) ?_
      refine Go.s (XT.iincV X4.here hx rfl (1 : Int32) (hb hby dci1_35) rfl rfl (l' := #[.val (.ref a), .val (.int 2), .val (.ref b), .val (.int 2), .val (.int 4), .val (.int 1), .val (.int c1)]) rfl) ?_
      refine Go.s (XT.iincV X4.here hx rfl (1 : Int32) (hb hby dci1_38) rfl rfl (l' := #[.val (.ref a), .val (.int 2), .val (.ref b), .val (.int 2), .val (.int 4), .val (.int 2), .val (.int c1)]) rfl) ?_
      refine Go.s (XS.goto X4.here hx rfl (pc0 := 41) (pc' := 3) rfl (hb hby dci1_41) (by decide) (by decide)) ?_
      refine Go.s (XS.iload X4.here hx rfl (hb hby dci1_3) rfl) ?_
      refine Go.s (XS.iload X4.here hx rfl (hb hby dci1_5) rfl) ?_
      refine Go.s (XS.icmpNo X4.here hx rfl (hb hby dci1_7) rfl (by decide)) ?_
      show Go p e below s _ _ _ (T4.setTop (mkF m 10 #[.val (.ref a), .val (.int 2), .val (.ref b), .val (.int 2), .val (.int 4), .val (.int 2), .val (.int c1)] []))
      refine Go.s (XS.aloadN X4.here hx rfl (hb hby dci1_10) rfl rfl) ?_
      refine Go.s (XS.iloadN X4.here hx rfl (hb hby dci1_11) rfl) ?_
      refine Go.s (own_caload X4 hx hZ e4 V_a (by decide) (by decide) (v := (.int c2)) rfl (g := (mkF m 12 #[.val (.ref a), .val (.int 2), .val (.ref b), .val (.int 2), .val (.int 4), .val (.int 2), .val (.int c1)] [(.int 2), (.ref a)])) rfl rfl (hb hby dci1_12) _) ?_
      show Go p e below s _ _ _ (T4.setTop (mkF m 13 #[.val (.ref a), .val (.int 2), .val (.ref b), .val (.int 2), .val (.int 4), .val (.int 2), .val (.int c1)] [(.int c2)]))
      refine Go.s (XS.istore X4.here hx rfl (hb hby dci1_13) rfl (l' := #[.val (.ref a), .val (.int 2), .val (.ref b), .val (.int 2), .val (.int 4), .val (.int 2), .val (.int c2)]) rfl) ?_
      refine Go.s (XS.iload X4.here hx rfl (hb hby dci1_15) rfl) ?_
      refine Go.s (XS.sipush X4.here hx rfl (hb hby dci1_17)) ?_
      by_cases c20_5 : (255 : Int32) < c2
      · refine Go.s (XS.icmpNo X4.here hx rfl (hb hby dci1_20) rfl (XT.ii_le_f c20_5)) ?_
        show Go p e below s _ _ _ (T4.setTop (mkF m 23 #[.val (.ref a), .val (.int 2), .val (.ref b), .val (.int 2), .val (.int 4), .val (.int 2), .val (.int c2)] []))
        refine Go.s (XS.iload X4.here hx rfl (hb hby dci1_23) rfl) ?_
        exact Go.ret X4 hlk (some (.int 2)) (fun h => by rw [Bd.returns] at h; cases h) (by rw [e4]; exact ⟨_, N4, K4, V_b, Or.inr (Or.inr (Or.inr (Or.inl ⟨rfl, c20_5⟩)))⟩) (by decide) (by decide) (fun fs hr => retI X4 hx Bd.returns (hb hby dci1_25) hr)
      · refine Go.s (XS.icmpYes X4.here hx rfl (pc0 := 20) (pc' := 26) rfl (hb hby dci1_20) rfl (XT.ii_le_t c20_5) (by decide) (by decide)) ?_
        show Go p e below s _ _ _ (T4.setTop (mkF m 26 #[.val (.ref a), .val (.int 2), .val (.ref b), .val (.int 2), .val (.int 4), .val (.int 2), .val (.int c2)] []))
        refine Go.s (XS.aloadN X4.here hx rfl (hb hby dci1_26) rfl rfl) ?_
        refine Go.s (XS.iloadN X4.here hx rfl (hb hby dci1_27) rfl) ?_
        refine Go.s (XS.iload X4.here hx rfl (hb hby dci1_28) rfl) ?_
        refine Go.s (XT.i2b X4.here hx rfl (hb hby dci1_30) rfl) ?_
        show Go p e below s _ _ _ (T4.setTop (mkF m 31 #[.val (.ref a), .val (.int 2), .val (.ref b), .val (.int 2), .val (.int 4), .val (.int 2), .val (.int c2)] [(.int (c2.toInt8.toInt32)), (.int 2), (.ref b)]))
        obtain ⟨T6, h6, X6, e6, W6, V6, st6⟩ := own_stB X4 hx hZ e4 V_b (j := (2 : Int32)) (by decide) (by decide) 2 rfl (Nat.le_of_ble_eq_true rfl) (g := (mkF m 31 #[.val (.ref a), .val (.int 2), .val (.ref b), .val (.int 2), .val (.int 4), .val (.int 2), .val (.int c2)] [(.int (c2.toInt8.toInt32)), (.int 2), (.ref b)])) rfl rfl (hb hby dci1_31)
        obtain ⟨lc6, X6, N6⟩ := own_gen X6 (Fr.snoc X6 N4 gb)
        have O6 := O4.wr W6 gb
        have K6 := K4.wr W6 (Or.inl (List.mem_of_getElem? (i := 0) rfl))
        have V_a := V_a.other W6 nab
        have V_b : Arv Z h6 b kb .byte (4 : Int32) [(.int (nar .byte (c0.toInt8.toInt32))), (.int (nar .byte (c1.toInt8.toInt32))), (.int (nar .byte (c2.toInt8.toInt32))), (.int 0)] (.int 0) := V6
        refine Go.st st6 ?_
        show Go p e below s _ _ _ (T6.setTop (mkF m 32 #[.val (.ref a), .val (.int 2), .val (.ref b), .val (.int 2), .val (.int 4), .val (.int 2), .val (.int c2)] []))
        refine Go.s (XT.iincV X6.here hx rfl (1 : Int32) (hb hby dci1_32) rfl rfl (l' := #[.val (.ref a), .val (.int 3), .val (.ref b), .val (.int 2), .val (.int 4), .val (.int 2), .val (.int c2)]) rfl) ?_
        refine Go.s (XT.iincV X6.here hx rfl (1 : Int32) (hb hby dci1_35) rfl rfl (l' := #[.val (.ref a), .val (.int 3), .val (.ref b), .val (.int 3), .val (.int 4), .val (.int 2), .val (.int c2)]) rfl) ?_
        refine Go.s (XT.iincV X6.here hx rfl (1 : Int32) (hb hby dci1_38) rfl rfl (l' := #[.val (.ref a), .val (.int 3), .val (.ref b), .val (.int 3), .val (.int 4), .val (.int 3), .val (.int c2)]) rfl) ?_
        refine Go.s (XS.goto X6.here hx rfl (pc0 := 41) (pc' := 3) rfl (hb hby dci1_41) (by decide) (by decide)) ?_
        refine Go.s (XS.iload X6.here hx rfl (hb hby dci1_3) rfl) ?_
        refine Go.s (XS.iload X6.here hx rfl (hb hby dci1_5) rfl) ?_
        refine Go.s (XS.icmpNo X6.here hx rfl (hb hby dci1_7) rfl (by decide)) ?_
        show Go p e below s _ _ _ (T6.setTop (mkF m 10 #[.val (.ref a), .val (.int 3), .val (.ref b), .val (.int 3), .val (.int 4), .val (.int 3), .val (.int c2)] []))
        refine Go.s (XS.aloadN X6.here hx rfl (hb hby dci1_10) rfl rfl) ?_
        refine Go.s (XS.iloadN X6.here hx rfl (hb hby dci1_11) rfl) ?_
        refine Go.s (own_caload X6 hx hZ e6 V_a (by decide) (by decide) (v := (.int c3)) rfl (g := (mkF m 12 #[.val (.ref a), .val (.int 3), .val (.ref b), .val (.int 3), .val (.int 4), .val (.int 3), .val (.int c2)] [(.int 3), (.ref a)])) rfl rfl (hb hby dci1_12) _) ?_
        show Go p e below s _ _ _ (T6.setTop (mkF m 13 #[.val (.ref a), .val (.int 3), .val (.ref b), .val (.int 3), .val (.int 4), .val (.int 3), .val (.int c2)] [(.int c3)]))
        refine Go.s (XS.istore X6.here hx rfl (hb hby dci1_13) rfl (l' := #[.val (.ref a), .val (.int 3), .val (.ref b), .val (.int 3), .val (.int 4), .val (.int 3), .val (.int c3)]) rfl) ?_
        refine Go.s (XS.iload X6.here hx rfl (hb hby dci1_15) rfl) ?_
        refine Go.s (XS.sipush X6.here hx rfl (hb hby dci1_17)) ?_
        by_cases c20_7 : (255 : Int32) < c3
        · refine Go.s (XS.icmpNo X6.here hx rfl (hb hby dci1_20) rfl (XT.ii_le_f c20_7)) ?_
          show Go p e below s _ _ _ (T6.setTop (mkF m 23 #[.val (.ref a), .val (.int 3), .val (.ref b), .val (.int 3), .val (.int 4), .val (.int 3), .val (.int c3)] []))
          refine Go.s (XS.iload X6.here hx rfl (hb hby dci1_23) rfl) ?_
          exact Go.ret X6 hlk (some (.int 3)) (fun h => by rw [Bd.returns] at h; cases h) (by rw [e6]; exact ⟨_, N6, K6, V_b, Or.inr (Or.inr (Or.inr (Or.inr (⟨rfl, c20_7⟩))))⟩) (by decide) (by decide) (fun fs hr => retI X6 hx Bd.returns (hb hby dci1_25) hr)
        · refine Go.s (XS.icmpYes X6.here hx rfl (pc0 := 20) (pc' := 26) rfl (hb hby dci1_20) rfl (XT.ii_le_t c20_7) (by decide) (by decide)) ?_
          show Go p e below s _ _ _ (T6.setTop (mkF m 26 #[.val (.ref a), .val (.int 3), .val (.ref b), .val (.int 3), .val (.int 4), .val (.int 3), .val (.int c3)] []))
          refine Go.s (XS.aloadN X6.here hx rfl (hb hby dci1_26) rfl rfl) ?_
          refine Go.s (XS.iloadN X6.here hx rfl (hb hby dci1_27) rfl) ?_
          refine Go.s (XS.iload X6.here hx rfl (hb hby dci1_28) rfl) ?_
          refine Go.s (XT.i2b X6.here hx rfl (hb hby dci1_30) rfl) ?_
          show Go p e below s _ _ _ (T6.setTop (mkF m 31 #[.val (.ref a), .val (.int 3), .val (.ref b), .val (.int 3), .val (.int 4), .val (.int 3), .val (.int c3)] [(.int (c3.toInt8.toInt32)), (.int 3), (.ref b)]))
          obtain ⟨T8, h8, X8, e8, W8, V8, st8⟩ := own_stB X6 hx hZ e6 V_b (j := (3 : Int32)) (by decide) (by decide) 3 rfl (Nat.le_of_ble_eq_true rfl) (g := (mkF m 31 #[.val (.ref a), .val (.int 3), .val (.ref b), .val (.int 3), .val (.int 4), .val (.int 3), .val (.int c3)] [(.int (c3.toInt8.toInt32)), (.int 3), (.ref b)])) rfl rfl (hb hby dci1_31)
          obtain ⟨lc8, X8, N8⟩ := own_gen X8 (Fr.snoc X8 N6 gb)
          have O8 := O6.wr W8 gb
          have K8 := K6.wr W8 (Or.inl (List.mem_of_getElem? (i := 0) rfl))
          have V_a := V_a.other W8 nab
          have V_b : Arv Z h8 b kb .byte (4 : Int32) [(.int (nar .byte (c0.toInt8.toInt32))), (.int (nar .byte (c1.toInt8.toInt32))), (.int (nar .byte (c2.toInt8.toInt32))), (.int (nar .byte (c3.toInt8.toInt32)))] (.int 0) := V8
          refine Go.st st8 ?_
          show Go p e below s _ _ _ (T8.setTop (mkF m 32 #[.val (.ref a), .val (.int 3), .val (.ref b), .val (.int 3), .val (.int 4), .val (.int 3), .val (.int c3)] []))
          refine Go.s (XT.iincV X8.here hx rfl (1 : Int32) (hb hby dci1_32) rfl rfl (l' := #[.val (.ref a), .val (.int 4), .val (.ref b), .val (.int 3), .val (.int 4), .val (.int 3), .val (.int c3)]) rfl) ?_
          refine Go.s (XT.iincV X8.here hx rfl (1 : Int32) (hb hby dci1_35) rfl rfl (l' := #[.val (.ref a), .val (.int 4), .val (.ref b), .val (.int 4), .val (.int 4), .val (.int 3), .val (.int c3)]) rfl) ?_
          refine Go.s (XT.iincV X8.here hx rfl (1 : Int32) (hb hby dci1_38) rfl rfl (l' := #[.val (.ref a), .val (.int 4), .val (.ref b), .val (.int 4), .val (.int 4), .val (.int 4), .val (.int c3)]) rfl) ?_
          refine Go.s (XS.goto X8.here hx rfl (pc0 := 41) (pc' := 3) rfl (hb hby dci1_41) (by decide) (by decide)) ?_
          refine Go.s (XS.iload X8.here hx rfl (hb hby dci1_3) rfl) ?_
          refine Go.s (XS.iload X8.here hx rfl (hb hby dci1_5) rfl) ?_
          refine Go.s (XS.icmpYes X8.here hx rfl (pc0 := 7) (pc' := 44) rfl (hb hby dci1_7) rfl (by decide) (by decide) (by decide)) ?_
          show Go p e below s _ _ _ (T8.setTop (mkF m 44 #[.val (.ref a), .val (.int 4), .val (.ref b), .val (.int 4), .val (.int 4), .val (.int 4), .val (.int c3)] []))
          refine Go.s (XS.iload X8.here hx rfl (hb hby dci1_44) rfl) ?_
          exact Go.ret X8 hlk (some (.int 4)) (fun h => by rw [Bd.returns] at h; cases h) (by rw [e8]; exact ⟨_, N8, K8, V_b, Or.inl ⟨rfl, by simp only [own_nbl], c20_1, c20_3, c20_5, c20_7⟩⟩) (by decide) (by decide) (fun fs hr => retI X8 hx Bd.returns (hb hby dci1_46) hr)
 obtain ⟨s2, o2, st2, r2⟩ := G
 exact ⟨s2, o2, castTop (efci4 m a (0 : Int32) b (0 : Int32) (4 : Int32)) st2, r2⟩
theorem pnnb4 : plainName "java/lang/StringUTF16" = true := by first | (simp [plainName, overriddenIn]; done) | decide +kernel
theorem efnb4 (m : MethodId) (x0 : Int32) : entryFrame m #[(.int x0)] 1 = mkF m 0 #[.val (.int x0)] [] := by first | (simp [entryFrame, mkF, argsToLocals, Value.category, maxLocals]; done) | rfl
def Qnb4 (Z : State)  (h0 : Heap) (n0 : Nat) (v : Option Value) (h : Heap) (L : List Loc) : Prop := ∃ (b : Addr) (kb : ClassId), v = some (.ref b) ∧ Fr n0 L ∧ Keep h0 h [] ∧ n0 ≤ b ∧ h0.size ≤ b ∧ Arv Z h b kb .byte (8 : Int32) [(.int 0), (.int 0), (.int 0), (.int 0), (.int 0), (.int 0), (.int 0), (.int 0)] (.int 0)
theorem rmnb4 (l : Launch) (Z : State) (a0 : Array Value) (hw : ∀ d ∈ tables_1, d.before a0 Z = true) (ws : List Jvm.Cond)  (h0 : Heap) (n0 : Nat) (O0 : Old Z n0 h0)  :
  MetFree l mN4 (head1 (Jvm.Cond.code mN4 jdk_52_method_2_code 1 (some (.array .byte)) :: ws) ({ frames := 1, cells := 1, slots := 8, locals := 12 } : Room)) (fun A_ U_ => A_ = #[(.int 4)] ∧ Z.Warmed39 U_.vm ∧ U_.heap = h0) (fun _ _ _ _ _ => True) (fun _ U o U' => ∃ v L, o = .returned v ∧ Qnb4 Z  h0 n0 v U'.heap L ∧ FrameEnd U o U' L ({ frames := 1, cells := 1, slots := 8, locals := 12 } : Room).cells ({ frames := 1, cells := 1, slots := 8, locals := 12 } : Room).slots) := by
 refine MetFree.of_bodySF (plainFor_of_name pnnb4) hisR ?_
 intro p e s m args below meth cd s₁ Bd hml0 hP hK
 obtain ⟨rfl, hZ, hh⟩ := hP
 have hx := Bd.exec
 have hby := Bd.bytes
 have hlk : meth.locks = false := BodyLoose.notSynchronized Bd
 have hml : cd.maxLocals = 1 := hml0
 have hown : s.vm.findClass "java/lang/StringUTF16" = some m.cls := findClass_of_methodNamed Bd.named
 have X0 : Stand p l e ({ frames := 1, cells := 1, slots := 8, locals := 12 } : Room) s m #[(.int 4)] below meth cd s₁ [] 0 0 := Stand.of_body Bd
 have e0 : s₁.heap = h0 := by rw [← hh, Bd.state]; rfl
 have N0 := Fr.nil n0
 have K0 : Keep h0 h0 [] := Keep.refl _ _
 have G : Go p e below s 1 8 (Qnb4 Z  h0 n0) (s₁.setTop (mkF m 0 #[.val (.int 4)] [])) := by
  refine Go.s (XS.iloadN X0.here hx rfl (hb hby dnb1_0) rfl) ?_
  obtain ⟨_, _, ⟨T1, L1, k1, n1⟩, -, X1, ⟨Lc1, hQ1, l1, y1, z1⟩, st1⟩ := Jvm.LawKit.callS X0 hx (y := mN0) hown (mvT hZ (own_w hw 114 rfl)) (mvT hZ (own_w hw 115 rfl)) (mvT hZ (own_w hw 70 rfl)) (mvT hZ (own_w hw 116 rfl)) (by decide) (backOf (W := 0) (rmnl l Z a0 hw [] (4 : Int32) h0 n0 O0 (by decide) (by decide)) hZ (own_w hw 116 rfl) (own_w hw 70 rfl) (by decide) (by decide)) (g := (mkF m 1 #[.val (.int 4)] [(.int 4)])) rfl (by rw [hml]; rfl) (argsL := [(.int 4)]) (rest := []) (lenOf pdnb1_0 rfl) rfl (by show 2 * 0 + _ ≤ _; exact Nat.le_of_eq rfl) (hb hby dnb1_1) (fun _ _ => ⟨rfl, e0, (by decide : 0 + 0 ≤ _), (by decide : 0 + 0 ≤ _)⟩)
  dsimp only [Pt.U, Pt.locs, Pt.cells, Pt.slots] at X1 l1 y1 z1 st1 hQ1
  subst y1 z1
  obtain ⟨rfl, Nc1, e1⟩ := hQ1
  have N1 : Fr n0 L1 := by rw [l1]; exact Fr.app N0 Nc1
  refine Go.st st1 ?_
  show Go p e below s _ _ _ (T1.setTop (mkF m 4 #[.val (.int 4)] [(.int 8)]))
  obtain ⟨T2, h2, k2, X2, e2, E2, A2, st2⟩ := newP X1 hx hZ (own_w hw 28 rfl) e1 (g := (mkF m 4 #[.val (.int 4)] [(.int 8)])) rfl (hb hby dnb1_4) rfl (by decide) (cap := 8) (by decide) (by decide) (by decide) (by decide)
  obtain ⟨b2, g2⟩ : ∃ z, z = h0.size := ⟨_, rfl⟩
  rw [← g2] at A2 st2
  have g_b2 : n0 ≤ b2 := Nat.le_trans (own_old O0) (Nat.le_of_eq g2.symm)
  have sz_b2 : h0.size ≤ b2 := Nat.le_trans K0.1 (Nat.le_of_eq g2.symm)
  have O2 := O0.ext E2
  have K2 := K0.ext E2
  have V_b2 : Arv Z h2 b2 k2 .byte (8 : Int32) [(.int 0), (.int 0), (.int 0), (.int 0), (.int 0), (.int 0), (.int 0), (.int 0)] (.int 0) := (Arv.new A2 (by decide)).pad (pad_rep [] (.int 0) 8)
  refine Go.st st2 ?_
  show Go p e below s _ _ _ (T2.setTop (mkF m 6 #[.val (.int 4)] [(.ref b2)]))
  exact Go.ret X2 hlk (some (.ref b2)) (fun h => by rw [Bd.returns] at h; cases h) (by rw [e2]; exact ⟨b2, _, rfl, N1, K2, g_b2, sz_b2, V_b2⟩) (by decide) (by decide) (fun fs hr => retOut X2 hx Bd.returns rfl (Or.inr (Or.inr (Or.inr (Or.inr ⟨rfl, rfl, rfl⟩)))) (hb hby dnb1_6) hr)
 obtain ⟨s2, o2, st2, r2⟩ := G
 exact ⟨s2, o2, castTop (efnb4 m (4 : Int32)) st2, r2⟩
theorem pntb4 : plainName "java/lang/StringUTF16" = true := by first | (simp [plainName, overriddenIn]; done) | decide +kernel
theorem eftb4 (m : MethodId) (x0 : Addr) (x1 : Int32) (x2 : Int32) : entryFrame m #[(.ref x0), (.int x1), (.int x2)] 5 = mkF m 0 #[.val (.ref x0), .val (.int x1), .val (.int x2), .unset, .unset] [] := by first | (simp [entryFrame, mkF, argsToLocals, Value.category, maxLocals]; done) | rfl
def Qtb4 (Z : State) (a : Addr) (ka : ClassId) (c0 : Int32) (c1 : Int32) (c2 : Int32) (c3 : Int32) (h0 : Heap) (n0 : Nat) (v : Option Value) (h : Heap) (L : List Loc) : Prop := ∃ (b : Addr) (kb : ClassId), v = some (.ref b) ∧ Fr n0 L ∧ Keep h0 h [] ∧ n0 ≤ b ∧ h0.size ≤ b ∧ Arv Z h b kb .byte (8 : Int32) [(.int (StrChars.lo8 c0)), (.int (StrChars.hi8 c0)), (.int (StrChars.lo8 c1)), (.int (StrChars.hi8 c1)), (.int (StrChars.lo8 c2)), (.int (StrChars.hi8 c2)), (.int (StrChars.lo8 c3)), (.int (StrChars.hi8 c3))] (.int 0)
theorem rmtb4 (l : Launch) (Z : State) (a0 : Array Value) (hw : ∀ d ∈ tables_1, d.before a0 Z = true) (ws : List Jvm.Cond) (a : Addr) (ka : ClassId) (c0 : Int32) (c1 : Int32) (c2 : Int32) (c3 : Int32) (h0 : Heap) (n0 : Nat) (O0 : Old Z n0 h0) (V_a : Arv Z h0 a ka .char (4 : Int32) [(.int c0), (.int c1), (.int c2), (.int c3)] (.int 0)) (SA : Sta Z Z.heap "java/lang/StringUTF16" "$assertionsDisabled" "Z" (.int 1)) (SHI : Sta Z Z.heap "java/lang/StringUTF16" "HI_BYTE_SHIFT" "I" (.int 0)) (SLO : Sta Z Z.heap "java/lang/StringUTF16" "LO_BYTE_SHIFT" "I" (.int 8)) :
  MetFree l mN5 (head1 (Jvm.Cond.code mN5 jdk_52_method_14_code 5 (some (.array .byte)) :: ws) ({ frames := 2, cells := 1, slots := 8, locals := 24 } : Room)) (fun A_ U_ => A_ = #[(.ref a), (.int 0), (.int 4)] ∧ Z.Warmed39 U_.vm ∧ U_.heap = h0) (fun _ _ _ _ _ => True) (fun _ U o U' => ∃ v L, o = .returned v ∧ Qtb4 Z a ka c0 c1 c2 c3 h0 n0 v U'.heap L ∧ FrameEnd U o U' L ({ frames := 2, cells := 1, slots := 8, locals := 24 } : Room).cells ({ frames := 2, cells := 1, slots := 8, locals := 24 } : Room).slots) := by
 refine MetFree.of_bodySF (plainFor_of_name pntb4) hisR ?_
 intro p e s m args below meth cd s₁ Bd hml0 hP hK
 obtain ⟨rfl, hZ, hh⟩ := hP
 have hx := Bd.exec
 have hby := Bd.bytes
 have hlk : meth.locks = false := BodyLoose.notSynchronized Bd
 have hml : cd.maxLocals = 5 := hml0
 have hown : s.vm.findClass "java/lang/StringUTF16" = some m.cls := findClass_of_methodNamed Bd.named
 have X0 : Stand p l e ({ frames := 2, cells := 1, slots := 8, locals := 24 } : Room) s m #[(.ref a), (.int 0), (.int 4)] below meth cd s₁ [] 0 0 := Stand.of_body Bd
 have e0 : s₁.heap = h0 := by rw [← hh, Bd.state]; rfl
 have N0 := Fr.nil n0
 have K0 : Keep h0 h0 [] := Keep.refl _ _
 have G : Go p e below s 1 8 (Qtb4 Z a ka c0 c1 c2 c3 h0 n0) (s₁.setTop (mkF m 0 #[.val (.ref a), .val (.int 0), .val (.int 4), .unset, .unset] [])) := by
  refine Go.s (XS.iloadN X0.here hx rfl (hb hby dtb1_0) rfl) ?_
  obtain ⟨_, _, ⟨T1, L1, k1, n1⟩, -, X1, ⟨Lc1, hQ1, l1, y1, z1⟩, st1⟩ := Jvm.LawKit.callS X0 hx (y := mN4) hown (mvT hZ (own_w hw 111 rfl)) (mvT hZ (own_w hw 112 rfl)) (mvT hZ (own_w hw 70 rfl)) (mvT hZ (own_w hw 113 rfl)) (by decide) (backOf (W := 0) (rmnb4 l Z a0 hw []  h0 n0 O0 ) hZ (own_w hw 113 rfl) (own_w hw 70 rfl) (by decide) (by decide)) (g := (mkF m 1 #[.val (.ref a), .val (.int 0), .val (.int 4), .unset, .unset] [(.int 4)])) rfl (by rw [hml]; rfl) (argsL := [(.int 4)]) (rest := []) (lenOf pdtb1_0 rfl) rfl (by show 2 * 0 + _ ≤ _; exact Nat.le_of_eq rfl) (hb hby dtb1_1) (fun _ _ => ⟨rfl, e0, (by decide : 0 + 1 ≤ _), (by decide : 0 + 8 ≤ _)⟩)
  dsimp only [Pt.U, Pt.locs, Pt.cells, Pt.slots] at X1 l1 y1 z1 st1 hQ1
  subst y1 z1
  obtain ⟨b1, kb1, rfl, Nc1, Kc1, gb1, szb1, NV⟩ := hQ1
  have N1 : Fr n0 L1 := by rw [l1]; exact Fr.app N0 Nc1
  have g_b1 : n0 ≤ b1 := gb1
  have sz_b1 : h0.size ≤ b1 := Nat.le_trans K0.1 szb1
  have ne_a_b1 : a ≠ b1 := Nat.ne_of_lt (Nat.lt_of_lt_of_le V_a.lt szb1)
  have V_a := V_a.keep Kc1 nin0
  have O1 := O0.keep Kc1 all0
  have K1 := K0.trans Kc1 all0
  have V_b1 : Arv Z T1.heap b1 kb1 .byte (8 : Int32) [(.int 0), (.int 0), (.int 0), (.int 0), (.int 0), (.int 0), (.int 0), (.int 0)] (.int 0) := NV
  refine Go.st st1 ?_
  show Go p e below s _ _ _ (T1.setTop (mkF m 4 #[.val (.ref a), .val (.int 0), .val (.int 4), .unset, .unset] [(.ref b1)]))
  refine Go.s (XS.astoreN X1.here hx rfl (hb hby dtb1_4) rfl rfl (l' := #[.val (.ref a), .val (.int 0), .val (.int 4), .val (.ref b1), .unset]) rfl) ?_
  refine Go.s (XS.iconst X1.here hx rfl (hb hby dtb1_5)) ?_
  refine Go.s (XS.istore X1.here hx rfl (hb hby dtb1_6) rfl (l' := #[.val (.ref a), .val (.int 0), .val (.int 4), .val (.ref b1), .val (.int 0)]) rfl) ?_
  refine Go.s (XS.iload X1.here hx rfl (hb hby dtb1_8) rfl) ?_
  refine Go.s (XS.iloadN X1.here hx rfl (hb hby dtb1_10) rfl) ?_
  refine Go.s (XS.icmpNo X1.here hx rfl (hb hby dtb1_11) rfl (by decide)) ?_
  show Go p e below s _ _ _ (T1.setTop (mkF m 14 #[.val (.ref a), .val (.int 0), .val (.int 4), .val (.ref b1), .val (.int 0)] []))
  refine Go.s (XS.aloadN X1.here hx rfl (hb hby dtb1_14) rfl rfl) ?_
  refine Go.s (XS.iload X1.here hx rfl (hb hby dtb1_15) rfl) ?_
  refine Go.s (XS.aloadN X1.here hx rfl (hb hby dtb1_17) rfl rfl) ?_
  refine Go.s (XS.iloadN X1.here hx rfl (hb hby dtb1_18) rfl) ?_
  refine Go.s (own_caload X1 hx hZ rfl V_a (by decide) (by decide) (v := (.int c0)) rfl (g := (mkF m 19 #[.val (.ref a), .val (.int 0), .val (.int 4), .val (.ref b1), .val (.int 0)] [(.int 0), (.ref a), (.int 0), (.ref b1)])) rfl rfl (hb hby dtb1_19) _) ?_
  show Go p e below s _ _ _ (T1.setTop (mkF m 20 #[.val (.ref a), .val (.int 0), .val (.int 4), .val (.ref b1), .val (.int 0)] [(.int c0), (.int 0), (.ref b1)]))
  obtain ⟨_, _, ⟨T2, L2, k2, n2⟩, -, X2, ⟨Lc2, hQ2, l2, y2, z2⟩, st2⟩ := Jvm.LawKit.callS X1 hx (y := mN1) hown (mvT hZ (own_w hw 118 rfl)) (mvT hZ (own_w hw 119 rfl)) (mvT hZ (own_w hw 70 rfl)) (mvT hZ (own_w hw 120 rfl)) (by decide) (backOf (W := 0) (rmpc l Z a0 hw [] b1 kb1 c0 (8 : Int32) [(.int 0), (.int 0), (.int 0), (.int 0), (.int 0), (.int 0), (.int 0), (.int 0)] (0 : Int32) (0 : Int32) 0 T1.heap n0 O1 V_b1 (by decide) (by decide) (by decide) (by decide) (by decide) (by decide) (by decide) (Nat.le_of_ble_eq_true rfl) g_b1 SA SHI SLO) hZ (own_w hw 120 rfl) (own_w hw 70 rfl) (by decide) (by decide)) (g := (mkF m 20 #[.val (.ref a), .val (.int 0), .val (.int 4), .val (.ref b1), .val (.int 0)] [(.int c0), (.int 0), (.ref b1)])) rfl (by rw [hml]; rfl) (argsL := [(.ref b1), (.int 0), (.int c0)]) (rest := []) (lenOf pdtb1_1 rfl) rfl (by show 2 * 0 + _ ≤ _; exact Nat.le_of_eq rfl) (hb hby dtb1_20) (fun _ _ => ⟨rfl, rfl, (by decide : 1 + 0 ≤ _), (by decide : 8 + 0 ≤ _)⟩)
  dsimp only [Pt.U, Pt.locs, Pt.cells, Pt.slots] at X2 l2 y2 z2 st2 hQ2
  subst y2 z2
  obtain ⟨rfl, Nc2, Kc2, NV⟩ := hQ2
  have N2 : Fr n0 L2 := by rw [l2]; exact Fr.app N1 Nc2
  have V_a := V_a.keep Kc2 (ninS ne_a_b1 nin0)
  have O2 := O1.keep Kc2 (allS g_b1 all0)
  have K2 := K1.trans Kc2 (allS (Or.inr sz_b1) all0)
  have V_b1 : Arv Z T2.heap b1 kb1 .byte (8 : Int32) [(.int (StrChars.lo8 c0)), (.int (StrChars.hi8 c0)), (.int 0), (.int 0), (.int 0), (.int 0), (.int 0), (.int 0)] (.int 0) := NV
  refine Go.st st2 ?_
  show Go p e below s _ _ _ (T2.setTop (mkF m 23 #[.val (.ref a), .val (.int 0), .val (.int 4), .val (.ref b1), .val (.int 0)] []))
  refine Go.s (XT.iincV X2.here hx rfl (1 : Int32) (hb hby dtb1_23) rfl rfl (l' := #[.val (.ref a), .val (.int 1), .val (.int 4), .val (.ref b1), .val (.int 0)]) rfl) ?_
  refine Go.s (XT.iincV X2.here hx rfl (1 : Int32) (hb hby dtb1_26) rfl rfl (l' := #[.val (.ref a), .val (.int 1), .val (.int 4), .val (.ref b1), .val (.int 1)]) rfl) ?_
  refine Go.s (XS.goto X2.here hx rfl (pc0 := 29) (pc' := 8) rfl (hb hby dtb1_29) (by decide) (by decide)) ?_
  refine Go.s (XS.iload X2.here hx rfl (hb hby dtb1_8) rfl) ?_
  refine Go.s (XS.iloadN X2.here hx rfl (hb hby dtb1_10) rfl) ?_
  refine Go.s (XS.icmpNo X2.here hx rfl (hb hby dtb1_11) rfl (by decide)) ?_
  show Go p e below s _ _ _ (T2.setTop (mkF m 14 #[.val (.ref a), .val (.int 1), .val (.int 4), .val (.ref b1), .val (.int 1)] []))
  refine Go.s (XS.aloadN X2.here hx rfl (hb hby dtb1_14) rfl rfl) ?_
  refine Go.s (XS.iload X2.here hx rfl (hb hby dtb1_15) rfl) ?_
  refine Go.s (XS.aloadN X2.here hx rfl (hb hby dtb1_17) rfl rfl) ?_
  refine Go.s (XS.iloadN X2.here hx rfl (hb hby dtb1_18) rfl) ?_
  refine Go.s (own_caload X2 hx hZ rfl V_a (by decide) (by decide) (v := (.int c1)) rfl (g := (mkF m 19 #[.val (.ref a), .val (.int 1), .val (.int 4), .val (.ref b1), .val (.int 1)] [(.int 1), (.ref a), (.int 1), (.ref b1)])) rfl rfl (hb hby dtb1_19) _) ?_
  show Go p e below s _ _ _ (T2.setTop (mkF m 20 #[.val (.ref a), .val (.int 1), .val (.int 4), .val (.ref b1), .val (.int 1)] [(.int c1), (.int 1), (.ref b1)]))
  obtain ⟨_, _, ⟨T3, L3, k3, n3⟩, -, X3, ⟨Lc3, hQ3, l3, y3, z3⟩, st3⟩ := Jvm.LawKit.callS X2 hx (y := mN1) hown (mvT hZ (own_w hw 118 rfl)) (mvT hZ (own_w hw 119 rfl)) (mvT hZ (own_w hw 70 rfl)) (mvT hZ (own_w hw 120 rfl)) (by decide) (backOf (W := 0) (rmpc l Z a0 hw [] b1 kb1 c1 (8 : Int32) [(.int (StrChars.lo8 c0)), (.int (StrChars.hi8 c0)), (.int 0), (.int 0), (.int 0), (.int 0), (.int 0), (.int 0)] (1 : Int32) (2 : Int32) 2 T2.heap n0 O2 V_b1 (by decide) (by decide) (by decide) (by decide) (by decide) (by decide) (by decide) (Nat.le_of_ble_eq_true rfl) g_b1 SA SHI SLO) hZ (own_w hw 120 rfl) (own_w hw 70 rfl) (by decide) (by decide)) (g := (mkF m 20 #[.val (.ref a), .val (.int 1), .val (.int 4), .val (.ref b1), .val (.int 1)] [(.int c1), (.int 1), (.ref b1)])) rfl (by rw [hml]; rfl) (argsL := [(.ref b1), (.int 1), (.int c1)]) (rest := []) (lenOf pdtb1_1 rfl) rfl (by show 2 * 0 + _ ≤ _; exact Nat.le_of_eq rfl) (hb hby dtb1_20) (fun _ _ => ⟨rfl, rfl, (by decide : 1 + 0 ≤ _), (by decide : 8 + 0 ≤ _)⟩)
  dsimp only [Pt.U, Pt.locs, Pt.cells, Pt.slots] at X3 l3 y3 z3 st3 hQ3
  subst y3 z3
  obtain ⟨rfl, Nc3, Kc3, NV⟩ := hQ3
  have N3 : Fr n0 L3 := by rw [l3]; exact Fr.app N2 Nc3
  have V_a := V_a.keep Kc3 (ninS ne_a_b1 nin0)
  have O3 := O2.keep Kc3 (allS g_b1 all0)
  have K3 := K2.trans Kc3 (allS (Or.inr sz_b1) all0)
  have V_b1 : Arv Z T3.heap b1 kb1 .byte (8 : Int32) [(.int (StrChars.lo8 c0)), (.int (StrChars.hi8 c0)), (.int (StrChars.lo8 c1)), (.int (StrChars.hi8 c1)), (.int 0), (.int 0), (.int 0), (.int 0)] (.int 0) := NV
  refine Go.st st3 ?_
  show Go p e below s _ _ _ (T3.setTop (mkF m 23 #[.val (.ref a), .val (.int 1), .val (.int 4), .val (.ref b1), .val (.int 1)] []))
  refine Go.s (XT.iincV X3.here hx rfl (1 : Int32) (hb hby dtb1_23) rfl rfl (l' := #[.val (.ref a), .val (.int 2), .val (.int 4), .val (.ref b1), .val (.int 1)]) rfl) ?_
  refine Go.s (XT.iincV X3.here hx rfl (1 : Int32) (hb hby dtb1_26) rfl rfl (l' := #[.val (.ref a), .val (.int 2), .val (.int 4), .val (.ref b1), .val (.int 2)]) rfl) ?_
  refine Go.s (XS.goto X3.here hx rfl (pc0 := 29) (pc' := 8) rfl (hb hby dtb1_29) (by decide) (by decide)) ?_
  refine Go.s (XS.iload X3.here hx rfl (hb hby dtb1_8) rfl) ?_
  refine Go.s (XS.iloadN X3.here hx rfl (hb hby dtb1_10) rfl) ?_
  refine Go.s (XS.icmpNo X3.here hx rfl (hb hby dtb1_11) rfl (by decide)) ?_
  show Go p e below s _ _ _ (T3.setTop (mkF m 14 #[.val (.ref a), .val (.int 2), .val (.int 4), .val (.ref b1), .val (.int 2)] []))
  refine Go.s (XS.aloadN X3.here hx rfl (hb hby dtb1_14) rfl rfl) ?_
  refine Go.s (XS.iload X3.here hx rfl (hb hby dtb1_15) rfl) ?_
  refine Go.s (XS.aloadN X3.here hx rfl (hb hby dtb1_17) rfl rfl) ?_
  refine Go.s (XS.iloadN X3.here hx rfl (hb hby dtb1_18) rfl) ?_
  refine Go.s (own_caload X3 hx hZ rfl V_a (by decide) (by decide) (v := (.int c2)) rfl (g := (mkF m 19 #[.val (.ref a), .val (.int 2), .val (.int 4), .val (.ref b1), .val (.int 2)] [(.int 2), (.ref a), (.int 2), (.ref b1)])) rfl rfl (hb hby dtb1_19) _) ?_
  show Go p e below s _ _ _ (T3.setTop (mkF m 20 #[.val (.ref a), .val (.int 2), .val (.int 4), .val (.ref b1), .val (.int 2)] [(.int c2), (.int 2), (.ref b1)]))
  obtain ⟨_, _, ⟨T4, L4, k4, n4⟩, -, X4, ⟨Lc4, hQ4, l4, y4, z4⟩, st4⟩ := Jvm.LawKit.callS X3 hx (y := mN1) hown (mvT hZ (own_w hw 118 rfl)) (mvT hZ (own_w hw 119 rfl)) (mvT hZ (own_w hw 70 rfl)) (mvT hZ (own_w hw 120 rfl)) (by decide) (backOf (W := 0) (rmpc l Z a0 hw [] b1 kb1 c2 (8 : Int32) [(.int (StrChars.lo8 c0)), (.int (StrChars.hi8 c0)), (.int (StrChars.lo8 c1)), (.int (StrChars.hi8 c1)), (.int 0), (.int 0), (.int 0), (.int 0)] (2 : Int32) (4 : Int32) 4 T3.heap n0 O3 V_b1 (by decide) (by decide) (by decide) (by decide) (by decide) (by decide) (by decide) (Nat.le_of_ble_eq_true rfl) g_b1 SA SHI SLO) hZ (own_w hw 120 rfl) (own_w hw 70 rfl) (by decide) (by decide)) (g := (mkF m 20 #[.val (.ref a), .val (.int 2), .val (.int 4), .val (.ref b1), .val (.int 2)] [(.int c2), (.int 2), (.ref b1)])) rfl (by rw [hml]; rfl) (argsL := [(.ref b1), (.int 2), (.int c2)]) (rest := []) (lenOf pdtb1_1 rfl) rfl (by show 2 * 0 + _ ≤ _; exact Nat.le_of_eq rfl) (hb hby dtb1_20) (fun _ _ => ⟨rfl, rfl, (by decide : 1 + 0 ≤ _), (by decide : 8 + 0 ≤ _)⟩)
  dsimp only [Pt.U, Pt.locs, Pt.cells, Pt.slots] at X4 l4 y4 z4 st4 hQ4
  subst y4 z4
  obtain ⟨rfl, Nc4, Kc4, NV⟩ := hQ4
  have N4 : Fr n0 L4 := by rw [l4]; exact Fr.app N3 Nc4
  have V_a := V_a.keep Kc4 (ninS ne_a_b1 nin0)
  have O4 := O3.keep Kc4 (allS g_b1 all0)
  have K4 := K3.trans Kc4 (allS (Or.inr sz_b1) all0)
  have V_b1 : Arv Z T4.heap b1 kb1 .byte (8 : Int32) [(.int (StrChars.lo8 c0)), (.int (StrChars.hi8 c0)), (.int (StrChars.lo8 c1)), (.int (StrChars.hi8 c1)), (.int (StrChars.lo8 c2)), (.int (StrChars.hi8 c2)), (.int 0), (.int 0)] (.int 0) := NV
  refine Go.st st4 ?_
  show Go p e below s _ _ _ (T4.setTop (mkF m 23 #[.val (.ref a), .val (.int 2), .val (.int 4), .val (.ref b1), .val (.int 2)] []))
  refine Go.s (XT.iincV X4.here hx rfl (1 : Int32) (hb hby dtb1_23) rfl rfl (l' := #[.val (.ref a), .val (.int 3), .val (.int 4), .val (.ref b1), .val (.int 2)]) rfl) ?_
  refine Go.s (XT.iincV X4.here hx rfl (1 : Int32) (hb hby dtb1_26) rfl rfl (l' := #[.val (.ref a), .val (.int 3), .val (.int 4), .val (.ref b1), .val (.int 3)]) rfl) ?_
  refine Go.s (XS.goto X4.here hx rfl (pc0 := 29) (pc' := 8) rfl (hb hby dtb1_29) (by decide) (by decide)) ?_
  refine Go.s (XS.iload X4.here hx rfl (hb hby dtb1_8) rfl) ?_
  refine Go.s (XS.iloadN X4.here hx rfl (hb hby dtb1_10) rfl) ?_
  refine Go.s (XS.icmpNo X4.here hx rfl (hb hby dtb1_11) rfl (by decide)) ?_
  show Go p e below s _ _ _ (T4.setTop (mkF m 14 #[.val (.ref a), .val (.int 3), .val (.int 4), .val (.ref b1), .val (.int 3)] []))
  refine Go.s (XS.aloadN X4.here hx rfl (hb hby dtb1_14) rfl rfl) ?_
  refine Go.s (XS.iload X4.here hx rfl (hb hby dtb1_15) rfl) ?_
  refine Go.s (XS.aloadN X4.here hx rfl (hb hby dtb1_17) rfl rfl) ?_
  refine Go.s (XS.iloadN X4.here hx rfl (hb hby dtb1_18) rfl) ?_
  refine Go.s (own_caload X4 hx hZ rfl V_a (by decide) (by decide) (v := (.int c3)) rfl (g := (mkF m 19 #[.val (.ref a), .val (.int 3), .val (.int 4), .val (.ref b1), .val (.int 3)] [(.int 3), (.ref a), (.int 3), (.ref b1)])) rfl rfl (hb hby dtb1_19) _) ?_
  show Go p e below s _ _ _ (T4.setTop (mkF m 20 #[.val (.ref a), .val (.int 3), .val (.int 4), .val (.ref b1), .val (.int 3)] [(.int c3), (.int 3), (.ref b1)]))
  obtain ⟨_, _, ⟨T5, L5, k5, n5⟩, -, X5, ⟨Lc5, hQ5, l5, y5, z5⟩, st5⟩ := Jvm.LawKit.callS X4 hx (y := mN1) hown (mvT hZ (own_w hw 118 rfl)) (mvT hZ (own_w hw 119 rfl)) (mvT hZ (own_w hw 70 rfl)) (mvT hZ (own_w hw 120 rfl)) (by decide) (backOf (W := 0) (rmpc l Z a0 hw [] b1 kb1 c3 (8 : Int32) [(.int (StrChars.lo8 c0)), (.int (StrChars.hi8 c0)), (.int (StrChars.lo8 c1)), (.int (StrChars.hi8 c1)), (.int (StrChars.lo8 c2)), (.int (StrChars.hi8 c2)), (.int 0), (.int 0)] (3 : Int32) (6 : Int32) 6 T4.heap n0 O4 V_b1 (by decide) (by decide) (by decide) (by decide) (by decide) (by decide) (by decide) (Nat.le_of_ble_eq_true rfl) g_b1 SA SHI SLO) hZ (own_w hw 120 rfl) (own_w hw 70 rfl) (by decide) (by decide)) (g := (mkF m 20 #[.val (.ref a), .val (.int 3), .val (.int 4), .val (.ref b1), .val (.int 3)] [(.int c3), (.int 3), (.ref b1)])) rfl (by rw [hml]; rfl) (argsL := [(.ref b1), (.int 3), (.int c3)]) (rest := []) (lenOf pdtb1_1 rfl) rfl (by show 2 * 0 + _ ≤ _; exact Nat.le_of_eq rfl) (hb hby dtb1_20) (fun _ _ => ⟨rfl, rfl, (by decide : 1 + 0 ≤ _), (by decide : 8 + 0 ≤ _)⟩)
  dsimp only [Pt.U, Pt.locs, Pt.cells, Pt.slots] at X5 l5 y5 z5 st5 hQ5
  subst y5 z5
  obtain ⟨rfl, Nc5, Kc5, NV⟩ := hQ5
  have N5 : Fr n0 L5 := by rw [l5]; exact Fr.app N4 Nc5
  have V_a := V_a.keep Kc5 (ninS ne_a_b1 nin0)
  have O5 := O4.keep Kc5 (allS g_b1 all0)
  have K5 := K4.trans Kc5 (allS (Or.inr sz_b1) all0)
  have V_b1 : Arv Z T5.heap b1 kb1 .byte (8 : Int32) [(.int (StrChars.lo8 c0)), (.int (StrChars.hi8 c0)), (.int (StrChars.lo8 c1)), (.int (StrChars.hi8 c1)), (.int (StrChars.lo8 c2)), (.int (StrChars.hi8 c2)), (.int (StrChars.lo8 c3)), (.int (StrChars.hi8 c3))] (.int 0) := NV
  refine Go.st st5 ?_
  show Go p e below s _ _ _ (T5.setTop (mkF m 23 #[.val (.ref a), .val (.int 3), .val (.int 4), .val (.ref b1), .val (.int 3)] []))
  refine Go.s (XT.iincV X5.here hx rfl (1 : Int32) (hb hby dtb1_23) rfl rfl (l' := #[.val (.ref a), .val (.int 4), .val (.int 4), .val (.ref b1), .val (.int 3)]) rfl) ?_
  refine Go.s (XT.iincV X5.here hx rfl (1 : Int32) (hb hby dtb1_26) rfl rfl (l' := #[.val (.ref a), .val (.int 4), .val (.int 4), .val (.ref b1), .val (.int 4)]) rfl) ?_
  refine Go.s (XS.goto X5.here hx rfl (pc0 := 29) (pc' := 8) rfl (hb hby dtb1_29) (by decide) (by decide)) ?_
  refine Go.s (XS.iload X5.here hx rfl (hb hby dtb1_8) rfl) ?_
  refine Go.s (XS.iloadN X5.here hx rfl (hb hby dtb1_10) rfl) ?_
  refine Go.s (XS.icmpYes X5.here hx rfl (pc0 := 11) (pc' := 32) rfl (hb hby dtb1_11) rfl (by decide) (by decide) (by decide)) ?_
  show Go p e below s _ _ _ (T5.setTop (mkF m 32 #[.val (.ref a), .val (.int 4), .val (.int 4), .val (.ref b1), .val (.int 4)] []))
  refine Go.s (XS.aloadN X5.here hx rfl (hb hby dtb1_32) rfl rfl) ?_
  exact Go.ret X5 hlk (some (.ref b1)) (fun h => by rw [Bd.returns] at h; cases h) (by exact ⟨b1, _, rfl, N5, K5, g_b1, sz_b1, V_b1⟩) (by decide) (by decide) (fun fs hr => retOut X5 hx Bd.returns rfl (Or.inr (Or.inr (Or.inr (Or.inr ⟨rfl, rfl, rfl⟩)))) (hb hby dtb1_33) hr)
 obtain ⟨s2, o2, st2, r2⟩ := G
 exact ⟨s2, o2, castTop (eftb4 m a (0 : Int32) (4 : Int32)) st2, r2⟩
theorem pnco4 : plainName "java/lang/StringUTF16" = true := by first | (simp [plainName, overriddenIn]; done) | decide +kernel
theorem efco4 (m : MethodId) (x0 : Addr) (x1 : Int32) (x2 : Int32) : entryFrame m #[(.ref x0), (.int x1), (.int x2)] 6 = mkF m 0 #[.val (.ref x0), .val (.int x1), .val (.int x2), .unset, .unset, .unset] [] := by first | (simp [entryFrame, mkF, argsToLocals, Value.category, maxLocals]; done) | rfl
def Qco4 (Z : State) (a : Addr) (ka : ClassId) (c0 : Int32) (c1 : Int32) (c2 : Int32) (c3 : Int32) (h0 : Heap) (n0 : Nat) (v : Option Value) (h : Heap) (L : List Loc) : Prop := ∃ (t : Addr) (kt : ClassId) (cd N : Int32) (vs : List Value), v = some (.ref t) ∧ Fr n0 L ∧ Keep h0 h [] ∧ n0 ≤ t ∧ h0.size ≤ t ∧ Arv Z h t kt .byte N vs (.int 0) ∧ StrChars.Road.CodA ([c0, c1, c2, c3] : List Int32) cd N vs
theorem rmco4 (l : Launch) (Z : State) (a0 : Array Value) (hw : ∀ d ∈ tables_1, d.before a0 Z = true) (ws : List Jvm.Cond) (a : Addr) (ka : ClassId) (c0 : Int32) (c1 : Int32) (c2 : Int32) (c3 : Int32) (h0 : Heap) (n0 : Nat) (O0 : Old Z n0 h0) (V_a : Arv Z h0 a ka .char (4 : Int32) [(.int c0), (.int c1), (.int c2), (.int c3)] (.int 0)) (hc0 : ¬ c0 < 0 ∧ ¬ (65535 : Int32) < c0) (hc1 : ¬ c1 < 0 ∧ ¬ (65535 : Int32) < c1) (hc2 : ¬ c2 < 0 ∧ ¬ (65535 : Int32) < c2) (hc3 : ¬ c3 < 0 ∧ ¬ (65535 : Int32) < c3) (SA : Sta Z Z.heap "java/lang/StringUTF16" "$assertionsDisabled" "Z" (.int 1)) (SHI : Sta Z Z.heap "java/lang/StringUTF16" "HI_BYTE_SHIFT" "I" (.int 0)) (SLO : Sta Z Z.heap "java/lang/StringUTF16" "LO_BYTE_SHIFT" "I" (.int 8)) :
  MetFree l mN6 (head1 (Jvm.Cond.code mN6 jdk_52_method_16_code 6 (some (.array .byte)) :: ws) ({ frames := 3, cells := 2, slots := 12, locals := 40 } : Room)) (fun A_ U_ => A_ = #[(.ref a), (.int 0), (.int 4)] ∧ Z.Warmed39 U_.vm ∧ U_.heap = h0) (fun _ _ _ _ _ => True) (fun _ U o U' => ∃ v L, o = .returned v ∧ Qco4 Z a ka c0 c1 c2 c3 h0 n0 v U'.heap L ∧ FrameEnd U o U' L ({ frames := 3, cells := 2, slots := 12, locals := 40 } : Room).cells ({ frames := 3, cells := 2, slots := 12, locals := 40 } : Room).slots) := by
 refine MetFree.of_bodySF (plainFor_of_name pnco4) hisR ?_
 intro p e s m args below meth cd s₁ Bd hml0 hP hK
 obtain ⟨rfl, hZ, hh⟩ := hP
 have hx := Bd.exec
 have hby := Bd.bytes
 have hlk : meth.locks = false := BodyLoose.notSynchronized Bd
 have hml : cd.maxLocals = 6 := hml0
 have hown : s.vm.findClass "java/lang/StringUTF16" = some m.cls := findClass_of_methodNamed Bd.named
 have X0 : Stand p l e ({ frames := 3, cells := 2, slots := 12, locals := 40 } : Room) s m #[(.ref a), (.int 0), (.int 4)] below meth cd s₁ [] 0 0 := Stand.of_body Bd
 have e0 : s₁.heap = h0 := by rw [← hh, Bd.state]; rfl
 have N0 := Fr.nil n0
 have K0 : Keep h0 h0 [] := Keep.refl _ _
 have G : Go p e below s 2 12 (Qco4 Z a ka c0 c1 c2 c3 h0 n0) (s₁.setTop (mkF m 0 #[.val (.ref a), .val (.int 0), .val (.int 4), .unset, .unset, .unset] [])) := by
  refine Go.s (XS.iloadN X0.here hx rfl (hb hby dco1_0) rfl) ?_
  obtain ⟨T1, h1, k1, X1, e1, E1, A1, st1⟩ := newP X0 hx hZ (own_w hw 28 rfl) e0 (g := (mkF m 1 #[.val (.ref a), .val (.int 0), .val (.int 4), .unset, .unset, .unset] [(.int 4)])) rfl (hb hby dco1_1) rfl (by decide) (cap := 4) (by decide) (by decide) (by decide) (by decide)
  obtain ⟨b1, g1⟩ : ∃ z, z = h0.size := ⟨_, rfl⟩
  rw [← g1] at A1 st1
  have g_b1 : n0 ≤ b1 := Nat.le_trans (own_old O0) (Nat.le_of_eq g1.symm)
  have sz_b1 : h0.size ≤ b1 := Nat.le_trans K0.1 (Nat.le_of_eq g1.symm)
  have ne_a_b1 : a ≠ b1 := by rw [g1]; exact Nat.ne_of_lt V_a.lt
  have V_a := V_a.ext E1
  have O1 := O0.ext E1
  have K1 := K0.ext E1
  have V_b1 : Arv Z h1 b1 k1 .byte (4 : Int32) [(.int 0), (.int 0), (.int 0), (.int 0)] (.int 0) := (Arv.new A1 (by decide)).pad (pad_rep [] (.int 0) 4)
  refine Go.st st1 ?_
  show Go p e below s _ _ _ (T1.setTop (mkF m 3 #[.val (.ref a), .val (.int 0), .val (.int 4), .unset, .unset, .unset] [(.ref b1)]))
  refine Go.s (XS.astoreN X1.here hx rfl (hb hby dco1_3) rfl rfl (l' := #[.val (.ref a), .val (.int 0), .val (.int 4), .val (.ref b1), .unset, .unset]) rfl) ?_
  refine Go.s (XS.aloadN X1.here hx rfl (hb hby dco1_4) rfl rfl) ?_
  refine Go.s (XS.iloadN X1.here hx rfl (hb hby dco1_5) rfl) ?_
  refine Go.s (XS.aloadN X1.here hx rfl (hb hby dco1_6) rfl rfl) ?_
  refine Go.s (XS.iconst X1.here hx rfl (hb hby dco1_7)) ?_
  refine Go.s (XS.iloadN X1.here hx rfl (hb hby dco1_8) rfl) ?_
  obtain ⟨v2, _, ⟨T2, L2, k2, n2⟩, -, X2, ⟨Lc2, hQ2, l2, y2, z2⟩, st2⟩ := Jvm.LawKit.callS X1 hx (y := mN3) hown (mvT hZ (own_w hw 72 rfl)) (mvT hZ (own_w hw 73 rfl)) (mvT hZ (own_w hw 70 rfl)) (mvT hZ (own_w hw 74 rfl)) (by decide) (backOf (W := 0) (rmci4 l Z a0 hw [] a ka b1 k1 c0 c1 c2 c3 h1 n0 O1 V_a V_b1 g_b1 ne_a_b1) hZ (own_w hw 74 rfl) (own_w hw 70 rfl) (by decide) (by decide)) (g := (mkF m 9 #[.val (.ref a), .val (.int 0), .val (.int 4), .val (.ref b1), .unset, .unset] [(.int 4), (.int 0), (.ref b1), (.int 0), (.ref a)])) rfl (by rw [hml]; rfl) (argsL := [(.ref a), (.int 0), (.ref b1), (.int 0), (.int 4)]) (rest := []) (lenOf pdco1_0 rfl) rfl (by show 2 * 0 + _ ≤ _; exact Nat.le_of_eq rfl) (hb hby dco1_9) (fun _ _ => ⟨rfl, e1, (by decide : 1 + 0 ≤ _), (by decide : 4 + 0 ≤ _)⟩)
  dsimp only [Pt.U, Pt.locs, Pt.cells, Pt.slots] at X2 l2 y2 z2 st2 hQ2
  subst y2 z2
  obtain ⟨vs2, Nc2, Kc2, NV, hd2⟩ := hQ2
  have N2 : Fr n0 L2 := by rw [l2]; exact Fr.app N0 Nc2
  have V_a := V_a.keep Kc2 (ninS ne_a_b1 nin0)
  have O2 := O1.keep Kc2 (allS g_b1 all0)
  have K2 := K1.trans Kc2 (allS (Or.inr sz_b1) all0)
  have V_b1 : Arv Z T2.heap b1 k1 .byte (4 : Int32) vs2 (.int 0) := NV
  obtain ⟨r2, rfl, hr2⟩ : ∃ r : Int32, v2 = some (.int r) ∧ ((r = (4 : Int32) ∧ vs2 = [(.int (StrChars.lo8 c0)), (.int (StrChars.lo8 c1)), (.int (StrChars.lo8 c2)), (.int (StrChars.lo8 c3))] ∧ ¬ (255 : Int32) < c0 ∧ ¬ (255 : Int32) < c1 ∧ ¬ (255 : Int32) < c2 ∧ ¬ (255 : Int32) < c3) ∨ (∃ (i : Nat) (c : Int32), i < 4 ∧ r = Int32.ofNat i ∧ ([c0, c1, c2, c3] : List Int32).getD i 0 = c ∧ (255 : Int32) < c)) := by
    rcases hd2 with ⟨h_, q_⟩ | ⟨h_, q_⟩ | ⟨h_, q_⟩ | ⟨h_, q_⟩ | ⟨h_, q_⟩
    · exact ⟨_, h_, Or.inl ⟨rfl, q_⟩⟩
    · exact ⟨_, h_, Or.inr ⟨0, _, by decide, rfl, rfl, q_⟩⟩
    · exact ⟨_, h_, Or.inr ⟨1, _, by decide, rfl, rfl, q_⟩⟩
    · exact ⟨_, h_, Or.inr ⟨2, _, by decide, rfl, rfl, q_⟩⟩
    · exact ⟨_, h_, Or.inr ⟨3, _, by decide, rfl, rfl, q_⟩⟩
  refine Go.st st2 ?_
  show Go p e below s _ _ _ (T2.setTop (mkF m 12 #[.val (.ref a), .val (.int 0), .val (.int 4), .val (.ref b1), .unset, .unset] [(.int r2)]))
  rcases hr2 with ⟨rfl, ev, hall⟩ | ⟨i, c, hi, rfl, hc_, hbig⟩
  · rw [ev] at V_b1
    show Go p e below s _ _ _ (T2.setTop (mkF m 12 #[.val (.ref a), .val (.int 0), .val (.int 4), .val (.ref b1), .unset, .unset] [(.int 4)]))
    refine Go.s (XS.istore X2.here hx rfl (hb hby dco1_12) rfl (l' := #[.val (.ref a), .val (.int 0), .val (.int 4), .val (.ref b1), .val (.int 4), .unset]) rfl) ?_
    refine Go.s (XS.iload X2.here hx rfl (hb hby dco1_14) rfl) ?_
    refine Go.s (XS.iloadN X2.here hx rfl (hb hby dco1_16) rfl) ?_
    refine Go.s (XS.icmpYes X2.here hx rfl (pc0 := 17) (pc' := 57) rfl (hb hby dco1_17) rfl (by decide) (by decide) (by decide)) ?_
    show Go p e below s _ _ _ (T2.setTop (mkF m 57 #[.val (.ref a), .val (.int 0), .val (.int 4), .val (.ref b1), .val (.int 4), .unset] []))
    refine Go.s (XS.aloadN X2.here hx rfl (hb hby dco1_57) rfl rfl) ?_
    exact Go.ret X2 hlk (some (.ref b1)) (fun h => by rw [Bd.returns] at h; cases h) (by exact ⟨b1, _, _, _, _, rfl, N2, K2, g_b1, sz_b1, V_b1, Or.inl ⟨rfl, rfl, rfl, by intro c hc; simp only [List.mem_cons, List.not_mem_nil, or_false] at hc; rcases hc with rfl | rfl | rfl | rfl; exact hall.1; exact hall.2.1; exact hall.2.2.1; exact hall.2.2.2⟩⟩) (by decide) (by decide) (fun fs hr => retOut X2 hx Bd.returns rfl (Or.inr (Or.inr (Or.inr (Or.inr ⟨rfl, rfl, rfl⟩)))) (hb hby dco1_58) hr)
  · have w := own_wix i 4 hi (by decide)
    have hv0 : List.getD ([(.int (StrChars.lo8 c0)), (.int (StrChars.hi8 c0)), (.int (StrChars.lo8 c1)), (.int (StrChars.hi8 c1)), (.int (StrChars.lo8 c2)), (.int (StrChars.hi8 c2)), (.int (StrChars.lo8 c3)), (.int (StrChars.hi8 c3))] : List Value) (2 * i) (.int 0) = (.int (StrChars.lo8 c)) := by rw [← hc_]; exact StrChars.Road.wide_lo _ [c0, c1, c2, c3] i hi
    have hv1 : List.getD ([(.int (StrChars.lo8 c0)), (.int (StrChars.hi8 c0)), (.int (StrChars.lo8 c1)), (.int (StrChars.hi8 c1)), (.int (StrChars.lo8 c2)), (.int (StrChars.hi8 c2)), (.int (StrChars.lo8 c3)), (.int (StrChars.hi8 c3))] : List Value) (2 * i + 1) (.int 0) = (.int (StrChars.hi8 c)) := by rw [← hc_]; exact StrChars.Road.wide_hi _ [c0, c1, c2, c3] i hi
    have hcc : ¬ c < 0 ∧ ¬ (65535 : Int32) < c := by rw [← hc_]; exact own_hbD (own_hb4 hc0 hc1 hc2 hc3) i
    show Go p e below s _ _ _ (T2.setTop (mkF m 12 #[.val (.ref a), .val (.int 0), .val (.int 4), .val (.ref b1), .unset, .unset] [(.int (Int32.ofNat i))]))
    refine Go.s (XS.istore X2.here hx rfl (hb hby dco1_12) rfl (l' := #[.val (.ref a), .val (.int 0), .val (.int 4), .val (.ref b1), .val (.int (Int32.ofNat i)), .unset]) rfl) ?_
    refine Go.s (XS.iload X2.here hx rfl (hb hby dco1_14) rfl) ?_
    refine Go.s (XS.iloadN X2.here hx rfl (hb hby dco1_16) rfl) ?_
    refine Go.s (XS.icmpNo X2.here hx rfl (hb hby dco1_17) rfl (XT.ii_eq_f (own_ofne hi (by decide)))) ?_
    show Go p e below s _ _ _ (T2.setTop (mkF m 20 #[.val (.ref a), .val (.int 0), .val (.int 4), .val (.ref b1), .val (.int (Int32.ofNat i)), .unset] []))
    refine Go.s (XS.aloadN X2.here hx rfl (hb hby dco1_20) rfl rfl) ?_
    refine Go.s (XS.iloadN X2.here hx rfl (hb hby dco1_21) rfl) ?_
    refine Go.s (XS.iloadN X2.here hx rfl (hb hby dco1_22) rfl) ?_
    obtain ⟨_, _, ⟨T3, L3, k3, n3⟩, -, X3, ⟨Lc3, hQ3, l3, y3, z3⟩, st3⟩ := Jvm.LawKit.callS X2 hx (y := mN5) hown (mvT hZ (own_w hw 108 rfl)) (mvT hZ (own_w hw 109 rfl)) (mvT hZ (own_w hw 70 rfl)) (mvT hZ (own_w hw 110 rfl)) (by decide) (backOf (W := 0) (rmtb4 l Z a0 hw [] a ka c0 c1 c2 c3 T2.heap n0 O2 V_a SA SHI SLO) hZ (own_w hw 110 rfl) (own_w hw 70 rfl) (by decide) (by decide)) (g := (mkF m 23 #[.val (.ref a), .val (.int 0), .val (.int 4), .val (.ref b1), .val (.int (Int32.ofNat i)), .unset] [(.int 4), (.int 0), (.ref a)])) rfl (by rw [hml]; rfl) (argsL := [(.ref a), (.int 0), (.int 4)]) (rest := []) (lenOf pdco1_1 rfl) rfl (by show 2 * 0 + _ ≤ _; exact Nat.le_of_eq rfl) (hb hby dco1_23) (fun _ _ => ⟨rfl, rfl, (by decide : 1 + 1 ≤ _), (by decide : 4 + 8 ≤ _)⟩)
    dsimp only [Pt.U, Pt.locs, Pt.cells, Pt.slots] at X3 l3 y3 z3 st3 hQ3
    subst y3 z3
    obtain ⟨b3, kb3, rfl, Nc3, Kc3, gb3, szb3, NV⟩ := hQ3
    have N3 : Fr n0 L3 := by rw [l3]; exact Fr.app N2 Nc3
    have g_b3 : n0 ≤ b3 := gb3
    have sz_b3 : h0.size ≤ b3 := Nat.le_trans K2.1 szb3
    have ne_a_b3 : a ≠ b3 := Nat.ne_of_lt (Nat.lt_of_lt_of_le V_a.lt szb3)
    have ne_b1_b3 : b1 ≠ b3 := Nat.ne_of_lt (Nat.lt_of_lt_of_le V_b1.lt szb3)
    have V_a := V_a.keep Kc3 nin0
    have V_b1 := V_b1.keep Kc3 nin0
    have O3 := O2.keep Kc3 all0
    have K3 := K2.trans Kc3 all0
    have V_b3 : Arv Z T3.heap b3 kb3 .byte (8 : Int32) [(.int (StrChars.lo8 c0)), (.int (StrChars.hi8 c0)), (.int (StrChars.lo8 c1)), (.int (StrChars.hi8 c1)), (.int (StrChars.lo8 c2)), (.int (StrChars.hi8 c2)), (.int (StrChars.lo8 c3)), (.int (StrChars.hi8 c3))] (.int 0) := NV
    refine Go.st st3 ?_
    show Go p e below s _ _ _ (T3.setTop (mkF m 26 #[.val (.ref a), .val (.int 0), .val (.int 4), .val (.ref b1), .val (.int (Int32.ofNat i)), .unset] [(.ref b3)]))
    refine Go.s (XS.astore X3.here hx rfl (hb hby dco1_26) rfl rfl (l' := #[.val (.ref a), .val (.int 0), .val (.int 4), .val (.ref b1), .val (.int (Int32.ofNat i)), .val (.ref b3)]) rfl) ?_
    refine Go.s (XS.aload X3.here hx rfl (hb hby dco1_28) rfl rfl) ?_
    refine Go.s (XS.iload X3.here hx rfl (hb hby dco1_30) rfl) ?_
    obtain ⟨_, _, ⟨T4, L4, k4, n4⟩, -, X4, ⟨Lc4, hQ4, l4, y4, z4⟩, st4⟩ := Jvm.LawKit.callS X3 hx (y := mN2) hown (mvT hZ (own_w hw 124 rfl)) (mvT hZ (own_w hw 125 rfl)) (mvT hZ (own_w hw 70 rfl)) (mvT hZ (own_w hw 126 rfl)) (by decide) (backOf (W := 0) (rmgc l Z a0 hw [] b3 kb3 c (8 : Int32) [(.int (StrChars.lo8 c0)), (.int (StrChars.hi8 c0)), (.int (StrChars.lo8 c1)), (.int (StrChars.hi8 c1)), (.int (StrChars.lo8 c2)), (.int (StrChars.hi8 c2)), (.int (StrChars.lo8 c3)), (.int (StrChars.hi8 c3))] (Int32.ofNat i) (Int32.ofNat (2 * i)) (2 * i) T3.heap n0 O3 V_b3 w.1 w.2.1 w.2.2.1 w.2.2.2.1 w.2.2.2.2.1 w.2.2.2.2.2.1 w.2.2.2.2.2.2.1 hv0 hv1 hcc SA SHI SLO) hZ (own_w hw 126 rfl) (own_w hw 70 rfl) (by decide) (by decide)) (g := (mkF m 32 #[.val (.ref a), .val (.int 0), .val (.int 4), .val (.ref b1), .val (.int (Int32.ofNat i)), .val (.ref b3)] [(.int (Int32.ofNat i)), (.ref b3)])) rfl (by rw [hml]; rfl) (argsL := [(.ref b3), (.int (Int32.ofNat i))]) (rest := []) (lenOf pdco1_2 rfl) rfl (by show 2 * 0 + _ ≤ _; exact Nat.le_of_eq rfl) (hb hby dco1_32) (fun _ _ => ⟨rfl, rfl, (by decide : 2 + 0 ≤ _), (by decide : 12 + 0 ≤ _)⟩)
    dsimp only [Pt.U, Pt.locs, Pt.cells, Pt.slots] at X4 l4 y4 z4 st4 hQ4
    subst y4 z4
    obtain ⟨rfl, Nc4, e4⟩ := hQ4
    have N4 : Fr n0 L4 := by rw [l4]; exact Fr.app N3 Nc4
    refine Go.st st4 ?_
    show Go p e below s _ _ _ (T4.setTop (mkF m 35 #[.val (.ref a), .val (.int 0), .val (.int 4), .val (.ref b1), .val (.int (Int32.ofNat i)), .val (.ref b3)] [(.int c)]))
    refine Go.s (XS.sipush X4.here hx rfl (hb hby dco1_35)) ?_
    refine Go.s (XS.icmpYes X4.here hx rfl (pc0 := 38) (pc' := 54) rfl (hb hby dco1_38) rfl (XT.ii_gt_t hbig) (by decide) (by decide)) ?_
    show Go p e below s _ _ _ (T4.setTop (mkF m 54 #[.val (.ref a), .val (.int 0), .val (.int 4), .val (.ref b1), .val (.int (Int32.ofNat i)), .val (.ref b3)] []))
    refine Go.s (XS.aload X4.here hx rfl (hb hby dco1_54) rfl rfl) ?_
    exact Go.ret X4 hlk (some (.ref b3)) (fun h => by rw [Bd.returns] at h; cases h) (by rw [e4]; exact ⟨b3, _, _, _, _, rfl, N4, K3, g_b3, sz_b3, V_b3, Or.inr ⟨rfl, rfl, rfl, c, own_memD hi hc_, hbig⟩⟩) (by decide) (by decide) (fun fs hr => retOut X4 hx Bd.returns rfl (Or.inr (Or.inr (Or.inr (Or.inr ⟨rfl, rfl, rfl⟩)))) (hb hby dco1_56) hr)
 obtain ⟨s2, o2, st2, r2⟩ := G
 exact ⟨s2, o2, castTop (efco4 m a (0 : Int32) (4 : Int32)) st2, r2⟩
def oCf (n N : Int32) : Int32 := nar .byte ((XT.ushr (n - N) (31 : Int32)).toInt8.toInt32)
theorem dcf_0 : decode jdk_52_method_15_code 0 = .ok (.iload_n 1, 1) := by decide +kernel
theorem dcf_1 : decode jdk_52_method_15_code 1 = .ok (.aload_n 0, 1) := by decide +kernel
theorem dcf_2 : decode jdk_52_method_15_code 2 = .ok (.arraylength, 1) := by decide +kernel
theorem dcf_3 : decode jdk_52_method_15_code 3 = .ok (.isub, 1) := by decide +kernel
theorem dcf_4 : decode jdk_52_method_15_code 4 = .ok (.bipush 31, 2) := by decide +kernel
theorem dcf_6 : decode jdk_52_method_15_code 6 = .ok (.iushr, 1) := by decide +kernel
theorem dcf_7 : decode jdk_52_method_15_code 7 = .ok (.i2b, 1) := by decide +kernel
theorem dcf_8 : decode jdk_52_method_15_code 8 = .ok (.ireturn, 1) := by decide +kernel
theorem pncf : plainName "java/lang/StringUTF16" = true := by first | (simp [plainName, overriddenIn]; done) | decide +kernel
theorem efcf (m : MethodId) (x0 : Addr) (x1 : Int32) : entryFrame m #[(.ref x0), (.int x1)] 2 = mkF m 0 #[.val (.ref x0), .val (.int x1)] [] := by first | (simp [entryFrame, mkF, argsToLocals, Value.category, maxLocals]; done) | rfl
def Qcf (Z : State) (t : Addr) (kt : ClassId) (n : Int32) (N : Int32) (vs : List Value) (h0 : Heap) (n0 : Nat) (v : Option Value) (h : Heap) (L : List Loc) : Prop := v = some (.int (oCf n N)) ∧ Fr n0 L ∧ h = h0
theorem rmcf (l : Launch) (Z : State) (a0 : Array Value) (hw : ∀ d ∈ tables_1, d.before a0 Z = true) (ws : List Jvm.Cond) (t : Addr) (kt : ClassId) (n : Int32) (N : Int32) (vs : List Value) (h0 : Heap) (n0 : Nat) (O0 : Old Z n0 h0) (V_t : Arv Z h0 t kt .byte N vs (.int 0)) :
  MetFree l mN7 (head1 (Jvm.Cond.code mN7 jdk_52_method_15_code 2 (some .byte) :: ws) ({ frames := 0, cells := 0, slots := 0, locals := 0 } : Room)) (fun A_ U_ => A_ = #[(.ref t), (.int n)] ∧ Z.Warmed39 U_.vm ∧ U_.heap = h0) (fun _ _ _ _ _ => True) (fun _ U o U' => ∃ v L, o = .returned v ∧ Qcf Z t kt n N vs h0 n0 v U'.heap L ∧ FrameEnd U o U' L ({ frames := 0, cells := 0, slots := 0, locals := 0 } : Room).cells ({ frames := 0, cells := 0, slots := 0, locals := 0 } : Room).slots) := by
 refine MetFree.of_bodySF (plainFor_of_name pncf) hisR ?_
 intro p e s m args below meth cd s₁ Bd hml0 hP hK
 obtain ⟨rfl, hZ, hh⟩ := hP
 have hx := Bd.exec
 have hby := Bd.bytes
 have hlk : meth.locks = false := BodyLoose.notSynchronized Bd
 have hml : cd.maxLocals = 2 := hml0
 have hown : s.vm.findClass "java/lang/StringUTF16" = some m.cls := findClass_of_methodNamed Bd.named
 have X0 : Stand p l e ({ frames := 0, cells := 0, slots := 0, locals := 0 } : Room) s m #[(.ref t), (.int n)] below meth cd s₁ [] 0 0 := Stand.of_body Bd
 have e0 : s₁.heap = h0 := by rw [← hh, Bd.state]; rfl
 have N0 := Fr.nil n0
 have G : Go p e below s 0 0 (Qcf Z t kt n N vs h0 n0) (s₁.setTop (mkF m 0 #[.val (.ref t), .val (.int n)] [])) := by
  refine Go.s (XS.iloadN X0.here hx rfl (hb hby dcf_0) rfl) ?_
  refine Go.s (XS.aloadN X0.here hx rfl (hb hby dcf_1) rfl rfl) ?_
  refine Go.s (own_len X0 hx hZ e0 V_t (g := (mkF m 2 #[.val (.ref t), .val (.int n)] [(.ref t), (.int n)])) rfl rfl (hb hby dcf_2) _) ?_
  show Go p e below s _ _ _ (s₁.setTop (mkF m 3 #[.val (.ref t), .val (.int n)] [(.int N), (.int n)]))
  refine Go.s (XS.isub X0.here hx rfl (hb hby dcf_3) rfl) ?_
  refine Go.s (XS.bipush X0.here hx rfl (hb hby dcf_4)) ?_
  refine Go.s (XT.iushr X0.here hx rfl (hb hby dcf_6) rfl) ?_
  show Go p e below s _ _ _ (s₁.setTop (mkF m 7 #[.val (.ref t), .val (.int n)] [(.int (XT.ushr (n - N) (31 : Int32)))]))
  refine Go.s (XT.i2b X0.here hx rfl (hb hby dcf_7) rfl) ?_
  show Go p e below s _ _ _ (s₁.setTop (mkF m 8 #[.val (.ref t), .val (.int n)] [(.int ((XT.ushr (n - N) (31 : Int32)).toInt8.toInt32))]))
  exact Go.ret X0 hlk (some (.int (nar .byte ((XT.ushr (n - N) (31 : Int32)).toInt8.toInt32)))) (fun h => by rw [Bd.returns] at h; cases h) (by rw [e0]; exact ⟨rfl, N0, rfl⟩) (by decide) (by decide) (fun fs hr => retN X0 hx (t := .byte) Bd.returns (by simp) (hb hby dcf_8) hr)
 obtain ⟨s2, o2, st2, r2⟩ := G
 exact ⟨s2, o2, castTop (efcf m t n) st2, r2⟩
theorem div1_0 : decode jdk_42_method_149_code 0 = .ok (.aload_n 0, 1) := by decide +kernel
theorem div1_1 : decode jdk_42_method_149_code 1 = .ok (.invokespecial 1, 3) := by decide +kernel
theorem div1_4 : decode jdk_42_method_149_code 4 = .ok (.iload_n 3, 1) := by decide +kernel
theorem div1_5 : decode jdk_42_method_149_code 5 = .ok (.ifCond .ne 22, 3) := by decide +kernel
theorem div1_27 : decode jdk_42_method_149_code 27 = .ok (.getstatic 38, 3) := by decide +kernel
theorem div1_30 : decode jdk_42_method_149_code 30 = .ok (.ifCond .eq 28, 3) := by decide +kernel
theorem div1_33 : decode jdk_42_method_149_code 33 = .ok (.aload_n 1, 1) := by decide +kernel
theorem div1_34 : decode jdk_42_method_149_code 34 = .ok (.iload_n 2, 1) := by decide +kernel
theorem div1_35 : decode jdk_42_method_149_code 35 = .ok (.iload_n 3, 1) := by decide +kernel
theorem div1_36 : decode jdk_42_method_149_code 36 = .ok (.invokestatic 177, 3) := by decide +kernel
theorem div1_39 : decode jdk_42_method_149_code 39 = .ok (.astore 5, 2) := by decide +kernel
theorem div1_41 : decode jdk_42_method_149_code 41 = .ok (.aload_n 0, 1) := by decide +kernel
theorem div1_42 : decode jdk_42_method_149_code 42 = .ok (.aload 5, 2) := by decide +kernel
theorem div1_44 : decode jdk_42_method_149_code 44 = .ok (.iload_n 3, 1) := by decide +kernel
theorem div1_45 : decode jdk_42_method_149_code 45 = .ok (.invokestatic 47, 3) := by decide +kernel
theorem div1_48 : decode jdk_42_method_149_code 48 = .ok (.putfield 15, 3) := by decide +kernel
theorem div1_51 : decode jdk_42_method_149_code 51 = .ok (.aload_n 0, 1) := by decide +kernel
theorem div1_52 : decode jdk_42_method_149_code 52 = .ok (.aload 5, 2) := by decide +kernel
theorem div1_54 : decode jdk_42_method_149_code 54 = .ok (.putfield 9, 3) := by decide +kernel
theorem div1_57 : decode jdk_42_method_149_code 57 = .ok (.return_, 1) := by decide +kernel
theorem pdiv1_0 : parseMethodDescriptor "([BI)B" = some ⟨[(.array .byte), .int], some .byte⟩ := by decide +kernel
theorem pniv1 : plainName "java/lang/String" = true := by first | (simp [plainName, overriddenIn]; done) | decide +kernel
theorem efiv1 (m : MethodId) (x0 : Addr) (x1 : Addr) (x2 : Int32) (x3 : Int32) : entryFrame m #[(.ref x0), (.ref x1), (.int x2), (.int x3), .null] 6 = mkF m 0 #[.val (.ref x0), .val (.ref x1), .val (.int x2), .val (.int x3), .val .null, .unset] [] := by first | (simp [entryFrame, mkF, argsToLocals, Value.category, maxLocals]; done) | rfl
def Qiv1 (Z : State) (x : Addr) (a : Addr) (ka : ClassId) (zc : Int32) (c0 : Int32) (h0 : Heap) (n0 : Nat) (v : Option Value) (h : Heap) (L : List Loc) : Prop := v = none ∧ Fr n0 L ∧ Keep h0 h [x] ∧ ∃ (t : Addr) (kt : ClassId) (cd N : Int32) (vs : List Value), Exa Z h x "java/lang/String" ∧ Fld Z h x "java/lang/String" "coder" "B" (.int cd) ∧ Fld Z h x "java/lang/String" "value" "[B" (.ref t) ∧ Arv Z h t kt .byte N vs (.int 0) ∧ StrChars.Road.CodA ([c0] : List Int32) cd N vs
theorem rmiv1 (l : Launch) (Z : State) (a0 : Array Value) (hw : ∀ d ∈ tables_1, d.before a0 Z = true) (ws : List Jvm.Cond) (x : Addr) (a : Addr) (ka : ClassId) (zc : Int32) (c0 : Int32) (h0 : Heap) (n0 : Nat) (O0 : Old Z n0 h0) (E_x : Exa Z h0 x "java/lang/String") (F_x_coder : Fld Z h0 x "java/lang/String" "coder" "B" (.int 0)) (F_x_value : Fld Z h0 x "java/lang/String" "value" "[B" .null) (V_a : Arv Z h0 a ka .char (1 : Int32) [(.int c0)] (.int 0)) (gx : n0 ≤ x) (nax : a ≠ x) (hc0 : ¬ c0 < 0 ∧ ¬ (65535 : Int32) < c0) (SA : Sta Z Z.heap "java/lang/StringUTF16" "$assertionsDisabled" "Z" (.int 1)) (SHI : Sta Z Z.heap "java/lang/StringUTF16" "HI_BYTE_SHIFT" "I" (.int 0)) (SLO : Sta Z Z.heap "java/lang/StringUTF16" "LO_BYTE_SHIFT" "I" (.int 8)) (SC : Sta Z Z.heap "java/lang/String" "COMPACT_STRINGS" "Z" (.int zc)) (hcs : ¬ zc = 0) :
  MetFree l mN8 (head1 (Jvm.Cond.code mN8 jdk_42_method_149_code 6 none :: ws) ({ frames := 4, cells := 2, slots := 3, locals := 57 } : Room)) (fun A_ U_ => A_ = #[(.ref x), (.ref a), (.int 0), (.int 1), .null] ∧ Z.Warmed39 U_.vm ∧ U_.heap = h0) (fun _ _ _ _ _ => True) (fun _ U o U' => ∃ v L, o = .returned v ∧ Qiv1 Z x a ka zc c0 h0 n0 v U'.heap L ∧ FrameEnd U o U' L ({ frames := 4, cells := 2, slots := 3, locals := 57 } : Room).cells ({ frames := 4, cells := 2, slots := 3, locals := 57 } : Room).slots) := by
 refine MetFree.of_bodySF (plainFor_of_name pniv1) hisR ?_
 intro p e s m args below meth cd s₁ Bd hml0 hP hK
 obtain ⟨rfl, hZ, hh⟩ := hP
 have hx := Bd.exec
 have hby := Bd.bytes
 have hlk : meth.locks = false := BodyLoose.notSynchronized Bd
 have hml : cd.maxLocals = 6 := hml0
 have hown : s.vm.findClass "java/lang/String" = some m.cls := findClass_of_methodNamed Bd.named
 have hnm := (name_of_methodNamed Bd.named Bd.method).1
 have X0 : Stand p l e ({ frames := 4, cells := 2, slots := 3, locals := 57 } : Room) s m #[(.ref x), (.ref a), (.int 0), (.int 1), .null] below meth cd s₁ [] 0 0 := Stand.of_body Bd
 have e0 : s₁.heap = h0 := by rw [← hh, Bd.state]; rfl
 have N0 := Fr.nil n0
 have K0 : Keep h0 h0 [x] := Keep.refl _ _
 have G : Go p e below s 2 3 (Qiv1 Z x a ka zc c0 h0 n0) (s₁.setTop (mkF m 0 #[.val (.ref x), .val (.ref a), .val (.int 0), .val (.int 1), .val .null, .unset] [])) := by
  refine Go.s (XS.aloadN X0.here hx rfl (hb hby div1_0) rfl rfl) ?_
  obtain ⟨T1, X1, e1, st1⟩ := initO X0 hx hZ hown (own_w hw 24 rfl) (own_w hw 25 rfl) (own_w hw 26 rfl) e0 (g := (mkF m 1 #[.val (.ref x), .val (.ref a), .val (.int 0), .val (.int 1), .val .null, .unset] [(.ref x)])) rfl (by rw [hml]; rfl) rfl (hb hby div1_1) (by decide) (W := 0) (by show 2 * 0 + _ ≤ _; exact Nat.le_of_eq rfl) (by decide)
  refine Go.st st1 ?_
  show Go p e below s _ _ _ (T1.setTop (mkF m 4 #[.val (.ref x), .val (.ref a), .val (.int 0), .val (.int 1), .val .null, .unset] []))
  refine Go.s (XS.iloadN X1.here hx rfl (hb hby div1_4) rfl) ?_
  refine Go.s (XS.ifYes X1.here hx rfl (pc0 := 5) (pc' := 27) rfl (hb hby div1_5) rfl (by decide) (by decide) (by decide)) ?_
  show Go p e below s _ _ _ (T1.setTop (mkF m 27 #[.val (.ref x), .val (.ref a), .val (.int 0), .val (.int 1), .val .null, .unset] []))
  obtain ⟨T2, X2, e2, st2⟩ := getS X1 hx hZ hown (host := "") (own_w hw 52 rfl) Via.refl e1 (SC.ext O0.2) (g := (mkF m 27 #[.val (.ref x), .val (.ref a), .val (.int 0), .val (.int 1), .val .null, .unset] [])) rfl (hb hby div1_27)
  refine Go.st st2 ?_
  show Go p e below s _ _ _ (T2.setTop (mkF m 30 #[.val (.ref x), .val (.ref a), .val (.int 0), .val (.int 1), .val .null, .unset] [(.int zc)]))
  refine Go.s (XS.ifNo X2.here hx rfl (hb hby div1_30) rfl (XT.i0_eq_f hcs)) ?_
  show Go p e below s _ _ _ (T2.setTop (mkF m 33 #[.val (.ref x), .val (.ref a), .val (.int 0), .val (.int 1), .val .null, .unset] []))
  refine Go.s (XS.aloadN X2.here hx rfl (hb hby div1_33) rfl rfl) ?_
  refine Go.s (XS.iloadN X2.here hx rfl (hb hby div1_34) rfl) ?_
  refine Go.s (XS.iloadN X2.here hx rfl (hb hby div1_35) rfl) ?_
  obtain ⟨_, _, ⟨T3, L3, k3, n3⟩, -, X3, ⟨Lc3, hQ3, l3, y3, z3⟩, st3⟩ := Jvm.LawKit.callS X2 hx (y := mN6) hown (mvT hZ (own_w hw 68 rfl)) (mvT hZ (own_w hw 69 rfl)) (mvT hZ (own_w hw 70 rfl)) (mvT hZ (own_w hw 71 rfl)) (by decide) (backOf (W := 0) (rmco1 l Z a0 hw [] a ka c0 h0 n0 O0 V_a hc0 SA SHI SLO) hZ (own_w hw 71 rfl) (own_w hw 70 rfl) (by decide) (by decide)) (g := (mkF m 36 #[.val (.ref x), .val (.ref a), .val (.int 0), .val (.int 1), .val .null, .unset] [(.int 1), (.int 0), (.ref a)])) rfl (by rw [hml]; rfl) (argsL := [(.ref a), (.int 0), (.int 1)]) (rest := []) (lenOf pdco1_1 rfl) rfl (by show 2 * 0 + _ ≤ _; exact Nat.le_of_eq rfl) (hb hby div1_36) (fun _ _ => ⟨rfl, e2, (by decide : 0 + 2 ≤ _), (by decide : 0 + 3 ≤ _)⟩)
  dsimp only [Pt.U, Pt.locs, Pt.cells, Pt.slots] at X3 l3 y3 z3 st3 hQ3
  subst y3 z3
  obtain ⟨t, kt, cd, N, vs, rfl, Nc3, Kc3, gt, szt, V_t, hcd⟩ := hQ3
  have N3 : Fr n0 L3 := by rw [l3]; exact Fr.app N0 Nc3
  have g_t : n0 ≤ t := gt
  have sz_t : h0.size ≤ t := Nat.le_trans K0.1 szt
  have ne_x_t : x ≠ t := Nat.ne_of_lt (Nat.lt_of_lt_of_le E_x.lt szt)
  have ne_a_t : a ≠ t := Nat.ne_of_lt (Nat.lt_of_lt_of_le V_a.lt szt)
  have E_x := E_x.keep Kc3
  have F_x_coder := F_x_coder.keep Kc3 nin0
  have F_x_value := F_x_value.keep Kc3 nin0
  have V_a := V_a.keep Kc3 nin0
  have O3 := O0.keep Kc3 all0
  have K3 := K0.trans Kc3 all0
  refine Go.st st3 ?_
  show Go p e below s _ _ _ (T3.setTop (mkF m 39 #[.val (.ref x), .val (.ref a), .val (.int 0), .val (.int 1), .val .null, .unset] [(.ref t)]))
  rcases hcd with ⟨rfl, rfl, rfl, hxx⟩ | ⟨rfl, rfl, rfl, hxx⟩
  · have V_t : Arv Z T3.heap t kt .byte (1 : Int32) [(.int (StrChars.lo8 c0))] (.int 0) := V_t
    show Go p e below s _ _ _ (T3.setTop (mkF m 39 #[.val (.ref x), .val (.ref a), .val (.int 0), .val (.int 1), .val .null, .unset] [(.ref t)]))
    refine Go.s (XS.astore X3.here hx rfl (hb hby div1_39) rfl rfl (l' := #[.val (.ref x), .val (.ref a), .val (.int 0), .val (.int 1), .val .null, .val (.ref t)]) rfl) ?_
    refine Go.s (XS.aloadN X3.here hx rfl (hb hby div1_41) rfl rfl) ?_
    refine Go.s (XS.aload X3.here hx rfl (hb hby div1_42) rfl rfl) ?_
    refine Go.s (XS.iloadN X3.here hx rfl (hb hby div1_44) rfl) ?_
    obtain ⟨_, _, ⟨T4, L4, k4, n4⟩, -, X4, ⟨Lc4, hQ4, l4, y4, z4⟩, st4⟩ := Jvm.LawKit.callS X3 hx (y := mN7) hown (mvT hZ (own_w hw 75 rfl)) (mvT hZ (own_w hw 76 rfl)) (mvT hZ (own_w hw 70 rfl)) (mvT hZ (own_w hw 77 rfl)) (by decide) (backOf (W := 1) (rmcf l Z a0 hw [] t kt (1 : Int32) (1 : Int32) [(.int (StrChars.lo8 c0))] T3.heap n0 O3 V_t) hZ (own_w hw 77 rfl) (own_w hw 70 rfl) (by decide) (by decide)) (g := (mkF m 45 #[.val (.ref x), .val (.ref a), .val (.int 0), .val (.int 1), .val .null, .val (.ref t)] [(.int 1), (.ref t), (.ref x)])) rfl (by rw [hml]; rfl) (argsL := [(.ref t), (.int 1)]) (rest := [(.ref x)]) (lenOf pdiv1_0 rfl) rfl (by show 2 * 0 + _ ≤ _; exact Nat.le_of_eq rfl) (hb hby div1_45) (fun _ _ => ⟨rfl, rfl, (by decide : 2 + 0 ≤ _), (by decide : 3 + 0 ≤ _)⟩)
    dsimp only [Pt.U, Pt.locs, Pt.cells, Pt.slots] at X4 l4 y4 z4 st4 hQ4
    subst y4 z4
    obtain ⟨rfl, Nc4, e4⟩ := hQ4
    have N4 : Fr n0 L4 := by rw [l4]; exact Fr.app N3 Nc4
    refine Go.st st4 ?_
    show Go p e below s _ _ _ (T4.setTop (mkF m 48 #[.val (.ref x), .val (.ref a), .val (.int 0), .val (.int 1), .val .null, .val (.ref t)] [(.int 0), (.ref x)]))
    obtain ⟨T5, h5, X5, e5, W5, st5⟩ := putF X4 hx hZ hown (host := "") (Or.inl (own_w hw 34 rfl)) Via.refl e4 F_x_coder E_x (Or.inr ⟨(own_w hw 30 rfl), rfl, hnm⟩) (own_w hw 15 rfl) (ty := .byte) (by decide) rfl rfl (g := (mkF m 48 #[.val (.ref x), .val (.ref a), .val (.int 0), .val (.int 1), .val .null, .val (.ref t)] [(.int 0), (.ref x)])) rfl rfl (hb hby div1_48)
    obtain ⟨lc5, X5, N5⟩ := own_gen X5 (Fr.snoc X5 N4 gx)
    have O5 := O3.wr W5 gx
    have K5 := K3.wr W5 (Or.inl (List.mem_of_getElem? (i := 0) rfl))
    have E_x := E_x.wr W5
    have F_x_value := F_x_value.other W5 (Or.inr (slot_ne (Or.inr (own_w hw 29 rfl)) (Or.inr (own_w hw 30 rfl)) (by decide) (by decide : parseFieldDescriptor "[B" = some (.array .byte)) (by decide : parseFieldDescriptor "B" = some .byte)))
    have V_a := V_a.other W5 nax
    have V_t := V_t.other W5 (Ne.symm ne_x_t)
    have F_x_coder := F_x_coder.same W5
    refine Go.st st5 ?_
    show Go p e below s _ _ _ (T5.setTop (mkF m 51 #[.val (.ref x), .val (.ref a), .val (.int 0), .val (.int 1), .val .null, .val (.ref t)] []))
    refine Go.s (XS.aloadN X5.here hx rfl (hb hby div1_51) rfl rfl) ?_
    refine Go.s (XS.aload X5.here hx rfl (hb hby div1_52) rfl rfl) ?_
    obtain ⟨T6, h6, X6, e6, W6, st6⟩ := putF X5 hx hZ hown (host := "") (Or.inl (own_w hw 33 rfl)) Via.refl e5 F_x_value E_x (Or.inr ⟨(own_w hw 29 rfl), rfl, hnm⟩) (own_w hw 15 rfl) (ty := (.array .byte)) (by decide) rfl rfl (g := (mkF m 54 #[.val (.ref x), .val (.ref a), .val (.int 0), .val (.int 1), .val .null, .val (.ref t)] [(.ref t), (.ref x)])) rfl rfl (hb hby div1_54)
    obtain ⟨lc6, X6, N6⟩ := own_gen X6 (Fr.snoc X6 N5 gx)
    have O6 := O5.wr W6 gx
    have K6 := K5.wr W6 (Or.inl (List.mem_of_getElem? (i := 0) rfl))
    have E_x := E_x.wr W6
    have F_x_coder := F_x_coder.other W6 (Or.inr (slot_ne (Or.inr (own_w hw 30 rfl)) (Or.inr (own_w hw 29 rfl)) (by decide) (by decide : parseFieldDescriptor "B" = some .byte) (by decide : parseFieldDescriptor "[B" = some (.array .byte))))
    have V_a := V_a.other W6 nax
    have V_t := V_t.other W6 (Ne.symm ne_x_t)
    have F_x_value := F_x_value.same W6
    refine Go.st st6 ?_
    show Go p e below s _ _ _ (T6.setTop (mkF m 57 #[.val (.ref x), .val (.ref a), .val (.int 0), .val (.int 1), .val .null, .val (.ref t)] []))
    exact Go.ret X6 hlk (none) (fun _ => rfl) (by rw [e6]; exact ⟨rfl, N6, K6, t, kt, _, _, _, E_x, F_x_coder, F_x_value, V_t, Or.inl ⟨rfl, rfl, rfl, hxx⟩⟩) (by decide) (by decide) (fun fs hr => X6.returnOut hx Bd.returns (hb hby div1_57) hr)
  · have V_t : Arv Z T3.heap t kt .byte (2 : Int32) [(.int (StrChars.lo8 c0)), (.int (StrChars.hi8 c0))] (.int 0) := V_t
    show Go p e below s _ _ _ (T3.setTop (mkF m 39 #[.val (.ref x), .val (.ref a), .val (.int 0), .val (.int 1), .val .null, .unset] [(.ref t)]))
    refine Go.s (XS.astore X3.here hx rfl (hb hby div1_39) rfl rfl (l' := #[.val (.ref x), .val (.ref a), .val (.int 0), .val (.int 1), .val .null, .val (.ref t)]) rfl) ?_
    refine Go.s (XS.aloadN X3.here hx rfl (hb hby div1_41) rfl rfl) ?_
    refine Go.s (XS.aload X3.here hx rfl (hb hby div1_42) rfl rfl) ?_
    refine Go.s (XS.iloadN X3.here hx rfl (hb hby div1_44) rfl) ?_
    obtain ⟨_, _, ⟨T7, L7, k7, n7⟩, -, X7, ⟨Lc7, hQ7, l7, y7, z7⟩, st7⟩ := Jvm.LawKit.callS X3 hx (y := mN7) hown (mvT hZ (own_w hw 75 rfl)) (mvT hZ (own_w hw 76 rfl)) (mvT hZ (own_w hw 70 rfl)) (mvT hZ (own_w hw 77 rfl)) (by decide) (backOf (W := 1) (rmcf l Z a0 hw [] t kt (1 : Int32) (2 : Int32) [(.int (StrChars.lo8 c0)), (.int (StrChars.hi8 c0))] T3.heap n0 O3 V_t) hZ (own_w hw 77 rfl) (own_w hw 70 rfl) (by decide) (by decide)) (g := (mkF m 45 #[.val (.ref x), .val (.ref a), .val (.int 0), .val (.int 1), .val .null, .val (.ref t)] [(.int 1), (.ref t), (.ref x)])) rfl (by rw [hml]; rfl) (argsL := [(.ref t), (.int 1)]) (rest := [(.ref x)]) (lenOf pdiv1_0 rfl) rfl (by show 2 * 0 + _ ≤ _; exact Nat.le_of_eq rfl) (hb hby div1_45) (fun _ _ => ⟨rfl, rfl, (by decide : 2 + 0 ≤ _), (by decide : 3 + 0 ≤ _)⟩)
    dsimp only [Pt.U, Pt.locs, Pt.cells, Pt.slots] at X7 l7 y7 z7 st7 hQ7
    subst y7 z7
    obtain ⟨rfl, Nc7, e7⟩ := hQ7
    have N7 : Fr n0 L7 := by rw [l7]; exact Fr.app N3 Nc7
    refine Go.st st7 ?_
    show Go p e below s _ _ _ (T7.setTop (mkF m 48 #[.val (.ref x), .val (.ref a), .val (.int 0), .val (.int 1), .val .null, .val (.ref t)] [(.int 1), (.ref x)]))
    obtain ⟨T8, h8, X8, e8, W8, st8⟩ := putF X7 hx hZ hown (host := "") (Or.inl (own_w hw 34 rfl)) Via.refl e7 F_x_coder E_x (Or.inr ⟨(own_w hw 30 rfl), rfl, hnm⟩) (own_w hw 15 rfl) (ty := .byte) (by decide) rfl rfl (g := (mkF m 48 #[.val (.ref x), .val (.ref a), .val (.int 0), .val (.int 1), .val .null, .val (.ref t)] [(.int 1), (.ref x)])) rfl rfl (hb hby div1_48)
    obtain ⟨lc8, X8, N8⟩ := own_gen X8 (Fr.snoc X8 N7 gx)
    have O8 := O3.wr W8 gx
    have K8 := K3.wr W8 (Or.inl (List.mem_of_getElem? (i := 0) rfl))
    have E_x := E_x.wr W8
    have F_x_value := F_x_value.other W8 (Or.inr (slot_ne (Or.inr (own_w hw 29 rfl)) (Or.inr (own_w hw 30 rfl)) (by decide) (by decide : parseFieldDescriptor "[B" = some (.array .byte)) (by decide : parseFieldDescriptor "B" = some .byte)))
    have V_a := V_a.other W8 nax
    have V_t := V_t.other W8 (Ne.symm ne_x_t)
    have F_x_coder := F_x_coder.same W8
    refine Go.st st8 ?_
    show Go p e below s _ _ _ (T8.setTop (mkF m 51 #[.val (.ref x), .val (.ref a), .val (.int 0), .val (.int 1), .val .null, .val (.ref t)] []))
    refine Go.s (XS.aloadN X8.here hx rfl (hb hby div1_51) rfl rfl) ?_
    refine Go.s (XS.aload X8.here hx rfl (hb hby div1_52) rfl rfl) ?_
    obtain ⟨T9, h9, X9, e9, W9, st9⟩ := putF X8 hx hZ hown (host := "") (Or.inl (own_w hw 33 rfl)) Via.refl e8 F_x_value E_x (Or.inr ⟨(own_w hw 29 rfl), rfl, hnm⟩) (own_w hw 15 rfl) (ty := (.array .byte)) (by decide) rfl rfl (g := (mkF m 54 #[.val (.ref x), .val (.ref a), .val (.int 0), .val (.int 1), .val .null, .val (.ref t)] [(.ref t), (.ref x)])) rfl rfl (hb hby div1_54)
    obtain ⟨lc9, X9, N9⟩ := own_gen X9 (Fr.snoc X9 N8 gx)
    have O9 := O8.wr W9 gx
    have K9 := K8.wr W9 (Or.inl (List.mem_of_getElem? (i := 0) rfl))
    have E_x := E_x.wr W9
    have F_x_coder := F_x_coder.other W9 (Or.inr (slot_ne (Or.inr (own_w hw 30 rfl)) (Or.inr (own_w hw 29 rfl)) (by decide) (by decide : parseFieldDescriptor "B" = some .byte) (by decide : parseFieldDescriptor "[B" = some (.array .byte))))
    have V_a := V_a.other W9 nax
    have V_t := V_t.other W9 (Ne.symm ne_x_t)
    have F_x_value := F_x_value.same W9
    refine Go.st st9 ?_
    show Go p e below s _ _ _ (T9.setTop (mkF m 57 #[.val (.ref x), .val (.ref a), .val (.int 0), .val (.int 1), .val .null, .val (.ref t)] []))
    exact Go.ret X9 hlk (none) (fun _ => rfl) (by rw [e9]; exact ⟨rfl, N9, K9, t, kt, _, _, _, E_x, F_x_coder, F_x_value, V_t, Or.inr ⟨rfl, rfl, rfl, hxx⟩⟩) (by decide) (by decide) (fun fs hr => X9.returnOut hx Bd.returns (hb hby div1_57) hr)
 obtain ⟨s2, o2, st2, r2⟩ := G
 exact ⟨s2, o2, castTop (efiv1 m x a (0 : Int32) (1 : Int32)) st2, r2⟩
theorem di1_0 : decode jdk_42_method_3_code 0 = .ok (.aload_n 0, 1) := by decide +kernel
theorem di1_1 : decode jdk_42_method_3_code 1 = .ok (.aload_n 1, 1) := by decide +kernel
theorem di1_2 : decode jdk_42_method_3_code 2 = .ok (.iconst 0, 1) := by decide +kernel
theorem di1_3 : decode jdk_42_method_3_code 3 = .ok (.aload_n 1, 1) := by decide +kernel
theorem di1_4 : decode jdk_42_method_3_code 4 = .ok (.arraylength, 1) := by decide +kernel
theorem di1_5 : decode jdk_42_method_3_code 5 = .ok (.aconst_null, 1) := by decide +kernel
theorem di1_6 : decode jdk_42_method_3_code 6 = .ok (.invokespecial 27, 3) := by decide +kernel
theorem di1_9 : decode jdk_42_method_3_code 9 = .ok (.return_, 1) := by decide +kernel
theorem pdi1_0 : parseMethodDescriptor "([CIILjava/lang/Void;)V" = some ⟨[(.array .char), .int, .int, (.object "java/lang/Void")], none⟩ := by decide +kernel
theorem pni1 : plainName "java/lang/String" = true := by first | (simp [plainName, overriddenIn]; done) | decide +kernel
theorem efi1 (m : MethodId) (x0 : Addr) (x1 : Addr) : entryFrame m #[(.ref x0), (.ref x1)] 2 = mkF m 0 #[.val (.ref x0), .val (.ref x1)] [] := by first | (simp [entryFrame, mkF, argsToLocals, Value.category, maxLocals]; done) | rfl
def Qi1 (Z : State) (x : Addr) (a : Addr) (ka : ClassId) (zc : Int32) (c0 : Int32) (h0 : Heap) (n0 : Nat) (v : Option Value) (h : Heap) (L : List Loc) : Prop := v = none ∧ Fr n0 L ∧ Keep h0 h [x] ∧ ∃ (t : Addr) (kt : ClassId) (cd N : Int32) (vs : List Value), Exa Z h x "java/lang/String" ∧ Fld Z h x "java/lang/String" "coder" "B" (.int cd) ∧ Fld Z h x "java/lang/String" "value" "[B" (.ref t) ∧ Arv Z h t kt .byte N vs (.int 0) ∧ StrChars.Road.CodA ([c0] : List Int32) cd N vs
theorem rmi1 (l : Launch) (Z : State) (a0 : Array Value) (hw : ∀ d ∈ tables_1, d.before a0 Z = true) (ws : List Jvm.Cond) (x : Addr) (a : Addr) (ka : ClassId) (zc : Int32) (c0 : Int32) (h0 : Heap) (n0 : Nat) (O0 : Old Z n0 h0) (E_x : Exa Z h0 x "java/lang/String") (F_x_coder : Fld Z h0 x "java/lang/String" "coder" "B" (.int 0)) (F_x_value : Fld Z h0 x "java/lang/String" "value" "[B" .null) (V_a : Arv Z h0 a ka .char (1 : Int32) [(.int c0)] (.int 0)) (gx : n0 ≤ x) (nax : a ≠ x) (hc0 : ¬ c0 < 0 ∧ ¬ (65535 : Int32) < c0) (SA : Sta Z Z.heap "java/lang/StringUTF16" "$assertionsDisabled" "Z" (.int 1)) (SHI : Sta Z Z.heap "java/lang/StringUTF16" "HI_BYTE_SHIFT" "I" (.int 0)) (SLO : Sta Z Z.heap "java/lang/StringUTF16" "LO_BYTE_SHIFT" "I" (.int 8)) (SC : Sta Z Z.heap "java/lang/String" "COMPACT_STRINGS" "Z" (.int zc)) (hcs : ¬ zc = 0) :
  MetFree l mN9 (head1 (Jvm.Cond.code mN9 jdk_42_method_3_code 2 none :: ws) ({ frames := 5, cells := 2, slots := 3, locals := 74 } : Room)) (fun A_ U_ => A_ = #[(.ref x), (.ref a)] ∧ Z.Warmed39 U_.vm ∧ U_.heap = h0) (fun _ _ _ _ _ => True) (fun _ U o U' => ∃ v L, o = .returned v ∧ Qi1 Z x a ka zc c0 h0 n0 v U'.heap L ∧ FrameEnd U o U' L ({ frames := 5, cells := 2, slots := 3, locals := 74 } : Room).cells ({ frames := 5, cells := 2, slots := 3, locals := 74 } : Room).slots) := by
 refine MetFree.of_bodySF (plainFor_of_name pni1) hisR ?_
 intro p e s m args below meth cd s₁ Bd hml0 hP hK
 obtain ⟨rfl, hZ, hh⟩ := hP
 have hx := Bd.exec
 have hby := Bd.bytes
 have hlk : meth.locks = false := BodyLoose.notSynchronized Bd
 have hml : cd.maxLocals = 2 := hml0
 have hown : s.vm.findClass "java/lang/String" = some m.cls := findClass_of_methodNamed Bd.named
 have X0 : Stand p l e ({ frames := 5, cells := 2, slots := 3, locals := 74 } : Room) s m #[(.ref x), (.ref a)] below meth cd s₁ [] 0 0 := Stand.of_body Bd
 have e0 : s₁.heap = h0 := by rw [← hh, Bd.state]; rfl
 have N0 := Fr.nil n0
 have K0 : Keep h0 h0 [x] := Keep.refl _ _
 have G : Go p e below s 2 3 (Qi1 Z x a ka zc c0 h0 n0) (s₁.setTop (mkF m 0 #[.val (.ref x), .val (.ref a)] [])) := by
  refine Go.s (XS.aloadN X0.here hx rfl (hb hby di1_0) rfl rfl) ?_
  refine Go.s (XS.aloadN X0.here hx rfl (hb hby di1_1) rfl rfl) ?_
  refine Go.s (XS.iconst X0.here hx rfl (hb hby di1_2)) ?_
  refine Go.s (XS.aloadN X0.here hx rfl (hb hby di1_3) rfl rfl) ?_
  refine Go.s (own_len X0 hx hZ e0 V_a (g := (mkF m 4 #[.val (.ref x), .val (.ref a)] [(.ref a), (.int 0), (.ref a), (.ref x)])) rfl rfl (hb hby di1_4) _) ?_
  show Go p e below s _ _ _ (s₁.setTop (mkF m 5 #[.val (.ref x), .val (.ref a)] [(.int 1), (.int 0), (.ref a), (.ref x)]))
  refine Go.s (XS.aconstNull X0.here hx rfl (hb hby di1_5)) ?_
  obtain ⟨_, _, ⟨T1, L1, k1, n1⟩, -, X1, ⟨Lc1, hQ1, l1, y1, z1⟩, st1⟩ := X0.specialBack hx (y := mN8) rfl hown (mvT hZ (own_w hw 20 rfl)) (mvT hZ (own_w hw 21 rfl)) (mvT hZ (own_w hw 23 rfl)) (by decide) (backOf (W := 0) (rmiv1 l Z a0 hw [] x a ka zc c0 h0 n0 O0 E_x F_x_coder F_x_value V_a gx nax hc0 SA SHI SLO SC hcs) hZ (own_w hw 23 rfl) (own_w hw 16 rfl) (by decide) (by decide)) (g := (mkF m 6 #[.val (.ref x), .val (.ref a)] [.null, (.int 1), (.int 0), (.ref a), (.ref x)])) rfl (by rw [hml]; rfl) (Steps.refl _) (a := x) (argsL := [(.ref a), (.int 0), (.int 1), .null]) (rest := []) (lenOf pdi1_0 rfl) rfl (by show 2 * 0 + _ ≤ _; exact Nat.le_of_eq rfl) (hb hby di1_6) (fun _ _ => ⟨rfl, e0, (by decide : 0 + 2 ≤ _), (by decide : 0 + 3 ≤ _)⟩)
  dsimp only [Pt.U, Pt.locs, Pt.cells, Pt.slots] at X1 l1 y1 z1 st1 hQ1
  subst y1 z1
  obtain ⟨rfl, Nc1, Kc1, t, kt, cd, N, vs, NE, NC, NV, NB, hcd⟩ := hQ1
  have N1 : Fr n0 L1 := by rw [l1]; exact Fr.app N0 Nc1
  have V_a := V_a.keep Kc1 (ninS nax nin0)
  have O1 := O0.keep Kc1 (allS gx all0)
  have K1 := K0.trans Kc1 (allS (Or.inl (List.mem_of_getElem? (i := 0) rfl)) all0)
  have E_x : Exa Z T1.heap x "java/lang/String" := NE
  have F_x_coder : Fld Z T1.heap x "java/lang/String" "coder" "B" (.int cd) := NC
  have F_x_value : Fld Z T1.heap x "java/lang/String" "value" "[B" (.ref t) := NV
  have V_t : Arv Z T1.heap t kt .byte N vs (.int 0) := NB
  refine Go.tr st1 ?_
  show Go p e below s _ _ _ (T1.setTop (mkF m 9 #[.val (.ref x), .val (.ref a)] []))
  exact Go.ret X1 hlk (none) (fun _ => rfl) (by exact ⟨rfl, N1, K1, t, kt, cd, N, vs, E_x, F_x_coder, F_x_value, V_t, hcd⟩) (by decide) (by decide) (fun fs hr => X1.returnOut hx Bd.returns (hb hby di1_9) hr)
 obtain ⟨s2, o2, st2, r2⟩ := G
 exact ⟨s2, o2, castTop (efi1 m x a) st2, r2⟩
theorem pniv2 : plainName "java/lang/String" = true := by first | (simp [plainName, overriddenIn]; done) | decide +kernel
theorem efiv2 (m : MethodId) (x0 : Addr) (x1 : Addr) (x2 : Int32) (x3 : Int32) : entryFrame m #[(.ref x0), (.ref x1), (.int x2), (.int x3), .null] 6 = mkF m 0 #[.val (.ref x0), .val (.ref x1), .val (.int x2), .val (.int x3), .val .null, .unset] [] := by first | (simp [entryFrame, mkF, argsToLocals, Value.category, maxLocals]; done) | rfl
def Qiv2 (Z : State) (x : Addr) (a : Addr) (ka : ClassId) (zc : Int32) (c0 : Int32) (c1 : Int32) (h0 : Heap) (n0 : Nat) (v : Option Value) (h : Heap) (L : List Loc) : Prop := v = none ∧ Fr n0 L ∧ Keep h0 h [x] ∧ ∃ (t : Addr) (kt : ClassId) (cd N : Int32) (vs : List Value), Exa Z h x "java/lang/String" ∧ Fld Z h x "java/lang/String" "coder" "B" (.int cd) ∧ Fld Z h x "java/lang/String" "value" "[B" (.ref t) ∧ Arv Z h t kt .byte N vs (.int 0) ∧ StrChars.Road.CodA ([c0, c1] : List Int32) cd N vs
theorem rmiv2 (l : Launch) (Z : State) (a0 : Array Value) (hw : ∀ d ∈ tables_1, d.before a0 Z = true) (ws : List Jvm.Cond) (x : Addr) (a : Addr) (ka : ClassId) (zc : Int32) (c0 : Int32) (c1 : Int32) (h0 : Heap) (n0 : Nat) (O0 : Old Z n0 h0) (E_x : Exa Z h0 x "java/lang/String") (F_x_coder : Fld Z h0 x "java/lang/String" "coder" "B" (.int 0)) (F_x_value : Fld Z h0 x "java/lang/String" "value" "[B" .null) (V_a : Arv Z h0 a ka .char (2 : Int32) [(.int c0), (.int c1)] (.int 0)) (gx : n0 ≤ x) (nax : a ≠ x) (hc0 : ¬ c0 < 0 ∧ ¬ (65535 : Int32) < c0) (hc1 : ¬ c1 < 0 ∧ ¬ (65535 : Int32) < c1) (SA : Sta Z Z.heap "java/lang/StringUTF16" "$assertionsDisabled" "Z" (.int 1)) (SHI : Sta Z Z.heap "java/lang/StringUTF16" "HI_BYTE_SHIFT" "I" (.int 0)) (SLO : Sta Z Z.heap "java/lang/StringUTF16" "LO_BYTE_SHIFT" "I" (.int 8)) (SC : Sta Z Z.heap "java/lang/String" "COMPACT_STRINGS" "Z" (.int zc)) (hcs : ¬ zc = 0) :
  MetFree l mN8 (head1 (Jvm.Cond.code mN8 jdk_42_method_149_code 6 none :: ws) ({ frames := 4, cells := 2, slots := 6, locals := 57 } : Room)) (fun A_ U_ => A_ = #[(.ref x), (.ref a), (.int 0), (.int 2), .null] ∧ Z.Warmed39 U_.vm ∧ U_.heap = h0) (fun _ _ _ _ _ => True) (fun _ U o U' => ∃ v L, o = .returned v ∧ Qiv2 Z x a ka zc c0 c1 h0 n0 v U'.heap L ∧ FrameEnd U o U' L ({ frames := 4, cells := 2, slots := 6, locals := 57 } : Room).cells ({ frames := 4, cells := 2, slots := 6, locals := 57 } : Room).slots) := by
 refine MetFree.of_bodySF (plainFor_of_name pniv2) hisR ?_
 intro p e s m args below meth cd s₁ Bd hml0 hP hK
 obtain ⟨rfl, hZ, hh⟩ := hP
 have hx := Bd.exec
 have hby := Bd.bytes
 have hlk : meth.locks = false := BodyLoose.notSynchronized Bd
 have hml : cd.maxLocals = 6 := hml0
 have hown : s.vm.findClass "java/lang/String" = some m.cls := findClass_of_methodNamed Bd.named
 have hnm := (name_of_methodNamed Bd.named Bd.method).1
 have X0 : Stand p l e ({ frames := 4, cells := 2, slots := 6, locals := 57 } : Room) s m #[(.ref x), (.ref a), (.int 0), (.int 2), .null] below meth cd s₁ [] 0 0 := Stand.of_body Bd
 have e0 : s₁.heap = h0 := by rw [← hh, Bd.state]; rfl
 have N0 := Fr.nil n0
 have K0 : Keep h0 h0 [x] := Keep.refl _ _
 have G : Go p e below s 2 6 (Qiv2 Z x a ka zc c0 c1 h0 n0) (s₁.setTop (mkF m 0 #[.val (.ref x), .val (.ref a), .val (.int 0), .val (.int 2), .val .null, .unset] [])) := by
  refine Go.s (XS.aloadN X0.here hx rfl (hb hby div1_0) rfl rfl) ?_
  obtain ⟨T1, X1, e1, st1⟩ := initO X0 hx hZ hown (own_w hw 24 rfl) (own_w hw 25 rfl) (own_w hw 26 rfl) e0 (g := (mkF m 1 #[.val (.ref x), .val (.ref a), .val (.int 0), .val (.int 2), .val .null, .unset] [(.ref x)])) rfl (by rw [hml]; rfl) rfl (hb hby div1_1) (by decide) (W := 0) (by show 2 * 0 + _ ≤ _; exact Nat.le_of_eq rfl) (by decide)
  refine Go.st st1 ?_
  show Go p e below s _ _ _ (T1.setTop (mkF m 4 #[.val (.ref x), .val (.ref a), .val (.int 0), .val (.int 2), .val .null, .unset] []))
  refine Go.s (XS.iloadN X1.here hx rfl (hb hby div1_4) rfl) ?_
  refine Go.s (XS.ifYes X1.here hx rfl (pc0 := 5) (pc' := 27) rfl (hb hby div1_5) rfl (by decide) (by decide) (by decide)) ?_
  show Go p e below s _ _ _ (T1.setTop (mkF m 27 #[.val (.ref x), .val (.ref a), .val (.int 0), .val (.int 2), .val .null, .unset] []))
  obtain ⟨T2, X2, e2, st2⟩ := getS X1 hx hZ hown (host := "") (own_w hw 52 rfl) Via.refl e1 (SC.ext O0.2) (g := (mkF m 27 #[.val (.ref x), .val (.ref a), .val (.int 0), .val (.int 2), .val .null, .unset] [])) rfl (hb hby div1_27)
  refine Go.st st2 ?_
  show Go p e below s _ _ _ (T2.setTop (mkF m 30 #[.val (.ref x), .val (.ref a), .val (.int 0), .val (.int 2), .val .null, .unset] [(.int zc)]))
  refine Go.s (XS.ifNo X2.here hx rfl (hb hby div1_30) rfl (XT.i0_eq_f hcs)) ?_
  show Go p e below s _ _ _ (T2.setTop (mkF m 33 #[.val (.ref x), .val (.ref a), .val (.int 0), .val (.int 2), .val .null, .unset] []))
  refine Go.s (XS.aloadN X2.here hx rfl (hb hby div1_33) rfl rfl) ?_
  refine Go.s (XS.iloadN X2.here hx rfl (hb hby div1_34) rfl) ?_
  refine Go.s (XS.iloadN X2.here hx rfl (hb hby div1_35) rfl) ?_
  obtain ⟨_, _, ⟨T3, L3, k3, n3⟩, -, X3, ⟨Lc3, hQ3, l3, y3, z3⟩, st3⟩ := Jvm.LawKit.callS X2 hx (y := mN6) hown (mvT hZ (own_w hw 68 rfl)) (mvT hZ (own_w hw 69 rfl)) (mvT hZ (own_w hw 70 rfl)) (mvT hZ (own_w hw 71 rfl)) (by decide) (backOf (W := 0) (rmco2 l Z a0 hw [] a ka c0 c1 h0 n0 O0 V_a hc0 hc1 SA SHI SLO) hZ (own_w hw 71 rfl) (own_w hw 70 rfl) (by decide) (by decide)) (g := (mkF m 36 #[.val (.ref x), .val (.ref a), .val (.int 0), .val (.int 2), .val .null, .unset] [(.int 2), (.int 0), (.ref a)])) rfl (by rw [hml]; rfl) (argsL := [(.ref a), (.int 0), (.int 2)]) (rest := []) (lenOf pdco1_1 rfl) rfl (by show 2 * 0 + _ ≤ _; exact Nat.le_of_eq rfl) (hb hby div1_36) (fun _ _ => ⟨rfl, e2, (by decide : 0 + 2 ≤ _), (by decide : 0 + 6 ≤ _)⟩)
  dsimp only [Pt.U, Pt.locs, Pt.cells, Pt.slots] at X3 l3 y3 z3 st3 hQ3
  subst y3 z3
  obtain ⟨t, kt, cd, N, vs, rfl, Nc3, Kc3, gt, szt, V_t, hcd⟩ := hQ3
  have N3 : Fr n0 L3 := by rw [l3]; exact Fr.app N0 Nc3
  have g_t : n0 ≤ t := gt
  have sz_t : h0.size ≤ t := Nat.le_trans K0.1 szt
  have ne_x_t : x ≠ t := Nat.ne_of_lt (Nat.lt_of_lt_of_le E_x.lt szt)
  have ne_a_t : a ≠ t := Nat.ne_of_lt (Nat.lt_of_lt_of_le V_a.lt szt)
  have E_x := E_x.keep Kc3
  have F_x_coder := F_x_coder.keep Kc3 nin0
  have F_x_value := F_x_value.keep Kc3 nin0
  have V_a := V_a.keep Kc3 nin0
  have O3 := O0.keep Kc3 all0
  have K3 := K0.trans Kc3 all0
  refine Go.st st3 ?_
  show Go p e below s _ _ _ (T3.setTop (mkF m 39 #[.val (.ref x), .val (.ref a), .val (.int 0), .val (.int 2), .val .null, .unset] [(.ref t)]))
  rcases hcd with ⟨rfl, rfl, rfl, hxx⟩ | ⟨rfl, rfl, rfl, hxx⟩
  · have V_t : Arv Z T3.heap t kt .byte (2 : Int32) [(.int (StrChars.lo8 c0)), (.int (StrChars.lo8 c1))] (.int 0) := V_t
    show Go p e below s _ _ _ (T3.setTop (mkF m 39 #[.val (.ref x), .val (.ref a), .val (.int 0), .val (.int 2), .val .null, .unset] [(.ref t)]))
    refine Go.s (XS.astore X3.here hx rfl (hb hby div1_39) rfl rfl (l' := #[.val (.ref x), .val (.ref a), .val (.int 0), .val (.int 2), .val .null, .val (.ref t)]) rfl) ?_
    refine Go.s (XS.aloadN X3.here hx rfl (hb hby div1_41) rfl rfl) ?_
    refine Go.s (XS.aload X3.here hx rfl (hb hby div1_42) rfl rfl) ?_
    refine Go.s (XS.iloadN X3.here hx rfl (hb hby div1_44) rfl) ?_
    obtain ⟨_, _, ⟨T4, L4, k4, n4⟩, -, X4, ⟨Lc4, hQ4, l4, y4, z4⟩, st4⟩ := Jvm.LawKit.callS X3 hx (y := mN7) hown (mvT hZ (own_w hw 75 rfl)) (mvT hZ (own_w hw 76 rfl)) (mvT hZ (own_w hw 70 rfl)) (mvT hZ (own_w hw 77 rfl)) (by decide) (backOf (W := 1) (rmcf l Z a0 hw [] t kt (2 : Int32) (2 : Int32) [(.int (StrChars.lo8 c0)), (.int (StrChars.lo8 c1))] T3.heap n0 O3 V_t) hZ (own_w hw 77 rfl) (own_w hw 70 rfl) (by decide) (by decide)) (g := (mkF m 45 #[.val (.ref x), .val (.ref a), .val (.int 0), .val (.int 2), .val .null, .val (.ref t)] [(.int 2), (.ref t), (.ref x)])) rfl (by rw [hml]; rfl) (argsL := [(.ref t), (.int 2)]) (rest := [(.ref x)]) (lenOf pdiv1_0 rfl) rfl (by show 2 * 0 + _ ≤ _; exact Nat.le_of_eq rfl) (hb hby div1_45) (fun _ _ => ⟨rfl, rfl, (by decide : 2 + 0 ≤ _), (by decide : 6 + 0 ≤ _)⟩)
    dsimp only [Pt.U, Pt.locs, Pt.cells, Pt.slots] at X4 l4 y4 z4 st4 hQ4
    subst y4 z4
    obtain ⟨rfl, Nc4, e4⟩ := hQ4
    have N4 : Fr n0 L4 := by rw [l4]; exact Fr.app N3 Nc4
    refine Go.st st4 ?_
    show Go p e below s _ _ _ (T4.setTop (mkF m 48 #[.val (.ref x), .val (.ref a), .val (.int 0), .val (.int 2), .val .null, .val (.ref t)] [(.int 0), (.ref x)]))
    obtain ⟨T5, h5, X5, e5, W5, st5⟩ := putF X4 hx hZ hown (host := "") (Or.inl (own_w hw 34 rfl)) Via.refl e4 F_x_coder E_x (Or.inr ⟨(own_w hw 30 rfl), rfl, hnm⟩) (own_w hw 15 rfl) (ty := .byte) (by decide) rfl rfl (g := (mkF m 48 #[.val (.ref x), .val (.ref a), .val (.int 0), .val (.int 2), .val .null, .val (.ref t)] [(.int 0), (.ref x)])) rfl rfl (hb hby div1_48)
    obtain ⟨lc5, X5, N5⟩ := own_gen X5 (Fr.snoc X5 N4 gx)
    have O5 := O3.wr W5 gx
    have K5 := K3.wr W5 (Or.inl (List.mem_of_getElem? (i := 0) rfl))
    have E_x := E_x.wr W5
    have F_x_value := F_x_value.other W5 (Or.inr (slot_ne (Or.inr (own_w hw 29 rfl)) (Or.inr (own_w hw 30 rfl)) (by decide) (by decide : parseFieldDescriptor "[B" = some (.array .byte)) (by decide : parseFieldDescriptor "B" = some .byte)))
    have V_a := V_a.other W5 nax
    have V_t := V_t.other W5 (Ne.symm ne_x_t)
    have F_x_coder := F_x_coder.same W5
    refine Go.st st5 ?_
    show Go p e below s _ _ _ (T5.setTop (mkF m 51 #[.val (.ref x), .val (.ref a), .val (.int 0), .val (.int 2), .val .null, .val (.ref t)] []))
    refine Go.s (XS.aloadN X5.here hx rfl (hb hby div1_51) rfl rfl) ?_
    refine Go.s (XS.aload X5.here hx rfl (hb hby div1_52) rfl rfl) ?_
    obtain ⟨T6, h6, X6, e6, W6, st6⟩ := putF X5 hx hZ hown (host := "") (Or.inl (own_w hw 33 rfl)) Via.refl e5 F_x_value E_x (Or.inr ⟨(own_w hw 29 rfl), rfl, hnm⟩) (own_w hw 15 rfl) (ty := (.array .byte)) (by decide) rfl rfl (g := (mkF m 54 #[.val (.ref x), .val (.ref a), .val (.int 0), .val (.int 2), .val .null, .val (.ref t)] [(.ref t), (.ref x)])) rfl rfl (hb hby div1_54)
    obtain ⟨lc6, X6, N6⟩ := own_gen X6 (Fr.snoc X6 N5 gx)
    have O6 := O5.wr W6 gx
    have K6 := K5.wr W6 (Or.inl (List.mem_of_getElem? (i := 0) rfl))
    have E_x := E_x.wr W6
    have F_x_coder := F_x_coder.other W6 (Or.inr (slot_ne (Or.inr (own_w hw 30 rfl)) (Or.inr (own_w hw 29 rfl)) (by decide) (by decide : parseFieldDescriptor "B" = some .byte) (by decide : parseFieldDescriptor "[B" = some (.array .byte))))
    have V_a := V_a.other W6 nax
    have V_t := V_t.other W6 (Ne.symm ne_x_t)
    have F_x_value := F_x_value.same W6
    refine Go.st st6 ?_
    show Go p e below s _ _ _ (T6.setTop (mkF m 57 #[.val (.ref x), .val (.ref a), .val (.int 0), .val (.int 2), .val .null, .val (.ref t)] []))
    exact Go.ret X6 hlk (none) (fun _ => rfl) (by rw [e6]; exact ⟨rfl, N6, K6, t, kt, _, _, _, E_x, F_x_coder, F_x_value, V_t, Or.inl ⟨rfl, rfl, rfl, hxx⟩⟩) (by decide) (by decide) (fun fs hr => X6.returnOut hx Bd.returns (hb hby div1_57) hr)
  · have V_t : Arv Z T3.heap t kt .byte (4 : Int32) [(.int (StrChars.lo8 c0)), (.int (StrChars.hi8 c0)), (.int (StrChars.lo8 c1)), (.int (StrChars.hi8 c1))] (.int 0) := V_t
    show Go p e below s _ _ _ (T3.setTop (mkF m 39 #[.val (.ref x), .val (.ref a), .val (.int 0), .val (.int 2), .val .null, .unset] [(.ref t)]))
    refine Go.s (XS.astore X3.here hx rfl (hb hby div1_39) rfl rfl (l' := #[.val (.ref x), .val (.ref a), .val (.int 0), .val (.int 2), .val .null, .val (.ref t)]) rfl) ?_
    refine Go.s (XS.aloadN X3.here hx rfl (hb hby div1_41) rfl rfl) ?_
    refine Go.s (XS.aload X3.here hx rfl (hb hby div1_42) rfl rfl) ?_
    refine Go.s (XS.iloadN X3.here hx rfl (hb hby div1_44) rfl) ?_
    obtain ⟨_, _, ⟨T7, L7, k7, n7⟩, -, X7, ⟨Lc7, hQ7, l7, y7, z7⟩, st7⟩ := Jvm.LawKit.callS X3 hx (y := mN7) hown (mvT hZ (own_w hw 75 rfl)) (mvT hZ (own_w hw 76 rfl)) (mvT hZ (own_w hw 70 rfl)) (mvT hZ (own_w hw 77 rfl)) (by decide) (backOf (W := 1) (rmcf l Z a0 hw [] t kt (2 : Int32) (4 : Int32) [(.int (StrChars.lo8 c0)), (.int (StrChars.hi8 c0)), (.int (StrChars.lo8 c1)), (.int (StrChars.hi8 c1))] T3.heap n0 O3 V_t) hZ (own_w hw 77 rfl) (own_w hw 70 rfl) (by decide) (by decide)) (g := (mkF m 45 #[.val (.ref x), .val (.ref a), .val (.int 0), .val (.int 2), .val .null, .val (.ref t)] [(.int 2), (.ref t), (.ref x)])) rfl (by rw [hml]; rfl) (argsL := [(.ref t), (.int 2)]) (rest := [(.ref x)]) (lenOf pdiv1_0 rfl) rfl (by show 2 * 0 + _ ≤ _; exact Nat.le_of_eq rfl) (hb hby div1_45) (fun _ _ => ⟨rfl, rfl, (by decide : 2 + 0 ≤ _), (by decide : 6 + 0 ≤ _)⟩)
    dsimp only [Pt.U, Pt.locs, Pt.cells, Pt.slots] at X7 l7 y7 z7 st7 hQ7
    subst y7 z7
    obtain ⟨rfl, Nc7, e7⟩ := hQ7
    have N7 : Fr n0 L7 := by rw [l7]; exact Fr.app N3 Nc7
    refine Go.st st7 ?_
    show Go p e below s _ _ _ (T7.setTop (mkF m 48 #[.val (.ref x), .val (.ref a), .val (.int 0), .val (.int 2), .val .null, .val (.ref t)] [(.int 1), (.ref x)]))
    obtain ⟨T8, h8, X8, e8, W8, st8⟩ := putF X7 hx hZ hown (host := "") (Or.inl (own_w hw 34 rfl)) Via.refl e7 F_x_coder E_x (Or.inr ⟨(own_w hw 30 rfl), rfl, hnm⟩) (own_w hw 15 rfl) (ty := .byte) (by decide) rfl rfl (g := (mkF m 48 #[.val (.ref x), .val (.ref a), .val (.int 0), .val (.int 2), .val .null, .val (.ref t)] [(.int 1), (.ref x)])) rfl rfl (hb hby div1_48)
    obtain ⟨lc8, X8, N8⟩ := own_gen X8 (Fr.snoc X8 N7 gx)
    have O8 := O3.wr W8 gx
    have K8 := K3.wr W8 (Or.inl (List.mem_of_getElem? (i := 0) rfl))
    have E_x := E_x.wr W8
    have F_x_value := F_x_value.other W8 (Or.inr (slot_ne (Or.inr (own_w hw 29 rfl)) (Or.inr (own_w hw 30 rfl)) (by decide) (by decide : parseFieldDescriptor "[B" = some (.array .byte)) (by decide : parseFieldDescriptor "B" = some .byte)))
    have V_a := V_a.other W8 nax
    have V_t := V_t.other W8 (Ne.symm ne_x_t)
    have F_x_coder := F_x_coder.same W8
    refine Go.st st8 ?_
    show Go p e below s _ _ _ (T8.setTop (mkF m 51 #[.val (.ref x), .val (.ref a), .val (.int 0), .val (.int 2), .val .null, .val (.ref t)] []))
    refine Go.s (XS.aloadN X8.here hx rfl (hb hby div1_51) rfl rfl) ?_
    refine Go.s (XS.aload X8.here hx rfl (hb hby div1_52) rfl rfl) ?_
    obtain ⟨T9, h9, X9, e9, W9, st9⟩ := putF X8 hx hZ hown (host := "") (Or.inl (own_w hw 33 rfl)) Via.refl e8 F_x_value E_x (Or.inr ⟨(own_w hw 29 rfl), rfl, hnm⟩) (own_w hw 15 rfl) (ty := (.array .byte)) (by decide) rfl rfl (g := (mkF m 54 #[.val (.ref x), .val (.ref a), .val (.int 0), .val (.int 2), .val .null, .val (.ref t)] [(.ref t), (.ref x)])) rfl rfl (hb hby div1_54)
    obtain ⟨lc9, X9, N9⟩ := own_gen X9 (Fr.snoc X9 N8 gx)
    have O9 := O8.wr W9 gx
    have K9 := K8.wr W9 (Or.inl (List.mem_of_getElem? (i := 0) rfl))
    have E_x := E_x.wr W9
    have F_x_coder := F_x_coder.other W9 (Or.inr (slot_ne (Or.inr (own_w hw 30 rfl)) (Or.inr (own_w hw 29 rfl)) (by decide) (by decide : parseFieldDescriptor "B" = some .byte) (by decide : parseFieldDescriptor "[B" = some (.array .byte))))
    have V_a := V_a.other W9 nax
    have V_t := V_t.other W9 (Ne.symm ne_x_t)
    have F_x_value := F_x_value.same W9
    refine Go.st st9 ?_
    show Go p e below s _ _ _ (T9.setTop (mkF m 57 #[.val (.ref x), .val (.ref a), .val (.int 0), .val (.int 2), .val .null, .val (.ref t)] []))
    exact Go.ret X9 hlk (none) (fun _ => rfl) (by rw [e9]; exact ⟨rfl, N9, K9, t, kt, _, _, _, E_x, F_x_coder, F_x_value, V_t, Or.inr ⟨rfl, rfl, rfl, hxx⟩⟩) (by decide) (by decide) (fun fs hr => X9.returnOut hx Bd.returns (hb hby div1_57) hr)
 obtain ⟨s2, o2, st2, r2⟩ := G
 exact ⟨s2, o2, castTop (efiv2 m x a (0 : Int32) (2 : Int32)) st2, r2⟩
theorem pni2 : plainName "java/lang/String" = true := by first | (simp [plainName, overriddenIn]; done) | decide +kernel
theorem efi2 (m : MethodId) (x0 : Addr) (x1 : Addr) : entryFrame m #[(.ref x0), (.ref x1)] 2 = mkF m 0 #[.val (.ref x0), .val (.ref x1)] [] := by first | (simp [entryFrame, mkF, argsToLocals, Value.category, maxLocals]; done) | rfl
def Qi2 (Z : State) (x : Addr) (a : Addr) (ka : ClassId) (zc : Int32) (c0 : Int32) (c1 : Int32) (h0 : Heap) (n0 : Nat) (v : Option Value) (h : Heap) (L : List Loc) : Prop := v = none ∧ Fr n0 L ∧ Keep h0 h [x] ∧ ∃ (t : Addr) (kt : ClassId) (cd N : Int32) (vs : List Value), Exa Z h x "java/lang/String" ∧ Fld Z h x "java/lang/String" "coder" "B" (.int cd) ∧ Fld Z h x "java/lang/String" "value" "[B" (.ref t) ∧ Arv Z h t kt .byte N vs (.int 0) ∧ StrChars.Road.CodA ([c0, c1] : List Int32) cd N vs
theorem rmi2 (l : Launch) (Z : State) (a0 : Array Value) (hw : ∀ d ∈ tables_1, d.before a0 Z = true) (ws : List Jvm.Cond) (x : Addr) (a : Addr) (ka : ClassId) (zc : Int32) (c0 : Int32) (c1 : Int32) (h0 : Heap) (n0 : Nat) (O0 : Old Z n0 h0) (E_x : Exa Z h0 x "java/lang/String") (F_x_coder : Fld Z h0 x "java/lang/String" "coder" "B" (.int 0)) (F_x_value : Fld Z h0 x "java/lang/String" "value" "[B" .null) (V_a : Arv Z h0 a ka .char (2 : Int32) [(.int c0), (.int c1)] (.int 0)) (gx : n0 ≤ x) (nax : a ≠ x) (hc0 : ¬ c0 < 0 ∧ ¬ (65535 : Int32) < c0) (hc1 : ¬ c1 < 0 ∧ ¬ (65535 : Int32) < c1) (SA : Sta Z Z.heap "java/lang/StringUTF16" "$assertionsDisabled" "Z" (.int 1)) (SHI : Sta Z Z.heap "java/lang/StringUTF16" "HI_BYTE_SHIFT" "I" (.int 0)) (SLO : Sta Z Z.heap "java/lang/StringUTF16" "LO_BYTE_SHIFT" "I" (.int 8)) (SC : Sta Z Z.heap "java/lang/String" "COMPACT_STRINGS" "Z" (.int zc)) (hcs : ¬ zc = 0) :
  MetFree l mN9 (head1 (Jvm.Cond.code mN9 jdk_42_method_3_code 2 none :: ws) ({ frames := 5, cells := 2, slots := 6, locals := 74 } : Room)) (fun A_ U_ => A_ = #[(.ref x), (.ref a)] ∧ Z.Warmed39 U_.vm ∧ U_.heap = h0) (fun _ _ _ _ _ => True) (fun _ U o U' => ∃ v L, o = .returned v ∧ Qi2 Z x a ka zc c0 c1 h0 n0 v U'.heap L ∧ FrameEnd U o U' L ({ frames := 5, cells := 2, slots := 6, locals := 74 } : Room).cells ({ frames := 5, cells := 2, slots := 6, locals := 74 } : Room).slots) := by
 refine MetFree.of_bodySF (plainFor_of_name pni2) hisR ?_
 intro p e s m args below meth cd s₁ Bd hml0 hP hK
 obtain ⟨rfl, hZ, hh⟩ := hP
 have hx := Bd.exec
 have hby := Bd.bytes
 have hlk : meth.locks = false := BodyLoose.notSynchronized Bd
 have hml : cd.maxLocals = 2 := hml0
 have hown : s.vm.findClass "java/lang/String" = some m.cls := findClass_of_methodNamed Bd.named
 have X0 : Stand p l e ({ frames := 5, cells := 2, slots := 6, locals := 74 } : Room) s m #[(.ref x), (.ref a)] below meth cd s₁ [] 0 0 := Stand.of_body Bd
 have e0 : s₁.heap = h0 := by rw [← hh, Bd.state]; rfl
 have N0 := Fr.nil n0
 have K0 : Keep h0 h0 [x] := Keep.refl _ _
 have G : Go p e below s 2 6 (Qi2 Z x a ka zc c0 c1 h0 n0) (s₁.setTop (mkF m 0 #[.val (.ref x), .val (.ref a)] [])) := by
  refine Go.s (XS.aloadN X0.here hx rfl (hb hby di1_0) rfl rfl) ?_
  refine Go.s (XS.aloadN X0.here hx rfl (hb hby di1_1) rfl rfl) ?_
  refine Go.s (XS.iconst X0.here hx rfl (hb hby di1_2)) ?_
  refine Go.s (XS.aloadN X0.here hx rfl (hb hby di1_3) rfl rfl) ?_
  refine Go.s (own_len X0 hx hZ e0 V_a (g := (mkF m 4 #[.val (.ref x), .val (.ref a)] [(.ref a), (.int 0), (.ref a), (.ref x)])) rfl rfl (hb hby di1_4) _) ?_
  show Go p e below s _ _ _ (s₁.setTop (mkF m 5 #[.val (.ref x), .val (.ref a)] [(.int 2), (.int 0), (.ref a), (.ref x)]))
  refine Go.s (XS.aconstNull X0.here hx rfl (hb hby di1_5)) ?_
  obtain ⟨_, _, ⟨T1, L1, k1, n1⟩, -, X1, ⟨Lc1, hQ1, l1, y1, z1⟩, st1⟩ := X0.specialBack hx (y := mN8) rfl hown (mvT hZ (own_w hw 20 rfl)) (mvT hZ (own_w hw 21 rfl)) (mvT hZ (own_w hw 23 rfl)) (by decide) (backOf (W := 0) (rmiv2 l Z a0 hw [] x a ka zc c0 c1 h0 n0 O0 E_x F_x_coder F_x_value V_a gx nax hc0 hc1 SA SHI SLO SC hcs) hZ (own_w hw 23 rfl) (own_w hw 16 rfl) (by decide) (by decide)) (g := (mkF m 6 #[.val (.ref x), .val (.ref a)] [.null, (.int 2), (.int 0), (.ref a), (.ref x)])) rfl (by rw [hml]; rfl) (Steps.refl _) (a := x) (argsL := [(.ref a), (.int 0), (.int 2), .null]) (rest := []) (lenOf pdi1_0 rfl) rfl (by show 2 * 0 + _ ≤ _; exact Nat.le_of_eq rfl) (hb hby di1_6) (fun _ _ => ⟨rfl, e0, (by decide : 0 + 2 ≤ _), (by decide : 0 + 6 ≤ _)⟩)
  dsimp only [Pt.U, Pt.locs, Pt.cells, Pt.slots] at X1 l1 y1 z1 st1 hQ1
  subst y1 z1
  obtain ⟨rfl, Nc1, Kc1, t, kt, cd, N, vs, NE, NC, NV, NB, hcd⟩ := hQ1
  have N1 : Fr n0 L1 := by rw [l1]; exact Fr.app N0 Nc1
  have V_a := V_a.keep Kc1 (ninS nax nin0)
  have O1 := O0.keep Kc1 (allS gx all0)
  have K1 := K0.trans Kc1 (allS (Or.inl (List.mem_of_getElem? (i := 0) rfl)) all0)
  have E_x : Exa Z T1.heap x "java/lang/String" := NE
  have F_x_coder : Fld Z T1.heap x "java/lang/String" "coder" "B" (.int cd) := NC
  have F_x_value : Fld Z T1.heap x "java/lang/String" "value" "[B" (.ref t) := NV
  have V_t : Arv Z T1.heap t kt .byte N vs (.int 0) := NB
  refine Go.tr st1 ?_
  show Go p e below s _ _ _ (T1.setTop (mkF m 9 #[.val (.ref x), .val (.ref a)] []))
  exact Go.ret X1 hlk (none) (fun _ => rfl) (by exact ⟨rfl, N1, K1, t, kt, cd, N, vs, E_x, F_x_coder, F_x_value, V_t, hcd⟩) (by decide) (by decide) (fun fs hr => X1.returnOut hx Bd.returns (hb hby di1_9) hr)
 obtain ⟨s2, o2, st2, r2⟩ := G
 exact ⟨s2, o2, castTop (efi2 m x a) st2, r2⟩
theorem pniv3 : plainName "java/lang/String" = true := by first | (simp [plainName, overriddenIn]; done) | decide +kernel
theorem efiv3 (m : MethodId) (x0 : Addr) (x1 : Addr) (x2 : Int32) (x3 : Int32) : entryFrame m #[(.ref x0), (.ref x1), (.int x2), (.int x3), .null] 6 = mkF m 0 #[.val (.ref x0), .val (.ref x1), .val (.int x2), .val (.int x3), .val .null, .unset] [] := by first | (simp [entryFrame, mkF, argsToLocals, Value.category, maxLocals]; done) | rfl
def Qiv3 (Z : State) (x : Addr) (a : Addr) (ka : ClassId) (zc : Int32) (c0 : Int32) (c1 : Int32) (c2 : Int32) (h0 : Heap) (n0 : Nat) (v : Option Value) (h : Heap) (L : List Loc) : Prop := v = none ∧ Fr n0 L ∧ Keep h0 h [x] ∧ ∃ (t : Addr) (kt : ClassId) (cd N : Int32) (vs : List Value), Exa Z h x "java/lang/String" ∧ Fld Z h x "java/lang/String" "coder" "B" (.int cd) ∧ Fld Z h x "java/lang/String" "value" "[B" (.ref t) ∧ Arv Z h t kt .byte N vs (.int 0) ∧ StrChars.Road.CodA ([c0, c1, c2] : List Int32) cd N vs
theorem rmiv3 (l : Launch) (Z : State) (a0 : Array Value) (hw : ∀ d ∈ tables_1, d.before a0 Z = true) (ws : List Jvm.Cond) (x : Addr) (a : Addr) (ka : ClassId) (zc : Int32) (c0 : Int32) (c1 : Int32) (c2 : Int32) (h0 : Heap) (n0 : Nat) (O0 : Old Z n0 h0) (E_x : Exa Z h0 x "java/lang/String") (F_x_coder : Fld Z h0 x "java/lang/String" "coder" "B" (.int 0)) (F_x_value : Fld Z h0 x "java/lang/String" "value" "[B" .null) (V_a : Arv Z h0 a ka .char (3 : Int32) [(.int c0), (.int c1), (.int c2)] (.int 0)) (gx : n0 ≤ x) (nax : a ≠ x) (hc0 : ¬ c0 < 0 ∧ ¬ (65535 : Int32) < c0) (hc1 : ¬ c1 < 0 ∧ ¬ (65535 : Int32) < c1) (hc2 : ¬ c2 < 0 ∧ ¬ (65535 : Int32) < c2) (SA : Sta Z Z.heap "java/lang/StringUTF16" "$assertionsDisabled" "Z" (.int 1)) (SHI : Sta Z Z.heap "java/lang/StringUTF16" "HI_BYTE_SHIFT" "I" (.int 0)) (SLO : Sta Z Z.heap "java/lang/StringUTF16" "LO_BYTE_SHIFT" "I" (.int 8)) (SC : Sta Z Z.heap "java/lang/String" "COMPACT_STRINGS" "Z" (.int zc)) (hcs : ¬ zc = 0) :
  MetFree l mN8 (head1 (Jvm.Cond.code mN8 jdk_42_method_149_code 6 none :: ws) ({ frames := 4, cells := 2, slots := 9, locals := 57 } : Room)) (fun A_ U_ => A_ = #[(.ref x), (.ref a), (.int 0), (.int 3), .null] ∧ Z.Warmed39 U_.vm ∧ U_.heap = h0) (fun _ _ _ _ _ => True) (fun _ U o U' => ∃ v L, o = .returned v ∧ Qiv3 Z x a ka zc c0 c1 c2 h0 n0 v U'.heap L ∧ FrameEnd U o U' L ({ frames := 4, cells := 2, slots := 9, locals := 57 } : Room).cells ({ frames := 4, cells := 2, slots := 9, locals := 57 } : Room).slots) := by
 refine MetFree.of_bodySF (plainFor_of_name pniv3) hisR ?_
 intro p e s m args below meth cd s₁ Bd hml0 hP hK
 obtain ⟨rfl, hZ, hh⟩ := hP
 have hx := Bd.exec
 have hby := Bd.bytes
 have hlk : meth.locks = false := BodyLoose.notSynchronized Bd
 have hml : cd.maxLocals = 6 := hml0
 have hown : s.vm.findClass "java/lang/String" = some m.cls := findClass_of_methodNamed Bd.named
 have hnm := (name_of_methodNamed Bd.named Bd.method).1
 have X0 : Stand p l e ({ frames := 4, cells := 2, slots := 9, locals := 57 } : Room) s m #[(.ref x), (.ref a), (.int 0), (.int 3), .null] below meth cd s₁ [] 0 0 := Stand.of_body Bd
 have e0 : s₁.heap = h0 := by rw [← hh, Bd.state]; rfl
 have N0 := Fr.nil n0
 have K0 : Keep h0 h0 [x] := Keep.refl _ _
 have G : Go p e below s 2 9 (Qiv3 Z x a ka zc c0 c1 c2 h0 n0) (s₁.setTop (mkF m 0 #[.val (.ref x), .val (.ref a), .val (.int 0), .val (.int 3), .val .null, .unset] [])) := by
  refine Go.s (XS.aloadN X0.here hx rfl (hb hby div1_0) rfl rfl) ?_
  obtain ⟨T1, X1, e1, st1⟩ := initO X0 hx hZ hown (own_w hw 24 rfl) (own_w hw 25 rfl) (own_w hw 26 rfl) e0 (g := (mkF m 1 #[.val (.ref x), .val (.ref a), .val (.int 0), .val (.int 3), .val .null, .unset] [(.ref x)])) rfl (by rw [hml]; rfl) rfl (hb hby div1_1) (by decide) (W := 0) (by show 2 * 0 + _ ≤ _; exact Nat.le_of_eq rfl) (by decide)
  refine Go.st st1 ?_
  show Go p e below s _ _ _ (T1.setTop (mkF m 4 #[.val (.ref x), .val (.ref a), .val (.int 0), .val (.int 3), .val .null, .unset] []))
  refine Go.s (XS.iloadN X1.here hx rfl (hb hby div1_4) rfl) ?_
  refine Go.s (XS.ifYes X1.here hx rfl (pc0 := 5) (pc' := 27) rfl (hb hby div1_5) rfl (by decide) (by decide) (by decide)) ?_
  show Go p e below s _ _ _ (T1.setTop (mkF m 27 #[.val (.ref x), .val (.ref a), .val (.int 0), .val (.int 3), .val .null, .unset] []))
  obtain ⟨T2, X2, e2, st2⟩ := getS X1 hx hZ hown (host := "") (own_w hw 52 rfl) Via.refl e1 (SC.ext O0.2) (g := (mkF m 27 #[.val (.ref x), .val (.ref a), .val (.int 0), .val (.int 3), .val .null, .unset] [])) rfl (hb hby div1_27)
  refine Go.st st2 ?_
  show Go p e below s _ _ _ (T2.setTop (mkF m 30 #[.val (.ref x), .val (.ref a), .val (.int 0), .val (.int 3), .val .null, .unset] [(.int zc)]))
  refine Go.s (XS.ifNo X2.here hx rfl (hb hby div1_30) rfl (XT.i0_eq_f hcs)) ?_
  show Go p e below s _ _ _ (T2.setTop (mkF m 33 #[.val (.ref x), .val (.ref a), .val (.int 0), .val (.int 3), .val .null, .unset] []))
  refine Go.s (XS.aloadN X2.here hx rfl (hb hby div1_33) rfl rfl) ?_
  refine Go.s (XS.iloadN X2.here hx rfl (hb hby div1_34) rfl) ?_
  refine Go.s (XS.iloadN X2.here hx rfl (hb hby div1_35) rfl) ?_
  obtain ⟨_, _, ⟨T3, L3, k3, n3⟩, -, X3, ⟨Lc3, hQ3, l3, y3, z3⟩, st3⟩ := Jvm.LawKit.callS X2 hx (y := mN6) hown (mvT hZ (own_w hw 68 rfl)) (mvT hZ (own_w hw 69 rfl)) (mvT hZ (own_w hw 70 rfl)) (mvT hZ (own_w hw 71 rfl)) (by decide) (backOf (W := 0) (rmco3 l Z a0 hw [] a ka c0 c1 c2 h0 n0 O0 V_a hc0 hc1 hc2 SA SHI SLO) hZ (own_w hw 71 rfl) (own_w hw 70 rfl) (by decide) (by decide)) (g := (mkF m 36 #[.val (.ref x), .val (.ref a), .val (.int 0), .val (.int 3), .val .null, .unset] [(.int 3), (.int 0), (.ref a)])) rfl (by rw [hml]; rfl) (argsL := [(.ref a), (.int 0), (.int 3)]) (rest := []) (lenOf pdco1_1 rfl) rfl (by show 2 * 0 + _ ≤ _; exact Nat.le_of_eq rfl) (hb hby div1_36) (fun _ _ => ⟨rfl, e2, (by decide : 0 + 2 ≤ _), (by decide : 0 + 9 ≤ _)⟩)
  dsimp only [Pt.U, Pt.locs, Pt.cells, Pt.slots] at X3 l3 y3 z3 st3 hQ3
  subst y3 z3
  obtain ⟨t, kt, cd, N, vs, rfl, Nc3, Kc3, gt, szt, V_t, hcd⟩ := hQ3
  have N3 : Fr n0 L3 := by rw [l3]; exact Fr.app N0 Nc3
  have g_t : n0 ≤ t := gt
  have sz_t : h0.size ≤ t := Nat.le_trans K0.1 szt
  have ne_x_t : x ≠ t := Nat.ne_of_lt (Nat.lt_of_lt_of_le E_x.lt szt)
  have ne_a_t : a ≠ t := Nat.ne_of_lt (Nat.lt_of_lt_of_le V_a.lt szt)
  have E_x := E_x.keep Kc3
  have F_x_coder := F_x_coder.keep Kc3 nin0
  have F_x_value := F_x_value.keep Kc3 nin0
  have V_a := V_a.keep Kc3 nin0
  have O3 := O0.keep Kc3 all0
  have K3 := K0.trans Kc3 all0
  refine Go.st st3 ?_
  show Go p e below s _ _ _ (T3.setTop (mkF m 39 #[.val (.ref x), .val (.ref a), .val (.int 0), .val (.int 3), .val .null, .unset] [(.ref t)]))
  rcases hcd with ⟨rfl, rfl, rfl, hxx⟩ | ⟨rfl, rfl, rfl, hxx⟩
  · have V_t : Arv Z T3.heap t kt .byte (3 : Int32) [(.int (StrChars.lo8 c0)), (.int (StrChars.lo8 c1)), (.int (StrChars.lo8 c2))] (.int 0) := V_t
    show Go p e below s _ _ _ (T3.setTop (mkF m 39 #[.val (.ref x), .val (.ref a), .val (.int 0), .val (.int 3), .val .null, .unset] [(.ref t)]))
    refine Go.s (XS.astore X3.here hx rfl (hb hby div1_39) rfl rfl (l' := #[.val (.ref x), .val (.ref a), .val (.int 0), .val (.int 3), .val .null, .val (.ref t)]) rfl) ?_
    refine Go.s (XS.aloadN X3.here hx rfl (hb hby div1_41) rfl rfl) ?_
    refine Go.s (XS.aload X3.here hx rfl (hb hby div1_42) rfl rfl) ?_
    refine Go.s (XS.iloadN X3.here hx rfl (hb hby div1_44) rfl) ?_
    obtain ⟨_, _, ⟨T4, L4, k4, n4⟩, -, X4, ⟨Lc4, hQ4, l4, y4, z4⟩, st4⟩ := Jvm.LawKit.callS X3 hx (y := mN7) hown (mvT hZ (own_w hw 75 rfl)) (mvT hZ (own_w hw 76 rfl)) (mvT hZ (own_w hw 70 rfl)) (mvT hZ (own_w hw 77 rfl)) (by decide) (backOf (W := 1) (rmcf l Z a0 hw [] t kt (3 : Int32) (3 : Int32) [(.int (StrChars.lo8 c0)), (.int (StrChars.lo8 c1)), (.int (StrChars.lo8 c2))] T3.heap n0 O3 V_t) hZ (own_w hw 77 rfl) (own_w hw 70 rfl) (by decide) (by decide)) (g := (mkF m 45 #[.val (.ref x), .val (.ref a), .val (.int 0), .val (.int 3), .val .null, .val (.ref t)] [(.int 3), (.ref t), (.ref x)])) rfl (by rw [hml]; rfl) (argsL := [(.ref t), (.int 3)]) (rest := [(.ref x)]) (lenOf pdiv1_0 rfl) rfl (by show 2 * 0 + _ ≤ _; exact Nat.le_of_eq rfl) (hb hby div1_45) (fun _ _ => ⟨rfl, rfl, (by decide : 2 + 0 ≤ _), (by decide : 9 + 0 ≤ _)⟩)
    dsimp only [Pt.U, Pt.locs, Pt.cells, Pt.slots] at X4 l4 y4 z4 st4 hQ4
    subst y4 z4
    obtain ⟨rfl, Nc4, e4⟩ := hQ4
    have N4 : Fr n0 L4 := by rw [l4]; exact Fr.app N3 Nc4
    refine Go.st st4 ?_
    show Go p e below s _ _ _ (T4.setTop (mkF m 48 #[.val (.ref x), .val (.ref a), .val (.int 0), .val (.int 3), .val .null, .val (.ref t)] [(.int 0), (.ref x)]))
    obtain ⟨T5, h5, X5, e5, W5, st5⟩ := putF X4 hx hZ hown (host := "") (Or.inl (own_w hw 34 rfl)) Via.refl e4 F_x_coder E_x (Or.inr ⟨(own_w hw 30 rfl), rfl, hnm⟩) (own_w hw 15 rfl) (ty := .byte) (by decide) rfl rfl (g := (mkF m 48 #[.val (.ref x), .val (.ref a), .val (.int 0), .val (.int 3), .val .null, .val (.ref t)] [(.int 0), (.ref x)])) rfl rfl (hb hby div1_48)
    obtain ⟨lc5, X5, N5⟩ := own_gen X5 (Fr.snoc X5 N4 gx)
    have O5 := O3.wr W5 gx
    have K5 := K3.wr W5 (Or.inl (List.mem_of_getElem? (i := 0) rfl))
    have E_x := E_x.wr W5
    have F_x_value := F_x_value.other W5 (Or.inr (slot_ne (Or.inr (own_w hw 29 rfl)) (Or.inr (own_w hw 30 rfl)) (by decide) (by decide : parseFieldDescriptor "[B" = some (.array .byte)) (by decide : parseFieldDescriptor "B" = some .byte)))
    have V_a := V_a.other W5 nax
    have V_t := V_t.other W5 (Ne.symm ne_x_t)
    have F_x_coder := F_x_coder.same W5
    refine Go.st st5 ?_
    show Go p e below s _ _ _ (T5.setTop (mkF m 51 #[.val (.ref x), .val (.ref a), .val (.int 0), .val (.int 3), .val .null, .val (.ref t)] []))
    refine Go.s (XS.aloadN X5.here hx rfl (hb hby div1_51) rfl rfl) ?_
    refine Go.s (XS.aload X5.here hx rfl (hb hby div1_52) rfl rfl) ?_
    obtain ⟨T6, h6, X6, e6, W6, st6⟩ := putF X5 hx hZ hown (host := "") (Or.inl (own_w hw 33 rfl)) Via.refl e5 F_x_value E_x (Or.inr ⟨(own_w hw 29 rfl), rfl, hnm⟩) (own_w hw 15 rfl) (ty := (.array .byte)) (by decide) rfl rfl (g := (mkF m 54 #[.val (.ref x), .val (.ref a), .val (.int 0), .val (.int 3), .val .null, .val (.ref t)] [(.ref t), (.ref x)])) rfl rfl (hb hby div1_54)
    obtain ⟨lc6, X6, N6⟩ := own_gen X6 (Fr.snoc X6 N5 gx)
    have O6 := O5.wr W6 gx
    have K6 := K5.wr W6 (Or.inl (List.mem_of_getElem? (i := 0) rfl))
    have E_x := E_x.wr W6
    have F_x_coder := F_x_coder.other W6 (Or.inr (slot_ne (Or.inr (own_w hw 30 rfl)) (Or.inr (own_w hw 29 rfl)) (by decide) (by decide : parseFieldDescriptor "B" = some .byte) (by decide : parseFieldDescriptor "[B" = some (.array .byte))))
    have V_a := V_a.other W6 nax
    have V_t := V_t.other W6 (Ne.symm ne_x_t)
    have F_x_value := F_x_value.same W6
    refine Go.st st6 ?_
    show Go p e below s _ _ _ (T6.setTop (mkF m 57 #[.val (.ref x), .val (.ref a), .val (.int 0), .val (.int 3), .val .null, .val (.ref t)] []))
    exact Go.ret X6 hlk (none) (fun _ => rfl) (by rw [e6]; exact ⟨rfl, N6, K6, t, kt, _, _, _, E_x, F_x_coder, F_x_value, V_t, Or.inl ⟨rfl, rfl, rfl, hxx⟩⟩) (by decide) (by decide) (fun fs hr => X6.returnOut hx Bd.returns (hb hby div1_57) hr)
  · have V_t : Arv Z T3.heap t kt .byte (6 : Int32) [(.int (StrChars.lo8 c0)), (.int (StrChars.hi8 c0)), (.int (StrChars.lo8 c1)), (.int (StrChars.hi8 c1)), (.int (StrChars.lo8 c2)), (.int (StrChars.hi8 c2))] (.int 0) := V_t
    show Go p e below s _ _ _ (T3.setTop (mkF m 39 #[.val (.ref x), .val (.ref a), .val (.int 0), .val (.int 3), .val .null, .unset] [(.ref t)]))
    refine Go.s (XS.astore X3.here hx rfl (hb hby div1_39) rfl rfl (l' := #[.val (.ref x), .val (.ref a), .val (.int 0), .val (.int 3), .val .null, .val (.ref t)]) rfl) ?_
    refine Go.s (XS.aloadN X3.here hx rfl (hb hby div1_41) rfl rfl) ?_
    refine Go.s (XS.aload X3.here hx rfl (hb hby div1_42) rfl rfl) ?_
    refine Go.s (XS.iloadN X3.here hx rfl (hb hby div1_44) rfl) ?_
    obtain ⟨_, _, ⟨T7, L7, k7, n7⟩, -, X7, ⟨Lc7, hQ7, l7, y7, z7⟩, st7⟩ := Jvm.LawKit.callS X3 hx (y := mN7) hown (mvT hZ (own_w hw 75 rfl)) (mvT hZ (own_w hw 76 rfl)) (mvT hZ (own_w hw 70 rfl)) (mvT hZ (own_w hw 77 rfl)) (by decide) (backOf (W := 1) (rmcf l Z a0 hw [] t kt (3 : Int32) (6 : Int32) [(.int (StrChars.lo8 c0)), (.int (StrChars.hi8 c0)), (.int (StrChars.lo8 c1)), (.int (StrChars.hi8 c1)), (.int (StrChars.lo8 c2)), (.int (StrChars.hi8 c2))] T3.heap n0 O3 V_t) hZ (own_w hw 77 rfl) (own_w hw 70 rfl) (by decide) (by decide)) (g := (mkF m 45 #[.val (.ref x), .val (.ref a), .val (.int 0), .val (.int 3), .val .null, .val (.ref t)] [(.int 3), (.ref t), (.ref x)])) rfl (by rw [hml]; rfl) (argsL := [(.ref t), (.int 3)]) (rest := [(.ref x)]) (lenOf pdiv1_0 rfl) rfl (by show 2 * 0 + _ ≤ _; exact Nat.le_of_eq rfl) (hb hby div1_45) (fun _ _ => ⟨rfl, rfl, (by decide : 2 + 0 ≤ _), (by decide : 9 + 0 ≤ _)⟩)
    dsimp only [Pt.U, Pt.locs, Pt.cells, Pt.slots] at X7 l7 y7 z7 st7 hQ7
    subst y7 z7
    obtain ⟨rfl, Nc7, e7⟩ := hQ7
    have N7 : Fr n0 L7 := by rw [l7]; exact Fr.app N3 Nc7
    refine Go.st st7 ?_
    show Go p e below s _ _ _ (T7.setTop (mkF m 48 #[.val (.ref x), .val (.ref a), .val (.int 0), .val (.int 3), .val .null, .val (.ref t)] [(.int 1), (.ref x)]))
    obtain ⟨T8, h8, X8, e8, W8, st8⟩ := putF X7 hx hZ hown (host := "") (Or.inl (own_w hw 34 rfl)) Via.refl e7 F_x_coder E_x (Or.inr ⟨(own_w hw 30 rfl), rfl, hnm⟩) (own_w hw 15 rfl) (ty := .byte) (by decide) rfl rfl (g := (mkF m 48 #[.val (.ref x), .val (.ref a), .val (.int 0), .val (.int 3), .val .null, .val (.ref t)] [(.int 1), (.ref x)])) rfl rfl (hb hby div1_48)
    obtain ⟨lc8, X8, N8⟩ := own_gen X8 (Fr.snoc X8 N7 gx)
    have O8 := O3.wr W8 gx
    have K8 := K3.wr W8 (Or.inl (List.mem_of_getElem? (i := 0) rfl))
    have E_x := E_x.wr W8
    have F_x_value := F_x_value.other W8 (Or.inr (slot_ne (Or.inr (own_w hw 29 rfl)) (Or.inr (own_w hw 30 rfl)) (by decide) (by decide : parseFieldDescriptor "[B" = some (.array .byte)) (by decide : parseFieldDescriptor "B" = some .byte)))
    have V_a := V_a.other W8 nax
    have V_t := V_t.other W8 (Ne.symm ne_x_t)
    have F_x_coder := F_x_coder.same W8
    refine Go.st st8 ?_
    show Go p e below s _ _ _ (T8.setTop (mkF m 51 #[.val (.ref x), .val (.ref a), .val (.int 0), .val (.int 3), .val .null, .val (.ref t)] []))
    refine Go.s (XS.aloadN X8.here hx rfl (hb hby div1_51) rfl rfl) ?_
    refine Go.s (XS.aload X8.here hx rfl (hb hby div1_52) rfl rfl) ?_
    obtain ⟨T9, h9, X9, e9, W9, st9⟩ := putF X8 hx hZ hown (host := "") (Or.inl (own_w hw 33 rfl)) Via.refl e8 F_x_value E_x (Or.inr ⟨(own_w hw 29 rfl), rfl, hnm⟩) (own_w hw 15 rfl) (ty := (.array .byte)) (by decide) rfl rfl (g := (mkF m 54 #[.val (.ref x), .val (.ref a), .val (.int 0), .val (.int 3), .val .null, .val (.ref t)] [(.ref t), (.ref x)])) rfl rfl (hb hby div1_54)
    obtain ⟨lc9, X9, N9⟩ := own_gen X9 (Fr.snoc X9 N8 gx)
    have O9 := O8.wr W9 gx
    have K9 := K8.wr W9 (Or.inl (List.mem_of_getElem? (i := 0) rfl))
    have E_x := E_x.wr W9
    have F_x_coder := F_x_coder.other W9 (Or.inr (slot_ne (Or.inr (own_w hw 30 rfl)) (Or.inr (own_w hw 29 rfl)) (by decide) (by decide : parseFieldDescriptor "B" = some .byte) (by decide : parseFieldDescriptor "[B" = some (.array .byte))))
    have V_a := V_a.other W9 nax
    have V_t := V_t.other W9 (Ne.symm ne_x_t)
    have F_x_value := F_x_value.same W9
    refine Go.st st9 ?_
    show Go p e below s _ _ _ (T9.setTop (mkF m 57 #[.val (.ref x), .val (.ref a), .val (.int 0), .val (.int 3), .val .null, .val (.ref t)] []))
    exact Go.ret X9 hlk (none) (fun _ => rfl) (by rw [e9]; exact ⟨rfl, N9, K9, t, kt, _, _, _, E_x, F_x_coder, F_x_value, V_t, Or.inr ⟨rfl, rfl, rfl, hxx⟩⟩) (by decide) (by decide) (fun fs hr => X9.returnOut hx Bd.returns (hb hby div1_57) hr)
 obtain ⟨s2, o2, st2, r2⟩ := G
 exact ⟨s2, o2, castTop (efiv3 m x a (0 : Int32) (3 : Int32)) st2, r2⟩
theorem pni3 : plainName "java/lang/String" = true := by first | (simp [plainName, overriddenIn]; done) | decide +kernel
theorem efi3 (m : MethodId) (x0 : Addr) (x1 : Addr) : entryFrame m #[(.ref x0), (.ref x1)] 2 = mkF m 0 #[.val (.ref x0), .val (.ref x1)] [] := by first | (simp [entryFrame, mkF, argsToLocals, Value.category, maxLocals]; done) | rfl
def Qi3 (Z : State) (x : Addr) (a : Addr) (ka : ClassId) (zc : Int32) (c0 : Int32) (c1 : Int32) (c2 : Int32) (h0 : Heap) (n0 : Nat) (v : Option Value) (h : Heap) (L : List Loc) : Prop := v = none ∧ Fr n0 L ∧ Keep h0 h [x] ∧ ∃ (t : Addr) (kt : ClassId) (cd N : Int32) (vs : List Value), Exa Z h x "java/lang/String" ∧ Fld Z h x "java/lang/String" "coder" "B" (.int cd) ∧ Fld Z h x "java/lang/String" "value" "[B" (.ref t) ∧ Arv Z h t kt .byte N vs (.int 0) ∧ StrChars.Road.CodA ([c0, c1, c2] : List Int32) cd N vs
theorem rmi3 (l : Launch) (Z : State) (a0 : Array Value) (hw : ∀ d ∈ tables_1, d.before a0 Z = true) (ws : List Jvm.Cond) (x : Addr) (a : Addr) (ka : ClassId) (zc : Int32) (c0 : Int32) (c1 : Int32) (c2 : Int32) (h0 : Heap) (n0 : Nat) (O0 : Old Z n0 h0) (E_x : Exa Z h0 x "java/lang/String") (F_x_coder : Fld Z h0 x "java/lang/String" "coder" "B" (.int 0)) (F_x_value : Fld Z h0 x "java/lang/String" "value" "[B" .null) (V_a : Arv Z h0 a ka .char (3 : Int32) [(.int c0), (.int c1), (.int c2)] (.int 0)) (gx : n0 ≤ x) (nax : a ≠ x) (hc0 : ¬ c0 < 0 ∧ ¬ (65535 : Int32) < c0) (hc1 : ¬ c1 < 0 ∧ ¬ (65535 : Int32) < c1) (hc2 : ¬ c2 < 0 ∧ ¬ (65535 : Int32) < c2) (SA : Sta Z Z.heap "java/lang/StringUTF16" "$assertionsDisabled" "Z" (.int 1)) (SHI : Sta Z Z.heap "java/lang/StringUTF16" "HI_BYTE_SHIFT" "I" (.int 0)) (SLO : Sta Z Z.heap "java/lang/StringUTF16" "LO_BYTE_SHIFT" "I" (.int 8)) (SC : Sta Z Z.heap "java/lang/String" "COMPACT_STRINGS" "Z" (.int zc)) (hcs : ¬ zc = 0) :
  MetFree l mN9 (head1 (Jvm.Cond.code mN9 jdk_42_method_3_code 2 none :: ws) ({ frames := 5, cells := 2, slots := 9, locals := 74 } : Room)) (fun A_ U_ => A_ = #[(.ref x), (.ref a)] ∧ Z.Warmed39 U_.vm ∧ U_.heap = h0) (fun _ _ _ _ _ => True) (fun _ U o U' => ∃ v L, o = .returned v ∧ Qi3 Z x a ka zc c0 c1 c2 h0 n0 v U'.heap L ∧ FrameEnd U o U' L ({ frames := 5, cells := 2, slots := 9, locals := 74 } : Room).cells ({ frames := 5, cells := 2, slots := 9, locals := 74 } : Room).slots) := by
 refine MetFree.of_bodySF (plainFor_of_name pni3) hisR ?_
 intro p e s m args below meth cd s₁ Bd hml0 hP hK
 obtain ⟨rfl, hZ, hh⟩ := hP
 have hx := Bd.exec
 have hby := Bd.bytes
 have hlk : meth.locks = false := BodyLoose.notSynchronized Bd
 have hml : cd.maxLocals = 2 := hml0
 have hown : s.vm.findClass "java/lang/String" = some m.cls := findClass_of_methodNamed Bd.named
 have X0 : Stand p l e ({ frames := 5, cells := 2, slots := 9, locals := 74 } : Room) s m #[(.ref x), (.ref a)] below meth cd s₁ [] 0 0 := Stand.of_body Bd
 have e0 : s₁.heap = h0 := by rw [← hh, Bd.state]; rfl
 have N0 := Fr.nil n0
 have K0 : Keep h0 h0 [x] := Keep.refl _ _
 have G : Go p e below s 2 9 (Qi3 Z x a ka zc c0 c1 c2 h0 n0) (s₁.setTop (mkF m 0 #[.val (.ref x), .val (.ref a)] [])) := by
  refine Go.s (XS.aloadN X0.here hx rfl (hb hby di1_0) rfl rfl) ?_
  refine Go.s (XS.aloadN X0.here hx rfl (hb hby di1_1) rfl rfl) ?_
  refine Go.s (XS.iconst X0.here hx rfl (hb hby di1_2)) ?_
  refine Go.s (XS.aloadN X0.here hx rfl (hb hby di1_3) rfl rfl) ?_
  refine Go.s (own_len X0 hx hZ e0 V_a (g := (mkF m 4 #[.val (.ref x), .val (.ref a)] [(.ref a), (.int 0), (.ref a), (.ref x)])) rfl rfl (hb hby di1_4) _) ?_
  show Go p e below s _ _ _ (s₁.setTop (mkF m 5 #[.val (.ref x), .val (.ref a)] [(.int 3), (.int 0), (.ref a), (.ref x)]))
  refine Go.s (XS.aconstNull X0.here hx rfl (hb hby di1_5)) ?_
  obtain ⟨_, _, ⟨T1, L1, k1, n1⟩, -, X1, ⟨Lc1, hQ1, l1, y1, z1⟩, st1⟩ := X0.specialBack hx (y := mN8) rfl hown (mvT hZ (own_w hw 20 rfl)) (mvT hZ (own_w hw 21 rfl)) (mvT hZ (own_w hw 23 rfl)) (by decide) (backOf (W := 0) (rmiv3 l Z a0 hw [] x a ka zc c0 c1 c2 h0 n0 O0 E_x F_x_coder F_x_value V_a gx nax hc0 hc1 hc2 SA SHI SLO SC hcs) hZ (own_w hw 23 rfl) (own_w hw 16 rfl) (by decide) (by decide)) (g := (mkF m 6 #[.val (.ref x), .val (.ref a)] [.null, (.int 3), (.int 0), (.ref a), (.ref x)])) rfl (by rw [hml]; rfl) (Steps.refl _) (a := x) (argsL := [(.ref a), (.int 0), (.int 3), .null]) (rest := []) (lenOf pdi1_0 rfl) rfl (by show 2 * 0 + _ ≤ _; exact Nat.le_of_eq rfl) (hb hby di1_6) (fun _ _ => ⟨rfl, e0, (by decide : 0 + 2 ≤ _), (by decide : 0 + 9 ≤ _)⟩)
  dsimp only [Pt.U, Pt.locs, Pt.cells, Pt.slots] at X1 l1 y1 z1 st1 hQ1
  subst y1 z1
  obtain ⟨rfl, Nc1, Kc1, t, kt, cd, N, vs, NE, NC, NV, NB, hcd⟩ := hQ1
  have N1 : Fr n0 L1 := by rw [l1]; exact Fr.app N0 Nc1
  have V_a := V_a.keep Kc1 (ninS nax nin0)
  have O1 := O0.keep Kc1 (allS gx all0)
  have K1 := K0.trans Kc1 (allS (Or.inl (List.mem_of_getElem? (i := 0) rfl)) all0)
  have E_x : Exa Z T1.heap x "java/lang/String" := NE
  have F_x_coder : Fld Z T1.heap x "java/lang/String" "coder" "B" (.int cd) := NC
  have F_x_value : Fld Z T1.heap x "java/lang/String" "value" "[B" (.ref t) := NV
  have V_t : Arv Z T1.heap t kt .byte N vs (.int 0) := NB
  refine Go.tr st1 ?_
  show Go p e below s _ _ _ (T1.setTop (mkF m 9 #[.val (.ref x), .val (.ref a)] []))
  exact Go.ret X1 hlk (none) (fun _ => rfl) (by exact ⟨rfl, N1, K1, t, kt, cd, N, vs, E_x, F_x_coder, F_x_value, V_t, hcd⟩) (by decide) (by decide) (fun fs hr => X1.returnOut hx Bd.returns (hb hby di1_9) hr)
 obtain ⟨s2, o2, st2, r2⟩ := G
 exact ⟨s2, o2, castTop (efi3 m x a) st2, r2⟩
theorem pniv4 : plainName "java/lang/String" = true := by first | (simp [plainName, overriddenIn]; done) | decide +kernel
theorem efiv4 (m : MethodId) (x0 : Addr) (x1 : Addr) (x2 : Int32) (x3 : Int32) : entryFrame m #[(.ref x0), (.ref x1), (.int x2), (.int x3), .null] 6 = mkF m 0 #[.val (.ref x0), .val (.ref x1), .val (.int x2), .val (.int x3), .val .null, .unset] [] := by first | (simp [entryFrame, mkF, argsToLocals, Value.category, maxLocals]; done) | rfl
def Qiv4 (Z : State) (x : Addr) (a : Addr) (ka : ClassId) (zc : Int32) (c0 : Int32) (c1 : Int32) (c2 : Int32) (c3 : Int32) (h0 : Heap) (n0 : Nat) (v : Option Value) (h : Heap) (L : List Loc) : Prop := v = none ∧ Fr n0 L ∧ Keep h0 h [x] ∧ ∃ (t : Addr) (kt : ClassId) (cd N : Int32) (vs : List Value), Exa Z h x "java/lang/String" ∧ Fld Z h x "java/lang/String" "coder" "B" (.int cd) ∧ Fld Z h x "java/lang/String" "value" "[B" (.ref t) ∧ Arv Z h t kt .byte N vs (.int 0) ∧ StrChars.Road.CodA ([c0, c1, c2, c3] : List Int32) cd N vs
theorem rmiv4 (l : Launch) (Z : State) (a0 : Array Value) (hw : ∀ d ∈ tables_1, d.before a0 Z = true) (ws : List Jvm.Cond) (x : Addr) (a : Addr) (ka : ClassId) (zc : Int32) (c0 : Int32) (c1 : Int32) (c2 : Int32) (c3 : Int32) (h0 : Heap) (n0 : Nat) (O0 : Old Z n0 h0) (E_x : Exa Z h0 x "java/lang/String") (F_x_coder : Fld Z h0 x "java/lang/String" "coder" "B" (.int 0)) (F_x_value : Fld Z h0 x "java/lang/String" "value" "[B" .null) (V_a : Arv Z h0 a ka .char (4 : Int32) [(.int c0), (.int c1), (.int c2), (.int c3)] (.int 0)) (gx : n0 ≤ x) (nax : a ≠ x) (hc0 : ¬ c0 < 0 ∧ ¬ (65535 : Int32) < c0) (hc1 : ¬ c1 < 0 ∧ ¬ (65535 : Int32) < c1) (hc2 : ¬ c2 < 0 ∧ ¬ (65535 : Int32) < c2) (hc3 : ¬ c3 < 0 ∧ ¬ (65535 : Int32) < c3) (SA : Sta Z Z.heap "java/lang/StringUTF16" "$assertionsDisabled" "Z" (.int 1)) (SHI : Sta Z Z.heap "java/lang/StringUTF16" "HI_BYTE_SHIFT" "I" (.int 0)) (SLO : Sta Z Z.heap "java/lang/StringUTF16" "LO_BYTE_SHIFT" "I" (.int 8)) (SC : Sta Z Z.heap "java/lang/String" "COMPACT_STRINGS" "Z" (.int zc)) (hcs : ¬ zc = 0) :
  MetFree l mN8 (head1 (Jvm.Cond.code mN8 jdk_42_method_149_code 6 none :: ws) ({ frames := 4, cells := 2, slots := 12, locals := 57 } : Room)) (fun A_ U_ => A_ = #[(.ref x), (.ref a), (.int 0), (.int 4), .null] ∧ Z.Warmed39 U_.vm ∧ U_.heap = h0) (fun _ _ _ _ _ => True) (fun _ U o U' => ∃ v L, o = .returned v ∧ Qiv4 Z x a ka zc c0 c1 c2 c3 h0 n0 v U'.heap L ∧ FrameEnd U o U' L ({ frames := 4, cells := 2, slots := 12, locals := 57 } : Room).cells ({ frames := 4, cells := 2, slots := 12, locals := 57 } : Room).slots) := by
 refine MetFree.of_bodySF (plainFor_of_name pniv4) hisR ?_
 intro p e s m args below meth cd s₁ Bd hml0 hP hK
 obtain ⟨rfl, hZ, hh⟩ := hP
 have hx := Bd.exec
 have hby := Bd.bytes
 have hlk : meth.locks = false := BodyLoose.notSynchronized Bd
 have hml : cd.maxLocals = 6 := hml0
 have hown : s.vm.findClass "java/lang/String" = some m.cls := findClass_of_methodNamed Bd.named
 have hnm := (name_of_methodNamed Bd.named Bd.method).1
 have X0 : Stand p l e ({ frames := 4, cells := 2, slots := 12, locals := 57 } : Room) s m #[(.ref x), (.ref a), (.int 0), (.int 4), .null] below meth cd s₁ [] 0 0 := Stand.of_body Bd
 have e0 : s₁.heap = h0 := by rw [← hh, Bd.state]; rfl
 have N0 := Fr.nil n0
 have K0 : Keep h0 h0 [x] := Keep.refl _ _
 have G : Go p e below s 2 12 (Qiv4 Z x a ka zc c0 c1 c2 c3 h0 n0) (s₁.setTop (mkF m 0 #[.val (.ref x), .val (.ref a), .val (.int 0), .val (.int 4), .val .null, .unset] [])) := by
  refine Go.s (XS.aloadN X0.here hx rfl (hb hby div1_0) rfl rfl) ?_
  obtain ⟨T1, X1, e1, st1⟩ := initO X0 hx hZ hown (own_w hw 24 rfl) (own_w hw 25 rfl) (own_w hw 26 rfl) e0 (g := (mkF m 1 #[.val (.ref x), .val (.ref a), .val (.int 0), .val (.int 4), .val .null, .unset] [(.ref x)])) rfl (by rw [hml]; rfl) rfl (hb hby div1_1) (by decide) (W := 0) (by show 2 * 0 + _ ≤ _; exact Nat.le_of_eq rfl) (by decide)
  refine Go.st st1 ?_
  show Go p e below s _ _ _ (T1.setTop (mkF m 4 #[.val (.ref x), .val (.ref a), .val (.int 0), .val (.int 4), .val .null, .unset] []))
  refine Go.s (XS.iloadN X1.here hx rfl (hb hby div1_4) rfl) ?_
  refine Go.s (XS.ifYes X1.here hx rfl (pc0 := 5) (pc' := 27) rfl (hb hby div1_5) rfl (by decide) (by decide) (by decide)) ?_
  show Go p e below s _ _ _ (T1.setTop (mkF m 27 #[.val (.ref x), .val (.ref a), .val (.int 0), .val (.int 4), .val .null, .unset] []))
  obtain ⟨T2, X2, e2, st2⟩ := getS X1 hx hZ hown (host := "") (own_w hw 52 rfl) Via.refl e1 (SC.ext O0.2) (g := (mkF m 27 #[.val (.ref x), .val (.ref a), .val (.int 0), .val (.int 4), .val .null, .unset] [])) rfl (hb hby div1_27)
  refine Go.st st2 ?_
  show Go p e below s _ _ _ (T2.setTop (mkF m 30 #[.val (.ref x), .val (.ref a), .val (.int 0), .val (.int 4), .val .null, .unset] [(.int zc)]))
  refine Go.s (XS.ifNo X2.here hx rfl (hb hby div1_30) rfl (XT.i0_eq_f hcs)) ?_
  show Go p e below s _ _ _ (T2.setTop (mkF m 33 #[.val (.ref x), .val (.ref a), .val (.int 0), .val (.int 4), .val .null, .unset] []))
  refine Go.s (XS.aloadN X2.here hx rfl (hb hby div1_33) rfl rfl) ?_
  refine Go.s (XS.iloadN X2.here hx rfl (hb hby div1_34) rfl) ?_
  refine Go.s (XS.iloadN X2.here hx rfl (hb hby div1_35) rfl) ?_
  obtain ⟨_, _, ⟨T3, L3, k3, n3⟩, -, X3, ⟨Lc3, hQ3, l3, y3, z3⟩, st3⟩ := Jvm.LawKit.callS X2 hx (y := mN6) hown (mvT hZ (own_w hw 68 rfl)) (mvT hZ (own_w hw 69 rfl)) (mvT hZ (own_w hw 70 rfl)) (mvT hZ (own_w hw 71 rfl)) (by decide) (backOf (W := 0) (rmco4 l Z a0 hw [] a ka c0 c1 c2 c3 h0 n0 O0 V_a hc0 hc1 hc2 hc3 SA SHI SLO) hZ (own_w hw 71 rfl) (own_w hw 70 rfl) (by decide) (by decide)) (g := (mkF m 36 #[.val (.ref x), .val (.ref a), .val (.int 0), .val (.int 4), .val .null, .unset] [(.int 4), (.int 0), (.ref a)])) rfl (by rw [hml]; rfl) (argsL := [(.ref a), (.int 0), (.int 4)]) (rest := []) (lenOf pdco1_1 rfl) rfl (by show 2 * 0 + _ ≤ _; exact Nat.le_of_eq rfl) (hb hby div1_36) (fun _ _ => ⟨rfl, e2, (by decide : 0 + 2 ≤ _), (by decide : 0 + 12 ≤ _)⟩)
  dsimp only [Pt.U, Pt.locs, Pt.cells, Pt.slots] at X3 l3 y3 z3 st3 hQ3
  subst y3 z3
  obtain ⟨t, kt, cd, N, vs, rfl, Nc3, Kc3, gt, szt, V_t, hcd⟩ := hQ3
  have N3 : Fr n0 L3 := by rw [l3]; exact Fr.app N0 Nc3
  have g_t : n0 ≤ t := gt
  have sz_t : h0.size ≤ t := Nat.le_trans K0.1 szt
  have ne_x_t : x ≠ t := Nat.ne_of_lt (Nat.lt_of_lt_of_le E_x.lt szt)
  have ne_a_t : a ≠ t := Nat.ne_of_lt (Nat.lt_of_lt_of_le V_a.lt szt)
  have E_x := E_x.keep Kc3
  have F_x_coder := F_x_coder.keep Kc3 nin0
  have F_x_value := F_x_value.keep Kc3 nin0
  have V_a := V_a.keep Kc3 nin0
  have O3 := O0.keep Kc3 all0
  have K3 := K0.trans Kc3 all0
  refine Go.st st3 ?_
  show Go p e below s _ _ _ (T3.setTop (mkF m 39 #[.val (.ref x), .val (.ref a), .val (.int 0), .val (.int 4), .val .null, .unset] [(.ref t)]))
  rcases hcd with ⟨rfl, rfl, rfl, hxx⟩ | ⟨rfl, rfl, rfl, hxx⟩
  · have V_t : Arv Z T3.heap t kt .byte (4 : Int32) [(.int (StrChars.lo8 c0)), (.int (StrChars.lo8 c1)), (.int (StrChars.lo8 c2)), (.int (StrChars.lo8 c3))] (.int 0) := V_t
    show Go p e below s _ _ _ (T3.setTop (mkF m 39 #[.val (.ref x), .val (.ref a), .val (.int 0), .val (.int 4), .val .null, .unset] [(.ref t)]))
    refine Go.s (XS.astore X3.here hx rfl (hb hby div1_39) rfl rfl (l' := #[.val (.ref x), .val (.ref a), .val (.int 0), .val (.int 4), .val .null, .val (.ref t)]) rfl) ?_
    refine Go.s (XS.aloadN X3.here hx rfl (hb hby div1_41) rfl rfl) ?_
    refine Go.s (XS.aload X3.here hx rfl (hb hby div1_42) rfl rfl) ?_
    refine Go.s (XS.iloadN X3.here hx rfl (hb hby div1_44) rfl) ?_
    obtain ⟨_, _, ⟨T4, L4, k4, n4⟩, -, X4, ⟨Lc4, hQ4, l4, y4, z4⟩, st4⟩ := Jvm.LawKit.callS X3 hx (y := mN7) hown (mvT hZ (own_w hw 75 rfl)) (mvT hZ (own_w hw 76 rfl)) (mvT hZ (own_w hw 70 rfl)) (mvT hZ (own_w hw 77 rfl)) (by decide) (backOf (W := 1) (rmcf l Z a0 hw [] t kt (4 : Int32) (4 : Int32) [(.int (StrChars.lo8 c0)), (.int (StrChars.lo8 c1)), (.int (StrChars.lo8 c2)), (.int (StrChars.lo8 c3))] T3.heap n0 O3 V_t) hZ (own_w hw 77 rfl) (own_w hw 70 rfl) (by decide) (by decide)) (g := (mkF m 45 #[.val (.ref x), .val (.ref a), .val (.int 0), .val (.int 4), .val .null, .val (.ref t)] [(.int 4), (.ref t), (.ref x)])) rfl (by rw [hml]; rfl) (argsL := [(.ref t), (.int 4)]) (rest := [(.ref x)]) (lenOf pdiv1_0 rfl) rfl (by show 2 * 0 + _ ≤ _; exact Nat.le_of_eq rfl) (hb hby div1_45) (fun _ _ => ⟨rfl, rfl, (by decide : 2 + 0 ≤ _), (by decide : 12 + 0 ≤ _)⟩)
    dsimp only [Pt.U, Pt.locs, Pt.cells, Pt.slots] at X4 l4 y4 z4 st4 hQ4
    subst y4 z4
    obtain ⟨rfl, Nc4, e4⟩ := hQ4
    have N4 : Fr n0 L4 := by rw [l4]; exact Fr.app N3 Nc4
    refine Go.st st4 ?_
    show Go p e below s _ _ _ (T4.setTop (mkF m 48 #[.val (.ref x), .val (.ref a), .val (.int 0), .val (.int 4), .val .null, .val (.ref t)] [(.int 0), (.ref x)]))
    obtain ⟨T5, h5, X5, e5, W5, st5⟩ := putF X4 hx hZ hown (host := "") (Or.inl (own_w hw 34 rfl)) Via.refl e4 F_x_coder E_x (Or.inr ⟨(own_w hw 30 rfl), rfl, hnm⟩) (own_w hw 15 rfl) (ty := .byte) (by decide) rfl rfl (g := (mkF m 48 #[.val (.ref x), .val (.ref a), .val (.int 0), .val (.int 4), .val .null, .val (.ref t)] [(.int 0), (.ref x)])) rfl rfl (hb hby div1_48)
    obtain ⟨lc5, X5, N5⟩ := own_gen X5 (Fr.snoc X5 N4 gx)
    have O5 := O3.wr W5 gx
    have K5 := K3.wr W5 (Or.inl (List.mem_of_getElem? (i := 0) rfl))
    have E_x := E_x.wr W5
    have F_x_value := F_x_value.other W5 (Or.inr (slot_ne (Or.inr (own_w hw 29 rfl)) (Or.inr (own_w hw 30 rfl)) (by decide) (by decide : parseFieldDescriptor "[B" = some (.array .byte)) (by decide : parseFieldDescriptor "B" = some .byte)))
    have V_a := V_a.other W5 nax
    have V_t := V_t.other W5 (Ne.symm ne_x_t)
    have F_x_coder := F_x_coder.same W5
    refine Go.st st5 ?_
    show Go p e below s _ _ _ (T5.setTop (mkF m 51 #[.val (.ref x), .val (.ref a), .val (.int 0), .val (.int 4), .val .null, .val (.ref t)] []))
    refine Go.s (XS.aloadN X5.here hx rfl (hb hby div1_51) rfl rfl) ?_
    refine Go.s (XS.aload X5.here hx rfl (hb hby div1_52) rfl rfl) ?_
    obtain ⟨T6, h6, X6, e6, W6, st6⟩ := putF X5 hx hZ hown (host := "") (Or.inl (own_w hw 33 rfl)) Via.refl e5 F_x_value E_x (Or.inr ⟨(own_w hw 29 rfl), rfl, hnm⟩) (own_w hw 15 rfl) (ty := (.array .byte)) (by decide) rfl rfl (g := (mkF m 54 #[.val (.ref x), .val (.ref a), .val (.int 0), .val (.int 4), .val .null, .val (.ref t)] [(.ref t), (.ref x)])) rfl rfl (hb hby div1_54)
    obtain ⟨lc6, X6, N6⟩ := own_gen X6 (Fr.snoc X6 N5 gx)
    have O6 := O5.wr W6 gx
    have K6 := K5.wr W6 (Or.inl (List.mem_of_getElem? (i := 0) rfl))
    have E_x := E_x.wr W6
    have F_x_coder := F_x_coder.other W6 (Or.inr (slot_ne (Or.inr (own_w hw 30 rfl)) (Or.inr (own_w hw 29 rfl)) (by decide) (by decide : parseFieldDescriptor "B" = some .byte) (by decide : parseFieldDescriptor "[B" = some (.array .byte))))
    have V_a := V_a.other W6 nax
    have V_t := V_t.other W6 (Ne.symm ne_x_t)
    have F_x_value := F_x_value.same W6
    refine Go.st st6 ?_
    show Go p e below s _ _ _ (T6.setTop (mkF m 57 #[.val (.ref x), .val (.ref a), .val (.int 0), .val (.int 4), .val .null, .val (.ref t)] []))
    exact Go.ret X6 hlk (none) (fun _ => rfl) (by rw [e6]; exact ⟨rfl, N6, K6, t, kt, _, _, _, E_x, F_x_coder, F_x_value, V_t, Or.inl ⟨rfl, rfl, rfl, hxx⟩⟩) (by decide) (by decide) (fun fs hr => X6.returnOut hx Bd.returns (hb hby div1_57) hr)
  · have V_t : Arv Z T3.heap t kt .byte (8 : Int32) [(.int (StrChars.lo8 c0)), (.int (StrChars.hi8 c0)), (.int (StrChars.lo8 c1)), (.int (StrChars.hi8 c1)), (.int (StrChars.lo8 c2)), (.int (StrChars.hi8 c2)), (.int (StrChars.lo8 c3)), (.int (StrChars.hi8 c3))] (.int 0) := V_t
    show Go p e below s _ _ _ (T3.setTop (mkF m 39 #[.val (.ref x), .val (.ref a), .val (.int 0), .val (.int 4), .val .null, .unset] [(.ref t)]))
    refine Go.s (XS.astore X3.here hx rfl (hb hby div1_39) rfl rfl (l' := #[.val (.ref x), .val (.ref a), .val (.int 0), .val (.int 4), .val .null, .val (.ref t)]) rfl) ?_
    refine Go.s (XS.aloadN X3.here hx rfl (hb hby div1_41) rfl rfl) ?_
    refine Go.s (XS.aload X3.here hx rfl (hb hby div1_42) rfl rfl) ?_
    refine Go.s (XS.iloadN X3.here hx rfl (hb hby div1_44) rfl) ?_
    obtain ⟨_, _, ⟨T7, L7, k7, n7⟩, -, X7, ⟨Lc7, hQ7, l7, y7, z7⟩, st7⟩ := Jvm.LawKit.callS X3 hx (y := mN7) hown (mvT hZ (own_w hw 75 rfl)) (mvT hZ (own_w hw 76 rfl)) (mvT hZ (own_w hw 70 rfl)) (mvT hZ (own_w hw 77 rfl)) (by decide) (backOf (W := 1) (rmcf l Z a0 hw [] t kt (4 : Int32) (8 : Int32) [(.int (StrChars.lo8 c0)), (.int (StrChars.hi8 c0)), (.int (StrChars.lo8 c1)), (.int (StrChars.hi8 c1)), (.int (StrChars.lo8 c2)), (.int (StrChars.hi8 c2)), (.int (StrChars.lo8 c3)), (.int (StrChars.hi8 c3))] T3.heap n0 O3 V_t) hZ (own_w hw 77 rfl) (own_w hw 70 rfl) (by decide) (by decide)) (g := (mkF m 45 #[.val (.ref x), .val (.ref a), .val (.int 0), .val (.int 4), .val .null, .val (.ref t)] [(.int 4), (.ref t), (.ref x)])) rfl (by rw [hml]; rfl) (argsL := [(.ref t), (.int 4)]) (rest := [(.ref x)]) (lenOf pdiv1_0 rfl) rfl (by show 2 * 0 + _ ≤ _; exact Nat.le_of_eq rfl) (hb hby div1_45) (fun _ _ => ⟨rfl, rfl, (by decide : 2 + 0 ≤ _), (by decide : 12 + 0 ≤ _)⟩)
    dsimp only [Pt.U, Pt.locs, Pt.cells, Pt.slots] at X7 l7 y7 z7 st7 hQ7
    subst y7 z7
    obtain ⟨rfl, Nc7, e7⟩ := hQ7
    have N7 : Fr n0 L7 := by rw [l7]; exact Fr.app N3 Nc7
    refine Go.st st7 ?_
    show Go p e below s _ _ _ (T7.setTop (mkF m 48 #[.val (.ref x), .val (.ref a), .val (.int 0), .val (.int 4), .val .null, .val (.ref t)] [(.int 1), (.ref x)]))
    obtain ⟨T8, h8, X8, e8, W8, st8⟩ := putF X7 hx hZ hown (host := "") (Or.inl (own_w hw 34 rfl)) Via.refl e7 F_x_coder E_x (Or.inr ⟨(own_w hw 30 rfl), rfl, hnm⟩) (own_w hw 15 rfl) (ty := .byte) (by decide) rfl rfl (g := (mkF m 48 #[.val (.ref x), .val (.ref a), .val (.int 0), .val (.int 4), .val .null, .val (.ref t)] [(.int 1), (.ref x)])) rfl rfl (hb hby div1_48)
    obtain ⟨lc8, X8, N8⟩ := own_gen X8 (Fr.snoc X8 N7 gx)
    have O8 := O3.wr W8 gx
    have K8 := K3.wr W8 (Or.inl (List.mem_of_getElem? (i := 0) rfl))
    have E_x := E_x.wr W8
    have F_x_value := F_x_value.other W8 (Or.inr (slot_ne (Or.inr (own_w hw 29 rfl)) (Or.inr (own_w hw 30 rfl)) (by decide) (by decide : parseFieldDescriptor "[B" = some (.array .byte)) (by decide : parseFieldDescriptor "B" = some .byte)))
    have V_a := V_a.other W8 nax
    have V_t := V_t.other W8 (Ne.symm ne_x_t)
    have F_x_coder := F_x_coder.same W8
    refine Go.st st8 ?_
    show Go p e below s _ _ _ (T8.setTop (mkF m 51 #[.val (.ref x), .val (.ref a), .val (.int 0), .val (.int 4), .val .null, .val (.ref t)] []))
    refine Go.s (XS.aloadN X8.here hx rfl (hb hby div1_51) rfl rfl) ?_
    refine Go.s (XS.aload X8.here hx rfl (hb hby div1_52) rfl rfl) ?_
    obtain ⟨T9, h9, X9, e9, W9, st9⟩ := putF X8 hx hZ hown (host := "") (Or.inl (own_w hw 33 rfl)) Via.refl e8 F_x_value E_x (Or.inr ⟨(own_w hw 29 rfl), rfl, hnm⟩) (own_w hw 15 rfl) (ty := (.array .byte)) (by decide) rfl rfl (g := (mkF m 54 #[.val (.ref x), .val (.ref a), .val (.int 0), .val (.int 4), .val .null, .val (.ref t)] [(.ref t), (.ref x)])) rfl rfl (hb hby div1_54)
    obtain ⟨lc9, X9, N9⟩ := own_gen X9 (Fr.snoc X9 N8 gx)
    have O9 := O8.wr W9 gx
    have K9 := K8.wr W9 (Or.inl (List.mem_of_getElem? (i := 0) rfl))
    have E_x := E_x.wr W9
    have F_x_coder := F_x_coder.other W9 (Or.inr (slot_ne (Or.inr (own_w hw 30 rfl)) (Or.inr (own_w hw 29 rfl)) (by decide) (by decide : parseFieldDescriptor "B" = some .byte) (by decide : parseFieldDescriptor "[B" = some (.array .byte))))
    have V_a := V_a.other W9 nax
    have V_t := V_t.other W9 (Ne.symm ne_x_t)
    have F_x_value := F_x_value.same W9
    refine Go.st st9 ?_
    show Go p e below s _ _ _ (T9.setTop (mkF m 57 #[.val (.ref x), .val (.ref a), .val (.int 0), .val (.int 4), .val .null, .val (.ref t)] []))
    exact Go.ret X9 hlk (none) (fun _ => rfl) (by rw [e9]; exact ⟨rfl, N9, K9, t, kt, _, _, _, E_x, F_x_coder, F_x_value, V_t, Or.inr ⟨rfl, rfl, rfl, hxx⟩⟩) (by decide) (by decide) (fun fs hr => X9.returnOut hx Bd.returns (hb hby div1_57) hr)
 obtain ⟨s2, o2, st2, r2⟩ := G
 exact ⟨s2, o2, castTop (efiv4 m x a (0 : Int32) (4 : Int32)) st2, r2⟩
theorem pni4 : plainName "java/lang/String" = true := by first | (simp [plainName, overriddenIn]; done) | decide +kernel
theorem efi4 (m : MethodId) (x0 : Addr) (x1 : Addr) : entryFrame m #[(.ref x0), (.ref x1)] 2 = mkF m 0 #[.val (.ref x0), .val (.ref x1)] [] := by first | (simp [entryFrame, mkF, argsToLocals, Value.category, maxLocals]; done) | rfl
def Qi4 (Z : State) (x : Addr) (a : Addr) (ka : ClassId) (zc : Int32) (c0 : Int32) (c1 : Int32) (c2 : Int32) (c3 : Int32) (h0 : Heap) (n0 : Nat) (v : Option Value) (h : Heap) (L : List Loc) : Prop := v = none ∧ Fr n0 L ∧ Keep h0 h [x] ∧ ∃ (t : Addr) (kt : ClassId) (cd N : Int32) (vs : List Value), Exa Z h x "java/lang/String" ∧ Fld Z h x "java/lang/String" "coder" "B" (.int cd) ∧ Fld Z h x "java/lang/String" "value" "[B" (.ref t) ∧ Arv Z h t kt .byte N vs (.int 0) ∧ StrChars.Road.CodA ([c0, c1, c2, c3] : List Int32) cd N vs
theorem rmi4 (l : Launch) (Z : State) (a0 : Array Value) (hw : ∀ d ∈ tables_1, d.before a0 Z = true) (ws : List Jvm.Cond) (x : Addr) (a : Addr) (ka : ClassId) (zc : Int32) (c0 : Int32) (c1 : Int32) (c2 : Int32) (c3 : Int32) (h0 : Heap) (n0 : Nat) (O0 : Old Z n0 h0) (E_x : Exa Z h0 x "java/lang/String") (F_x_coder : Fld Z h0 x "java/lang/String" "coder" "B" (.int 0)) (F_x_value : Fld Z h0 x "java/lang/String" "value" "[B" .null) (V_a : Arv Z h0 a ka .char (4 : Int32) [(.int c0), (.int c1), (.int c2), (.int c3)] (.int 0)) (gx : n0 ≤ x) (nax : a ≠ x) (hc0 : ¬ c0 < 0 ∧ ¬ (65535 : Int32) < c0) (hc1 : ¬ c1 < 0 ∧ ¬ (65535 : Int32) < c1) (hc2 : ¬ c2 < 0 ∧ ¬ (65535 : Int32) < c2) (hc3 : ¬ c3 < 0 ∧ ¬ (65535 : Int32) < c3) (SA : Sta Z Z.heap "java/lang/StringUTF16" "$assertionsDisabled" "Z" (.int 1)) (SHI : Sta Z Z.heap "java/lang/StringUTF16" "HI_BYTE_SHIFT" "I" (.int 0)) (SLO : Sta Z Z.heap "java/lang/StringUTF16" "LO_BYTE_SHIFT" "I" (.int 8)) (SC : Sta Z Z.heap "java/lang/String" "COMPACT_STRINGS" "Z" (.int zc)) (hcs : ¬ zc = 0) :
  MetFree l mN9 (head1 (Jvm.Cond.code mN9 jdk_42_method_3_code 2 none :: ws) ({ frames := 5, cells := 2, slots := 12, locals := 74 } : Room)) (fun A_ U_ => A_ = #[(.ref x), (.ref a)] ∧ Z.Warmed39 U_.vm ∧ U_.heap = h0) (fun _ _ _ _ _ => True) (fun _ U o U' => ∃ v L, o = .returned v ∧ Qi4 Z x a ka zc c0 c1 c2 c3 h0 n0 v U'.heap L ∧ FrameEnd U o U' L ({ frames := 5, cells := 2, slots := 12, locals := 74 } : Room).cells ({ frames := 5, cells := 2, slots := 12, locals := 74 } : Room).slots) := by
 refine MetFree.of_bodySF (plainFor_of_name pni4) hisR ?_
 intro p e s m args below meth cd s₁ Bd hml0 hP hK
 obtain ⟨rfl, hZ, hh⟩ := hP
 have hx := Bd.exec
 have hby := Bd.bytes
 have hlk : meth.locks = false := BodyLoose.notSynchronized Bd
 have hml : cd.maxLocals = 2 := hml0
 have hown : s.vm.findClass "java/lang/String" = some m.cls := findClass_of_methodNamed Bd.named
 have X0 : Stand p l e ({ frames := 5, cells := 2, slots := 12, locals := 74 } : Room) s m #[(.ref x), (.ref a)] below meth cd s₁ [] 0 0 := Stand.of_body Bd
 have e0 : s₁.heap = h0 := by rw [← hh, Bd.state]; rfl
 have N0 := Fr.nil n0
 have K0 : Keep h0 h0 [x] := Keep.refl _ _
 have G : Go p e below s 2 12 (Qi4 Z x a ka zc c0 c1 c2 c3 h0 n0) (s₁.setTop (mkF m 0 #[.val (.ref x), .val (.ref a)] [])) := by
  refine Go.s (XS.aloadN X0.here hx rfl (hb hby di1_0) rfl rfl) ?_
  refine Go.s (XS.aloadN X0.here hx rfl (hb hby di1_1) rfl rfl) ?_
  refine Go.s (XS.iconst X0.here hx rfl (hb hby di1_2)) ?_
  refine Go.s (XS.aloadN X0.here hx rfl (hb hby di1_3) rfl rfl) ?_
  refine Go.s (own_len X0 hx hZ e0 V_a (g := (mkF m 4 #[.val (.ref x), .val (.ref a)] [(.ref a), (.int 0), (.ref a), (.ref x)])) rfl rfl (hb hby di1_4) _) ?_
  show Go p e below s _ _ _ (s₁.setTop (mkF m 5 #[.val (.ref x), .val (.ref a)] [(.int 4), (.int 0), (.ref a), (.ref x)]))
  refine Go.s (XS.aconstNull X0.here hx rfl (hb hby di1_5)) ?_
  obtain ⟨_, _, ⟨T1, L1, k1, n1⟩, -, X1, ⟨Lc1, hQ1, l1, y1, z1⟩, st1⟩ := X0.specialBack hx (y := mN8) rfl hown (mvT hZ (own_w hw 20 rfl)) (mvT hZ (own_w hw 21 rfl)) (mvT hZ (own_w hw 23 rfl)) (by decide) (backOf (W := 0) (rmiv4 l Z a0 hw [] x a ka zc c0 c1 c2 c3 h0 n0 O0 E_x F_x_coder F_x_value V_a gx nax hc0 hc1 hc2 hc3 SA SHI SLO SC hcs) hZ (own_w hw 23 rfl) (own_w hw 16 rfl) (by decide) (by decide)) (g := (mkF m 6 #[.val (.ref x), .val (.ref a)] [.null, (.int 4), (.int 0), (.ref a), (.ref x)])) rfl (by rw [hml]; rfl) (Steps.refl _) (a := x) (argsL := [(.ref a), (.int 0), (.int 4), .null]) (rest := []) (lenOf pdi1_0 rfl) rfl (by show 2 * 0 + _ ≤ _; exact Nat.le_of_eq rfl) (hb hby di1_6) (fun _ _ => ⟨rfl, e0, (by decide : 0 + 2 ≤ _), (by decide : 0 + 12 ≤ _)⟩)
  dsimp only [Pt.U, Pt.locs, Pt.cells, Pt.slots] at X1 l1 y1 z1 st1 hQ1
  subst y1 z1
  obtain ⟨rfl, Nc1, Kc1, t, kt, cd, N, vs, NE, NC, NV, NB, hcd⟩ := hQ1
  have N1 : Fr n0 L1 := by rw [l1]; exact Fr.app N0 Nc1
  have V_a := V_a.keep Kc1 (ninS nax nin0)
  have O1 := O0.keep Kc1 (allS gx all0)
  have K1 := K0.trans Kc1 (allS (Or.inl (List.mem_of_getElem? (i := 0) rfl)) all0)
  have E_x : Exa Z T1.heap x "java/lang/String" := NE
  have F_x_coder : Fld Z T1.heap x "java/lang/String" "coder" "B" (.int cd) := NC
  have F_x_value : Fld Z T1.heap x "java/lang/String" "value" "[B" (.ref t) := NV
  have V_t : Arv Z T1.heap t kt .byte N vs (.int 0) := NB
  refine Go.tr st1 ?_
  show Go p e below s _ _ _ (T1.setTop (mkF m 9 #[.val (.ref x), .val (.ref a)] []))
  exact Go.ret X1 hlk (none) (fun _ => rfl) (by exact ⟨rfl, N1, K1, t, kt, cd, N, vs, E_x, F_x_coder, F_x_value, V_t, hcd⟩) (by decide) (by decide) (fun fs hr => X1.returnOut hx Bd.returns (hb hby di1_9) hr)
 obtain ⟨s2, o2, st2, r2⟩ := G
 exact ⟨s2, o2, castTop (efi4 m x a) st2, r2⟩
theorem dev_8 : decode jdk_42_method_149_code 8 = .ok (.aload_n 0, 1) := by decide +kernel
theorem dev_9 : decode jdk_42_method_149_code 9 = .ok (.ldc 7, 2) := by decide +kernel
theorem dev_11 : decode jdk_42_method_149_code 11 = .ok (.getfield 9, 3) := by decide +kernel
theorem dev_14 : decode jdk_42_method_149_code 14 = .ok (.putfield 9, 3) := by decide +kernel
theorem dev_17 : decode jdk_42_method_149_code 17 = .ok (.aload_n 0, 1) := by decide +kernel
theorem dev_18 : decode jdk_42_method_149_code 18 = .ok (.ldc 7, 2) := by decide +kernel
theorem dev_20 : decode jdk_42_method_149_code 20 = .ok (.getfield 15, 3) := by decide +kernel
theorem dev_23 : decode jdk_42_method_149_code 23 = .ok (.putfield 15, 3) := by decide +kernel
theorem dev_26 : decode jdk_42_method_149_code 26 = .ok (.return_, 1) := by decide +kernel
theorem pnev : plainName "java/lang/String" = true := by first | (simp [plainName, overriddenIn]; done) | decide +kernel
theorem efev (m : MethodId) (x0 : Addr) (x1 : Addr) (x2 : Int32) (x3 : Int32) : entryFrame m #[(.ref x0), (.ref x1), (.int x2), (.int x3), .null] 6 = mkF m 0 #[.val (.ref x0), .val (.ref x1), .val (.int x2), .val (.int x3), .val .null, .unset] [] := by first | (simp [entryFrame, mkF, argsToLocals, Value.category, maxLocals]; done) | rfl
def Qev (Z : State) (x : Addr) (b : Addr) (kb : ClassId) (Ps : List (Array UInt16 × Addr)) (h0 : Heap) (n0 : Nat) (v : Option Value) (vm : Vm) (h : Heap) (L : List Loc) : Prop := v = none ∧ Fr n0 L ∧ Keep h0 h [x] ∧ ∃ (ub : Addr) (kb : ClassId) (P2 : List (Array UInt16 × Addr)), Exa Z h x "java/lang/String" ∧ Fld Z h x "java/lang/String" "coder" "B" (.int 0) ∧ Fld Z h x "java/lang/String" "value" "[B" (.ref ub) ∧ Arv Z h ub kb .byte (0 : Int32) [] (.int 0) ∧ OwnI Z vm P2 ∧ (∀ U : State, Z.Warmed39 U.vm → U.heap = h → OwnI Z U.vm P2 → (∀ q ∈ Ps, SlOf U q.2 q.1) → ConstHeldL U "java/lang/String" 7)
theorem rmev (l : Launch) (Z : State) (a0 : Array Value) (hw : ∀ d ∈ tables_1, d.before a0 Z = true) (ws : List Jvm.Cond) (x : Addr) (b : Addr) (kb : ClassId) (Ps : List (Array UInt16 × Addr)) (h0 : Heap) (n0 : Nat) (O0 : Old Z n0 h0) (E_x : Exa Z h0 x "java/lang/String") (F_x_coder : Fld Z h0 x "java/lang/String" "coder" "B" (.int 0)) (F_x_value : Fld Z h0 x "java/lang/String" "value" "[B" .null) (V_b : Arv Z h0 b kb .char (0 : Int32) [] (.int 0)) (gx : n0 ≤ x) (nbx : b ≠ x) (hHZ : ConstHeldL Z "java/lang/String" 7) :
  MetFree l mN8 (head1 (Jvm.Cond.code mN8 jdk_42_method_149_code 6 none :: ws) ({ frames := 1, cells := 2, slots := 4, locals := 12 } : Room)) (fun A_ U_ => A_ = #[(.ref x), (.ref b), (.int 0), (.int 0), .null] ∧ Z.Warmed39 U_.vm ∧ U_.heap = h0 ∧ OwnI Z U_.vm Ps ∧ ∀ c ∈ ([("java/lang/String", 7)] : List (String × Nat)), ConstHeldL U_ c.1 c.2) (fun _ _ _ _ _ => True) (fun _ U o U' => ∃ v L, o = .returned v ∧ Qev Z x b kb Ps h0 n0 v U'.vm U'.heap L ∧ ReturnedEndW U o U' L ({ frames := 1, cells := 2, slots := 4, locals := 12 } : Room).cells ({ frames := 1, cells := 2, slots := 4, locals := 12 } : Room).slots) := by
 refine MetFree.of_bodySF (plainFor_of_name pnev) hisR ?_
 intro p e s m args below meth cd s₁ Bd hml0 hP hK
 obtain ⟨rfl, hZ, hh, I0, hHC⟩ := hP
 have hZs := hZ
 have J0 : IB s s.vm [] := IB.start
 have M0 : Fr s.heap.size [] := Fr.nil _
 have hS0 : s.Since s.vm h0.size := State.WarmedH.since (State.WarmedH.refl s) _
 have hk0 : h0.size ≤ h0.size := Nat.le_refl _
 have hx := Bd.exec
 have hby := Bd.bytes
 have hlk : meth.locks = false := BodyLoose.notSynchronized Bd
 have hml : cd.maxLocals = 6 := hml0
 have hown : s.vm.findClass "java/lang/String" = some m.cls := findClass_of_methodNamed Bd.named
 have hnm := (name_of_methodNamed Bd.named Bd.method).1
 have X0 : Stand p l e ({ frames := 1, cells := 2, slots := 4, locals := 12 } : Room) s m #[(.ref x), (.ref b), (.int 0), (.int 0), .null] below meth cd s₁ [] 0 0 := Stand.of_body Bd
 have e0 : s₁.heap = h0 := by rw [← hh, Bd.state]; rfl
 have N0 := Fr.nil n0
 have K0 : Keep h0 h0 [x] := Keep.refl _ _
 have wS : ∀ a ∈ Bundle.stringAtoms, a.before a0 Z = true := fun d hd => hw d ((by decide +kernel : ∀ d ∈ Bundle.stringAtoms, d ∈ tables_1) d hd)
 have G : GoV p e below s 2 4 (Qev Z x b kb Ps h0 n0) (s₁.setTop (mkF m 0 #[.val (.ref x), .val (.ref b), .val (.int 0), .val (.int 0), .val .null, .unset] [])) := by
  refine GoV.s (XS.aloadN X0.here hx rfl (hb hby div1_0) rfl rfl) ?_
  obtain ⟨T1, X1, e1, st1⟩ := initO X0 hx hZ hown (own_w hw 24 rfl) (own_w hw 25 rfl) (own_w hw 26 rfl) e0 (g := (mkF m 1 #[.val (.ref x), .val (.ref b), .val (.int 0), .val (.int 0), .val .null, .unset] [(.ref x)])) rfl (by rw [hml]; rfl) rfl (hb hby div1_1) (by decide) (W := 0) (by show 2 * 0 + _ ≤ _; exact Nat.le_of_eq rfl) (by decide)
  refine GoV.st st1 ?_
  show GoV p e below s _ _ _ (T1.setTop (mkF m 4 #[.val (.ref x), .val (.ref b), .val (.int 0), .val (.int 0), .val .null, .unset] []))
  refine GoV.s (XS.iloadN X1.here hx rfl (hb hby div1_4) rfl) ?_
  refine GoV.s (XS.ifNo X1.here hx rfl (hb hby div1_5) rfl (by decide)) ?_
  show GoV p e below s _ _ _ (T1.setTop (mkF m 8 #[.val (.ref x), .val (.ref b), .val (.int 0), .val (.int 0), .val .null, .unset] []))
  refine GoV.s (XS.aloadN X1.here hx rfl (hb hby dev_8) rfl rfl) ?_
  obtain ⟨u2, T2, h2, kk2, ub2, kb2, ca2, cb2, un2, X2, e2, E2, hS2, hk2, hZ2, hown2, NE, NC, NV, NB, NCa, NCb, Sk2, tx2, I2, hJ2, LT2, st2⟩ := own_ldcH (vm0 := s.vm) X1 hx hZ hown (own_w hw 27 rfl) wS e1 hS0 hk0 M0 (hHC ("java/lang/String", 7) (by decide)) I0 (vs := []) (z := (0 : Int32)) (by decide) (by decide) rfl (g := (mkF m 9 #[.val (.ref x), .val (.ref b), .val (.int 0), .val (.int 0), .val .null, .unset] [(.ref x)])) rfl (hb hby dev_9) (n := 0) (by decide) (by decide) (by decide) (by decide)
  have J2 := hJ2 _ J0
  have E_x := E_x.ext E2
  have F_x_coder := F_x_coder.ext E2
  have F_x_value := F_x_value.ext E2
  have V_b := V_b.ext E2
  have O2 := O0.ext E2
  have K2 := K0.ext E2
  have E_u2 : Exa Z h2 u2 "java/lang/String" := NE
  have F_u2_coder : Fld Z h2 u2 "java/lang/String" "coder" "B" (.int 0) := NC
  have F_u2_value : Fld Z h2 u2 "java/lang/String" "value" "[B" (.ref ub2) := NV
  have V_ub2 : Arv Z h2 ub2 kb2 .byte (0 : Int32) [] (.int 0) := NB
  have C_u2 : Cel h2 u2 ca2 := NCa
  have C_ub2 : Cel h2 ub2 cb2 := NCb
  refine GoV.st st2 ?_
  show GoV p e below s _ _ _ (T2.setTop (mkF m 11 #[.val (.ref x), .val (.ref b), .val (.int 0), .val (.int 0), .val .null, .unset] [(.ref u2), (.ref x)]))
  have ne_u_x : u2 ≠ x := own_fldne F_u2_value F_x_value
  have ne_x_ub : x ≠ ub2 := Exa.neArv E_x V_ub2 (own_w hw 15 rfl)
  obtain ⟨T3, X3, e3, st3⟩ := getF X2 hx hZ2 hown2 (host := "") (Or.inl (own_w hw 33 rfl)) Via.refl e2 F_u2_value (g := (mkF m 11 #[.val (.ref x), .val (.ref b), .val (.int 0), .val (.int 0), .val .null, .unset] [(.ref u2), (.ref x)])) rfl rfl (hb hby dev_11)
  refine GoV.st st3 ?_
  show GoV p e below s _ _ _ (T3.setTop (mkF m 14 #[.val (.ref x), .val (.ref b), .val (.int 0), .val (.int 0), .val .null, .unset] [(.ref ub2), (.ref x)]))
  obtain ⟨T4, h4, X4, e4, W4, st4⟩ := putF X3 hx hZ2 hown2 (host := "") (Or.inl (own_w hw 33 rfl)) Via.refl e3 F_x_value E_x (Or.inr ⟨(own_w hw 29 rfl), rfl, hnm⟩) (own_w hw 15 rfl) (ty := (.array .byte)) (by decide) rfl rfl (g := (mkF m 14 #[.val (.ref x), .val (.ref b), .val (.int 0), .val (.int 0), .val .null, .unset] [(.ref ub2), (.ref x)])) rfl rfl (hb hby dev_14)
  obtain ⟨lc4, X4, N4⟩ := own_gen X4 (Fr.snoc X4 N0 gx)
  have O4 := O2.wr W4 gx
  have K4 := K2.wr W4 (Or.inl (List.mem_of_getElem? (i := 0) rfl))
  have E_x := E_x.wr W4
  have F_x_coder := F_x_coder.other W4 (Or.inr (slot_ne (Or.inr (own_w hw 30 rfl)) (Or.inr (own_w hw 29 rfl)) (by decide) (by decide : parseFieldDescriptor "B" = some .byte) (by decide : parseFieldDescriptor "[B" = some (.array .byte))))
  have V_b := V_b.other W4 nbx
  have E_u2 := E_u2.wr W4
  have F_u2_coder := F_u2_coder.other W4 (Or.inl ne_u_x)
  have F_u2_value := F_u2_value.other W4 (Or.inl ne_u_x)
  have V_ub2 := V_ub2.other W4 (Ne.symm ne_x_ub)
  have C_u2 := C_u2.other W4 ne_u_x
  have C_ub2 := C_ub2.other W4 (Ne.symm ne_x_ub)
  have hk4 := Nat.le_trans hk2 (Nat.le_of_eq W4.size.symm)
  have F_x_value := F_x_value.same W4
  refine GoV.st st4 ?_
  show GoV p e below s _ _ _ (T4.setTop (mkF m 17 #[.val (.ref x), .val (.ref b), .val (.int 0), .val (.int 0), .val .null, .unset] []))
  refine GoV.s (XS.aloadN X4.here hx rfl (hb hby dev_17) rfl rfl) ?_
  refine GoV.s (ldcAgain (vm0 := T2.vm) X4 hx hZ2 hown2 (own_w hw 27 rfl) LT2 (g := (mkF m 18 #[.val (.ref x), .val (.ref b), .val (.int 0), .val (.int 0), .val .null, .unset] [(.ref x)])) rfl (hb hby dev_18) _) ?_
  show GoV p e below s _ _ _ (T4.setTop (mkF m 20 #[.val (.ref x), .val (.ref b), .val (.int 0), .val (.int 0), .val .null, .unset] [(.ref u2), (.ref x)]))
  obtain ⟨T6, X6, e6, st6⟩ := getF X4 hx hZ2 hown2 (host := "") (Or.inl (own_w hw 34 rfl)) Via.refl e4 F_u2_coder (g := (mkF m 20 #[.val (.ref x), .val (.ref b), .val (.int 0), .val (.int 0), .val .null, .unset] [(.ref u2), (.ref x)])) rfl rfl (hb hby dev_20)
  refine GoV.st st6 ?_
  show GoV p e below s _ _ _ (T6.setTop (mkF m 23 #[.val (.ref x), .val (.ref b), .val (.int 0), .val (.int 0), .val .null, .unset] [(.int 0), (.ref x)]))
  obtain ⟨T7, h7, X7, e7, W7, st7⟩ := putF X6 hx hZ2 hown2 (host := "") (Or.inl (own_w hw 34 rfl)) Via.refl e6 F_x_coder E_x (Or.inr ⟨(own_w hw 30 rfl), rfl, hnm⟩) (own_w hw 15 rfl) (ty := .byte) (by decide) rfl rfl (g := (mkF m 23 #[.val (.ref x), .val (.ref b), .val (.int 0), .val (.int 0), .val .null, .unset] [(.int 0), (.ref x)])) rfl rfl (hb hby dev_23)
  obtain ⟨lc7, X7, N7⟩ := own_gen X7 (Fr.snoc X7 N4 gx)
  have O7 := O4.wr W7 gx
  have K7 := K4.wr W7 (Or.inl (List.mem_of_getElem? (i := 0) rfl))
  have E_x := E_x.wr W7
  have F_x_value := F_x_value.other W7 (Or.inr (slot_ne (Or.inr (own_w hw 29 rfl)) (Or.inr (own_w hw 30 rfl)) (by decide) (by decide : parseFieldDescriptor "[B" = some (.array .byte)) (by decide : parseFieldDescriptor "B" = some .byte)))
  have V_b := V_b.other W7 nbx
  have E_u2 := E_u2.wr W7
  have F_u2_coder := F_u2_coder.other W7 (Or.inl ne_u_x)
  have F_u2_value := F_u2_value.other W7 (Or.inl ne_u_x)
  have V_ub2 := V_ub2.other W7 (Ne.symm ne_x_ub)
  have C_u2 := C_u2.other W7 ne_u_x
  have C_ub2 := C_ub2.other W7 (Ne.symm ne_x_ub)
  have hk7 := Nat.le_trans hk4 (Nat.le_of_eq W7.size.symm)
  have F_x_coder := F_x_coder.same W7
  refine GoV.st st7 ?_
  show GoV p e below s _ _ _ (T7.setTop (mkF m 26 #[.val (.ref x), .val (.ref b), .val (.int 0), .val (.int 0), .val .null, .unset] []))
  exact GoV.ret (vm1 := T2.vm) X7 hlk hS2 (by rw [e7]; exact hk7) (none) (fun _ => rfl) (by rw [e7]; exact ⟨rfl, N7, K7, ub2, _, _, E_x, F_x_coder, F_x_value, V_ub2, own_iH (s := s.setVm T2.vm) I2 X7.warmed, (fun U hU1 hU2 hU3 hP => own_held hU1 (own_w hw 27 rfl) hU3 (fun b cl q => by rw [hU2]; exact O7.2.2 b cl q) hHZ (fun q hq _ => (List.mem_cons.mp hq).elim (fun e => by subst e; exact Sk2 U hU1.alike (by rw [hU2]; exact C_u2) (by rw [hU2]; exact C_ub2)) (fun z => hP q z)))⟩) (by decide) (by decide) (fun fs hr => X7.returnOut hx Bd.returns (hb hby dev_26) hr)
 obtain ⟨s2, o2, st2, r2⟩ := G
 exact ⟨s2, o2, castTop (efev m x b (0 : Int32) (0 : Int32)) st2, r2⟩
theorem pne : plainName "java/lang/String" = true := by first | (simp [plainName, overriddenIn]; done) | decide +kernel
theorem efe (m : MethodId) (x0 : Addr) (x1 : Addr) : entryFrame m #[(.ref x0), (.ref x1)] 2 = mkF m 0 #[.val (.ref x0), .val (.ref x1)] [] := by first | (simp [entryFrame, mkF, argsToLocals, Value.category, maxLocals]; done) | rfl
def Qe (Z : State) (x : Addr) (b : Addr) (kb : ClassId) (Ps : List (Array UInt16 × Addr)) (h0 : Heap) (n0 : Nat) (v : Option Value) (vm : Vm) (h : Heap) (L : List Loc) : Prop := v = none ∧ Fr n0 L ∧ Keep h0 h [x] ∧ ∃ (ub : Addr) (kb : ClassId) (P2 : List (Array UInt16 × Addr)), Exa Z h x "java/lang/String" ∧ Fld Z h x "java/lang/String" "coder" "B" (.int 0) ∧ Fld Z h x "java/lang/String" "value" "[B" (.ref ub) ∧ Arv Z h ub kb .byte (0 : Int32) [] (.int 0) ∧ OwnI Z vm P2 ∧ (∀ U : State, Z.Warmed39 U.vm → U.heap = h → OwnI Z U.vm P2 → (∀ q ∈ Ps, SlOf U q.2 q.1) → ConstHeldL U "java/lang/String" 7)
theorem rme (l : Launch) (Z : State) (a0 : Array Value) (hw : ∀ d ∈ tables_1, d.before a0 Z = true) (ws : List Jvm.Cond) (x : Addr) (b : Addr) (kb : ClassId) (Ps : List (Array UInt16 × Addr)) (h0 : Heap) (n0 : Nat) (O0 : Old Z n0 h0) (E_x : Exa Z h0 x "java/lang/String") (F_x_coder : Fld Z h0 x "java/lang/String" "coder" "B" (.int 0)) (F_x_value : Fld Z h0 x "java/lang/String" "value" "[B" .null) (V_b : Arv Z h0 b kb .char (0 : Int32) [] (.int 0)) (gx : n0 ≤ x) (nbx : b ≠ x) (hHZ : ConstHeldL Z "java/lang/String" 7) :
  MetFree l mN9 (head1 (Jvm.Cond.code mN9 jdk_42_method_3_code 2 none :: ws) ({ frames := 2, cells := 2, slots := 4, locals := 29 } : Room)) (fun A_ U_ => A_ = #[(.ref x), (.ref b)] ∧ Z.Warmed39 U_.vm ∧ U_.heap = h0 ∧ OwnI Z U_.vm Ps ∧ ∀ c ∈ ([("java/lang/String", 7)] : List (String × Nat)), ConstHeldL U_ c.1 c.2) (fun _ _ _ _ _ => True) (fun _ U o U' => ∃ v L, o = .returned v ∧ Qe Z x b kb Ps h0 n0 v U'.vm U'.heap L ∧ ReturnedEndW U o U' L ({ frames := 2, cells := 2, slots := 4, locals := 29 } : Room).cells ({ frames := 2, cells := 2, slots := 4, locals := 29 } : Room).slots) := by
 refine MetFree.of_bodySF (plainFor_of_name pne) hisR ?_
 intro p e s m args below meth cd s₁ Bd hml0 hP hK
 obtain ⟨rfl, hZ, hh, I0, hHC⟩ := hP
 have hZs := hZ
 have J0 : IB s s.vm [] := IB.start
 have M0 : Fr s.heap.size [] := Fr.nil _
 have hS0 : s.Since s.vm h0.size := State.WarmedH.since (State.WarmedH.refl s) _
 have hk0 : h0.size ≤ h0.size := Nat.le_refl _
 have hx := Bd.exec
 have hby := Bd.bytes
 have hlk : meth.locks = false := BodyLoose.notSynchronized Bd
 have hml : cd.maxLocals = 2 := hml0
 have hown : s.vm.findClass "java/lang/String" = some m.cls := findClass_of_methodNamed Bd.named
 have X0 : Stand p l e ({ frames := 2, cells := 2, slots := 4, locals := 29 } : Room) s m #[(.ref x), (.ref b)] below meth cd s₁ [] 0 0 := Stand.of_body Bd
 have e0 : s₁.heap = h0 := by rw [← hh, Bd.state]; rfl
 have N0 := Fr.nil n0
 have K0 : Keep h0 h0 [x] := Keep.refl _ _
 have G : GoV p e below s 2 4 (Qe Z x b kb Ps h0 n0) (s₁.setTop (mkF m 0 #[.val (.ref x), .val (.ref b)] [])) := by
  refine GoV.s (XS.aloadN X0.here hx rfl (hb hby di1_0) rfl rfl) ?_
  refine GoV.s (XS.aloadN X0.here hx rfl (hb hby di1_1) rfl rfl) ?_
  refine GoV.s (XS.iconst X0.here hx rfl (hb hby di1_2)) ?_
  refine GoV.s (XS.aloadN X0.here hx rfl (hb hby di1_3) rfl rfl) ?_
  refine GoV.s (own_len X0 hx hZ e0 V_b (g := (mkF m 4 #[.val (.ref x), .val (.ref b)] [(.ref b), (.int 0), (.ref b), (.ref x)])) rfl rfl (hb hby di1_4) _) ?_
  show GoV p e below s _ _ _ (s₁.setTop (mkF m 5 #[.val (.ref x), .val (.ref b)] [(.int 0), (.int 0), (.ref b), (.ref x)]))
  refine GoV.s (XS.aconstNull X0.here hx rfl (hb hby di1_5)) ?_
  have hC1 : ∀ U : State, Z.Warmed39 U.vm → s.WarmedH U.vm → U.heap = h0 → ∀ c ∈ ([("java/lang/String", 7)] : List (String × Nat)), ConstHeldL U c.1 c.2 := by
    intro U hU1 hU2 hU3 c hc
    simp only [List.mem_cons, List.not_mem_nil, or_false] at hc
    rcases hc with rfl
    · exact own_heldMv hU2 (mvS (s := s) (vm0 := s.vm) (args := #[]) hZs (own_w hw 27 rfl)) (hU3.trans hh.symm) (hHC ("java/lang/String", 7) (by decide))
  obtain ⟨_, _, ⟨T2, L2, k2, n2⟩, -, X2, hSn2, gr2, ⟨Lc2, hQ2, l2, y2, z2⟩, st2⟩ := X0.specialBackS hx (y := mN8) rfl hown (mvT hZ (own_w hw 20 rfl)) (mvT hZ (own_w hw 21 rfl)) (mvT hZ (own_w hw 23 rfl)) (by decide) (own_backHC (W := 0) (rmev l Z a0 hw [] x b kb Ps h0 n0 O0 E_x F_x_coder F_x_value V_b gx nbx hHZ) hZ I0 hC1 (own_w hw 23 rfl) (own_w hw 16 rfl) (by decide) (by decide)) (g := (mkF m 6 #[.val (.ref x), .val (.ref b)] [.null, (.int 0), (.int 0), (.ref b), (.ref x)])) rfl (by rw [hml]; rfl) (Steps.refl _) (a := x) (argsL := [(.ref b), (.int 0), (.int 0), .null]) (rest := []) (lenOf pdi1_0 rfl) rfl (by show 2 * 0 + _ ≤ _; exact Nat.le_of_eq rfl) (hb hby di1_6) (fun _ _ => ⟨rfl, e0, (by decide : 0 + 2 ≤ _), (by decide : 0 + 4 ≤ _)⟩)
  dsimp only [Pt.U, Pt.locs, Pt.cells, Pt.slots] at X2 l2 y2 z2 st2 hQ2
  subst y2 z2
  dsimp only [Pt.U, Pt.locs, Pt.cells, Pt.slots] at hSn2 gr2
  obtain ⟨X2, hS2, hZ2, hown2⟩ := rebS (vm0 := s.vm) hS0 (by rw [e0]; exact hk0) X2 hSn2 gr2 hZ hown
  have hk2 : T2.heap.size ≤ T2.heap.size := Nat.le_refl _
  obtain ⟨rfl, Nc2, Kc2, ub2, kb2, P2, NE, NC, NV, NB, I2, hX⟩ := hQ2
  have N2 : Fr n0 L2 := by rw [l2]; exact Fr.app N0 Nc2
  have V_b := V_b.keep Kc2 (ninS nbx nin0)
  have O2 := O0.keep Kc2 (allS gx all0)
  have K2 := K0.trans Kc2 (allS (Or.inl (List.mem_of_getElem? (i := 0) rfl)) all0)
  have E_x : Exa Z T2.heap x "java/lang/String" := NE
  have F_x_coder : Fld Z T2.heap x "java/lang/String" "coder" "B" (.int 0) := NC
  have F_x_value : Fld Z T2.heap x "java/lang/String" "value" "[B" (.ref ub2) := NV
  have V_ub2 : Arv Z T2.heap ub2 kb2 .byte (0 : Int32) [] (.int 0) := NB
  refine GoV.tr st2 ?_
  show GoV p e below s _ _ _ (T2.setTop (mkF m 9 #[.val (.ref x), .val (.ref b)] []))
  exact GoV.ret (vm1 := T2.vm) X2 hlk hS2 (by exact hk2) (none) (fun _ => rfl) (by exact ⟨rfl, N2, K2, ub2, _, _, E_x, F_x_coder, F_x_value, V_ub2, own_iH (s := s.setVm T2.vm) I2 X2.warmed, hX⟩) (by decide) (by decide) (fun fs hr => X2.returnOut hx Bd.returns (hb hby di1_9) hr)
 obtain ⟨s2, o2, st2, r2⟩ := G
 exact ⟨s2, o2, castTop (efe m x b) st2, r2⟩
theorem own_5 {k : Int32} (h : ¬ k < 0 ∧ k < 5) : k = 0 ∨ k = 1 ∨ k = 2 ∨ k = 3 ∨ k = 4 := by
  simp only [own_lt, own_eq, Int32.reduceToInt] at h ⊢
  omega
theorem own_keepE {h h2 : Heap} {b : Addr} {cl : Cell} (K : Keep h h2 []) (q : h[b]? = some cl) : h2[b]? = some cl := K.2.1 b cl q (by simp)
theorem dt_0 : decode method_8_code 0 = .ok (.iload_n 1, 1) := by decide +kernel
theorem dt_1 : decode method_8_code 1 = .ok (.ifCond .ne 14, 3) := by decide +kernel
theorem dt_4 : decode method_8_code 4 = .ok (.new 44, 3) := by decide +kernel
theorem dt_7 : decode method_8_code 7 = .ok (.dup, 1) := by decide +kernel
theorem dt_8 : decode method_8_code 8 = .ok (.iconst 0, 1) := by decide +kernel
theorem dt_9 : decode method_8_code 9 = .ok (.newarray .char, 2) := by decide +kernel
theorem dt_11 : decode method_8_code 11 = .ok (.invokespecial 46, 3) := by decide +kernel
theorem dt_14 : decode method_8_code 14 = .ok (.areturn, 1) := by decide +kernel
theorem dt_15 : decode method_8_code 15 = .ok (.iload_n 1, 1) := by decide +kernel
theorem dt_16 : decode method_8_code 16 = .ok (.iconst 1, 1) := by decide +kernel
theorem dt_17 : decode method_8_code 17 = .ok (.if_icmp .ne 20, 3) := by decide +kernel
theorem dt_20 : decode method_8_code 20 = .ok (.new 44, 3) := by decide +kernel
theorem dt_23 : decode method_8_code 23 = .ok (.dup, 1) := by decide +kernel
theorem dt_24 : decode method_8_code 24 = .ok (.iconst 1, 1) := by decide +kernel
theorem dt_25 : decode method_8_code 25 = .ok (.newarray .char, 2) := by decide +kernel
theorem dt_27 : decode method_8_code 27 = .ok (.dup, 1) := by decide +kernel
theorem dt_28 : decode method_8_code 28 = .ok (.iconst 0, 1) := by decide +kernel
theorem dt_29 : decode method_8_code 29 = .ok (.aload_n 0, 1) := by decide +kernel
theorem dt_30 : decode method_8_code 30 = .ok (.iconst 0, 1) := by decide +kernel
theorem dt_31 : decode method_8_code 31 = .ok (.caload, 1) := by decide +kernel
theorem dt_32 : decode method_8_code 32 = .ok (.castore, 1) := by decide +kernel
theorem dt_33 : decode method_8_code 33 = .ok (.invokespecial 46, 3) := by decide +kernel
theorem dt_36 : decode method_8_code 36 = .ok (.areturn, 1) := by decide +kernel
theorem dt_37 : decode method_8_code 37 = .ok (.iload_n 1, 1) := by decide +kernel
theorem dt_38 : decode method_8_code 38 = .ok (.iconst 2, 1) := by decide +kernel
theorem dt_39 : decode method_8_code 39 = .ok (.if_icmp .ne 26, 3) := by decide +kernel
theorem dt_42 : decode method_8_code 42 = .ok (.new 44, 3) := by decide +kernel
theorem dt_45 : decode method_8_code 45 = .ok (.dup, 1) := by decide +kernel
theorem dt_46 : decode method_8_code 46 = .ok (.iconst 2, 1) := by decide +kernel
theorem dt_47 : decode method_8_code 47 = .ok (.newarray .char, 2) := by decide +kernel
theorem dt_49 : decode method_8_code 49 = .ok (.dup, 1) := by decide +kernel
theorem dt_50 : decode method_8_code 50 = .ok (.iconst 0, 1) := by decide +kernel
theorem dt_51 : decode method_8_code 51 = .ok (.aload_n 0, 1) := by decide +kernel
theorem dt_52 : decode method_8_code 52 = .ok (.iconst 0, 1) := by decide +kernel
theorem dt_53 : decode method_8_code 53 = .ok (.caload, 1) := by decide +kernel
theorem dt_54 : decode method_8_code 54 = .ok (.castore, 1) := by decide +kernel
theorem dt_55 : decode method_8_code 55 = .ok (.dup, 1) := by decide +kernel
theorem dt_56 : decode method_8_code 56 = .ok (.iconst 1, 1) := by decide +kernel
theorem dt_57 : decode method_8_code 57 = .ok (.aload_n 0, 1) := by decide +kernel
theorem dt_58 : decode method_8_code 58 = .ok (.iconst 1, 1) := by decide +kernel
theorem dt_59 : decode method_8_code 59 = .ok (.caload, 1) := by decide +kernel
theorem dt_60 : decode method_8_code 60 = .ok (.castore, 1) := by decide +kernel
theorem dt_61 : decode method_8_code 61 = .ok (.invokespecial 46, 3) := by decide +kernel
theorem dt_64 : decode method_8_code 64 = .ok (.areturn, 1) := by decide +kernel
theorem dt_65 : decode method_8_code 65 = .ok (.iload_n 1, 1) := by decide +kernel
theorem dt_66 : decode method_8_code 66 = .ok (.iconst 3, 1) := by decide +kernel
theorem dt_67 : decode method_8_code 67 = .ok (.if_icmp .ne 32, 3) := by decide +kernel
theorem dt_70 : decode method_8_code 70 = .ok (.new 44, 3) := by decide +kernel
theorem dt_73 : decode method_8_code 73 = .ok (.dup, 1) := by decide +kernel
theorem dt_74 : decode method_8_code 74 = .ok (.iconst 3, 1) := by decide +kernel
theorem dt_75 : decode method_8_code 75 = .ok (.newarray .char, 2) := by decide +kernel
theorem dt_77 : decode method_8_code 77 = .ok (.dup, 1) := by decide +kernel
theorem dt_78 : decode method_8_code 78 = .ok (.iconst 0, 1) := by decide +kernel
theorem dt_79 : decode method_8_code 79 = .ok (.aload_n 0, 1) := by decide +kernel
theorem dt_80 : decode method_8_code 80 = .ok (.iconst 0, 1) := by decide +kernel
theorem dt_81 : decode method_8_code 81 = .ok (.caload, 1) := by decide +kernel
theorem dt_82 : decode method_8_code 82 = .ok (.castore, 1) := by decide +kernel
theorem dt_83 : decode method_8_code 83 = .ok (.dup, 1) := by decide +kernel
theorem dt_84 : decode method_8_code 84 = .ok (.iconst 1, 1) := by decide +kernel
theorem dt_85 : decode method_8_code 85 = .ok (.aload_n 0, 1) := by decide +kernel
theorem dt_86 : decode method_8_code 86 = .ok (.iconst 1, 1) := by decide +kernel
theorem dt_87 : decode method_8_code 87 = .ok (.caload, 1) := by decide +kernel
theorem dt_88 : decode method_8_code 88 = .ok (.castore, 1) := by decide +kernel
theorem dt_89 : decode method_8_code 89 = .ok (.dup, 1) := by decide +kernel
theorem dt_90 : decode method_8_code 90 = .ok (.iconst 2, 1) := by decide +kernel
theorem dt_91 : decode method_8_code 91 = .ok (.aload_n 0, 1) := by decide +kernel
theorem dt_92 : decode method_8_code 92 = .ok (.iconst 2, 1) := by decide +kernel
theorem dt_93 : decode method_8_code 93 = .ok (.caload, 1) := by decide +kernel
theorem dt_94 : decode method_8_code 94 = .ok (.castore, 1) := by decide +kernel
theorem dt_95 : decode method_8_code 95 = .ok (.invokespecial 46, 3) := by decide +kernel
theorem dt_98 : decode method_8_code 98 = .ok (.areturn, 1) := by decide +kernel
theorem dt_99 : decode method_8_code 99 = .ok (.new 44, 3) := by decide +kernel
theorem dt_102 : decode method_8_code 102 = .ok (.dup, 1) := by decide +kernel
theorem dt_103 : decode method_8_code 103 = .ok (.iconst 4, 1) := by decide +kernel
theorem dt_104 : decode method_8_code 104 = .ok (.newarray .char, 2) := by decide +kernel
theorem dt_106 : decode method_8_code 106 = .ok (.dup, 1) := by decide +kernel
theorem dt_107 : decode method_8_code 107 = .ok (.iconst 0, 1) := by decide +kernel
theorem dt_108 : decode method_8_code 108 = .ok (.aload_n 0, 1) := by decide +kernel
theorem dt_109 : decode method_8_code 109 = .ok (.iconst 0, 1) := by decide +kernel
theorem dt_110 : decode method_8_code 110 = .ok (.caload, 1) := by decide +kernel
theorem dt_111 : decode method_8_code 111 = .ok (.castore, 1) := by decide +kernel
theorem dt_112 : decode method_8_code 112 = .ok (.dup, 1) := by decide +kernel
theorem dt_113 : decode method_8_code 113 = .ok (.iconst 1, 1) := by decide +kernel
theorem dt_114 : decode method_8_code 114 = .ok (.aload_n 0, 1) := by decide +kernel
theorem dt_115 : decode method_8_code 115 = .ok (.iconst 1, 1) := by decide +kernel
theorem dt_116 : decode method_8_code 116 = .ok (.caload, 1) := by decide +kernel
theorem dt_117 : decode method_8_code 117 = .ok (.castore, 1) := by decide +kernel
theorem dt_118 : decode method_8_code 118 = .ok (.dup, 1) := by decide +kernel
theorem dt_119 : decode method_8_code 119 = .ok (.iconst 2, 1) := by decide +kernel
theorem dt_120 : decode method_8_code 120 = .ok (.aload_n 0, 1) := by decide +kernel
theorem dt_121 : decode method_8_code 121 = .ok (.iconst 2, 1) := by decide +kernel
theorem dt_122 : decode method_8_code 122 = .ok (.caload, 1) := by decide +kernel
theorem dt_123 : decode method_8_code 123 = .ok (.castore, 1) := by decide +kernel
theorem dt_124 : decode method_8_code 124 = .ok (.dup, 1) := by decide +kernel
theorem dt_125 : decode method_8_code 125 = .ok (.iconst 3, 1) := by decide +kernel
theorem dt_126 : decode method_8_code 126 = .ok (.aload_n 0, 1) := by decide +kernel
theorem dt_127 : decode method_8_code 127 = .ok (.iconst 3, 1) := by decide +kernel
theorem dt_128 : decode method_8_code 128 = .ok (.caload, 1) := by decide +kernel
theorem dt_129 : decode method_8_code 129 = .ok (.castore, 1) := by decide +kernel
theorem dt_130 : decode method_8_code 130 = .ok (.invokespecial 46, 3) := by decide +kernel
theorem dt_133 : decode method_8_code 133 = .ok (.areturn, 1) := by decide +kernel
theorem pdt_0 : parseMethodDescriptor "([C)V" = some ⟨[(.array .char)], none⟩ := by decide +kernel
theorem pnt : plainName "com/example/rootward/rootward/model/ShortestPathTreeCompareCodePointsPinLaw" = true := by first | (simp [plainName, overriddenIn]; done) | decide +kernel
theorem eft (m : MethodId) (x0 : Addr) (x1 : Int32) : entryFrame m #[(.ref x0), (.int x1)] 2 = mkF m 0 #[.val (.ref x0), .val (.int x1)] [] := by first | (simp [entryFrame, mkF, argsToLocals, Value.category, maxLocals]; done) | rfl
def Qt (Z : State) (a : Addr) (ka : ClassId) (n : Int32) (zc : Int32) (c0 : Int32) (c1 : Int32) (c2 : Int32) (c3 : Int32) (Ps : List (Array UInt16 × Addr)) (h0 : Heap) (n0 : Nat) (v : Option Value) (vm : Vm) (h : Heap) (L : List Loc) : Prop := ∃ (x t : Addr) (kt : ClassId) (cd N : Int32) (vs : List Value) (P2 : List (Array UInt16 × Addr)), v = some (.ref x) ∧ Fr n0 L ∧ Keep h0 h [] ∧ n0 ≤ x ∧ h0.size ≤ x ∧ Exa Z h x "java/lang/String" ∧ Fld Z h x "java/lang/String" "coder" "B" (.int cd) ∧ Fld Z h x "java/lang/String" "value" "[B" (.ref t) ∧ Arv Z h t kt .byte N vs (.int 0) ∧ StrChars.Road.CodA (List.take n.toNatClampNeg [c0, c1, c2, c3]) cd N vs ∧ (∀ c ∈ (List.take n.toNatClampNeg [c0, c1, c2, c3]), ¬ c < 0 ∧ ¬ (65535 : Int32) < c) ∧ OwnI Z vm P2 ∧ (∀ U : State, Z.Warmed39 U.vm → U.heap = h → OwnI Z U.vm P2 → (∀ q ∈ Ps, SlOf U q.2 q.1) → ConstHeldL U "java/lang/String" 7)
theorem rmt (l : Launch) (Z : State) (a0 : Array Value) (hw : ∀ d ∈ tables_1, d.before a0 Z = true) (ws : List Jvm.Cond) (a : Addr) (ka : ClassId) (n : Int32) (zc : Int32) (c0 : Int32) (c1 : Int32) (c2 : Int32) (c3 : Int32) (Ps : List (Array UInt16 × Addr)) (h0 : Heap) (n0 : Nat) (O0 : Old Z n0 h0) (V_a : Arv Z h0 a ka .char (4 : Int32) [(.int c0), (.int c1), (.int c2), (.int c3)] (.int 0)) (hn : ¬ n < 0 ∧ n < 5) (hc0 : ¬ c0 < 0 ∧ ¬ (65535 : Int32) < c0) (hc1 : ¬ c1 < 0 ∧ ¬ (65535 : Int32) < c1) (hc2 : ¬ c2 < 0 ∧ ¬ (65535 : Int32) < c2) (hc3 : ¬ c3 < 0 ∧ ¬ (65535 : Int32) < c3) (SA : Sta Z Z.heap "java/lang/StringUTF16" "$assertionsDisabled" "Z" (.int 1)) (SHI : Sta Z Z.heap "java/lang/StringUTF16" "HI_BYTE_SHIFT" "I" (.int 0)) (SLO : Sta Z Z.heap "java/lang/StringUTF16" "LO_BYTE_SHIFT" "I" (.int 8)) (SC : Sta Z Z.heap "java/lang/String" "COMPACT_STRINGS" "Z" (.int zc)) (hcs : ¬ zc = 0) (hHZ : ConstHeldL Z "java/lang/String" 7) :
  MetFree l mN10 (head1 (Jvm.Cond.code mN10 method_8_code 2 (some (.object "java/lang/String")) :: ws) ({ frames := 6, cells := 4, slots := 20, locals := 88 } : Room)) (fun A_ U_ => A_ = #[(.ref a), (.int n)] ∧ Z.Warmed39 U_.vm ∧ U_.heap = h0 ∧ OwnI Z U_.vm Ps ∧ ∀ c ∈ ([("java/lang/String", 7)] : List (String × Nat)), ConstHeldL U_ c.1 c.2) (fun _ _ _ _ _ => True) (fun _ U o U' => ∃ v L, o = .returned v ∧ Qt Z a ka n zc c0 c1 c2 c3 Ps h0 n0 v U'.vm U'.heap L ∧ ReturnedEndW U o U' L ({ frames := 6, cells := 4, slots := 20, locals := 88 } : Room).cells ({ frames := 6, cells := 4, slots := 20, locals := 88 } : Room).slots) := by
 refine MetFree.of_bodySF (plainFor_of_name pnt) hisR ?_
 intro p e s m args below meth cd s₁ Bd hml0 hP hK
 obtain ⟨rfl, hZ, hh, I0, hHC⟩ := hP
 have hZs := hZ
 have J0 : IB s s.vm [] := IB.start
 have M0 : Fr s.heap.size [] := Fr.nil _
 have hS0 : s.Since s.vm h0.size := State.WarmedH.since (State.WarmedH.refl s) _
 have hk0 : h0.size ≤ h0.size := Nat.le_refl _
 have hx := Bd.exec
 have hby := Bd.bytes
 have hlk : meth.locks = false := BodyLoose.notSynchronized Bd
 have hml : cd.maxLocals = 2 := hml0
 have hown : s.vm.findClass "com/example/rootward/rootward/model/ShortestPathTreeCompareCodePointsPinLaw" = some m.cls := findClass_of_methodNamed Bd.named
 have X0 : Stand p l e ({ frames := 6, cells := 4, slots := 20, locals := 88 } : Room) s m #[(.ref a), (.int n)] below meth cd s₁ [] 0 0 := Stand.of_body Bd
 have e0 : s₁.heap = h0 := by rw [← hh, Bd.state]; rfl
 have N0 := Fr.nil n0
 have K0 : Keep h0 h0 [] := Keep.refl _ _
 have wS : ∀ a ∈ Bundle.stringAtoms, a.before a0 Z = true := fun d hd => hw d ((by decide +kernel : ∀ d ∈ Bundle.stringAtoms, d ∈ tables_1) d hd)
 have G : GoV p e below s 4 20 (Qt Z a ka n zc c0 c1 c2 c3 Ps h0 n0) (s₁.setTop (mkF m 0 #[.val (.ref a), .val (.int n)] [])) := by
  rcases own_5 hn with rfl | rfl | rfl | rfl | rfl
  · show GoV p e below s _ _ _ (s₁.setTop (mkF m 0 #[.val (.ref a), .val (.int 0)] []))
    refine GoV.s (XS.iloadN X0.here hx rfl (hb hby dt_0) rfl) ?_
    refine GoV.s (XS.ifNo X0.here hx rfl (hb hby dt_1) rfl (by decide)) ?_
    show GoV p e below s _ _ _ (s₁.setTop (mkF m 4 #[.val (.ref a), .val (.int 0)] []))
    obtain ⟨T1, h1, X1, e1, E1, A1, D1, -, st1⟩ := newO X0 hx hZ hown (own_w hw 14 rfl) (own_w hw 15 rfl) (own_w hw 16 rfl) e0 (g := (mkF m 4 #[.val (.ref a), .val (.int 0)] [])) rfl (hb hby dt_4) (by decide) (by decide)
    obtain ⟨a1, g1⟩ : ∃ z, z = h0.size := ⟨_, rfl⟩
    rw [← g1] at A1 D1 st1
    have g_a1 : n0 ≤ a1 := Nat.le_trans (own_old O0) (Nat.le_of_eq g1.symm)
    have sz_a1 : h0.size ≤ a1 := Nat.le_trans K0.1 (Nat.le_of_eq g1.symm)
    have ne_a_a1 : a ≠ a1 := by rw [g1]; exact Nat.ne_of_lt V_a.lt
    have V_a := V_a.ext E1
    have hk1 := Nat.le_trans hk0 E1.1
    have O1 := O0.ext E1
    have K1 := K0.ext E1
    have E_a1 : Exa Z h1 a1 "java/lang/String" := A1
    have F_a1_value : Fld Z h1 a1 "java/lang/String" "value" "[B" .null := D1 (Or.inr (own_w hw 29 rfl)) (ty := (.array .byte)) (by decide)
    have F_a1_coder : Fld Z h1 a1 "java/lang/String" "coder" "B" (.int 0) := D1 (Or.inr (own_w hw 30 rfl)) (ty := .byte) (by decide)
    refine GoV.st st1 ?_
    show GoV p e below s _ _ _ (T1.setTop (mkF m 7 #[.val (.ref a), .val (.int 0)] [(.ref a1)]))
    refine GoV.s (XS.dup X1.here hx rfl (hb hby dt_7) rfl rfl) ?_
    refine GoV.s (XS.iconst X1.here hx rfl (hb hby dt_8)) ?_
    obtain ⟨T2, h2, k2, X2, e2, E2, A2, st2⟩ := newP X1 hx hZ (own_w hw 10 rfl) e1 (g := (mkF m 9 #[.val (.ref a), .val (.int 0)] [(.int 0), (.ref a1), (.ref a1)])) rfl (hb hby dt_9) rfl (by decide) (cap := 0) (by decide) (by decide) (by decide) (by decide)
    obtain ⟨b2, g2⟩ : ∃ z, z = h1.size := ⟨_, rfl⟩
    rw [← g2] at A2 st2
    have g_b2 : n0 ≤ b2 := Nat.le_trans (own_old O1) (Nat.le_of_eq g2.symm)
    have sz_b2 : h0.size ≤ b2 := Nat.le_trans K1.1 (Nat.le_of_eq g2.symm)
    have ne_a_b2 : a ≠ b2 := by rw [g2]; exact Nat.ne_of_lt V_a.lt
    have ne_a1_b2 : a1 ≠ b2 := by rw [g2]; exact Nat.ne_of_lt E_a1.lt
    have V_a := V_a.ext E2
    have E_a1 := E_a1.ext E2
    have F_a1_value := F_a1_value.ext E2
    have F_a1_coder := F_a1_coder.ext E2
    have hk2 := Nat.le_trans hk1 E2.1
    have O2 := O1.ext E2
    have K2 := K1.ext E2
    have V_b2 : Arv Z h2 b2 k2 .char (0 : Int32) [] (.int 0) := (Arv.new A2 (by decide)).pad (pad_rep [] (.int 0) 0)
    refine GoV.st st2 ?_
    show GoV p e below s _ _ _ (T2.setTop (mkF m 11 #[.val (.ref a), .val (.int 0)] [(.ref b2), (.ref a1), (.ref a1)]))
    have hC3 : ∀ U : State, Z.Warmed39 U.vm → s.WarmedH U.vm → U.heap = h2 → ∀ c ∈ ([("java/lang/String", 7)] : List (String × Nat)), ConstHeldL U c.1 c.2 := fun U hU1 hU2 hU3 c hc => by
      rw [List.mem_singleton] at hc
      subst hc
      exact own_held (Z := s) (Ps := []) hU2.wide (mvS (s := s) (vm0 := s.vm) (args := #[]) hZs (own_w hw 27 rfl)) (own_iH OwnI.start hU2) (fun b cl q => by rw [hU3]; exact own_keepE K2 (by rw [← hh]; exact q)) (hHC ("java/lang/String", 7) (by decide)) (fun q hq => by cases hq)
    obtain ⟨_, _, ⟨T4, L4, k4, n4⟩, -, X4, hSn4, gr4, ⟨Lc4, hQ4, l4, y4, z4⟩, st4⟩ := X2.specialBackS hx (y := mN9) rfl hown (mvT hZ (own_w hw 17 rfl)) (mvT hZ (own_w hw 18 rfl)) (mvT hZ (own_w hw 19 rfl)) (by decide) (own_backHC (W := 1) (rme l Z a0 hw [] a1 b2 k2 Ps h2 n0 O2 E_a1 F_a1_coder F_a1_value V_b2 g_a1 (Ne.symm ne_a1_b2) hHZ) hZ I0 hC3 (own_w hw 19 rfl) (own_w hw 16 rfl) (by decide) (by decide)) (g := (mkF m 11 #[.val (.ref a), .val (.int 0)] [(.ref b2), (.ref a1), (.ref a1)])) rfl (by rw [hml]; rfl) (Steps.refl _) (a := a1) (argsL := [(.ref b2)]) (rest := [(.ref a1)]) (lenOf pdt_0 rfl) rfl (by show 2 * 0 + _ ≤ _; exact Nat.le_of_eq rfl) (hb hby dt_11) (fun _ _ => ⟨rfl, e2, (by decide : 2 + 2 ≤ _), (by decide : 4 + 4 ≤ _)⟩)
    dsimp only [Pt.U, Pt.locs, Pt.cells, Pt.slots] at X4 l4 y4 z4 st4 hQ4
    subst y4 z4
    dsimp only [Pt.U, Pt.locs, Pt.cells, Pt.slots] at hSn4 gr4
    obtain ⟨X4, hS4, hZ4, hown4⟩ := rebS (vm0 := s.vm) hS0 (by rw [e2]; exact hk2) X4 hSn4 gr4 hZ hown
    have hk4 : T4.heap.size ≤ T4.heap.size := Nat.le_refl _
    obtain ⟨rfl, Nc4, Kc4, ub4, kb4, P2, NE, NC, NV, NB, I4, hX⟩ := hQ4
    have N4 : Fr n0 L4 := by rw [l4]; exact Fr.app N0 Nc4
    have V_a := V_a.keep Kc4 (ninS ne_a_a1 nin0)
    have V_b2 := V_b2.keep Kc4 (ninS (Ne.symm ne_a1_b2) nin0)
    have O4 := O2.keep Kc4 (allS g_a1 all0)
    have K4 := K2.trans Kc4 (allS (Or.inr sz_a1) all0)
    have E_a1 : Exa Z T4.heap a1 "java/lang/String" := NE
    have F_a1_coder : Fld Z T4.heap a1 "java/lang/String" "coder" "B" (.int 0) := NC
    have F_a1_value : Fld Z T4.heap a1 "java/lang/String" "value" "[B" (.ref ub4) := NV
    have V_ub4 : Arv Z T4.heap ub4 kb4 .byte (0 : Int32) [] (.int 0) := NB
    refine GoV.tr st4 ?_
    show GoV p e below s _ _ _ (T4.setTop (mkF m 14 #[.val (.ref a), .val (.int 0)] [(.ref a1)]))
    exact GoV.ret (vm1 := T4.vm) X4 hlk hS4 (by exact hk4) (some (.ref a1)) (fun h => by rw [Bd.returns] at h; cases h) (by exact ⟨a1, ub4, _, _, _, _, P2, rfl, N4, K4, g_a1, sz_a1, E_a1, F_a1_coder, F_a1_value, V_ub4, Or.inl ⟨rfl, rfl, rfl, by intro c hc; cases hc⟩, own_hb0, own_iH (s := s.setVm T4.vm) I4 X4.warmed, hX⟩) (by decide) (by decide) (fun fs hr => retOut X4 hx Bd.returns rfl (Or.inr (Or.inr (Or.inr (Or.inr ⟨rfl, rfl, rfl⟩)))) (hb hby dt_14) hr)
  · show GoV p e below s _ _ _ (s₁.setTop (mkF m 0 #[.val (.ref a), .val (.int 1)] []))
    refine GoV.s (XS.iloadN X0.here hx rfl (hb hby dt_0) rfl) ?_
    refine GoV.s (XS.ifYes X0.here hx rfl (pc0 := 1) (pc' := 15) rfl (hb hby dt_1) rfl (by decide) (by decide) (by decide)) ?_
    show GoV p e below s _ _ _ (s₁.setTop (mkF m 15 #[.val (.ref a), .val (.int 1)] []))
    refine GoV.s (XS.iloadN X0.here hx rfl (hb hby dt_15) rfl) ?_
    refine GoV.s (XS.iconst X0.here hx rfl (hb hby dt_16)) ?_
    refine GoV.s (XS.icmpNo X0.here hx rfl (hb hby dt_17) rfl (by decide)) ?_
    show GoV p e below s _ _ _ (s₁.setTop (mkF m 20 #[.val (.ref a), .val (.int 1)] []))
    obtain ⟨T5, h5, X5, e5, E5, A5, D5, -, st5⟩ := newO X0 hx hZ hown (own_w hw 14 rfl) (own_w hw 15 rfl) (own_w hw 16 rfl) e0 (g := (mkF m 20 #[.val (.ref a), .val (.int 1)] [])) rfl (hb hby dt_20) (by decide) (by decide)
    obtain ⟨a5, g5⟩ : ∃ z, z = h0.size := ⟨_, rfl⟩
    rw [← g5] at A5 D5 st5
    have g_a5 : n0 ≤ a5 := Nat.le_trans (own_old O0) (Nat.le_of_eq g5.symm)
    have sz_a5 : h0.size ≤ a5 := Nat.le_trans K0.1 (Nat.le_of_eq g5.symm)
    have ne_a_a5 : a ≠ a5 := by rw [g5]; exact Nat.ne_of_lt V_a.lt
    have V_a := V_a.ext E5
    have hk5 := Nat.le_trans hk0 E5.1
    have O5 := O0.ext E5
    have K5 := K0.ext E5
    have E_a5 : Exa Z h5 a5 "java/lang/String" := A5
    have F_a5_value : Fld Z h5 a5 "java/lang/String" "value" "[B" .null := D5 (Or.inr (own_w hw 29 rfl)) (ty := (.array .byte)) (by decide)
    have F_a5_coder : Fld Z h5 a5 "java/lang/String" "coder" "B" (.int 0) := D5 (Or.inr (own_w hw 30 rfl)) (ty := .byte) (by decide)
    refine GoV.st st5 ?_
    show GoV p e below s _ _ _ (T5.setTop (mkF m 23 #[.val (.ref a), .val (.int 1)] [(.ref a5)]))
    refine GoV.s (XS.dup X5.here hx rfl (hb hby dt_23) rfl rfl) ?_
    refine GoV.s (XS.iconst X5.here hx rfl (hb hby dt_24)) ?_
    obtain ⟨T6, h6, k6, X6, e6, E6, A6, st6⟩ := newP X5 hx hZ (own_w hw 10 rfl) e5 (g := (mkF m 25 #[.val (.ref a), .val (.int 1)] [(.int 1), (.ref a5), (.ref a5)])) rfl (hb hby dt_25) rfl (by decide) (cap := 1) (by decide) (by decide) (by decide) (by decide)
    obtain ⟨b6, g6⟩ : ∃ z, z = h5.size := ⟨_, rfl⟩
    rw [← g6] at A6 st6
    have g_b6 : n0 ≤ b6 := Nat.le_trans (own_old O5) (Nat.le_of_eq g6.symm)
    have sz_b6 : h0.size ≤ b6 := Nat.le_trans K5.1 (Nat.le_of_eq g6.symm)
    have ne_a_b6 : a ≠ b6 := by rw [g6]; exact Nat.ne_of_lt V_a.lt
    have ne_a5_b6 : a5 ≠ b6 := by rw [g6]; exact Nat.ne_of_lt E_a5.lt
    have V_a := V_a.ext E6
    have E_a5 := E_a5.ext E6
    have F_a5_value := F_a5_value.ext E6
    have F_a5_coder := F_a5_coder.ext E6
    have hk6 := Nat.le_trans hk5 E6.1
    have O6 := O5.ext E6
    have K6 := K5.ext E6
    have V_b6 : Arv Z h6 b6 k6 .char (1 : Int32) [(.int 0)] (.int 0) := (Arv.new A6 (by decide)).pad (pad_rep [] (.int 0) 1)
    refine GoV.st st6 ?_
    show GoV p e below s _ _ _ (T6.setTop (mkF m 27 #[.val (.ref a), .val (.int 1)] [(.ref b6), (.ref a5), (.ref a5)]))
    refine GoV.s (XS.dup X6.here hx rfl (hb hby dt_27) rfl rfl) ?_
    refine GoV.s (XS.iconst X6.here hx rfl (hb hby dt_28)) ?_
    refine GoV.s (XS.aloadN X6.here hx rfl (hb hby dt_29) rfl rfl) ?_
    refine GoV.s (XS.iconst X6.here hx rfl (hb hby dt_30)) ?_
    refine GoV.s (own_caload X6 hx hZ e6 V_a (by decide) (by decide) (v := (.int c0)) rfl (g := (mkF m 31 #[.val (.ref a), .val (.int 1)] [(.int 0), (.ref a), (.int 0), (.ref b6), (.ref b6), (.ref a5), (.ref a5)])) rfl rfl (hb hby dt_31) _) ?_
    show GoV p e below s _ _ _ (T6.setTop (mkF m 32 #[.val (.ref a), .val (.int 1)] [(.int c0), (.int 0), (.ref b6), (.ref b6), (.ref a5), (.ref a5)]))
    obtain ⟨T7, h7, X7, e7, W7, V7, st7⟩ := own_stC X6 hx hZ e6 V_b6 (j := (0 : Int32)) (by decide) (by decide) 0 rfl (Nat.le_of_ble_eq_true rfl) (g := (mkF m 32 #[.val (.ref a), .val (.int 1)] [(.int c0), (.int 0), (.ref b6), (.ref b6), (.ref a5), (.ref a5)])) rfl rfl (hb hby dt_32)
    obtain ⟨lc7, X7, N7⟩ := own_gen X7 (Fr.snoc X7 N0 g_b6)
    have O7 := O6.wr W7 g_b6
    have K7 := K6.wr W7 (Or.inr sz_b6)
    have V_a := V_a.other W7 ne_a_b6
    have E_a5 := E_a5.wr W7
    have F_a5_value := F_a5_value.other W7 (Or.inl ne_a5_b6)
    have F_a5_coder := F_a5_coder.other W7 (Or.inl ne_a5_b6)
    have hk7 := Nat.le_trans hk6 (Nat.le_of_eq W7.size.symm)
    have V_b6 : Arv Z h7 b6 k6 .char (1 : Int32) [(.int (nar .char c0))] (.int 0) := V7
    refine GoV.st st7 ?_
    show GoV p e below s _ _ _ (T7.setTop (mkF m 33 #[.val (.ref a), .val (.int 1)] [(.ref b6), (.ref a5), (.ref a5)]))
    rw [own_n16 hc0] at V_b6
    obtain ⟨_, _, ⟨T8, L8, k8, n8⟩, -, X8, ⟨Lc8, hQ8, l8, y8, z8⟩, st8⟩ := X7.specialBack hx (y := mN9) rfl hown (mvT hZ (own_w hw 17 rfl)) (mvT hZ (own_w hw 18 rfl)) (mvT hZ (own_w hw 19 rfl)) (by decide) (backOf (W := 1) (rmi1 l Z a0 hw [] a5 b6 k6 zc c0 h7 n0 O7 E_a5 F_a5_coder F_a5_value V_b6 g_a5 (Ne.symm ne_a5_b6) hc0 SA SHI SLO SC hcs) hZ (own_w hw 19 rfl) (own_w hw 16 rfl) (by decide) (by decide)) (g := (mkF m 33 #[.val (.ref a), .val (.int 1)] [(.ref b6), (.ref a5), (.ref a5)])) rfl (by rw [hml]; rfl) (Steps.refl _) (a := a5) (argsL := [(.ref b6)]) (rest := [(.ref a5)]) (lenOf pdt_0 rfl) rfl (by show 2 * 0 + _ ≤ _; exact Nat.le_of_eq rfl) (hb hby dt_33) (fun _ _ => ⟨rfl, e7, (by decide : 2 + 2 ≤ _), (by decide : 5 + 3 ≤ _)⟩)
    dsimp only [Pt.U, Pt.locs, Pt.cells, Pt.slots] at X8 l8 y8 z8 st8 hQ8
    subst y8 z8
    obtain ⟨rfl, Nc8, Kc8, t, kt, cd, N, vs, NE, NC, NV, NB, hcd⟩ := hQ8
    have N8 : Fr n0 L8 := by rw [l8]; exact Fr.app N7 Nc8
    have V_a := V_a.keep Kc8 (ninS ne_a_a5 nin0)
    have V_b6 := V_b6.keep Kc8 (ninS (Ne.symm ne_a5_b6) nin0)
    have hk8 := Nat.le_trans hk7 Kc8.1
    have O8 := O7.keep Kc8 (allS g_a5 all0)
    have K8 := K7.trans Kc8 (allS (Or.inr sz_a5) all0)
    have E_a5 : Exa Z T8.heap a5 "java/lang/String" := NE
    have F_a5_coder : Fld Z T8.heap a5 "java/lang/String" "coder" "B" (.int cd) := NC
    have F_a5_value : Fld Z T8.heap a5 "java/lang/String" "value" "[B" (.ref t) := NV
    have V_t : Arv Z T8.heap t kt .byte N vs (.int 0) := NB
    refine GoV.tr st8 ?_
    show GoV p e below s _ _ _ (T8.setTop (mkF m 36 #[.val (.ref a), .val (.int 1)] [(.ref a5)]))
    exact GoV.ret (vm1 := s.vm) X8 hlk hS0 (by exact hk8) (some (.ref a5)) (fun h => by rw [Bd.returns] at h; cases h) (by exact ⟨a5, t, _, _, _, _, Ps, rfl, N8, K8, g_a5, sz_a5, E_a5, F_a5_coder, F_a5_value, V_t, hcd, own_hb1 hc0, own_iH (s := s) I0 X8.warmed, (fun U hU1 hU2 hU3 hP => own_held hU1 (own_w hw 27 rfl) hU3 (fun b cl q => by rw [hU2]; exact O8.2.2 b cl q) hHZ (fun q hq _ => hP q hq))⟩) (by decide) (by decide) (fun fs hr => retOut X8 hx Bd.returns rfl (Or.inr (Or.inr (Or.inr (Or.inr ⟨rfl, rfl, rfl⟩)))) (hb hby dt_36) hr)
  · show GoV p e below s _ _ _ (s₁.setTop (mkF m 0 #[.val (.ref a), .val (.int 2)] []))
    refine GoV.s (XS.iloadN X0.here hx rfl (hb hby dt_0) rfl) ?_
    refine GoV.s (XS.ifYes X0.here hx rfl (pc0 := 1) (pc' := 15) rfl (hb hby dt_1) rfl (by decide) (by decide) (by decide)) ?_
    show GoV p e below s _ _ _ (s₁.setTop (mkF m 15 #[.val (.ref a), .val (.int 2)] []))
    refine GoV.s (XS.iloadN X0.here hx rfl (hb hby dt_15) rfl) ?_
    refine GoV.s (XS.iconst X0.here hx rfl (hb hby dt_16)) ?_
    refine GoV.s (XS.icmpYes X0.here hx rfl (pc0 := 17) (pc' := 37) rfl (hb hby dt_17) rfl (by decide) (by decide) (by decide)) ?_
    show GoV p e below s _ _ _ (s₁.setTop (mkF m 37 #[.val (.ref a), .val (.int 2)] []))
    refine GoV.s (XS.iloadN X0.here hx rfl (hb hby dt_37) rfl) ?_
    refine GoV.s (XS.iconst X0.here hx rfl (hb hby dt_38)) ?_
    refine GoV.s (XS.icmpNo X0.here hx rfl (hb hby dt_39) rfl (by decide)) ?_
    show GoV p e below s _ _ _ (s₁.setTop (mkF m 42 #[.val (.ref a), .val (.int 2)] []))
    obtain ⟨T9, h9, X9, e9, E9, A9, D9, -, st9⟩ := newO X0 hx hZ hown (own_w hw 14 rfl) (own_w hw 15 rfl) (own_w hw 16 rfl) e0 (g := (mkF m 42 #[.val (.ref a), .val (.int 2)] [])) rfl (hb hby dt_42) (by decide) (by decide)
    obtain ⟨a9, g9⟩ : ∃ z, z = h0.size := ⟨_, rfl⟩
    rw [← g9] at A9 D9 st9
    have g_a9 : n0 ≤ a9 := Nat.le_trans (own_old O0) (Nat.le_of_eq g9.symm)
    have sz_a9 : h0.size ≤ a9 := Nat.le_trans K0.1 (Nat.le_of_eq g9.symm)
    have ne_a_a9 : a ≠ a9 := by rw [g9]; exact Nat.ne_of_lt V_a.lt
    have V_a := V_a.ext E9
    have hk9 := Nat.le_trans hk0 E9.1
    have O9 := O0.ext E9
    have K9 := K0.ext E9
    have E_a9 : Exa Z h9 a9 "java/lang/String" := A9
    have F_a9_value : Fld Z h9 a9 "java/lang/String" "value" "[B" .null := D9 (Or.inr (own_w hw 29 rfl)) (ty := (.array .byte)) (by decide)
    have F_a9_coder : Fld Z h9 a9 "java/lang/String" "coder" "B" (.int 0) := D9 (Or.inr (own_w hw 30 rfl)) (ty := .byte) (by decide)
    refine GoV.st st9 ?_
    show GoV p e below s _ _ _ (T9.setTop (mkF m 45 #[.val (.ref a), .val (.int 2)] [(.ref a9)]))
    refine GoV.s (XS.dup X9.here hx rfl (hb hby dt_45) rfl rfl) ?_
    refine GoV.s (XS.iconst X9.here hx rfl (hb hby dt_46)) ?_
    obtain ⟨T10, h10, k10, X10, e10, E10, A10, st10⟩ := newP X9 hx hZ (own_w hw 10 rfl) e9 (g := (mkF m 47 #[.val (.ref a), .val (.int 2)] [(.int 2), (.ref a9), (.ref a9)])) rfl (hb hby dt_47) rfl (by decide) (cap := 2) (by decide) (by decide) (by decide) (by decide)
    obtain ⟨b10, g10⟩ : ∃ z, z = h9.size := ⟨_, rfl⟩
    rw [← g10] at A10 st10
    have g_b10 : n0 ≤ b10 := Nat.le_trans (own_old O9) (Nat.le_of_eq g10.symm)
    have sz_b10 : h0.size ≤ b10 := Nat.le_trans K9.1 (Nat.le_of_eq g10.symm)
    have ne_a_b10 : a ≠ b10 := by rw [g10]; exact Nat.ne_of_lt V_a.lt
    have ne_a9_b10 : a9 ≠ b10 := by rw [g10]; exact Nat.ne_of_lt E_a9.lt
    have V_a := V_a.ext E10
    have E_a9 := E_a9.ext E10
    have F_a9_value := F_a9_value.ext E10
    have F_a9_coder := F_a9_coder.ext E10
    have hk10 := Nat.le_trans hk9 E10.1
    have O10 := O9.ext E10
    have K10 := K9.ext E10
    have V_b10 : Arv Z h10 b10 k10 .char (2 : Int32) [(.int 0), (.int 0)] (.int 0) := (Arv.new A10 (by decide)).pad (pad_rep [] (.int 0) 2)
    refine GoV.st st10 ?_
    show GoV p e below s _ _ _ (T10.setTop (mkF m 49 #[.val (.ref a), .val (.int 2)] [(.ref b10), (.ref a9), (.ref a9)]))
    refine GoV.s (XS.dup X10.here hx rfl (hb hby dt_49) rfl rfl) ?_
    refine GoV.s (XS.iconst X10.here hx rfl (hb hby dt_50)) ?_
    refine GoV.s (XS.aloadN X10.here hx rfl (hb hby dt_51) rfl rfl) ?_
    refine GoV.s (XS.iconst X10.here hx rfl (hb hby dt_52)) ?_
    refine GoV.s (own_caload X10 hx hZ e10 V_a (by decide) (by decide) (v := (.int c0)) rfl (g := (mkF m 53 #[.val (.ref a), .val (.int 2)] [(.int 0), (.ref a), (.int 0), (.ref b10), (.ref b10), (.ref a9), (.ref a9)])) rfl rfl (hb hby dt_53) _) ?_
    show GoV p e below s _ _ _ (T10.setTop (mkF m 54 #[.val (.ref a), .val (.int 2)] [(.int c0), (.int 0), (.ref b10), (.ref b10), (.ref a9), (.ref a9)]))
    obtain ⟨T11, h11, X11, e11, W11, V11, st11⟩ := own_stC X10 hx hZ e10 V_b10 (j := (0 : Int32)) (by decide) (by decide) 0 rfl (Nat.le_of_ble_eq_true rfl) (g := (mkF m 54 #[.val (.ref a), .val (.int 2)] [(.int c0), (.int 0), (.ref b10), (.ref b10), (.ref a9), (.ref a9)])) rfl rfl (hb hby dt_54)
    obtain ⟨lc11, X11, N11⟩ := own_gen X11 (Fr.snoc X11 N0 g_b10)
    have O11 := O10.wr W11 g_b10
    have K11 := K10.wr W11 (Or.inr sz_b10)
    have V_a := V_a.other W11 ne_a_b10
    have E_a9 := E_a9.wr W11
    have F_a9_value := F_a9_value.other W11 (Or.inl ne_a9_b10)
    have F_a9_coder := F_a9_coder.other W11 (Or.inl ne_a9_b10)
    have hk11 := Nat.le_trans hk10 (Nat.le_of_eq W11.size.symm)
    have V_b10 : Arv Z h11 b10 k10 .char (2 : Int32) [(.int (nar .char c0)), (.int 0)] (.int 0) := V11
    refine GoV.st st11 ?_
    show GoV p e below s _ _ _ (T11.setTop (mkF m 55 #[.val (.ref a), .val (.int 2)] [(.ref b10), (.ref a9), (.ref a9)]))
    refine GoV.s (XS.dup X11.here hx rfl (hb hby dt_55) rfl rfl) ?_
    refine GoV.s (XS.iconst X11.here hx rfl (hb hby dt_56)) ?_
    refine GoV.s (XS.aloadN X11.here hx rfl (hb hby dt_57) rfl rfl) ?_
    refine GoV.s (XS.iconst X11.here hx rfl (hb hby dt_58)) ?_
    refine GoV.s (own_caload X11 hx hZ e11 V_a (by decide) (by decide) (v := (.int c1)) rfl (g := (mkF m 59 #[.val (.ref a), .val (.int 2)] [(.int 1), (.ref a), (.int 1), (.ref b10), (.ref b10), (.ref a9), (.ref a9)])) rfl rfl (hb hby dt_59) _) ?_
    show GoV p e below s _ _ _ (T11.setTop (mkF m 60 #[.val (.ref a), .val (.int 2)] [(.int c1), (.int 1), (.ref b10), (.ref b10), (.ref a9), (.ref a9)]))
    obtain ⟨T12, h12, X12, e12, W12, V12, st12⟩ := own_stC X11 hx hZ e11 V_b10 (j := (1 : Int32)) (by decide) (by decide) 1 rfl (Nat.le_of_ble_eq_true rfl) (g := (mkF m 60 #[.val (.ref a), .val (.int 2)] [(.int c1), (.int 1), (.ref b10), (.ref b10), (.ref a9), (.ref a9)])) rfl rfl (hb hby dt_60)
    obtain ⟨lc12, X12, N12⟩ := own_gen X12 (Fr.snoc X12 N11 g_b10)
    have O12 := O11.wr W12 g_b10
    have K12 := K11.wr W12 (Or.inr sz_b10)
    have V_a := V_a.other W12 ne_a_b10
    have E_a9 := E_a9.wr W12
    have F_a9_value := F_a9_value.other W12 (Or.inl ne_a9_b10)
    have F_a9_coder := F_a9_coder.other W12 (Or.inl ne_a9_b10)
    have hk12 := Nat.le_trans hk11 (Nat.le_of_eq W12.size.symm)
    have V_b10 : Arv Z h12 b10 k10 .char (2 : Int32) [(.int (nar .char c0)), (.int (nar .char c1))] (.int 0) := V12
    refine GoV.st st12 ?_
    show GoV p e below s _ _ _ (T12.setTop (mkF m 61 #[.val (.ref a), .val (.int 2)] [(.ref b10), (.ref a9), (.ref a9)]))
    rw [own_n16 hc0] at V_b10
    rw [own_n16 hc1] at V_b10
    obtain ⟨_, _, ⟨T13, L13, k13, n13⟩, -, X13, ⟨Lc13, hQ13, l13, y13, z13⟩, st13⟩ := X12.specialBack hx (y := mN9) rfl hown (mvT hZ (own_w hw 17 rfl)) (mvT hZ (own_w hw 18 rfl)) (mvT hZ (own_w hw 19 rfl)) (by decide) (backOf (W := 1) (rmi2 l Z a0 hw [] a9 b10 k10 zc c0 c1 h12 n0 O12 E_a9 F_a9_coder F_a9_value V_b10 g_a9 (Ne.symm ne_a9_b10) hc0 hc1 SA SHI SLO SC hcs) hZ (own_w hw 19 rfl) (own_w hw 16 rfl) (by decide) (by decide)) (g := (mkF m 61 #[.val (.ref a), .val (.int 2)] [(.ref b10), (.ref a9), (.ref a9)])) rfl (by rw [hml]; rfl) (Steps.refl _) (a := a9) (argsL := [(.ref b10)]) (rest := [(.ref a9)]) (lenOf pdt_0 rfl) rfl (by show 2 * 0 + _ ≤ _; exact Nat.le_of_eq rfl) (hb hby dt_61) (fun _ _ => ⟨rfl, e12, (by decide : 2 + 2 ≤ _), (by decide : 6 + 6 ≤ _)⟩)
    dsimp only [Pt.U, Pt.locs, Pt.cells, Pt.slots] at X13 l13 y13 z13 st13 hQ13
    subst y13 z13
    obtain ⟨rfl, Nc13, Kc13, t, kt, cd, N, vs, NE, NC, NV, NB, hcd⟩ := hQ13
    have N13 : Fr n0 L13 := by rw [l13]; exact Fr.app N12 Nc13
    have V_a := V_a.keep Kc13 (ninS ne_a_a9 nin0)
    have V_b10 := V_b10.keep Kc13 (ninS (Ne.symm ne_a9_b10) nin0)
    have hk13 := Nat.le_trans hk12 Kc13.1
    have O13 := O12.keep Kc13 (allS g_a9 all0)
    have K13 := K12.trans Kc13 (allS (Or.inr sz_a9) all0)
    have E_a9 : Exa Z T13.heap a9 "java/lang/String" := NE
    have F_a9_coder : Fld Z T13.heap a9 "java/lang/String" "coder" "B" (.int cd) := NC
    have F_a9_value : Fld Z T13.heap a9 "java/lang/String" "value" "[B" (.ref t) := NV
    have V_t : Arv Z T13.heap t kt .byte N vs (.int 0) := NB
    refine GoV.tr st13 ?_
    show GoV p e below s _ _ _ (T13.setTop (mkF m 64 #[.val (.ref a), .val (.int 2)] [(.ref a9)]))
    exact GoV.ret (vm1 := s.vm) X13 hlk hS0 (by exact hk13) (some (.ref a9)) (fun h => by rw [Bd.returns] at h; cases h) (by exact ⟨a9, t, _, _, _, _, Ps, rfl, N13, K13, g_a9, sz_a9, E_a9, F_a9_coder, F_a9_value, V_t, hcd, own_hb2 hc0 hc1, own_iH (s := s) I0 X13.warmed, (fun U hU1 hU2 hU3 hP => own_held hU1 (own_w hw 27 rfl) hU3 (fun b cl q => by rw [hU2]; exact O13.2.2 b cl q) hHZ (fun q hq _ => hP q hq))⟩) (by decide) (by decide) (fun fs hr => retOut X13 hx Bd.returns rfl (Or.inr (Or.inr (Or.inr (Or.inr ⟨rfl, rfl, rfl⟩)))) (hb hby dt_64) hr)
  · show GoV p e below s _ _ _ (s₁.setTop (mkF m 0 #[.val (.ref a), .val (.int 3)] []))
    refine GoV.s (XS.iloadN X0.here hx rfl (hb hby dt_0) rfl) ?_
    refine GoV.s (XS.ifYes X0.here hx rfl (pc0 := 1) (pc' := 15) rfl (hb hby dt_1) rfl (by decide) (by decide) (by decide)) ?_
    show GoV p e below s _ _ _ (s₁.setTop (mkF m 15 #[.val (.ref a), .val (.int 3)] []))
    refine GoV.s (XS.iloadN X0.here hx rfl (hb hby dt_15) rfl) ?_
    refine GoV.s (XS.iconst X0.here hx rfl (hb hby dt_16)) ?_
    refine GoV.s (XS.icmpYes X0.here hx rfl (pc0 := 17) (pc' := 37) rfl (hb hby dt_17) rfl (by decide) (by decide) (by decide)) ?_
    show GoV p e below s _ _ _ (s₁.setTop (mkF m 37 #[.val (.ref a), .val (.int 3)] []))
    refine GoV.s (XS.iloadN X0.here hx rfl (hb hby dt_37) rfl) ?_
    refine GoV.s (XS.iconst X0.here hx rfl (hb hby dt_38)) ?_
    refine GoV.s (XS.icmpYes X0.here hx rfl (pc0 := 39) (pc' := 65) rfl (hb hby dt_39) rfl (by decide) (by decide) (by decide)) ?_
    show GoV p e below s _ _ _ (s₁.setTop (mkF m 65 #[.val (.ref a), .val (.int 3)] []))
    refine GoV.s (XS.iloadN X0.here hx rfl (hb hby dt_65) rfl) ?_
    refine GoV.s (XS.iconst X0.here hx rfl (hb hby dt_66)) ?_
    refine GoV.s (XS.icmpNo X0.here hx rfl (hb hby dt_67) rfl (by decide)) ?_
    show GoV p e below s _ _ _ (s₁.setTop (mkF m 70 #[.val (.ref a), .val (.int 3)] []))
    obtain ⟨T14, h14, X14, e14, E14, A14, D14, -, st14⟩ := newO X0 hx hZ hown (own_w hw 14 rfl) (own_w hw 15 rfl) (own_w hw 16 rfl) e0 (g := (mkF m 70 #[.val (.ref a), .val (.int 3)] [])) rfl (hb hby dt_70) (by decide) (by decide)
    obtain ⟨a14, g14⟩ : ∃ z, z = h0.size := ⟨_, rfl⟩
    rw [← g14] at A14 D14 st14
    have g_a14 : n0 ≤ a14 := Nat.le_trans (own_old O0) (Nat.le_of_eq g14.symm)
    have sz_a14 : h0.size ≤ a14 := Nat.le_trans K0.1 (Nat.le_of_eq g14.symm)
    have ne_a_a14 : a ≠ a14 := by rw [g14]; exact Nat.ne_of_lt V_a.lt
    have V_a := V_a.ext E14
    have hk14 := Nat.le_trans hk0 E14.1
    have O14 := O0.ext E14
    have K14 := K0.ext E14
    have E_a14 : Exa Z h14 a14 "java/lang/String" := A14
    have F_a14_value : Fld Z h14 a14 "java/lang/String" "value" "[B" .null := D14 (Or.inr (own_w hw 29 rfl)) (ty := (.array .byte)) (by decide)
    have F_a14_coder : Fld Z h14 a14 "java/lang/String" "coder" "B" (.int 0) := D14 (Or.inr (own_w hw 30 rfl)) (ty := .byte) (by decide)
    refine GoV.st st14 ?_
    show GoV p e below s _ _ _ (T14.setTop (mkF m 73 #[.val (.ref a), .val (.int 3)] [(.ref a14)]))
    refine GoV.s (XS.dup X14.here hx rfl (hb hby dt_73) rfl rfl) ?_
    refine GoV.s (XS.iconst X14.here hx rfl (hb hby dt_74)) ?_
    obtain ⟨T15, h15, k15, X15, e15, E15, A15, st15⟩ := newP X14 hx hZ (own_w hw 10 rfl) e14 (g := (mkF m 75 #[.val (.ref a), .val (.int 3)] [(.int 3), (.ref a14), (.ref a14)])) rfl (hb hby dt_75) rfl (by decide) (cap := 3) (by decide) (by decide) (by decide) (by decide)
    obtain ⟨b15, g15⟩ : ∃ z, z = h14.size := ⟨_, rfl⟩
    rw [← g15] at A15 st15
    have g_b15 : n0 ≤ b15 := Nat.le_trans (own_old O14) (Nat.le_of_eq g15.symm)
    have sz_b15 : h0.size ≤ b15 := Nat.le_trans K14.1 (Nat.le_of_eq g15.symm)
    have ne_a_b15 : a ≠ b15 := by rw [g15]; exact Nat.ne_of_lt V_a.lt
    have ne_a14_b15 : a14 ≠ b15 := by rw [g15]; exact Nat.ne_of_lt E_a14.lt
    have V_a := V_a.ext E15
    have E_a14 := E_a14.ext E15
    have F_a14_value := F_a14_value.ext E15
    have F_a14_coder := F_a14_coder.ext E15
    have hk15 := Nat.le_trans hk14 E15.1
    have O15 := O14.ext E15
    have K15 := K14.ext E15
    have V_b15 : Arv Z h15 b15 k15 .char (3 : Int32) [(.int 0), (.int 0), (.int 0)] (.int 0) := (Arv.new A15 (by decide)).pad (pad_rep [] (.int 0) 3)
    refine GoV.st st15 ?_
    show GoV p e below s _ _ _ (T15.setTop (mkF m 77 #[.val (.ref a), .val (.int 3)] [(.ref b15), (.ref a14), (.ref a14)]))
    refine GoV.s (XS.dup X15.here hx rfl (hb hby dt_77) rfl rfl) ?_
    refine GoV.s (XS.iconst X15.here hx rfl (hb hby dt_78)) ?_
    refine GoV.s (XS.aloadN X15.here hx rfl (hb hby dt_79) rfl rfl) ?_
    refine GoV.s (XS.iconst X15.here hx rfl (hb hby dt_80)) ?_
    refine GoV.s (own_caload X15 hx hZ e15 V_a (by decide) (by decide) (v := (.int c0)) rfl (g := (mkF m 81 #[.val (.ref a), .val (.int 3)] [(.int 0), (.ref a), (.int 0), (.ref b15), (.ref b15), (.ref a14), (.ref a14)])) rfl rfl (hb hby dt_81) _) ?_
    show GoV p e below s _ _ _ (T15.setTop (mkF m 82 #[.val (.ref a), .val (.int 3)] [(.int c0), (.int 0), (.ref b15), (.ref b15), (.ref a14), (.ref a14)]))
    obtain ⟨T16, h16, X16, e16, W16, V16, st16⟩ := own_stC X15 hx hZ e15 V_b15 (j := (0 : Int32)) (by decide) (by decide) 0 rfl (Nat.le_of_ble_eq_true rfl) (g := (mkF m 82 #[.val (.ref a), .val (.int 3)] [(.int c0), (.int 0), (.ref b15), (.ref b15), (.ref a14), (.ref a14)])) rfl rfl (hb hby dt_82)
    obtain ⟨lc16, X16, N16⟩ := own_gen X16 (Fr.snoc X16 N0 g_b15)
    have O16 := O15.wr W16 g_b15
    have K16 := K15.wr W16 (Or.inr sz_b15)
    have V_a := V_a.other W16 ne_a_b15
    have E_a14 := E_a14.wr W16
    have F_a14_value := F_a14_value.other W16 (Or.inl ne_a14_b15)
    have F_a14_coder := F_a14_coder.other W16 (Or.inl ne_a14_b15)
    have hk16 := Nat.le_trans hk15 (Nat.le_of_eq W16.size.symm)
    have V_b15 : Arv Z h16 b15 k15 .char (3 : Int32) [(.int (nar .char c0)), (.int 0), (.int 0)] (.int 0) := V16
    refine GoV.st st16 ?_
    show GoV p e below s _ _ _ (T16.setTop (mkF m 83 #[.val (.ref a), .val (.int 3)] [(.ref b15), (.ref a14), (.ref a14)]))
    refine GoV.s (XS.dup X16.here hx rfl (hb hby dt_83) rfl rfl) ?_
    refine GoV.s (XS.iconst X16.here hx rfl (hb hby dt_84)) ?_
    refine GoV.s (XS.aloadN X16.here hx rfl (hb hby dt_85) rfl rfl) ?_
    refine GoV.s (XS.iconst X16.here hx rfl (hb hby dt_86)) ?_
    refine GoV.s (own_caload X16 hx hZ e16 V_a (by decide) (by decide) (v := (.int c1)) rfl (g := (mkF m 87 #[.val (.ref a), .val (.int 3)] [(.int 1), (.ref a), (.int 1), (.ref b15), (.ref b15), (.ref a14), (.ref a14)])) rfl rfl (hb hby dt_87) _) ?_
    show GoV p e below s _ _ _ (T16.setTop (mkF m 88 #[.val (.ref a), .val (.int 3)] [(.int c1), (.int 1), (.ref b15), (.ref b15), (.ref a14), (.ref a14)]))
    obtain ⟨T17, h17, X17, e17, W17, V17, st17⟩ := own_stC X16 hx hZ e16 V_b15 (j := (1 : Int32)) (by decide) (by decide) 1 rfl (Nat.le_of_ble_eq_true rfl) (g := (mkF m 88 #[.val (.ref a), .val (.int 3)] [(.int c1), (.int 1), (.ref b15), (.ref b15), (.ref a14), (.ref a14)])) rfl rfl (hb hby dt_88)
    obtain ⟨lc17, X17, N17⟩ := own_gen X17 (Fr.snoc X17 N16 g_b15)
    have O17 := O16.wr W17 g_b15
    have K17 := K16.wr W17 (Or.inr sz_b15)
    have V_a := V_a.other W17 ne_a_b15
    have E_a14 := E_a14.wr W17
    have F_a14_value := F_a14_value.other W17 (Or.inl ne_a14_b15)
    have F_a14_coder := F_a14_coder.other W17 (Or.inl ne_a14_b15)
    have hk17 := Nat.le_trans hk16 (Nat.le_of_eq W17.size.symm)
    have V_b15 : Arv Z h17 b15 k15 .char (3 : Int32) [(.int (nar .char c0)), (.int (nar .char c1)), (.int 0)] (.int 0) := V17
    refine GoV.st st17 ?_
    show GoV p e below s _ _ _ (T17.setTop (mkF m 89 #[.val (.ref a), .val (.int 3)] [(.ref b15), (.ref a14), (.ref a14)]))
    refine GoV.s (XS.dup X17.here hx rfl (hb hby dt_89) rfl rfl) ?_
    refine GoV.s (XS.iconst X17.here hx rfl (hb hby dt_90)) ?_
    refine GoV.s (XS.aloadN X17.here hx rfl (hb hby dt_91) rfl rfl) ?_
    refine GoV.s (XS.iconst X17.here hx rfl (hb hby dt_92)) ?_
    refine GoV.s (own_caload X17 hx hZ e17 V_a (by decide) (by decide) (v := (.int c2)) rfl (g := (mkF m 93 #[.val (.ref a), .val (.int 3)] [(.int 2), (.ref a), (.int 2), (.ref b15), (.ref b15), (.ref a14), (.ref a14)])) rfl rfl (hb hby dt_93) _) ?_
    show GoV p e below s _ _ _ (T17.setTop (mkF m 94 #[.val (.ref a), .val (.int 3)] [(.int c2), (.int 2), (.ref b15), (.ref b15), (.ref a14), (.ref a14)]))
    obtain ⟨T18, h18, X18, e18, W18, V18, st18⟩ := own_stC X17 hx hZ e17 V_b15 (j := (2 : Int32)) (by decide) (by decide) 2 rfl (Nat.le_of_ble_eq_true rfl) (g := (mkF m 94 #[.val (.ref a), .val (.int 3)] [(.int c2), (.int 2), (.ref b15), (.ref b15), (.ref a14), (.ref a14)])) rfl rfl (hb hby dt_94)
    obtain ⟨lc18, X18, N18⟩ := own_gen X18 (Fr.snoc X18 N17 g_b15)
    have O18 := O17.wr W18 g_b15
    have K18 := K17.wr W18 (Or.inr sz_b15)
    have V_a := V_a.other W18 ne_a_b15
    have E_a14 := E_a14.wr W18
    have F_a14_value := F_a14_value.other W18 (Or.inl ne_a14_b15)
    have F_a14_coder := F_a14_coder.other W18 (Or.inl ne_a14_b15)
    have hk18 := Nat.le_trans hk17 (Nat.le_of_eq W18.size.symm)
    have V_b15 : Arv Z h18 b15 k15 .char (3 : Int32) [(.int (nar .char c0)), (.int (nar .char c1)), (.int (nar .char c2))] (.int 0) := V18
    refine GoV.st st18 ?_
    show GoV p e below s _ _ _ (T18.setTop (mkF m 95 #[.val (.ref a), .val (.int 3)] [(.ref b15), (.ref a14), (.ref a14)]))
    rw [own_n16 hc0] at V_b15
    rw [own_n16 hc1] at V_b15
    rw [own_n16 hc2] at V_b15
    obtain ⟨_, _, ⟨T19, L19, k19, n19⟩, -, X19, ⟨Lc19, hQ19, l19, y19, z19⟩, st19⟩ := X18.specialBack hx (y := mN9) rfl hown (mvT hZ (own_w hw 17 rfl)) (mvT hZ (own_w hw 18 rfl)) (mvT hZ (own_w hw 19 rfl)) (by decide) (backOf (W := 1) (rmi3 l Z a0 hw [] a14 b15 k15 zc c0 c1 c2 h18 n0 O18 E_a14 F_a14_coder F_a14_value V_b15 g_a14 (Ne.symm ne_a14_b15) hc0 hc1 hc2 SA SHI SLO SC hcs) hZ (own_w hw 19 rfl) (own_w hw 16 rfl) (by decide) (by decide)) (g := (mkF m 95 #[.val (.ref a), .val (.int 3)] [(.ref b15), (.ref a14), (.ref a14)])) rfl (by rw [hml]; rfl) (Steps.refl _) (a := a14) (argsL := [(.ref b15)]) (rest := [(.ref a14)]) (lenOf pdt_0 rfl) rfl (by show 2 * 0 + _ ≤ _; exact Nat.le_of_eq rfl) (hb hby dt_95) (fun _ _ => ⟨rfl, e18, (by decide : 2 + 2 ≤ _), (by decide : 7 + 9 ≤ _)⟩)
    dsimp only [Pt.U, Pt.locs, Pt.cells, Pt.slots] at X19 l19 y19 z19 st19 hQ19
    subst y19 z19
    obtain ⟨rfl, Nc19, Kc19, t, kt, cd, N, vs, NE, NC, NV, NB, hcd⟩ := hQ19
    have N19 : Fr n0 L19 := by rw [l19]; exact Fr.app N18 Nc19
    have V_a := V_a.keep Kc19 (ninS ne_a_a14 nin0)
    have V_b15 := V_b15.keep Kc19 (ninS (Ne.symm ne_a14_b15) nin0)
    have hk19 := Nat.le_trans hk18 Kc19.1
    have O19 := O18.keep Kc19 (allS g_a14 all0)
    have K19 := K18.trans Kc19 (allS (Or.inr sz_a14) all0)
    have E_a14 : Exa Z T19.heap a14 "java/lang/String" := NE
    have F_a14_coder : Fld Z T19.heap a14 "java/lang/String" "coder" "B" (.int cd) := NC
    have F_a14_value : Fld Z T19.heap a14 "java/lang/String" "value" "[B" (.ref t) := NV
    have V_t : Arv Z T19.heap t kt .byte N vs (.int 0) := NB
    refine GoV.tr st19 ?_
    show GoV p e below s _ _ _ (T19.setTop (mkF m 98 #[.val (.ref a), .val (.int 3)] [(.ref a14)]))
    exact GoV.ret (vm1 := s.vm) X19 hlk hS0 (by exact hk19) (some (.ref a14)) (fun h => by rw [Bd.returns] at h; cases h) (by exact ⟨a14, t, _, _, _, _, Ps, rfl, N19, K19, g_a14, sz_a14, E_a14, F_a14_coder, F_a14_value, V_t, hcd, own_hb3 hc0 hc1 hc2, own_iH (s := s) I0 X19.warmed, (fun U hU1 hU2 hU3 hP => own_held hU1 (own_w hw 27 rfl) hU3 (fun b cl q => by rw [hU2]; exact O19.2.2 b cl q) hHZ (fun q hq _ => hP q hq))⟩) (by decide) (by decide) (fun fs hr => retOut X19 hx Bd.returns rfl (Or.inr (Or.inr (Or.inr (Or.inr ⟨rfl, rfl, rfl⟩)))) (hb hby dt_98) hr)
  · show GoV p e below s _ _ _ (s₁.setTop (mkF m 0 #[.val (.ref a), .val (.int 4)] []))
    refine GoV.s (XS.iloadN X0.here hx rfl (hb hby dt_0) rfl) ?_
    refine GoV.s (XS.ifYes X0.here hx rfl (pc0 := 1) (pc' := 15) rfl (hb hby dt_1) rfl (by decide) (by decide) (by decide)) ?_
    show GoV p e below s _ _ _ (s₁.setTop (mkF m 15 #[.val (.ref a), .val (.int 4)] []))
    refine GoV.s (XS.iloadN X0.here hx rfl (hb hby dt_15) rfl) ?_
    refine GoV.s (XS.iconst X0.here hx rfl (hb hby dt_16)) ?_
    refine GoV.s (XS.icmpYes X0.here hx rfl (pc0 := 17) (pc' := 37) rfl (hb hby dt_17) rfl (by decide) (by decide) (by decide)) ?_
    show GoV p e below s _ _ _ (s₁.setTop (mkF m 37 #[.val (.ref a), .val (.int 4)] []))
    refine GoV.s (XS.iloadN X0.here hx rfl (hb hby dt_37) rfl) ?_
    refine GoV.s (XS.iconst X0.here hx rfl (hb hby dt_38)) ?_
    refine GoV.s (XS.icmpYes X0.here hx rfl (pc0 := 39) (pc' := 65) rfl (hb hby dt_39) rfl (by decide) (by decide) (by decide)) ?_
    show GoV p e below s _ _ _ (s₁.setTop (mkF m 65 #[.val (.ref a), .val (.int 4)] []))
    refine GoV.s (XS.iloadN X0.here hx rfl (hb hby dt_65) rfl) ?_
    refine GoV.s (XS.iconst X0.here hx rfl (hb hby dt_66)) ?_
    refine GoV.s (XS.icmpYes X0.here hx rfl (pc0 := 67) (pc' := 99) rfl (hb hby dt_67) rfl (by decide) (by decide) (by decide)) ?_
    show GoV p e below s _ _ _ (s₁.setTop (mkF m 99 #[.val (.ref a), .val (.int 4)] []))
    obtain ⟨T20, h20, X20, e20, E20, A20, D20, -, st20⟩ := newO X0 hx hZ hown (own_w hw 14 rfl) (own_w hw 15 rfl) (own_w hw 16 rfl) e0 (g := (mkF m 99 #[.val (.ref a), .val (.int 4)] [])) rfl (hb hby dt_99) (by decide) (by decide)
    obtain ⟨a20, g20⟩ : ∃ z, z = h0.size := ⟨_, rfl⟩
    rw [← g20] at A20 D20 st20
    have g_a20 : n0 ≤ a20 := Nat.le_trans (own_old O0) (Nat.le_of_eq g20.symm)
    have sz_a20 : h0.size ≤ a20 := Nat.le_trans K0.1 (Nat.le_of_eq g20.symm)
    have ne_a_a20 : a ≠ a20 := by rw [g20]; exact Nat.ne_of_lt V_a.lt
    have V_a := V_a.ext E20
    have hk20 := Nat.le_trans hk0 E20.1
    have O20 := O0.ext E20
    have K20 := K0.ext E20
    have E_a20 : Exa Z h20 a20 "java/lang/String" := A20
    have F_a20_value : Fld Z h20 a20 "java/lang/String" "value" "[B" .null := D20 (Or.inr (own_w hw 29 rfl)) (ty := (.array .byte)) (by decide)
    have F_a20_coder : Fld Z h20 a20 "java/lang/String" "coder" "B" (.int 0) := D20 (Or.inr (own_w hw 30 rfl)) (ty := .byte) (by decide)
    refine GoV.st st20 ?_
    show GoV p e below s _ _ _ (T20.setTop (mkF m 102 #[.val (.ref a), .val (.int 4)] [(.ref a20)]))
    refine GoV.s (XS.dup X20.here hx rfl (hb hby dt_102) rfl rfl) ?_
    refine GoV.s (XS.iconst X20.here hx rfl (hb hby dt_103)) ?_
    obtain ⟨T21, h21, k21, X21, e21, E21, A21, st21⟩ := newP X20 hx hZ (own_w hw 10 rfl) e20 (g := (mkF m 104 #[.val (.ref a), .val (.int 4)] [(.int 4), (.ref a20), (.ref a20)])) rfl (hb hby dt_104) rfl (by decide) (cap := 4) (by decide) (by decide) (by decide) (by decide)
    obtain ⟨b21, g21⟩ : ∃ z, z = h20.size := ⟨_, rfl⟩
    rw [← g21] at A21 st21
    have g_b21 : n0 ≤ b21 := Nat.le_trans (own_old O20) (Nat.le_of_eq g21.symm)
    have sz_b21 : h0.size ≤ b21 := Nat.le_trans K20.1 (Nat.le_of_eq g21.symm)
    have ne_a_b21 : a ≠ b21 := by rw [g21]; exact Nat.ne_of_lt V_a.lt
    have ne_a20_b21 : a20 ≠ b21 := by rw [g21]; exact Nat.ne_of_lt E_a20.lt
    have V_a := V_a.ext E21
    have E_a20 := E_a20.ext E21
    have F_a20_value := F_a20_value.ext E21
    have F_a20_coder := F_a20_coder.ext E21
    have hk21 := Nat.le_trans hk20 E21.1
    have O21 := O20.ext E21
    have K21 := K20.ext E21
    have V_b21 : Arv Z h21 b21 k21 .char (4 : Int32) [(.int 0), (.int 0), (.int 0), (.int 0)] (.int 0) := (Arv.new A21 (by decide)).pad (pad_rep [] (.int 0) 4)
    refine GoV.st st21 ?_
    show GoV p e below s _ _ _ (T21.setTop (mkF m 106 #[.val (.ref a), .val (.int 4)] [(.ref b21), (.ref a20), (.ref a20)]))
    refine GoV.s (XS.dup X21.here hx rfl (hb hby dt_106) rfl rfl) ?_
    refine GoV.s (XS.iconst X21.here hx rfl (hb hby dt_107)) ?_
    refine GoV.s (XS.aloadN X21.here hx rfl (hb hby dt_108) rfl rfl) ?_
    refine GoV.s (XS.iconst X21.here hx rfl (hb hby dt_109)) ?_
    refine GoV.s (own_caload X21 hx hZ e21 V_a (by decide) (by decide) (v := (.int c0)) rfl (g := (mkF m 110 #[.val (.ref a), .val (.int 4)] [(.int 0), (.ref a), (.int 0), (.ref b21), (.ref b21), (.ref a20), (.ref a20)])) rfl rfl (hb hby dt_110) _) ?_
    show GoV p e below s _ _ _ (T21.setTop (mkF m 111 #[.val (.ref a), .val (.int 4)] [(.int c0), (.int 0), (.ref b21), (.ref b21), (.ref a20), (.ref a20)]))
    obtain ⟨T22, h22, X22, e22, W22, V22, st22⟩ := own_stC X21 hx hZ e21 V_b21 (j := (0 : Int32)) (by decide) (by decide) 0 rfl (Nat.le_of_ble_eq_true rfl) (g := (mkF m 111 #[.val (.ref a), .val (.int 4)] [(.int c0), (.int 0), (.ref b21), (.ref b21), (.ref a20), (.ref a20)])) rfl rfl (hb hby dt_111)
    obtain ⟨lc22, X22, N22⟩ := own_gen X22 (Fr.snoc X22 N0 g_b21)
    have O22 := O21.wr W22 g_b21
    have K22 := K21.wr W22 (Or.inr sz_b21)
    have V_a := V_a.other W22 ne_a_b21
    have E_a20 := E_a20.wr W22
    have F_a20_value := F_a20_value.other W22 (Or.inl ne_a20_b21)
    have F_a20_coder := F_a20_coder.other W22 (Or.inl ne_a20_b21)
    have hk22 := Nat.le_trans hk21 (Nat.le_of_eq W22.size.symm)
    have V_b21 : Arv Z h22 b21 k21 .char (4 : Int32) [(.int (nar .char c0)), (.int 0), (.int 0), (.int 0)] (.int 0) := V22
    refine GoV.st st22 ?_
    show GoV p e below s _ _ _ (T22.setTop (mkF m 112 #[.val (.ref a), .val (.int 4)] [(.ref b21), (.ref a20), (.ref a20)]))
    refine GoV.s (XS.dup X22.here hx rfl (hb hby dt_112) rfl rfl) ?_
    refine GoV.s (XS.iconst X22.here hx rfl (hb hby dt_113)) ?_
    refine GoV.s (XS.aloadN X22.here hx rfl (hb hby dt_114) rfl rfl) ?_
    refine GoV.s (XS.iconst X22.here hx rfl (hb hby dt_115)) ?_
    refine GoV.s (own_caload X22 hx hZ e22 V_a (by decide) (by decide) (v := (.int c1)) rfl (g := (mkF m 116 #[.val (.ref a), .val (.int 4)] [(.int 1), (.ref a), (.int 1), (.ref b21), (.ref b21), (.ref a20), (.ref a20)])) rfl rfl (hb hby dt_116) _) ?_
    show GoV p e below s _ _ _ (T22.setTop (mkF m 117 #[.val (.ref a), .val (.int 4)] [(.int c1), (.int 1), (.ref b21), (.ref b21), (.ref a20), (.ref a20)]))
    obtain ⟨T23, h23, X23, e23, W23, V23, st23⟩ := own_stC X22 hx hZ e22 V_b21 (j := (1 : Int32)) (by decide) (by decide) 1 rfl (Nat.le_of_ble_eq_true rfl) (g := (mkF m 117 #[.val (.ref a), .val (.int 4)] [(.int c1), (.int 1), (.ref b21), (.ref b21), (.ref a20), (.ref a20)])) rfl rfl (hb hby dt_117)
    obtain ⟨lc23, X23, N23⟩ := own_gen X23 (Fr.snoc X23 N22 g_b21)
    have O23 := O22.wr W23 g_b21
    have K23 := K22.wr W23 (Or.inr sz_b21)
    have V_a := V_a.other W23 ne_a_b21
    have E_a20 := E_a20.wr W23
    have F_a20_value := F_a20_value.other W23 (Or.inl ne_a20_b21)
    have F_a20_coder := F_a20_coder.other W23 (Or.inl ne_a20_b21)
    have hk23 := Nat.le_trans hk22 (Nat.le_of_eq W23.size.symm)
    have V_b21 : Arv Z h23 b21 k21 .char (4 : Int32) [(.int (nar .char c0)), (.int (nar .char c1)), (.int 0), (.int 0)] (.int 0) := V23
    refine GoV.st st23 ?_
    show GoV p e below s _ _ _ (T23.setTop (mkF m 118 #[.val (.ref a), .val (.int 4)] [(.ref b21), (.ref a20), (.ref a20)]))
    refine GoV.s (XS.dup X23.here hx rfl (hb hby dt_118) rfl rfl) ?_
    refine GoV.s (XS.iconst X23.here hx rfl (hb hby dt_119)) ?_
    refine GoV.s (XS.aloadN X23.here hx rfl (hb hby dt_120) rfl rfl) ?_
    refine GoV.s (XS.iconst X23.here hx rfl (hb hby dt_121)) ?_
    refine GoV.s (own_caload X23 hx hZ e23 V_a (by decide) (by decide) (v := (.int c2)) rfl (g := (mkF m 122 #[.val (.ref a), .val (.int 4)] [(.int 2), (.ref a), (.int 2), (.ref b21), (.ref b21), (.ref a20), (.ref a20)])) rfl rfl (hb hby dt_122) _) ?_
    show GoV p e below s _ _ _ (T23.setTop (mkF m 123 #[.val (.ref a), .val (.int 4)] [(.int c2), (.int 2), (.ref b21), (.ref b21), (.ref a20), (.ref a20)]))
    obtain ⟨T24, h24, X24, e24, W24, V24, st24⟩ := own_stC X23 hx hZ e23 V_b21 (j := (2 : Int32)) (by decide) (by decide) 2 rfl (Nat.le_of_ble_eq_true rfl) (g := (mkF m 123 #[.val (.ref a), .val (.int 4)] [(.int c2), (.int 2), (.ref b21), (.ref b21), (.ref a20), (.ref a20)])) rfl rfl (hb hby dt_123)
    obtain ⟨lc24, X24, N24⟩ := own_gen X24 (Fr.snoc X24 N23 g_b21)
    have O24 := O23.wr W24 g_b21
    have K24 := K23.wr W24 (Or.inr sz_b21)
    have V_a := V_a.other W24 ne_a_b21
    have E_a20 := E_a20.wr W24
    have F_a20_value := F_a20_value.other W24 (Or.inl ne_a20_b21)
    have F_a20_coder := F_a20_coder.other W24 (Or.inl ne_a20_b21)
    have hk24 := Nat.le_trans hk23 (Nat.le_of_eq W24.size.symm)
    have V_b21 : Arv Z h24 b21 k21 .char (4 : Int32) [(.int (nar .char c0)), (.int (nar .char c1)), (.int (nar .char c2)), (.int 0)] (.int 0) := V24
    refine GoV.st st24 ?_
    show GoV p e below s _ _ _ (T24.setTop (mkF m 124 #[.val (.ref a), .val (.int 4)] [(.ref b21), (.ref a20), (.ref a20)]))
    refine GoV.s (XS.dup X24.here hx rfl (hb hby dt_124) rfl rfl) ?_
    refine GoV.s (XS.iconst X24.here hx rfl (hb hby dt_125)) ?_
    refine GoV.s (XS.aloadN X24.here hx rfl (hb hby dt_126) rfl rfl) ?_
    refine GoV.s (XS.iconst X24.here hx rfl (hb hby dt_127)) ?_
    refine GoV.s (own_caload X24 hx hZ e24 V_a (by decide) (by decide) (v := (.int c3)) rfl (g := (mkF m 128 #[.val (.ref a), .val (.int 4)] [(.int 3), (.ref a), (.int 3), (.ref b21), (.ref b21), (.ref a20), (.ref a20)])) rfl rfl (hb hby dt_128) _) ?_
    show GoV p e below s _ _ _ (T24.setTop (mkF m 129 #[.val (.ref a), .val (.int 4)] [(.int c3), (.int 3), (.ref b21), (.ref b21), (.ref a20), (.ref a20)]))
    obtain ⟨T25, h25, X25, e25, W25, V25, st25⟩ := own_stC X24 hx hZ e24 V_b21 (j := (3 : Int32)) (by decide) (by decide) 3 rfl (Nat.le_of_ble_eq_true rfl) (g := (mkF m 129 #[.val (.ref a), .val (.int 4)] [(.int c3), (.int 3), (.ref b21), (.ref b21), (.ref a20), (.ref a20)])) rfl rfl (hb hby dt_129)
    obtain ⟨lc25, X25, N25⟩ := own_gen X25 (Fr.snoc X25 N24 g_b21)
    have O25 := O24.wr W25 g_b21
    have K25 := K24.wr W25 (Or.inr sz_b21)
    have V_a := V_a.other W25 ne_a_b21
    have E_a20 := E_a20.wr W25
    have F_a20_value := F_a20_value.other W25 (Or.inl ne_a20_b21)
    have F_a20_coder := F_a20_coder.other W25 (Or.inl ne_a20_b21)
    have hk25 := Nat.le_trans hk24 (Nat.le_of_eq W25.size.symm)
    have V_b21 : Arv Z h25 b21 k21 .char (4 : Int32) [(.int (nar .char c0)), (.int (nar .char c1)), (.int (nar .char c2)), (.int (nar .char c3))] (.int 0) := V25
    refine GoV.st st25 ?_
    show GoV p e below s _ _ _ (T25.setTop (mkF m 130 #[.val (.ref a), .val (.int 4)] [(.ref b21), (.ref a20), (.ref a20)]))
    rw [own_n16 hc0] at V_b21
    rw [own_n16 hc1] at V_b21
    rw [own_n16 hc2] at V_b21
    rw [own_n16 hc3] at V_b21
    obtain ⟨_, _, ⟨T26, L26, k26, n26⟩, -, X26, ⟨Lc26, hQ26, l26, y26, z26⟩, st26⟩ := X25.specialBack hx (y := mN9) rfl hown (mvT hZ (own_w hw 17 rfl)) (mvT hZ (own_w hw 18 rfl)) (mvT hZ (own_w hw 19 rfl)) (by decide) (backOf (W := 1) (rmi4 l Z a0 hw [] a20 b21 k21 zc c0 c1 c2 c3 h25 n0 O25 E_a20 F_a20_coder F_a20_value V_b21 g_a20 (Ne.symm ne_a20_b21) hc0 hc1 hc2 hc3 SA SHI SLO SC hcs) hZ (own_w hw 19 rfl) (own_w hw 16 rfl) (by decide) (by decide)) (g := (mkF m 130 #[.val (.ref a), .val (.int 4)] [(.ref b21), (.ref a20), (.ref a20)])) rfl (by rw [hml]; rfl) (Steps.refl _) (a := a20) (argsL := [(.ref b21)]) (rest := [(.ref a20)]) (lenOf pdt_0 rfl) rfl (by show 2 * 0 + _ ≤ _; exact Nat.le_of_eq rfl) (hb hby dt_130) (fun _ _ => ⟨rfl, e25, (by decide : 2 + 2 ≤ _), (by decide : 8 + 12 ≤ _)⟩)
    dsimp only [Pt.U, Pt.locs, Pt.cells, Pt.slots] at X26 l26 y26 z26 st26 hQ26
    subst y26 z26
    obtain ⟨rfl, Nc26, Kc26, t, kt, cd, N, vs, NE, NC, NV, NB, hcd⟩ := hQ26
    have N26 : Fr n0 L26 := by rw [l26]; exact Fr.app N25 Nc26
    have V_a := V_a.keep Kc26 (ninS ne_a_a20 nin0)
    have V_b21 := V_b21.keep Kc26 (ninS (Ne.symm ne_a20_b21) nin0)
    have hk26 := Nat.le_trans hk25 Kc26.1
    have O26 := O25.keep Kc26 (allS g_a20 all0)
    have K26 := K25.trans Kc26 (allS (Or.inr sz_a20) all0)
    have E_a20 : Exa Z T26.heap a20 "java/lang/String" := NE
    have F_a20_coder : Fld Z T26.heap a20 "java/lang/String" "coder" "B" (.int cd) := NC
    have F_a20_value : Fld Z T26.heap a20 "java/lang/String" "value" "[B" (.ref t) := NV
    have V_t : Arv Z T26.heap t kt .byte N vs (.int 0) := NB
    refine GoV.tr st26 ?_
    show GoV p e below s _ _ _ (T26.setTop (mkF m 133 #[.val (.ref a), .val (.int 4)] [(.ref a20)]))
    exact GoV.ret (vm1 := s.vm) X26 hlk hS0 (by exact hk26) (some (.ref a20)) (fun h => by rw [Bd.returns] at h; cases h) (by exact ⟨a20, t, _, _, _, _, Ps, rfl, N26, K26, g_a20, sz_a20, E_a20, F_a20_coder, F_a20_value, V_t, hcd, own_hb4 hc0 hc1 hc2 hc3, own_iH (s := s) I0 X26.warmed, (fun U hU1 hU2 hU3 hP => own_held hU1 (own_w hw 27 rfl) hU3 (fun b cl q => by rw [hU2]; exact O26.2.2 b cl q) hHZ (fun q hq _ => hP q hq))⟩) (by decide) (by decide) (fun fs hr => retOut X26 hx Bd.returns rfl (Or.inr (Or.inr (Or.inr (Or.inr ⟨rfl, rfl, rfl⟩)))) (hb hby dt_133) hr)
 obtain ⟨s2, o2, st2, r2⟩ := G
 exact ⟨s2, o2, castTop (eft m a n) st2, r2⟩
def oH (s : Int32) : Int32 := (55296 : Int32) + XT.ushr (s - (65536 : Int32)) (10 : Int32)
def oL (s : Int32) : Int32 := (56320 : Int32) + ((s - (65536 : Int32)) &&& (1023 : Int32))
def oPut (s : Int32) : List Int32 := if s < (65536 : Int32) then [s] else [oH s, oL s]
def oEnc (s0 s1 n : Int32) : List Int32 := if n < (1 : Int32) then [] else if n < (2 : Int32) then oPut s0 else oPut s0 ++ oPut s1
theorem oH_int {s : Int32} (h : ¬ s < (65536 : Int32)) (h2 : ¬ (1114111 : Int32) < s) : (oH s).toInt = 55296 + (s.toInt - 65536) / 1024 := by
  simp only [own_lt, Int32.reduceToInt] at h h2
  have e1 : (s - (65536 : Int32)).toInt = s.toInt - 65536 := by
    have := c_isub s 65536
    have r := rng32 (s - (65536 : Int32))
    simp only [Int32.reduceToInt] at this
    omega
  have e2 : (XT.ushr (s - (65536 : Int32)) (10 : Int32)).toInt = (s.toInt - 65536) / 1024 := by
    have := c_iushr (s - (65536 : Int32)) 10 10 (by decide) (by decide)
    rw [e1] at this
    show ((s - (65536 : Int32)).toUInt32 >>> ((10 : Int32) &&& 31).toUInt32).toInt32.toInt = _
    rw [this]
    omega
  have e3 := c_iadd (55296 : Int32) (XT.ushr (s - (65536 : Int32)) (10 : Int32))
  have r := rng32 (oH s)
  unfold oH at r ⊢
  simp only [Int32.reduceToInt, e2] at e3
  omega
theorem oL_int {s : Int32} (h : ¬ s < (65536 : Int32)) (h2 : ¬ (1114111 : Int32) < s) : (oL s).toInt = 56320 + (s.toInt - 65536) % 1024 := by
  simp only [own_lt, Int32.reduceToInt] at h h2
  have e1 : (s - (65536 : Int32)).toInt = s.toInt - 65536 := by
    have := c_isub s 65536
    have r := rng32 (s - (65536 : Int32))
    simp only [Int32.reduceToInt] at this
    omega
  have e2 := c_mask (s - (65536 : Int32)) 1023 10 (by decide) (by decide)
  rw [e1] at e2
  have e3 := c_iadd (56320 : Int32) ((s - (65536 : Int32)) &&& (1023 : Int32))
  have r := rng32 (oL s)
  unfold oL at r ⊢
  simp only [Int32.reduceToInt, e2] at e3
  omega
theorem oH_16 {s : Int32} (h : ¬ s < (65536 : Int32)) (h2 : ¬ (1114111 : Int32) < s) : ¬ oH s < 0 ∧ ¬ (65535 : Int32) < oH s := by
  have e := oH_int h h2
  simp only [own_lt, Int32.reduceToInt] at h h2 ⊢
  omega
theorem oL_16 {s : Int32} (h : ¬ s < (65536 : Int32)) (h2 : ¬ (1114111 : Int32) < s) : ¬ oL s < 0 ∧ ¬ (65535 : Int32) < oL s := by
  have e := oL_int h h2
  simp only [own_lt, Int32.reduceToInt] at h h2 ⊢
  omega
theorem oS_16 {s : Int32} (h : s < (65536 : Int32)) (h2 : ¬ s < 0) : ¬ s < 0 ∧ ¬ (65535 : Int32) < s := by
  simp only [own_lt, Int32.reduceToInt] at h h2 ⊢
  omega
theorem own_i2c {c : Int32} (h : ¬ c < 0 ∧ ¬ (65535 : Int32) < c) : nar .char (c.toUInt32.toUInt16.toUInt32.toInt32) = c := by
  simp only [own_lt, Int32.reduceToInt] at h
  have h1 := c_i2c c
  have h2 : c.toUInt32.toUInt16.toUInt32.toInt32 = c := by rw [own_eq]; omega
  have h3 : nar .char (c.toUInt32.toUInt16.toUInt32.toInt32) = c.toUInt32.toUInt16.toUInt32.toInt32 := Value.int.inj (XT.narrow_c _)
  rw [h3]
  exact h2
theorem du0_0 : decode method_6_code 0 = .ok (.iload_n 2, 1) := by decide +kernel
theorem du0_1 : decode method_6_code 1 = .ok (.ldc 34, 2) := by decide +kernel
theorem du0_3 : decode method_6_code 3 = .ok (.if_icmp .ge 12, 3) := by decide +kernel
theorem du0_6 : decode method_6_code 6 = .ok (.aload_n 0, 1) := by decide +kernel
theorem du0_7 : decode method_6_code 7 = .ok (.iload_n 1, 1) := by decide +kernel
theorem du0_8 : decode method_6_code 8 = .ok (.iload_n 2, 1) := by decide +kernel
theorem du0_9 : decode method_6_code 9 = .ok (.i2c, 1) := by decide +kernel
theorem du0_10 : decode method_6_code 10 = .ok (.castore, 1) := by decide +kernel
theorem du0_11 : decode method_6_code 11 = .ok (.iload_n 1, 1) := by decide +kernel
theorem du0_12 : decode method_6_code 12 = .ok (.iconst 1, 1) := by decide +kernel
theorem du0_13 : decode method_6_code 13 = .ok (.iadd, 1) := by decide +kernel
theorem du0_14 : decode method_6_code 14 = .ok (.ireturn, 1) := by decide +kernel
theorem du0_15 : decode method_6_code 15 = .ok (.iload_n 2, 1) := by decide +kernel
theorem du0_16 : decode method_6_code 16 = .ok (.ldc 34, 2) := by decide +kernel
theorem du0_18 : decode method_6_code 18 = .ok (.isub, 1) := by decide +kernel
theorem du0_19 : decode method_6_code 19 = .ok (.istore_n 3, 1) := by decide +kernel
theorem du0_20 : decode method_6_code 20 = .ok (.aload_n 0, 1) := by decide +kernel
theorem du0_21 : decode method_6_code 21 = .ok (.iload_n 1, 1) := by decide +kernel
theorem du0_22 : decode method_6_code 22 = .ok (.ldc 32, 2) := by decide +kernel
theorem du0_24 : decode method_6_code 24 = .ok (.iload_n 3, 1) := by decide +kernel
theorem du0_25 : decode method_6_code 25 = .ok (.bipush 10, 2) := by decide +kernel
theorem du0_27 : decode method_6_code 27 = .ok (.iushr, 1) := by decide +kernel
theorem du0_28 : decode method_6_code 28 = .ok (.iadd, 1) := by decide +kernel
theorem du0_29 : decode method_6_code 29 = .ok (.i2c, 1) := by decide +kernel
theorem du0_30 : decode method_6_code 30 = .ok (.castore, 1) := by decide +kernel
theorem du0_31 : decode method_6_code 31 = .ok (.aload_n 0, 1) := by decide +kernel
theorem du0_32 : decode method_6_code 32 = .ok (.iload_n 1, 1) := by decide +kernel
theorem du0_33 : decode method_6_code 33 = .ok (.iconst 1, 1) := by decide +kernel
theorem du0_34 : decode method_6_code 34 = .ok (.iadd, 1) := by decide +kernel
theorem du0_35 : decode method_6_code 35 = .ok (.ldc 35, 2) := by decide +kernel
theorem du0_37 : decode method_6_code 37 = .ok (.iload_n 3, 1) := by decide +kernel
theorem du0_38 : decode method_6_code 38 = .ok (.sipush 1023, 3) := by decide +kernel
theorem du0_41 : decode method_6_code 41 = .ok (.iand, 1) := by decide +kernel
theorem du0_42 : decode method_6_code 42 = .ok (.iadd, 1) := by decide +kernel
theorem du0_43 : decode method_6_code 43 = .ok (.i2c, 1) := by decide +kernel
theorem du0_44 : decode method_6_code 44 = .ok (.castore, 1) := by decide +kernel
theorem du0_45 : decode method_6_code 45 = .ok (.iload_n 1, 1) := by decide +kernel
theorem du0_46 : decode method_6_code 46 = .ok (.iconst 2, 1) := by decide +kernel
theorem du0_47 : decode method_6_code 47 = .ok (.iadd, 1) := by decide +kernel
theorem du0_48 : decode method_6_code 48 = .ok (.ireturn, 1) := by decide +kernel
theorem pnu0 : plainName "com/example/rootward/rootward/model/ShortestPathTreeCompareCodePointsPinLaw" = true := by first | (simp [plainName, overriddenIn]; done) | decide +kernel
theorem efu0 (m : MethodId) (x0 : Addr) (x1 : Int32) (x2 : Int32) : entryFrame m #[(.ref x0), (.int x1), (.int x2)] 4 = mkF m 0 #[.val (.ref x0), .val (.int x1), .val (.int x2), .unset] [] := by first | (simp [entryFrame, mkF, argsToLocals, Value.category, maxLocals]; done) | rfl
def Qu0 (Z : State) (a : Addr) (ka : ClassId) (sc : Int32) (c0 : Int32) (c1 : Int32) (c2 : Int32) (c3 : Int32) (h0 : Heap) (n0 : Nat) (v : Option Value) (h : Heap) (L : List Loc) : Prop := Fr n0 L ∧ Keep h0 h [a] ∧ ((v = some (.int 1) ∧ sc < (65536 : Int32) ∧ Arv Z h a ka .char (4 : Int32) [(.int sc), (.int c1), (.int c2), (.int c3)] (.int 0)) ∨ (v = some (.int 2) ∧ ¬ sc < (65536 : Int32) ∧ Arv Z h a ka .char (4 : Int32) [(.int (oH sc)), (.int (oL sc)), (.int c2), (.int c3)] (.int 0)))
theorem rmu0 (l : Launch) (Z : State) (a0 : Array Value) (hw : ∀ d ∈ tables_1, d.before a0 Z = true) (ws : List Jvm.Cond) (a : Addr) (ka : ClassId) (sc : Int32) (c0 : Int32) (c1 : Int32) (c2 : Int32) (c3 : Int32) (h0 : Heap) (n0 : Nat) (O0 : Old Z n0 h0) (V_a : Arv Z h0 a ka .char (4 : Int32) [(.int c0), (.int c1), (.int c2), (.int c3)] (.int 0)) (ga : n0 ≤ a) (hs0 : ¬ sc < 0) (hs1 : ¬ (1114111 : Int32) < sc) :
  MetFree l mN11 (head1 (Jvm.Cond.code mN11 method_6_code 4 (some .int) :: ws) ({ frames := 0, cells := 0, slots := 0, locals := 0 } : Room)) (fun A_ U_ => A_ = #[(.ref a), (.int 0), (.int sc)] ∧ Z.Warmed39 U_.vm ∧ U_.heap = h0) (fun _ _ _ _ _ => True) (fun _ U o U' => ∃ v L, o = .returned v ∧ Qu0 Z a ka sc c0 c1 c2 c3 h0 n0 v U'.heap L ∧ FrameEnd U o U' L ({ frames := 0, cells := 0, slots := 0, locals := 0 } : Room).cells ({ frames := 0, cells := 0, slots := 0, locals := 0 } : Room).slots) := by
 refine MetFree.of_bodySF (plainFor_of_name pnu0) hisR ?_
 intro p e s m args below meth cd s₁ Bd hml0 hP hK
 obtain ⟨rfl, hZ, hh⟩ := hP
 have hx := Bd.exec
 have hby := Bd.bytes
 have hlk : meth.locks = false := BodyLoose.notSynchronized Bd
 have hml : cd.maxLocals = 4 := hml0
 have hown : s.vm.findClass "com/example/rootward/rootward/model/ShortestPathTreeCompareCodePointsPinLaw" = some m.cls := findClass_of_methodNamed Bd.named
 have X0 : Stand p l e ({ frames := 0, cells := 0, slots := 0, locals := 0 } : Room) s m #[(.ref a), (.int 0), (.int sc)] below meth cd s₁ [] 0 0 := Stand.of_body Bd
 have e0 : s₁.heap = h0 := by rw [← hh, Bd.state]; rfl
 have N0 := Fr.nil n0
 have K0 : Keep h0 h0 [a] := Keep.refl _ _
 have G : Go p e below s 0 0 (Qu0 Z a ka sc c0 c1 c2 c3 h0 n0) (s₁.setTop (mkF m 0 #[.val (.ref a), .val (.int 0), .val (.int sc), .unset] [])) := by
  refine Go.s (XS.iloadN X0.here hx rfl (hb hby du0_0) rfl) ?_
  refine Go.s (X0.ldcI hx hown (mvT hZ (own_w hw 67 rfl)) rfl (hb hby du0_1)) ?_
  show Go p e below s _ _ _ (s₁.setTop (mkF m 3 #[.val (.ref a), .val (.int 0), .val (.int sc), .unset] [(.int 65536), (.int sc)]))
  by_cases c3_1 : sc < (65536 : Int32)
  · refine Go.s (XS.icmpNo X0.here hx rfl (hb hby du0_3) rfl (XT.ii_ge_f c3_1)) ?_
    show Go p e below s _ _ _ (s₁.setTop (mkF m 6 #[.val (.ref a), .val (.int 0), .val (.int sc), .unset] []))
    refine Go.s (XS.aloadN X0.here hx rfl (hb hby du0_6) rfl rfl) ?_
    refine Go.s (XS.iloadN X0.here hx rfl (hb hby du0_7) rfl) ?_
    refine Go.s (XS.iloadN X0.here hx rfl (hb hby du0_8) rfl) ?_
    refine Go.s (XT.i2c X0.here hx rfl (hb hby du0_9) rfl) ?_
    show Go p e below s _ _ _ (s₁.setTop (mkF m 10 #[.val (.ref a), .val (.int 0), .val (.int sc), .unset] [(.int (sc.toUInt32.toUInt16.toUInt32.toInt32)), (.int 0), (.ref a)]))
    obtain ⟨T2, h2, X2, e2, W2, V2, st2⟩ := own_stC X0 hx hZ e0 V_a (j := (0 : Int32)) (by decide) (by decide) 0 rfl (Nat.le_of_ble_eq_true rfl) (g := (mkF m 10 #[.val (.ref a), .val (.int 0), .val (.int sc), .unset] [(.int (sc.toUInt32.toUInt16.toUInt32.toInt32)), (.int 0), (.ref a)])) rfl rfl (hb hby du0_10)
    obtain ⟨lc2, X2, N2⟩ := own_gen X2 (Fr.snoc X2 N0 ga)
    have O2 := O0.wr W2 ga
    have K2 := K0.wr W2 (Or.inl (List.mem_of_getElem? (i := 0) rfl))
    have V_a : Arv Z h2 a ka .char (4 : Int32) [(.int (nar .char (sc.toUInt32.toUInt16.toUInt32.toInt32))), (.int c1), (.int c2), (.int c3)] (.int 0) := V2
    refine Go.st st2 ?_
    show Go p e below s _ _ _ (T2.setTop (mkF m 11 #[.val (.ref a), .val (.int 0), .val (.int sc), .unset] []))
    refine Go.s (XS.iloadN X2.here hx rfl (hb hby du0_11) rfl) ?_
    refine Go.s (XS.iconst X2.here hx rfl (hb hby du0_12)) ?_
    refine Go.s (XS.iadd X2.here hx rfl (hb hby du0_13) rfl) ?_
    exact Go.ret X2 hlk (some (.int 1)) (fun h => by rw [Bd.returns] at h; cases h) (by rw [e2]; exact ⟨N2, K2, Or.inl ⟨rfl, c3_1, by rw [own_i2c (oS_16 c3_1 hs0)] at V_a; exact V_a⟩⟩) (by decide) (by decide) (fun fs hr => retI X2 hx Bd.returns (hb hby du0_14) hr)
  · refine Go.s (XS.icmpYes X0.here hx rfl (pc0 := 3) (pc' := 15) rfl (hb hby du0_3) rfl (XT.ii_ge_t c3_1) (by decide) (by decide)) ?_
    show Go p e below s _ _ _ (s₁.setTop (mkF m 15 #[.val (.ref a), .val (.int 0), .val (.int sc), .unset] []))
    refine Go.s (XS.iloadN X0.here hx rfl (hb hby du0_15) rfl) ?_
    refine Go.s (X0.ldcI hx hown (mvT hZ (own_w hw 67 rfl)) rfl (hb hby du0_16)) ?_
    show Go p e below s _ _ _ (s₁.setTop (mkF m 18 #[.val (.ref a), .val (.int 0), .val (.int sc), .unset] [(.int 65536), (.int sc)]))
    refine Go.s (XS.isub X0.here hx rfl (hb hby du0_18) rfl) ?_
    refine Go.s (XS.istoreN X0.here hx rfl (hb hby du0_19) rfl (l' := #[.val (.ref a), .val (.int 0), .val (.int sc), .val (.int (sc - (65536 : Int32)))]) rfl) ?_
    refine Go.s (XS.aloadN X0.here hx rfl (hb hby du0_20) rfl rfl) ?_
    refine Go.s (XS.iloadN X0.here hx rfl (hb hby du0_21) rfl) ?_
    refine Go.s (X0.ldcI hx hown (mvT hZ (own_w hw 6 rfl)) rfl (hb hby du0_22)) ?_
    show Go p e below s _ _ _ (s₁.setTop (mkF m 24 #[.val (.ref a), .val (.int 0), .val (.int sc), .val (.int (sc - (65536 : Int32)))] [(.int 55296), (.int 0), (.ref a)]))
    refine Go.s (XS.iloadN X0.here hx rfl (hb hby du0_24) rfl) ?_
    refine Go.s (XS.bipush X0.here hx rfl (hb hby du0_25)) ?_
    refine Go.s (XT.iushr X0.here hx rfl (hb hby du0_27) rfl) ?_
    show Go p e below s _ _ _ (s₁.setTop (mkF m 28 #[.val (.ref a), .val (.int 0), .val (.int sc), .val (.int (sc - (65536 : Int32)))] [(.int (XT.ushr (sc - (65536 : Int32)) (10 : Int32))), (.int 55296), (.int 0), (.ref a)]))
    refine Go.s (XS.iadd X0.here hx rfl (hb hby du0_28) rfl) ?_
    refine Go.s (XT.i2c X0.here hx rfl (hb hby du0_29) rfl) ?_
    show Go p e below s _ _ _ (s₁.setTop (mkF m 30 #[.val (.ref a), .val (.int 0), .val (.int sc), .val (.int (sc - (65536 : Int32)))] [(.int (((55296 : Int32) + (XT.ushr (sc - (65536 : Int32)) (10 : Int32))).toUInt32.toUInt16.toUInt32.toInt32)), (.int 0), (.ref a)]))
    obtain ⟨T3, h3, X3, e3, W3, V3, st3⟩ := own_stC X0 hx hZ e0 V_a (j := (0 : Int32)) (by decide) (by decide) 0 rfl (Nat.le_of_ble_eq_true rfl) (g := (mkF m 30 #[.val (.ref a), .val (.int 0), .val (.int sc), .val (.int (sc - (65536 : Int32)))] [(.int (((55296 : Int32) + (XT.ushr (sc - (65536 : Int32)) (10 : Int32))).toUInt32.toUInt16.toUInt32.toInt32)), (.int 0), (.ref a)])) rfl rfl (hb hby du0_30)
    obtain ⟨lc3, X3, N3⟩ := own_gen X3 (Fr.snoc X3 N0 ga)
    have O3 := O0.wr W3 ga
    have K3 := K0.wr W3 (Or.inl (List.mem_of_getElem? (i := 0) rfl))
    have V_a : Arv Z h3 a ka .char (4 : Int32) [(.int (nar .char (((55296 : Int32) + (XT.ushr (sc - (65536 : Int32)) (10 : Int32))).toUInt32.toUInt16.toUInt32.toInt32))), (.int c1), (.int c2), (.int c3)] (.int 0) := V3
    refine Go.st st3 ?_
    show Go p e below s _ _ _ (T3.setTop (mkF m 31 #[.val (.ref a), .val (.int 0), .val (.int sc), .val (.int (sc - (65536 : Int32)))] []))
    refine Go.s (XS.aloadN X3.here hx rfl (hb hby du0_31) rfl rfl) ?_
    refine Go.s (XS.iloadN X3.here hx rfl (hb hby du0_32) rfl) ?_
    refine Go.s (XS.iconst X3.here hx rfl (hb hby du0_33)) ?_
    refine Go.s (XS.iadd X3.here hx rfl (hb hby du0_34) rfl) ?_
    refine Go.s (X3.ldcI hx hown (mvT hZ (own_w hw 107 rfl)) rfl (hb hby du0_35)) ?_
    show Go p e below s _ _ _ (T3.setTop (mkF m 37 #[.val (.ref a), .val (.int 0), .val (.int sc), .val (.int (sc - (65536 : Int32)))] [(.int 56320), (.int 1), (.ref a)]))
    refine Go.s (XS.iloadN X3.here hx rfl (hb hby du0_37) rfl) ?_
    refine Go.s (XS.sipush X3.here hx rfl (hb hby du0_38)) ?_
    refine Go.s (XS.iand X3.here hx rfl (hb hby du0_41) rfl) ?_
    refine Go.s (XS.iadd X3.here hx rfl (hb hby du0_42) rfl) ?_
    refine Go.s (XT.i2c X3.here hx rfl (hb hby du0_43) rfl) ?_
    show Go p e below s _ _ _ (T3.setTop (mkF m 44 #[.val (.ref a), .val (.int 0), .val (.int sc), .val (.int (sc - (65536 : Int32)))] [(.int (((56320 : Int32) + ((sc - (65536 : Int32)) &&& (1023 : Int32))).toUInt32.toUInt16.toUInt32.toInt32)), (.int 1), (.ref a)]))
    obtain ⟨T4, h4, X4, e4, W4, V4, st4⟩ := own_stC X3 hx hZ e3 V_a (j := (1 : Int32)) (by decide) (by decide) 1 rfl (Nat.le_of_ble_eq_true rfl) (g := (mkF m 44 #[.val (.ref a), .val (.int 0), .val (.int sc), .val (.int (sc - (65536 : Int32)))] [(.int (((56320 : Int32) + ((sc - (65536 : Int32)) &&& (1023 : Int32))).toUInt32.toUInt16.toUInt32.toInt32)), (.int 1), (.ref a)])) rfl rfl (hb hby du0_44)
    obtain ⟨lc4, X4, N4⟩ := own_gen X4 (Fr.snoc X4 N3 ga)
    have O4 := O3.wr W4 ga
    have K4 := K3.wr W4 (Or.inl (List.mem_of_getElem? (i := 0) rfl))
    have V_a : Arv Z h4 a ka .char (4 : Int32) [(.int (nar .char (((55296 : Int32) + (XT.ushr (sc - (65536 : Int32)) (10 : Int32))).toUInt32.toUInt16.toUInt32.toInt32))), (.int (nar .char (((56320 : Int32) + ((sc - (65536 : Int32)) &&& (1023 : Int32))).toUInt32.toUInt16.toUInt32.toInt32))), (.int c2), (.int c3)] (.int 0) := V4
    refine Go.st st4 ?_
    show Go p e below s _ _ _ (T4.setTop (mkF m 45 #[.val (.ref a), .val (.int 0), .val (.int sc), .val (.int (sc - (65536 : Int32)))] []))
    refine Go.s (XS.iloadN X4.here hx rfl (hb hby du0_45) rfl) ?_
    refine Go.s (XS.iconst X4.here hx rfl (hb hby du0_46)) ?_
    refine Go.s (XS.iadd X4.here hx rfl (hb hby du0_47) rfl) ?_
    exact Go.ret X4 hlk (some (.int 2)) (fun h => by rw [Bd.returns] at h; cases h) (by rw [e4]; exact ⟨N4, K4, Or.inr ⟨rfl, c3_1, by rw [show ((55296 : Int32) + (XT.ushr (sc - (65536 : Int32)) (10 : Int32))) = oH sc from rfl, show ((56320 : Int32) + ((sc - (65536 : Int32)) &&& (1023 : Int32))) = oL sc from rfl, own_i2c (oH_16 c3_1 hs1), own_i2c (oL_16 c3_1 hs1)] at V_a; exact V_a⟩⟩) (by decide) (by decide) (fun fs hr => retI X4 hx Bd.returns (hb hby du0_48) hr)
 obtain ⟨s2, o2, st2, r2⟩ := G
 exact ⟨s2, o2, castTop (efu0 m a (0 : Int32) sc) st2, r2⟩
theorem pnu1 : plainName "com/example/rootward/rootward/model/ShortestPathTreeCompareCodePointsPinLaw" = true := by first | (simp [plainName, overriddenIn]; done) | decide +kernel
theorem efu1 (m : MethodId) (x0 : Addr) (x1 : Int32) (x2 : Int32) : entryFrame m #[(.ref x0), (.int x1), (.int x2)] 4 = mkF m 0 #[.val (.ref x0), .val (.int x1), .val (.int x2), .unset] [] := by first | (simp [entryFrame, mkF, argsToLocals, Value.category, maxLocals]; done) | rfl
def Qu1 (Z : State) (a : Addr) (ka : ClassId) (sc : Int32) (c0 : Int32) (c1 : Int32) (c2 : Int32) (c3 : Int32) (h0 : Heap) (n0 : Nat) (v : Option Value) (h : Heap) (L : List Loc) : Prop := Fr n0 L ∧ Keep h0 h [a] ∧ ((v = some (.int 2) ∧ sc < (65536 : Int32) ∧ Arv Z h a ka .char (4 : Int32) [(.int c0), (.int sc), (.int c2), (.int c3)] (.int 0)) ∨ (v = some (.int 3) ∧ ¬ sc < (65536 : Int32) ∧ Arv Z h a ka .char (4 : Int32) [(.int c0), (.int (oH sc)), (.int (oL sc)), (.int c3)] (.int 0)))
theorem rmu1 (l : Launch) (Z : State) (a0 : Array Value) (hw : ∀ d ∈ tables_1, d.before a0 Z = true) (ws : List Jvm.Cond) (a : Addr) (ka : ClassId) (sc : Int32) (c0 : Int32) (c1 : Int32) (c2 : Int32) (c3 : Int32) (h0 : Heap) (n0 : Nat) (O0 : Old Z n0 h0) (V_a : Arv Z h0 a ka .char (4 : Int32) [(.int c0), (.int c1), (.int c2), (.int c3)] (.int 0)) (ga : n0 ≤ a) (hs0 : ¬ sc < 0) (hs1 : ¬ (1114111 : Int32) < sc) :
  MetFree l mN11 (head1 (Jvm.Cond.code mN11 method_6_code 4 (some .int) :: ws) ({ frames := 0, cells := 0, slots := 0, locals := 0 } : Room)) (fun A_ U_ => A_ = #[(.ref a), (.int 1), (.int sc)] ∧ Z.Warmed39 U_.vm ∧ U_.heap = h0) (fun _ _ _ _ _ => True) (fun _ U o U' => ∃ v L, o = .returned v ∧ Qu1 Z a ka sc c0 c1 c2 c3 h0 n0 v U'.heap L ∧ FrameEnd U o U' L ({ frames := 0, cells := 0, slots := 0, locals := 0 } : Room).cells ({ frames := 0, cells := 0, slots := 0, locals := 0 } : Room).slots) := by
 refine MetFree.of_bodySF (plainFor_of_name pnu1) hisR ?_
 intro p e s m args below meth cd s₁ Bd hml0 hP hK
 obtain ⟨rfl, hZ, hh⟩ := hP
 have hx := Bd.exec
 have hby := Bd.bytes
 have hlk : meth.locks = false := BodyLoose.notSynchronized Bd
 have hml : cd.maxLocals = 4 := hml0
 have hown : s.vm.findClass "com/example/rootward/rootward/model/ShortestPathTreeCompareCodePointsPinLaw" = some m.cls := findClass_of_methodNamed Bd.named
 have X0 : Stand p l e ({ frames := 0, cells := 0, slots := 0, locals := 0 } : Room) s m #[(.ref a), (.int 1), (.int sc)] below meth cd s₁ [] 0 0 := Stand.of_body Bd
 have e0 : s₁.heap = h0 := by rw [← hh, Bd.state]; rfl
 have N0 := Fr.nil n0
 have K0 : Keep h0 h0 [a] := Keep.refl _ _
 have G : Go p e below s 0 0 (Qu1 Z a ka sc c0 c1 c2 c3 h0 n0) (s₁.setTop (mkF m 0 #[.val (.ref a), .val (.int 1), .val (.int sc), .unset] [])) := by
  refine Go.s (XS.iloadN X0.here hx rfl (hb hby du0_0) rfl) ?_
  refine Go.s (X0.ldcI hx hown (mvT hZ (own_w hw 67 rfl)) rfl (hb hby du0_1)) ?_
  show Go p e below s _ _ _ (s₁.setTop (mkF m 3 #[.val (.ref a), .val (.int 1), .val (.int sc), .unset] [(.int 65536), (.int sc)]))
  by_cases c3_1 : sc < (65536 : Int32)
  · refine Go.s (XS.icmpNo X0.here hx rfl (hb hby du0_3) rfl (XT.ii_ge_f c3_1)) ?_
    show Go p e below s _ _ _ (s₁.setTop (mkF m 6 #[.val (.ref a), .val (.int 1), .val (.int sc), .unset] []))
    refine Go.s (XS.aloadN X0.here hx rfl (hb hby du0_6) rfl rfl) ?_
    refine Go.s (XS.iloadN X0.here hx rfl (hb hby du0_7) rfl) ?_
    refine Go.s (XS.iloadN X0.here hx rfl (hb hby du0_8) rfl) ?_
    refine Go.s (XT.i2c X0.here hx rfl (hb hby du0_9) rfl) ?_
    show Go p e below s _ _ _ (s₁.setTop (mkF m 10 #[.val (.ref a), .val (.int 1), .val (.int sc), .unset] [(.int (sc.toUInt32.toUInt16.toUInt32.toInt32)), (.int 1), (.ref a)]))
    obtain ⟨T2, h2, X2, e2, W2, V2, st2⟩ := own_stC X0 hx hZ e0 V_a (j := (1 : Int32)) (by decide) (by decide) 1 rfl (Nat.le_of_ble_eq_true rfl) (g := (mkF m 10 #[.val (.ref a), .val (.int 1), .val (.int sc), .unset] [(.int (sc.toUInt32.toUInt16.toUInt32.toInt32)), (.int 1), (.ref a)])) rfl rfl (hb hby du0_10)
    obtain ⟨lc2, X2, N2⟩ := own_gen X2 (Fr.snoc X2 N0 ga)
    have O2 := O0.wr W2 ga
    have K2 := K0.wr W2 (Or.inl (List.mem_of_getElem? (i := 0) rfl))
    have V_a : Arv Z h2 a ka .char (4 : Int32) [(.int c0), (.int (nar .char (sc.toUInt32.toUInt16.toUInt32.toInt32))), (.int c2), (.int c3)] (.int 0) := V2
    refine Go.st st2 ?_
    show Go p e below s _ _ _ (T2.setTop (mkF m 11 #[.val (.ref a), .val (.int 1), .val (.int sc), .unset] []))
    refine Go.s (XS.iloadN X2.here hx rfl (hb hby du0_11) rfl) ?_
    refine Go.s (XS.iconst X2.here hx rfl (hb hby du0_12)) ?_
    refine Go.s (XS.iadd X2.here hx rfl (hb hby du0_13) rfl) ?_
    exact Go.ret X2 hlk (some (.int 2)) (fun h => by rw [Bd.returns] at h; cases h) (by rw [e2]; exact ⟨N2, K2, Or.inl ⟨rfl, c3_1, by rw [own_i2c (oS_16 c3_1 hs0)] at V_a; exact V_a⟩⟩) (by decide) (by decide) (fun fs hr => retI X2 hx Bd.returns (hb hby du0_14) hr)
  · refine Go.s (XS.icmpYes X0.here hx rfl (pc0 := 3) (pc' := 15) rfl (hb hby du0_3) rfl (XT.ii_ge_t c3_1) (by decide) (by decide)) ?_
    show Go p e below s _ _ _ (s₁.setTop (mkF m 15 #[.val (.ref a), .val (.int 1), .val (.int sc), .unset] []))
    refine Go.s (XS.iloadN X0.here hx rfl (hb hby du0_15) rfl) ?_
    refine Go.s (X0.ldcI hx hown (mvT hZ (own_w hw 67 rfl)) rfl (hb hby du0_16)) ?_
    show Go p e below s _ _ _ (s₁.setTop (mkF m 18 #[.val (.ref a), .val (.int 1), .val (.int sc), .unset] [(.int 65536), (.int sc)]))
    refine Go.s (XS.isub X0.here hx rfl (hb hby du0_18) rfl) ?_
    refine Go.s (XS.istoreN X0.here hx rfl (hb hby du0_19) rfl (l' := #[.val (.ref a), .val (.int 1), .val (.int sc), .val (.int (sc - (65536 : Int32)))]) rfl) ?_
    refine Go.s (XS.aloadN X0.here hx rfl (hb hby du0_20) rfl rfl) ?_
    refine Go.s (XS.iloadN X0.here hx rfl (hb hby du0_21) rfl) ?_
    refine Go.s (X0.ldcI hx hown (mvT hZ (own_w hw 6 rfl)) rfl (hb hby du0_22)) ?_
    show Go p e below s _ _ _ (s₁.setTop (mkF m 24 #[.val (.ref a), .val (.int 1), .val (.int sc), .val (.int (sc - (65536 : Int32)))] [(.int 55296), (.int 1), (.ref a)]))
    refine Go.s (XS.iloadN X0.here hx rfl (hb hby du0_24) rfl) ?_
    refine Go.s (XS.bipush X0.here hx rfl (hb hby du0_25)) ?_
    refine Go.s (XT.iushr X0.here hx rfl (hb hby du0_27) rfl) ?_
    show Go p e below s _ _ _ (s₁.setTop (mkF m 28 #[.val (.ref a), .val (.int 1), .val (.int sc), .val (.int (sc - (65536 : Int32)))] [(.int (XT.ushr (sc - (65536 : Int32)) (10 : Int32))), (.int 55296), (.int 1), (.ref a)]))
    refine Go.s (XS.iadd X0.here hx rfl (hb hby du0_28) rfl) ?_
    refine Go.s (XT.i2c X0.here hx rfl (hb hby du0_29) rfl) ?_
    show Go p e below s _ _ _ (s₁.setTop (mkF m 30 #[.val (.ref a), .val (.int 1), .val (.int sc), .val (.int (sc - (65536 : Int32)))] [(.int (((55296 : Int32) + (XT.ushr (sc - (65536 : Int32)) (10 : Int32))).toUInt32.toUInt16.toUInt32.toInt32)), (.int 1), (.ref a)]))
    obtain ⟨T3, h3, X3, e3, W3, V3, st3⟩ := own_stC X0 hx hZ e0 V_a (j := (1 : Int32)) (by decide) (by decide) 1 rfl (Nat.le_of_ble_eq_true rfl) (g := (mkF m 30 #[.val (.ref a), .val (.int 1), .val (.int sc), .val (.int (sc - (65536 : Int32)))] [(.int (((55296 : Int32) + (XT.ushr (sc - (65536 : Int32)) (10 : Int32))).toUInt32.toUInt16.toUInt32.toInt32)), (.int 1), (.ref a)])) rfl rfl (hb hby du0_30)
    obtain ⟨lc3, X3, N3⟩ := own_gen X3 (Fr.snoc X3 N0 ga)
    have O3 := O0.wr W3 ga
    have K3 := K0.wr W3 (Or.inl (List.mem_of_getElem? (i := 0) rfl))
    have V_a : Arv Z h3 a ka .char (4 : Int32) [(.int c0), (.int (nar .char (((55296 : Int32) + (XT.ushr (sc - (65536 : Int32)) (10 : Int32))).toUInt32.toUInt16.toUInt32.toInt32))), (.int c2), (.int c3)] (.int 0) := V3
    refine Go.st st3 ?_
    show Go p e below s _ _ _ (T3.setTop (mkF m 31 #[.val (.ref a), .val (.int 1), .val (.int sc), .val (.int (sc - (65536 : Int32)))] []))
    refine Go.s (XS.aloadN X3.here hx rfl (hb hby du0_31) rfl rfl) ?_
    refine Go.s (XS.iloadN X3.here hx rfl (hb hby du0_32) rfl) ?_
    refine Go.s (XS.iconst X3.here hx rfl (hb hby du0_33)) ?_
    refine Go.s (XS.iadd X3.here hx rfl (hb hby du0_34) rfl) ?_
    refine Go.s (X3.ldcI hx hown (mvT hZ (own_w hw 107 rfl)) rfl (hb hby du0_35)) ?_
    show Go p e below s _ _ _ (T3.setTop (mkF m 37 #[.val (.ref a), .val (.int 1), .val (.int sc), .val (.int (sc - (65536 : Int32)))] [(.int 56320), (.int 2), (.ref a)]))
    refine Go.s (XS.iloadN X3.here hx rfl (hb hby du0_37) rfl) ?_
    refine Go.s (XS.sipush X3.here hx rfl (hb hby du0_38)) ?_
    refine Go.s (XS.iand X3.here hx rfl (hb hby du0_41) rfl) ?_
    refine Go.s (XS.iadd X3.here hx rfl (hb hby du0_42) rfl) ?_
    refine Go.s (XT.i2c X3.here hx rfl (hb hby du0_43) rfl) ?_
    show Go p e below s _ _ _ (T3.setTop (mkF m 44 #[.val (.ref a), .val (.int 1), .val (.int sc), .val (.int (sc - (65536 : Int32)))] [(.int (((56320 : Int32) + ((sc - (65536 : Int32)) &&& (1023 : Int32))).toUInt32.toUInt16.toUInt32.toInt32)), (.int 2), (.ref a)]))
    obtain ⟨T4, h4, X4, e4, W4, V4, st4⟩ := own_stC X3 hx hZ e3 V_a (j := (2 : Int32)) (by decide) (by decide) 2 rfl (Nat.le_of_ble_eq_true rfl) (g := (mkF m 44 #[.val (.ref a), .val (.int 1), .val (.int sc), .val (.int (sc - (65536 : Int32)))] [(.int (((56320 : Int32) + ((sc - (65536 : Int32)) &&& (1023 : Int32))).toUInt32.toUInt16.toUInt32.toInt32)), (.int 2), (.ref a)])) rfl rfl (hb hby du0_44)
    obtain ⟨lc4, X4, N4⟩ := own_gen X4 (Fr.snoc X4 N3 ga)
    have O4 := O3.wr W4 ga
    have K4 := K3.wr W4 (Or.inl (List.mem_of_getElem? (i := 0) rfl))
    have V_a : Arv Z h4 a ka .char (4 : Int32) [(.int c0), (.int (nar .char (((55296 : Int32) + (XT.ushr (sc - (65536 : Int32)) (10 : Int32))).toUInt32.toUInt16.toUInt32.toInt32))), (.int (nar .char (((56320 : Int32) + ((sc - (65536 : Int32)) &&& (1023 : Int32))).toUInt32.toUInt16.toUInt32.toInt32))), (.int c3)] (.int 0) := V4
    refine Go.st st4 ?_
    show Go p e below s _ _ _ (T4.setTop (mkF m 45 #[.val (.ref a), .val (.int 1), .val (.int sc), .val (.int (sc - (65536 : Int32)))] []))
    refine Go.s (XS.iloadN X4.here hx rfl (hb hby du0_45) rfl) ?_
    refine Go.s (XS.iconst X4.here hx rfl (hb hby du0_46)) ?_
    refine Go.s (XS.iadd X4.here hx rfl (hb hby du0_47) rfl) ?_
    exact Go.ret X4 hlk (some (.int 3)) (fun h => by rw [Bd.returns] at h; cases h) (by rw [e4]; exact ⟨N4, K4, Or.inr ⟨rfl, c3_1, by rw [show ((55296 : Int32) + (XT.ushr (sc - (65536 : Int32)) (10 : Int32))) = oH sc from rfl, show ((56320 : Int32) + ((sc - (65536 : Int32)) &&& (1023 : Int32))) = oL sc from rfl, own_i2c (oH_16 c3_1 hs1), own_i2c (oL_16 c3_1 hs1)] at V_a; exact V_a⟩⟩) (by decide) (by decide) (fun fs hr => retI X4 hx Bd.returns (hb hby du0_48) hr)
 obtain ⟨s2, o2, st2, r2⟩ := G
 exact ⟨s2, o2, castTop (efu1 m a (1 : Int32) sc) st2, r2⟩
theorem pnu2 : plainName "com/example/rootward/rootward/model/ShortestPathTreeCompareCodePointsPinLaw" = true := by first | (simp [plainName, overriddenIn]; done) | decide +kernel
theorem efu2 (m : MethodId) (x0 : Addr) (x1 : Int32) (x2 : Int32) : entryFrame m #[(.ref x0), (.int x1), (.int x2)] 4 = mkF m 0 #[.val (.ref x0), .val (.int x1), .val (.int x2), .unset] [] := by first | (simp [entryFrame, mkF, argsToLocals, Value.category, maxLocals]; done) | rfl
def Qu2 (Z : State) (a : Addr) (ka : ClassId) (sc : Int32) (c0 : Int32) (c1 : Int32) (c2 : Int32) (c3 : Int32) (h0 : Heap) (n0 : Nat) (v : Option Value) (h : Heap) (L : List Loc) : Prop := Fr n0 L ∧ Keep h0 h [a] ∧ ((v = some (.int 3) ∧ sc < (65536 : Int32) ∧ Arv Z h a ka .char (4 : Int32) [(.int c0), (.int c1), (.int sc), (.int c3)] (.int 0)) ∨ (v = some (.int 4) ∧ ¬ sc < (65536 : Int32) ∧ Arv Z h a ka .char (4 : Int32) [(.int c0), (.int c1), (.int (oH sc)), (.int (oL sc))] (.int 0)))
theorem rmu2 (l : Launch) (Z : State) (a0 : Array Value) (hw : ∀ d ∈ tables_1, d.before a0 Z = true) (ws : List Jvm.Cond) (a : Addr) (ka : ClassId) (sc : Int32) (c0 : Int32) (c1 : Int32) (c2 : Int32) (c3 : Int32) (h0 : Heap) (n0 : Nat) (O0 : Old Z n0 h0) (V_a : Arv Z h0 a ka .char (4 : Int32) [(.int c0), (.int c1), (.int c2), (.int c3)] (.int 0)) (ga : n0 ≤ a) (hs0 : ¬ sc < 0) (hs1 : ¬ (1114111 : Int32) < sc) :
  MetFree l mN11 (head1 (Jvm.Cond.code mN11 method_6_code 4 (some .int) :: ws) ({ frames := 0, cells := 0, slots := 0, locals := 0 } : Room)) (fun A_ U_ => A_ = #[(.ref a), (.int 2), (.int sc)] ∧ Z.Warmed39 U_.vm ∧ U_.heap = h0) (fun _ _ _ _ _ => True) (fun _ U o U' => ∃ v L, o = .returned v ∧ Qu2 Z a ka sc c0 c1 c2 c3 h0 n0 v U'.heap L ∧ FrameEnd U o U' L ({ frames := 0, cells := 0, slots := 0, locals := 0 } : Room).cells ({ frames := 0, cells := 0, slots := 0, locals := 0 } : Room).slots) := by
 refine MetFree.of_bodySF (plainFor_of_name pnu2) hisR ?_
 intro p e s m args below meth cd s₁ Bd hml0 hP hK
 obtain ⟨rfl, hZ, hh⟩ := hP
 have hx := Bd.exec
 have hby := Bd.bytes
 have hlk : meth.locks = false := BodyLoose.notSynchronized Bd
 have hml : cd.maxLocals = 4 := hml0
 have hown : s.vm.findClass "com/example/rootward/rootward/model/ShortestPathTreeCompareCodePointsPinLaw" = some m.cls := findClass_of_methodNamed Bd.named
 have X0 : Stand p l e ({ frames := 0, cells := 0, slots := 0, locals := 0 } : Room) s m #[(.ref a), (.int 2), (.int sc)] below meth cd s₁ [] 0 0 := Stand.of_body Bd
 have e0 : s₁.heap = h0 := by rw [← hh, Bd.state]; rfl
 have N0 := Fr.nil n0
 have K0 : Keep h0 h0 [a] := Keep.refl _ _
 have G : Go p e below s 0 0 (Qu2 Z a ka sc c0 c1 c2 c3 h0 n0) (s₁.setTop (mkF m 0 #[.val (.ref a), .val (.int 2), .val (.int sc), .unset] [])) := by
  refine Go.s (XS.iloadN X0.here hx rfl (hb hby du0_0) rfl) ?_
  refine Go.s (X0.ldcI hx hown (mvT hZ (own_w hw 67 rfl)) rfl (hb hby du0_1)) ?_
  show Go p e below s _ _ _ (s₁.setTop (mkF m 3 #[.val (.ref a), .val (.int 2), .val (.int sc), .unset] [(.int 65536), (.int sc)]))
  by_cases c3_1 : sc < (65536 : Int32)
  · refine Go.s (XS.icmpNo X0.here hx rfl (hb hby du0_3) rfl (XT.ii_ge_f c3_1)) ?_
    show Go p e below s _ _ _ (s₁.setTop (mkF m 6 #[.val (.ref a), .val (.int 2), .val (.int sc), .unset] []))
    refine Go.s (XS.aloadN X0.here hx rfl (hb hby du0_6) rfl rfl) ?_
    refine Go.s (XS.iloadN X0.here hx rfl (hb hby du0_7) rfl) ?_
    refine Go.s (XS.iloadN X0.here hx rfl (hb hby du0_8) rfl) ?_
    refine Go.s (XT.i2c X0.here hx rfl (hb hby du0_9) rfl) ?_
    show Go p e below s _ _ _ (s₁.setTop (mkF m 10 #[.val (.ref a), .val (.int 2), .val (.int sc), .unset] [(.int (sc.toUInt32.toUInt16.toUInt32.toInt32)), (.int 2), (.ref a)]))
    obtain ⟨T2, h2, X2, e2, W2, V2, st2⟩ := own_stC X0 hx hZ e0 V_a (j := (2 : Int32)) (by decide) (by decide) 2 rfl (Nat.le_of_ble_eq_true rfl) (g := (mkF m 10 #[.val (.ref a), .val (.int 2), .val (.int sc), .unset] [(.int (sc.toUInt32.toUInt16.toUInt32.toInt32)), (.int 2), (.ref a)])) rfl rfl (hb hby du0_10)
    obtain ⟨lc2, X2, N2⟩ := own_gen X2 (Fr.snoc X2 N0 ga)
    have O2 := O0.wr W2 ga
    have K2 := K0.wr W2 (Or.inl (List.mem_of_getElem? (i := 0) rfl))
    have V_a : Arv Z h2 a ka .char (4 : Int32) [(.int c0), (.int c1), (.int (nar .char (sc.toUInt32.toUInt16.toUInt32.toInt32))), (.int c3)] (.int 0) := V2
    refine Go.st st2 ?_
    show Go p e below s _ _ _ (T2.setTop (mkF m 11 #[.val (.ref a), .val (.int 2), .val (.int sc), .unset] []))
    refine Go.s (XS.iloadN X2.here hx rfl (hb hby du0_11) rfl) ?_
    refine Go.s (XS.iconst X2.here hx rfl (hb hby du0_12)) ?_
    refine Go.s (XS.iadd X2.here hx rfl (hb hby du0_13) rfl) ?_
    exact Go.ret X2 hlk (some (.int 3)) (fun h => by rw [Bd.returns] at h; cases h) (by rw [e2]; exact ⟨N2, K2, Or.inl ⟨rfl, c3_1, by rw [own_i2c (oS_16 c3_1 hs0)] at V_a; exact V_a⟩⟩) (by decide) (by decide) (fun fs hr => retI X2 hx Bd.returns (hb hby du0_14) hr)
  · refine Go.s (XS.icmpYes X0.here hx rfl (pc0 := 3) (pc' := 15) rfl (hb hby du0_3) rfl (XT.ii_ge_t c3_1) (by decide) (by decide)) ?_
    show Go p e below s _ _ _ (s₁.setTop (mkF m 15 #[.val (.ref a), .val (.int 2), .val (.int sc), .unset] []))
    refine Go.s (XS.iloadN X0.here hx rfl (hb hby du0_15) rfl) ?_
    refine Go.s (X0.ldcI hx hown (mvT hZ (own_w hw 67 rfl)) rfl (hb hby du0_16)) ?_
    show Go p e below s _ _ _ (s₁.setTop (mkF m 18 #[.val (.ref a), .val (.int 2), .val (.int sc), .unset] [(.int 65536), (.int sc)]))
    refine Go.s (XS.isub X0.here hx rfl (hb hby du0_18) rfl) ?_
    refine Go.s (XS.istoreN X0.here hx rfl (hb hby du0_19) rfl (l' := #[.val (.ref a), .val (.int 2), .val (.int sc), .val (.int (sc - (65536 : Int32)))]) rfl) ?_
    refine Go.s (XS.aloadN X0.here hx rfl (hb hby du0_20) rfl rfl) ?_
    refine Go.s (XS.iloadN X0.here hx rfl (hb hby du0_21) rfl) ?_
    refine Go.s (X0.ldcI hx hown (mvT hZ (own_w hw 6 rfl)) rfl (hb hby du0_22)) ?_
    show Go p e below s _ _ _ (s₁.setTop (mkF m 24 #[.val (.ref a), .val (.int 2), .val (.int sc), .val (.int (sc - (65536 : Int32)))] [(.int 55296), (.int 2), (.ref a)]))
    refine Go.s (XS.iloadN X0.here hx rfl (hb hby du0_24) rfl) ?_
    refine Go.s (XS.bipush X0.here hx rfl (hb hby du0_25)) ?_
    refine Go.s (XT.iushr X0.here hx rfl (hb hby du0_27) rfl) ?_
    show Go p e below s _ _ _ (s₁.setTop (mkF m 28 #[.val (.ref a), .val (.int 2), .val (.int sc), .val (.int (sc - (65536 : Int32)))] [(.int (XT.ushr (sc - (65536 : Int32)) (10 : Int32))), (.int 55296), (.int 2), (.ref a)]))
    refine Go.s (XS.iadd X0.here hx rfl (hb hby du0_28) rfl) ?_
    refine Go.s (XT.i2c X0.here hx rfl (hb hby du0_29) rfl) ?_
    show Go p e below s _ _ _ (s₁.setTop (mkF m 30 #[.val (.ref a), .val (.int 2), .val (.int sc), .val (.int (sc - (65536 : Int32)))] [(.int (((55296 : Int32) + (XT.ushr (sc - (65536 : Int32)) (10 : Int32))).toUInt32.toUInt16.toUInt32.toInt32)), (.int 2), (.ref a)]))
    obtain ⟨T3, h3, X3, e3, W3, V3, st3⟩ := own_stC X0 hx hZ e0 V_a (j := (2 : Int32)) (by decide) (by decide) 2 rfl (Nat.le_of_ble_eq_true rfl) (g := (mkF m 30 #[.val (.ref a), .val (.int 2), .val (.int sc), .val (.int (sc - (65536 : Int32)))] [(.int (((55296 : Int32) + (XT.ushr (sc - (65536 : Int32)) (10 : Int32))).toUInt32.toUInt16.toUInt32.toInt32)), (.int 2), (.ref a)])) rfl rfl (hb hby du0_30)
    obtain ⟨lc3, X3, N3⟩ := own_gen X3 (Fr.snoc X3 N0 ga)
    have O3 := O0.wr W3 ga
    have K3 := K0.wr W3 (Or.inl (List.mem_of_getElem? (i := 0) rfl))
    have V_a : Arv Z h3 a ka .char (4 : Int32) [(.int c0), (.int c1), (.int (nar .char (((55296 : Int32) + (XT.ushr (sc - (65536 : Int32)) (10 : Int32))).toUInt32.toUInt16.toUInt32.toInt32))), (.int c3)] (.int 0) := V3
    refine Go.st st3 ?_
    show Go p e below s _ _ _ (T3.setTop (mkF m 31 #[.val (.ref a), .val (.int 2), .val (.int sc), .val (.int (sc - (65536 : Int32)))] []))
    refine Go.s (XS.aloadN X3.here hx rfl (hb hby du0_31) rfl rfl) ?_
    refine Go.s (XS.iloadN X3.here hx rfl (hb hby du0_32) rfl) ?_
    refine Go.s (XS.iconst X3.here hx rfl (hb hby du0_33)) ?_
    refine Go.s (XS.iadd X3.here hx rfl (hb hby du0_34) rfl) ?_
    refine Go.s (X3.ldcI hx hown (mvT hZ (own_w hw 107 rfl)) rfl (hb hby du0_35)) ?_
    show Go p e below s _ _ _ (T3.setTop (mkF m 37 #[.val (.ref a), .val (.int 2), .val (.int sc), .val (.int (sc - (65536 : Int32)))] [(.int 56320), (.int 3), (.ref a)]))
    refine Go.s (XS.iloadN X3.here hx rfl (hb hby du0_37) rfl) ?_
    refine Go.s (XS.sipush X3.here hx rfl (hb hby du0_38)) ?_
    refine Go.s (XS.iand X3.here hx rfl (hb hby du0_41) rfl) ?_
    refine Go.s (XS.iadd X3.here hx rfl (hb hby du0_42) rfl) ?_
    refine Go.s (XT.i2c X3.here hx rfl (hb hby du0_43) rfl) ?_
    show Go p e below s _ _ _ (T3.setTop (mkF m 44 #[.val (.ref a), .val (.int 2), .val (.int sc), .val (.int (sc - (65536 : Int32)))] [(.int (((56320 : Int32) + ((sc - (65536 : Int32)) &&& (1023 : Int32))).toUInt32.toUInt16.toUInt32.toInt32)), (.int 3), (.ref a)]))
    obtain ⟨T4, h4, X4, e4, W4, V4, st4⟩ := own_stC X3 hx hZ e3 V_a (j := (3 : Int32)) (by decide) (by decide) 3 rfl (Nat.le_of_ble_eq_true rfl) (g := (mkF m 44 #[.val (.ref a), .val (.int 2), .val (.int sc), .val (.int (sc - (65536 : Int32)))] [(.int (((56320 : Int32) + ((sc - (65536 : Int32)) &&& (1023 : Int32))).toUInt32.toUInt16.toUInt32.toInt32)), (.int 3), (.ref a)])) rfl rfl (hb hby du0_44)
    obtain ⟨lc4, X4, N4⟩ := own_gen X4 (Fr.snoc X4 N3 ga)
    have O4 := O3.wr W4 ga
    have K4 := K3.wr W4 (Or.inl (List.mem_of_getElem? (i := 0) rfl))
    have V_a : Arv Z h4 a ka .char (4 : Int32) [(.int c0), (.int c1), (.int (nar .char (((55296 : Int32) + (XT.ushr (sc - (65536 : Int32)) (10 : Int32))).toUInt32.toUInt16.toUInt32.toInt32))), (.int (nar .char (((56320 : Int32) + ((sc - (65536 : Int32)) &&& (1023 : Int32))).toUInt32.toUInt16.toUInt32.toInt32)))] (.int 0) := V4
    refine Go.st st4 ?_
    show Go p e below s _ _ _ (T4.setTop (mkF m 45 #[.val (.ref a), .val (.int 2), .val (.int sc), .val (.int (sc - (65536 : Int32)))] []))
    refine Go.s (XS.iloadN X4.here hx rfl (hb hby du0_45) rfl) ?_
    refine Go.s (XS.iconst X4.here hx rfl (hb hby du0_46)) ?_
    refine Go.s (XS.iadd X4.here hx rfl (hb hby du0_47) rfl) ?_
    exact Go.ret X4 hlk (some (.int 4)) (fun h => by rw [Bd.returns] at h; cases h) (by rw [e4]; exact ⟨N4, K4, Or.inr ⟨rfl, c3_1, by rw [show ((55296 : Int32) + (XT.ushr (sc - (65536 : Int32)) (10 : Int32))) = oH sc from rfl, show ((56320 : Int32) + ((sc - (65536 : Int32)) &&& (1023 : Int32))) = oL sc from rfl, own_i2c (oH_16 c3_1 hs1), own_i2c (oL_16 c3_1 hs1)] at V_a; exact V_a⟩⟩) (by decide) (by decide) (fun fs hr => retI X4 hx Bd.returns (hb hby du0_48) hr)
 obtain ⟨s2, o2, st2, r2⟩ := G
 exact ⟨s2, o2, castTop (efu2 m a (2 : Int32) sc) st2, r2⟩
theorem own_3 {k : Int32} (h : ¬ k < 0 ∧ k < 3) : k = 0 ∨ k = 1 ∨ k = 2 := by
  simp only [own_lt, own_eq, Int32.reduceToInt] at h ⊢
  omega
theorem den_0 : decode method_7_code 0 = .ok (.iconst 4, 1) := by decide +kernel
theorem den_1 : decode method_7_code 1 = .ok (.newarray .char, 2) := by decide +kernel
theorem den_3 : decode method_7_code 3 = .ok (.astore_n 3, 1) := by decide +kernel
theorem den_4 : decode method_7_code 4 = .ok (.iconst 0, 1) := by decide +kernel
theorem den_5 : decode method_7_code 5 = .ok (.istore 4, 2) := by decide +kernel
theorem den_7 : decode method_7_code 7 = .ok (.iload_n 2, 1) := by decide +kernel
theorem den_8 : decode method_7_code 8 = .ok (.iconst 1, 1) := by decide +kernel
theorem den_9 : decode method_7_code 9 = .ok (.if_icmp .lt 12, 3) := by decide +kernel
theorem den_12 : decode method_7_code 12 = .ok (.aload_n 3, 1) := by decide +kernel
theorem den_13 : decode method_7_code 13 = .ok (.iload 4, 2) := by decide +kernel
theorem den_15 : decode method_7_code 15 = .ok (.iload_n 0, 1) := by decide +kernel
theorem den_16 : decode method_7_code 16 = .ok (.invokestatic 36, 3) := by decide +kernel
theorem den_19 : decode method_7_code 19 = .ok (.istore 4, 2) := by decide +kernel
theorem den_21 : decode method_7_code 21 = .ok (.iload_n 2, 1) := by decide +kernel
theorem den_22 : decode method_7_code 22 = .ok (.iconst 2, 1) := by decide +kernel
theorem den_23 : decode method_7_code 23 = .ok (.if_icmp .lt 12, 3) := by decide +kernel
theorem den_26 : decode method_7_code 26 = .ok (.aload_n 3, 1) := by decide +kernel
theorem den_27 : decode method_7_code 27 = .ok (.iload 4, 2) := by decide +kernel
theorem den_29 : decode method_7_code 29 = .ok (.iload_n 1, 1) := by decide +kernel
theorem den_30 : decode method_7_code 30 = .ok (.invokestatic 36, 3) := by decide +kernel
theorem den_33 : decode method_7_code 33 = .ok (.istore 4, 2) := by decide +kernel
theorem den_35 : decode method_7_code 35 = .ok (.aload_n 3, 1) := by decide +kernel
theorem den_36 : decode method_7_code 36 = .ok (.iload 4, 2) := by decide +kernel
theorem den_38 : decode method_7_code 38 = .ok (.invokestatic 40, 3) := by decide +kernel
theorem den_41 : decode method_7_code 41 = .ok (.areturn, 1) := by decide +kernel
theorem pden_0 : parseMethodDescriptor "([CI)Ljava/lang/String;" = some ⟨[(.array .char), .int], some (.object "java/lang/String")⟩ := by decide +kernel
theorem pden_1 : parseMethodDescriptor "([CII)I" = some ⟨[(.array .char), .int, .int], some .int⟩ := by decide +kernel
theorem pnen : plainName "com/example/rootward/rootward/model/ShortestPathTreeCompareCodePointsPinLaw" = true := by first | (simp [plainName, overriddenIn]; done) | decide +kernel
theorem efen (m : MethodId) (x0 : Int32) (x1 : Int32) (x2 : Int32) : entryFrame m #[(.int x0), (.int x1), (.int x2)] 5 = mkF m 0 #[.val (.int x0), .val (.int x1), .val (.int x2), .unset, .unset] [] := by first | (simp [entryFrame, mkF, argsToLocals, Value.category, maxLocals]; done) | rfl
def Qen (Z : State) (s0 : Int32) (s1 : Int32) (n : Int32) (zc : Int32) (Ps : List (Array UInt16 × Addr)) (h0 : Heap) (n0 : Nat) (v : Option Value) (vm : Vm) (h : Heap) (L : List Loc) : Prop := ∃ (x t : Addr) (kt : ClassId) (cd N : Int32) (vs : List Value) (P2 : List (Array UInt16 × Addr)), v = some (.ref x) ∧ Fr n0 L ∧ Keep h0 h [] ∧ n0 ≤ x ∧ h0.size ≤ x ∧ Exa Z h x "java/lang/String" ∧ Fld Z h x "java/lang/String" "coder" "B" (.int cd) ∧ Fld Z h x "java/lang/String" "value" "[B" (.ref t) ∧ Arv Z h t kt .byte N vs (.int 0) ∧ StrChars.Road.CodA (oEnc s0 s1 n) cd N vs ∧ (∀ c ∈ (oEnc s0 s1 n), ¬ c < 0 ∧ ¬ (65535 : Int32) < c) ∧ OwnI Z vm P2 ∧ (∀ U : State, Z.Warmed39 U.vm → U.heap = h → OwnI Z U.vm P2 → (∀ q ∈ Ps, SlOf U q.2 q.1) → ConstHeldL U "java/lang/String" 7)
theorem rmen (l : Launch) (Z : State) (a0 : Array Value) (hw : ∀ d ∈ tables_1, d.before a0 Z = true) (ws : List Jvm.Cond) (s0 : Int32) (s1 : Int32) (n : Int32) (zc : Int32) (Ps : List (Array UInt16 × Addr)) (h0 : Heap) (n0 : Nat) (O0 : Old Z n0 h0) (hs00 : ¬ s0 < 0) (hs01 : ¬ (1114111 : Int32) < s0) (hs10 : ¬ s1 < 0) (hs11 : ¬ (1114111 : Int32) < s1) (hn : ¬ n < 0 ∧ n < 3) (SA : Sta Z Z.heap "java/lang/StringUTF16" "$assertionsDisabled" "Z" (.int 1)) (SHI : Sta Z Z.heap "java/lang/StringUTF16" "HI_BYTE_SHIFT" "I" (.int 0)) (SLO : Sta Z Z.heap "java/lang/StringUTF16" "LO_BYTE_SHIFT" "I" (.int 8)) (SC : Sta Z Z.heap "java/lang/String" "COMPACT_STRINGS" "Z" (.int zc)) (hcs : ¬ zc = 0) (hHZ : ConstHeldL Z "java/lang/String" 7) :
  MetFree l mN12 (head1 (Jvm.Cond.code mN12 method_7_code 5 (some (.object "java/lang/String")) :: ws) ({ frames := 7, cells := 5, slots := 24, locals := 101 } : Room)) (fun A_ U_ => A_ = #[(.int s0), (.int s1), (.int n)] ∧ Z.Warmed39 U_.vm ∧ U_.heap = h0 ∧ OwnI Z U_.vm Ps ∧ ∀ c ∈ ([("java/lang/String", 7)] : List (String × Nat)), ConstHeldL U_ c.1 c.2) (fun _ _ _ _ _ => True) (fun _ U o U' => ∃ v L, o = .returned v ∧ Qen Z s0 s1 n zc Ps h0 n0 v U'.vm U'.heap L ∧ ReturnedEndW U o U' L ({ frames := 7, cells := 5, slots := 24, locals := 101 } : Room).cells ({ frames := 7, cells := 5, slots := 24, locals := 101 } : Room).slots) := by
 refine MetFree.of_bodySF (plainFor_of_name pnen) hisR ?_
 intro p e s m args below meth cd s₁ Bd hml0 hP hK
 obtain ⟨rfl, hZ, hh, I0, hHC⟩ := hP
 have hZs := hZ
 have J0 : IB s s.vm [] := IB.start
 have M0 : Fr s.heap.size [] := Fr.nil _
 have hS0 : s.Since s.vm h0.size := State.WarmedH.since (State.WarmedH.refl s) _
 have hk0 : h0.size ≤ h0.size := Nat.le_refl _
 have hx := Bd.exec
 have hby := Bd.bytes
 have hlk : meth.locks = false := BodyLoose.notSynchronized Bd
 have hml : cd.maxLocals = 5 := hml0
 have hown : s.vm.findClass "com/example/rootward/rootward/model/ShortestPathTreeCompareCodePointsPinLaw" = some m.cls := findClass_of_methodNamed Bd.named
 have X0 : Stand p l e ({ frames := 7, cells := 5, slots := 24, locals := 101 } : Room) s m #[(.int s0), (.int s1), (.int n)] below meth cd s₁ [] 0 0 := Stand.of_body Bd
 have e0 : s₁.heap = h0 := by rw [← hh, Bd.state]; rfl
 have N0 := Fr.nil n0
 have K0 : Keep h0 h0 [] := Keep.refl _ _
 have G : GoV p e below s 5 24 (Qen Z s0 s1 n zc Ps h0 n0) (s₁.setTop (mkF m 0 #[.val (.int s0), .val (.int s1), .val (.int n), .unset, .unset] [])) := by
  rcases own_3 hn with rfl | rfl | rfl
  · show GoV p e below s _ _ _ (s₁.setTop (mkF m 0 #[.val (.int s0), .val (.int s1), .val (.int 0), .unset, .unset] []))
    refine GoV.s (XS.iconst X0.here hx rfl (hb hby den_0)) ?_
    obtain ⟨T1, h1, k1, X1, e1, E1, A1, st1⟩ := newP X0 hx hZ (own_w hw 10 rfl) e0 (g := (mkF m 1 #[.val (.int s0), .val (.int s1), .val (.int 0), .unset, .unset] [(.int 4)])) rfl (hb hby den_1) rfl (by decide) (cap := 4) (by decide) (by decide) (by decide) (by decide)
    obtain ⟨b1, g1⟩ : ∃ z, z = h0.size := ⟨_, rfl⟩
    rw [← g1] at A1 st1
    have g_b1 : n0 ≤ b1 := Nat.le_trans (own_old O0) (Nat.le_of_eq g1.symm)
    have sz_b1 : h0.size ≤ b1 := Nat.le_trans K0.1 (Nat.le_of_eq g1.symm)
    have hk1 := Nat.le_trans hk0 E1.1
    have O1 := O0.ext E1
    have K1 := K0.ext E1
    have V_b1 : Arv Z h1 b1 k1 .char (4 : Int32) [(.int 0), (.int 0), (.int 0), (.int 0)] (.int 0) := (Arv.new A1 (by decide)).pad (pad_rep [] (.int 0) 4)
    refine GoV.st st1 ?_
    show GoV p e below s _ _ _ (T1.setTop (mkF m 3 #[.val (.int s0), .val (.int s1), .val (.int 0), .unset, .unset] [(.ref b1)]))
    refine GoV.s (XS.astoreN X1.here hx rfl (hb hby den_3) rfl rfl (l' := #[.val (.int s0), .val (.int s1), .val (.int 0), .val (.ref b1), .unset]) rfl) ?_
    refine GoV.s (XS.iconst X1.here hx rfl (hb hby den_4)) ?_
    refine GoV.s (XS.istore X1.here hx rfl (hb hby den_5) rfl (l' := #[.val (.int s0), .val (.int s1), .val (.int 0), .val (.ref b1), .val (.int 0)]) rfl) ?_
    refine GoV.s (XS.iloadN X1.here hx rfl (hb hby den_7) rfl) ?_
    refine GoV.s (XS.iconst X1.here hx rfl (hb hby den_8)) ?_
    refine GoV.s (XS.icmpYes X1.here hx rfl (pc0 := 9) (pc' := 21) rfl (hb hby den_9) rfl (by decide) (by decide) (by decide)) ?_
    show GoV p e below s _ _ _ (T1.setTop (mkF m 21 #[.val (.int s0), .val (.int s1), .val (.int 0), .val (.ref b1), .val (.int 0)] []))
    refine GoV.s (XS.iloadN X1.here hx rfl (hb hby den_21) rfl) ?_
    refine GoV.s (XS.iconst X1.here hx rfl (hb hby den_22)) ?_
    refine GoV.s (XS.icmpYes X1.here hx rfl (pc0 := 23) (pc' := 35) rfl (hb hby den_23) rfl (by decide) (by decide) (by decide)) ?_
    show GoV p e below s _ _ _ (T1.setTop (mkF m 35 #[.val (.int s0), .val (.int s1), .val (.int 0), .val (.ref b1), .val (.int 0)] []))
    refine GoV.s (XS.aloadN X1.here hx rfl (hb hby den_35) rfl rfl) ?_
    refine GoV.s (XS.iload X1.here hx rfl (hb hby den_36) rfl) ?_
    have hC2 : ∀ U : State, Z.Warmed39 U.vm → s.WarmedH U.vm → U.heap = h1 → ∀ c ∈ ([("java/lang/String", 7)] : List (String × Nat)), ConstHeldL U c.1 c.2 := fun U hU1 hU2 hU3 c hc => by
      rw [List.mem_singleton] at hc
      subst hc
      exact own_held (Z := s) (Ps := []) hU2.wide (mvS (s := s) (vm0 := s.vm) (args := #[]) hZs (own_w hw 27 rfl)) (own_iH OwnI.start hU2) (fun b cl q => by rw [hU3]; exact own_keepE K1 (by rw [← hh]; exact q)) (hHC ("java/lang/String", 7) (by decide)) (fun q hq => by cases hq)
    obtain ⟨_, _, ⟨T3, L3, k3, n3⟩, -, X3, hSn3, gr3, ⟨Lc3, hQ3, l3, y3, z3⟩, st3⟩ := callSS X1 hx (y := mN10) hown (mvT hZ (own_w hw 11 rfl)) (mvT hZ (own_w hw 12 rfl)) (mvT hZ (own_w hw 2 rfl)) (mvT hZ (own_w hw 13 rfl)) (by decide) (own_backHC (W := 0) (rmt l Z a0 hw [] b1 k1 (0 : Int32) zc (0 : Int32) (0 : Int32) (0 : Int32) (0 : Int32) Ps h1 n0 O1 V_b1 (by decide) (by decide) (by decide) (by decide) (by decide) SA SHI SLO SC hcs hHZ) hZ I0 hC2 (own_w hw 13 rfl) (own_w hw 2 rfl) (by decide) (by decide)) (g := (mkF m 38 #[.val (.int s0), .val (.int s1), .val (.int 0), .val (.ref b1), .val (.int 0)] [(.int 0), (.ref b1)])) rfl (by rw [hml]; rfl) (argsL := [(.ref b1), (.int 0)]) (rest := []) (lenOf pden_0 rfl) rfl (by show 2 * 0 + _ ≤ _; exact Nat.le_of_eq rfl) (hb hby den_38) (fun _ _ => ⟨rfl, e1, (by decide : 1 + 4 ≤ _), (by decide : 4 + 20 ≤ _)⟩)
    dsimp only [Pt.U, Pt.locs, Pt.cells, Pt.slots] at X3 l3 y3 z3 st3 hQ3
    subst y3 z3
    dsimp only [Pt.U, Pt.locs, Pt.cells, Pt.slots] at hSn3 gr3
    obtain ⟨X3, hS3, hZ3, hown3⟩ := rebS (vm0 := s.vm) hS0 (by rw [e1]; exact hk1) X3 hSn3 gr3 hZ hown
    have hk3 : T3.heap.size ≤ T3.heap.size := Nat.le_refl _
    obtain ⟨x, t, kt, cd, N, vs, P2, rfl, Nc3, Kc3, gx, szx, NE, NC, NV, NB, hcd, hbd, I3, hX⟩ := hQ3
    have N3 : Fr n0 L3 := by rw [l3]; exact Fr.app N0 Nc3
    have g_x : n0 ≤ x := gx
    have sz_x : h0.size ≤ x := Nat.le_trans K1.1 szx
    have ne_b1_x : b1 ≠ x := Nat.ne_of_lt (Nat.lt_of_lt_of_le V_b1.lt szx)
    have V_b1 := V_b1.keep Kc3 nin0
    have O3 := O1.keep Kc3 all0
    have K3 := K1.trans Kc3 all0
    have E_x : Exa Z T3.heap x "java/lang/String" := NE
    have F_x_coder : Fld Z T3.heap x "java/lang/String" "coder" "B" (.int cd) := NC
    have F_x_value : Fld Z T3.heap x "java/lang/String" "value" "[B" (.ref t) := NV
    have V_t : Arv Z T3.heap t kt .byte N vs (.int 0) := NB
    refine GoV.tr st3 ?_
    show GoV p e below s _ _ _ (T3.setTop (mkF m 41 #[.val (.int s0), .val (.int s1), .val (.int 0), .val (.ref b1), .val (.int 0)] [(.ref x)]))
    have hE : oEnc s0 s1 (0 : Int32) = List.take (0 : Int32).toNatClampNeg [(0 : Int32), (0 : Int32), (0 : Int32), (0 : Int32)] := by unfold oEnc; rw [if_pos (by decide)]; rfl
    exact GoV.ret (vm1 := T3.vm) X3 hlk hS3 (by exact hk3) (some (.ref x)) (fun h => by rw [Bd.returns] at h; cases h) (by exact ⟨x, t, kt, cd, N, vs, P2, rfl, N3, K3, g_x, sz_x, E_x, F_x_coder, F_x_value, V_t, (by rw [hE]; exact hcd), (by rw [hE]; exact hbd), own_iH (s := s.setVm T3.vm) I3 X3.warmed, hX⟩) (by decide) (by decide) (fun fs hr => retOut X3 hx Bd.returns rfl (Or.inr (Or.inr (Or.inr (Or.inr ⟨rfl, rfl, rfl⟩)))) (hb hby den_41) hr)
  · show GoV p e below s _ _ _ (s₁.setTop (mkF m 0 #[.val (.int s0), .val (.int s1), .val (.int 1), .unset, .unset] []))
    refine GoV.s (XS.iconst X0.here hx rfl (hb hby den_0)) ?_
    obtain ⟨T4, h4, k4, X4, e4, E4, A4, st4⟩ := newP X0 hx hZ (own_w hw 10 rfl) e0 (g := (mkF m 1 #[.val (.int s0), .val (.int s1), .val (.int 1), .unset, .unset] [(.int 4)])) rfl (hb hby den_1) rfl (by decide) (cap := 4) (by decide) (by decide) (by decide) (by decide)
    obtain ⟨b4, g4⟩ : ∃ z, z = h0.size := ⟨_, rfl⟩
    rw [← g4] at A4 st4
    have g_b4 : n0 ≤ b4 := Nat.le_trans (own_old O0) (Nat.le_of_eq g4.symm)
    have sz_b4 : h0.size ≤ b4 := Nat.le_trans K0.1 (Nat.le_of_eq g4.symm)
    have hk4 := Nat.le_trans hk0 E4.1
    have O4 := O0.ext E4
    have K4 := K0.ext E4
    have V_b4 : Arv Z h4 b4 k4 .char (4 : Int32) [(.int 0), (.int 0), (.int 0), (.int 0)] (.int 0) := (Arv.new A4 (by decide)).pad (pad_rep [] (.int 0) 4)
    refine GoV.st st4 ?_
    show GoV p e below s _ _ _ (T4.setTop (mkF m 3 #[.val (.int s0), .val (.int s1), .val (.int 1), .unset, .unset] [(.ref b4)]))
    refine GoV.s (XS.astoreN X4.here hx rfl (hb hby den_3) rfl rfl (l' := #[.val (.int s0), .val (.int s1), .val (.int 1), .val (.ref b4), .unset]) rfl) ?_
    refine GoV.s (XS.iconst X4.here hx rfl (hb hby den_4)) ?_
    refine GoV.s (XS.istore X4.here hx rfl (hb hby den_5) rfl (l' := #[.val (.int s0), .val (.int s1), .val (.int 1), .val (.ref b4), .val (.int 0)]) rfl) ?_
    refine GoV.s (XS.iloadN X4.here hx rfl (hb hby den_7) rfl) ?_
    refine GoV.s (XS.iconst X4.here hx rfl (hb hby den_8)) ?_
    refine GoV.s (XS.icmpNo X4.here hx rfl (hb hby den_9) rfl (by decide)) ?_
    show GoV p e below s _ _ _ (T4.setTop (mkF m 12 #[.val (.int s0), .val (.int s1), .val (.int 1), .val (.ref b4), .val (.int 0)] []))
    refine GoV.s (XS.aloadN X4.here hx rfl (hb hby den_12) rfl rfl) ?_
    refine GoV.s (XS.iload X4.here hx rfl (hb hby den_13) rfl) ?_
    refine GoV.s (XS.iloadN X4.here hx rfl (hb hby den_15) rfl) ?_
    obtain ⟨v5, _, ⟨T5, L5, k5, n5⟩, -, X5, ⟨Lc5, hQ5, l5, y5, z5⟩, st5⟩ := Jvm.LawKit.callS X4 hx (y := mN11) hown (mvT hZ (own_w hw 64 rfl)) (mvT hZ (own_w hw 65 rfl)) (mvT hZ (own_w hw 2 rfl)) (mvT hZ (own_w hw 66 rfl)) (by decide) (backOf (W := 0) (rmu0 l Z a0 hw [] b4 k4 s0 (0 : Int32) (0 : Int32) (0 : Int32) (0 : Int32) h4 n0 O4 V_b4 g_b4 hs00 hs01) hZ (own_w hw 66 rfl) (own_w hw 2 rfl) (by decide) (by decide)) (g := (mkF m 16 #[.val (.int s0), .val (.int s1), .val (.int 1), .val (.ref b4), .val (.int 0)] [(.int s0), (.int 0), (.ref b4)])) rfl (by rw [hml]; rfl) (argsL := [(.ref b4), (.int 0), (.int s0)]) (rest := []) (lenOf pden_1 rfl) rfl (by show 2 * 0 + _ ≤ _; exact Nat.le_of_eq rfl) (hb hby den_16) (fun _ _ => ⟨rfl, e4, (by decide : 1 + 0 ≤ _), (by decide : 4 + 0 ≤ _)⟩)
    dsimp only [Pt.U, Pt.locs, Pt.cells, Pt.slots] at X5 l5 y5 z5 st5 hQ5
    subst y5 z5
    obtain ⟨Nc5, Kc5, hd5⟩ := hQ5
    have N5 : Fr n0 L5 := by rw [l5]; exact Fr.app N0 Nc5
    have hk5 := Nat.le_trans hk4 Kc5.1
    have O5 := O4.keep Kc5 (allS g_b4 all0)
    have K5 := K4.trans Kc5 (allS (Or.inr sz_b4) all0)
    obtain ⟨r5, rfl, hr5⟩ : ∃ r : Int32, v5 = some (.int r) ∧ ((r = (1 : Int32) ∧ s0 < (65536 : Int32) ∧ Arv Z T5.heap b4 k4 .char (4 : Int32) [(.int s0), (.int 0), (.int 0), (.int 0)] (.int 0)) ∨ (r = (2 : Int32) ∧ ¬ s0 < (65536 : Int32) ∧ Arv Z T5.heap b4 k4 .char (4 : Int32) [(.int (oH s0)), (.int (oL s0)), (.int 0), (.int 0)] (.int 0))) := by
      rcases hd5 with ⟨h_, q_⟩ | ⟨h_, q_⟩
      · exact ⟨_, h_, Or.inl ⟨rfl, q_⟩⟩
      · exact ⟨_, h_, Or.inr ⟨rfl, q_⟩⟩
    refine GoV.st st5 ?_
    show GoV p e below s _ _ _ (T5.setTop (mkF m 19 #[.val (.int s0), .val (.int s1), .val (.int 1), .val (.ref b4), .val (.int 0)] [(.int r5)]))
    rcases hr5 with ⟨rfl, hAs0, NV5⟩ | ⟨rfl, hAs0, NV5⟩
    · have V_b4 : Arv Z T5.heap b4 k4 .char (4 : Int32) [(.int s0), (.int 0), (.int 0), (.int 0)] (.int 0) := NV5
      show GoV p e below s _ _ _ (T5.setTop (mkF m 19 #[.val (.int s0), .val (.int s1), .val (.int 1), .val (.ref b4), .val (.int 0)] [(.int 1)]))
      refine GoV.s (XS.istore X5.here hx rfl (hb hby den_19) rfl (l' := #[.val (.int s0), .val (.int s1), .val (.int 1), .val (.ref b4), .val (.int 1)]) rfl) ?_
      refine GoV.s (XS.iloadN X5.here hx rfl (hb hby den_21) rfl) ?_
      refine GoV.s (XS.iconst X5.here hx rfl (hb hby den_22)) ?_
      refine GoV.s (XS.icmpYes X5.here hx rfl (pc0 := 23) (pc' := 35) rfl (hb hby den_23) rfl (by decide) (by decide) (by decide)) ?_
      show GoV p e below s _ _ _ (T5.setTop (mkF m 35 #[.val (.int s0), .val (.int s1), .val (.int 1), .val (.ref b4), .val (.int 1)] []))
      refine GoV.s (XS.aloadN X5.here hx rfl (hb hby den_35) rfl rfl) ?_
      refine GoV.s (XS.iload X5.here hx rfl (hb hby den_36) rfl) ?_
      have hC6 : ∀ U : State, Z.Warmed39 U.vm → s.WarmedH U.vm → U.heap = T5.heap → ∀ c ∈ ([("java/lang/String", 7)] : List (String × Nat)), ConstHeldL U c.1 c.2 := fun U hU1 hU2 hU3 c hc => by
        rw [List.mem_singleton] at hc
        subst hc
        exact own_held (Z := s) (Ps := []) hU2.wide (mvS (s := s) (vm0 := s.vm) (args := #[]) hZs (own_w hw 27 rfl)) (own_iH OwnI.start hU2) (fun b cl q => by rw [hU3]; exact own_keepE K5 (by rw [← hh]; exact q)) (hHC ("java/lang/String", 7) (by decide)) (fun q hq => by cases hq)
      obtain ⟨_, _, ⟨T7, L7, k7, n7⟩, -, X7, hSn7, gr7, ⟨Lc7, hQ7, l7, y7, z7⟩, st7⟩ := callSS X5 hx (y := mN10) hown (mvT hZ (own_w hw 11 rfl)) (mvT hZ (own_w hw 12 rfl)) (mvT hZ (own_w hw 2 rfl)) (mvT hZ (own_w hw 13 rfl)) (by decide) (own_backHC (W := 0) (rmt l Z a0 hw [] b4 k4 (1 : Int32) zc s0 (0 : Int32) (0 : Int32) (0 : Int32) Ps T5.heap n0 O5 V_b4 (by decide) (oS_16 hAs0 hs00) (by decide) (by decide) (by decide) SA SHI SLO SC hcs hHZ) hZ I0 hC6 (own_w hw 13 rfl) (own_w hw 2 rfl) (by decide) (by decide)) (g := (mkF m 38 #[.val (.int s0), .val (.int s1), .val (.int 1), .val (.ref b4), .val (.int 1)] [(.int 1), (.ref b4)])) rfl (by rw [hml]; rfl) (argsL := [(.ref b4), (.int 1)]) (rest := []) (lenOf pden_0 rfl) rfl (by show 2 * 0 + _ ≤ _; exact Nat.le_of_eq rfl) (hb hby den_38) (fun _ _ => ⟨rfl, rfl, (by decide : 1 + 4 ≤ _), (by decide : 4 + 20 ≤ _)⟩)
      dsimp only [Pt.U, Pt.locs, Pt.cells, Pt.slots] at X7 l7 y7 z7 st7 hQ7
      subst y7 z7
      dsimp only [Pt.U, Pt.locs, Pt.cells, Pt.slots] at hSn7 gr7
      obtain ⟨X7, hS7, hZ7, hown7⟩ := rebS (vm0 := s.vm) hS0 hk5 X7 hSn7 gr7 hZ hown
      have hk7 : T7.heap.size ≤ T7.heap.size := Nat.le_refl _
      obtain ⟨x, t, kt, cd, N, vs, P2, rfl, Nc7, Kc7, gx, szx, NE, NC, NV, NB, hcd, hbd, I7, hX⟩ := hQ7
      have N7 : Fr n0 L7 := by rw [l7]; exact Fr.app N5 Nc7
      have g_x : n0 ≤ x := gx
      have sz_x : h0.size ≤ x := Nat.le_trans K5.1 szx
      have ne_b4_x : b4 ≠ x := Nat.ne_of_lt (Nat.lt_of_lt_of_le V_b4.lt szx)
      have V_b4 := V_b4.keep Kc7 nin0
      have O7 := O5.keep Kc7 all0
      have K7 := K5.trans Kc7 all0
      have E_x : Exa Z T7.heap x "java/lang/String" := NE
      have F_x_coder : Fld Z T7.heap x "java/lang/String" "coder" "B" (.int cd) := NC
      have F_x_value : Fld Z T7.heap x "java/lang/String" "value" "[B" (.ref t) := NV
      have V_t : Arv Z T7.heap t kt .byte N vs (.int 0) := NB
      refine GoV.tr st7 ?_
      show GoV p e below s _ _ _ (T7.setTop (mkF m 41 #[.val (.int s0), .val (.int s1), .val (.int 1), .val (.ref b4), .val (.int 1)] [(.ref x)]))
      have hE : oEnc s0 s1 (1 : Int32) = List.take (1 : Int32).toNatClampNeg [s0, (0 : Int32), (0 : Int32), (0 : Int32)] := by unfold oEnc oPut; rw [if_neg (by decide), if_pos (by decide), if_pos hAs0]; rfl
      exact GoV.ret (vm1 := T7.vm) X7 hlk hS7 (by exact hk7) (some (.ref x)) (fun h => by rw [Bd.returns] at h; cases h) (by exact ⟨x, t, kt, cd, N, vs, P2, rfl, N7, K7, g_x, sz_x, E_x, F_x_coder, F_x_value, V_t, (by rw [hE]; exact hcd), (by rw [hE]; exact hbd), own_iH (s := s.setVm T7.vm) I7 X7.warmed, hX⟩) (by decide) (by decide) (fun fs hr => retOut X7 hx Bd.returns rfl (Or.inr (Or.inr (Or.inr (Or.inr ⟨rfl, rfl, rfl⟩)))) (hb hby den_41) hr)
    · have V_b4 : Arv Z T5.heap b4 k4 .char (4 : Int32) [(.int (oH s0)), (.int (oL s0)), (.int 0), (.int 0)] (.int 0) := NV5
      show GoV p e below s _ _ _ (T5.setTop (mkF m 19 #[.val (.int s0), .val (.int s1), .val (.int 1), .val (.ref b4), .val (.int 0)] [(.int 2)]))
      refine GoV.s (XS.istore X5.here hx rfl (hb hby den_19) rfl (l' := #[.val (.int s0), .val (.int s1), .val (.int 1), .val (.ref b4), .val (.int 2)]) rfl) ?_
      refine GoV.s (XS.iloadN X5.here hx rfl (hb hby den_21) rfl) ?_
      refine GoV.s (XS.iconst X5.here hx rfl (hb hby den_22)) ?_
      refine GoV.s (XS.icmpYes X5.here hx rfl (pc0 := 23) (pc' := 35) rfl (hb hby den_23) rfl (by decide) (by decide) (by decide)) ?_
      show GoV p e below s _ _ _ (T5.setTop (mkF m 35 #[.val (.int s0), .val (.int s1), .val (.int 1), .val (.ref b4), .val (.int 2)] []))
      refine GoV.s (XS.aloadN X5.here hx rfl (hb hby den_35) rfl rfl) ?_
      refine GoV.s (XS.iload X5.here hx rfl (hb hby den_36) rfl) ?_
      have hC8 : ∀ U : State, Z.Warmed39 U.vm → s.WarmedH U.vm → U.heap = T5.heap → ∀ c ∈ ([("java/lang/String", 7)] : List (String × Nat)), ConstHeldL U c.1 c.2 := fun U hU1 hU2 hU3 c hc => by
        rw [List.mem_singleton] at hc
        subst hc
        exact own_held (Z := s) (Ps := []) hU2.wide (mvS (s := s) (vm0 := s.vm) (args := #[]) hZs (own_w hw 27 rfl)) (own_iH OwnI.start hU2) (fun b cl q => by rw [hU3]; exact own_keepE K5 (by rw [← hh]; exact q)) (hHC ("java/lang/String", 7) (by decide)) (fun q hq => by cases hq)
      obtain ⟨_, _, ⟨T9, L9, k9, n9⟩, -, X9, hSn9, gr9, ⟨Lc9, hQ9, l9, y9, z9⟩, st9⟩ := callSS X5 hx (y := mN10) hown (mvT hZ (own_w hw 11 rfl)) (mvT hZ (own_w hw 12 rfl)) (mvT hZ (own_w hw 2 rfl)) (mvT hZ (own_w hw 13 rfl)) (by decide) (own_backHC (W := 0) (rmt l Z a0 hw [] b4 k4 (2 : Int32) zc (oH s0) (oL s0) (0 : Int32) (0 : Int32) Ps T5.heap n0 O5 V_b4 (by decide) (oH_16 hAs0 hs01) (oL_16 hAs0 hs01) (by decide) (by decide) SA SHI SLO SC hcs hHZ) hZ I0 hC8 (own_w hw 13 rfl) (own_w hw 2 rfl) (by decide) (by decide)) (g := (mkF m 38 #[.val (.int s0), .val (.int s1), .val (.int 1), .val (.ref b4), .val (.int 2)] [(.int 2), (.ref b4)])) rfl (by rw [hml]; rfl) (argsL := [(.ref b4), (.int 2)]) (rest := []) (lenOf pden_0 rfl) rfl (by show 2 * 0 + _ ≤ _; exact Nat.le_of_eq rfl) (hb hby den_38) (fun _ _ => ⟨rfl, rfl, (by decide : 1 + 4 ≤ _), (by decide : 4 + 20 ≤ _)⟩)
      dsimp only [Pt.U, Pt.locs, Pt.cells, Pt.slots] at X9 l9 y9 z9 st9 hQ9
      subst y9 z9
      dsimp only [Pt.U, Pt.locs, Pt.cells, Pt.slots] at hSn9 gr9
      obtain ⟨X9, hS9, hZ9, hown9⟩ := rebS (vm0 := s.vm) hS0 hk5 X9 hSn9 gr9 hZ hown
      have hk9 : T9.heap.size ≤ T9.heap.size := Nat.le_refl _
      obtain ⟨x, t, kt, cd, N, vs, P2, rfl, Nc9, Kc9, gx, szx, NE, NC, NV, NB, hcd, hbd, I9, hX⟩ := hQ9
      have N9 : Fr n0 L9 := by rw [l9]; exact Fr.app N5 Nc9
      have g_x : n0 ≤ x := gx
      have sz_x : h0.size ≤ x := Nat.le_trans K5.1 szx
      have ne_b4_x : b4 ≠ x := Nat.ne_of_lt (Nat.lt_of_lt_of_le V_b4.lt szx)
      have V_b4 := V_b4.keep Kc9 nin0
      have O9 := O5.keep Kc9 all0
      have K9 := K5.trans Kc9 all0
      have E_x : Exa Z T9.heap x "java/lang/String" := NE
      have F_x_coder : Fld Z T9.heap x "java/lang/String" "coder" "B" (.int cd) := NC
      have F_x_value : Fld Z T9.heap x "java/lang/String" "value" "[B" (.ref t) := NV
      have V_t : Arv Z T9.heap t kt .byte N vs (.int 0) := NB
      refine GoV.tr st9 ?_
      show GoV p e below s _ _ _ (T9.setTop (mkF m 41 #[.val (.int s0), .val (.int s1), .val (.int 1), .val (.ref b4), .val (.int 2)] [(.ref x)]))
      have hE : oEnc s0 s1 (1 : Int32) = List.take (2 : Int32).toNatClampNeg [(oH s0), (oL s0), (0 : Int32), (0 : Int32)] := by unfold oEnc oPut; rw [if_neg (by decide), if_pos (by decide), if_neg hAs0]; rfl
      exact GoV.ret (vm1 := T9.vm) X9 hlk hS9 (by exact hk9) (some (.ref x)) (fun h => by rw [Bd.returns] at h; cases h) (by exact ⟨x, t, kt, cd, N, vs, P2, rfl, N9, K9, g_x, sz_x, E_x, F_x_coder, F_x_value, V_t, (by rw [hE]; exact hcd), (by rw [hE]; exact hbd), own_iH (s := s.setVm T9.vm) I9 X9.warmed, hX⟩) (by decide) (by decide) (fun fs hr => retOut X9 hx Bd.returns rfl (Or.inr (Or.inr (Or.inr (Or.inr ⟨rfl, rfl, rfl⟩)))) (hb hby den_41) hr)
  · show GoV p e below s _ _ _ (s₁.setTop (mkF m 0 #[.val (.int s0), .val (.int s1), .val (.int 2), .unset, .unset] []))
    refine GoV.s (XS.iconst X0.here hx rfl (hb hby den_0)) ?_
    obtain ⟨T10, h10, k10, X10, e10, E10, A10, st10⟩ := newP X0 hx hZ (own_w hw 10 rfl) e0 (g := (mkF m 1 #[.val (.int s0), .val (.int s1), .val (.int 2), .unset, .unset] [(.int 4)])) rfl (hb hby den_1) rfl (by decide) (cap := 4) (by decide) (by decide) (by decide) (by decide)
    obtain ⟨b10, g10⟩ : ∃ z, z = h0.size := ⟨_, rfl⟩
    rw [← g10] at A10 st10
    have g_b10 : n0 ≤ b10 := Nat.le_trans (own_old O0) (Nat.le_of_eq g10.symm)
    have sz_b10 : h0.size ≤ b10 := Nat.le_trans K0.1 (Nat.le_of_eq g10.symm)
    have hk10 := Nat.le_trans hk0 E10.1
    have O10 := O0.ext E10
    have K10 := K0.ext E10
    have V_b10 : Arv Z h10 b10 k10 .char (4 : Int32) [(.int 0), (.int 0), (.int 0), (.int 0)] (.int 0) := (Arv.new A10 (by decide)).pad (pad_rep [] (.int 0) 4)
    refine GoV.st st10 ?_
    show GoV p e below s _ _ _ (T10.setTop (mkF m 3 #[.val (.int s0), .val (.int s1), .val (.int 2), .unset, .unset] [(.ref b10)]))
    refine GoV.s (XS.astoreN X10.here hx rfl (hb hby den_3) rfl rfl (l' := #[.val (.int s0), .val (.int s1), .val (.int 2), .val (.ref b10), .unset]) rfl) ?_
    refine GoV.s (XS.iconst X10.here hx rfl (hb hby den_4)) ?_
    refine GoV.s (XS.istore X10.here hx rfl (hb hby den_5) rfl (l' := #[.val (.int s0), .val (.int s1), .val (.int 2), .val (.ref b10), .val (.int 0)]) rfl) ?_
    refine GoV.s (XS.iloadN X10.here hx rfl (hb hby den_7) rfl) ?_
    refine GoV.s (XS.iconst X10.here hx rfl (hb hby den_8)) ?_
    refine GoV.s (XS.icmpNo X10.here hx rfl (hb hby den_9) rfl (by decide)) ?_
    show GoV p e below s _ _ _ (T10.setTop (mkF m 12 #[.val (.int s0), .val (.int s1), .val (.int 2), .val (.ref b10), .val (.int 0)] []))
    refine GoV.s (XS.aloadN X10.here hx rfl (hb hby den_12) rfl rfl) ?_
    refine GoV.s (XS.iload X10.here hx rfl (hb hby den_13) rfl) ?_
    refine GoV.s (XS.iloadN X10.here hx rfl (hb hby den_15) rfl) ?_
    obtain ⟨v11, _, ⟨T11, L11, k11, n11⟩, -, X11, ⟨Lc11, hQ11, l11, y11, z11⟩, st11⟩ := Jvm.LawKit.callS X10 hx (y := mN11) hown (mvT hZ (own_w hw 64 rfl)) (mvT hZ (own_w hw 65 rfl)) (mvT hZ (own_w hw 2 rfl)) (mvT hZ (own_w hw 66 rfl)) (by decide) (backOf (W := 0) (rmu0 l Z a0 hw [] b10 k10 s0 (0 : Int32) (0 : Int32) (0 : Int32) (0 : Int32) h10 n0 O10 V_b10 g_b10 hs00 hs01) hZ (own_w hw 66 rfl) (own_w hw 2 rfl) (by decide) (by decide)) (g := (mkF m 16 #[.val (.int s0), .val (.int s1), .val (.int 2), .val (.ref b10), .val (.int 0)] [(.int s0), (.int 0), (.ref b10)])) rfl (by rw [hml]; rfl) (argsL := [(.ref b10), (.int 0), (.int s0)]) (rest := []) (lenOf pden_1 rfl) rfl (by show 2 * 0 + _ ≤ _; exact Nat.le_of_eq rfl) (hb hby den_16) (fun _ _ => ⟨rfl, e10, (by decide : 1 + 0 ≤ _), (by decide : 4 + 0 ≤ _)⟩)
    dsimp only [Pt.U, Pt.locs, Pt.cells, Pt.slots] at X11 l11 y11 z11 st11 hQ11
    subst y11 z11
    obtain ⟨Nc11, Kc11, hd11⟩ := hQ11
    have N11 : Fr n0 L11 := by rw [l11]; exact Fr.app N0 Nc11
    have hk11 := Nat.le_trans hk10 Kc11.1
    have O11 := O10.keep Kc11 (allS g_b10 all0)
    have K11 := K10.trans Kc11 (allS (Or.inr sz_b10) all0)
    obtain ⟨r11, rfl, hr11⟩ : ∃ r : Int32, v11 = some (.int r) ∧ ((r = (1 : Int32) ∧ s0 < (65536 : Int32) ∧ Arv Z T11.heap b10 k10 .char (4 : Int32) [(.int s0), (.int 0), (.int 0), (.int 0)] (.int 0)) ∨ (r = (2 : Int32) ∧ ¬ s0 < (65536 : Int32) ∧ Arv Z T11.heap b10 k10 .char (4 : Int32) [(.int (oH s0)), (.int (oL s0)), (.int 0), (.int 0)] (.int 0))) := by
      rcases hd11 with ⟨h_, q_⟩ | ⟨h_, q_⟩
      · exact ⟨_, h_, Or.inl ⟨rfl, q_⟩⟩
      · exact ⟨_, h_, Or.inr ⟨rfl, q_⟩⟩
    refine GoV.st st11 ?_
    show GoV p e below s _ _ _ (T11.setTop (mkF m 19 #[.val (.int s0), .val (.int s1), .val (.int 2), .val (.ref b10), .val (.int 0)] [(.int r11)]))
    rcases hr11 with ⟨rfl, hAs0, NV11⟩ | ⟨rfl, hAs0, NV11⟩
    · have V_b10 : Arv Z T11.heap b10 k10 .char (4 : Int32) [(.int s0), (.int 0), (.int 0), (.int 0)] (.int 0) := NV11
      show GoV p e below s _ _ _ (T11.setTop (mkF m 19 #[.val (.int s0), .val (.int s1), .val (.int 2), .val (.ref b10), .val (.int 0)] [(.int 1)]))
      refine GoV.s (XS.istore X11.here hx rfl (hb hby den_19) rfl (l' := #[.val (.int s0), .val (.int s1), .val (.int 2), .val (.ref b10), .val (.int 1)]) rfl) ?_
      refine GoV.s (XS.iloadN X11.here hx rfl (hb hby den_21) rfl) ?_
      refine GoV.s (XS.iconst X11.here hx rfl (hb hby den_22)) ?_
      refine GoV.s (XS.icmpNo X11.here hx rfl (hb hby den_23) rfl (by decide)) ?_
      show GoV p e below s _ _ _ (T11.setTop (mkF m 26 #[.val (.int s0), .val (.int s1), .val (.int 2), .val (.ref b10), .val (.int 1)] []))
      refine GoV.s (XS.aloadN X11.here hx rfl (hb hby den_26) rfl rfl) ?_
      refine GoV.s (XS.iload X11.here hx rfl (hb hby den_27) rfl) ?_
      refine GoV.s (XS.iloadN X11.here hx rfl (hb hby den_29) rfl) ?_
      obtain ⟨v12, _, ⟨T12, L12, k12, n12⟩, -, X12, ⟨Lc12, hQ12, l12, y12, z12⟩, st12⟩ := Jvm.LawKit.callS X11 hx (y := mN11) hown (mvT hZ (own_w hw 64 rfl)) (mvT hZ (own_w hw 65 rfl)) (mvT hZ (own_w hw 2 rfl)) (mvT hZ (own_w hw 66 rfl)) (by decide) (backOf (W := 0) (rmu1 l Z a0 hw [] b10 k10 s1 s0 (0 : Int32) (0 : Int32) (0 : Int32) T11.heap n0 O11 V_b10 g_b10 hs10 hs11) hZ (own_w hw 66 rfl) (own_w hw 2 rfl) (by decide) (by decide)) (g := (mkF m 30 #[.val (.int s0), .val (.int s1), .val (.int 2), .val (.ref b10), .val (.int 1)] [(.int s1), (.int 1), (.ref b10)])) rfl (by rw [hml]; rfl) (argsL := [(.ref b10), (.int 1), (.int s1)]) (rest := []) (lenOf pden_1 rfl) rfl (by show 2 * 0 + _ ≤ _; exact Nat.le_of_eq rfl) (hb hby den_30) (fun _ _ => ⟨rfl, rfl, (by decide : 1 + 0 ≤ _), (by decide : 4 + 0 ≤ _)⟩)
      dsimp only [Pt.U, Pt.locs, Pt.cells, Pt.slots] at X12 l12 y12 z12 st12 hQ12
      subst y12 z12
      obtain ⟨Nc12, Kc12, hd12⟩ := hQ12
      have N12 : Fr n0 L12 := by rw [l12]; exact Fr.app N11 Nc12
      have hk12 := Nat.le_trans hk11 Kc12.1
      have O12 := O11.keep Kc12 (allS g_b10 all0)
      have K12 := K11.trans Kc12 (allS (Or.inr sz_b10) all0)
      obtain ⟨r12, rfl, hr12⟩ : ∃ r : Int32, v12 = some (.int r) ∧ ((r = (2 : Int32) ∧ s1 < (65536 : Int32) ∧ Arv Z T12.heap b10 k10 .char (4 : Int32) [(.int s0), (.int s1), (.int 0), (.int 0)] (.int 0)) ∨ (r = (3 : Int32) ∧ ¬ s1 < (65536 : Int32) ∧ Arv Z T12.heap b10 k10 .char (4 : Int32) [(.int s0), (.int (oH s1)), (.int (oL s1)), (.int 0)] (.int 0))) := by
        rcases hd12 with ⟨h_, q_⟩ | ⟨h_, q_⟩
        · exact ⟨_, h_, Or.inl ⟨rfl, q_⟩⟩
        · exact ⟨_, h_, Or.inr ⟨rfl, q_⟩⟩
      refine GoV.st st12 ?_
      show GoV p e below s _ _ _ (T12.setTop (mkF m 33 #[.val (.int s0), .val (.int s1), .val (.int 2), .val (.ref b10), .val (.int 1)] [(.int r12)]))
      rcases hr12 with ⟨rfl, hAs1, NV12⟩ | ⟨rfl, hAs1, NV12⟩
      · have V_b10 : Arv Z T12.heap b10 k10 .char (4 : Int32) [(.int s0), (.int s1), (.int 0), (.int 0)] (.int 0) := NV12
        show GoV p e below s _ _ _ (T12.setTop (mkF m 33 #[.val (.int s0), .val (.int s1), .val (.int 2), .val (.ref b10), .val (.int 1)] [(.int 2)]))
        refine GoV.s (XS.istore X12.here hx rfl (hb hby den_33) rfl (l' := #[.val (.int s0), .val (.int s1), .val (.int 2), .val (.ref b10), .val (.int 2)]) rfl) ?_
        refine GoV.s (XS.aloadN X12.here hx rfl (hb hby den_35) rfl rfl) ?_
        refine GoV.s (XS.iload X12.here hx rfl (hb hby den_36) rfl) ?_
        have hC13 : ∀ U : State, Z.Warmed39 U.vm → s.WarmedH U.vm → U.heap = T12.heap → ∀ c ∈ ([("java/lang/String", 7)] : List (String × Nat)), ConstHeldL U c.1 c.2 := fun U hU1 hU2 hU3 c hc => by
          rw [List.mem_singleton] at hc
          subst hc
          exact own_held (Z := s) (Ps := []) hU2.wide (mvS (s := s) (vm0 := s.vm) (args := #[]) hZs (own_w hw 27 rfl)) (own_iH OwnI.start hU2) (fun b cl q => by rw [hU3]; exact own_keepE K12 (by rw [← hh]; exact q)) (hHC ("java/lang/String", 7) (by decide)) (fun q hq => by cases hq)
        obtain ⟨_, _, ⟨T14, L14, k14, n14⟩, -, X14, hSn14, gr14, ⟨Lc14, hQ14, l14, y14, z14⟩, st14⟩ := callSS X12 hx (y := mN10) hown (mvT hZ (own_w hw 11 rfl)) (mvT hZ (own_w hw 12 rfl)) (mvT hZ (own_w hw 2 rfl)) (mvT hZ (own_w hw 13 rfl)) (by decide) (own_backHC (W := 0) (rmt l Z a0 hw [] b10 k10 (2 : Int32) zc s0 s1 (0 : Int32) (0 : Int32) Ps T12.heap n0 O12 V_b10 (by decide) (oS_16 hAs0 hs00) (oS_16 hAs1 hs10) (by decide) (by decide) SA SHI SLO SC hcs hHZ) hZ I0 hC13 (own_w hw 13 rfl) (own_w hw 2 rfl) (by decide) (by decide)) (g := (mkF m 38 #[.val (.int s0), .val (.int s1), .val (.int 2), .val (.ref b10), .val (.int 2)] [(.int 2), (.ref b10)])) rfl (by rw [hml]; rfl) (argsL := [(.ref b10), (.int 2)]) (rest := []) (lenOf pden_0 rfl) rfl (by show 2 * 0 + _ ≤ _; exact Nat.le_of_eq rfl) (hb hby den_38) (fun _ _ => ⟨rfl, rfl, (by decide : 1 + 4 ≤ _), (by decide : 4 + 20 ≤ _)⟩)
        dsimp only [Pt.U, Pt.locs, Pt.cells, Pt.slots] at X14 l14 y14 z14 st14 hQ14
        subst y14 z14
        dsimp only [Pt.U, Pt.locs, Pt.cells, Pt.slots] at hSn14 gr14
        obtain ⟨X14, hS14, hZ14, hown14⟩ := rebS (vm0 := s.vm) hS0 hk12 X14 hSn14 gr14 hZ hown
        have hk14 : T14.heap.size ≤ T14.heap.size := Nat.le_refl _
        obtain ⟨x, t, kt, cd, N, vs, P2, rfl, Nc14, Kc14, gx, szx, NE, NC, NV, NB, hcd, hbd, I14, hX⟩ := hQ14
        have N14 : Fr n0 L14 := by rw [l14]; exact Fr.app N12 Nc14
        have g_x : n0 ≤ x := gx
        have sz_x : h0.size ≤ x := Nat.le_trans K12.1 szx
        have ne_b10_x : b10 ≠ x := Nat.ne_of_lt (Nat.lt_of_lt_of_le V_b10.lt szx)
        have V_b10 := V_b10.keep Kc14 nin0
        have O14 := O12.keep Kc14 all0
        have K14 := K12.trans Kc14 all0
        have E_x : Exa Z T14.heap x "java/lang/String" := NE
        have F_x_coder : Fld Z T14.heap x "java/lang/String" "coder" "B" (.int cd) := NC
        have F_x_value : Fld Z T14.heap x "java/lang/String" "value" "[B" (.ref t) := NV
        have V_t : Arv Z T14.heap t kt .byte N vs (.int 0) := NB
        refine GoV.tr st14 ?_
        show GoV p e below s _ _ _ (T14.setTop (mkF m 41 #[.val (.int s0), .val (.int s1), .val (.int 2), .val (.ref b10), .val (.int 2)] [(.ref x)]))
        have hE : oEnc s0 s1 (2 : Int32) = List.take (2 : Int32).toNatClampNeg [s0, s1, (0 : Int32), (0 : Int32)] := by unfold oEnc oPut; rw [if_neg (by decide), if_neg (by decide), if_pos hAs0, if_pos hAs1]; rfl
        exact GoV.ret (vm1 := T14.vm) X14 hlk hS14 (by exact hk14) (some (.ref x)) (fun h => by rw [Bd.returns] at h; cases h) (by exact ⟨x, t, kt, cd, N, vs, P2, rfl, N14, K14, g_x, sz_x, E_x, F_x_coder, F_x_value, V_t, (by rw [hE]; exact hcd), (by rw [hE]; exact hbd), own_iH (s := s.setVm T14.vm) I14 X14.warmed, hX⟩) (by decide) (by decide) (fun fs hr => retOut X14 hx Bd.returns rfl (Or.inr (Or.inr (Or.inr (Or.inr ⟨rfl, rfl, rfl⟩)))) (hb hby den_41) hr)
      · have V_b10 : Arv Z T12.heap b10 k10 .char (4 : Int32) [(.int s0), (.int (oH s1)), (.int (oL s1)), (.int 0)] (.int 0) := NV12
        show GoV p e below s _ _ _ (T12.setTop (mkF m 33 #[.val (.int s0), .val (.int s1), .val (.int 2), .val (.ref b10), .val (.int 1)] [(.int 3)]))
        refine GoV.s (XS.istore X12.here hx rfl (hb hby den_33) rfl (l' := #[.val (.int s0), .val (.int s1), .val (.int 2), .val (.ref b10), .val (.int 3)]) rfl) ?_
        refine GoV.s (XS.aloadN X12.here hx rfl (hb hby den_35) rfl rfl) ?_
        refine GoV.s (XS.iload X12.here hx rfl (hb hby den_36) rfl) ?_
        have hC15 : ∀ U : State, Z.Warmed39 U.vm → s.WarmedH U.vm → U.heap = T12.heap → ∀ c ∈ ([("java/lang/String", 7)] : List (String × Nat)), ConstHeldL U c.1 c.2 := fun U hU1 hU2 hU3 c hc => by
          rw [List.mem_singleton] at hc
          subst hc
          exact own_held (Z := s) (Ps := []) hU2.wide (mvS (s := s) (vm0 := s.vm) (args := #[]) hZs (own_w hw 27 rfl)) (own_iH OwnI.start hU2) (fun b cl q => by rw [hU3]; exact own_keepE K12 (by rw [← hh]; exact q)) (hHC ("java/lang/String", 7) (by decide)) (fun q hq => by cases hq)
        obtain ⟨_, _, ⟨T16, L16, k16, n16⟩, -, X16, hSn16, gr16, ⟨Lc16, hQ16, l16, y16, z16⟩, st16⟩ := callSS X12 hx (y := mN10) hown (mvT hZ (own_w hw 11 rfl)) (mvT hZ (own_w hw 12 rfl)) (mvT hZ (own_w hw 2 rfl)) (mvT hZ (own_w hw 13 rfl)) (by decide) (own_backHC (W := 0) (rmt l Z a0 hw [] b10 k10 (3 : Int32) zc s0 (oH s1) (oL s1) (0 : Int32) Ps T12.heap n0 O12 V_b10 (by decide) (oS_16 hAs0 hs00) (oH_16 hAs1 hs11) (oL_16 hAs1 hs11) (by decide) SA SHI SLO SC hcs hHZ) hZ I0 hC15 (own_w hw 13 rfl) (own_w hw 2 rfl) (by decide) (by decide)) (g := (mkF m 38 #[.val (.int s0), .val (.int s1), .val (.int 2), .val (.ref b10), .val (.int 3)] [(.int 3), (.ref b10)])) rfl (by rw [hml]; rfl) (argsL := [(.ref b10), (.int 3)]) (rest := []) (lenOf pden_0 rfl) rfl (by show 2 * 0 + _ ≤ _; exact Nat.le_of_eq rfl) (hb hby den_38) (fun _ _ => ⟨rfl, rfl, (by decide : 1 + 4 ≤ _), (by decide : 4 + 20 ≤ _)⟩)
        dsimp only [Pt.U, Pt.locs, Pt.cells, Pt.slots] at X16 l16 y16 z16 st16 hQ16
        subst y16 z16
        dsimp only [Pt.U, Pt.locs, Pt.cells, Pt.slots] at hSn16 gr16
        obtain ⟨X16, hS16, hZ16, hown16⟩ := rebS (vm0 := s.vm) hS0 hk12 X16 hSn16 gr16 hZ hown
        have hk16 : T16.heap.size ≤ T16.heap.size := Nat.le_refl _
        obtain ⟨x, t, kt, cd, N, vs, P2, rfl, Nc16, Kc16, gx, szx, NE, NC, NV, NB, hcd, hbd, I16, hX⟩ := hQ16
        have N16 : Fr n0 L16 := by rw [l16]; exact Fr.app N12 Nc16
        have g_x : n0 ≤ x := gx
        have sz_x : h0.size ≤ x := Nat.le_trans K12.1 szx
        have ne_b10_x : b10 ≠ x := Nat.ne_of_lt (Nat.lt_of_lt_of_le V_b10.lt szx)
        have V_b10 := V_b10.keep Kc16 nin0
        have O16 := O12.keep Kc16 all0
        have K16 := K12.trans Kc16 all0
        have E_x : Exa Z T16.heap x "java/lang/String" := NE
        have F_x_coder : Fld Z T16.heap x "java/lang/String" "coder" "B" (.int cd) := NC
        have F_x_value : Fld Z T16.heap x "java/lang/String" "value" "[B" (.ref t) := NV
        have V_t : Arv Z T16.heap t kt .byte N vs (.int 0) := NB
        refine GoV.tr st16 ?_
        show GoV p e below s _ _ _ (T16.setTop (mkF m 41 #[.val (.int s0), .val (.int s1), .val (.int 2), .val (.ref b10), .val (.int 3)] [(.ref x)]))
        have hE : oEnc s0 s1 (2 : Int32) = List.take (3 : Int32).toNatClampNeg [s0, (oH s1), (oL s1), (0 : Int32)] := by unfold oEnc oPut; rw [if_neg (by decide), if_neg (by decide), if_pos hAs0, if_neg hAs1]; rfl
        exact GoV.ret (vm1 := T16.vm) X16 hlk hS16 (by exact hk16) (some (.ref x)) (fun h => by rw [Bd.returns] at h; cases h) (by exact ⟨x, t, kt, cd, N, vs, P2, rfl, N16, K16, g_x, sz_x, E_x, F_x_coder, F_x_value, V_t, (by rw [hE]; exact hcd), (by rw [hE]; exact hbd), own_iH (s := s.setVm T16.vm) I16 X16.warmed, hX⟩) (by decide) (by decide) (fun fs hr => retOut X16 hx Bd.returns rfl (Or.inr (Or.inr (Or.inr (Or.inr ⟨rfl, rfl, rfl⟩)))) (hb hby den_41) hr)
    · have V_b10 : Arv Z T11.heap b10 k10 .char (4 : Int32) [(.int (oH s0)), (.int (oL s0)), (.int 0), (.int 0)] (.int 0) := NV11
      show GoV p e below s _ _ _ (T11.setTop (mkF m 19 #[.val (.int s0), .val (.int s1), .val (.int 2), .val (.ref b10), .val (.int 0)] [(.int 2)]))
      refine GoV.s (XS.istore X11.here hx rfl (hb hby den_19) rfl (l' := #[.val (.int s0), .val (.int s1), .val (.int 2), .val (.ref b10), .val (.int 2)]) rfl) ?_
      refine GoV.s (XS.iloadN X11.here hx rfl (hb hby den_21) rfl) ?_
      refine GoV.s (XS.iconst X11.here hx rfl (hb hby den_22)) ?_
      refine GoV.s (XS.icmpNo X11.here hx rfl (hb hby den_23) rfl (by decide)) ?_
      show GoV p e below s _ _ _ (T11.setTop (mkF m 26 #[.val (.int s0), .val (.int s1), .val (.int 2), .val (.ref b10), .val (.int 2)] []))
      refine GoV.s (XS.aloadN X11.here hx rfl (hb hby den_26) rfl rfl) ?_
      refine GoV.s (XS.iload X11.here hx rfl (hb hby den_27) rfl) ?_
      refine GoV.s (XS.iloadN X11.here hx rfl (hb hby den_29) rfl) ?_
      obtain ⟨v17, _, ⟨T17, L17, k17, n17⟩, -, X17, ⟨Lc17, hQ17, l17, y17, z17⟩, st17⟩ := Jvm.LawKit.callS X11 hx (y := mN11) hown (mvT hZ (own_w hw 64 rfl)) (mvT hZ (own_w hw 65 rfl)) (mvT hZ (own_w hw 2 rfl)) (mvT hZ (own_w hw 66 rfl)) (by decide) (backOf (W := 0) (rmu2 l Z a0 hw [] b10 k10 s1 (oH s0) (oL s0) (0 : Int32) (0 : Int32) T11.heap n0 O11 V_b10 g_b10 hs10 hs11) hZ (own_w hw 66 rfl) (own_w hw 2 rfl) (by decide) (by decide)) (g := (mkF m 30 #[.val (.int s0), .val (.int s1), .val (.int 2), .val (.ref b10), .val (.int 2)] [(.int s1), (.int 2), (.ref b10)])) rfl (by rw [hml]; rfl) (argsL := [(.ref b10), (.int 2), (.int s1)]) (rest := []) (lenOf pden_1 rfl) rfl (by show 2 * 0 + _ ≤ _; exact Nat.le_of_eq rfl) (hb hby den_30) (fun _ _ => ⟨rfl, rfl, (by decide : 1 + 0 ≤ _), (by decide : 4 + 0 ≤ _)⟩)
      dsimp only [Pt.U, Pt.locs, Pt.cells, Pt.slots] at X17 l17 y17 z17 st17 hQ17
      subst y17 z17
      obtain ⟨Nc17, Kc17, hd17⟩ := hQ17
      have N17 : Fr n0 L17 := by rw [l17]; exact Fr.app N11 Nc17
      have hk17 := Nat.le_trans hk11 Kc17.1
      have O17 := O11.keep Kc17 (allS g_b10 all0)
      have K17 := K11.trans Kc17 (allS (Or.inr sz_b10) all0)
      obtain ⟨r17, rfl, hr17⟩ : ∃ r : Int32, v17 = some (.int r) ∧ ((r = (3 : Int32) ∧ s1 < (65536 : Int32) ∧ Arv Z T17.heap b10 k10 .char (4 : Int32) [(.int (oH s0)), (.int (oL s0)), (.int s1), (.int 0)] (.int 0)) ∨ (r = (4 : Int32) ∧ ¬ s1 < (65536 : Int32) ∧ Arv Z T17.heap b10 k10 .char (4 : Int32) [(.int (oH s0)), (.int (oL s0)), (.int (oH s1)), (.int (oL s1))] (.int 0))) := by
        rcases hd17 with ⟨h_, q_⟩ | ⟨h_, q_⟩
        · exact ⟨_, h_, Or.inl ⟨rfl, q_⟩⟩
        · exact ⟨_, h_, Or.inr ⟨rfl, q_⟩⟩
      refine GoV.st st17 ?_
      show GoV p e below s _ _ _ (T17.setTop (mkF m 33 #[.val (.int s0), .val (.int s1), .val (.int 2), .val (.ref b10), .val (.int 2)] [(.int r17)]))
      rcases hr17 with ⟨rfl, hAs1, NV17⟩ | ⟨rfl, hAs1, NV17⟩
      · have V_b10 : Arv Z T17.heap b10 k10 .char (4 : Int32) [(.int (oH s0)), (.int (oL s0)), (.int s1), (.int 0)] (.int 0) := NV17
        show GoV p e below s _ _ _ (T17.setTop (mkF m 33 #[.val (.int s0), .val (.int s1), .val (.int 2), .val (.ref b10), .val (.int 2)] [(.int 3)]))
        refine GoV.s (XS.istore X17.here hx rfl (hb hby den_33) rfl (l' := #[.val (.int s0), .val (.int s1), .val (.int 2), .val (.ref b10), .val (.int 3)]) rfl) ?_
        refine GoV.s (XS.aloadN X17.here hx rfl (hb hby den_35) rfl rfl) ?_
        refine GoV.s (XS.iload X17.here hx rfl (hb hby den_36) rfl) ?_
        have hC18 : ∀ U : State, Z.Warmed39 U.vm → s.WarmedH U.vm → U.heap = T17.heap → ∀ c ∈ ([("java/lang/String", 7)] : List (String × Nat)), ConstHeldL U c.1 c.2 := fun U hU1 hU2 hU3 c hc => by
          rw [List.mem_singleton] at hc
          subst hc
          exact own_held (Z := s) (Ps := []) hU2.wide (mvS (s := s) (vm0 := s.vm) (args := #[]) hZs (own_w hw 27 rfl)) (own_iH OwnI.start hU2) (fun b cl q => by rw [hU3]; exact own_keepE K17 (by rw [← hh]; exact q)) (hHC ("java/lang/String", 7) (by decide)) (fun q hq => by cases hq)
        obtain ⟨_, _, ⟨T19, L19, k19, n19⟩, -, X19, hSn19, gr19, ⟨Lc19, hQ19, l19, y19, z19⟩, st19⟩ := callSS X17 hx (y := mN10) hown (mvT hZ (own_w hw 11 rfl)) (mvT hZ (own_w hw 12 rfl)) (mvT hZ (own_w hw 2 rfl)) (mvT hZ (own_w hw 13 rfl)) (by decide) (own_backHC (W := 0) (rmt l Z a0 hw [] b10 k10 (3 : Int32) zc (oH s0) (oL s0) s1 (0 : Int32) Ps T17.heap n0 O17 V_b10 (by decide) (oH_16 hAs0 hs01) (oL_16 hAs0 hs01) (oS_16 hAs1 hs10) (by decide) SA SHI SLO SC hcs hHZ) hZ I0 hC18 (own_w hw 13 rfl) (own_w hw 2 rfl) (by decide) (by decide)) (g := (mkF m 38 #[.val (.int s0), .val (.int s1), .val (.int 2), .val (.ref b10), .val (.int 3)] [(.int 3), (.ref b10)])) rfl (by rw [hml]; rfl) (argsL := [(.ref b10), (.int 3)]) (rest := []) (lenOf pden_0 rfl) rfl (by show 2 * 0 + _ ≤ _; exact Nat.le_of_eq rfl) (hb hby den_38) (fun _ _ => ⟨rfl, rfl, (by decide : 1 + 4 ≤ _), (by decide : 4 + 20 ≤ _)⟩)
        dsimp only [Pt.U, Pt.locs, Pt.cells, Pt.slots] at X19 l19 y19 z19 st19 hQ19
        subst y19 z19
        dsimp only [Pt.U, Pt.locs, Pt.cells, Pt.slots] at hSn19 gr19
        obtain ⟨X19, hS19, hZ19, hown19⟩ := rebS (vm0 := s.vm) hS0 hk17 X19 hSn19 gr19 hZ hown
        have hk19 : T19.heap.size ≤ T19.heap.size := Nat.le_refl _
        obtain ⟨x, t, kt, cd, N, vs, P2, rfl, Nc19, Kc19, gx, szx, NE, NC, NV, NB, hcd, hbd, I19, hX⟩ := hQ19
        have N19 : Fr n0 L19 := by rw [l19]; exact Fr.app N17 Nc19
        have g_x : n0 ≤ x := gx
        have sz_x : h0.size ≤ x := Nat.le_trans K17.1 szx
        have ne_b10_x : b10 ≠ x := Nat.ne_of_lt (Nat.lt_of_lt_of_le V_b10.lt szx)
        have V_b10 := V_b10.keep Kc19 nin0
        have O19 := O17.keep Kc19 all0
        have K19 := K17.trans Kc19 all0
        have E_x : Exa Z T19.heap x "java/lang/String" := NE
        have F_x_coder : Fld Z T19.heap x "java/lang/String" "coder" "B" (.int cd) := NC
        have F_x_value : Fld Z T19.heap x "java/lang/String" "value" "[B" (.ref t) := NV
        have V_t : Arv Z T19.heap t kt .byte N vs (.int 0) := NB
        refine GoV.tr st19 ?_
        show GoV p e below s _ _ _ (T19.setTop (mkF m 41 #[.val (.int s0), .val (.int s1), .val (.int 2), .val (.ref b10), .val (.int 3)] [(.ref x)]))
        have hE : oEnc s0 s1 (2 : Int32) = List.take (3 : Int32).toNatClampNeg [(oH s0), (oL s0), s1, (0 : Int32)] := by unfold oEnc oPut; rw [if_neg (by decide), if_neg (by decide), if_neg hAs0, if_pos hAs1]; rfl
        exact GoV.ret (vm1 := T19.vm) X19 hlk hS19 (by exact hk19) (some (.ref x)) (fun h => by rw [Bd.returns] at h; cases h) (by exact ⟨x, t, kt, cd, N, vs, P2, rfl, N19, K19, g_x, sz_x, E_x, F_x_coder, F_x_value, V_t, (by rw [hE]; exact hcd), (by rw [hE]; exact hbd), own_iH (s := s.setVm T19.vm) I19 X19.warmed, hX⟩) (by decide) (by decide) (fun fs hr => retOut X19 hx Bd.returns rfl (Or.inr (Or.inr (Or.inr (Or.inr ⟨rfl, rfl, rfl⟩)))) (hb hby den_41) hr)
      · have V_b10 : Arv Z T17.heap b10 k10 .char (4 : Int32) [(.int (oH s0)), (.int (oL s0)), (.int (oH s1)), (.int (oL s1))] (.int 0) := NV17
        show GoV p e below s _ _ _ (T17.setTop (mkF m 33 #[.val (.int s0), .val (.int s1), .val (.int 2), .val (.ref b10), .val (.int 2)] [(.int 4)]))
        refine GoV.s (XS.istore X17.here hx rfl (hb hby den_33) rfl (l' := #[.val (.int s0), .val (.int s1), .val (.int 2), .val (.ref b10), .val (.int 4)]) rfl) ?_
        refine GoV.s (XS.aloadN X17.here hx rfl (hb hby den_35) rfl rfl) ?_
        refine GoV.s (XS.iload X17.here hx rfl (hb hby den_36) rfl) ?_
        have hC20 : ∀ U : State, Z.Warmed39 U.vm → s.WarmedH U.vm → U.heap = T17.heap → ∀ c ∈ ([("java/lang/String", 7)] : List (String × Nat)), ConstHeldL U c.1 c.2 := fun U hU1 hU2 hU3 c hc => by
          rw [List.mem_singleton] at hc
          subst hc
          exact own_held (Z := s) (Ps := []) hU2.wide (mvS (s := s) (vm0 := s.vm) (args := #[]) hZs (own_w hw 27 rfl)) (own_iH OwnI.start hU2) (fun b cl q => by rw [hU3]; exact own_keepE K17 (by rw [← hh]; exact q)) (hHC ("java/lang/String", 7) (by decide)) (fun q hq => by cases hq)
        obtain ⟨_, _, ⟨T21, L21, k21, n21⟩, -, X21, hSn21, gr21, ⟨Lc21, hQ21, l21, y21, z21⟩, st21⟩ := callSS X17 hx (y := mN10) hown (mvT hZ (own_w hw 11 rfl)) (mvT hZ (own_w hw 12 rfl)) (mvT hZ (own_w hw 2 rfl)) (mvT hZ (own_w hw 13 rfl)) (by decide) (own_backHC (W := 0) (rmt l Z a0 hw [] b10 k10 (4 : Int32) zc (oH s0) (oL s0) (oH s1) (oL s1) Ps T17.heap n0 O17 V_b10 (by decide) (oH_16 hAs0 hs01) (oL_16 hAs0 hs01) (oH_16 hAs1 hs11) (oL_16 hAs1 hs11) SA SHI SLO SC hcs hHZ) hZ I0 hC20 (own_w hw 13 rfl) (own_w hw 2 rfl) (by decide) (by decide)) (g := (mkF m 38 #[.val (.int s0), .val (.int s1), .val (.int 2), .val (.ref b10), .val (.int 4)] [(.int 4), (.ref b10)])) rfl (by rw [hml]; rfl) (argsL := [(.ref b10), (.int 4)]) (rest := []) (lenOf pden_0 rfl) rfl (by show 2 * 0 + _ ≤ _; exact Nat.le_of_eq rfl) (hb hby den_38) (fun _ _ => ⟨rfl, rfl, (by decide : 1 + 4 ≤ _), (by decide : 4 + 20 ≤ _)⟩)
        dsimp only [Pt.U, Pt.locs, Pt.cells, Pt.slots] at X21 l21 y21 z21 st21 hQ21
        subst y21 z21
        dsimp only [Pt.U, Pt.locs, Pt.cells, Pt.slots] at hSn21 gr21
        obtain ⟨X21, hS21, hZ21, hown21⟩ := rebS (vm0 := s.vm) hS0 hk17 X21 hSn21 gr21 hZ hown
        have hk21 : T21.heap.size ≤ T21.heap.size := Nat.le_refl _
        obtain ⟨x, t, kt, cd, N, vs, P2, rfl, Nc21, Kc21, gx, szx, NE, NC, NV, NB, hcd, hbd, I21, hX⟩ := hQ21
        have N21 : Fr n0 L21 := by rw [l21]; exact Fr.app N17 Nc21
        have g_x : n0 ≤ x := gx
        have sz_x : h0.size ≤ x := Nat.le_trans K17.1 szx
        have ne_b10_x : b10 ≠ x := Nat.ne_of_lt (Nat.lt_of_lt_of_le V_b10.lt szx)
        have V_b10 := V_b10.keep Kc21 nin0
        have O21 := O17.keep Kc21 all0
        have K21 := K17.trans Kc21 all0
        have E_x : Exa Z T21.heap x "java/lang/String" := NE
        have F_x_coder : Fld Z T21.heap x "java/lang/String" "coder" "B" (.int cd) := NC
        have F_x_value : Fld Z T21.heap x "java/lang/String" "value" "[B" (.ref t) := NV
        have V_t : Arv Z T21.heap t kt .byte N vs (.int 0) := NB
        refine GoV.tr st21 ?_
        show GoV p e below s _ _ _ (T21.setTop (mkF m 41 #[.val (.int s0), .val (.int s1), .val (.int 2), .val (.ref b10), .val (.int 4)] [(.ref x)]))
        have hE : oEnc s0 s1 (2 : Int32) = List.take (4 : Int32).toNatClampNeg [(oH s0), (oL s0), (oH s1), (oL s1)] := by unfold oEnc oPut; rw [if_neg (by decide), if_neg (by decide), if_neg hAs0, if_neg hAs1]; rfl
        exact GoV.ret (vm1 := T21.vm) X21 hlk hS21 (by exact hk21) (some (.ref x)) (fun h => by rw [Bd.returns] at h; cases h) (by exact ⟨x, t, kt, cd, N, vs, P2, rfl, N21, K21, g_x, sz_x, E_x, F_x_coder, F_x_value, V_t, (by rw [hE]; exact hcd), (by rw [hE]; exact hbd), own_iH (s := s.setVm T21.vm) I21 X21.warmed, hX⟩) (by decide) (by decide) (fun fs hr => retOut X21 hx Bd.returns rfl (Or.inr (Or.inr (Or.inr (Or.inr ⟨rfl, rfl, rfl⟩)))) (hb hby den_41) hr)
 obtain ⟨s2, o2, st2, r2⟩ := G
 exact ⟨s2, o2, castTop (efen m s0 s1 n) st2, r2⟩
theorem dul_0 : decode jdk_52_method_6_code 0 = .ok (.aload_n 0, 1) := by decide +kernel
theorem dul_1 : decode jdk_52_method_6_code 1 = .ok (.arraylength, 1) := by decide +kernel
theorem dul_2 : decode jdk_52_method_6_code 2 = .ok (.iconst 1, 1) := by decide +kernel
theorem dul_3 : decode jdk_52_method_6_code 3 = .ok (.ishr, 1) := by decide +kernel
theorem dul_4 : decode jdk_52_method_6_code 4 = .ok (.ireturn, 1) := by decide +kernel
theorem pnul : plainName "java/lang/StringUTF16" = true := by first | (simp [plainName, overriddenIn]; done) | decide +kernel
theorem eful (m : MethodId) (x0 : Addr) : entryFrame m #[(.ref x0)] 1 = mkF m 0 #[.val (.ref x0)] [] := by first | (simp [entryFrame, mkF, argsToLocals, Value.category, maxLocals]; done) | rfl
def Qul (Z : State) (t : Addr) (kt : ClassId) (N : Int32) (vs : List Value) (h0 : Heap) (n0 : Nat) (v : Option Value) (h : Heap) (L : List Loc) : Prop := v = some (.int (N >>> ((1 : Int32) &&& 31))) ∧ Fr n0 L ∧ h = h0
theorem rmul (l : Launch) (Z : State) (a0 : Array Value) (hw : ∀ d ∈ tables_1, d.before a0 Z = true) (ws : List Jvm.Cond) (t : Addr) (kt : ClassId) (N : Int32) (vs : List Value) (h0 : Heap) (n0 : Nat) (O0 : Old Z n0 h0) (V_t : Arv Z h0 t kt .byte N vs (.int 0)) :
  MetFree l mN13 (head1 (Jvm.Cond.code mN13 jdk_52_method_6_code 1 (some .int) :: ws) ({ frames := 0, cells := 0, slots := 0, locals := 0 } : Room)) (fun A_ U_ => A_ = #[(.ref t)] ∧ Z.Warmed39 U_.vm ∧ U_.heap = h0) (fun _ _ _ _ _ => True) (fun _ U o U' => ∃ v L, o = .returned v ∧ Qul Z t kt N vs h0 n0 v U'.heap L ∧ FrameEnd U o U' L ({ frames := 0, cells := 0, slots := 0, locals := 0 } : Room).cells ({ frames := 0, cells := 0, slots := 0, locals := 0 } : Room).slots) := by
 refine MetFree.of_bodySF (plainFor_of_name pnul) hisR ?_
 intro p e s m args below meth cd s₁ Bd hml0 hP hK
 obtain ⟨rfl, hZ, hh⟩ := hP
 have hx := Bd.exec
 have hby := Bd.bytes
 have hlk : meth.locks = false := BodyLoose.notSynchronized Bd
 have hml : cd.maxLocals = 1 := hml0
 have hown : s.vm.findClass "java/lang/StringUTF16" = some m.cls := findClass_of_methodNamed Bd.named
 have X0 : Stand p l e ({ frames := 0, cells := 0, slots := 0, locals := 0 } : Room) s m #[(.ref t)] below meth cd s₁ [] 0 0 := Stand.of_body Bd
 have e0 : s₁.heap = h0 := by rw [← hh, Bd.state]; rfl
 have N0 := Fr.nil n0
 have G : Go p e below s 0 0 (Qul Z t kt N vs h0 n0) (s₁.setTop (mkF m 0 #[.val (.ref t)] [])) := by
  refine Go.s (XS.aloadN X0.here hx rfl (hb hby dul_0) rfl rfl) ?_
  refine Go.s (own_len X0 hx hZ e0 V_t (g := (mkF m 1 #[.val (.ref t)] [(.ref t)])) rfl rfl (hb hby dul_1) _) ?_
  show Go p e below s _ _ _ (s₁.setTop (mkF m 2 #[.val (.ref t)] [(.int N)]))
  refine Go.s (XS.iconst X0.here hx rfl (hb hby dul_2)) ?_
  refine Go.s (XT.ishr X0.here hx rfl (hb hby dul_3) rfl) ?_
  show Go p e below s _ _ _ (s₁.setTop (mkF m 4 #[.val (.ref t)] [(.int (N >>> ((1 : Int32) &&& 31)))]))
  exact Go.ret X0 hlk (some (.int (N >>> ((1 : Int32) &&& 31)))) (fun h => by rw [Bd.returns] at h; cases h) (by rw [e0]; exact ⟨rfl, N0, rfl⟩) (by decide) (by decide) (fun fs hr => retI X0 hx Bd.returns (hb hby dul_4) hr)
 obtain ⟨s2, o2, st2, r2⟩ := G
 exact ⟨s2, o2, castTop (eful m t) st2, r2⟩
theorem dpk_0 : decode jdk_41_method_11_code 0 = .ok (.iload_n 0, 1) := by decide +kernel
theorem dpk_1 : decode jdk_41_method_11_code 1 = .ok (.ifCond .lt 8, 3) := by decide +kernel
theorem dpk_4 : decode jdk_41_method_11_code 4 = .ok (.iload_n 0, 1) := by decide +kernel
theorem dpk_5 : decode jdk_41_method_11_code 5 = .ok (.iload_n 1, 1) := by decide +kernel
theorem dpk_6 : decode jdk_41_method_11_code 6 = .ok (.if_icmp .lt 10, 3) := by decide +kernel
theorem dpk_16 : decode jdk_41_method_11_code 16 = .ok (.iload_n 0, 1) := by decide +kernel
theorem dpk_17 : decode jdk_41_method_11_code 17 = .ok (.ireturn, 1) := by decide +kernel
theorem pnpk : plainName "jdk/internal/util/Preconditions" = true := by first | (simp [plainName, overriddenIn]; done) | decide +kernel
theorem efpk (m : MethodId) (x0 : Int32) (x1 : Int32) (x2 : Value) (hr0 : Value.isRef x2 = true) : entryFrame m #[(.int x0), (.int x1), x2] 3 = mkF m 0 #[.val (.int x0), .val (.int x1), .val x2] [] := by rcases ref_cases hr0 with rfl | ⟨_, rfl⟩ <;> (first | (simp [entryFrame, mkF, argsToLocals, Value.category, maxLocals]; done) | rfl)
def Qpk (Z : State) (j : Int32) (m_ : Int32) (fm : Value) (h0 : Heap) (n0 : Nat) (v : Option Value) (h : Heap) (L : List Loc) : Prop := v = some (.int j) ∧ Fr n0 L ∧ h = h0
theorem rmpk (l : Launch) (Z : State) (a0 : Array Value) (hw : ∀ d ∈ tables_1, d.before a0 Z = true) (ws : List Jvm.Cond) (j : Int32) (m_ : Int32) (fm : Value) (h0 : Heap) (n0 : Nat) (O0 : Old Z n0 h0) (hj0 : ¬ j < 0) (hj1 : j < m_) (rf : fm.isRef = true) :
  MetFree l mN14 (head1 (Jvm.Cond.code mN14 jdk_41_method_11_code 3 (some .int) :: ws) ({ frames := 0, cells := 0, slots := 0, locals := 0 } : Room)) (fun A_ U_ => A_ = #[(.int j), (.int m_), fm] ∧ Z.Warmed39 U_.vm ∧ U_.heap = h0) (fun _ _ _ _ _ => True) (fun _ U o U' => ∃ v L, o = .returned v ∧ Qpk Z j m_ fm h0 n0 v U'.heap L ∧ FrameEnd U o U' L ({ frames := 0, cells := 0, slots := 0, locals := 0 } : Room).cells ({ frames := 0, cells := 0, slots := 0, locals := 0 } : Room).slots) := by
 refine MetFree.of_bodySF (plainFor_of_name pnpk) hisR ?_
 intro p e s m args below meth cd s₁ Bd hml0 hP hK
 obtain ⟨rfl, hZ, hh⟩ := hP
 have hx := Bd.exec
 have hby := Bd.bytes
 have hlk : meth.locks = false := BodyLoose.notSynchronized Bd
 have hml : cd.maxLocals = 3 := hml0
 have hown : s.vm.findClass "jdk/internal/util/Preconditions" = some m.cls := findClass_of_methodNamed Bd.named
 have X0 : Stand p l e ({ frames := 0, cells := 0, slots := 0, locals := 0 } : Room) s m #[(.int j), (.int m_), fm] below meth cd s₁ [] 0 0 := Stand.of_body Bd
 have e0 : s₁.heap = h0 := by rw [← hh, Bd.state]; rfl
 have N0 := Fr.nil n0
 have G : Go p e below s 0 0 (Qpk Z j m_ fm h0 n0) (s₁.setTop (mkF m 0 #[.val (.int j), .val (.int m_), .val fm] [])) := by
  refine Go.s (XS.iloadN X0.here hx rfl (hb hby dpk_0) rfl) ?_
  refine Go.s (XS.ifNo X0.here hx rfl (hb hby dpk_1) rfl (XT.i0_lt_f hj0)) ?_
  show Go p e below s _ _ _ (s₁.setTop (mkF m 4 #[.val (.int j), .val (.int m_), .val fm] []))
  refine Go.s (XS.iloadN X0.here hx rfl (hb hby dpk_4) rfl) ?_
  refine Go.s (XS.iloadN X0.here hx rfl (hb hby dpk_5) rfl) ?_
  refine Go.s (XS.icmpYes X0.here hx rfl (pc0 := 6) (pc' := 16) rfl (hb hby dpk_6) rfl (XT.ii_lt_t hj1) (by decide) (by decide)) ?_
  show Go p e below s _ _ _ (s₁.setTop (mkF m 16 #[.val (.int j), .val (.int m_), .val fm] []))
  refine Go.s (XS.iloadN X0.here hx rfl (hb hby dpk_16) rfl) ?_
  exact Go.ret X0 hlk (some (.int j)) (fun h => by rw [Bd.returns] at h; cases h) (by rw [e0]; exact ⟨rfl, N0, rfl⟩) (by decide) (by decide) (fun fs hr => retI X0 hx Bd.returns (hb hby dpk_17) hr)
 obtain ⟨s2, o2, st2, r2⟩ := G
 exact ⟨s2, o2, castTop (efpk m j m_ fm rf) st2, r2⟩
theorem dsk_0 : decode jdk_42_method_155_code 0 = .ok (.iload_n 0, 1) := by decide +kernel
theorem dsk_1 : decode jdk_42_method_155_code 1 = .ok (.iload_n 1, 1) := by decide +kernel
theorem dsk_2 : decode jdk_42_method_155_code 2 = .ok (.getstatic 1053, 3) := by decide +kernel
theorem dsk_5 : decode jdk_42_method_155_code 5 = .ok (.invokestatic 1059, 3) := by decide +kernel
theorem dsk_8 : decode jdk_42_method_155_code 8 = .ok (.pop, 1) := by decide +kernel
theorem dsk_9 : decode jdk_42_method_155_code 9 = .ok (.return_, 1) := by decide +kernel
theorem pdsk_0 : parseMethodDescriptor "(IILjava/util/function/BiFunction;)I" = some ⟨[.int, .int, (.object "java/util/function/BiFunction")], some .int⟩ := by decide +kernel
theorem pnsk : plainName "java/lang/String" = true := by first | (simp [plainName, overriddenIn]; done) | decide +kernel
theorem efsk (m : MethodId) (x0 : Int32) (x1 : Int32) : entryFrame m #[(.int x0), (.int x1)] 2 = mkF m 0 #[.val (.int x0), .val (.int x1)] [] := by first | (simp [entryFrame, mkF, argsToLocals, Value.category, maxLocals]; done) | rfl
def Qsk (Z : State) (j : Int32) (m_ : Int32) (fm : Value) (h0 : Heap) (n0 : Nat) (v : Option Value) (h : Heap) (L : List Loc) : Prop := v = none ∧ Fr n0 L ∧ h = h0
theorem rmsk (l : Launch) (Z : State) (a0 : Array Value) (hw : ∀ d ∈ tables_1, d.before a0 Z = true) (ws : List Jvm.Cond) (j : Int32) (m_ : Int32) (fm : Value) (h0 : Heap) (n0 : Nat) (O0 : Old Z n0 h0) (hj0 : ¬ j < 0) (hj1 : j < m_) (SF : Sta Z Z.heap "jdk/internal/util/Preconditions" "SIOOBE_FORMATTER" "Ljava/util/function/BiFunction;" fm) (rf : fm.isRef = true) :
  MetFree l mN15 (head1 (Jvm.Cond.code mN15 jdk_42_method_155_code 2 none :: ws) ({ frames := 1, cells := 0, slots := 0, locals := 14 } : Room)) (fun A_ U_ => A_ = #[(.int j), (.int m_)] ∧ Z.Warmed39 U_.vm ∧ U_.heap = h0) (fun _ _ _ _ _ => True) (fun _ U o U' => ∃ v L, o = .returned v ∧ Qsk Z j m_ fm h0 n0 v U'.heap L ∧ FrameEnd U o U' L ({ frames := 1, cells := 0, slots := 0, locals := 14 } : Room).cells ({ frames := 1, cells := 0, slots := 0, locals := 14 } : Room).slots) := by
 refine MetFree.of_bodySF (plainFor_of_name pnsk) hisR ?_
 intro p e s m args below meth cd s₁ Bd hml0 hP hK
 obtain ⟨rfl, hZ, hh⟩ := hP
 have hx := Bd.exec
 have hby := Bd.bytes
 have hlk : meth.locks = false := BodyLoose.notSynchronized Bd
 have hml : cd.maxLocals = 2 := hml0
 have hown : s.vm.findClass "java/lang/String" = some m.cls := findClass_of_methodNamed Bd.named
 have X0 : Stand p l e ({ frames := 1, cells := 0, slots := 0, locals := 14 } : Room) s m #[(.int j), (.int m_)] below meth cd s₁ [] 0 0 := Stand.of_body Bd
 have e0 : s₁.heap = h0 := by rw [← hh, Bd.state]; rfl
 have N0 := Fr.nil n0
 have G : Go p e below s 0 0 (Qsk Z j m_ fm h0 n0) (s₁.setTop (mkF m 0 #[.val (.int j), .val (.int m_)] [])) := by
  refine Go.s (XS.iloadN X0.here hx rfl (hb hby dsk_0) rfl) ?_
  refine Go.s (XS.iloadN X0.here hx rfl (hb hby dsk_1) rfl) ?_
  obtain ⟨T1, X1, e1, st1⟩ := getS X0 hx hZ hown (host := "") (own_w hw 95 rfl) Via.refl e0 (SF.ext O0.2) (g := (mkF m 2 #[.val (.int j), .val (.int m_)] [(.int m_), (.int j)])) rfl (hb hby dsk_2)
  refine Go.st st1 ?_
  show Go p e below s _ _ _ (T1.setTop (mkF m 5 #[.val (.int j), .val (.int m_)] [fm, (.int m_), (.int j)]))
  obtain ⟨_, _, ⟨T2, L2, k2, n2⟩, -, X2, ⟨Lc2, hQ2, l2, y2, z2⟩, st2⟩ := Jvm.LawKit.callS X1 hx (y := mN14) hown (mvT hZ (own_w hw 97 rfl)) (mvT hZ (own_w hw 98 rfl)) (mvT hZ (own_w hw 96 rfl)) (mvT hZ (own_w hw 99 rfl)) (by decide) (backOf (W := 0) (rmpk l Z a0 hw [] j m_ fm h0 n0 O0 hj0 hj1 rf) hZ (own_w hw 99 rfl) (own_w hw 96 rfl) (by decide) (by decide)) (g := (mkF m 5 #[.val (.int j), .val (.int m_)] [fm, (.int m_), (.int j)])) rfl (by rw [hml]; rfl) (argsL := [(.int j), (.int m_), fm]) (rest := []) (lenOf pdsk_0 rfl) rfl (by show 2 * 0 + _ ≤ _; exact Nat.le_of_eq rfl) (hb hby dsk_5) (fun _ _ => ⟨rfl, e1, (by decide : 0 + 0 ≤ _), (by decide : 0 + 0 ≤ _)⟩)
  dsimp only [Pt.U, Pt.locs, Pt.cells, Pt.slots] at X2 l2 y2 z2 st2 hQ2
  subst y2 z2
  obtain ⟨rfl, Nc2, e2⟩ := hQ2
  have N2 : Fr n0 L2 := by rw [l2]; exact Fr.app N0 Nc2
  refine Go.st st2 ?_
  show Go p e below s _ _ _ (T2.setTop (mkF m 8 #[.val (.int j), .val (.int m_)] [(.int j)]))
  refine Go.s (XT.pop X2.here hx rfl (hb hby dsk_8) rfl rfl) ?_
  show Go p e below s _ _ _ (T2.setTop (mkF m 9 #[.val (.int j), .val (.int m_)] []))
  exact Go.ret X2 hlk (none) (fun _ => rfl) (by rw [e2]; exact ⟨rfl, N2, rfl⟩) (by decide) (by decide) (fun fs hr => X2.returnOut hx Bd.returns (hb hby dsk_9) hr)
 obtain ⟨s2, o2, st2, r2⟩ := G
 exact ⟨s2, o2, castTop (efsk m j m_) st2, r2⟩
theorem duk_0 : decode jdk_52_method_91_code 0 = .ok (.iload_n 0, 1) := by decide +kernel
theorem duk_1 : decode jdk_52_method_91_code 1 = .ok (.aload_n 1, 1) := by decide +kernel
theorem duk_2 : decode jdk_52_method_91_code 2 = .ok (.invokestatic 48, 3) := by decide +kernel
theorem duk_5 : decode jdk_52_method_91_code 5 = .ok (.invokestatic 414, 3) := by decide +kernel
theorem duk_8 : decode jdk_52_method_91_code 8 = .ok (.return_, 1) := by decide +kernel
theorem pduk_0 : parseMethodDescriptor "([B)I" = some ⟨[(.array .byte)], some .int⟩ := by decide +kernel
theorem pduk_1 : parseMethodDescriptor "(II)V" = some ⟨[.int, .int], none⟩ := by decide +kernel
theorem pnuk : plainName "java/lang/StringUTF16" = true := by first | (simp [plainName, overriddenIn]; done) | decide +kernel
theorem efuk (m : MethodId) (x0 : Int32) (x1 : Addr) : entryFrame m #[(.int x0), (.ref x1)] 2 = mkF m 0 #[.val (.int x0), .val (.ref x1)] [] := by first | (simp [entryFrame, mkF, argsToLocals, Value.category, maxLocals]; done) | rfl
def Quk (Z : State) (j : Int32) (t : Addr) (kt : ClassId) (N : Int32) (vs : List Value) (fm : Value) (h0 : Heap) (n0 : Nat) (v : Option Value) (h : Heap) (L : List Loc) : Prop := v = none ∧ Fr n0 L ∧ h = h0
theorem rmuk (l : Launch) (Z : State) (a0 : Array Value) (hw : ∀ d ∈ tables_1, d.before a0 Z = true) (ws : List Jvm.Cond) (j : Int32) (t : Addr) (kt : ClassId) (N : Int32) (vs : List Value) (fm : Value) (h0 : Heap) (n0 : Nat) (O0 : Old Z n0 h0) (V_t : Arv Z h0 t kt .byte N vs (.int 0)) (hj0 : ¬ j < 0) (hj1 : j < (N >>> ((1 : Int32) &&& 31))) (SF : Sta Z Z.heap "jdk/internal/util/Preconditions" "SIOOBE_FORMATTER" "Ljava/util/function/BiFunction;" fm) (rf : fm.isRef = true) :
  MetFree l mN16 (head1 (Jvm.Cond.code mN16 jdk_52_method_91_code 2 none :: ws) ({ frames := 2, cells := 0, slots := 0, locals := 27 } : Room)) (fun A_ U_ => A_ = #[(.int j), (.ref t)] ∧ Z.Warmed39 U_.vm ∧ U_.heap = h0) (fun _ _ _ _ _ => True) (fun _ U o U' => ∃ v L, o = .returned v ∧ Quk Z j t kt N vs fm h0 n0 v U'.heap L ∧ FrameEnd U o U' L ({ frames := 2, cells := 0, slots := 0, locals := 27 } : Room).cells ({ frames := 2, cells := 0, slots := 0, locals := 27 } : Room).slots) := by
 refine MetFree.of_bodySF (plainFor_of_name pnuk) hisR ?_
 intro p e s m args below meth cd s₁ Bd hml0 hP hK
 obtain ⟨rfl, hZ, hh⟩ := hP
 have hx := Bd.exec
 have hby := Bd.bytes
 have hlk : meth.locks = false := BodyLoose.notSynchronized Bd
 have hml : cd.maxLocals = 2 := hml0
 have hown : s.vm.findClass "java/lang/StringUTF16" = some m.cls := findClass_of_methodNamed Bd.named
 have X0 : Stand p l e ({ frames := 2, cells := 0, slots := 0, locals := 27 } : Room) s m #[(.int j), (.ref t)] below meth cd s₁ [] 0 0 := Stand.of_body Bd
 have e0 : s₁.heap = h0 := by rw [← hh, Bd.state]; rfl
 have N0 := Fr.nil n0
 have G : Go p e below s 0 0 (Quk Z j t kt N vs fm h0 n0) (s₁.setTop (mkF m 0 #[.val (.int j), .val (.ref t)] [])) := by
  refine Go.s (XS.iloadN X0.here hx rfl (hb hby duk_0) rfl) ?_
  refine Go.s (XS.aloadN X0.here hx rfl (hb hby duk_1) rfl rfl) ?_
  obtain ⟨_, _, ⟨T1, L1, k1, n1⟩, -, X1, ⟨Lc1, hQ1, l1, y1, z1⟩, st1⟩ := Jvm.LawKit.callS X0 hx (y := mN13) hown (mvT hZ (own_w hw 133 rfl)) (mvT hZ (own_w hw 134 rfl)) (mvT hZ (own_w hw 70 rfl)) (mvT hZ (own_w hw 135 rfl)) (by decide) (backOf (W := 1) (rmul l Z a0 hw [] t kt N vs h0 n0 O0 V_t) hZ (own_w hw 135 rfl) (own_w hw 70 rfl) (by decide) (by decide)) (g := (mkF m 2 #[.val (.int j), .val (.ref t)] [(.ref t), (.int j)])) rfl (by rw [hml]; rfl) (argsL := [(.ref t)]) (rest := [(.int j)]) (lenOf pduk_0 rfl) rfl (by show 2 * 0 + _ ≤ _; exact Nat.le_of_eq rfl) (hb hby duk_2) (fun _ _ => ⟨rfl, e0, (by decide : 0 + 0 ≤ _), (by decide : 0 + 0 ≤ _)⟩)
  dsimp only [Pt.U, Pt.locs, Pt.cells, Pt.slots] at X1 l1 y1 z1 st1 hQ1
  subst y1 z1
  obtain ⟨rfl, Nc1, e1⟩ := hQ1
  have N1 : Fr n0 L1 := by rw [l1]; exact Fr.app N0 Nc1
  refine Go.st st1 ?_
  show Go p e below s _ _ _ (T1.setTop (mkF m 5 #[.val (.int j), .val (.ref t)] [(.int (N >>> ((1 : Int32) &&& 31))), (.int j)]))
  obtain ⟨_, _, ⟨T2, L2, k2, n2⟩, -, X2, ⟨Lc2, hQ2, l2, y2, z2⟩, st2⟩ := Jvm.LawKit.callS X1 hx (y := mN15) hown (mvT hZ (own_w hw 136 rfl)) (mvT hZ (own_w hw 93 rfl)) (mvT hZ (own_w hw 16 rfl)) (mvT hZ (own_w hw 94 rfl)) (by decide) (backOf (W := 0) (rmsk l Z a0 hw [] j (N >>> ((1 : Int32) &&& 31)) fm h0 n0 O0 hj0 hj1 SF rf) hZ (own_w hw 94 rfl) (own_w hw 16 rfl) (by decide) (by decide)) (g := (mkF m 5 #[.val (.int j), .val (.ref t)] [(.int (N >>> ((1 : Int32) &&& 31))), (.int j)])) rfl (by rw [hml]; rfl) (argsL := [(.int j), (.int (N >>> ((1 : Int32) &&& 31)))]) (rest := []) (lenOf pduk_1 rfl) rfl (by show 2 * 0 + _ ≤ _; exact Nat.le_of_eq rfl) (hb hby duk_5) (fun _ _ => ⟨rfl, e1, (by decide : 0 + 0 ≤ _), (by decide : 0 + 0 ≤ _)⟩)
  dsimp only [Pt.U, Pt.locs, Pt.cells, Pt.slots] at X2 l2 y2 z2 st2 hQ2
  subst y2 z2
  obtain ⟨rfl, Nc2, e2⟩ := hQ2
  have N2 : Fr n0 L2 := by rw [l2]; exact Fr.app N1 Nc2
  refine Go.st st2 ?_
  show Go p e below s _ _ _ (T2.setTop (mkF m 8 #[.val (.int j), .val (.ref t)] []))
  exact Go.ret X2 hlk (none) (fun _ => rfl) (by rw [e2]; exact ⟨rfl, N2, rfl⟩) (by decide) (by decide) (fun fs hr => X2.returnOut hx Bd.returns (hb hby duk_8) hr)
 obtain ⟨s2, o2, st2, r2⟩ := G
 exact ⟨s2, o2, castTop (efuk m j t) st2, r2⟩
theorem duc_0 : decode jdk_52_method_83_code 0 = .ok (.iload_n 1, 1) := by decide +kernel
theorem duc_1 : decode jdk_52_method_83_code 1 = .ok (.aload_n 0, 1) := by decide +kernel
theorem duc_2 : decode jdk_52_method_83_code 2 = .ok (.invokestatic 67, 3) := by decide +kernel
theorem duc_5 : decode jdk_52_method_83_code 5 = .ok (.aload_n 0, 1) := by decide +kernel
theorem duc_6 : decode jdk_52_method_83_code 6 = .ok (.iload_n 1, 1) := by decide +kernel
theorem duc_7 : decode jdk_52_method_83_code 7 = .ok (.invokestatic 71, 3) := by decide +kernel
theorem duc_10 : decode jdk_52_method_83_code 10 = .ok (.ireturn, 1) := by decide +kernel
theorem pduc_0 : parseMethodDescriptor "(I[B)V" = some ⟨[.int, (.array .byte)], none⟩ := by decide +kernel
theorem pnuc : plainName "java/lang/StringUTF16" = true := by first | (simp [plainName, overriddenIn]; done) | decide +kernel
theorem efuc (m : MethodId) (x0 : Addr) (x1 : Int32) : entryFrame m #[(.ref x0), (.int x1)] 2 = mkF m 0 #[.val (.ref x0), .val (.int x1)] [] := by first | (simp [entryFrame, mkF, argsToLocals, Value.category, maxLocals]; done) | rfl
def Quc (Z : State) (t : Addr) (kt : ClassId) (c : Int32) (N : Int32) (vs : List Value) (j : Int32) (jj : Int32) (i : Nat) (fm : Value) (h0 : Heap) (n0 : Nat) (v : Option Value) (h : Heap) (L : List Loc) : Prop := v = some (.int c) ∧ Fr n0 L ∧ h = h0
theorem rmuc (l : Launch) (Z : State) (a0 : Array Value) (hw : ∀ d ∈ tables_1, d.before a0 Z = true) (ws : List Jvm.Cond) (t : Addr) (kt : ClassId) (c : Int32) (N : Int32) (vs : List Value) (j : Int32) (jj : Int32) (i : Nat) (fm : Value) (h0 : Heap) (n0 : Nat) (O0 : Old Z n0 h0) (V_t : Arv Z h0 t kt .byte N vs (.int 0)) (hj : j <<< ((1 : Int32) &&& 31) = jj) (hi : jj.toNatClampNeg = i) (hi1 : (jj + (1 : Int32)).toNatClampNeg = i + 1) (q0 : ¬ jj < 0) (q1 : jj < N) (q2 : ¬ (jj + (1 : Int32)) < 0) (q3 : (jj + (1 : Int32)) < N) (hv0 : vs.getD i (.int 0) = (.int (StrChars.lo8 c))) (hv1 : vs.getD (i + 1) (.int 0) = (.int (StrChars.hi8 c))) (hcc : ¬ c < 0 ∧ ¬ (65535 : Int32) < c) (SA : Sta Z Z.heap "java/lang/StringUTF16" "$assertionsDisabled" "Z" (.int 1)) (SHI : Sta Z Z.heap "java/lang/StringUTF16" "HI_BYTE_SHIFT" "I" (.int 0)) (SLO : Sta Z Z.heap "java/lang/StringUTF16" "LO_BYTE_SHIFT" "I" (.int 8)) (hj0 : ¬ j < 0) (hj1 : j < (N >>> ((1 : Int32) &&& 31))) (SF : Sta Z Z.heap "jdk/internal/util/Preconditions" "SIOOBE_FORMATTER" "Ljava/util/function/BiFunction;" fm) (rf : fm.isRef = true) :
  MetFree l mN17 (head1 (Jvm.Cond.code mN17 jdk_52_method_83_code 2 (some .char) :: ws) ({ frames := 3, cells := 0, slots := 0, locals := 40 } : Room)) (fun A_ U_ => A_ = #[(.ref t), (.int j)] ∧ Z.Warmed39 U_.vm ∧ U_.heap = h0) (fun _ _ _ _ _ => True) (fun _ U o U' => ∃ v L, o = .returned v ∧ Quc Z t kt c N vs j jj i fm h0 n0 v U'.heap L ∧ FrameEnd U o U' L ({ frames := 3, cells := 0, slots := 0, locals := 40 } : Room).cells ({ frames := 3, cells := 0, slots := 0, locals := 40 } : Room).slots) := by
 refine MetFree.of_bodySF (plainFor_of_name pnuc) hisR ?_
 intro p e s m args below meth cd s₁ Bd hml0 hP hK
 obtain ⟨rfl, hZ, hh⟩ := hP
 have hx := Bd.exec
 have hby := Bd.bytes
 have hlk : meth.locks = false := BodyLoose.notSynchronized Bd
 have hml : cd.maxLocals = 2 := hml0
 have hown : s.vm.findClass "java/lang/StringUTF16" = some m.cls := findClass_of_methodNamed Bd.named
 have X0 : Stand p l e ({ frames := 3, cells := 0, slots := 0, locals := 40 } : Room) s m #[(.ref t), (.int j)] below meth cd s₁ [] 0 0 := Stand.of_body Bd
 have e0 : s₁.heap = h0 := by rw [← hh, Bd.state]; rfl
 have N0 := Fr.nil n0
 have G : Go p e below s 0 0 (Quc Z t kt c N vs j jj i fm h0 n0) (s₁.setTop (mkF m 0 #[.val (.ref t), .val (.int j)] [])) := by
  refine Go.s (XS.iloadN X0.here hx rfl (hb hby duc_0) rfl) ?_
  refine Go.s (XS.aloadN X0.here hx rfl (hb hby duc_1) rfl rfl) ?_
  obtain ⟨_, _, ⟨T1, L1, k1, n1⟩, -, X1, ⟨Lc1, hQ1, l1, y1, z1⟩, st1⟩ := Jvm.LawKit.callS X0 hx (y := mN16) hown (mvT hZ (own_w hw 130 rfl)) (mvT hZ (own_w hw 131 rfl)) (mvT hZ (own_w hw 70 rfl)) (mvT hZ (own_w hw 132 rfl)) (by decide) (backOf (W := 0) (rmuk l Z a0 hw [] j t kt N vs fm h0 n0 O0 V_t hj0 hj1 SF rf) hZ (own_w hw 132 rfl) (own_w hw 70 rfl) (by decide) (by decide)) (g := (mkF m 2 #[.val (.ref t), .val (.int j)] [(.ref t), (.int j)])) rfl (by rw [hml]; rfl) (argsL := [(.int j), (.ref t)]) (rest := []) (lenOf pduc_0 rfl) rfl (by show 2 * 0 + _ ≤ _; exact Nat.le_of_eq rfl) (hb hby duc_2) (fun _ _ => ⟨rfl, e0, (by decide : 0 + 0 ≤ _), (by decide : 0 + 0 ≤ _)⟩)
  dsimp only [Pt.U, Pt.locs, Pt.cells, Pt.slots] at X1 l1 y1 z1 st1 hQ1
  subst y1 z1
  obtain ⟨rfl, Nc1, e1⟩ := hQ1
  have N1 : Fr n0 L1 := by rw [l1]; exact Fr.app N0 Nc1
  refine Go.st st1 ?_
  show Go p e below s _ _ _ (T1.setTop (mkF m 5 #[.val (.ref t), .val (.int j)] []))
  refine Go.s (XS.aloadN X1.here hx rfl (hb hby duc_5) rfl rfl) ?_
  refine Go.s (XS.iloadN X1.here hx rfl (hb hby duc_6) rfl) ?_
  obtain ⟨_, _, ⟨T2, L2, k2, n2⟩, -, X2, ⟨Lc2, hQ2, l2, y2, z2⟩, st2⟩ := Jvm.LawKit.callS X1 hx (y := mN2) hown (mvT hZ (own_w hw 124 rfl)) (mvT hZ (own_w hw 125 rfl)) (mvT hZ (own_w hw 70 rfl)) (mvT hZ (own_w hw 126 rfl)) (by decide) (backOf (W := 0) (rmgc l Z a0 hw [] t kt c N vs j jj i h0 n0 O0 V_t hj hi hi1 q0 q1 q2 q3 hv0 hv1 hcc SA SHI SLO) hZ (own_w hw 126 rfl) (own_w hw 70 rfl) (by decide) (by decide)) (g := (mkF m 7 #[.val (.ref t), .val (.int j)] [(.int j), (.ref t)])) rfl (by rw [hml]; rfl) (argsL := [(.ref t), (.int j)]) (rest := []) (lenOf pdco1_2 rfl) rfl (by show 2 * 0 + _ ≤ _; exact Nat.le_of_eq rfl) (hb hby duc_7) (fun _ _ => ⟨rfl, e1, (by decide : 0 + 0 ≤ _), (by decide : 0 + 0 ≤ _)⟩)
  dsimp only [Pt.U, Pt.locs, Pt.cells, Pt.slots] at X2 l2 y2 z2 st2 hQ2
  subst y2 z2
  obtain ⟨rfl, Nc2, e2⟩ := hQ2
  have N2 : Fr n0 L2 := by rw [l2]; exact Fr.app N1 Nc2
  refine Go.st st2 ?_
  show Go p e below s _ _ _ (T2.setTop (mkF m 10 #[.val (.ref t), .val (.int j)] [(.int c)]))
  exact Go.ret X2 hlk (some (.int (nar .char c))) (fun h => by rw [Bd.returns] at h; cases h) (by rw [e2]; exact ⟨congrArg some (congrArg Value.int (own_n16 hcc)), N2, rfl⟩) (by decide) (by decide) (fun fs hr => retN X2 hx (t := .char) Bd.returns (by simp) (hb hby duc_10) hr)
 obtain ⟨s2, o2, st2, r2⟩ := G
 exact ⟨s2, o2, castTop (efuc m t j) st2, r2⟩
theorem dil0_0 : decode jdk_42_method_154_code 0 = .ok (.getstatic 38, 3) := by decide +kernel
theorem dil0_3 : decode jdk_42_method_154_code 3 = .ok (.ifCond .eq 14, 3) := by decide +kernel
theorem dil0_6 : decode jdk_42_method_154_code 6 = .ok (.aload_n 0, 1) := by decide +kernel
theorem dil0_7 : decode jdk_42_method_154_code 7 = .ok (.getfield 15, 3) := by decide +kernel
theorem dil0_10 : decode jdk_42_method_154_code 10 = .ok (.ifCond .ne 7, 3) := by decide +kernel
theorem dil0_13 : decode jdk_42_method_154_code 13 = .ok (.iconst 1, 1) := by decide +kernel
theorem dil0_14 : decode jdk_42_method_154_code 14 = .ok (.goto 4, 3) := by decide +kernel
theorem dil0_18 : decode jdk_42_method_154_code 18 = .ok (.ireturn, 1) := by decide +kernel
theorem pnil0 : plainName "java/lang/String" = true := by first | (simp [plainName, overriddenIn]; done) | decide +kernel
theorem efil0 (m : MethodId) (x0 : Addr) : entryFrame m #[(.ref x0)] 1 = mkF m 0 #[.val (.ref x0)] [] := by first | (simp [entryFrame, mkF, argsToLocals, Value.category, maxLocals]; done) | rfl
def Qil0 (Z : State) (x : Addr) (zc : Int32) (h0 : Heap) (n0 : Nat) (v : Option Value) (h : Heap) (L : List Loc) : Prop := v = some (.int 1) ∧ Fr n0 L ∧ h = h0
theorem rmil0 (l : Launch) (Z : State) (a0 : Array Value) (hw : ∀ d ∈ tables_1, d.before a0 Z = true) (ws : List Jvm.Cond) (x : Addr) (zc : Int32) (h0 : Heap) (n0 : Nat) (O0 : Old Z n0 h0) (F_x_coder : Fld Z h0 x "java/lang/String" "coder" "B" (.int 0)) (SC : Sta Z Z.heap "java/lang/String" "COMPACT_STRINGS" "Z" (.int zc)) (hcs : ¬ zc = 0) :
  MetFree l mN18 (head1 (Jvm.Cond.code mN18 jdk_42_method_154_code 1 (some .boolean) :: ws) ({ frames := 0, cells := 0, slots := 0, locals := 0 } : Room)) (fun A_ U_ => A_ = #[(.ref x)] ∧ Z.Warmed39 U_.vm ∧ U_.heap = h0) (fun _ _ _ _ _ => True) (fun _ U o U' => ∃ v L, o = .returned v ∧ Qil0 Z x zc h0 n0 v U'.heap L ∧ FrameEnd U o U' L ({ frames := 0, cells := 0, slots := 0, locals := 0 } : Room).cells ({ frames := 0, cells := 0, slots := 0, locals := 0 } : Room).slots) := by
 refine MetFree.of_bodySF (plainFor_of_name pnil0) hisR ?_
 intro p e s m args below meth cd s₁ Bd hml0 hP hK
 obtain ⟨rfl, hZ, hh⟩ := hP
 have hx := Bd.exec
 have hby := Bd.bytes
 have hlk : meth.locks = false := BodyLoose.notSynchronized Bd
 have hml : cd.maxLocals = 1 := hml0
 have hown : s.vm.findClass "java/lang/String" = some m.cls := findClass_of_methodNamed Bd.named
 have X0 : Stand p l e ({ frames := 0, cells := 0, slots := 0, locals := 0 } : Room) s m #[(.ref x)] below meth cd s₁ [] 0 0 := Stand.of_body Bd
 have e0 : s₁.heap = h0 := by rw [← hh, Bd.state]; rfl
 have N0 := Fr.nil n0
 have G : Go p e below s 0 0 (Qil0 Z x zc h0 n0) (s₁.setTop (mkF m 0 #[.val (.ref x)] [])) := by
  obtain ⟨T1, X1, e1, st1⟩ := getS X0 hx hZ hown (host := "") (own_w hw 52 rfl) Via.refl e0 (SC.ext O0.2) (g := (mkF m 0 #[.val (.ref x)] [])) rfl (hb hby dil0_0)
  refine Go.st st1 ?_
  show Go p e below s _ _ _ (T1.setTop (mkF m 3 #[.val (.ref x)] [(.int zc)]))
  refine Go.s (XS.ifNo X1.here hx rfl (hb hby dil0_3) rfl (XT.i0_eq_f hcs)) ?_
  show Go p e below s _ _ _ (T1.setTop (mkF m 6 #[.val (.ref x)] []))
  refine Go.s (XS.aloadN X1.here hx rfl (hb hby dil0_6) rfl rfl) ?_
  obtain ⟨T2, X2, e2, st2⟩ := getF X1 hx hZ hown (host := "") (Or.inl (own_w hw 34 rfl)) Via.refl e1 F_x_coder (g := (mkF m 7 #[.val (.ref x)] [(.ref x)])) rfl rfl (hb hby dil0_7)
  refine Go.st st2 ?_
  show Go p e below s _ _ _ (T2.setTop (mkF m 10 #[.val (.ref x)] [(.int 0)]))
  refine Go.s (XS.ifNo X2.here hx rfl (hb hby dil0_10) rfl (by decide)) ?_
  show Go p e below s _ _ _ (T2.setTop (mkF m 13 #[.val (.ref x)] []))
  refine Go.s (XS.iconst X2.here hx rfl (hb hby dil0_13)) ?_
  refine Go.s (XS.goto X2.here hx rfl (pc0 := 14) (pc' := 18) rfl (hb hby dil0_14) (by decide) (by decide)) ?_
  exact Go.ret X2 hlk (some (.int (nar .boolean (1 : Int32)))) (fun h => by rw [Bd.returns] at h; cases h) (by rw [e2]; exact ⟨rfl, N0, rfl⟩) (by decide) (by decide) (fun fs hr => retN X2 hx (t := .boolean) Bd.returns (by simp) (hb hby dil0_18) hr)
 obtain ⟨s2, o2, st2, r2⟩ := G
 exact ⟨s2, o2, castTop (efil0 m x) st2, r2⟩
theorem dil1_17 : decode jdk_42_method_154_code 17 = .ok (.iconst 0, 1) := by decide +kernel
theorem pnil1 : plainName "java/lang/String" = true := by first | (simp [plainName, overriddenIn]; done) | decide +kernel
theorem efil1 (m : MethodId) (x0 : Addr) : entryFrame m #[(.ref x0)] 1 = mkF m 0 #[.val (.ref x0)] [] := by first | (simp [entryFrame, mkF, argsToLocals, Value.category, maxLocals]; done) | rfl
def Qil1 (Z : State) (x : Addr) (zc : Int32) (h0 : Heap) (n0 : Nat) (v : Option Value) (h : Heap) (L : List Loc) : Prop := v = some (.int 0) ∧ Fr n0 L ∧ h = h0
theorem rmil1 (l : Launch) (Z : State) (a0 : Array Value) (hw : ∀ d ∈ tables_1, d.before a0 Z = true) (ws : List Jvm.Cond) (x : Addr) (zc : Int32) (h0 : Heap) (n0 : Nat) (O0 : Old Z n0 h0) (F_x_coder : Fld Z h0 x "java/lang/String" "coder" "B" (.int 1)) (SC : Sta Z Z.heap "java/lang/String" "COMPACT_STRINGS" "Z" (.int zc)) (hcs : ¬ zc = 0) :
  MetFree l mN18 (head1 (Jvm.Cond.code mN18 jdk_42_method_154_code 1 (some .boolean) :: ws) ({ frames := 0, cells := 0, slots := 0, locals := 0 } : Room)) (fun A_ U_ => A_ = #[(.ref x)] ∧ Z.Warmed39 U_.vm ∧ U_.heap = h0) (fun _ _ _ _ _ => True) (fun _ U o U' => ∃ v L, o = .returned v ∧ Qil1 Z x zc h0 n0 v U'.heap L ∧ FrameEnd U o U' L ({ frames := 0, cells := 0, slots := 0, locals := 0 } : Room).cells ({ frames := 0, cells := 0, slots := 0, locals := 0 } : Room).slots) := by
 refine MetFree.of_bodySF (plainFor_of_name pnil1) hisR ?_
 intro p e s m args below meth cd s₁ Bd hml0 hP hK
 obtain ⟨rfl, hZ, hh⟩ := hP
 have hx := Bd.exec
 have hby := Bd.bytes
 have hlk : meth.locks = false := BodyLoose.notSynchronized Bd
 have hml : cd.maxLocals = 1 := hml0
 have hown : s.vm.findClass "java/lang/String" = some m.cls := findClass_of_methodNamed Bd.named
 have X0 : Stand p l e ({ frames := 0, cells := 0, slots := 0, locals := 0 } : Room) s m #[(.ref x)] below meth cd s₁ [] 0 0 := Stand.of_body Bd
 have e0 : s₁.heap = h0 := by rw [← hh, Bd.state]; rfl
 have N0 := Fr.nil n0
 have G : Go p e below s 0 0 (Qil1 Z x zc h0 n0) (s₁.setTop (mkF m 0 #[.val (.ref x)] [])) := by
  obtain ⟨T1, X1, e1, st1⟩ := getS X0 hx hZ hown (host := "") (own_w hw 52 rfl) Via.refl e0 (SC.ext O0.2) (g := (mkF m 0 #[.val (.ref x)] [])) rfl (hb hby dil0_0)
  refine Go.st st1 ?_
  show Go p e below s _ _ _ (T1.setTop (mkF m 3 #[.val (.ref x)] [(.int zc)]))
  refine Go.s (XS.ifNo X1.here hx rfl (hb hby dil0_3) rfl (XT.i0_eq_f hcs)) ?_
  show Go p e below s _ _ _ (T1.setTop (mkF m 6 #[.val (.ref x)] []))
  refine Go.s (XS.aloadN X1.here hx rfl (hb hby dil0_6) rfl rfl) ?_
  obtain ⟨T2, X2, e2, st2⟩ := getF X1 hx hZ hown (host := "") (Or.inl (own_w hw 34 rfl)) Via.refl e1 F_x_coder (g := (mkF m 7 #[.val (.ref x)] [(.ref x)])) rfl rfl (hb hby dil0_7)
  refine Go.st st2 ?_
  show Go p e below s _ _ _ (T2.setTop (mkF m 10 #[.val (.ref x)] [(.int 1)]))
  refine Go.s (XS.ifYes X2.here hx rfl (pc0 := 10) (pc' := 17) rfl (hb hby dil0_10) rfl (by decide) (by decide) (by decide)) ?_
  show Go p e below s _ _ _ (T2.setTop (mkF m 17 #[.val (.ref x)] []))
  refine Go.s (XS.iconst X2.here hx rfl (hb hby dil1_17)) ?_
  exact Go.ret X2 hlk (some (.int (nar .boolean (0 : Int32)))) (fun h => by rw [Bd.returns] at h; cases h) (by rw [e2]; exact ⟨rfl, N0, rfl⟩) (by decide) (by decide) (fun fs hr => retN X2 hx (t := .boolean) Bd.returns (by simp) (hb hby dil0_18) hr)
 obtain ⟨s2, o2, st2, r2⟩ := G
 exact ⟨s2, o2, castTop (efil1 m x) st2, r2⟩
theorem dch_0 : decode jdk_42_method_56_code 0 = .ok (.aload_n 0, 1) := by decide +kernel
theorem dch_1 : decode jdk_42_method_56_code 1 = .ok (.invokevirtual 492, 3) := by decide +kernel
theorem dch_4 : decode jdk_42_method_56_code 4 = .ok (.ifCond .eq 12, 3) := by decide +kernel
theorem dch_16 : decode jdk_42_method_56_code 16 = .ok (.aload_n 0, 1) := by decide +kernel
theorem dch_17 : decode jdk_42_method_56_code 17 = .ok (.getfield 9, 3) := by decide +kernel
theorem dch_20 : decode jdk_42_method_56_code 20 = .ok (.iload_n 1, 1) := by decide +kernel
theorem dch_21 : decode jdk_42_method_56_code 21 = .ok (.invokestatic 498, 3) := by decide +kernel
theorem dch_24 : decode jdk_42_method_56_code 24 = .ok (.ireturn, 1) := by decide +kernel
theorem pdch_0 : parseMethodDescriptor "()Z" = some ⟨[], some .boolean⟩ := by decide +kernel
theorem pnch : plainName "java/lang/String" = true := by first | (simp [plainName, overriddenIn]; done) | decide +kernel
theorem efch (m : MethodId) (x0 : Addr) (x1 : Int32) : entryFrame m #[(.ref x0), (.int x1)] 2 = mkF m 0 #[.val (.ref x0), .val (.int x1)] [] := by first | (simp [entryFrame, mkF, argsToLocals, Value.category, maxLocals]; done) | rfl
def Qch (Z : State) (x : Addr) (t : Addr) (kt : ClassId) (c : Int32) (N : Int32) (vs : List Value) (j : Int32) (jj : Int32) (i : Nat) (fm : Value) (zc : Int32) (h0 : Heap) (n0 : Nat) (v : Option Value) (h : Heap) (L : List Loc) : Prop := v = some (.int c) ∧ Fr n0 L ∧ h = h0
theorem rmch (l : Launch) (Z : State) (a0 : Array Value) (hw : ∀ d ∈ tables_1, d.before a0 Z = true) (ws : List Jvm.Cond) (x : Addr) (t : Addr) (kt : ClassId) (c : Int32) (N : Int32) (vs : List Value) (j : Int32) (jj : Int32) (i : Nat) (fm : Value) (zc : Int32) (h0 : Heap) (n0 : Nat) (O0 : Old Z n0 h0) (E_x : Exa Z h0 x "java/lang/String") (F_x_coder : Fld Z h0 x "java/lang/String" "coder" "B" (.int 1)) (F_x_value : Fld Z h0 x "java/lang/String" "value" "[B" (.ref t)) (V_t : Arv Z h0 t kt .byte N vs (.int 0)) (hj : j <<< ((1 : Int32) &&& 31) = jj) (hi : jj.toNatClampNeg = i) (hi1 : (jj + (1 : Int32)).toNatClampNeg = i + 1) (q0 : ¬ jj < 0) (q1 : jj < N) (q2 : ¬ (jj + (1 : Int32)) < 0) (q3 : (jj + (1 : Int32)) < N) (hv0 : vs.getD i (.int 0) = (.int (StrChars.lo8 c))) (hv1 : vs.getD (i + 1) (.int 0) = (.int (StrChars.hi8 c))) (hcc : ¬ c < 0 ∧ ¬ (65535 : Int32) < c) (SA : Sta Z Z.heap "java/lang/StringUTF16" "$assertionsDisabled" "Z" (.int 1)) (SHI : Sta Z Z.heap "java/lang/StringUTF16" "HI_BYTE_SHIFT" "I" (.int 0)) (SLO : Sta Z Z.heap "java/lang/StringUTF16" "LO_BYTE_SHIFT" "I" (.int 8)) (hj0 : ¬ j < 0) (hj1 : j < (N >>> ((1 : Int32) &&& 31))) (SF : Sta Z Z.heap "jdk/internal/util/Preconditions" "SIOOBE_FORMATTER" "Ljava/util/function/BiFunction;" fm) (rf : fm.isRef = true) (SC : Sta Z Z.heap "java/lang/String" "COMPACT_STRINGS" "Z" (.int zc)) (hcs : ¬ zc = 0) :
  MetFree l mN19 (head1 (Jvm.Cond.code mN19 jdk_42_method_56_code 2 (some .char) :: ws) ({ frames := 4, cells := 0, slots := 0, locals := 53 } : Room)) (fun A_ U_ => A_ = #[(.ref x), (.int j)] ∧ Z.Warmed39 U_.vm ∧ U_.heap = h0) (fun _ _ _ _ _ => True) (fun _ U o U' => ∃ v L, o = .returned v ∧ Qch Z x t kt c N vs j jj i fm zc h0 n0 v U'.heap L ∧ FrameEnd U o U' L ({ frames := 4, cells := 0, slots := 0, locals := 53 } : Room).cells ({ frames := 4, cells := 0, slots := 0, locals := 53 } : Room).slots) := by
 refine MetFree.of_bodySF (plainFor_of_name pnch) hisR ?_
 intro p e s m args below meth cd s₁ Bd hml0 hP hK
 obtain ⟨rfl, hZ, hh⟩ := hP
 have hx := Bd.exec
 have hby := Bd.bytes
 have hlk : meth.locks = false := BodyLoose.notSynchronized Bd
 have hml : cd.maxLocals = 2 := hml0
 have hown : s.vm.findClass "java/lang/String" = some m.cls := findClass_of_methodNamed Bd.named
 have X0 : Stand p l e ({ frames := 4, cells := 0, slots := 0, locals := 53 } : Room) s m #[(.ref x), (.int j)] below meth cd s₁ [] 0 0 := Stand.of_body Bd
 have e0 : s₁.heap = h0 := by rw [← hh, Bd.state]; rfl
 have N0 := Fr.nil n0
 have G : Go p e below s 0 0 (Qch Z x t kt c N vs j jj i fm zc h0 n0) (s₁.setTop (mkF m 0 #[.val (.ref x), .val (.int j)] [])) := by
  refine Go.s (XS.aloadN X0.here hx rfl (hb hby dch_0) rfl rfl) ?_
  obtain ⟨cq1, kq1, qa1, qb1, qc1⟩ := isOf hZ e0 E_x
  obtain ⟨_, _, ⟨T1, L1, k1, n1⟩, -, X1, ⟨Lc1, hQ1, l1, y1, z1⟩, st1⟩ := X0.virtualBack hx (y := mN18) (z := mN18) hown (mvT hZ (own_w hw 83 rfl)) (mvT hZ (own_w hw 84 rfl)) (notFace_of_selects (args := #[]) (mvT hZ (own_w hw 86 rfl))) (mvT hZ (own_w hw 86 rfl)) (mvT hZ (own_w hw 85 rfl)) (by decide) (backOf (W := 0) (rmil1 l Z a0 hw [] x zc h0 n0 O0 F_x_coder SC hcs) hZ (own_w hw 87 rfl) (own_w hw 16 rfl) (by decide) (by decide)) qa1 qc1 (g := (mkF m 1 #[.val (.ref x), .val (.int j)] [(.ref x)])) rfl (by rw [hml]; rfl) (Steps.refl _) (argsL := []) (rest := []) (lenOf pdch_0 rfl) rfl (by show 2 * 0 + _ ≤ _; exact Nat.le_of_eq rfl) (hb hby dch_1) (fun _ _ => ⟨rfl, e0, (by decide : 0 + 0 ≤ _), (by decide : 0 + 0 ≤ _)⟩)
  dsimp only [Pt.U, Pt.locs, Pt.cells, Pt.slots] at X1 l1 y1 z1 st1 hQ1
  subst y1 z1
  obtain ⟨rfl, Nc1, e1⟩ := hQ1
  have N1 : Fr n0 L1 := by rw [l1]; exact Fr.app N0 Nc1
  refine Go.tr st1 ?_
  show Go p e below s _ _ _ (T1.setTop (mkF m 4 #[.val (.ref x), .val (.int j)] [(.int 0)]))
  refine Go.s (XS.ifYes X1.here hx rfl (pc0 := 4) (pc' := 16) rfl (hb hby dch_4) rfl (by decide) (by decide) (by decide)) ?_
  show Go p e below s _ _ _ (T1.setTop (mkF m 16 #[.val (.ref x), .val (.int j)] []))
  refine Go.s (XS.aloadN X1.here hx rfl (hb hby dch_16) rfl rfl) ?_
  obtain ⟨T2, X2, e2, st2⟩ := getF X1 hx hZ hown (host := "") (Or.inl (own_w hw 33 rfl)) Via.refl e1 F_x_value (g := (mkF m 17 #[.val (.ref x), .val (.int j)] [(.ref x)])) rfl rfl (hb hby dch_17)
  refine Go.st st2 ?_
  show Go p e below s _ _ _ (T2.setTop (mkF m 20 #[.val (.ref x), .val (.int j)] [(.ref t)]))
  refine Go.s (XS.iloadN X2.here hx rfl (hb hby dch_20) rfl) ?_
  obtain ⟨_, _, ⟨T3, L3, k3, n3⟩, -, X3, ⟨Lc3, hQ3, l3, y3, z3⟩, st3⟩ := Jvm.LawKit.callS X2 hx (y := mN17) hown (mvT hZ (own_w hw 127 rfl)) (mvT hZ (own_w hw 128 rfl)) (mvT hZ (own_w hw 70 rfl)) (mvT hZ (own_w hw 129 rfl)) (by decide) (backOf (W := 0) (rmuc l Z a0 hw [] t kt c N vs j jj i fm h0 n0 O0 V_t hj hi hi1 q0 q1 q2 q3 hv0 hv1 hcc SA SHI SLO hj0 hj1 SF rf) hZ (own_w hw 129 rfl) (own_w hw 70 rfl) (by decide) (by decide)) (g := (mkF m 21 #[.val (.ref x), .val (.int j)] [(.int j), (.ref t)])) rfl (by rw [hml]; rfl) (argsL := [(.ref t), (.int j)]) (rest := []) (lenOf pdco1_2 rfl) rfl (by show 2 * 0 + _ ≤ _; exact Nat.le_of_eq rfl) (hb hby dch_21) (fun _ _ => ⟨rfl, e2, (by decide : 0 + 0 ≤ _), (by decide : 0 + 0 ≤ _)⟩)
  dsimp only [Pt.U, Pt.locs, Pt.cells, Pt.slots] at X3 l3 y3 z3 st3 hQ3
  subst y3 z3
  obtain ⟨rfl, Nc3, e3⟩ := hQ3
  have N3 : Fr n0 L3 := by rw [l3]; exact Fr.app N1 Nc3
  refine Go.st st3 ?_
  show Go p e below s _ _ _ (T3.setTop (mkF m 24 #[.val (.ref x), .val (.int j)] [(.int c)]))
  exact Go.ret X3 hlk (some (.int (nar .char c))) (fun h => by rw [Bd.returns] at h; cases h) (by rw [e3]; exact ⟨congrArg some (congrArg Value.int (own_n16 hcc)), N3, rfl⟩) (by decide) (by decide) (fun fs hr => retN X3 hx (t := .char) Bd.returns (by simp) (hb hby dch_24) hr)
 obtain ⟨s2, o2, st2, r2⟩ := G
 exact ⟨s2, o2, castTop (efch m x j) st2, r2⟩
theorem dhs_0 : decode jdk_89_method_14_code 0 = .ok (.iload_n 0, 1) := by decide +kernel
theorem dhs_1 : decode jdk_89_method_14_code 1 = .ok (.ldc 75, 2) := by decide +kernel
theorem dhs_3 : decode jdk_89_method_14_code 3 = .ok (.if_icmp .lt 13, 3) := by decide +kernel
theorem dhs_6 : decode jdk_89_method_14_code 6 = .ok (.iload_n 0, 1) := by decide +kernel
theorem dhs_7 : decode jdk_89_method_14_code 7 = .ok (.ldc 76, 2) := by decide +kernel
theorem dhs_9 : decode jdk_89_method_14_code 9 = .ok (.if_icmp .ge 7, 3) := by decide +kernel
theorem dhs_12 : decode jdk_89_method_14_code 12 = .ok (.iconst 1, 1) := by decide +kernel
theorem dhs_13 : decode jdk_89_method_14_code 13 = .ok (.goto 4, 3) := by decide +kernel
theorem dhs_16 : decode jdk_89_method_14_code 16 = .ok (.iconst 0, 1) := by decide +kernel
theorem dhs_17 : decode jdk_89_method_14_code 17 = .ok (.ireturn, 1) := by decide +kernel
theorem pnhs : plainName "java/lang/Character" = true := by first | (simp [plainName, overriddenIn]; done) | decide +kernel
theorem efhs (m : MethodId) (x0 : Int32) : entryFrame m #[(.int x0)] 1 = mkF m 0 #[.val (.int x0)] [] := by first | (simp [entryFrame, mkF, argsToLocals, Value.category, maxLocals]; done) | rfl
def fHS (p0 : Int32) : Int32 := (if p0 < (55296 : Int32) then (0 : Int32) else (if p0 < (56320 : Int32) then (1 : Int32) else (0 : Int32)))
def Qhs (Z : State) (p0 : Int32) (h0 : Heap) (n0 : Nat) (v : Option Value) (h : Heap) (L : List Loc) : Prop := v = some (.int (fHS p0)) ∧ Fr n0 L ∧ h = h0
theorem rmhs (l : Launch) (Z : State) (a0 : Array Value) (hw : ∀ d ∈ tables_1, d.before a0 Z = true) (ws : List Jvm.Cond) (p0 : Int32) (h0 : Heap) (n0 : Nat) (O0 : Old Z n0 h0)  :
  MetFree l mN20 (head1 (Jvm.Cond.code mN20 jdk_89_method_14_code 1 (some .boolean) :: ws) ({ frames := 0, cells := 0, slots := 0, locals := 0 } : Room)) (fun A_ U_ => A_ = #[(.int p0)] ∧ Z.Warmed39 U_.vm ∧ U_.heap = h0) (fun _ _ _ _ _ => True) (fun _ U o U' => ∃ v L, o = .returned v ∧ Qhs Z p0 h0 n0 v U'.heap L ∧ FrameEnd U o U' L ({ frames := 0, cells := 0, slots := 0, locals := 0 } : Room).cells ({ frames := 0, cells := 0, slots := 0, locals := 0 } : Room).slots) := by
 refine MetFree.of_bodySF (plainFor_of_name pnhs) hisR ?_
 intro p e s m args below meth cd s₁ Bd hml0 hP hK
 obtain ⟨rfl, hZ, hh⟩ := hP
 have hx := Bd.exec
 have hby := Bd.bytes
 have hlk : meth.locks = false := BodyLoose.notSynchronized Bd
 have hml : cd.maxLocals = 1 := hml0
 have hown : s.vm.findClass "java/lang/Character" = some m.cls := findClass_of_methodNamed Bd.named
 have X0 : Stand p l e ({ frames := 0, cells := 0, slots := 0, locals := 0 } : Room) s m #[(.int p0)] below meth cd s₁ [] 0 0 := Stand.of_body Bd
 have e0 : s₁.heap = h0 := by rw [← hh, Bd.state]; rfl
 have N0 := Fr.nil n0
 have G : Go p e below s 0 0 (Qhs Z p0 h0 n0) (s₁.setTop (mkF m 0 #[.val (.int p0)] [])) := by
  refine Go.s (XS.iloadN X0.here hx rfl (hb hby dhs_0) rfl) ?_
  refine Go.s (X0.ldcI hx hown (mvT hZ (own_w hw 147 rfl)) rfl (hb hby dhs_1)) ?_
  show Go p e below s _ _ _ (s₁.setTop (mkF m 3 #[.val (.int p0)] [(.int 55296), (.int p0)]))
  by_cases c3_1 : p0 < (55296 : Int32)
  · refine Go.s (XS.icmpYes X0.here hx rfl (pc0 := 3) (pc' := 16) rfl (hb hby dhs_3) rfl (XT.ii_lt_t c3_1) (by decide) (by decide)) ?_
    show Go p e below s _ _ _ (s₁.setTop (mkF m 16 #[.val (.int p0)] []))
    refine Go.s (XS.iconst X0.here hx rfl (hb hby dhs_16)) ?_
    exact Go.ret X0 hlk (some (.int (nar .boolean (0 : Int32)))) (fun h => by rw [Bd.returns] at h; cases h) (by rw [e0]; exact ⟨own_res (z' := (0 : Int32)) (by unfold fHS; rw [if_pos c3_1]) rfl, N0, rfl⟩) (by decide) (by decide) (fun fs hr => retN X0 hx (t := .boolean) Bd.returns (by simp) (hb hby dhs_17) hr)
  · refine Go.s (XS.icmpNo X0.here hx rfl (hb hby dhs_3) rfl (XT.ii_lt_f c3_1)) ?_
    show Go p e below s _ _ _ (s₁.setTop (mkF m 6 #[.val (.int p0)] []))
    refine Go.s (XS.iloadN X0.here hx rfl (hb hby dhs_6) rfl) ?_
    refine Go.s (X0.ldcI hx hown (mvT hZ (own_w hw 148 rfl)) rfl (hb hby dhs_7)) ?_
    show Go p e below s _ _ _ (s₁.setTop (mkF m 9 #[.val (.int p0)] [(.int 56320), (.int p0)]))
    by_cases c9_2 : p0 < (56320 : Int32)
    · refine Go.s (XS.icmpNo X0.here hx rfl (hb hby dhs_9) rfl (XT.ii_ge_f c9_2)) ?_
      show Go p e below s _ _ _ (s₁.setTop (mkF m 12 #[.val (.int p0)] []))
      refine Go.s (XS.iconst X0.here hx rfl (hb hby dhs_12)) ?_
      refine Go.s (XS.goto X0.here hx rfl (pc0 := 13) (pc' := 17) rfl (hb hby dhs_13) (by decide) (by decide)) ?_
      exact Go.ret X0 hlk (some (.int (nar .boolean (1 : Int32)))) (fun h => by rw [Bd.returns] at h; cases h) (by rw [e0]; exact ⟨own_res (z' := (1 : Int32)) (by unfold fHS; rw [if_neg c3_1, if_pos c9_2]) rfl, N0, rfl⟩) (by decide) (by decide) (fun fs hr => retN X0 hx (t := .boolean) Bd.returns (by simp) (hb hby dhs_17) hr)
    · refine Go.s (XS.icmpYes X0.here hx rfl (pc0 := 9) (pc' := 16) rfl (hb hby dhs_9) rfl (XT.ii_ge_t c9_2) (by decide) (by decide)) ?_
      show Go p e below s _ _ _ (s₁.setTop (mkF m 16 #[.val (.int p0)] []))
      refine Go.s (XS.iconst X0.here hx rfl (hb hby dhs_16)) ?_
      exact Go.ret X0 hlk (some (.int (nar .boolean (0 : Int32)))) (fun h => by rw [Bd.returns] at h; cases h) (by rw [e0]; exact ⟨own_res (z' := (0 : Int32)) (by unfold fHS; rw [if_neg c3_1, if_neg c9_2]) rfl, N0, rfl⟩) (by decide) (by decide) (fun fs hr => retN X0 hx (t := .boolean) Bd.returns (by simp) (hb hby dhs_17) hr)
 obtain ⟨s2, o2, st2, r2⟩ := G
 exact ⟨s2, o2, castTop (efhs m p0) st2, r2⟩
theorem dls_0 : decode jdk_89_method_15_code 0 = .ok (.iload_n 0, 1) := by decide +kernel
theorem dls_1 : decode jdk_89_method_15_code 1 = .ok (.ldc 76, 2) := by decide +kernel
theorem dls_3 : decode jdk_89_method_15_code 3 = .ok (.if_icmp .lt 13, 3) := by decide +kernel
theorem dls_6 : decode jdk_89_method_15_code 6 = .ok (.iload_n 0, 1) := by decide +kernel
theorem dls_7 : decode jdk_89_method_15_code 7 = .ok (.ldc 77, 2) := by decide +kernel
theorem dls_9 : decode jdk_89_method_15_code 9 = .ok (.if_icmp .ge 7, 3) := by decide +kernel
theorem dls_12 : decode jdk_89_method_15_code 12 = .ok (.iconst 1, 1) := by decide +kernel
theorem dls_13 : decode jdk_89_method_15_code 13 = .ok (.goto 4, 3) := by decide +kernel
theorem dls_16 : decode jdk_89_method_15_code 16 = .ok (.iconst 0, 1) := by decide +kernel
theorem dls_17 : decode jdk_89_method_15_code 17 = .ok (.ireturn, 1) := by decide +kernel
theorem pnls : plainName "java/lang/Character" = true := by first | (simp [plainName, overriddenIn]; done) | decide +kernel
theorem efls (m : MethodId) (x0 : Int32) : entryFrame m #[(.int x0)] 1 = mkF m 0 #[.val (.int x0)] [] := by first | (simp [entryFrame, mkF, argsToLocals, Value.category, maxLocals]; done) | rfl
def fLS (p0 : Int32) : Int32 := (if p0 < (56320 : Int32) then (0 : Int32) else (if p0 < (57344 : Int32) then (1 : Int32) else (0 : Int32)))
def Qls (Z : State) (p0 : Int32) (h0 : Heap) (n0 : Nat) (v : Option Value) (h : Heap) (L : List Loc) : Prop := v = some (.int (fLS p0)) ∧ Fr n0 L ∧ h = h0
theorem rmls (l : Launch) (Z : State) (a0 : Array Value) (hw : ∀ d ∈ tables_1, d.before a0 Z = true) (ws : List Jvm.Cond) (p0 : Int32) (h0 : Heap) (n0 : Nat) (O0 : Old Z n0 h0)  :
  MetFree l mN21 (head1 (Jvm.Cond.code mN21 jdk_89_method_15_code 1 (some .boolean) :: ws) ({ frames := 0, cells := 0, slots := 0, locals := 0 } : Room)) (fun A_ U_ => A_ = #[(.int p0)] ∧ Z.Warmed39 U_.vm ∧ U_.heap = h0) (fun _ _ _ _ _ => True) (fun _ U o U' => ∃ v L, o = .returned v ∧ Qls Z p0 h0 n0 v U'.heap L ∧ FrameEnd U o U' L ({ frames := 0, cells := 0, slots := 0, locals := 0 } : Room).cells ({ frames := 0, cells := 0, slots := 0, locals := 0 } : Room).slots) := by
 refine MetFree.of_bodySF (plainFor_of_name pnls) hisR ?_
 intro p e s m args below meth cd s₁ Bd hml0 hP hK
 obtain ⟨rfl, hZ, hh⟩ := hP
 have hx := Bd.exec
 have hby := Bd.bytes
 have hlk : meth.locks = false := BodyLoose.notSynchronized Bd
 have hml : cd.maxLocals = 1 := hml0
 have hown : s.vm.findClass "java/lang/Character" = some m.cls := findClass_of_methodNamed Bd.named
 have X0 : Stand p l e ({ frames := 0, cells := 0, slots := 0, locals := 0 } : Room) s m #[(.int p0)] below meth cd s₁ [] 0 0 := Stand.of_body Bd
 have e0 : s₁.heap = h0 := by rw [← hh, Bd.state]; rfl
 have N0 := Fr.nil n0
 have G : Go p e below s 0 0 (Qls Z p0 h0 n0) (s₁.setTop (mkF m 0 #[.val (.int p0)] [])) := by
  refine Go.s (XS.iloadN X0.here hx rfl (hb hby dls_0) rfl) ?_
  refine Go.s (X0.ldcI hx hown (mvT hZ (own_w hw 148 rfl)) rfl (hb hby dls_1)) ?_
  show Go p e below s _ _ _ (s₁.setTop (mkF m 3 #[.val (.int p0)] [(.int 56320), (.int p0)]))
  by_cases c3_1 : p0 < (56320 : Int32)
  · refine Go.s (XS.icmpYes X0.here hx rfl (pc0 := 3) (pc' := 16) rfl (hb hby dls_3) rfl (XT.ii_lt_t c3_1) (by decide) (by decide)) ?_
    show Go p e below s _ _ _ (s₁.setTop (mkF m 16 #[.val (.int p0)] []))
    refine Go.s (XS.iconst X0.here hx rfl (hb hby dls_16)) ?_
    exact Go.ret X0 hlk (some (.int (nar .boolean (0 : Int32)))) (fun h => by rw [Bd.returns] at h; cases h) (by rw [e0]; exact ⟨own_res (z' := (0 : Int32)) (by unfold fLS; rw [if_pos c3_1]) rfl, N0, rfl⟩) (by decide) (by decide) (fun fs hr => retN X0 hx (t := .boolean) Bd.returns (by simp) (hb hby dls_17) hr)
  · refine Go.s (XS.icmpNo X0.here hx rfl (hb hby dls_3) rfl (XT.ii_lt_f c3_1)) ?_
    show Go p e below s _ _ _ (s₁.setTop (mkF m 6 #[.val (.int p0)] []))
    refine Go.s (XS.iloadN X0.here hx rfl (hb hby dls_6) rfl) ?_
    refine Go.s (X0.ldcI hx hown (mvT hZ (own_w hw 152 rfl)) rfl (hb hby dls_7)) ?_
    show Go p e below s _ _ _ (s₁.setTop (mkF m 9 #[.val (.int p0)] [(.int 57344), (.int p0)]))
    by_cases c9_2 : p0 < (57344 : Int32)
    · refine Go.s (XS.icmpNo X0.here hx rfl (hb hby dls_9) rfl (XT.ii_ge_f c9_2)) ?_
      show Go p e below s _ _ _ (s₁.setTop (mkF m 12 #[.val (.int p0)] []))
      refine Go.s (XS.iconst X0.here hx rfl (hb hby dls_12)) ?_
      refine Go.s (XS.goto X0.here hx rfl (pc0 := 13) (pc' := 17) rfl (hb hby dls_13) (by decide) (by decide)) ?_
      exact Go.ret X0 hlk (some (.int (nar .boolean (1 : Int32)))) (fun h => by rw [Bd.returns] at h; cases h) (by rw [e0]; exact ⟨own_res (z' := (1 : Int32)) (by unfold fLS; rw [if_neg c3_1, if_pos c9_2]) rfl, N0, rfl⟩) (by decide) (by decide) (fun fs hr => retN X0 hx (t := .boolean) Bd.returns (by simp) (hb hby dls_17) hr)
    · refine Go.s (XS.icmpYes X0.here hx rfl (pc0 := 9) (pc' := 16) rfl (hb hby dls_9) rfl (XT.ii_ge_t c9_2) (by decide) (by decide)) ?_
      show Go p e below s _ _ _ (s₁.setTop (mkF m 16 #[.val (.int p0)] []))
      refine Go.s (XS.iconst X0.here hx rfl (hb hby dls_16)) ?_
      exact Go.ret X0 hlk (some (.int (nar .boolean (0 : Int32)))) (fun h => by rw [Bd.returns] at h; cases h) (by rw [e0]; exact ⟨own_res (z' := (0 : Int32)) (by unfold fLS; rw [if_neg c3_1, if_neg c9_2]) rfl, N0, rfl⟩) (by decide) (by decide) (fun fs hr => retN X0 hx (t := .boolean) Bd.returns (by simp) (hb hby dls_17) hr)
 obtain ⟨s2, o2, st2, r2⟩ := G
 exact ⟨s2, o2, castTop (efls m p0) st2, r2⟩
theorem dtc_0 : decode jdk_89_method_19_code 0 = .ok (.iload_n 0, 1) := by decide +kernel
theorem dtc_1 : decode jdk_89_method_19_code 1 = .ok (.bipush 10, 2) := by decide +kernel
theorem dtc_3 : decode jdk_89_method_19_code 3 = .ok (.ishl, 1) := by decide +kernel
theorem dtc_4 : decode jdk_89_method_19_code 4 = .ok (.iload_n 1, 1) := by decide +kernel
theorem dtc_5 : decode jdk_89_method_19_code 5 = .ok (.iadd, 1) := by decide +kernel
theorem dtc_6 : decode jdk_89_method_19_code 6 = .ok (.ldc 85, 2) := by decide +kernel
theorem dtc_8 : decode jdk_89_method_19_code 8 = .ok (.iadd, 1) := by decide +kernel
theorem dtc_9 : decode jdk_89_method_19_code 9 = .ok (.ireturn, 1) := by decide +kernel
theorem pntc : plainName "java/lang/Character" = true := by first | (simp [plainName, overriddenIn]; done) | decide +kernel
theorem eftc (m : MethodId) (x0 : Int32) (x1 : Int32) : entryFrame m #[(.int x0), (.int x1)] 2 = mkF m 0 #[.val (.int x0), .val (.int x1)] [] := by first | (simp [entryFrame, mkF, argsToLocals, Value.category, maxLocals]; done) | rfl
def fTC (p0 : Int32) (p1 : Int32) : Int32 := (((p0 <<< ((10 : Int32) &&& 31)) + p1) + (-56613888 : Int32))
def Qtc (Z : State) (p0 : Int32) (p1 : Int32) (h0 : Heap) (n0 : Nat) (v : Option Value) (h : Heap) (L : List Loc) : Prop := v = some (.int (fTC p0 p1)) ∧ Fr n0 L ∧ h = h0
theorem rmtc (l : Launch) (Z : State) (a0 : Array Value) (hw : ∀ d ∈ tables_1, d.before a0 Z = true) (ws : List Jvm.Cond) (p0 : Int32) (p1 : Int32) (h0 : Heap) (n0 : Nat) (O0 : Old Z n0 h0)  :
  MetFree l mN22 (head1 (Jvm.Cond.code mN22 jdk_89_method_19_code 2 (some .int) :: ws) ({ frames := 0, cells := 0, slots := 0, locals := 0 } : Room)) (fun A_ U_ => A_ = #[(.int p0), (.int p1)] ∧ Z.Warmed39 U_.vm ∧ U_.heap = h0) (fun _ _ _ _ _ => True) (fun _ U o U' => ∃ v L, o = .returned v ∧ Qtc Z p0 p1 h0 n0 v U'.heap L ∧ FrameEnd U o U' L ({ frames := 0, cells := 0, slots := 0, locals := 0 } : Room).cells ({ frames := 0, cells := 0, slots := 0, locals := 0 } : Room).slots) := by
 refine MetFree.of_bodySF (plainFor_of_name pntc) hisR ?_
 intro p e s m args below meth cd s₁ Bd hml0 hP hK
 obtain ⟨rfl, hZ, hh⟩ := hP
 have hx := Bd.exec
 have hby := Bd.bytes
 have hlk : meth.locks = false := BodyLoose.notSynchronized Bd
 have hml : cd.maxLocals = 2 := hml0
 have hown : s.vm.findClass "java/lang/Character" = some m.cls := findClass_of_methodNamed Bd.named
 have X0 : Stand p l e ({ frames := 0, cells := 0, slots := 0, locals := 0 } : Room) s m #[(.int p0), (.int p1)] below meth cd s₁ [] 0 0 := Stand.of_body Bd
 have e0 : s₁.heap = h0 := by rw [← hh, Bd.state]; rfl
 have N0 := Fr.nil n0
 have G : Go p e below s 0 0 (Qtc Z p0 p1 h0 n0) (s₁.setTop (mkF m 0 #[.val (.int p0), .val (.int p1)] [])) := by
  refine Go.s (XS.iloadN X0.here hx rfl (hb hby dtc_0) rfl) ?_
  refine Go.s (XS.bipush X0.here hx rfl (hb hby dtc_1)) ?_
  refine Go.s (XT.ishl X0.here hx rfl (hb hby dtc_3) rfl) ?_
  show Go p e below s _ _ _ (s₁.setTop (mkF m 4 #[.val (.int p0), .val (.int p1)] [(.int (p0 <<< ((10 : Int32) &&& 31)))]))
  refine Go.s (XS.iloadN X0.here hx rfl (hb hby dtc_4) rfl) ?_
  refine Go.s (XS.iadd X0.here hx rfl (hb hby dtc_5) rfl) ?_
  refine Go.s (X0.ldcI hx hown (mvT hZ (own_w hw 156 rfl)) rfl (hb hby dtc_6)) ?_
  show Go p e below s _ _ _ (s₁.setTop (mkF m 8 #[.val (.int p0), .val (.int p1)] [(.int (-56613888)), (.int ((p0 <<< ((10 : Int32) &&& 31)) + p1))]))
  refine Go.s (XS.iadd X0.here hx rfl (hb hby dtc_8) rfl) ?_
  exact Go.ret X0 hlk (some (.int (((p0 <<< ((10 : Int32) &&& 31)) + p1) + (-56613888 : Int32)))) (fun h => by rw [Bd.returns] at h; cases h) (by rw [e0]; exact ⟨own_res (z' := (((p0 <<< ((10 : Int32) &&& 31)) + p1) + (-56613888 : Int32))) rfl rfl, N0, rfl⟩) (by decide) (by decide) (fun fs hr => retI X0 hx Bd.returns (hb hby dtc_9) hr)
 obtain ⟨s2, o2, st2, r2⟩ := G
 exact ⟨s2, o2, castTop (eftc m p0 p1) st2, r2⟩
theorem dp4_0 : decode jdk_52_method_7_code 0 = .ok (.getstatic 44, 3) := by decide +kernel
theorem dp4_3 : decode jdk_52_method_7_code 3 = .ok (.ifCond .ne 16, 3) := by decide +kernel
theorem dp4_19 : decode jdk_52_method_7_code 19 = .ok (.iload_n 3, 1) := by decide +kernel
theorem dp4_20 : decode jdk_52_method_7_code 20 = .ok (.ifCond .eq 8, 3) := by decide +kernel
theorem dp4_28 : decode jdk_52_method_7_code 28 = .ok (.aload_n 0, 1) := by decide +kernel
theorem dp4_29 : decode jdk_52_method_7_code 29 = .ok (.iload_n 1, 1) := by decide +kernel
theorem dp4_30 : decode jdk_52_method_7_code 30 = .ok (.invokestatic 71, 3) := by decide +kernel
theorem dp4_33 : decode jdk_52_method_7_code 33 = .ok (.istore 4, 2) := by decide +kernel
theorem dp4_35 : decode jdk_52_method_7_code 35 = .ok (.iload 4, 2) := by decide +kernel
theorem dp4_37 : decode jdk_52_method_7_code 37 = .ok (.invokestatic 75, 3) := by decide +kernel
theorem dp4_40 : decode jdk_52_method_7_code 40 = .ok (.ifCond .eq 43, 3) := by decide +kernel
theorem dp4_43 : decode jdk_52_method_7_code 43 = .ok (.iinc 1 1, 3) := by decide +kernel
theorem dp4_46 : decode jdk_52_method_7_code 46 = .ok (.iload_n 1, 1) := by decide +kernel
theorem dp4_47 : decode jdk_52_method_7_code 47 = .ok (.iload_n 2, 1) := by decide +kernel
theorem dp4_48 : decode jdk_52_method_7_code 48 = .ok (.if_icmp .ge 35, 3) := by decide +kernel
theorem dp4_51 : decode jdk_52_method_7_code 51 = .ok (.iload_n 3, 1) := by decide +kernel
theorem dp4_52 : decode jdk_52_method_7_code 52 = .ok (.ifCond .eq 8, 3) := by decide +kernel
theorem dp4_60 : decode jdk_52_method_7_code 60 = .ok (.aload_n 0, 1) := by decide +kernel
theorem dp4_61 : decode jdk_52_method_7_code 61 = .ok (.iload_n 1, 1) := by decide +kernel
theorem dp4_62 : decode jdk_52_method_7_code 62 = .ok (.invokestatic 71, 3) := by decide +kernel
theorem dp4_65 : decode jdk_52_method_7_code 65 = .ok (.istore 5, 2) := by decide +kernel
theorem dp4_67 : decode jdk_52_method_7_code 67 = .ok (.iload 5, 2) := by decide +kernel
theorem dp4_69 : decode jdk_52_method_7_code 69 = .ok (.invokestatic 81, 3) := by decide +kernel
theorem dp4_72 : decode jdk_52_method_7_code 72 = .ok (.ifCond .eq 11, 3) := by decide +kernel
theorem dp4_75 : decode jdk_52_method_7_code 75 = .ok (.iload 4, 2) := by decide +kernel
theorem dp4_77 : decode jdk_52_method_7_code 77 = .ok (.iload 5, 2) := by decide +kernel
theorem dp4_79 : decode jdk_52_method_7_code 79 = .ok (.invokestatic 84, 3) := by decide +kernel
theorem dp4_82 : decode jdk_52_method_7_code 82 = .ok (.ireturn, 1) := by decide +kernel
theorem dp4_83 : decode jdk_52_method_7_code 83 = .ok (.iload 4, 2) := by decide +kernel
theorem dp4_85 : decode jdk_52_method_7_code 85 = .ok (.ireturn, 1) := by decide +kernel
theorem pdp4_0 : parseMethodDescriptor "(C)Z" = some ⟨[.char], some .boolean⟩ := by decide +kernel
theorem pdp4_1 : parseMethodDescriptor "(CC)I" = some ⟨[.char, .char], some .int⟩ := by decide +kernel
theorem pnp4 : plainName "java/lang/StringUTF16" = true := by first | (simp [plainName, overriddenIn]; done) | decide +kernel
theorem efp4 (m : MethodId) (x0 : Addr) (x1 : Int32) (x2 : Int32) (x3 : Int32) : entryFrame m #[(.ref x0), (.int x1), (.int x2), (.int x3)] 6 = mkF m 0 #[.val (.ref x0), .val (.int x1), .val (.int x2), .val (.int x3), .unset, .unset] [] := by first | (simp [entryFrame, mkF, argsToLocals, Value.category, maxLocals]; done) | rfl
def oCp (c : Int32) (d : Int32) (j : Int32) (m_ : Int32) : Int32 := (if (fHS c) = (0 : Int32) then c else (if (j + (1 : Int32)) < m_ then (if (fLS d) = (0 : Int32) then c else (fTC c d)) else c))
def Qp4 (Z : State) (t : Addr) (kt : ClassId) (c : Int32) (N : Int32) (vs : List Value) (j : Int32) (jj : Int32) (i : Nat) (d : Int32) (kk : Int32) (i2 : Nat) (m_ : Int32) (h0 : Heap) (n0 : Nat) (v : Option Value) (h : Heap) (L : List Loc) : Prop := v = some (.int (oCp c d j m_)) ∧ Fr n0 L ∧ h = h0
theorem rmp4 (l : Launch) (Z : State) (a0 : Array Value) (hw : ∀ d ∈ tables_1, d.before a0 Z = true) (ws : List Jvm.Cond) (t : Addr) (kt : ClassId) (c : Int32) (N : Int32) (vs : List Value) (j : Int32) (jj : Int32) (i : Nat) (d : Int32) (kk : Int32) (i2 : Nat) (m_ : Int32) (h0 : Heap) (n0 : Nat) (O0 : Old Z n0 h0) (V_t : Arv Z h0 t kt .byte N vs (.int 0)) (hj : j <<< ((1 : Int32) &&& 31) = jj) (hi : jj.toNatClampNeg = i) (hi1 : (jj + (1 : Int32)).toNatClampNeg = i + 1) (q0 : ¬ jj < 0) (q1 : jj < N) (q2 : ¬ (jj + (1 : Int32)) < 0) (q3 : (jj + (1 : Int32)) < N) (hv0 : vs.getD i (.int 0) = (.int (StrChars.lo8 c))) (hv1 : vs.getD (i + 1) (.int 0) = (.int (StrChars.hi8 c))) (hcc : ¬ c < 0 ∧ ¬ (65535 : Int32) < c) (SA : Sta Z Z.heap "java/lang/StringUTF16" "$assertionsDisabled" "Z" (.int 1)) (SHI : Sta Z Z.heap "java/lang/StringUTF16" "HI_BYTE_SHIFT" "I" (.int 0)) (SLO : Sta Z Z.heap "java/lang/StringUTF16" "LO_BYTE_SHIFT" "I" (.int 8)) (hD : (j + (1 : Int32)) < m_ → ((j + (1 : Int32)) <<< ((1 : Int32) &&& 31) = kk ∧ kk.toNatClampNeg = i2 ∧ (kk + (1 : Int32)).toNatClampNeg = i2 + 1 ∧ ¬ kk < 0 ∧ kk < N ∧ ¬ (kk + (1 : Int32)) < 0 ∧ (kk + (1 : Int32)) < N ∧ vs.getD i2 (.int 0) = (.int (StrChars.lo8 d)) ∧ vs.getD (i2 + 1) (.int 0) = (.int (StrChars.hi8 d)) ∧ (¬ d < 0 ∧ ¬ (65535 : Int32) < d))) (hjm : j < m_) :
  MetFree l mN23 (head1 (Jvm.Cond.code mN23 jdk_52_method_7_code 6 (some .int) :: ws) ({ frames := 1, cells := 0, slots := 0, locals := 13 } : Room)) (fun A_ U_ => A_ = #[(.ref t), (.int j), (.int m_), (.int 0)] ∧ Z.Warmed39 U_.vm ∧ U_.heap = h0) (fun _ _ _ _ _ => True) (fun _ U o U' => ∃ v L, o = .returned v ∧ Qp4 Z t kt c N vs j jj i d kk i2 m_ h0 n0 v U'.heap L ∧ FrameEnd U o U' L ({ frames := 1, cells := 0, slots := 0, locals := 13 } : Room).cells ({ frames := 1, cells := 0, slots := 0, locals := 13 } : Room).slots) := by
 refine MetFree.of_bodySF (plainFor_of_name pnp4) hisR ?_
 intro p e s m args below meth cd s₁ Bd hml0 hP hK
 obtain ⟨rfl, hZ, hh⟩ := hP
 have hx := Bd.exec
 have hby := Bd.bytes
 have hlk : meth.locks = false := BodyLoose.notSynchronized Bd
 have hml : cd.maxLocals = 6 := hml0
 have hown : s.vm.findClass "java/lang/StringUTF16" = some m.cls := findClass_of_methodNamed Bd.named
 have X0 : Stand p l e ({ frames := 1, cells := 0, slots := 0, locals := 13 } : Room) s m #[(.ref t), (.int j), (.int m_), (.int 0)] below meth cd s₁ [] 0 0 := Stand.of_body Bd
 have e0 : s₁.heap = h0 := by rw [← hh, Bd.state]; rfl
 have N0 := Fr.nil n0
 have G : Go p e below s 0 0 (Qp4 Z t kt c N vs j jj i d kk i2 m_ h0 n0) (s₁.setTop (mkF m 0 #[.val (.ref t), .val (.int j), .val (.int m_), .val (.int 0), .unset, .unset] [])) := by
  obtain ⟨T1, X1, e1, st1⟩ := getS X0 hx hZ hown (host := "") (own_w hw 121 rfl) Via.refl e0 (SA.ext O0.2) (g := (mkF m 0 #[.val (.ref t), .val (.int j), .val (.int m_), .val (.int 0), .unset, .unset] [])) rfl (hb hby dp4_0)
  refine Go.st st1 ?_
  show Go p e below s _ _ _ (T1.setTop (mkF m 3 #[.val (.ref t), .val (.int j), .val (.int m_), .val (.int 0), .unset, .unset] [(.int 1)]))
  refine Go.s (XS.ifYes X1.here hx rfl (pc0 := 3) (pc' := 19) rfl (hb hby dp4_3) rfl (by decide) (by decide) (by decide)) ?_
  show Go p e below s _ _ _ (T1.setTop (mkF m 19 #[.val (.ref t), .val (.int j), .val (.int m_), .val (.int 0), .unset, .unset] []))
  refine Go.s (XS.iloadN X1.here hx rfl (hb hby dp4_19) rfl) ?_
  refine Go.s (XS.ifYes X1.here hx rfl (pc0 := 20) (pc' := 28) rfl (hb hby dp4_20) rfl (by decide) (by decide) (by decide)) ?_
  show Go p e below s _ _ _ (T1.setTop (mkF m 28 #[.val (.ref t), .val (.int j), .val (.int m_), .val (.int 0), .unset, .unset] []))
  refine Go.s (XS.aloadN X1.here hx rfl (hb hby dp4_28) rfl rfl) ?_
  refine Go.s (XS.iloadN X1.here hx rfl (hb hby dp4_29) rfl) ?_
  obtain ⟨_, _, ⟨T2, L2, k2, n2⟩, -, X2, ⟨Lc2, hQ2, l2, y2, z2⟩, st2⟩ := Jvm.LawKit.callS X1 hx (y := mN2) hown (mvT hZ (own_w hw 124 rfl)) (mvT hZ (own_w hw 125 rfl)) (mvT hZ (own_w hw 70 rfl)) (mvT hZ (own_w hw 126 rfl)) (by decide) (backOf (W := 0) (rmgc l Z a0 hw [] t kt c N vs j jj i h0 n0 O0 V_t hj hi hi1 q0 q1 q2 q3 hv0 hv1 hcc SA SHI SLO) hZ (own_w hw 126 rfl) (own_w hw 70 rfl) (by decide) (by decide)) (g := (mkF m 30 #[.val (.ref t), .val (.int j), .val (.int m_), .val (.int 0), .unset, .unset] [(.int j), (.ref t)])) rfl (by rw [hml]; rfl) (argsL := [(.ref t), (.int j)]) (rest := []) (lenOf pdco1_2 rfl) rfl (by show 2 * 0 + _ ≤ _; exact Nat.le_of_eq rfl) (hb hby dp4_30) (fun _ _ => ⟨rfl, e1, (by decide : 0 + 0 ≤ _), (by decide : 0 + 0 ≤ _)⟩)
  dsimp only [Pt.U, Pt.locs, Pt.cells, Pt.slots] at X2 l2 y2 z2 st2 hQ2
  subst y2 z2
  obtain ⟨rfl, Nc2, e2⟩ := hQ2
  have N2 : Fr n0 L2 := by rw [l2]; exact Fr.app N0 Nc2
  refine Go.st st2 ?_
  show Go p e below s _ _ _ (T2.setTop (mkF m 33 #[.val (.ref t), .val (.int j), .val (.int m_), .val (.int 0), .unset, .unset] [(.int c)]))
  refine Go.s (XS.istore X2.here hx rfl (hb hby dp4_33) rfl (l' := #[.val (.ref t), .val (.int j), .val (.int m_), .val (.int 0), .val (.int c), .unset]) rfl) ?_
  refine Go.s (XS.iload X2.here hx rfl (hb hby dp4_35) rfl) ?_
  obtain ⟨_, _, ⟨T3, L3, k3, n3⟩, -, X3, ⟨Lc3, hQ3, l3, y3, z3⟩, st3⟩ := Jvm.LawKit.callS X2 hx (y := mN20) hown (mvT hZ (own_w hw 143 rfl)) (mvT hZ (own_w hw 144 rfl)) (mvT hZ (own_w hw 145 rfl)) (mvT hZ (own_w hw 146 rfl)) (by decide) (backOf (W := 0) (rmhs l Z a0 hw [] c h0 n0 O0 ) hZ (own_w hw 146 rfl) (own_w hw 145 rfl) (by decide) (by decide)) (g := (mkF m 37 #[.val (.ref t), .val (.int j), .val (.int m_), .val (.int 0), .val (.int c), .unset] [(.int c)])) rfl (by rw [hml]; rfl) (argsL := [(.int c)]) (rest := []) (lenOf pdp4_0 rfl) rfl (by show 2 * 0 + _ ≤ _; exact Nat.le_of_eq rfl) (hb hby dp4_37) (fun _ _ => ⟨rfl, e2, (by decide : 0 + 0 ≤ _), (by decide : 0 + 0 ≤ _)⟩)
  dsimp only [Pt.U, Pt.locs, Pt.cells, Pt.slots] at X3 l3 y3 z3 st3 hQ3
  subst y3 z3
  obtain ⟨rfl, Nc3, e3⟩ := hQ3
  have N3 : Fr n0 L3 := by rw [l3]; exact Fr.app N2 Nc3
  refine Go.st st3 ?_
  show Go p e below s _ _ _ (T3.setTop (mkF m 40 #[.val (.ref t), .val (.int j), .val (.int m_), .val (.int 0), .val (.int c), .unset] [(.int (fHS c))]))
  by_cases c40_4 : (fHS c) = (0 : Int32)
  · refine Go.s (XS.ifYes X3.here hx rfl (pc0 := 40) (pc' := 83) rfl (hb hby dp4_40) rfl (XT.i0_eq_t c40_4) (by decide) (by decide)) ?_
    show Go p e below s _ _ _ (T3.setTop (mkF m 83 #[.val (.ref t), .val (.int j), .val (.int m_), .val (.int 0), .val (.int c), .unset] []))
    refine Go.s (XS.iload X3.here hx rfl (hb hby dp4_83) rfl) ?_
    exact Go.ret X3 hlk (some (.int c)) (fun h => by rw [Bd.returns] at h; cases h) (by rw [e3]; exact ⟨own_res (z' := c) (by unfold oCp; rw [if_pos c40_4]) rfl, N3, rfl⟩) (by decide) (by decide) (fun fs hr => retI X3 hx Bd.returns (hb hby dp4_85) hr)
  · refine Go.s (XS.ifNo X3.here hx rfl (hb hby dp4_40) rfl (XT.i0_eq_f c40_4)) ?_
    show Go p e below s _ _ _ (T3.setTop (mkF m 43 #[.val (.ref t), .val (.int j), .val (.int m_), .val (.int 0), .val (.int c), .unset] []))
    refine Go.s (XT.iincV X3.here hx rfl (1 : Int32) (hb hby dp4_43) rfl rfl (l' := #[.val (.ref t), .val (.int (j + (1 : Int32))), .val (.int m_), .val (.int 0), .val (.int c), .unset]) rfl) ?_
    refine Go.s (XS.iloadN X3.here hx rfl (hb hby dp4_46) rfl) ?_
    refine Go.s (XS.iloadN X3.here hx rfl (hb hby dp4_47) rfl) ?_
    by_cases c48_5 : (j + (1 : Int32)) < m_
    · refine Go.s (XS.icmpNo X3.here hx rfl (hb hby dp4_48) rfl (XT.ii_ge_f c48_5)) ?_
      show Go p e below s _ _ _ (T3.setTop (mkF m 51 #[.val (.ref t), .val (.int (j + (1 : Int32))), .val (.int m_), .val (.int 0), .val (.int c), .unset] []))
      refine Go.s (XS.iloadN X3.here hx rfl (hb hby dp4_51) rfl) ?_
      refine Go.s (XS.ifYes X3.here hx rfl (pc0 := 52) (pc' := 60) rfl (hb hby dp4_52) rfl (by decide) (by decide) (by decide)) ?_
      show Go p e below s _ _ _ (T3.setTop (mkF m 60 #[.val (.ref t), .val (.int (j + (1 : Int32))), .val (.int m_), .val (.int 0), .val (.int c), .unset] []))
      refine Go.s (XS.aloadN X3.here hx rfl (hb hby dp4_60) rfl rfl) ?_
      refine Go.s (XS.iloadN X3.here hx rfl (hb hby dp4_61) rfl) ?_
      obtain ⟨_, _, ⟨T6, L6, k6, n6⟩, -, X6, ⟨Lc6, hQ6, l6, y6, z6⟩, st6⟩ := Jvm.LawKit.callS X3 hx (y := mN2) hown (mvT hZ (own_w hw 124 rfl)) (mvT hZ (own_w hw 125 rfl)) (mvT hZ (own_w hw 70 rfl)) (mvT hZ (own_w hw 126 rfl)) (by decide) (backOf (W := 0) (rmgc l Z a0 hw [] t kt d N vs (j + (1 : Int32)) kk i2 h0 n0 O0 V_t (hD c48_5).1 (hD c48_5).2.1 (hD c48_5).2.2.1 (hD c48_5).2.2.2.1 (hD c48_5).2.2.2.2.1 (hD c48_5).2.2.2.2.2.1 (hD c48_5).2.2.2.2.2.2.1 (hD c48_5).2.2.2.2.2.2.2.1 (hD c48_5).2.2.2.2.2.2.2.2.1 (hD c48_5).2.2.2.2.2.2.2.2.2 SA SHI SLO) hZ (own_w hw 126 rfl) (own_w hw 70 rfl) (by decide) (by decide)) (g := (mkF m 62 #[.val (.ref t), .val (.int (j + (1 : Int32))), .val (.int m_), .val (.int 0), .val (.int c), .unset] [(.int (j + (1 : Int32))), (.ref t)])) rfl (by rw [hml]; rfl) (argsL := [(.ref t), (.int (j + (1 : Int32)))]) (rest := []) (lenOf pdco1_2 rfl) rfl (by show 2 * 0 + _ ≤ _; exact Nat.le_of_eq rfl) (hb hby dp4_62) (fun _ _ => ⟨rfl, e3, (by decide : 0 + 0 ≤ _), (by decide : 0 + 0 ≤ _)⟩)
      dsimp only [Pt.U, Pt.locs, Pt.cells, Pt.slots] at X6 l6 y6 z6 st6 hQ6
      subst y6 z6
      obtain ⟨rfl, Nc6, e6⟩ := hQ6
      have N6 : Fr n0 L6 := by rw [l6]; exact Fr.app N3 Nc6
      refine Go.st st6 ?_
      show Go p e below s _ _ _ (T6.setTop (mkF m 65 #[.val (.ref t), .val (.int (j + (1 : Int32))), .val (.int m_), .val (.int 0), .val (.int c), .unset] [(.int d)]))
      refine Go.s (XS.istore X6.here hx rfl (hb hby dp4_65) rfl (l' := #[.val (.ref t), .val (.int (j + (1 : Int32))), .val (.int m_), .val (.int 0), .val (.int c), .val (.int d)]) rfl) ?_
      refine Go.s (XS.iload X6.here hx rfl (hb hby dp4_67) rfl) ?_
      obtain ⟨_, _, ⟨T7, L7, k7, n7⟩, -, X7, ⟨Lc7, hQ7, l7, y7, z7⟩, st7⟩ := Jvm.LawKit.callS X6 hx (y := mN21) hown (mvT hZ (own_w hw 149 rfl)) (mvT hZ (own_w hw 150 rfl)) (mvT hZ (own_w hw 145 rfl)) (mvT hZ (own_w hw 151 rfl)) (by decide) (backOf (W := 0) (rmls l Z a0 hw [] d h0 n0 O0 ) hZ (own_w hw 151 rfl) (own_w hw 145 rfl) (by decide) (by decide)) (g := (mkF m 69 #[.val (.ref t), .val (.int (j + (1 : Int32))), .val (.int m_), .val (.int 0), .val (.int c), .val (.int d)] [(.int d)])) rfl (by rw [hml]; rfl) (argsL := [(.int d)]) (rest := []) (lenOf pdp4_0 rfl) rfl (by show 2 * 0 + _ ≤ _; exact Nat.le_of_eq rfl) (hb hby dp4_69) (fun _ _ => ⟨rfl, e6, (by decide : 0 + 0 ≤ _), (by decide : 0 + 0 ≤ _)⟩)
      dsimp only [Pt.U, Pt.locs, Pt.cells, Pt.slots] at X7 l7 y7 z7 st7 hQ7
      subst y7 z7
      obtain ⟨rfl, Nc7, e7⟩ := hQ7
      have N7 : Fr n0 L7 := by rw [l7]; exact Fr.app N6 Nc7
      refine Go.st st7 ?_
      show Go p e below s _ _ _ (T7.setTop (mkF m 72 #[.val (.ref t), .val (.int (j + (1 : Int32))), .val (.int m_), .val (.int 0), .val (.int c), .val (.int d)] [(.int (fLS d))]))
      by_cases c72_8 : (fLS d) = (0 : Int32)
      · refine Go.s (XS.ifYes X7.here hx rfl (pc0 := 72) (pc' := 83) rfl (hb hby dp4_72) rfl (XT.i0_eq_t c72_8) (by decide) (by decide)) ?_
        show Go p e below s _ _ _ (T7.setTop (mkF m 83 #[.val (.ref t), .val (.int (j + (1 : Int32))), .val (.int m_), .val (.int 0), .val (.int c), .val (.int d)] []))
        refine Go.s (XS.iload X7.here hx rfl (hb hby dp4_83) rfl) ?_
        exact Go.ret X7 hlk (some (.int c)) (fun h => by rw [Bd.returns] at h; cases h) (by rw [e7]; exact ⟨own_res (z' := c) (by unfold oCp; rw [if_neg c40_4, if_pos c48_5, if_pos c72_8]) rfl, N7, rfl⟩) (by decide) (by decide) (fun fs hr => retI X7 hx Bd.returns (hb hby dp4_85) hr)
      · refine Go.s (XS.ifNo X7.here hx rfl (hb hby dp4_72) rfl (XT.i0_eq_f c72_8)) ?_
        show Go p e below s _ _ _ (T7.setTop (mkF m 75 #[.val (.ref t), .val (.int (j + (1 : Int32))), .val (.int m_), .val (.int 0), .val (.int c), .val (.int d)] []))
        refine Go.s (XS.iload X7.here hx rfl (hb hby dp4_75) rfl) ?_
        refine Go.s (XS.iload X7.here hx rfl (hb hby dp4_77) rfl) ?_
        obtain ⟨_, _, ⟨T9, L9, k9, n9⟩, -, X9, ⟨Lc9, hQ9, l9, y9, z9⟩, st9⟩ := Jvm.LawKit.callS X7 hx (y := mN22) hown (mvT hZ (own_w hw 153 rfl)) (mvT hZ (own_w hw 154 rfl)) (mvT hZ (own_w hw 145 rfl)) (mvT hZ (own_w hw 155 rfl)) (by decide) (backOf (W := 0) (rmtc l Z a0 hw [] c d h0 n0 O0 ) hZ (own_w hw 155 rfl) (own_w hw 145 rfl) (by decide) (by decide)) (g := (mkF m 79 #[.val (.ref t), .val (.int (j + (1 : Int32))), .val (.int m_), .val (.int 0), .val (.int c), .val (.int d)] [(.int d), (.int c)])) rfl (by rw [hml]; rfl) (argsL := [(.int c), (.int d)]) (rest := []) (lenOf pdp4_1 rfl) rfl (by show 2 * 0 + _ ≤ _; exact Nat.le_of_eq rfl) (hb hby dp4_79) (fun _ _ => ⟨rfl, e7, (by decide : 0 + 0 ≤ _), (by decide : 0 + 0 ≤ _)⟩)
        dsimp only [Pt.U, Pt.locs, Pt.cells, Pt.slots] at X9 l9 y9 z9 st9 hQ9
        subst y9 z9
        obtain ⟨rfl, Nc9, e9⟩ := hQ9
        have N9 : Fr n0 L9 := by rw [l9]; exact Fr.app N7 Nc9
        refine Go.st st9 ?_
        show Go p e below s _ _ _ (T9.setTop (mkF m 82 #[.val (.ref t), .val (.int (j + (1 : Int32))), .val (.int m_), .val (.int 0), .val (.int c), .val (.int d)] [(.int (fTC c d))]))
        exact Go.ret X9 hlk (some (.int (fTC c d))) (fun h => by rw [Bd.returns] at h; cases h) (by rw [e9]; exact ⟨own_res (z' := (fTC c d)) (by unfold oCp; rw [if_neg c40_4, if_pos c48_5, if_neg c72_8]) rfl, N9, rfl⟩) (by decide) (by decide) (fun fs hr => retI X9 hx Bd.returns (hb hby dp4_82) hr)
    · refine Go.s (XS.icmpYes X3.here hx rfl (pc0 := 48) (pc' := 83) rfl (hb hby dp4_48) rfl (XT.ii_ge_t c48_5) (by decide) (by decide)) ?_
      show Go p e below s _ _ _ (T3.setTop (mkF m 83 #[.val (.ref t), .val (.int (j + (1 : Int32))), .val (.int m_), .val (.int 0), .val (.int c), .unset] []))
      refine Go.s (XS.iload X3.here hx rfl (hb hby dp4_83) rfl) ?_
      exact Go.ret X3 hlk (some (.int c)) (fun h => by rw [Bd.returns] at h; cases h) (by rw [e3]; exact ⟨own_res (z' := c) (by unfold oCp; rw [if_neg c40_4, if_neg c48_5]) rfl, N3, rfl⟩) (by decide) (by decide) (fun fs hr => retI X3 hx Bd.returns (hb hby dp4_85) hr)
 obtain ⟨s2, o2, st2, r2⟩ := G
 exact ⟨s2, o2, castTop (efp4 m t j m_ (0 : Int32)) st2, r2⟩
theorem dp3_0 : decode jdk_52_method_8_code 0 = .ok (.aload_n 0, 1) := by decide +kernel
theorem dp3_1 : decode jdk_52_method_8_code 1 = .ok (.iload_n 1, 1) := by decide +kernel
theorem dp3_2 : decode jdk_52_method_8_code 2 = .ok (.iload_n 2, 1) := by decide +kernel
theorem dp3_3 : decode jdk_52_method_8_code 3 = .ok (.iconst 0, 1) := by decide +kernel
theorem dp3_4 : decode jdk_52_method_8_code 4 = .ok (.invokestatic 88, 3) := by decide +kernel
theorem dp3_7 : decode jdk_52_method_8_code 7 = .ok (.ireturn, 1) := by decide +kernel
theorem pdp3_0 : parseMethodDescriptor "([BIIZ)I" = some ⟨[(.array .byte), .int, .int, .boolean], some .int⟩ := by decide +kernel
theorem pnp3 : plainName "java/lang/StringUTF16" = true := by first | (simp [plainName, overriddenIn]; done) | decide +kernel
theorem efp3 (m : MethodId) (x0 : Addr) (x1 : Int32) (x2 : Int32) : entryFrame m #[(.ref x0), (.int x1), (.int x2)] 3 = mkF m 0 #[.val (.ref x0), .val (.int x1), .val (.int x2)] [] := by first | (simp [entryFrame, mkF, argsToLocals, Value.category, maxLocals]; done) | rfl
def Qp3 (Z : State) (t : Addr) (kt : ClassId) (c : Int32) (N : Int32) (vs : List Value) (j : Int32) (jj : Int32) (i : Nat) (d : Int32) (kk : Int32) (i2 : Nat) (m_ : Int32) (h0 : Heap) (n0 : Nat) (v : Option Value) (h : Heap) (L : List Loc) : Prop := v = some (.int (oCp c d j m_)) ∧ Fr n0 L ∧ h = h0
theorem rmp3 (l : Launch) (Z : State) (a0 : Array Value) (hw : ∀ d ∈ tables_1, d.before a0 Z = true) (ws : List Jvm.Cond) (t : Addr) (kt : ClassId) (c : Int32) (N : Int32) (vs : List Value) (j : Int32) (jj : Int32) (i : Nat) (d : Int32) (kk : Int32) (i2 : Nat) (m_ : Int32) (h0 : Heap) (n0 : Nat) (O0 : Old Z n0 h0) (V_t : Arv Z h0 t kt .byte N vs (.int 0)) (hj : j <<< ((1 : Int32) &&& 31) = jj) (hi : jj.toNatClampNeg = i) (hi1 : (jj + (1 : Int32)).toNatClampNeg = i + 1) (q0 : ¬ jj < 0) (q1 : jj < N) (q2 : ¬ (jj + (1 : Int32)) < 0) (q3 : (jj + (1 : Int32)) < N) (hv0 : vs.getD i (.int 0) = (.int (StrChars.lo8 c))) (hv1 : vs.getD (i + 1) (.int 0) = (.int (StrChars.hi8 c))) (hcc : ¬ c < 0 ∧ ¬ (65535 : Int32) < c) (SA : Sta Z Z.heap "java/lang/StringUTF16" "$assertionsDisabled" "Z" (.int 1)) (SHI : Sta Z Z.heap "java/lang/StringUTF16" "HI_BYTE_SHIFT" "I" (.int 0)) (SLO : Sta Z Z.heap "java/lang/StringUTF16" "LO_BYTE_SHIFT" "I" (.int 8)) (hD : (j + (1 : Int32)) < m_ → ((j + (1 : Int32)) <<< ((1 : Int32) &&& 31) = kk ∧ kk.toNatClampNeg = i2 ∧ (kk + (1 : Int32)).toNatClampNeg = i2 + 1 ∧ ¬ kk < 0 ∧ kk < N ∧ ¬ (kk + (1 : Int32)) < 0 ∧ (kk + (1 : Int32)) < N ∧ vs.getD i2 (.int 0) = (.int (StrChars.lo8 d)) ∧ vs.getD (i2 + 1) (.int 0) = (.int (StrChars.hi8 d)) ∧ (¬ d < 0 ∧ ¬ (65535 : Int32) < d))) (hjm : j < m_) :
  MetFree l mN24 (head1 (Jvm.Cond.code mN24 jdk_52_method_8_code 3 (some .int) :: ws) ({ frames := 2, cells := 0, slots := 0, locals := 30 } : Room)) (fun A_ U_ => A_ = #[(.ref t), (.int j), (.int m_)] ∧ Z.Warmed39 U_.vm ∧ U_.heap = h0) (fun _ _ _ _ _ => True) (fun _ U o U' => ∃ v L, o = .returned v ∧ Qp3 Z t kt c N vs j jj i d kk i2 m_ h0 n0 v U'.heap L ∧ FrameEnd U o U' L ({ frames := 2, cells := 0, slots := 0, locals := 30 } : Room).cells ({ frames := 2, cells := 0, slots := 0, locals := 30 } : Room).slots) := by
 refine MetFree.of_bodySF (plainFor_of_name pnp3) hisR ?_
 intro p e s m args below meth cd s₁ Bd hml0 hP hK
 obtain ⟨rfl, hZ, hh⟩ := hP
 have hx := Bd.exec
 have hby := Bd.bytes
 have hlk : meth.locks = false := BodyLoose.notSynchronized Bd
 have hml : cd.maxLocals = 3 := hml0
 have hown : s.vm.findClass "java/lang/StringUTF16" = some m.cls := findClass_of_methodNamed Bd.named
 have X0 : Stand p l e ({ frames := 2, cells := 0, slots := 0, locals := 30 } : Room) s m #[(.ref t), (.int j), (.int m_)] below meth cd s₁ [] 0 0 := Stand.of_body Bd
 have e0 : s₁.heap = h0 := by rw [← hh, Bd.state]; rfl
 have N0 := Fr.nil n0
 have G : Go p e below s 0 0 (Qp3 Z t kt c N vs j jj i d kk i2 m_ h0 n0) (s₁.setTop (mkF m 0 #[.val (.ref t), .val (.int j), .val (.int m_)] [])) := by
  refine Go.s (XS.aloadN X0.here hx rfl (hb hby dp3_0) rfl rfl) ?_
  refine Go.s (XS.iloadN X0.here hx rfl (hb hby dp3_1) rfl) ?_
  refine Go.s (XS.iloadN X0.here hx rfl (hb hby dp3_2) rfl) ?_
  refine Go.s (XS.iconst X0.here hx rfl (hb hby dp3_3)) ?_
  obtain ⟨_, _, ⟨T1, L1, k1, n1⟩, -, X1, ⟨Lc1, hQ1, l1, y1, z1⟩, st1⟩ := Jvm.LawKit.callS X0 hx (y := mN23) hown (mvT hZ (own_w hw 140 rfl)) (mvT hZ (own_w hw 141 rfl)) (mvT hZ (own_w hw 70 rfl)) (mvT hZ (own_w hw 142 rfl)) (by decide) (backOf (W := 0) (rmp4 l Z a0 hw [] t kt c N vs j jj i d kk i2 m_ h0 n0 O0 V_t hj hi hi1 q0 q1 q2 q3 hv0 hv1 hcc SA SHI SLO hD hjm) hZ (own_w hw 142 rfl) (own_w hw 70 rfl) (by decide) (by decide)) (g := (mkF m 4 #[.val (.ref t), .val (.int j), .val (.int m_)] [(.int 0), (.int m_), (.int j), (.ref t)])) rfl (by rw [hml]; rfl) (argsL := [(.ref t), (.int j), (.int m_), (.int 0)]) (rest := []) (lenOf pdp3_0 rfl) rfl (by show 2 * 0 + _ ≤ _; exact Nat.le_of_eq rfl) (hb hby dp3_4) (fun _ _ => ⟨rfl, e0, (by decide : 0 + 0 ≤ _), (by decide : 0 + 0 ≤ _)⟩)
  dsimp only [Pt.U, Pt.locs, Pt.cells, Pt.slots] at X1 l1 y1 z1 st1 hQ1
  subst y1 z1
  obtain ⟨rfl, Nc1, e1⟩ := hQ1
  have N1 : Fr n0 L1 := by rw [l1]; exact Fr.app N0 Nc1
  refine Go.st st1 ?_
  show Go p e below s _ _ _ (T1.setTop (mkF m 7 #[.val (.ref t), .val (.int j), .val (.int m_)] [(.int (oCp c d j m_))]))
  exact Go.ret X1 hlk (some (.int (oCp c d j m_))) (fun h => by rw [Bd.returns] at h; cases h) (by rw [e1]; exact ⟨rfl, N1, rfl⟩) (by decide) (by decide) (fun fs hr => retI X1 hx Bd.returns (hb hby dp3_7) hr)
 obtain ⟨s2, o2, st2, r2⟩ := G
 exact ⟨s2, o2, castTop (efp3 m t j m_) st2, r2⟩
theorem dp1_0 : decode jdk_42_method_57_code 0 = .ok (.aload_n 0, 1) := by decide +kernel
theorem dp1_1 : decode jdk_42_method_57_code 1 = .ok (.invokevirtual 492, 3) := by decide +kernel
theorem dp1_4 : decode jdk_42_method_57_code 4 = .ok (.ifCond .eq 23, 3) := by decide +kernel
theorem dp1_27 : decode jdk_42_method_57_code 27 = .ok (.aload_n 0, 1) := by decide +kernel
theorem dp1_28 : decode jdk_42_method_57_code 28 = .ok (.getfield 9, 3) := by decide +kernel
theorem dp1_31 : decode jdk_42_method_57_code 31 = .ok (.arraylength, 1) := by decide +kernel
theorem dp1_32 : decode jdk_42_method_57_code 32 = .ok (.iconst 1, 1) := by decide +kernel
theorem dp1_33 : decode jdk_42_method_57_code 33 = .ok (.ishr, 1) := by decide +kernel
theorem dp1_34 : decode jdk_42_method_57_code 34 = .ok (.istore_n 2, 1) := by decide +kernel
theorem dp1_35 : decode jdk_42_method_57_code 35 = .ok (.iload_n 1, 1) := by decide +kernel
theorem dp1_36 : decode jdk_42_method_57_code 36 = .ok (.iload_n 2, 1) := by decide +kernel
theorem dp1_37 : decode jdk_42_method_57_code 37 = .ok (.invokestatic 499, 3) := by decide +kernel
theorem dp1_40 : decode jdk_42_method_57_code 40 = .ok (.aload_n 0, 1) := by decide +kernel
theorem dp1_41 : decode jdk_42_method_57_code 41 = .ok (.getfield 9, 3) := by decide +kernel
theorem dp1_44 : decode jdk_42_method_57_code 44 = .ok (.iload_n 1, 1) := by decide +kernel
theorem dp1_45 : decode jdk_42_method_57_code 45 = .ok (.iload_n 2, 1) := by decide +kernel
theorem dp1_46 : decode jdk_42_method_57_code 46 = .ok (.invokestatic 502, 3) := by decide +kernel
theorem dp1_49 : decode jdk_42_method_57_code 49 = .ok (.ireturn, 1) := by decide +kernel
theorem pdp1_0 : parseMethodDescriptor "([BII)I" = some ⟨[(.array .byte), .int, .int], some .int⟩ := by decide +kernel
theorem pnp1 : plainName "java/lang/String" = true := by first | (simp [plainName, overriddenIn]; done) | decide +kernel
theorem efp1 (m : MethodId) (x0 : Addr) (x1 : Int32) : entryFrame m #[(.ref x0), (.int x1)] 3 = mkF m 0 #[.val (.ref x0), .val (.int x1), .unset] [] := by first | (simp [entryFrame, mkF, argsToLocals, Value.category, maxLocals]; done) | rfl
def Qp1 (Z : State) (x : Addr) (t : Addr) (kt : ClassId) (c : Int32) (N : Int32) (vs : List Value) (j : Int32) (jj : Int32) (i : Nat) (d : Int32) (kk : Int32) (i2 : Nat) (fm : Value) (zc : Int32) (h0 : Heap) (n0 : Nat) (v : Option Value) (h : Heap) (L : List Loc) : Prop := v = some (.int (oCp c d j (N >>> ((1 : Int32) &&& 31)))) ∧ Fr n0 L ∧ h = h0
theorem rmp1 (l : Launch) (Z : State) (a0 : Array Value) (hw : ∀ d ∈ tables_1, d.before a0 Z = true) (ws : List Jvm.Cond) (x : Addr) (t : Addr) (kt : ClassId) (c : Int32) (N : Int32) (vs : List Value) (j : Int32) (jj : Int32) (i : Nat) (d : Int32) (kk : Int32) (i2 : Nat) (fm : Value) (zc : Int32) (h0 : Heap) (n0 : Nat) (O0 : Old Z n0 h0) (E_x : Exa Z h0 x "java/lang/String") (F_x_coder : Fld Z h0 x "java/lang/String" "coder" "B" (.int 1)) (F_x_value : Fld Z h0 x "java/lang/String" "value" "[B" (.ref t)) (V_t : Arv Z h0 t kt .byte N vs (.int 0)) (hj : j <<< ((1 : Int32) &&& 31) = jj) (hi : jj.toNatClampNeg = i) (hi1 : (jj + (1 : Int32)).toNatClampNeg = i + 1) (q0 : ¬ jj < 0) (q1 : jj < N) (q2 : ¬ (jj + (1 : Int32)) < 0) (q3 : (jj + (1 : Int32)) < N) (hv0 : vs.getD i (.int 0) = (.int (StrChars.lo8 c))) (hv1 : vs.getD (i + 1) (.int 0) = (.int (StrChars.hi8 c))) (hcc : ¬ c < 0 ∧ ¬ (65535 : Int32) < c) (SA : Sta Z Z.heap "java/lang/StringUTF16" "$assertionsDisabled" "Z" (.int 1)) (SHI : Sta Z Z.heap "java/lang/StringUTF16" "HI_BYTE_SHIFT" "I" (.int 0)) (SLO : Sta Z Z.heap "java/lang/StringUTF16" "LO_BYTE_SHIFT" "I" (.int 8)) (hD : (j + (1 : Int32)) < (N >>> ((1 : Int32) &&& 31)) → ((j + (1 : Int32)) <<< ((1 : Int32) &&& 31) = kk ∧ kk.toNatClampNeg = i2 ∧ (kk + (1 : Int32)).toNatClampNeg = i2 + 1 ∧ ¬ kk < 0 ∧ kk < N ∧ ¬ (kk + (1 : Int32)) < 0 ∧ (kk + (1 : Int32)) < N ∧ vs.getD i2 (.int 0) = (.int (StrChars.lo8 d)) ∧ vs.getD (i2 + 1) (.int 0) = (.int (StrChars.hi8 d)) ∧ (¬ d < 0 ∧ ¬ (65535 : Int32) < d))) (hjm : j < (N >>> ((1 : Int32) &&& 31))) (hj0 : ¬ j < 0) (SF : Sta Z Z.heap "jdk/internal/util/Preconditions" "SIOOBE_FORMATTER" "Ljava/util/function/BiFunction;" fm) (rf : fm.isRef = true) (SC : Sta Z Z.heap "java/lang/String" "COMPACT_STRINGS" "Z" (.int zc)) (hcs : ¬ zc = 0) :
  MetFree l mN25 (head1 (Jvm.Cond.code mN25 jdk_42_method_57_code 3 (some .int) :: ws) ({ frames := 3, cells := 0, slots := 0, locals := 44 } : Room)) (fun A_ U_ => A_ = #[(.ref x), (.int j)] ∧ Z.Warmed39 U_.vm ∧ U_.heap = h0) (fun _ _ _ _ _ => True) (fun _ U o U' => ∃ v L, o = .returned v ∧ Qp1 Z x t kt c N vs j jj i d kk i2 fm zc h0 n0 v U'.heap L ∧ FrameEnd U o U' L ({ frames := 3, cells := 0, slots := 0, locals := 44 } : Room).cells ({ frames := 3, cells := 0, slots := 0, locals := 44 } : Room).slots) := by
 refine MetFree.of_bodySF (plainFor_of_name pnp1) hisR ?_
 intro p e s m args below meth cd s₁ Bd hml0 hP hK
 obtain ⟨rfl, hZ, hh⟩ := hP
 have hx := Bd.exec
 have hby := Bd.bytes
 have hlk : meth.locks = false := BodyLoose.notSynchronized Bd
 have hml : cd.maxLocals = 3 := hml0
 have hown : s.vm.findClass "java/lang/String" = some m.cls := findClass_of_methodNamed Bd.named
 have X0 : Stand p l e ({ frames := 3, cells := 0, slots := 0, locals := 44 } : Room) s m #[(.ref x), (.int j)] below meth cd s₁ [] 0 0 := Stand.of_body Bd
 have e0 : s₁.heap = h0 := by rw [← hh, Bd.state]; rfl
 have N0 := Fr.nil n0
 have G : Go p e below s 0 0 (Qp1 Z x t kt c N vs j jj i d kk i2 fm zc h0 n0) (s₁.setTop (mkF m 0 #[.val (.ref x), .val (.int j), .unset] [])) := by
  refine Go.s (XS.aloadN X0.here hx rfl (hb hby dp1_0) rfl rfl) ?_
  obtain ⟨cq1, kq1, qa1, qb1, qc1⟩ := isOf hZ e0 E_x
  obtain ⟨_, _, ⟨T1, L1, k1, n1⟩, -, X1, ⟨Lc1, hQ1, l1, y1, z1⟩, st1⟩ := X0.virtualBack hx (y := mN18) (z := mN18) hown (mvT hZ (own_w hw 83 rfl)) (mvT hZ (own_w hw 84 rfl)) (notFace_of_selects (args := #[]) (mvT hZ (own_w hw 86 rfl))) (mvT hZ (own_w hw 86 rfl)) (mvT hZ (own_w hw 85 rfl)) (by decide) (backOf (W := 0) (rmil1 l Z a0 hw [] x zc h0 n0 O0 F_x_coder SC hcs) hZ (own_w hw 87 rfl) (own_w hw 16 rfl) (by decide) (by decide)) qa1 qc1 (g := (mkF m 1 #[.val (.ref x), .val (.int j), .unset] [(.ref x)])) rfl (by rw [hml]; rfl) (Steps.refl _) (argsL := []) (rest := []) (lenOf pdch_0 rfl) rfl (by show 2 * 0 + _ ≤ _; exact Nat.le_of_eq rfl) (hb hby dp1_1) (fun _ _ => ⟨rfl, e0, (by decide : 0 + 0 ≤ _), (by decide : 0 + 0 ≤ _)⟩)
  dsimp only [Pt.U, Pt.locs, Pt.cells, Pt.slots] at X1 l1 y1 z1 st1 hQ1
  subst y1 z1
  obtain ⟨rfl, Nc1, e1⟩ := hQ1
  have N1 : Fr n0 L1 := by rw [l1]; exact Fr.app N0 Nc1
  refine Go.tr st1 ?_
  show Go p e below s _ _ _ (T1.setTop (mkF m 4 #[.val (.ref x), .val (.int j), .unset] [(.int 0)]))
  refine Go.s (XS.ifYes X1.here hx rfl (pc0 := 4) (pc' := 27) rfl (hb hby dp1_4) rfl (by decide) (by decide) (by decide)) ?_
  show Go p e below s _ _ _ (T1.setTop (mkF m 27 #[.val (.ref x), .val (.int j), .unset] []))
  refine Go.s (XS.aloadN X1.here hx rfl (hb hby dp1_27) rfl rfl) ?_
  obtain ⟨T2, X2, e2, st2⟩ := getF X1 hx hZ hown (host := "") (Or.inl (own_w hw 33 rfl)) Via.refl e1 F_x_value (g := (mkF m 28 #[.val (.ref x), .val (.int j), .unset] [(.ref x)])) rfl rfl (hb hby dp1_28)
  refine Go.st st2 ?_
  show Go p e below s _ _ _ (T2.setTop (mkF m 31 #[.val (.ref x), .val (.int j), .unset] [(.ref t)]))
  refine Go.s (own_len X2 hx hZ e2 V_t (g := (mkF m 31 #[.val (.ref x), .val (.int j), .unset] [(.ref t)])) rfl rfl (hb hby dp1_31) _) ?_
  show Go p e below s _ _ _ (T2.setTop (mkF m 32 #[.val (.ref x), .val (.int j), .unset] [(.int N)]))
  refine Go.s (XS.iconst X2.here hx rfl (hb hby dp1_32)) ?_
  refine Go.s (XT.ishr X2.here hx rfl (hb hby dp1_33) rfl) ?_
  show Go p e below s _ _ _ (T2.setTop (mkF m 34 #[.val (.ref x), .val (.int j), .unset] [(.int (N >>> ((1 : Int32) &&& 31)))]))
  refine Go.s (XS.istoreN X2.here hx rfl (hb hby dp1_34) rfl (l' := #[.val (.ref x), .val (.int j), .val (.int (N >>> ((1 : Int32) &&& 31)))]) rfl) ?_
  refine Go.s (XS.iloadN X2.here hx rfl (hb hby dp1_35) rfl) ?_
  refine Go.s (XS.iloadN X2.here hx rfl (hb hby dp1_36) rfl) ?_
  obtain ⟨_, _, ⟨T3, L3, k3, n3⟩, -, X3, ⟨Lc3, hQ3, l3, y3, z3⟩, st3⟩ := Jvm.LawKit.callS X2 hx (y := mN15) hown (mvT hZ (own_w hw 105 rfl)) (mvT hZ (own_w hw 93 rfl)) (mvT hZ (own_w hw 16 rfl)) (mvT hZ (own_w hw 94 rfl)) (by decide) (backOf (W := 0) (rmsk l Z a0 hw [] j (N >>> ((1 : Int32) &&& 31)) fm h0 n0 O0 hj0 hjm SF rf) hZ (own_w hw 94 rfl) (own_w hw 16 rfl) (by decide) (by decide)) (g := (mkF m 37 #[.val (.ref x), .val (.int j), .val (.int (N >>> ((1 : Int32) &&& 31)))] [(.int (N >>> ((1 : Int32) &&& 31))), (.int j)])) rfl (by rw [hml]; rfl) (argsL := [(.int j), (.int (N >>> ((1 : Int32) &&& 31)))]) (rest := []) (lenOf pduk_1 rfl) rfl (by show 2 * 0 + _ ≤ _; exact Nat.le_of_eq rfl) (hb hby dp1_37) (fun _ _ => ⟨rfl, e2, (by decide : 0 + 0 ≤ _), (by decide : 0 + 0 ≤ _)⟩)
  dsimp only [Pt.U, Pt.locs, Pt.cells, Pt.slots] at X3 l3 y3 z3 st3 hQ3
  subst y3 z3
  obtain ⟨rfl, Nc3, e3⟩ := hQ3
  have N3 : Fr n0 L3 := by rw [l3]; exact Fr.app N1 Nc3
  refine Go.st st3 ?_
  show Go p e below s _ _ _ (T3.setTop (mkF m 40 #[.val (.ref x), .val (.int j), .val (.int (N >>> ((1 : Int32) &&& 31)))] []))
  refine Go.s (XS.aloadN X3.here hx rfl (hb hby dp1_40) rfl rfl) ?_
  obtain ⟨T4, X4, e4, st4⟩ := getF X3 hx hZ hown (host := "") (Or.inl (own_w hw 33 rfl)) Via.refl e3 F_x_value (g := (mkF m 41 #[.val (.ref x), .val (.int j), .val (.int (N >>> ((1 : Int32) &&& 31)))] [(.ref x)])) rfl rfl (hb hby dp1_41)
  refine Go.st st4 ?_
  show Go p e below s _ _ _ (T4.setTop (mkF m 44 #[.val (.ref x), .val (.int j), .val (.int (N >>> ((1 : Int32) &&& 31)))] [(.ref t)]))
  refine Go.s (XS.iloadN X4.here hx rfl (hb hby dp1_44) rfl) ?_
  refine Go.s (XS.iloadN X4.here hx rfl (hb hby dp1_45) rfl) ?_
  obtain ⟨_, _, ⟨T5, L5, k5, n5⟩, -, X5, ⟨Lc5, hQ5, l5, y5, z5⟩, st5⟩ := Jvm.LawKit.callS X4 hx (y := mN24) hown (mvT hZ (own_w hw 137 rfl)) (mvT hZ (own_w hw 138 rfl)) (mvT hZ (own_w hw 70 rfl)) (mvT hZ (own_w hw 139 rfl)) (by decide) (backOf (W := 0) (rmp3 l Z a0 hw [] t kt c N vs j jj i d kk i2 (N >>> ((1 : Int32) &&& 31)) h0 n0 O0 V_t hj hi hi1 q0 q1 q2 q3 hv0 hv1 hcc SA SHI SLO hD hjm) hZ (own_w hw 139 rfl) (own_w hw 70 rfl) (by decide) (by decide)) (g := (mkF m 46 #[.val (.ref x), .val (.int j), .val (.int (N >>> ((1 : Int32) &&& 31)))] [(.int (N >>> ((1 : Int32) &&& 31))), (.int j), (.ref t)])) rfl (by rw [hml]; rfl) (argsL := [(.ref t), (.int j), (.int (N >>> ((1 : Int32) &&& 31)))]) (rest := []) (lenOf pdp1_0 rfl) rfl (by show 2 * 0 + _ ≤ _; exact Nat.le_of_eq rfl) (hb hby dp1_46) (fun _ _ => ⟨rfl, e4, (by decide : 0 + 0 ≤ _), (by decide : 0 + 0 ≤ _)⟩)
  dsimp only [Pt.U, Pt.locs, Pt.cells, Pt.slots] at X5 l5 y5 z5 st5 hQ5
  subst y5 z5
  obtain ⟨rfl, Nc5, e5⟩ := hQ5
  have N5 : Fr n0 L5 := by rw [l5]; exact Fr.app N3 Nc5
  refine Go.st st5 ?_
  show Go p e below s _ _ _ (T5.setTop (mkF m 49 #[.val (.ref x), .val (.int j), .val (.int (N >>> ((1 : Int32) &&& 31)))] [(.int (oCp c d j (N >>> ((1 : Int32) &&& 31))))]))
  exact Go.ret X5 hlk (some (.int (oCp c d j (N >>> ((1 : Int32) &&& 31))))) (fun h => by rw [Bd.returns] at h; cases h) (by rw [e5]; exact ⟨rfl, N5, rfl⟩) (by decide) (by decide) (fun fs hr => retI X5 hx Bd.returns (hb hby dp1_49) hr)
 obtain ⟨s2, o2, st2, r2⟩ := G
 exact ⟨s2, o2, castTop (efp1 m x j) st2, r2⟩
theorem dp0_7 : decode jdk_42_method_57_code 7 = .ok (.iload_n 1, 1) := by decide +kernel
theorem dp0_8 : decode jdk_42_method_57_code 8 = .ok (.aload_n 0, 1) := by decide +kernel
theorem dp0_9 : decode jdk_42_method_57_code 9 = .ok (.getfield 9, 3) := by decide +kernel
theorem dp0_12 : decode jdk_42_method_57_code 12 = .ok (.arraylength, 1) := by decide +kernel
theorem dp0_13 : decode jdk_42_method_57_code 13 = .ok (.invokestatic 499, 3) := by decide +kernel
theorem dp0_16 : decode jdk_42_method_57_code 16 = .ok (.aload_n 0, 1) := by decide +kernel
theorem dp0_17 : decode jdk_42_method_57_code 17 = .ok (.getfield 9, 3) := by decide +kernel
theorem dp0_20 : decode jdk_42_method_57_code 20 = .ok (.iload_n 1, 1) := by decide +kernel
theorem dp0_21 : decode jdk_42_method_57_code 21 = .ok (.baload, 1) := by decide +kernel
theorem dp0_22 : decode jdk_42_method_57_code 22 = .ok (.sipush 255, 3) := by decide +kernel
theorem dp0_25 : decode jdk_42_method_57_code 25 = .ok (.iand, 1) := by decide +kernel
theorem dp0_26 : decode jdk_42_method_57_code 26 = .ok (.ireturn, 1) := by decide +kernel
theorem pnp0 : plainName "java/lang/String" = true := by first | (simp [plainName, overriddenIn]; done) | decide +kernel
theorem efp0 (m : MethodId) (x0 : Addr) (x1 : Int32) : entryFrame m #[(.ref x0), (.int x1)] 3 = mkF m 0 #[.val (.ref x0), .val (.int x1), .unset] [] := by first | (simp [entryFrame, mkF, argsToLocals, Value.category, maxLocals]; done) | rfl
def Qp0 (Z : State) (x : Addr) (t : Addr) (kt : ClassId) (c : Int32) (N : Int32) (vs : List Value) (j : Int32) (jj : Int32) (i : Nat) (fm : Value) (zc : Int32) (h0 : Heap) (n0 : Nat) (v : Option Value) (h : Heap) (L : List Loc) : Prop := v = some (.int c) ∧ Fr n0 L ∧ h = h0
theorem rmp0 (l : Launch) (Z : State) (a0 : Array Value) (hw : ∀ d ∈ tables_1, d.before a0 Z = true) (ws : List Jvm.Cond) (x : Addr) (t : Addr) (kt : ClassId) (c : Int32) (N : Int32) (vs : List Value) (j : Int32) (jj : Int32) (i : Nat) (fm : Value) (zc : Int32) (h0 : Heap) (n0 : Nat) (O0 : Old Z n0 h0) (E_x : Exa Z h0 x "java/lang/String") (F_x_coder : Fld Z h0 x "java/lang/String" "coder" "B" (.int 0)) (F_x_value : Fld Z h0 x "java/lang/String" "value" "[B" (.ref t)) (V_t : Arv Z h0 t kt .byte N vs (.int 0)) (hi : j.toNatClampNeg = i) (hv0 : vs.getD i (.int 0) = (.int (StrChars.lo8 c))) (hcc : ¬ c < 0 ∧ ¬ (255 : Int32) < c) (hj0 : ¬ j < 0) (hjN : j < N) (SF : Sta Z Z.heap "jdk/internal/util/Preconditions" "SIOOBE_FORMATTER" "Ljava/util/function/BiFunction;" fm) (rf : fm.isRef = true) (SC : Sta Z Z.heap "java/lang/String" "COMPACT_STRINGS" "Z" (.int zc)) (hcs : ¬ zc = 0) :
  MetFree l mN25 (head1 (Jvm.Cond.code mN25 jdk_42_method_57_code 3 (some .int) :: ws) ({ frames := 2, cells := 0, slots := 0, locals := 27 } : Room)) (fun A_ U_ => A_ = #[(.ref x), (.int j)] ∧ Z.Warmed39 U_.vm ∧ U_.heap = h0) (fun _ _ _ _ _ => True) (fun _ U o U' => ∃ v L, o = .returned v ∧ Qp0 Z x t kt c N vs j jj i fm zc h0 n0 v U'.heap L ∧ FrameEnd U o U' L ({ frames := 2, cells := 0, slots := 0, locals := 27 } : Room).cells ({ frames := 2, cells := 0, slots := 0, locals := 27 } : Room).slots) := by
 refine MetFree.of_bodySF (plainFor_of_name pnp0) hisR ?_
 intro p e s m args below meth cd s₁ Bd hml0 hP hK
 obtain ⟨rfl, hZ, hh⟩ := hP
 have hx := Bd.exec
 have hby := Bd.bytes
 have hlk : meth.locks = false := BodyLoose.notSynchronized Bd
 have hml : cd.maxLocals = 3 := hml0
 have hown : s.vm.findClass "java/lang/String" = some m.cls := findClass_of_methodNamed Bd.named
 have X0 : Stand p l e ({ frames := 2, cells := 0, slots := 0, locals := 27 } : Room) s m #[(.ref x), (.int j)] below meth cd s₁ [] 0 0 := Stand.of_body Bd
 have e0 : s₁.heap = h0 := by rw [← hh, Bd.state]; rfl
 have N0 := Fr.nil n0
 have G : Go p e below s 0 0 (Qp0 Z x t kt c N vs j jj i fm zc h0 n0) (s₁.setTop (mkF m 0 #[.val (.ref x), .val (.int j), .unset] [])) := by
  refine Go.s (XS.aloadN X0.here hx rfl (hb hby dp1_0) rfl rfl) ?_
  obtain ⟨cq1, kq1, qa1, qb1, qc1⟩ := isOf hZ e0 E_x
  obtain ⟨_, _, ⟨T1, L1, k1, n1⟩, -, X1, ⟨Lc1, hQ1, l1, y1, z1⟩, st1⟩ := X0.virtualBack hx (y := mN18) (z := mN18) hown (mvT hZ (own_w hw 83 rfl)) (mvT hZ (own_w hw 84 rfl)) (notFace_of_selects (args := #[]) (mvT hZ (own_w hw 86 rfl))) (mvT hZ (own_w hw 86 rfl)) (mvT hZ (own_w hw 85 rfl)) (by decide) (backOf (W := 0) (rmil0 l Z a0 hw [] x zc h0 n0 O0 F_x_coder SC hcs) hZ (own_w hw 87 rfl) (own_w hw 16 rfl) (by decide) (by decide)) qa1 qc1 (g := (mkF m 1 #[.val (.ref x), .val (.int j), .unset] [(.ref x)])) rfl (by rw [hml]; rfl) (Steps.refl _) (argsL := []) (rest := []) (lenOf pdch_0 rfl) rfl (by show 2 * 0 + _ ≤ _; exact Nat.le_of_eq rfl) (hb hby dp1_1) (fun _ _ => ⟨rfl, e0, (by decide : 0 + 0 ≤ _), (by decide : 0 + 0 ≤ _)⟩)
  dsimp only [Pt.U, Pt.locs, Pt.cells, Pt.slots] at X1 l1 y1 z1 st1 hQ1
  subst y1 z1
  obtain ⟨rfl, Nc1, e1⟩ := hQ1
  have N1 : Fr n0 L1 := by rw [l1]; exact Fr.app N0 Nc1
  refine Go.tr st1 ?_
  show Go p e below s _ _ _ (T1.setTop (mkF m 4 #[.val (.ref x), .val (.int j), .unset] [(.int 1)]))
  refine Go.s (XS.ifNo X1.here hx rfl (hb hby dp1_4) rfl (by decide)) ?_
  show Go p e below s _ _ _ (T1.setTop (mkF m 7 #[.val (.ref x), .val (.int j), .unset] []))
  refine Go.s (XS.iloadN X1.here hx rfl (hb hby dp0_7) rfl) ?_
  refine Go.s (XS.aloadN X1.here hx rfl (hb hby dp0_8) rfl rfl) ?_
  obtain ⟨T2, X2, e2, st2⟩ := getF X1 hx hZ hown (host := "") (Or.inl (own_w hw 33 rfl)) Via.refl e1 F_x_value (g := (mkF m 9 #[.val (.ref x), .val (.int j), .unset] [(.ref x), (.int j)])) rfl rfl (hb hby dp0_9)
  refine Go.st st2 ?_
  show Go p e below s _ _ _ (T2.setTop (mkF m 12 #[.val (.ref x), .val (.int j), .unset] [(.ref t), (.int j)]))
  refine Go.s (own_len X2 hx hZ e2 V_t (g := (mkF m 12 #[.val (.ref x), .val (.int j), .unset] [(.ref t), (.int j)])) rfl rfl (hb hby dp0_12) _) ?_
  show Go p e below s _ _ _ (T2.setTop (mkF m 13 #[.val (.ref x), .val (.int j), .unset] [(.int N), (.int j)]))
  obtain ⟨_, _, ⟨T3, L3, k3, n3⟩, -, X3, ⟨Lc3, hQ3, l3, y3, z3⟩, st3⟩ := Jvm.LawKit.callS X2 hx (y := mN15) hown (mvT hZ (own_w hw 105 rfl)) (mvT hZ (own_w hw 93 rfl)) (mvT hZ (own_w hw 16 rfl)) (mvT hZ (own_w hw 94 rfl)) (by decide) (backOf (W := 0) (rmsk l Z a0 hw [] j N fm h0 n0 O0 hj0 hjN SF rf) hZ (own_w hw 94 rfl) (own_w hw 16 rfl) (by decide) (by decide)) (g := (mkF m 13 #[.val (.ref x), .val (.int j), .unset] [(.int N), (.int j)])) rfl (by rw [hml]; rfl) (argsL := [(.int j), (.int N)]) (rest := []) (lenOf pduk_1 rfl) rfl (by show 2 * 0 + _ ≤ _; exact Nat.le_of_eq rfl) (hb hby dp0_13) (fun _ _ => ⟨rfl, e2, (by decide : 0 + 0 ≤ _), (by decide : 0 + 0 ≤ _)⟩)
  dsimp only [Pt.U, Pt.locs, Pt.cells, Pt.slots] at X3 l3 y3 z3 st3 hQ3
  subst y3 z3
  obtain ⟨rfl, Nc3, e3⟩ := hQ3
  have N3 : Fr n0 L3 := by rw [l3]; exact Fr.app N1 Nc3
  refine Go.st st3 ?_
  show Go p e below s _ _ _ (T3.setTop (mkF m 16 #[.val (.ref x), .val (.int j), .unset] []))
  refine Go.s (XS.aloadN X3.here hx rfl (hb hby dp0_16) rfl rfl) ?_
  obtain ⟨T4, X4, e4, st4⟩ := getF X3 hx hZ hown (host := "") (Or.inl (own_w hw 33 rfl)) Via.refl e3 F_x_value (g := (mkF m 17 #[.val (.ref x), .val (.int j), .unset] [(.ref x)])) rfl rfl (hb hby dp0_17)
  refine Go.st st4 ?_
  show Go p e below s _ _ _ (T4.setTop (mkF m 20 #[.val (.ref x), .val (.int j), .unset] [(.ref t)]))
  refine Go.s (XS.iloadN X4.here hx rfl (hb hby dp0_20) rfl) ?_
  refine Go.s (own_baloadB X4 hx hZ e4 V_t hj0 hjN (v := .int (StrChars.lo8 c)) (by rw [hi]; exact hv0) (g := (mkF m 21 #[.val (.ref x), .val (.int j), .unset] [(.int j), (.ref t)])) rfl rfl (hb hby dp0_21) _) ?_
  show Go p e below s _ _ _ (T4.setTop (mkF m 22 #[.val (.ref x), .val (.int j), .unset] [(.int (StrChars.lo8 c))]))
  refine Go.s (XS.sipush X4.here hx rfl (hb hby dp0_22)) ?_
  refine Go.s (XS.iand X4.here hx rfl (hb hby dp0_25) rfl) ?_
  exact Go.ret X4 hlk (some (.int ((StrChars.lo8 c) &&& (255 : Int32)))) (fun h => by rw [Bd.returns] at h; cases h) (by rw [e4]; exact ⟨congrArg some (congrArg Value.int (StrChars.lo8_mask hcc.1 hcc.2)), N3, rfl⟩) (by decide) (by decide) (fun fs hr => retI X4 hx Bd.returns (hb hby dp0_26) hr)
 obtain ⟨s2, o2, st2, r2⟩ := G
 exact ⟨s2, o2, castTop (efp0 m x j) st2, r2⟩
theorem own_ltN {a b : Nat} (h : Int32.ofNat a < Int32.ofNat b) (ha : a ≤ 9) (hb : b ≤ 9) : a < b := by
  rw [own_lt, Int32.toInt_ofNat_of_lt (by omega), Int32.toInt_ofNat_of_lt (by omega)] at h
  omega
def oCpL (cs : List Int32) (i : Nat) : Int32 := oCp (cs.getD i 0) (cs.getD (i + 1) 0) (Int32.ofNat i) (Int32.ofNat cs.length)
theorem own_cpLat {c d j m : Int32} (h : ¬ (255 : Int32) < c) : oCp c d j m = c := by
  have h1 : c < (55296 : Int32) := by
    simp only [own_lt, Int32.reduceToInt] at h ⊢
    omega
  have h2 : fHS c = (0 : Int32) := by unfold fHS; rw [if_pos h1]
  unfold oCp
  rw [if_pos h2]
theorem own_hs2 {cs : List Int32} (hs : ∀ c ∈ cs, ¬ (255 : Int32) < c) (j : Nat) : ¬ (255 : Int32) < cs.getD j 0 := by
  rw [List.getD_eq_getElem?_getD]
  cases hj : cs[j]? with
  | none => decide
  | some z => exact hs z (List.mem_of_getElem? hj)
theorem own_chA {p : Program} {l : Launch} {e : Env} {R : Room} {s : State} {args : Array Value} {below : List Frame} {len W : Nat} {Z : State} {a0 : Array Value} {h : Heap} {n0 : Nat} (hZ : Z.Warmed39 s.vm) (hw : ∀ d ∈ tables_1, d.before a0 Z = true) (O : Old Z n0 h) {x t : Addr} {kt : ClassId} {cs : List Int32} {cd N : Int32} {vs : List Value}
    (E : Exa Z h x "java/lang/String") (C : Fld Z h x "java/lang/String" "coder" "B" (.int cd)) (V : Fld Z h x "java/lang/String" "value" "[B" (.ref t)) (K : Arv Z h t kt .byte N vs (.int 0)) (hc : StrChars.Road.CodA cs cd N vs) (hb : ∀ c ∈ cs, ¬ c < 0 ∧ ¬ (65535 : Int32) < c) (hl : cs.length ≤ 4) {zc : Int32} {fm : Value} (SA : Sta Z Z.heap "java/lang/StringUTF16" "$assertionsDisabled" "Z" (.int 1)) (SHI : Sta Z Z.heap "java/lang/StringUTF16" "HI_BYTE_SHIFT" "I" (.int 0)) (SLO : Sta Z Z.heap "java/lang/StringUTF16" "LO_BYTE_SHIFT" "I" (.int 8)) (SF : Sta Z Z.heap "jdk/internal/util/Preconditions" "SIOOBE_FORMATTER" "Ljava/util/function/BiFunction;" fm) (rf : fm.isRef = true) (SC : Sta Z Z.heap "java/lang/String" "COMPACT_STRINGS" "Z" (.int zc)) (hcs : ¬ zc = 0) {i : Nat} (hi : i < cs.length) (hfr : 5 ≤ R.frames) (hlo : W + 66 ≤ R.locals) :
    Back l R p e below s args mN19 len W (fun P a => a = #[.ref x, .int (Int32.ofNat i)] ∧ P.U.heap = h ∧ P.cells + 0 ≤ R.cells ∧ P.slots + 0 ≤ R.slots) (fun P _ v B => ∃ L, (v = some (.int (cs.getD i 0)) ∧ Fr n0 L ∧ B.U.heap = h) ∧ B.locs = P.locs ++ L ∧ B.cells = P.cells + 0 ∧ B.slots = P.slots + 0) := by
  have hchn : ∀ d ∈ StrChars.Road.wordsChN, d.before a0 Z = true := fun d hd => hw d ((by decide +kernel : ∀ d ∈ StrChars.Road.wordsChN, d ∈ tables_1) d hd)
  have w := own_wix i cs.length hi hl
  rcases hc with ⟨rfl, rfl, rfl, hs⟩ | ⟨rfl, rfl, rfl, hs⟩
  · refine Back.mono (StrChars.Road.chN hZ hchn (kI := 4) (own_w hw 15 rfl) (i := i) (j := Int32.ofNat i) E V C K (Or.inl ⟨rfl, rfl, rfl, hs⟩) hb (SC.ext O.2) hcs (SF.ext O.2) rf (Nat.le_trans hl (by decide)) hi rfl (Nat.le_trans (by decide) hfr) (by omega)) (fun _ _ h => h) (fun P a v B _ hq => ?_)
    obtain ⟨L, ⟨q1, q2, q3⟩, r⟩ := hq
    exact ⟨L, ⟨q1, by rw [q2]; exact Fr.nil _, q3⟩, r⟩
  · exact backOf (rmch l Z a0 hw [] x t kt (cs.getD i 0) _ _ (Int32.ofNat i) (Int32.ofNat (2 * i)) (2 * i) fm zc h n0 O E C V K w.1 w.2.1 w.2.2.1 w.2.2.2.1 w.2.2.2.2.1 w.2.2.2.2.2.1 w.2.2.2.2.2.2.1 (StrChars.Road.wide_lo _ cs i hi) (StrChars.Road.wide_hi _ cs i hi) (own_hbD hb i) SA SHI SLO w.2.2.2.2.2.2.2.1 w.2.2.2.2.2.2.2.2.1 SF rf SC hcs) hZ (own_w hw 82 rfl) (own_w hw 16 rfl) (Nat.le_trans (by decide) hfr) (by show W + (2 + 11) + 53 ≤ R.locals; omega)
theorem own_cpA {p : Program} {l : Launch} {e : Env} {R : Room} {s : State} {args : Array Value} {below : List Frame} {len W : Nat} {Z : State} {a0 : Array Value} {h : Heap} {n0 : Nat} (hZ : Z.Warmed39 s.vm) (hw : ∀ d ∈ tables_1, d.before a0 Z = true) (O : Old Z n0 h) {x t : Addr} {kt : ClassId} {cs : List Int32} {cd N : Int32} {vs : List Value}
    (E : Exa Z h x "java/lang/String") (C : Fld Z h x "java/lang/String" "coder" "B" (.int cd)) (V : Fld Z h x "java/lang/String" "value" "[B" (.ref t)) (K : Arv Z h t kt .byte N vs (.int 0)) (hc : StrChars.Road.CodA cs cd N vs) (hb : ∀ c ∈ cs, ¬ c < 0 ∧ ¬ (65535 : Int32) < c) (hl : cs.length ≤ 4) {zc : Int32} {fm : Value} (SA : Sta Z Z.heap "java/lang/StringUTF16" "$assertionsDisabled" "Z" (.int 1)) (SHI : Sta Z Z.heap "java/lang/StringUTF16" "HI_BYTE_SHIFT" "I" (.int 0)) (SLO : Sta Z Z.heap "java/lang/StringUTF16" "LO_BYTE_SHIFT" "I" (.int 8)) (SF : Sta Z Z.heap "jdk/internal/util/Preconditions" "SIOOBE_FORMATTER" "Ljava/util/function/BiFunction;" fm) (rf : fm.isRef = true) (SC : Sta Z Z.heap "java/lang/String" "COMPACT_STRINGS" "Z" (.int zc)) (hcs : ¬ zc = 0) {i : Nat} (hi : i < cs.length) (hfr : 5 ≤ R.frames) (hlo : W + 66 ≤ R.locals) :
    Back l R p e below s args mN25 len W (fun P a => a = #[.ref x, .int (Int32.ofNat i)] ∧ P.U.heap = h ∧ P.cells + 0 ≤ R.cells ∧ P.slots + 0 ≤ R.slots) (fun P _ v B => ∃ L, (v = some (.int (oCpL cs i)) ∧ Fr n0 L ∧ B.U.heap = h) ∧ B.locs = P.locs ++ L ∧ B.cells = P.cells + 0 ∧ B.slots = P.slots + 0) := by
  have w := own_wix i cs.length hi hl
  rcases hc with ⟨rfl, rfl, rfl, hs⟩ | ⟨rfl, rfl, rfl, hs⟩
  · refine Back.mono (backOf (rmp0 l Z a0 hw [] x t kt (cs.getD i 0) _ _ (Int32.ofNat i) 0 i fm zc h n0 O E C V K w.2.2.2.2.2.2.2.2.2.1 (StrChars.Road.low_at _ cs i hi) ⟨(own_hbD hb i).1, own_hs2 hs i⟩ w.2.2.2.2.2.2.2.1 w.2.2.2.2.2.2.2.2.2.2.1 SF rf SC hcs) hZ (own_w hw 104 rfl) (own_w hw 16 rfl) (Nat.le_trans (by decide) hfr) (by show W + (3 + 11) + 27 ≤ R.locals; omega)) (fun _ _ h => h) (fun P a v B _ hq => ?_)
    obtain ⟨L, ⟨q1, q2, q3⟩, r⟩ := hq
    exact ⟨L, ⟨by rw [q1]; unfold oCpL; rw [own_cpLat (own_hs2 hs i)], q2, q3⟩, r⟩
  · refine Back.mono (backOf (rmp1 l Z a0 hw [] x t kt (cs.getD i 0) _ _ (Int32.ofNat i) (Int32.ofNat (2 * i)) (2 * i) (cs.getD (i + 1) 0) (Int32.ofNat (2 * (i + 1))) (2 * (i + 1)) fm zc h n0 O E C V K w.1 w.2.1 w.2.2.1 w.2.2.2.1 w.2.2.2.2.1 w.2.2.2.2.2.1 w.2.2.2.2.2.2.1 (StrChars.Road.wide_lo _ cs i hi) (StrChars.Road.wide_hi _ cs i hi) (own_hbD hb i) SA SHI SLO (fun q => by rw [w.2.2.2.2.2.2.2.2.2.2.2.2, w.2.2.2.2.2.2.2.2.2.2.2.1] at q; have hi2 := own_ltN q (by omega) (by omega); have w2 := own_wix (i + 1) cs.length hi2 hl; rw [w.2.2.2.2.2.2.2.2.2.2.2.1]; exact ⟨w2.1, w2.2.1, w2.2.2.1, w2.2.2.2.1, w2.2.2.2.2.1, w2.2.2.2.2.2.1, w2.2.2.2.2.2.2.1, StrChars.Road.wide_lo _ cs (i + 1) hi2, StrChars.Road.wide_hi _ cs (i + 1) hi2, own_hbD hb (i + 1)⟩) w.2.2.2.2.2.2.2.2.1 w.2.2.2.2.2.2.2.1 SF rf SC hcs) hZ (own_w hw 104 rfl) (own_w hw 16 rfl) (Nat.le_trans (by decide) hfr) (by show W + (3 + 11) + 44 ≤ R.locals; omega)) (fun _ _ h => h) (fun P a v B _ hq => ?_)
    obtain ⟨L, ⟨q1, q2, q3⟩, r⟩ := hq
    exact ⟨L, ⟨by rw [q1, w.2.2.2.2.2.2.2.2.2.2.2.2]; rfl, q2, q3⟩, r⟩
theorem dmn_0 : decode jdk_29_method_69_code 0 = .ok (.iload_n 0, 1) := by decide +kernel
theorem dmn_1 : decode jdk_29_method_69_code 1 = .ok (.iload_n 1, 1) := by decide +kernel
theorem dmn_2 : decode jdk_29_method_69_code 2 = .ok (.if_icmp .gt 7, 3) := by decide +kernel
theorem dmn_5 : decode jdk_29_method_69_code 5 = .ok (.iload_n 0, 1) := by decide +kernel
theorem dmn_6 : decode jdk_29_method_69_code 6 = .ok (.goto 4, 3) := by decide +kernel
theorem dmn_9 : decode jdk_29_method_69_code 9 = .ok (.iload_n 1, 1) := by decide +kernel
theorem dmn_10 : decode jdk_29_method_69_code 10 = .ok (.ireturn, 1) := by decide +kernel
theorem efmn (m : MethodId) (x0 : Int32) (x1 : Int32) : entryFrame m #[(.int x0), (.int x1)] 2 = mkF m 0 #[.val (.int x0), .val (.int x1)] [] := by first | (simp [entryFrame, mkF, argsToLocals, Value.category, maxLocals]; done) | rfl
def fMn (p0 : Int32) (p1 : Int32) : Int32 := (if p1 < p0 then p1 else p0)
def Qmn (Z : State) (p0 : Int32) (p1 : Int32) (h0 : Heap) (n0 : Nat) (v : Option Value) (h : Heap) (L : List Loc) : Prop := v = some (.int (fMn p0 p1)) ∧ Fr n0 L ∧ h = h0
theorem rmmn (l : Launch) (Z : State) (a0 : Array Value) (hw : ∀ d ∈ tables_1, d.before a0 Z = true) (ws : List Jvm.Cond) (p0 : Int32) (p1 : Int32) (h0 : Heap) (n0 : Nat) (O0 : Old Z n0 h0)  :
  MetFree l mN26 (head1 (Jvm.Cond.code mN26 jdk_29_method_69_code 2 (some .int) :: ws) ({ frames := 0, cells := 0, slots := 0, locals := 0 } : Room)) (fun A_ U_ => A_ = #[(.int p0), (.int p1)] ∧ Z.Warmed39 U_.vm ∧ U_.heap = h0) (fun _ _ _ _ _ => True) (fun _ U o U' => ∃ v L, o = .returned v ∧ Qmn Z p0 p1 h0 n0 v U'.heap L ∧ FrameEnd U o U' L ({ frames := 0, cells := 0, slots := 0, locals := 0 } : Room).cells ({ frames := 0, cells := 0, slots := 0, locals := 0 } : Room).slots) := by
 refine MetFree.of_bodySF (by decide +kernel) hisR ?_
 intro p e s m args below meth cd s₁ Bd hml0 hP hK
 obtain ⟨rfl, hZ, hh⟩ := hP
 have hx := Bd.exec
 have hby := Bd.bytes
 have hlk : meth.locks = false := BodyLoose.notSynchronized Bd
 have hml : cd.maxLocals = 2 := hml0
 have hown : s.vm.findClass "java/lang/Math" = some m.cls := findClass_of_methodNamed Bd.named
 have X0 : Stand p l e ({ frames := 0, cells := 0, slots := 0, locals := 0 } : Room) s m #[(.int p0), (.int p1)] below meth cd s₁ [] 0 0 := Stand.of_body Bd
 have e0 : s₁.heap = h0 := by rw [← hh, Bd.state]; rfl
 have N0 := Fr.nil n0
 have G : Go p e below s 0 0 (Qmn Z p0 p1 h0 n0) (s₁.setTop (mkF m 0 #[.val (.int p0), .val (.int p1)] [])) := by
  refine Go.s (XS.iloadN X0.here hx rfl (hb hby dmn_0) rfl) ?_
  refine Go.s (XS.iloadN X0.here hx rfl (hb hby dmn_1) rfl) ?_
  by_cases c2_1 : p1 < p0
  · refine Go.s (XS.icmpYes X0.here hx rfl (pc0 := 2) (pc' := 9) rfl (hb hby dmn_2) rfl (XT.ii_gt_t c2_1) (by decide) (by decide)) ?_
    show Go p e below s _ _ _ (s₁.setTop (mkF m 9 #[.val (.int p0), .val (.int p1)] []))
    refine Go.s (XS.iloadN X0.here hx rfl (hb hby dmn_9) rfl) ?_
    exact Go.ret X0 hlk (some (.int p1)) (fun h => by rw [Bd.returns] at h; cases h) (by rw [e0]; exact ⟨own_res (z' := p1) (by unfold fMn; rw [if_pos c2_1]) rfl, N0, rfl⟩) (by decide) (by decide) (fun fs hr => retI X0 hx Bd.returns (hb hby dmn_10) hr)
  · refine Go.s (XS.icmpNo X0.here hx rfl (hb hby dmn_2) rfl (XT.ii_gt_f c2_1)) ?_
    show Go p e below s _ _ _ (s₁.setTop (mkF m 5 #[.val (.int p0), .val (.int p1)] []))
    refine Go.s (XS.iloadN X0.here hx rfl (hb hby dmn_5) rfl) ?_
    refine Go.s (XS.goto X0.here hx rfl (pc0 := 6) (pc' := 10) rfl (hb hby dmn_6) (by decide) (by decide)) ?_
    exact Go.ret X0 hlk (some (.int p0)) (fun h => by rw [Bd.returns] at h; cases h) (by rw [e0]; exact ⟨own_res (z' := p0) (by unfold fMn; rw [if_neg c2_1]) rfl, N0, rfl⟩) (by decide) (by decide) (fun fs hr => retI X0 hx Bd.returns (hb hby dmn_10) hr)
 obtain ⟨s2, o2, st2, r2⟩ := G
 exact ⟨s2, o2, castTop (efmn m p0 p1) st2, r2⟩
theorem dic_0 : decode jdk_33_method_40_code 0 = .ok (.iload_n 0, 1) := by decide +kernel
theorem dic_1 : decode jdk_33_method_40_code 1 = .ok (.iload_n 1, 1) := by decide +kernel
theorem dic_2 : decode jdk_33_method_40_code 2 = .ok (.if_icmp .ge 7, 3) := by decide +kernel
theorem dic_5 : decode jdk_33_method_40_code 5 = .ok (.iconst (-1), 1) := by decide +kernel
theorem dic_6 : decode jdk_33_method_40_code 6 = .ok (.goto 13, 3) := by decide +kernel
theorem dic_9 : decode jdk_33_method_40_code 9 = .ok (.iload_n 0, 1) := by decide +kernel
theorem dic_10 : decode jdk_33_method_40_code 10 = .ok (.iload_n 1, 1) := by decide +kernel
theorem dic_11 : decode jdk_33_method_40_code 11 = .ok (.if_icmp .ne 7, 3) := by decide +kernel
theorem dic_14 : decode jdk_33_method_40_code 14 = .ok (.iconst 0, 1) := by decide +kernel
theorem dic_15 : decode jdk_33_method_40_code 15 = .ok (.goto 4, 3) := by decide +kernel
theorem dic_18 : decode jdk_33_method_40_code 18 = .ok (.iconst 1, 1) := by decide +kernel
theorem dic_19 : decode jdk_33_method_40_code 19 = .ok (.ireturn, 1) := by decide +kernel
theorem pnic : plainName "java/lang/Integer" = true := by first | (simp [plainName, overriddenIn]; done) | decide +kernel
theorem efic (m : MethodId) (x0 : Int32) (x1 : Int32) : entryFrame m #[(.int x0), (.int x1)] 2 = mkF m 0 #[.val (.int x0), .val (.int x1)] [] := by first | (simp [entryFrame, mkF, argsToLocals, Value.category, maxLocals]; done) | rfl
def fIc (p0 : Int32) (p1 : Int32) : Int32 := (if p0 < p1 then (-1 : Int32) else (if p0 = p1 then (0 : Int32) else (1 : Int32)))
def Qic (Z : State) (p0 : Int32) (p1 : Int32) (h0 : Heap) (n0 : Nat) (v : Option Value) (h : Heap) (L : List Loc) : Prop := v = some (.int (fIc p0 p1)) ∧ Fr n0 L ∧ h = h0
theorem rmic (l : Launch) (Z : State) (a0 : Array Value) (hw : ∀ d ∈ tables_1, d.before a0 Z = true) (ws : List Jvm.Cond) (p0 : Int32) (p1 : Int32) (h0 : Heap) (n0 : Nat) (O0 : Old Z n0 h0)  :
  MetFree l mN27 (head1 (Jvm.Cond.code mN27 jdk_33_method_40_code 2 (some .int) :: ws) ({ frames := 0, cells := 0, slots := 0, locals := 0 } : Room)) (fun A_ U_ => A_ = #[(.int p0), (.int p1)] ∧ Z.Warmed39 U_.vm ∧ U_.heap = h0) (fun _ _ _ _ _ => True) (fun _ U o U' => ∃ v L, o = .returned v ∧ Qic Z p0 p1 h0 n0 v U'.heap L ∧ FrameEnd U o U' L ({ frames := 0, cells := 0, slots := 0, locals := 0 } : Room).cells ({ frames := 0, cells := 0, slots := 0, locals := 0 } : Room).slots) := by
 refine MetFree.of_bodySF (plainFor_of_name pnic) hisR ?_
 intro p e s m args below meth cd s₁ Bd hml0 hP hK
 obtain ⟨rfl, hZ, hh⟩ := hP
 have hx := Bd.exec
 have hby := Bd.bytes
 have hlk : meth.locks = false := BodyLoose.notSynchronized Bd
 have hml : cd.maxLocals = 2 := hml0
 have hown : s.vm.findClass "java/lang/Integer" = some m.cls := findClass_of_methodNamed Bd.named
 have X0 : Stand p l e ({ frames := 0, cells := 0, slots := 0, locals := 0 } : Room) s m #[(.int p0), (.int p1)] below meth cd s₁ [] 0 0 := Stand.of_body Bd
 have e0 : s₁.heap = h0 := by rw [← hh, Bd.state]; rfl
 have N0 := Fr.nil n0
 have G : Go p e below s 0 0 (Qic Z p0 p1 h0 n0) (s₁.setTop (mkF m 0 #[.val (.int p0), .val (.int p1)] [])) := by
  refine Go.s (XS.iloadN X0.here hx rfl (hb hby dic_0) rfl) ?_
  refine Go.s (XS.iloadN X0.here hx rfl (hb hby dic_1) rfl) ?_
  by_cases c2_1 : p0 < p1
  · refine Go.s (XS.icmpNo X0.here hx rfl (hb hby dic_2) rfl (XT.ii_ge_f c2_1)) ?_
    show Go p e below s _ _ _ (s₁.setTop (mkF m 5 #[.val (.int p0), .val (.int p1)] []))
    refine Go.s (XS.iconst X0.here hx rfl (hb hby dic_5)) ?_
    refine Go.s (XS.goto X0.here hx rfl (pc0 := 6) (pc' := 19) rfl (hb hby dic_6) (by decide) (by decide)) ?_
    exact Go.ret X0 hlk (some (.int (-1))) (fun h => by rw [Bd.returns] at h; cases h) (by rw [e0]; exact ⟨own_res (z' := (-1 : Int32)) (by unfold fIc; rw [if_pos c2_1]) rfl, N0, rfl⟩) (by decide) (by decide) (fun fs hr => retI X0 hx Bd.returns (hb hby dic_19) hr)
  · refine Go.s (XS.icmpYes X0.here hx rfl (pc0 := 2) (pc' := 9) rfl (hb hby dic_2) rfl (XT.ii_ge_t c2_1) (by decide) (by decide)) ?_
    show Go p e below s _ _ _ (s₁.setTop (mkF m 9 #[.val (.int p0), .val (.int p1)] []))
    refine Go.s (XS.iloadN X0.here hx rfl (hb hby dic_9) rfl) ?_
    refine Go.s (XS.iloadN X0.here hx rfl (hb hby dic_10) rfl) ?_
    by_cases c11_2 : p0 = p1
    · refine Go.s (XS.icmpNo X0.here hx rfl (hb hby dic_11) rfl (XT.ii_ne_f c11_2)) ?_
      show Go p e below s _ _ _ (s₁.setTop (mkF m 14 #[.val (.int p0), .val (.int p1)] []))
      refine Go.s (XS.iconst X0.here hx rfl (hb hby dic_14)) ?_
      refine Go.s (XS.goto X0.here hx rfl (pc0 := 15) (pc' := 19) rfl (hb hby dic_15) (by decide) (by decide)) ?_
      exact Go.ret X0 hlk (some (.int 0)) (fun h => by rw [Bd.returns] at h; cases h) (by rw [e0]; exact ⟨own_res (z' := (0 : Int32)) (by unfold fIc; rw [if_neg c2_1, if_pos c11_2]) rfl, N0, rfl⟩) (by decide) (by decide) (fun fs hr => retI X0 hx Bd.returns (hb hby dic_19) hr)
    · refine Go.s (XS.icmpYes X0.here hx rfl (pc0 := 11) (pc' := 18) rfl (hb hby dic_11) rfl (XT.ii_ne_t c11_2) (by decide) (by decide)) ?_
      show Go p e below s _ _ _ (s₁.setTop (mkF m 18 #[.val (.int p0), .val (.int p1)] []))
      refine Go.s (XS.iconst X0.here hx rfl (hb hby dic_18)) ?_
      exact Go.ret X0 hlk (some (.int 1)) (fun h => by rw [Bd.returns] at h; cases h) (by rw [e0]; exact ⟨own_res (z' := (1 : Int32)) (by unfold fIc; rw [if_neg c2_1, if_neg c11_2]) rfl, N0, rfl⟩) (by decide) (by decide) (fun fs hr => retI X0 hx Bd.returns (hb hby dic_19) hr)
 obtain ⟨s2, o2, st2, r2⟩ := G
 exact ⟨s2, o2, castTop (efic m p0 p1) st2, r2⟩
theorem own_mnl {k a b : Int32} (h : k < fMn a b) : k < a ∧ k < b := by
  unfold fMn at h
  split at h <;> simp only [own_lt] at * <;> omega
theorem own_no4 {a b : Nat} (h : a ≤ 4) : ¬ (4 : Int32) < fMn (Int32.ofNat a) (Int32.ofNat b) := fun q => by
  have := (own_mnl q).1
  rw [own_lt, Int32.toInt_ofNat_of_lt (by omega)] at this
  simp only [Int32.reduceToInt] at this
  omega
def oCmp (cs ds : List Int32) : Int32 := (if (0 : Int32) < (fMn (Int32.ofNat cs.length) (Int32.ofNat ds.length)) then (if (cs.getD 0 0) = (ds.getD 0 0) then (if (1 : Int32) < (fMn (Int32.ofNat cs.length) (Int32.ofNat ds.length)) then (if (cs.getD 1 0) = (ds.getD 1 0) then (if (2 : Int32) < (fMn (Int32.ofNat cs.length) (Int32.ofNat ds.length)) then (if (cs.getD 2 0) = (ds.getD 2 0) then (if (3 : Int32) < (fMn (Int32.ofNat cs.length) (Int32.ofNat ds.length)) then (if (cs.getD 3 0) = (ds.getD 3 0) then (fIc (Int32.ofNat cs.length) (Int32.ofNat ds.length)) else (fIc (oCpL cs 3) (oCpL ds 3))) else (fIc (Int32.ofNat cs.length) (Int32.ofNat ds.length))) else (fIc (oCpL cs 2) (oCpL ds 2))) else (fIc (Int32.ofNat cs.length) (Int32.ofNat ds.length))) else (fIc (oCpL cs 1) (oCpL ds 1))) else (fIc (Int32.ofNat cs.length) (Int32.ofNat ds.length))) else (fIc (oCpL cs 0) (oCpL ds 0))) else (fIc (Int32.ofNat cs.length) (Int32.ofNat ds.length)))
theorem dcm_0 : decode prog_22_method_8_code 0 = .ok (.aload_n 0, 1) := by decide +kernel
theorem dcm_1 : decode prog_22_method_8_code 1 = .ok (.invokevirtual 144, 3) := by decide +kernel
theorem dcm_4 : decode prog_22_method_8_code 4 = .ok (.aload_n 1, 1) := by decide +kernel
theorem dcm_5 : decode prog_22_method_8_code 5 = .ok (.invokevirtual 144, 3) := by decide +kernel
theorem dcm_8 : decode prog_22_method_8_code 8 = .ok (.invokestatic 148, 3) := by decide +kernel
theorem dcm_11 : decode prog_22_method_8_code 11 = .ok (.istore_n 2, 1) := by decide +kernel
theorem dcm_12 : decode prog_22_method_8_code 12 = .ok (.iconst 0, 1) := by decide +kernel
theorem dcm_13 : decode prog_22_method_8_code 13 = .ok (.istore_n 3, 1) := by decide +kernel
theorem dcm_14 : decode prog_22_method_8_code 14 = .ok (.iload_n 3, 1) := by decide +kernel
theorem dcm_15 : decode prog_22_method_8_code 15 = .ok (.iload_n 2, 1) := by decide +kernel
theorem dcm_16 : decode prog_22_method_8_code 16 = .ok (.if_icmp .ge 36, 3) := by decide +kernel
theorem dcm_19 : decode prog_22_method_8_code 19 = .ok (.aload_n 0, 1) := by decide +kernel
theorem dcm_20 : decode prog_22_method_8_code 20 = .ok (.iload_n 3, 1) := by decide +kernel
theorem dcm_21 : decode prog_22_method_8_code 21 = .ok (.invokevirtual 154, 3) := by decide +kernel
theorem dcm_24 : decode prog_22_method_8_code 24 = .ok (.aload_n 1, 1) := by decide +kernel
theorem dcm_25 : decode prog_22_method_8_code 25 = .ok (.iload_n 3, 1) := by decide +kernel
theorem dcm_26 : decode prog_22_method_8_code 26 = .ok (.invokevirtual 154, 3) := by decide +kernel
theorem dcm_29 : decode prog_22_method_8_code 29 = .ok (.if_icmp .eq 17, 3) := by decide +kernel
theorem dcm_32 : decode prog_22_method_8_code 32 = .ok (.aload_n 0, 1) := by decide +kernel
theorem dcm_33 : decode prog_22_method_8_code 33 = .ok (.iload_n 3, 1) := by decide +kernel
theorem dcm_34 : decode prog_22_method_8_code 34 = .ok (.invokevirtual 158, 3) := by decide +kernel
theorem dcm_37 : decode prog_22_method_8_code 37 = .ok (.aload_n 1, 1) := by decide +kernel
theorem dcm_38 : decode prog_22_method_8_code 38 = .ok (.iload_n 3, 1) := by decide +kernel
theorem dcm_39 : decode prog_22_method_8_code 39 = .ok (.invokevirtual 158, 3) := by decide +kernel
theorem dcm_42 : decode prog_22_method_8_code 42 = .ok (.invokestatic 161, 3) := by decide +kernel
theorem dcm_45 : decode prog_22_method_8_code 45 = .ok (.ireturn, 1) := by decide +kernel
theorem dcm_46 : decode prog_22_method_8_code 46 = .ok (.iinc 3 1, 3) := by decide +kernel
theorem dcm_49 : decode prog_22_method_8_code 49 = .ok (.goto (-35), 3) := by decide +kernel
theorem dcm_52 : decode prog_22_method_8_code 52 = .ok (.aload_n 0, 1) := by decide +kernel
theorem dcm_53 : decode prog_22_method_8_code 53 = .ok (.invokevirtual 144, 3) := by decide +kernel
theorem dcm_56 : decode prog_22_method_8_code 56 = .ok (.aload_n 1, 1) := by decide +kernel
theorem dcm_57 : decode prog_22_method_8_code 57 = .ok (.invokevirtual 144, 3) := by decide +kernel
theorem dcm_60 : decode prog_22_method_8_code 60 = .ok (.invokestatic 161, 3) := by decide +kernel
theorem dcm_63 : decode prog_22_method_8_code 63 = .ok (.ireturn, 1) := by decide +kernel
theorem pdcm_0 : parseMethodDescriptor "()I" = some ⟨[], some .int⟩ := by decide +kernel
theorem pdcm_1 : parseMethodDescriptor "(II)I" = some ⟨[.int, .int], some .int⟩ := by decide +kernel
theorem pdcm_2 : parseMethodDescriptor "(I)C" = some ⟨[.int], some .char⟩ := by decide +kernel
theorem pncm : plainName "com/example/rootward/rootward/model/ShortestPathTree" = true := by first | (simp [plainName, overriddenIn]; done) | decide +kernel
theorem efcm (m : MethodId) (x0 : Addr) (x1 : Addr) : entryFrame m #[(.ref x0), (.ref x1)] 4 = mkF m 0 #[.val (.ref x0), .val (.ref x1), .unset, .unset] [] := by first | (simp [entryFrame, mkF, argsToLocals, Value.category, maxLocals]; done) | rfl
def Qcm (Z : State) (x : Addr) (t : Addr) (kt : ClassId) (cx : Int32) (N : Int32) (vs : List Value) (cs : List Int32) (y : Addr) (ty : Addr) (kty : ClassId) (cy : Int32) (NY : Int32) (vy : List Value) (ds : List Int32) (zc : Int32) (fm : Value) (h0 : Heap) (n0 : Nat) (v : Option Value) (h : Heap) (L : List Loc) : Prop := v = some (.int (oCmp cs ds)) ∧ Fr n0 L ∧ h = h0
theorem rmcm (l : Launch) (Z : State) (a0 : Array Value) (hw : ∀ d ∈ tables_1, d.before a0 Z = true) (ws : List Jvm.Cond) (x : Addr) (t : Addr) (kt : ClassId) (cx : Int32) (N : Int32) (vs : List Value) (cs : List Int32) (y : Addr) (ty : Addr) (kty : ClassId) (cy : Int32) (NY : Int32) (vy : List Value) (ds : List Int32) (zc : Int32) (fm : Value) (h0 : Heap) (n0 : Nat) (O0 : Old Z n0 h0) (E_x : Exa Z h0 x "java/lang/String") (F_x_coder : Fld Z h0 x "java/lang/String" "coder" "B" (.int cx)) (F_x_value : Fld Z h0 x "java/lang/String" "value" "[B" (.ref t)) (V_t : Arv Z h0 t kt .byte N vs (.int 0)) (E_y : Exa Z h0 y "java/lang/String") (F_y_coder : Fld Z h0 y "java/lang/String" "coder" "B" (.int cy)) (F_y_value : Fld Z h0 y "java/lang/String" "value" "[B" (.ref ty)) (V_ty : Arv Z h0 ty kty .byte NY vy (.int 0)) (hcX : StrChars.Road.CodA cs cx N vs) (hbX : ∀ c ∈ cs, ¬ c < 0 ∧ ¬ (65535 : Int32) < c) (hlX : cs.length ≤ 4) (hcY : StrChars.Road.CodA ds cy NY vy) (hbY : ∀ c ∈ ds, ¬ c < 0 ∧ ¬ (65535 : Int32) < c) (hlY : ds.length ≤ 4) (SA : Sta Z Z.heap "java/lang/StringUTF16" "$assertionsDisabled" "Z" (.int 1)) (SHI : Sta Z Z.heap "java/lang/StringUTF16" "HI_BYTE_SHIFT" "I" (.int 0)) (SLO : Sta Z Z.heap "java/lang/StringUTF16" "LO_BYTE_SHIFT" "I" (.int 8)) (SF : Sta Z Z.heap "jdk/internal/util/Preconditions" "SIOOBE_FORMATTER" "Ljava/util/function/BiFunction;" fm) (rf : fm.isRef = true) (SC : Sta Z Z.heap "java/lang/String" "COMPACT_STRINGS" "Z" (.int zc)) (hcs : ¬ zc = 0) :
  MetFree l mN28 (head1 (Jvm.Cond.code mN28 prog_22_method_8_code 4 (some .int) :: ws) ({ frames := 5, cells := 0, slots := 0, locals := 67 } : Room)) (fun A_ U_ => A_ = #[(.ref x), (.ref y)] ∧ Z.Warmed39 U_.vm ∧ U_.heap = h0) (fun _ _ _ _ _ => True) (fun _ U o U' => ∃ v L, o = .returned v ∧ Qcm Z x t kt cx N vs cs y ty kty cy NY vy ds zc fm h0 n0 v U'.heap L ∧ FrameEnd U o U' L ({ frames := 5, cells := 0, slots := 0, locals := 67 } : Room).cells ({ frames := 5, cells := 0, slots := 0, locals := 67 } : Room).slots) := by
 refine MetFree.of_bodySF (plainFor_of_name pncm) hisR ?_
 intro p e s m args below meth cd s₁ Bd hml0 hP hK
 obtain ⟨rfl, hZ, hh⟩ := hP
 have hx := Bd.exec
 have hby := Bd.bytes
 have hlk : meth.locks = false := BodyLoose.notSynchronized Bd
 have hml : cd.maxLocals = 4 := hml0
 have hown : s.vm.findClass "com/example/rootward/rootward/model/ShortestPathTree" = some m.cls := findClass_of_methodNamed Bd.named
 have X0 : Stand p l e ({ frames := 5, cells := 0, slots := 0, locals := 67 } : Room) s m #[(.ref x), (.ref y)] below meth cd s₁ [] 0 0 := Stand.of_body Bd
 have e0 : s₁.heap = h0 := by rw [← hh, Bd.state]; rfl
 have N0 := Fr.nil n0
 have hlen : ∀ d ∈ StrChars.Road.wordsLen, d.before a0 Z = true := fun d hd => hw d ((by decide +kernel : ∀ d ∈ StrChars.Road.wordsLen, d ∈ tables_1) d hd)
 have G : Go p e below s 0 0 (Qcm Z x t kt cx N vs cs y ty kty cy NY vy ds zc fm h0 n0) (s₁.setTop (mkF m 0 #[.val (.ref x), .val (.ref y), .unset, .unset] [])) := by
  refine Go.s (XS.aloadN X0.here hx rfl (hb hby dcm_0) rfl rfl) ?_
  obtain ⟨cq1, kq1, qa1, qb1, qc1⟩ := isOf hZ e0 E_x
  obtain ⟨_, _, ⟨T1, L1, k1, n1⟩, -, X1, ⟨Lc1, hQ1, l1, y1, z1⟩, st1⟩ := X0.virtualBack hx (y := mN29) (z := mN29) hown (mvT hZ (own_w hw 42 rfl)) (mvT hZ (own_w hw 43 rfl)) (notFace_of_selects (args := #[]) (mvT hZ (own_w hw 45 rfl))) (mvT hZ (own_w hw 45 rfl)) (mvT hZ (own_w hw 44 rfl)) (by decide) (StrChars.Road.lenW (W := 0) hZ hlen (kI := 4) (own_w hw 15 rfl) (cs := cs) E_x F_x_value F_x_coder V_t hcX hbX (SC.ext O0.2) hcs (Nat.le_trans hlX (by decide)) (by decide) (by decide)) qa1 qc1 (g := (mkF m 1 #[.val (.ref x), .val (.ref y), .unset, .unset] [(.ref x)])) rfl (by rw [hml]; rfl) (Steps.refl _) (argsL := []) (rest := []) (lenOf pdcm_0 rfl) rfl (by show 2 * 0 + _ ≤ _; exact Nat.le_of_eq rfl) (hb hby dcm_1) (fun _ _ => ⟨rfl, e0, (by decide : 0 + 0 ≤ _), (by decide : 0 + 0 ≤ _)⟩)
  dsimp only [Pt.U, Pt.locs, Pt.cells, Pt.slots] at X1 l1 y1 z1 st1 hQ1
  subst y1 z1
  obtain ⟨rfl, el1, e1⟩ := hQ1
  have Nc1 : Fr n0 Lc1 := by rw [el1]; exact Fr.nil n0
  have N1 : Fr n0 L1 := by rw [l1]; exact Fr.app N0 Nc1
  refine Go.tr st1 ?_
  show Go p e below s _ _ _ (T1.setTop (mkF m 4 #[.val (.ref x), .val (.ref y), .unset, .unset] [(.int (Int32.ofNat cs.length))]))
  refine Go.s (XS.aloadN X1.here hx rfl (hb hby dcm_4) rfl rfl) ?_
  obtain ⟨cq2, kq2, qa2, qb2, qc2⟩ := isOf hZ e1 E_y
  obtain ⟨_, _, ⟨T2, L2, k2, n2⟩, -, X2, ⟨Lc2, hQ2, l2, y2, z2⟩, st2⟩ := X1.virtualBack hx (y := mN29) (z := mN29) hown (mvT hZ (own_w hw 42 rfl)) (mvT hZ (own_w hw 43 rfl)) (notFace_of_selects (args := #[]) (mvT hZ (own_w hw 45 rfl))) (mvT hZ (own_w hw 45 rfl)) (mvT hZ (own_w hw 44 rfl)) (by decide) (StrChars.Road.lenW (W := 1) hZ hlen (kI := 4) (own_w hw 15 rfl) (cs := ds) E_y F_y_value F_y_coder V_ty hcY hbY (SC.ext O0.2) hcs (Nat.le_trans hlY (by decide)) (by decide) (by decide)) qa2 qc2 (g := (mkF m 5 #[.val (.ref x), .val (.ref y), .unset, .unset] [(.ref y), (.int (Int32.ofNat cs.length))])) rfl (by rw [hml]; rfl) (Steps.refl _) (argsL := []) (rest := [(.int (Int32.ofNat cs.length))]) (lenOf pdcm_0 rfl) rfl (by show 2 * 0 + _ ≤ _; exact Nat.le_of_eq rfl) (hb hby dcm_5) (fun _ _ => ⟨rfl, e1, (by decide : 0 + 0 ≤ _), (by decide : 0 + 0 ≤ _)⟩)
  dsimp only [Pt.U, Pt.locs, Pt.cells, Pt.slots] at X2 l2 y2 z2 st2 hQ2
  subst y2 z2
  obtain ⟨rfl, el2, e2⟩ := hQ2
  have Nc2 : Fr n0 Lc2 := by rw [el2]; exact Fr.nil n0
  have N2 : Fr n0 L2 := by rw [l2]; exact Fr.app N1 Nc2
  refine Go.tr st2 ?_
  show Go p e below s _ _ _ (T2.setTop (mkF m 8 #[.val (.ref x), .val (.ref y), .unset, .unset] [(.int (Int32.ofNat ds.length)), (.int (Int32.ofNat cs.length))]))
  obtain ⟨_, _, ⟨T3, L3, k3, n3⟩, -, X3, ⟨Lc3, hQ3, l3, y3, z3⟩, st3⟩ := Jvm.LawKit.callS X2 hx (y := mN26) hown (mvT hZ (own_w hw 53 rfl)) (mvT hZ (own_w hw 54 rfl)) (mvT hZ (own_w hw 55 rfl)) (mvT hZ (own_w hw 56 rfl)) (by decide) (backOf (W := 0) (rmmn l Z a0 hw [] (Int32.ofNat cs.length) (Int32.ofNat ds.length) h0 n0 O0 ) hZ (own_w hw 56 rfl) (own_w hw 55 rfl) (by decide) (by decide)) (g := (mkF m 8 #[.val (.ref x), .val (.ref y), .unset, .unset] [(.int (Int32.ofNat ds.length)), (.int (Int32.ofNat cs.length))])) rfl (by rw [hml]; rfl) (argsL := [(.int (Int32.ofNat cs.length)), (.int (Int32.ofNat ds.length))]) (rest := []) (lenOf pdcm_1 rfl) rfl (by show 2 * 0 + _ ≤ _; exact Nat.le_of_eq rfl) (hb hby dcm_8) (fun _ _ => ⟨rfl, e2, (by decide : 0 + 0 ≤ _), (by decide : 0 + 0 ≤ _)⟩)
  dsimp only [Pt.U, Pt.locs, Pt.cells, Pt.slots] at X3 l3 y3 z3 st3 hQ3
  subst y3 z3
  obtain ⟨rfl, Nc3, e3⟩ := hQ3
  have N3 : Fr n0 L3 := by rw [l3]; exact Fr.app N2 Nc3
  refine Go.st st3 ?_
  show Go p e below s _ _ _ (T3.setTop (mkF m 11 #[.val (.ref x), .val (.ref y), .unset, .unset] [(.int (fMn (Int32.ofNat cs.length) (Int32.ofNat ds.length)))]))
  refine Go.s (XS.istoreN X3.here hx rfl (hb hby dcm_11) rfl (l' := #[.val (.ref x), .val (.ref y), .val (.int (fMn (Int32.ofNat cs.length) (Int32.ofNat ds.length))), .unset]) rfl) ?_
  refine Go.s (XS.iconst X3.here hx rfl (hb hby dcm_12)) ?_
  refine Go.s (XS.istoreN X3.here hx rfl (hb hby dcm_13) rfl (l' := #[.val (.ref x), .val (.ref y), .val (.int (fMn (Int32.ofNat cs.length) (Int32.ofNat ds.length))), .val (.int 0)]) rfl) ?_
  show Go p e below s _ _ _ (T3.setTop (mkF m 14 #[.val (.ref x), .val (.ref y), .val (.int (fMn (Int32.ofNat cs.length) (Int32.ofNat ds.length))), .val (.int 0)] []))
  have J52 : ∀ (kq : Int32) (T4 : State) (lc4 : List Loc) (X4 : Stand p l e ({ frames := 5, cells := 0, slots := 0, locals := 67 } : Room) s m #[(.ref x), (.ref y)] below meth cd T4 lc4 0 0) (e4 : T4.heap = h0) (N4 : Fr n0 lc4) (O4 : Old Z n0 h0) (E_x : Exa Z h0 x "java/lang/String") (F_x_coder : Fld Z h0 x "java/lang/String" "coder" "B" (.int cx)) (F_x_value : Fld Z h0 x "java/lang/String" "value" "[B" (.ref t)) (V_t : Arv Z h0 t kt .byte N vs (.int 0)) (E_y : Exa Z h0 y "java/lang/String") (F_y_coder : Fld Z h0 y "java/lang/String" "coder" "B" (.int cy)) (F_y_value : Fld Z h0 y "java/lang/String" "value" "[B" (.ref ty)) (V_ty : Arv Z h0 ty kty .byte NY vy (.int 0)) (hJ : oCmp cs ds = (fIc (Int32.ofNat cs.length) (Int32.ofNat ds.length))), Go p e below s 0 0 (Qcm Z x t kt cx N vs cs y ty kty cy NY vy ds zc fm h0 n0) (T4.setTop (mkF m 52 #[.val (.ref x), .val (.ref y), .val (.int (fMn (Int32.ofNat cs.length) (Int32.ofNat ds.length))), .val (.int kq)] [])) := by
    intro kq T4 lc4 X4 e4 N4 O4 E_x F_x_coder F_x_value V_t E_y F_y_coder F_y_value V_ty hJ
    refine Go.s (XS.aloadN X4.here hx rfl (hb hby dcm_52) rfl rfl) ?_
    obtain ⟨cq5, kq5, qa5, qb5, qc5⟩ := isOf hZ e4 E_x
    obtain ⟨_, _, ⟨T5, L5, k5, n5⟩, -, X5, ⟨Lc5, hQ5, l5, y5, z5⟩, st5⟩ := X4.virtualBack hx (y := mN29) (z := mN29) hown (mvT hZ (own_w hw 42 rfl)) (mvT hZ (own_w hw 43 rfl)) (notFace_of_selects (args := #[]) (mvT hZ (own_w hw 45 rfl))) (mvT hZ (own_w hw 45 rfl)) (mvT hZ (own_w hw 44 rfl)) (by decide) (StrChars.Road.lenW (W := 0) hZ hlen (kI := 4) (own_w hw 15 rfl) (cs := cs) E_x F_x_value F_x_coder V_t hcX hbX (SC.ext O4.2) hcs (Nat.le_trans hlX (by decide)) (by decide) (by decide)) qa5 qc5 (g := (mkF m 53 #[.val (.ref x), .val (.ref y), .val (.int (fMn (Int32.ofNat cs.length) (Int32.ofNat ds.length))), .val (.int kq)] [(.ref x)])) rfl (by rw [hml]; rfl) (Steps.refl _) (argsL := []) (rest := []) (lenOf pdcm_0 rfl) rfl (by show 2 * 0 + _ ≤ _; exact Nat.le_of_eq rfl) (hb hby dcm_53) (fun _ _ => ⟨rfl, e4, (by decide : 0 + 0 ≤ _), (by decide : 0 + 0 ≤ _)⟩)
    dsimp only [Pt.U, Pt.locs, Pt.cells, Pt.slots] at X5 l5 y5 z5 st5 hQ5
    subst y5 z5
    obtain ⟨rfl, el5, e5⟩ := hQ5
    have Nc5 : Fr n0 Lc5 := by rw [el5]; exact Fr.nil n0
    have N5 : Fr n0 L5 := by rw [l5]; exact Fr.app N4 Nc5
    refine Go.tr st5 ?_
    show Go p e below s _ _ _ (T5.setTop (mkF m 56 #[.val (.ref x), .val (.ref y), .val (.int (fMn (Int32.ofNat cs.length) (Int32.ofNat ds.length))), .val (.int kq)] [(.int (Int32.ofNat cs.length))]))
    refine Go.s (XS.aloadN X5.here hx rfl (hb hby dcm_56) rfl rfl) ?_
    obtain ⟨cq6, kq6, qa6, qb6, qc6⟩ := isOf hZ e5 E_y
    obtain ⟨_, _, ⟨T6, L6, k6, n6⟩, -, X6, ⟨Lc6, hQ6, l6, y6, z6⟩, st6⟩ := X5.virtualBack hx (y := mN29) (z := mN29) hown (mvT hZ (own_w hw 42 rfl)) (mvT hZ (own_w hw 43 rfl)) (notFace_of_selects (args := #[]) (mvT hZ (own_w hw 45 rfl))) (mvT hZ (own_w hw 45 rfl)) (mvT hZ (own_w hw 44 rfl)) (by decide) (StrChars.Road.lenW (W := 1) hZ hlen (kI := 4) (own_w hw 15 rfl) (cs := ds) E_y F_y_value F_y_coder V_ty hcY hbY (SC.ext O4.2) hcs (Nat.le_trans hlY (by decide)) (by decide) (by decide)) qa6 qc6 (g := (mkF m 57 #[.val (.ref x), .val (.ref y), .val (.int (fMn (Int32.ofNat cs.length) (Int32.ofNat ds.length))), .val (.int kq)] [(.ref y), (.int (Int32.ofNat cs.length))])) rfl (by rw [hml]; rfl) (Steps.refl _) (argsL := []) (rest := [(.int (Int32.ofNat cs.length))]) (lenOf pdcm_0 rfl) rfl (by show 2 * 0 + _ ≤ _; exact Nat.le_of_eq rfl) (hb hby dcm_57) (fun _ _ => ⟨rfl, e5, (by decide : 0 + 0 ≤ _), (by decide : 0 + 0 ≤ _)⟩)
    dsimp only [Pt.U, Pt.locs, Pt.cells, Pt.slots] at X6 l6 y6 z6 st6 hQ6
    subst y6 z6
    obtain ⟨rfl, el6, e6⟩ := hQ6
    have Nc6 : Fr n0 Lc6 := by rw [el6]; exact Fr.nil n0
    have N6 : Fr n0 L6 := by rw [l6]; exact Fr.app N5 Nc6
    refine Go.tr st6 ?_
    show Go p e below s _ _ _ (T6.setTop (mkF m 60 #[.val (.ref x), .val (.ref y), .val (.int (fMn (Int32.ofNat cs.length) (Int32.ofNat ds.length))), .val (.int kq)] [(.int (Int32.ofNat ds.length)), (.int (Int32.ofNat cs.length))]))
    obtain ⟨_, _, ⟨T7, L7, k7, n7⟩, -, X7, ⟨Lc7, hQ7, l7, y7, z7⟩, st7⟩ := Jvm.LawKit.callS X6 hx (y := mN27) hown (mvT hZ (own_w hw 57 rfl)) (mvT hZ (own_w hw 58 rfl)) (mvT hZ (own_w hw 59 rfl)) (mvT hZ (own_w hw 60 rfl)) (by decide) (backOf (W := 0) (rmic l Z a0 hw [] (Int32.ofNat cs.length) (Int32.ofNat ds.length) h0 n0 O4 ) hZ (own_w hw 60 rfl) (own_w hw 59 rfl) (by decide) (by decide)) (g := (mkF m 60 #[.val (.ref x), .val (.ref y), .val (.int (fMn (Int32.ofNat cs.length) (Int32.ofNat ds.length))), .val (.int kq)] [(.int (Int32.ofNat ds.length)), (.int (Int32.ofNat cs.length))])) rfl (by rw [hml]; rfl) (argsL := [(.int (Int32.ofNat cs.length)), (.int (Int32.ofNat ds.length))]) (rest := []) (lenOf pdcm_1 rfl) rfl (by show 2 * 0 + _ ≤ _; exact Nat.le_of_eq rfl) (hb hby dcm_60) (fun _ _ => ⟨rfl, e6, (by decide : 0 + 0 ≤ _), (by decide : 0 + 0 ≤ _)⟩)
    dsimp only [Pt.U, Pt.locs, Pt.cells, Pt.slots] at X7 l7 y7 z7 st7 hQ7
    subst y7 z7
    obtain ⟨rfl, Nc7, e7⟩ := hQ7
    have N7 : Fr n0 L7 := by rw [l7]; exact Fr.app N6 Nc7
    refine Go.st st7 ?_
    show Go p e below s _ _ _ (T7.setTop (mkF m 63 #[.val (.ref x), .val (.ref y), .val (.int (fMn (Int32.ofNat cs.length) (Int32.ofNat ds.length))), .val (.int kq)] [(.int (fIc (Int32.ofNat cs.length) (Int32.ofNat ds.length)))]))
    exact Go.ret X7 hlk (some (.int (fIc (Int32.ofNat cs.length) (Int32.ofNat ds.length)))) (fun h => by rw [Bd.returns] at h; cases h) (by rw [e7]; exact ⟨own_res (z' := (fIc (Int32.ofNat cs.length) (Int32.ofNat ds.length))) hJ rfl, N7, rfl⟩) (by decide) (by decide) (fun fs hr => retI X7 hx Bd.returns (hb hby dcm_63) hr)
  have J32 : ∀ (i : Nat) (T8 : State) (lc8 : List Loc) (X8 : Stand p l e ({ frames := 5, cells := 0, slots := 0, locals := 67 } : Room) s m #[(.ref x), (.ref y)] below meth cd T8 lc8 0 0) (e8 : T8.heap = h0) (N8 : Fr n0 lc8) (O8 : Old Z n0 h0) (E_x : Exa Z h0 x "java/lang/String") (F_x_coder : Fld Z h0 x "java/lang/String" "coder" "B" (.int cx)) (F_x_value : Fld Z h0 x "java/lang/String" "value" "[B" (.ref t)) (V_t : Arv Z h0 t kt .byte N vs (.int 0)) (E_y : Exa Z h0 y "java/lang/String") (F_y_coder : Fld Z h0 y "java/lang/String" "coder" "B" (.int cy)) (F_y_value : Fld Z h0 y "java/lang/String" "value" "[B" (.ref ty)) (V_ty : Arv Z h0 ty kty .byte NY vy (.int 0)) (hi1 : i < cs.length) (hi2 : i < ds.length) (hJ : oCmp cs ds = (fIc (oCpL cs i) (oCpL ds i))), Go p e below s 0 0 (Qcm Z x t kt cx N vs cs y ty kty cy NY vy ds zc fm h0 n0) (T8.setTop (mkF m 32 #[.val (.ref x), .val (.ref y), .val (.int (fMn (Int32.ofNat cs.length) (Int32.ofNat ds.length))), .val (.int (Int32.ofNat i))] [])) := by
    intro i T8 lc8 X8 e8 N8 O8 E_x F_x_coder F_x_value V_t E_y F_y_coder F_y_value V_ty hi1 hi2 hJ
    refine Go.s (XS.aloadN X8.here hx rfl (hb hby dcm_32) rfl rfl) ?_
    refine Go.s (XS.iloadN X8.here hx rfl (hb hby dcm_33) rfl) ?_
    obtain ⟨cq9, kq9, qa9, qb9, qc9⟩ := isOf hZ e8 E_x
    obtain ⟨_, _, ⟨T9, L9, k9, n9⟩, -, X9, ⟨Lc9, hQ9, l9, y9, z9⟩, st9⟩ := X8.virtualBack hx (y := mN25) (z := mN25) hown (mvT hZ (own_w hw 100 rfl)) (mvT hZ (own_w hw 101 rfl)) (notFace_of_selects (args := #[]) (mvT hZ (own_w hw 103 rfl))) (mvT hZ (own_w hw 103 rfl)) (mvT hZ (own_w hw 102 rfl)) (by decide) (own_cpA (W := 0) hZ hw O8 E_x F_x_coder F_x_value V_t hcX hbX hlX SA SHI SLO SF rf SC hcs (i := i) hi1 (by decide) (by decide)) qa9 qc9 (g := (mkF m 34 #[.val (.ref x), .val (.ref y), .val (.int (fMn (Int32.ofNat cs.length) (Int32.ofNat ds.length))), .val (.int (Int32.ofNat i))] [(.int (Int32.ofNat i)), (.ref x)])) rfl (by rw [hml]; rfl) (Steps.refl _) (argsL := [(.int (Int32.ofNat i))]) (rest := []) (lenOf pdnb1_0 rfl) rfl (by show 2 * 0 + _ ≤ _; exact Nat.le_of_eq rfl) (hb hby dcm_34) (fun _ _ => ⟨rfl, e8, (by decide : 0 + 0 ≤ _), (by decide : 0 + 0 ≤ _)⟩)
    dsimp only [Pt.U, Pt.locs, Pt.cells, Pt.slots] at X9 l9 y9 z9 st9 hQ9
    subst y9 z9
    obtain ⟨rfl, Nc9, e9⟩ := hQ9
    have N9 : Fr n0 L9 := by rw [l9]; exact Fr.app N8 Nc9
    refine Go.tr st9 ?_
    show Go p e below s _ _ _ (T9.setTop (mkF m 37 #[.val (.ref x), .val (.ref y), .val (.int (fMn (Int32.ofNat cs.length) (Int32.ofNat ds.length))), .val (.int (Int32.ofNat i))] [(.int (oCpL cs i))]))
    refine Go.s (XS.aloadN X9.here hx rfl (hb hby dcm_37) rfl rfl) ?_
    refine Go.s (XS.iloadN X9.here hx rfl (hb hby dcm_38) rfl) ?_
    obtain ⟨cq10, kq10, qa10, qb10, qc10⟩ := isOf hZ e9 E_y
    obtain ⟨_, _, ⟨T10, L10, k10, n10⟩, -, X10, ⟨Lc10, hQ10, l10, y10, z10⟩, st10⟩ := X9.virtualBack hx (y := mN25) (z := mN25) hown (mvT hZ (own_w hw 100 rfl)) (mvT hZ (own_w hw 101 rfl)) (notFace_of_selects (args := #[]) (mvT hZ (own_w hw 103 rfl))) (mvT hZ (own_w hw 103 rfl)) (mvT hZ (own_w hw 102 rfl)) (by decide) (own_cpA (W := 1) hZ hw O8 E_y F_y_coder F_y_value V_ty hcY hbY hlY SA SHI SLO SF rf SC hcs (i := i) hi2 (by decide) (by decide)) qa10 qc10 (g := (mkF m 39 #[.val (.ref x), .val (.ref y), .val (.int (fMn (Int32.ofNat cs.length) (Int32.ofNat ds.length))), .val (.int (Int32.ofNat i))] [(.int (Int32.ofNat i)), (.ref y), (.int (oCpL cs i))])) rfl (by rw [hml]; rfl) (Steps.refl _) (argsL := [(.int (Int32.ofNat i))]) (rest := [(.int (oCpL cs i))]) (lenOf pdnb1_0 rfl) rfl (by show 2 * 0 + _ ≤ _; exact Nat.le_of_eq rfl) (hb hby dcm_39) (fun _ _ => ⟨rfl, e9, (by decide : 0 + 0 ≤ _), (by decide : 0 + 0 ≤ _)⟩)
    dsimp only [Pt.U, Pt.locs, Pt.cells, Pt.slots] at X10 l10 y10 z10 st10 hQ10
    subst y10 z10
    obtain ⟨rfl, Nc10, e10⟩ := hQ10
    have N10 : Fr n0 L10 := by rw [l10]; exact Fr.app N9 Nc10
    refine Go.tr st10 ?_
    show Go p e below s _ _ _ (T10.setTop (mkF m 42 #[.val (.ref x), .val (.ref y), .val (.int (fMn (Int32.ofNat cs.length) (Int32.ofNat ds.length))), .val (.int (Int32.ofNat i))] [(.int (oCpL ds i)), (.int (oCpL cs i))]))
    obtain ⟨_, _, ⟨T11, L11, k11, n11⟩, -, X11, ⟨Lc11, hQ11, l11, y11, z11⟩, st11⟩ := Jvm.LawKit.callS X10 hx (y := mN27) hown (mvT hZ (own_w hw 57 rfl)) (mvT hZ (own_w hw 58 rfl)) (mvT hZ (own_w hw 59 rfl)) (mvT hZ (own_w hw 60 rfl)) (by decide) (backOf (W := 0) (rmic l Z a0 hw [] (oCpL cs i) (oCpL ds i) h0 n0 O8 ) hZ (own_w hw 60 rfl) (own_w hw 59 rfl) (by decide) (by decide)) (g := (mkF m 42 #[.val (.ref x), .val (.ref y), .val (.int (fMn (Int32.ofNat cs.length) (Int32.ofNat ds.length))), .val (.int (Int32.ofNat i))] [(.int (oCpL ds i)), (.int (oCpL cs i))])) rfl (by rw [hml]; rfl) (argsL := [(.int (oCpL cs i)), (.int (oCpL ds i))]) (rest := []) (lenOf pdcm_1 rfl) rfl (by show 2 * 0 + _ ≤ _; exact Nat.le_of_eq rfl) (hb hby dcm_42) (fun _ _ => ⟨rfl, e10, (by decide : 0 + 0 ≤ _), (by decide : 0 + 0 ≤ _)⟩)
    dsimp only [Pt.U, Pt.locs, Pt.cells, Pt.slots] at X11 l11 y11 z11 st11 hQ11
    subst y11 z11
    obtain ⟨rfl, Nc11, e11⟩ := hQ11
    have N11 : Fr n0 L11 := by rw [l11]; exact Fr.app N10 Nc11
    refine Go.st st11 ?_
    show Go p e below s _ _ _ (T11.setTop (mkF m 45 #[.val (.ref x), .val (.ref y), .val (.int (fMn (Int32.ofNat cs.length) (Int32.ofNat ds.length))), .val (.int (Int32.ofNat i))] [(.int (fIc (oCpL cs i) (oCpL ds i)))]))
    exact Go.ret X11 hlk (some (.int (fIc (oCpL cs i) (oCpL ds i)))) (fun h => by rw [Bd.returns] at h; cases h) (by rw [e11]; exact ⟨own_res (z' := (fIc (oCpL cs i) (oCpL ds i))) hJ rfl, N11, rfl⟩) (by decide) (by decide) (fun fs hr => retI X11 hx Bd.returns (hb hby dcm_45) hr)
  refine Go.s (XS.iloadN X3.here hx rfl (hb hby dcm_14) rfl) ?_
  refine Go.s (XS.iloadN X3.here hx rfl (hb hby dcm_15) rfl) ?_
  by_cases c16_12 : (0 : Int32) < (fMn (Int32.ofNat cs.length) (Int32.ofNat ds.length))
  · refine Go.s (XS.icmpNo X3.here hx rfl (hb hby dcm_16) rfl (XT.ii_ge_f c16_12)) ?_
    show Go p e below s _ _ _ (T3.setTop (mkF m 19 #[.val (.ref x), .val (.ref y), .val (.int (fMn (Int32.ofNat cs.length) (Int32.ofNat ds.length))), .val (.int 0)] []))
    refine Go.s (XS.aloadN X3.here hx rfl (hb hby dcm_19) rfl rfl) ?_
    refine Go.s (XS.iloadN X3.here hx rfl (hb hby dcm_20) rfl) ?_
    obtain ⟨cq13, kq13, qa13, qb13, qc13⟩ := isOf hZ e3 E_x
    obtain ⟨_, _, ⟨T13, L13, k13, n13⟩, -, X13, ⟨Lc13, hQ13, l13, y13, z13⟩, st13⟩ := X3.virtualBack hx (y := mN19) (z := mN19) hown (mvT hZ (own_w hw 78 rfl)) (mvT hZ (own_w hw 79 rfl)) (notFace_of_selects (args := #[]) (mvT hZ (own_w hw 81 rfl))) (mvT hZ (own_w hw 81 rfl)) (mvT hZ (own_w hw 80 rfl)) (by decide) (own_chA (W := 0) hZ hw O0 E_x F_x_coder F_x_value V_t hcX hbX hlX SA SHI SLO SF rf SC hcs (i := 0) (own_ltN (own_mnl c16_12).1 (by decide) (Nat.le_trans hlX (by decide))) (by decide) (by decide)) qa13 qc13 (g := (mkF m 21 #[.val (.ref x), .val (.ref y), .val (.int (fMn (Int32.ofNat cs.length) (Int32.ofNat ds.length))), .val (.int 0)] [(.int 0), (.ref x)])) rfl (by rw [hml]; rfl) (Steps.refl _) (argsL := [(.int 0)]) (rest := []) (lenOf pdcm_2 rfl) rfl (by show 2 * 0 + _ ≤ _; exact Nat.le_of_eq rfl) (hb hby dcm_21) (fun _ _ => ⟨rfl, e3, (by decide : 0 + 0 ≤ _), (by decide : 0 + 0 ≤ _)⟩)
    dsimp only [Pt.U, Pt.locs, Pt.cells, Pt.slots] at X13 l13 y13 z13 st13 hQ13
    subst y13 z13
    obtain ⟨rfl, Nc13, e13⟩ := hQ13
    have N13 : Fr n0 L13 := by rw [l13]; exact Fr.app N3 Nc13
    refine Go.tr st13 ?_
    show Go p e below s _ _ _ (T13.setTop (mkF m 24 #[.val (.ref x), .val (.ref y), .val (.int (fMn (Int32.ofNat cs.length) (Int32.ofNat ds.length))), .val (.int 0)] [(.int (cs.getD 0 0))]))
    refine Go.s (XS.aloadN X13.here hx rfl (hb hby dcm_24) rfl rfl) ?_
    refine Go.s (XS.iloadN X13.here hx rfl (hb hby dcm_25) rfl) ?_
    obtain ⟨cq14, kq14, qa14, qb14, qc14⟩ := isOf hZ e13 E_y
    obtain ⟨_, _, ⟨T14, L14, k14, n14⟩, -, X14, ⟨Lc14, hQ14, l14, y14, z14⟩, st14⟩ := X13.virtualBack hx (y := mN19) (z := mN19) hown (mvT hZ (own_w hw 78 rfl)) (mvT hZ (own_w hw 79 rfl)) (notFace_of_selects (args := #[]) (mvT hZ (own_w hw 81 rfl))) (mvT hZ (own_w hw 81 rfl)) (mvT hZ (own_w hw 80 rfl)) (by decide) (own_chA (W := 1) hZ hw O0 E_y F_y_coder F_y_value V_ty hcY hbY hlY SA SHI SLO SF rf SC hcs (i := 0) (own_ltN (own_mnl c16_12).2 (by decide) (Nat.le_trans hlY (by decide))) (by decide) (by decide)) qa14 qc14 (g := (mkF m 26 #[.val (.ref x), .val (.ref y), .val (.int (fMn (Int32.ofNat cs.length) (Int32.ofNat ds.length))), .val (.int 0)] [(.int 0), (.ref y), (.int (cs.getD 0 0))])) rfl (by rw [hml]; rfl) (Steps.refl _) (argsL := [(.int 0)]) (rest := [(.int (cs.getD 0 0))]) (lenOf pdcm_2 rfl) rfl (by show 2 * 0 + _ ≤ _; exact Nat.le_of_eq rfl) (hb hby dcm_26) (fun _ _ => ⟨rfl, e13, (by decide : 0 + 0 ≤ _), (by decide : 0 + 0 ≤ _)⟩)
    dsimp only [Pt.U, Pt.locs, Pt.cells, Pt.slots] at X14 l14 y14 z14 st14 hQ14
    subst y14 z14
    obtain ⟨rfl, Nc14, e14⟩ := hQ14
    have N14 : Fr n0 L14 := by rw [l14]; exact Fr.app N13 Nc14
    refine Go.tr st14 ?_
    show Go p e below s _ _ _ (T14.setTop (mkF m 29 #[.val (.ref x), .val (.ref y), .val (.int (fMn (Int32.ofNat cs.length) (Int32.ofNat ds.length))), .val (.int 0)] [(.int (ds.getD 0 0)), (.int (cs.getD 0 0))]))
    by_cases c29_15 : (cs.getD 0 0) = (ds.getD 0 0)
    · refine Go.s (XS.icmpYes X14.here hx rfl (pc0 := 29) (pc' := 46) rfl (hb hby dcm_29) rfl (XT.ii_eq_t c29_15) (by decide) (by decide)) ?_
      show Go p e below s _ _ _ (T14.setTop (mkF m 46 #[.val (.ref x), .val (.ref y), .val (.int (fMn (Int32.ofNat cs.length) (Int32.ofNat ds.length))), .val (.int 0)] []))
      refine Go.s (XT.iincV X14.here hx rfl (1 : Int32) (hb hby dcm_46) rfl rfl (l' := #[.val (.ref x), .val (.ref y), .val (.int (fMn (Int32.ofNat cs.length) (Int32.ofNat ds.length))), .val (.int 1)]) rfl) ?_
      refine Go.s (XS.goto X14.here hx rfl (pc0 := 49) (pc' := 14) rfl (hb hby dcm_49) (by decide) (by decide)) ?_
      show Go p e below s _ _ _ (T14.setTop (mkF m 14 #[.val (.ref x), .val (.ref y), .val (.int (fMn (Int32.ofNat cs.length) (Int32.ofNat ds.length))), .val (.int 1)] []))
      refine Go.s (XS.iloadN X14.here hx rfl (hb hby dcm_14) rfl) ?_
      refine Go.s (XS.iloadN X14.here hx rfl (hb hby dcm_15) rfl) ?_
      by_cases c16_16 : (1 : Int32) < (fMn (Int32.ofNat cs.length) (Int32.ofNat ds.length))
      · refine Go.s (XS.icmpNo X14.here hx rfl (hb hby dcm_16) rfl (XT.ii_ge_f c16_16)) ?_
        show Go p e below s _ _ _ (T14.setTop (mkF m 19 #[.val (.ref x), .val (.ref y), .val (.int (fMn (Int32.ofNat cs.length) (Int32.ofNat ds.length))), .val (.int 1)] []))
        refine Go.s (XS.aloadN X14.here hx rfl (hb hby dcm_19) rfl rfl) ?_
        refine Go.s (XS.iloadN X14.here hx rfl (hb hby dcm_20) rfl) ?_
        obtain ⟨cq17, kq17, qa17, qb17, qc17⟩ := isOf hZ e14 E_x
        obtain ⟨_, _, ⟨T17, L17, k17, n17⟩, -, X17, ⟨Lc17, hQ17, l17, y17, z17⟩, st17⟩ := X14.virtualBack hx (y := mN19) (z := mN19) hown (mvT hZ (own_w hw 78 rfl)) (mvT hZ (own_w hw 79 rfl)) (notFace_of_selects (args := #[]) (mvT hZ (own_w hw 81 rfl))) (mvT hZ (own_w hw 81 rfl)) (mvT hZ (own_w hw 80 rfl)) (by decide) (own_chA (W := 0) hZ hw O0 E_x F_x_coder F_x_value V_t hcX hbX hlX SA SHI SLO SF rf SC hcs (i := 1) (own_ltN (own_mnl c16_16).1 (by decide) (Nat.le_trans hlX (by decide))) (by decide) (by decide)) qa17 qc17 (g := (mkF m 21 #[.val (.ref x), .val (.ref y), .val (.int (fMn (Int32.ofNat cs.length) (Int32.ofNat ds.length))), .val (.int 1)] [(.int 1), (.ref x)])) rfl (by rw [hml]; rfl) (Steps.refl _) (argsL := [(.int 1)]) (rest := []) (lenOf pdcm_2 rfl) rfl (by show 2 * 0 + _ ≤ _; exact Nat.le_of_eq rfl) (hb hby dcm_21) (fun _ _ => ⟨rfl, e14, (by decide : 0 + 0 ≤ _), (by decide : 0 + 0 ≤ _)⟩)
        dsimp only [Pt.U, Pt.locs, Pt.cells, Pt.slots] at X17 l17 y17 z17 st17 hQ17
        subst y17 z17
        obtain ⟨rfl, Nc17, e17⟩ := hQ17
        have N17 : Fr n0 L17 := by rw [l17]; exact Fr.app N14 Nc17
        refine Go.tr st17 ?_
        show Go p e below s _ _ _ (T17.setTop (mkF m 24 #[.val (.ref x), .val (.ref y), .val (.int (fMn (Int32.ofNat cs.length) (Int32.ofNat ds.length))), .val (.int 1)] [(.int (cs.getD 1 0))]))
        refine Go.s (XS.aloadN X17.here hx rfl (hb hby dcm_24) rfl rfl) ?_
        refine Go.s (XS.iloadN X17.here hx rfl (hb hby dcm_25) rfl) ?_
        obtain ⟨cq18, kq18, qa18, qb18, qc18⟩ := isOf hZ e17 E_y
        obtain ⟨_, _, ⟨T18, L18, k18, n18⟩, -, X18, ⟨Lc18, hQ18, l18, y18, z18⟩, st18⟩ := X17.virtualBack hx (y := mN19) (z := mN19) hown (mvT hZ (own_w hw 78 rfl)) (mvT hZ (own_w hw 79 rfl)) (notFace_of_selects (args := #[]) (mvT hZ (own_w hw 81 rfl))) (mvT hZ (own_w hw 81 rfl)) (mvT hZ (own_w hw 80 rfl)) (by decide) (own_chA (W := 1) hZ hw O0 E_y F_y_coder F_y_value V_ty hcY hbY hlY SA SHI SLO SF rf SC hcs (i := 1) (own_ltN (own_mnl c16_16).2 (by decide) (Nat.le_trans hlY (by decide))) (by decide) (by decide)) qa18 qc18 (g := (mkF m 26 #[.val (.ref x), .val (.ref y), .val (.int (fMn (Int32.ofNat cs.length) (Int32.ofNat ds.length))), .val (.int 1)] [(.int 1), (.ref y), (.int (cs.getD 1 0))])) rfl (by rw [hml]; rfl) (Steps.refl _) (argsL := [(.int 1)]) (rest := [(.int (cs.getD 1 0))]) (lenOf pdcm_2 rfl) rfl (by show 2 * 0 + _ ≤ _; exact Nat.le_of_eq rfl) (hb hby dcm_26) (fun _ _ => ⟨rfl, e17, (by decide : 0 + 0 ≤ _), (by decide : 0 + 0 ≤ _)⟩)
        dsimp only [Pt.U, Pt.locs, Pt.cells, Pt.slots] at X18 l18 y18 z18 st18 hQ18
        subst y18 z18
        obtain ⟨rfl, Nc18, e18⟩ := hQ18
        have N18 : Fr n0 L18 := by rw [l18]; exact Fr.app N17 Nc18
        refine Go.tr st18 ?_
        show Go p e below s _ _ _ (T18.setTop (mkF m 29 #[.val (.ref x), .val (.ref y), .val (.int (fMn (Int32.ofNat cs.length) (Int32.ofNat ds.length))), .val (.int 1)] [(.int (ds.getD 1 0)), (.int (cs.getD 1 0))]))
        by_cases c29_19 : (cs.getD 1 0) = (ds.getD 1 0)
        · refine Go.s (XS.icmpYes X18.here hx rfl (pc0 := 29) (pc' := 46) rfl (hb hby dcm_29) rfl (XT.ii_eq_t c29_19) (by decide) (by decide)) ?_
          show Go p e below s _ _ _ (T18.setTop (mkF m 46 #[.val (.ref x), .val (.ref y), .val (.int (fMn (Int32.ofNat cs.length) (Int32.ofNat ds.length))), .val (.int 1)] []))
          refine Go.s (XT.iincV X18.here hx rfl (1 : Int32) (hb hby dcm_46) rfl rfl (l' := #[.val (.ref x), .val (.ref y), .val (.int (fMn (Int32.ofNat cs.length) (Int32.ofNat ds.length))), .val (.int 2)]) rfl) ?_
          refine Go.s (XS.goto X18.here hx rfl (pc0 := 49) (pc' := 14) rfl (hb hby dcm_49) (by decide) (by decide)) ?_
          show Go p e below s _ _ _ (T18.setTop (mkF m 14 #[.val (.ref x), .val (.ref y), .val (.int (fMn (Int32.ofNat cs.length) (Int32.ofNat ds.length))), .val (.int 2)] []))
          refine Go.s (XS.iloadN X18.here hx rfl (hb hby dcm_14) rfl) ?_
          refine Go.s (XS.iloadN X18.here hx rfl (hb hby dcm_15) rfl) ?_
          by_cases c16_20 : (2 : Int32) < (fMn (Int32.ofNat cs.length) (Int32.ofNat ds.length))
          · refine Go.s (XS.icmpNo X18.here hx rfl (hb hby dcm_16) rfl (XT.ii_ge_f c16_20)) ?_
            show Go p e below s _ _ _ (T18.setTop (mkF m 19 #[.val (.ref x), .val (.ref y), .val (.int (fMn (Int32.ofNat cs.length) (Int32.ofNat ds.length))), .val (.int 2)] []))
            refine Go.s (XS.aloadN X18.here hx rfl (hb hby dcm_19) rfl rfl) ?_
            refine Go.s (XS.iloadN X18.here hx rfl (hb hby dcm_20) rfl) ?_
            obtain ⟨cq21, kq21, qa21, qb21, qc21⟩ := isOf hZ e18 E_x
            obtain ⟨_, _, ⟨T21, L21, k21, n21⟩, -, X21, ⟨Lc21, hQ21, l21, y21, z21⟩, st21⟩ := X18.virtualBack hx (y := mN19) (z := mN19) hown (mvT hZ (own_w hw 78 rfl)) (mvT hZ (own_w hw 79 rfl)) (notFace_of_selects (args := #[]) (mvT hZ (own_w hw 81 rfl))) (mvT hZ (own_w hw 81 rfl)) (mvT hZ (own_w hw 80 rfl)) (by decide) (own_chA (W := 0) hZ hw O0 E_x F_x_coder F_x_value V_t hcX hbX hlX SA SHI SLO SF rf SC hcs (i := 2) (own_ltN (own_mnl c16_20).1 (by decide) (Nat.le_trans hlX (by decide))) (by decide) (by decide)) qa21 qc21 (g := (mkF m 21 #[.val (.ref x), .val (.ref y), .val (.int (fMn (Int32.ofNat cs.length) (Int32.ofNat ds.length))), .val (.int 2)] [(.int 2), (.ref x)])) rfl (by rw [hml]; rfl) (Steps.refl _) (argsL := [(.int 2)]) (rest := []) (lenOf pdcm_2 rfl) rfl (by show 2 * 0 + _ ≤ _; exact Nat.le_of_eq rfl) (hb hby dcm_21) (fun _ _ => ⟨rfl, e18, (by decide : 0 + 0 ≤ _), (by decide : 0 + 0 ≤ _)⟩)
            dsimp only [Pt.U, Pt.locs, Pt.cells, Pt.slots] at X21 l21 y21 z21 st21 hQ21
            subst y21 z21
            obtain ⟨rfl, Nc21, e21⟩ := hQ21
            have N21 : Fr n0 L21 := by rw [l21]; exact Fr.app N18 Nc21
            refine Go.tr st21 ?_
            show Go p e below s _ _ _ (T21.setTop (mkF m 24 #[.val (.ref x), .val (.ref y), .val (.int (fMn (Int32.ofNat cs.length) (Int32.ofNat ds.length))), .val (.int 2)] [(.int (cs.getD 2 0))]))
            refine Go.s (XS.aloadN X21.here hx rfl (hb hby dcm_24) rfl rfl) ?_
            refine Go.s (XS.iloadN X21.here hx rfl (hb hby dcm_25) rfl) ?_
            obtain ⟨cq22, kq22, qa22, qb22, qc22⟩ := isOf hZ e21 E_y
            obtain ⟨_, _, ⟨T22, L22, k22, n22⟩, -, X22, ⟨Lc22, hQ22, l22, y22, z22⟩, st22⟩ := X21.virtualBack hx (y := mN19) (z := mN19) hown (mvT hZ (own_w hw 78 rfl)) (mvT hZ (own_w hw 79 rfl)) (notFace_of_selects (args := #[]) (mvT hZ (own_w hw 81 rfl))) (mvT hZ (own_w hw 81 rfl)) (mvT hZ (own_w hw 80 rfl)) (by decide) (own_chA (W := 1) hZ hw O0 E_y F_y_coder F_y_value V_ty hcY hbY hlY SA SHI SLO SF rf SC hcs (i := 2) (own_ltN (own_mnl c16_20).2 (by decide) (Nat.le_trans hlY (by decide))) (by decide) (by decide)) qa22 qc22 (g := (mkF m 26 #[.val (.ref x), .val (.ref y), .val (.int (fMn (Int32.ofNat cs.length) (Int32.ofNat ds.length))), .val (.int 2)] [(.int 2), (.ref y), (.int (cs.getD 2 0))])) rfl (by rw [hml]; rfl) (Steps.refl _) (argsL := [(.int 2)]) (rest := [(.int (cs.getD 2 0))]) (lenOf pdcm_2 rfl) rfl (by show 2 * 0 + _ ≤ _; exact Nat.le_of_eq rfl) (hb hby dcm_26) (fun _ _ => ⟨rfl, e21, (by decide : 0 + 0 ≤ _), (by decide : 0 + 0 ≤ _)⟩)
            dsimp only [Pt.U, Pt.locs, Pt.cells, Pt.slots] at X22 l22 y22 z22 st22 hQ22
            subst y22 z22
            obtain ⟨rfl, Nc22, e22⟩ := hQ22
            have N22 : Fr n0 L22 := by rw [l22]; exact Fr.app N21 Nc22
            refine Go.tr st22 ?_
            show Go p e below s _ _ _ (T22.setTop (mkF m 29 #[.val (.ref x), .val (.ref y), .val (.int (fMn (Int32.ofNat cs.length) (Int32.ofNat ds.length))), .val (.int 2)] [(.int (ds.getD 2 0)), (.int (cs.getD 2 0))]))
            by_cases c29_23 : (cs.getD 2 0) = (ds.getD 2 0)
            · refine Go.s (XS.icmpYes X22.here hx rfl (pc0 := 29) (pc' := 46) rfl (hb hby dcm_29) rfl (XT.ii_eq_t c29_23) (by decide) (by decide)) ?_
              show Go p e below s _ _ _ (T22.setTop (mkF m 46 #[.val (.ref x), .val (.ref y), .val (.int (fMn (Int32.ofNat cs.length) (Int32.ofNat ds.length))), .val (.int 2)] []))
              refine Go.s (XT.iincV X22.here hx rfl (1 : Int32) (hb hby dcm_46) rfl rfl (l' := #[.val (.ref x), .val (.ref y), .val (.int (fMn (Int32.ofNat cs.length) (Int32.ofNat ds.length))), .val (.int 3)]) rfl) ?_
              refine Go.s (XS.goto X22.here hx rfl (pc0 := 49) (pc' := 14) rfl (hb hby dcm_49) (by decide) (by decide)) ?_
              show Go p e below s _ _ _ (T22.setTop (mkF m 14 #[.val (.ref x), .val (.ref y), .val (.int (fMn (Int32.ofNat cs.length) (Int32.ofNat ds.length))), .val (.int 3)] []))
              refine Go.s (XS.iloadN X22.here hx rfl (hb hby dcm_14) rfl) ?_
              refine Go.s (XS.iloadN X22.here hx rfl (hb hby dcm_15) rfl) ?_
              by_cases c16_24 : (3 : Int32) < (fMn (Int32.ofNat cs.length) (Int32.ofNat ds.length))
              · refine Go.s (XS.icmpNo X22.here hx rfl (hb hby dcm_16) rfl (XT.ii_ge_f c16_24)) ?_
                show Go p e below s _ _ _ (T22.setTop (mkF m 19 #[.val (.ref x), .val (.ref y), .val (.int (fMn (Int32.ofNat cs.length) (Int32.ofNat ds.length))), .val (.int 3)] []))
                refine Go.s (XS.aloadN X22.here hx rfl (hb hby dcm_19) rfl rfl) ?_
                refine Go.s (XS.iloadN X22.here hx rfl (hb hby dcm_20) rfl) ?_
                obtain ⟨cq25, kq25, qa25, qb25, qc25⟩ := isOf hZ e22 E_x
                obtain ⟨_, _, ⟨T25, L25, k25, n25⟩, -, X25, ⟨Lc25, hQ25, l25, y25, z25⟩, st25⟩ := X22.virtualBack hx (y := mN19) (z := mN19) hown (mvT hZ (own_w hw 78 rfl)) (mvT hZ (own_w hw 79 rfl)) (notFace_of_selects (args := #[]) (mvT hZ (own_w hw 81 rfl))) (mvT hZ (own_w hw 81 rfl)) (mvT hZ (own_w hw 80 rfl)) (by decide) (own_chA (W := 0) hZ hw O0 E_x F_x_coder F_x_value V_t hcX hbX hlX SA SHI SLO SF rf SC hcs (i := 3) (own_ltN (own_mnl c16_24).1 (by decide) (Nat.le_trans hlX (by decide))) (by decide) (by decide)) qa25 qc25 (g := (mkF m 21 #[.val (.ref x), .val (.ref y), .val (.int (fMn (Int32.ofNat cs.length) (Int32.ofNat ds.length))), .val (.int 3)] [(.int 3), (.ref x)])) rfl (by rw [hml]; rfl) (Steps.refl _) (argsL := [(.int 3)]) (rest := []) (lenOf pdcm_2 rfl) rfl (by show 2 * 0 + _ ≤ _; exact Nat.le_of_eq rfl) (hb hby dcm_21) (fun _ _ => ⟨rfl, e22, (by decide : 0 + 0 ≤ _), (by decide : 0 + 0 ≤ _)⟩)
                dsimp only [Pt.U, Pt.locs, Pt.cells, Pt.slots] at X25 l25 y25 z25 st25 hQ25
                subst y25 z25
                obtain ⟨rfl, Nc25, e25⟩ := hQ25
                have N25 : Fr n0 L25 := by rw [l25]; exact Fr.app N22 Nc25
                refine Go.tr st25 ?_
                show Go p e below s _ _ _ (T25.setTop (mkF m 24 #[.val (.ref x), .val (.ref y), .val (.int (fMn (Int32.ofNat cs.length) (Int32.ofNat ds.length))), .val (.int 3)] [(.int (cs.getD 3 0))]))
                refine Go.s (XS.aloadN X25.here hx rfl (hb hby dcm_24) rfl rfl) ?_
                refine Go.s (XS.iloadN X25.here hx rfl (hb hby dcm_25) rfl) ?_
                obtain ⟨cq26, kq26, qa26, qb26, qc26⟩ := isOf hZ e25 E_y
                obtain ⟨_, _, ⟨T26, L26, k26, n26⟩, -, X26, ⟨Lc26, hQ26, l26, y26, z26⟩, st26⟩ := X25.virtualBack hx (y := mN19) (z := mN19) hown (mvT hZ (own_w hw 78 rfl)) (mvT hZ (own_w hw 79 rfl)) (notFace_of_selects (args := #[]) (mvT hZ (own_w hw 81 rfl))) (mvT hZ (own_w hw 81 rfl)) (mvT hZ (own_w hw 80 rfl)) (by decide) (own_chA (W := 1) hZ hw O0 E_y F_y_coder F_y_value V_ty hcY hbY hlY SA SHI SLO SF rf SC hcs (i := 3) (own_ltN (own_mnl c16_24).2 (by decide) (Nat.le_trans hlY (by decide))) (by decide) (by decide)) qa26 qc26 (g := (mkF m 26 #[.val (.ref x), .val (.ref y), .val (.int (fMn (Int32.ofNat cs.length) (Int32.ofNat ds.length))), .val (.int 3)] [(.int 3), (.ref y), (.int (cs.getD 3 0))])) rfl (by rw [hml]; rfl) (Steps.refl _) (argsL := [(.int 3)]) (rest := [(.int (cs.getD 3 0))]) (lenOf pdcm_2 rfl) rfl (by show 2 * 0 + _ ≤ _; exact Nat.le_of_eq rfl) (hb hby dcm_26) (fun _ _ => ⟨rfl, e25, (by decide : 0 + 0 ≤ _), (by decide : 0 + 0 ≤ _)⟩)
                dsimp only [Pt.U, Pt.locs, Pt.cells, Pt.slots] at X26 l26 y26 z26 st26 hQ26
                subst y26 z26
                obtain ⟨rfl, Nc26, e26⟩ := hQ26
                have N26 : Fr n0 L26 := by rw [l26]; exact Fr.app N25 Nc26
                refine Go.tr st26 ?_
                show Go p e below s _ _ _ (T26.setTop (mkF m 29 #[.val (.ref x), .val (.ref y), .val (.int (fMn (Int32.ofNat cs.length) (Int32.ofNat ds.length))), .val (.int 3)] [(.int (ds.getD 3 0)), (.int (cs.getD 3 0))]))
                by_cases c29_27 : (cs.getD 3 0) = (ds.getD 3 0)
                · refine Go.s (XS.icmpYes X26.here hx rfl (pc0 := 29) (pc' := 46) rfl (hb hby dcm_29) rfl (XT.ii_eq_t c29_27) (by decide) (by decide)) ?_
                  show Go p e below s _ _ _ (T26.setTop (mkF m 46 #[.val (.ref x), .val (.ref y), .val (.int (fMn (Int32.ofNat cs.length) (Int32.ofNat ds.length))), .val (.int 3)] []))
                  refine Go.s (XT.iincV X26.here hx rfl (1 : Int32) (hb hby dcm_46) rfl rfl (l' := #[.val (.ref x), .val (.ref y), .val (.int (fMn (Int32.ofNat cs.length) (Int32.ofNat ds.length))), .val (.int 4)]) rfl) ?_
                  refine Go.s (XS.goto X26.here hx rfl (pc0 := 49) (pc' := 14) rfl (hb hby dcm_49) (by decide) (by decide)) ?_
                  show Go p e below s _ _ _ (T26.setTop (mkF m 14 #[.val (.ref x), .val (.ref y), .val (.int (fMn (Int32.ofNat cs.length) (Int32.ofNat ds.length))), .val (.int 4)] []))
                  refine Go.s (XS.iloadN X26.here hx rfl (hb hby dcm_14) rfl) ?_
                  refine Go.s (XS.iloadN X26.here hx rfl (hb hby dcm_15) rfl) ?_
                  refine Go.s (XS.icmpYes X26.here hx rfl (pc0 := 16) (pc' := 52) rfl (hb hby dcm_16) rfl (XT.ii_ge_t (own_no4 hlX)) (by decide) (by decide)) ?_
                  show Go p e below s _ _ _ (T26.setTop (mkF m 52 #[.val (.ref x), .val (.ref y), .val (.int (fMn (Int32.ofNat cs.length) (Int32.ofNat ds.length))), .val (.int 4)] []))
                  exact J52 (4 : Int32) _ _ X26 e26 N26 O0 E_x F_x_coder F_x_value V_t E_y F_y_coder F_y_value V_ty (by unfold oCmp; rw [if_pos c16_12, if_pos c29_15, if_pos c16_16, if_pos c29_19, if_pos c16_20, if_pos c29_23, if_pos c16_24, if_pos c29_27])
                · refine Go.s (XS.icmpNo X26.here hx rfl (hb hby dcm_29) rfl (XT.ii_eq_f c29_27)) ?_
                  show Go p e below s _ _ _ (T26.setTop (mkF m 32 #[.val (.ref x), .val (.ref y), .val (.int (fMn (Int32.ofNat cs.length) (Int32.ofNat ds.length))), .val (.int 3)] []))
                  exact J32 3 _ _ X26 e26 N26 O0 E_x F_x_coder F_x_value V_t E_y F_y_coder F_y_value V_ty (own_ltN (own_mnl c16_24).1 (by decide) (Nat.le_trans hlX (by decide))) (own_ltN (own_mnl c16_24).2 (by decide) (Nat.le_trans hlY (by decide))) (by unfold oCmp; rw [if_pos c16_12, if_pos c29_15, if_pos c16_16, if_pos c29_19, if_pos c16_20, if_pos c29_23, if_pos c16_24, if_neg c29_27])
              · refine Go.s (XS.icmpYes X22.here hx rfl (pc0 := 16) (pc' := 52) rfl (hb hby dcm_16) rfl (XT.ii_ge_t c16_24) (by decide) (by decide)) ?_
                show Go p e below s _ _ _ (T22.setTop (mkF m 52 #[.val (.ref x), .val (.ref y), .val (.int (fMn (Int32.ofNat cs.length) (Int32.ofNat ds.length))), .val (.int 3)] []))
                exact J52 (3 : Int32) _ _ X22 e22 N22 O0 E_x F_x_coder F_x_value V_t E_y F_y_coder F_y_value V_ty (by unfold oCmp; rw [if_pos c16_12, if_pos c29_15, if_pos c16_16, if_pos c29_19, if_pos c16_20, if_pos c29_23, if_neg c16_24])
            · refine Go.s (XS.icmpNo X22.here hx rfl (hb hby dcm_29) rfl (XT.ii_eq_f c29_23)) ?_
              show Go p e below s _ _ _ (T22.setTop (mkF m 32 #[.val (.ref x), .val (.ref y), .val (.int (fMn (Int32.ofNat cs.length) (Int32.ofNat ds.length))), .val (.int 2)] []))
              exact J32 2 _ _ X22 e22 N22 O0 E_x F_x_coder F_x_value V_t E_y F_y_coder F_y_value V_ty (own_ltN (own_mnl c16_20).1 (by decide) (Nat.le_trans hlX (by decide))) (own_ltN (own_mnl c16_20).2 (by decide) (Nat.le_trans hlY (by decide))) (by unfold oCmp; rw [if_pos c16_12, if_pos c29_15, if_pos c16_16, if_pos c29_19, if_pos c16_20, if_neg c29_23])
          · refine Go.s (XS.icmpYes X18.here hx rfl (pc0 := 16) (pc' := 52) rfl (hb hby dcm_16) rfl (XT.ii_ge_t c16_20) (by decide) (by decide)) ?_
            show Go p e below s _ _ _ (T18.setTop (mkF m 52 #[.val (.ref x), .val (.ref y), .val (.int (fMn (Int32.ofNat cs.length) (Int32.ofNat ds.length))), .val (.int 2)] []))
            exact J52 (2 : Int32) _ _ X18 e18 N18 O0 E_x F_x_coder F_x_value V_t E_y F_y_coder F_y_value V_ty (by unfold oCmp; rw [if_pos c16_12, if_pos c29_15, if_pos c16_16, if_pos c29_19, if_neg c16_20])
        · refine Go.s (XS.icmpNo X18.here hx rfl (hb hby dcm_29) rfl (XT.ii_eq_f c29_19)) ?_
          show Go p e below s _ _ _ (T18.setTop (mkF m 32 #[.val (.ref x), .val (.ref y), .val (.int (fMn (Int32.ofNat cs.length) (Int32.ofNat ds.length))), .val (.int 1)] []))
          exact J32 1 _ _ X18 e18 N18 O0 E_x F_x_coder F_x_value V_t E_y F_y_coder F_y_value V_ty (own_ltN (own_mnl c16_16).1 (by decide) (Nat.le_trans hlX (by decide))) (own_ltN (own_mnl c16_16).2 (by decide) (Nat.le_trans hlY (by decide))) (by unfold oCmp; rw [if_pos c16_12, if_pos c29_15, if_pos c16_16, if_neg c29_19])
      · refine Go.s (XS.icmpYes X14.here hx rfl (pc0 := 16) (pc' := 52) rfl (hb hby dcm_16) rfl (XT.ii_ge_t c16_16) (by decide) (by decide)) ?_
        show Go p e below s _ _ _ (T14.setTop (mkF m 52 #[.val (.ref x), .val (.ref y), .val (.int (fMn (Int32.ofNat cs.length) (Int32.ofNat ds.length))), .val (.int 1)] []))
        exact J52 (1 : Int32) _ _ X14 e14 N14 O0 E_x F_x_coder F_x_value V_t E_y F_y_coder F_y_value V_ty (by unfold oCmp; rw [if_pos c16_12, if_pos c29_15, if_neg c16_16])
    · refine Go.s (XS.icmpNo X14.here hx rfl (hb hby dcm_29) rfl (XT.ii_eq_f c29_15)) ?_
      show Go p e below s _ _ _ (T14.setTop (mkF m 32 #[.val (.ref x), .val (.ref y), .val (.int (fMn (Int32.ofNat cs.length) (Int32.ofNat ds.length))), .val (.int 0)] []))
      exact J32 0 _ _ X14 e14 N14 O0 E_x F_x_coder F_x_value V_t E_y F_y_coder F_y_value V_ty (own_ltN (own_mnl c16_12).1 (by decide) (Nat.le_trans hlX (by decide))) (own_ltN (own_mnl c16_12).2 (by decide) (Nat.le_trans hlY (by decide))) (by unfold oCmp; rw [if_pos c16_12, if_neg c29_15])
  · refine Go.s (XS.icmpYes X3.here hx rfl (pc0 := 16) (pc' := 52) rfl (hb hby dcm_16) rfl (XT.ii_ge_t c16_12) (by decide) (by decide)) ?_
    show Go p e below s _ _ _ (T3.setTop (mkF m 52 #[.val (.ref x), .val (.ref y), .val (.int (fMn (Int32.ofNat cs.length) (Int32.ofNat ds.length))), .val (.int 0)] []))
    exact J52 (0 : Int32) _ _ X3 e3 N3 O0 E_x F_x_coder F_x_value V_t E_y F_y_coder F_y_value V_ty (by unfold oCmp; rw [if_neg c16_12])
 obtain ⟨s2, o2, st2, r2⟩ := G
 exact ⟨s2, o2, castTop (efcm m x y) st2, r2⟩
theorem dsc_0 : decode method_4_code 0 = .ok (.iload_n 0, 1) := by decide +kernel
theorem dsc_1 : decode method_4_code 1 = .ok (.ldc 30, 2) := by decide +kernel
theorem dsc_3 : decode method_4_code 3 = .ok (.iand, 1) := by decide +kernel
theorem dsc_4 : decode method_4_code 4 = .ok (.ldc 31, 2) := by decide +kernel
theorem dsc_6 : decode method_4_code 6 = .ok (.irem, 1) := by decide +kernel
theorem dsc_7 : decode method_4_code 7 = .ok (.istore_n 1, 1) := by decide +kernel
theorem dsc_8 : decode method_4_code 8 = .ok (.iload_n 1, 1) := by decide +kernel
theorem dsc_9 : decode method_4_code 9 = .ok (.ldc 32, 2) := by decide +kernel
theorem dsc_11 : decode method_4_code 11 = .ok (.if_icmp .lt 15, 3) := by decide +kernel
theorem dsc_14 : decode method_4_code 14 = .ok (.iload_n 1, 1) := by decide +kernel
theorem dsc_15 : decode method_4_code 15 = .ok (.ldc 33, 2) := by decide +kernel
theorem dsc_17 : decode method_4_code 17 = .ok (.if_icmp .gt 9, 3) := by decide +kernel
theorem dsc_20 : decode method_4_code 20 = .ok (.iload_n 1, 1) := by decide +kernel
theorem dsc_21 : decode method_4_code 21 = .ok (.sipush 2048, 3) := by decide +kernel
theorem dsc_24 : decode method_4_code 24 = .ok (.iadd, 1) := by decide +kernel
theorem dsc_25 : decode method_4_code 25 = .ok (.istore_n 1, 1) := by decide +kernel
theorem dsc_26 : decode method_4_code 26 = .ok (.iload_n 1, 1) := by decide +kernel
theorem dsc_27 : decode method_4_code 27 = .ok (.ireturn, 1) := by decide +kernel
theorem pnsc : plainName "com/example/rootward/rootward/model/ShortestPathTreeCompareCodePointsPinLaw" = true := by first | (simp [plainName, overriddenIn]; done) | decide +kernel
theorem efsc (m : MethodId) (x0 : Int32) : entryFrame m #[(.int x0)] 2 = mkF m 0 #[.val (.int x0), .unset] [] := by first | (simp [entryFrame, mkF, argsToLocals, Value.category, maxLocals]; done) | rfl
def fSc (p0 : Int32) : Int32 := (if ((p0 &&& (2097151 : Int32)) % (1114112 : Int32)) < (55296 : Int32) then ((p0 &&& (2097151 : Int32)) % (1114112 : Int32)) else (if (57343 : Int32) < ((p0 &&& (2097151 : Int32)) % (1114112 : Int32)) then ((p0 &&& (2097151 : Int32)) % (1114112 : Int32)) else (((p0 &&& (2097151 : Int32)) % (1114112 : Int32)) + (2048 : Int32))))
def Qsc (Z : State) (p0 : Int32) (h0 : Heap) (n0 : Nat) (v : Option Value) (h : Heap) (L : List Loc) : Prop := v = some (.int (fSc p0)) ∧ Fr n0 L ∧ h = h0
theorem rmsc (l : Launch) (Z : State) (a0 : Array Value) (hw : ∀ d ∈ tables_1, d.before a0 Z = true) (ws : List Jvm.Cond) (p0 : Int32) (h0 : Heap) (n0 : Nat) (O0 : Old Z n0 h0)  :
  MetFree l mN30 (head1 (Jvm.Cond.code mN30 method_4_code 2 (some .int) :: ws) ({ frames := 0, cells := 0, slots := 0, locals := 0 } : Room)) (fun A_ U_ => A_ = #[(.int p0)] ∧ Z.Warmed39 U_.vm ∧ U_.heap = h0) (fun _ _ _ _ _ => True) (fun _ U o U' => ∃ v L, o = .returned v ∧ Qsc Z p0 h0 n0 v U'.heap L ∧ FrameEnd U o U' L ({ frames := 0, cells := 0, slots := 0, locals := 0 } : Room).cells ({ frames := 0, cells := 0, slots := 0, locals := 0 } : Room).slots) := by
 refine MetFree.of_bodySF (plainFor_of_name pnsc) hisR ?_
 intro p e s m args below meth cd s₁ Bd hml0 hP hK
 obtain ⟨rfl, hZ, hh⟩ := hP
 have hx := Bd.exec
 have hby := Bd.bytes
 have hlk : meth.locks = false := BodyLoose.notSynchronized Bd
 have hml : cd.maxLocals = 2 := hml0
 have hown : s.vm.findClass "com/example/rootward/rootward/model/ShortestPathTreeCompareCodePointsPinLaw" = some m.cls := findClass_of_methodNamed Bd.named
 have X0 : Stand p l e ({ frames := 0, cells := 0, slots := 0, locals := 0 } : Room) s m #[(.int p0)] below meth cd s₁ [] 0 0 := Stand.of_body Bd
 have e0 : s₁.heap = h0 := by rw [← hh, Bd.state]; rfl
 have N0 := Fr.nil n0
 have G : Go p e below s 0 0 (Qsc Z p0 h0 n0) (s₁.setTop (mkF m 0 #[.val (.int p0), .unset] [])) := by
  refine Go.s (XS.iloadN X0.here hx rfl (hb hby dsc_0) rfl) ?_
  refine Go.s (X0.ldcI hx hown (mvT hZ (own_w hw 4 rfl)) rfl (hb hby dsc_1)) ?_
  show Go p e below s _ _ _ (s₁.setTop (mkF m 3 #[.val (.int p0), .unset] [(.int 2097151), (.int p0)]))
  refine Go.s (XS.iand X0.here hx rfl (hb hby dsc_3) rfl) ?_
  refine Go.s (X0.ldcI hx hown (mvT hZ (own_w hw 5 rfl)) rfl (hb hby dsc_4)) ?_
  show Go p e below s _ _ _ (s₁.setTop (mkF m 6 #[.val (.int p0), .unset] [(.int 1114112), (.int (p0 &&& (2097151 : Int32)))]))
  refine Go.s (iremM X0 hx rfl (hb hby dsc_6) rfl (by decide)) ?_
  show Go p e below s _ _ _ (s₁.setTop (mkF m 7 #[.val (.int p0), .unset] [(.int ((p0 &&& (2097151 : Int32)) % (1114112 : Int32)))]))
  refine Go.s (XS.istoreN X0.here hx rfl (hb hby dsc_7) rfl (l' := #[.val (.int p0), .val (.int ((p0 &&& (2097151 : Int32)) % (1114112 : Int32)))]) rfl) ?_
  refine Go.s (XS.iloadN X0.here hx rfl (hb hby dsc_8) rfl) ?_
  refine Go.s (X0.ldcI hx hown (mvT hZ (own_w hw 6 rfl)) rfl (hb hby dsc_9)) ?_
  show Go p e below s _ _ _ (s₁.setTop (mkF m 11 #[.val (.int p0), .val (.int ((p0 &&& (2097151 : Int32)) % (1114112 : Int32)))] [(.int 55296), (.int ((p0 &&& (2097151 : Int32)) % (1114112 : Int32)))]))
  by_cases c11_1 : ((p0 &&& (2097151 : Int32)) % (1114112 : Int32)) < (55296 : Int32)
  · refine Go.s (XS.icmpYes X0.here hx rfl (pc0 := 11) (pc' := 26) rfl (hb hby dsc_11) rfl (XT.ii_lt_t c11_1) (by decide) (by decide)) ?_
    show Go p e below s _ _ _ (s₁.setTop (mkF m 26 #[.val (.int p0), .val (.int ((p0 &&& (2097151 : Int32)) % (1114112 : Int32)))] []))
    refine Go.s (XS.iloadN X0.here hx rfl (hb hby dsc_26) rfl) ?_
    exact Go.ret X0 hlk (some (.int ((p0 &&& (2097151 : Int32)) % (1114112 : Int32)))) (fun h => by rw [Bd.returns] at h; cases h) (by rw [e0]; exact ⟨own_res (z' := ((p0 &&& (2097151 : Int32)) % (1114112 : Int32))) (by unfold fSc; rw [if_pos c11_1]) rfl, N0, rfl⟩) (by decide) (by decide) (fun fs hr => retI X0 hx Bd.returns (hb hby dsc_27) hr)
  · refine Go.s (XS.icmpNo X0.here hx rfl (hb hby dsc_11) rfl (XT.ii_lt_f c11_1)) ?_
    show Go p e below s _ _ _ (s₁.setTop (mkF m 14 #[.val (.int p0), .val (.int ((p0 &&& (2097151 : Int32)) % (1114112 : Int32)))] []))
    refine Go.s (XS.iloadN X0.here hx rfl (hb hby dsc_14) rfl) ?_
    refine Go.s (X0.ldcI hx hown (mvT hZ (own_w hw 106 rfl)) rfl (hb hby dsc_15)) ?_
    show Go p e below s _ _ _ (s₁.setTop (mkF m 17 #[.val (.int p0), .val (.int ((p0 &&& (2097151 : Int32)) % (1114112 : Int32)))] [(.int 57343), (.int ((p0 &&& (2097151 : Int32)) % (1114112 : Int32)))]))
    by_cases c17_2 : (57343 : Int32) < ((p0 &&& (2097151 : Int32)) % (1114112 : Int32))
    · refine Go.s (XS.icmpYes X0.here hx rfl (pc0 := 17) (pc' := 26) rfl (hb hby dsc_17) rfl (XT.ii_gt_t c17_2) (by decide) (by decide)) ?_
      show Go p e below s _ _ _ (s₁.setTop (mkF m 26 #[.val (.int p0), .val (.int ((p0 &&& (2097151 : Int32)) % (1114112 : Int32)))] []))
      refine Go.s (XS.iloadN X0.here hx rfl (hb hby dsc_26) rfl) ?_
      exact Go.ret X0 hlk (some (.int ((p0 &&& (2097151 : Int32)) % (1114112 : Int32)))) (fun h => by rw [Bd.returns] at h; cases h) (by rw [e0]; exact ⟨own_res (z' := ((p0 &&& (2097151 : Int32)) % (1114112 : Int32))) (by unfold fSc; rw [if_neg c11_1, if_pos c17_2]) rfl, N0, rfl⟩) (by decide) (by decide) (fun fs hr => retI X0 hx Bd.returns (hb hby dsc_27) hr)
    · refine Go.s (XS.icmpNo X0.here hx rfl (hb hby dsc_17) rfl (XT.ii_gt_f c17_2)) ?_
      show Go p e below s _ _ _ (s₁.setTop (mkF m 20 #[.val (.int p0), .val (.int ((p0 &&& (2097151 : Int32)) % (1114112 : Int32)))] []))
      refine Go.s (XS.iloadN X0.here hx rfl (hb hby dsc_20) rfl) ?_
      refine Go.s (XS.sipush X0.here hx rfl (hb hby dsc_21)) ?_
      refine Go.s (XS.iadd X0.here hx rfl (hb hby dsc_24) rfl) ?_
      refine Go.s (XS.istoreN X0.here hx rfl (hb hby dsc_25) rfl (l' := #[.val (.int p0), .val (.int (((p0 &&& (2097151 : Int32)) % (1114112 : Int32)) + (2048 : Int32)))]) rfl) ?_
      refine Go.s (XS.iloadN X0.here hx rfl (hb hby dsc_26) rfl) ?_
      exact Go.ret X0 hlk (some (.int (((p0 &&& (2097151 : Int32)) % (1114112 : Int32)) + (2048 : Int32)))) (fun h => by rw [Bd.returns] at h; cases h) (by rw [e0]; exact ⟨own_res (z' := (((p0 &&& (2097151 : Int32)) % (1114112 : Int32)) + (2048 : Int32))) (by unfold fSc; rw [if_neg c11_1, if_neg c17_2]) rfl, N0, rfl⟩) (by decide) (by decide) (fun fs hr => retI X0 hx Bd.returns (hb hby dsc_27) hr)
 obtain ⟨s2, o2, st2, r2⟩ := G
 exact ⟨s2, o2, castTop (efsc m p0) st2, r2⟩
theorem drf_0 : decode method_5_code 0 = .ok (.iload_n 2, 1) := by decide +kernel
theorem drf_1 : decode method_5_code 1 = .ok (.iconst 1, 1) := by decide +kernel
theorem drf_2 : decode method_5_code 2 = .ok (.if_icmp .lt 25, 3) := by decide +kernel
theorem drf_5 : decode method_5_code 5 = .ok (.iload 5, 2) := by decide +kernel
theorem drf_7 : decode method_5_code 7 = .ok (.iconst 1, 1) := by decide +kernel
theorem drf_8 : decode method_5_code 8 = .ok (.if_icmp .lt 19, 3) := by decide +kernel
theorem drf_11 : decode method_5_code 11 = .ok (.iload_n 0, 1) := by decide +kernel
theorem drf_12 : decode method_5_code 12 = .ok (.iload_n 3, 1) := by decide +kernel
theorem drf_13 : decode method_5_code 13 = .ok (.if_icmp .eq 14, 3) := by decide +kernel
theorem drf_16 : decode method_5_code 16 = .ok (.iload_n 0, 1) := by decide +kernel
theorem drf_17 : decode method_5_code 17 = .ok (.iload_n 3, 1) := by decide +kernel
theorem drf_18 : decode method_5_code 18 = .ok (.if_icmp .ge 7, 3) := by decide +kernel
theorem drf_21 : decode method_5_code 21 = .ok (.iconst (-1), 1) := by decide +kernel
theorem drf_22 : decode method_5_code 22 = .ok (.goto 4, 3) := by decide +kernel
theorem drf_25 : decode method_5_code 25 = .ok (.iconst 1, 1) := by decide +kernel
theorem drf_26 : decode method_5_code 26 = .ok (.ireturn, 1) := by decide +kernel
theorem drf_27 : decode method_5_code 27 = .ok (.iload_n 2, 1) := by decide +kernel
theorem drf_28 : decode method_5_code 28 = .ok (.iconst 2, 1) := by decide +kernel
theorem drf_29 : decode method_5_code 29 = .ok (.if_icmp .lt 27, 3) := by decide +kernel
theorem drf_32 : decode method_5_code 32 = .ok (.iload 5, 2) := by decide +kernel
theorem drf_34 : decode method_5_code 34 = .ok (.iconst 2, 1) := by decide +kernel
theorem drf_35 : decode method_5_code 35 = .ok (.if_icmp .lt 21, 3) := by decide +kernel
theorem drf_38 : decode method_5_code 38 = .ok (.iload_n 1, 1) := by decide +kernel
theorem drf_39 : decode method_5_code 39 = .ok (.iload 4, 2) := by decide +kernel
theorem drf_41 : decode method_5_code 41 = .ok (.if_icmp .eq 15, 3) := by decide +kernel
theorem drf_44 : decode method_5_code 44 = .ok (.iload_n 1, 1) := by decide +kernel
theorem drf_45 : decode method_5_code 45 = .ok (.iload 4, 2) := by decide +kernel
theorem drf_47 : decode method_5_code 47 = .ok (.if_icmp .ge 7, 3) := by decide +kernel
theorem drf_50 : decode method_5_code 50 = .ok (.iconst (-1), 1) := by decide +kernel
theorem drf_51 : decode method_5_code 51 = .ok (.goto 4, 3) := by decide +kernel
theorem drf_54 : decode method_5_code 54 = .ok (.iconst 1, 1) := by decide +kernel
theorem drf_55 : decode method_5_code 55 = .ok (.ireturn, 1) := by decide +kernel
theorem drf_56 : decode method_5_code 56 = .ok (.iload_n 2, 1) := by decide +kernel
theorem drf_57 : decode method_5_code 57 = .ok (.iload 5, 2) := by decide +kernel
theorem drf_59 : decode method_5_code 59 = .ok (.if_icmp .ge 5, 3) := by decide +kernel
theorem drf_62 : decode method_5_code 62 = .ok (.iconst (-1), 1) := by decide +kernel
theorem drf_63 : decode method_5_code 63 = .ok (.ireturn, 1) := by decide +kernel
theorem drf_64 : decode method_5_code 64 = .ok (.iload_n 2, 1) := by decide +kernel
theorem drf_65 : decode method_5_code 65 = .ok (.iload 5, 2) := by decide +kernel
theorem drf_67 : decode method_5_code 67 = .ok (.if_icmp .le 5, 3) := by decide +kernel
theorem drf_70 : decode method_5_code 70 = .ok (.iconst 1, 1) := by decide +kernel
theorem drf_71 : decode method_5_code 71 = .ok (.ireturn, 1) := by decide +kernel
theorem drf_72 : decode method_5_code 72 = .ok (.iconst 0, 1) := by decide +kernel
theorem drf_73 : decode method_5_code 73 = .ok (.ireturn, 1) := by decide +kernel
theorem pnrf : plainName "com/example/rootward/rootward/model/ShortestPathTreeCompareCodePointsPinLaw" = true := by first | (simp [plainName, overriddenIn]; done) | decide +kernel
theorem efrf (m : MethodId) (x0 : Int32) (x1 : Int32) (x2 : Int32) (x3 : Int32) (x4 : Int32) (x5 : Int32) : entryFrame m #[(.int x0), (.int x1), (.int x2), (.int x3), (.int x4), (.int x5)] 6 = mkF m 0 #[.val (.int x0), .val (.int x1), .val (.int x2), .val (.int x3), .val (.int x4), .val (.int x5)] [] := by first | (simp [entryFrame, mkF, argsToLocals, Value.category, maxLocals]; done) | rfl
def fRf (p0 : Int32) (p1 : Int32) (p2 : Int32) (p3 : Int32) (p4 : Int32) (p5 : Int32) : Int32 := (if p2 < (1 : Int32) then (if p2 < (2 : Int32) then (if p2 < p5 then (-1 : Int32) else (if p5 < p2 then (1 : Int32) else (0 : Int32))) else (if p5 < (2 : Int32) then (if p2 < p5 then (-1 : Int32) else (if p5 < p2 then (1 : Int32) else (0 : Int32))) else (if p1 = p4 then (if p2 < p5 then (-1 : Int32) else (if p5 < p2 then (1 : Int32) else (0 : Int32))) else (if p1 < p4 then (-1 : Int32) else (1 : Int32))))) else (if p5 < (1 : Int32) then (if p2 < (2 : Int32) then (if p2 < p5 then (-1 : Int32) else (if p5 < p2 then (1 : Int32) else (0 : Int32))) else (if p5 < (2 : Int32) then (if p2 < p5 then (-1 : Int32) else (if p5 < p2 then (1 : Int32) else (0 : Int32))) else (if p1 = p4 then (if p2 < p5 then (-1 : Int32) else (if p5 < p2 then (1 : Int32) else (0 : Int32))) else (if p1 < p4 then (-1 : Int32) else (1 : Int32))))) else (if p0 = p3 then (if p2 < (2 : Int32) then (if p2 < p5 then (-1 : Int32) else (if p5 < p2 then (1 : Int32) else (0 : Int32))) else (if p5 < (2 : Int32) then (if p2 < p5 then (-1 : Int32) else (if p5 < p2 then (1 : Int32) else (0 : Int32))) else (if p1 = p4 then (if p2 < p5 then (-1 : Int32) else (if p5 < p2 then (1 : Int32) else (0 : Int32))) else (if p1 < p4 then (-1 : Int32) else (1 : Int32))))) else (if p0 < p3 then (-1 : Int32) else (1 : Int32)))))
def Qrf (Z : State) (p0 : Int32) (p1 : Int32) (p2 : Int32) (p3 : Int32) (p4 : Int32) (p5 : Int32) (h0 : Heap) (n0 : Nat) (v : Option Value) (h : Heap) (L : List Loc) : Prop := v = some (.int (fRf p0 p1 p2 p3 p4 p5)) ∧ Fr n0 L ∧ h = h0
theorem rmrf (l : Launch) (Z : State) (a0 : Array Value) (hw : ∀ d ∈ tables_1, d.before a0 Z = true) (ws : List Jvm.Cond) (p0 : Int32) (p1 : Int32) (p2 : Int32) (p3 : Int32) (p4 : Int32) (p5 : Int32) (h0 : Heap) (n0 : Nat) (O0 : Old Z n0 h0)  :
  MetFree l mN31 (head1 (Jvm.Cond.code mN31 method_5_code 6 (some .int) :: ws) ({ frames := 0, cells := 0, slots := 0, locals := 0 } : Room)) (fun A_ U_ => A_ = #[(.int p0), (.int p1), (.int p2), (.int p3), (.int p4), (.int p5)] ∧ Z.Warmed39 U_.vm ∧ U_.heap = h0) (fun _ _ _ _ _ => True) (fun _ U o U' => ∃ v L, o = .returned v ∧ Qrf Z p0 p1 p2 p3 p4 p5 h0 n0 v U'.heap L ∧ FrameEnd U o U' L ({ frames := 0, cells := 0, slots := 0, locals := 0 } : Room).cells ({ frames := 0, cells := 0, slots := 0, locals := 0 } : Room).slots) := by
 refine MetFree.of_bodySF (plainFor_of_name pnrf) hisR ?_
 intro p e s m args below meth cd s₁ Bd hml0 hP hK
 obtain ⟨rfl, hZ, hh⟩ := hP
 have hx := Bd.exec
 have hby := Bd.bytes
 have hlk : meth.locks = false := BodyLoose.notSynchronized Bd
 have hml : cd.maxLocals = 6 := hml0
 have hown : s.vm.findClass "com/example/rootward/rootward/model/ShortestPathTreeCompareCodePointsPinLaw" = some m.cls := findClass_of_methodNamed Bd.named
 have X0 : Stand p l e ({ frames := 0, cells := 0, slots := 0, locals := 0 } : Room) s m #[(.int p0), (.int p1), (.int p2), (.int p3), (.int p4), (.int p5)] below meth cd s₁ [] 0 0 := Stand.of_body Bd
 have e0 : s₁.heap = h0 := by rw [← hh, Bd.state]; rfl
 have N0 := Fr.nil n0
 have G : Go p e below s 0 0 (Qrf Z p0 p1 p2 p3 p4 p5 h0 n0) (s₁.setTop (mkF m 0 #[.val (.int p0), .val (.int p1), .val (.int p2), .val (.int p3), .val (.int p4), .val (.int p5)] [])) := by
  refine Go.s (XS.iloadN X0.here hx rfl (hb hby drf_0) rfl) ?_
  refine Go.s (XS.iconst X0.here hx rfl (hb hby drf_1)) ?_
  by_cases c2_1 : p2 < (1 : Int32)
  · refine Go.s (XS.icmpYes X0.here hx rfl (pc0 := 2) (pc' := 27) rfl (hb hby drf_2) rfl (XT.ii_lt_t c2_1) (by decide) (by decide)) ?_
    show Go p e below s _ _ _ (s₁.setTop (mkF m 27 #[.val (.int p0), .val (.int p1), .val (.int p2), .val (.int p3), .val (.int p4), .val (.int p5)] []))
    refine Go.s (XS.iloadN X0.here hx rfl (hb hby drf_27) rfl) ?_
    refine Go.s (XS.iconst X0.here hx rfl (hb hby drf_28)) ?_
    by_cases c29_2 : p2 < (2 : Int32)
    · refine Go.s (XS.icmpYes X0.here hx rfl (pc0 := 29) (pc' := 56) rfl (hb hby drf_29) rfl (XT.ii_lt_t c29_2) (by decide) (by decide)) ?_
      show Go p e below s _ _ _ (s₁.setTop (mkF m 56 #[.val (.int p0), .val (.int p1), .val (.int p2), .val (.int p3), .val (.int p4), .val (.int p5)] []))
      refine Go.s (XS.iloadN X0.here hx rfl (hb hby drf_56) rfl) ?_
      refine Go.s (XS.iload X0.here hx rfl (hb hby drf_57) rfl) ?_
      by_cases c59_3 : p2 < p5
      · refine Go.s (XS.icmpNo X0.here hx rfl (hb hby drf_59) rfl (XT.ii_ge_f c59_3)) ?_
        show Go p e below s _ _ _ (s₁.setTop (mkF m 62 #[.val (.int p0), .val (.int p1), .val (.int p2), .val (.int p3), .val (.int p4), .val (.int p5)] []))
        refine Go.s (XS.iconst X0.here hx rfl (hb hby drf_62)) ?_
        exact Go.ret X0 hlk (some (.int (-1))) (fun h => by rw [Bd.returns] at h; cases h) (by rw [e0]; exact ⟨own_res (z' := (-1 : Int32)) (by unfold fRf; rw [if_pos c2_1, if_pos c29_2, if_pos c59_3]) rfl, N0, rfl⟩) (by decide) (by decide) (fun fs hr => retI X0 hx Bd.returns (hb hby drf_63) hr)
      · refine Go.s (XS.icmpYes X0.here hx rfl (pc0 := 59) (pc' := 64) rfl (hb hby drf_59) rfl (XT.ii_ge_t c59_3) (by decide) (by decide)) ?_
        show Go p e below s _ _ _ (s₁.setTop (mkF m 64 #[.val (.int p0), .val (.int p1), .val (.int p2), .val (.int p3), .val (.int p4), .val (.int p5)] []))
        refine Go.s (XS.iloadN X0.here hx rfl (hb hby drf_64) rfl) ?_
        refine Go.s (XS.iload X0.here hx rfl (hb hby drf_65) rfl) ?_
        by_cases c67_4 : p5 < p2
        · refine Go.s (XS.icmpNo X0.here hx rfl (hb hby drf_67) rfl (XT.ii_le_f c67_4)) ?_
          show Go p e below s _ _ _ (s₁.setTop (mkF m 70 #[.val (.int p0), .val (.int p1), .val (.int p2), .val (.int p3), .val (.int p4), .val (.int p5)] []))
          refine Go.s (XS.iconst X0.here hx rfl (hb hby drf_70)) ?_
          exact Go.ret X0 hlk (some (.int 1)) (fun h => by rw [Bd.returns] at h; cases h) (by rw [e0]; exact ⟨own_res (z' := (1 : Int32)) (by unfold fRf; rw [if_pos c2_1, if_pos c29_2, if_neg c59_3, if_pos c67_4]) rfl, N0, rfl⟩) (by decide) (by decide) (fun fs hr => retI X0 hx Bd.returns (hb hby drf_71) hr)
        · refine Go.s (XS.icmpYes X0.here hx rfl (pc0 := 67) (pc' := 72) rfl (hb hby drf_67) rfl (XT.ii_le_t c67_4) (by decide) (by decide)) ?_
          show Go p e below s _ _ _ (s₁.setTop (mkF m 72 #[.val (.int p0), .val (.int p1), .val (.int p2), .val (.int p3), .val (.int p4), .val (.int p5)] []))
          refine Go.s (XS.iconst X0.here hx rfl (hb hby drf_72)) ?_
          exact Go.ret X0 hlk (some (.int 0)) (fun h => by rw [Bd.returns] at h; cases h) (by rw [e0]; exact ⟨own_res (z' := (0 : Int32)) (by unfold fRf; rw [if_pos c2_1, if_pos c29_2, if_neg c59_3, if_neg c67_4]) rfl, N0, rfl⟩) (by decide) (by decide) (fun fs hr => retI X0 hx Bd.returns (hb hby drf_73) hr)
    · refine Go.s (XS.icmpNo X0.here hx rfl (hb hby drf_29) rfl (XT.ii_lt_f c29_2)) ?_
      show Go p e below s _ _ _ (s₁.setTop (mkF m 32 #[.val (.int p0), .val (.int p1), .val (.int p2), .val (.int p3), .val (.int p4), .val (.int p5)] []))
      refine Go.s (XS.iload X0.here hx rfl (hb hby drf_32) rfl) ?_
      refine Go.s (XS.iconst X0.here hx rfl (hb hby drf_34)) ?_
      by_cases c35_5 : p5 < (2 : Int32)
      · refine Go.s (XS.icmpYes X0.here hx rfl (pc0 := 35) (pc' := 56) rfl (hb hby drf_35) rfl (XT.ii_lt_t c35_5) (by decide) (by decide)) ?_
        show Go p e below s _ _ _ (s₁.setTop (mkF m 56 #[.val (.int p0), .val (.int p1), .val (.int p2), .val (.int p3), .val (.int p4), .val (.int p5)] []))
        refine Go.s (XS.iloadN X0.here hx rfl (hb hby drf_56) rfl) ?_
        refine Go.s (XS.iload X0.here hx rfl (hb hby drf_57) rfl) ?_
        by_cases c59_6 : p2 < p5
        · refine Go.s (XS.icmpNo X0.here hx rfl (hb hby drf_59) rfl (XT.ii_ge_f c59_6)) ?_
          show Go p e below s _ _ _ (s₁.setTop (mkF m 62 #[.val (.int p0), .val (.int p1), .val (.int p2), .val (.int p3), .val (.int p4), .val (.int p5)] []))
          refine Go.s (XS.iconst X0.here hx rfl (hb hby drf_62)) ?_
          exact Go.ret X0 hlk (some (.int (-1))) (fun h => by rw [Bd.returns] at h; cases h) (by rw [e0]; exact ⟨own_res (z' := (-1 : Int32)) (by unfold fRf; rw [if_pos c2_1, if_neg c29_2, if_pos c35_5, if_pos c59_6]) rfl, N0, rfl⟩) (by decide) (by decide) (fun fs hr => retI X0 hx Bd.returns (hb hby drf_63) hr)
        · refine Go.s (XS.icmpYes X0.here hx rfl (pc0 := 59) (pc' := 64) rfl (hb hby drf_59) rfl (XT.ii_ge_t c59_6) (by decide) (by decide)) ?_
          show Go p e below s _ _ _ (s₁.setTop (mkF m 64 #[.val (.int p0), .val (.int p1), .val (.int p2), .val (.int p3), .val (.int p4), .val (.int p5)] []))
          refine Go.s (XS.iloadN X0.here hx rfl (hb hby drf_64) rfl) ?_
          refine Go.s (XS.iload X0.here hx rfl (hb hby drf_65) rfl) ?_
          by_cases c67_7 : p5 < p2
          · refine Go.s (XS.icmpNo X0.here hx rfl (hb hby drf_67) rfl (XT.ii_le_f c67_7)) ?_
            show Go p e below s _ _ _ (s₁.setTop (mkF m 70 #[.val (.int p0), .val (.int p1), .val (.int p2), .val (.int p3), .val (.int p4), .val (.int p5)] []))
            refine Go.s (XS.iconst X0.here hx rfl (hb hby drf_70)) ?_
            exact Go.ret X0 hlk (some (.int 1)) (fun h => by rw [Bd.returns] at h; cases h) (by rw [e0]; exact ⟨own_res (z' := (1 : Int32)) (by unfold fRf; rw [if_pos c2_1, if_neg c29_2, if_pos c35_5, if_neg c59_6, if_pos c67_7]) rfl, N0, rfl⟩) (by decide) (by decide) (fun fs hr => retI X0 hx Bd.returns (hb hby drf_71) hr)
          · refine Go.s (XS.icmpYes X0.here hx rfl (pc0 := 67) (pc' := 72) rfl (hb hby drf_67) rfl (XT.ii_le_t c67_7) (by decide) (by decide)) ?_
            show Go p e below s _ _ _ (s₁.setTop (mkF m 72 #[.val (.int p0), .val (.int p1), .val (.int p2), .val (.int p3), .val (.int p4), .val (.int p5)] []))
            refine Go.s (XS.iconst X0.here hx rfl (hb hby drf_72)) ?_
            exact Go.ret X0 hlk (some (.int 0)) (fun h => by rw [Bd.returns] at h; cases h) (by rw [e0]; exact ⟨own_res (z' := (0 : Int32)) (by unfold fRf; rw [if_pos c2_1, if_neg c29_2, if_pos c35_5, if_neg c59_6, if_neg c67_7]) rfl, N0, rfl⟩) (by decide) (by decide) (fun fs hr => retI X0 hx Bd.returns (hb hby drf_73) hr)
      · refine Go.s (XS.icmpNo X0.here hx rfl (hb hby drf_35) rfl (XT.ii_lt_f c35_5)) ?_
        show Go p e below s _ _ _ (s₁.setTop (mkF m 38 #[.val (.int p0), .val (.int p1), .val (.int p2), .val (.int p3), .val (.int p4), .val (.int p5)] []))
        refine Go.s (XS.iloadN X0.here hx rfl (hb hby drf_38) rfl) ?_
        refine Go.s (XS.iload X0.here hx rfl (hb hby drf_39) rfl) ?_
        by_cases c41_8 : p1 = p4
        · refine Go.s (XS.icmpYes X0.here hx rfl (pc0 := 41) (pc' := 56) rfl (hb hby drf_41) rfl (XT.ii_eq_t c41_8) (by decide) (by decide)) ?_
          show Go p e below s _ _ _ (s₁.setTop (mkF m 56 #[.val (.int p0), .val (.int p1), .val (.int p2), .val (.int p3), .val (.int p4), .val (.int p5)] []))
          refine Go.s (XS.iloadN X0.here hx rfl (hb hby drf_56) rfl) ?_
          refine Go.s (XS.iload X0.here hx rfl (hb hby drf_57) rfl) ?_
          by_cases c59_9 : p2 < p5
          · refine Go.s (XS.icmpNo X0.here hx rfl (hb hby drf_59) rfl (XT.ii_ge_f c59_9)) ?_
            show Go p e below s _ _ _ (s₁.setTop (mkF m 62 #[.val (.int p0), .val (.int p1), .val (.int p2), .val (.int p3), .val (.int p4), .val (.int p5)] []))
            refine Go.s (XS.iconst X0.here hx rfl (hb hby drf_62)) ?_
            exact Go.ret X0 hlk (some (.int (-1))) (fun h => by rw [Bd.returns] at h; cases h) (by rw [e0]; exact ⟨own_res (z' := (-1 : Int32)) (by unfold fRf; rw [if_pos c2_1, if_neg c29_2, if_neg c35_5, if_pos c41_8, if_pos c59_9]) rfl, N0, rfl⟩) (by decide) (by decide) (fun fs hr => retI X0 hx Bd.returns (hb hby drf_63) hr)
          · refine Go.s (XS.icmpYes X0.here hx rfl (pc0 := 59) (pc' := 64) rfl (hb hby drf_59) rfl (XT.ii_ge_t c59_9) (by decide) (by decide)) ?_
            show Go p e below s _ _ _ (s₁.setTop (mkF m 64 #[.val (.int p0), .val (.int p1), .val (.int p2), .val (.int p3), .val (.int p4), .val (.int p5)] []))
            refine Go.s (XS.iloadN X0.here hx rfl (hb hby drf_64) rfl) ?_
            refine Go.s (XS.iload X0.here hx rfl (hb hby drf_65) rfl) ?_
            by_cases c67_10 : p5 < p2
            · refine Go.s (XS.icmpNo X0.here hx rfl (hb hby drf_67) rfl (XT.ii_le_f c67_10)) ?_
              show Go p e below s _ _ _ (s₁.setTop (mkF m 70 #[.val (.int p0), .val (.int p1), .val (.int p2), .val (.int p3), .val (.int p4), .val (.int p5)] []))
              refine Go.s (XS.iconst X0.here hx rfl (hb hby drf_70)) ?_
              exact Go.ret X0 hlk (some (.int 1)) (fun h => by rw [Bd.returns] at h; cases h) (by rw [e0]; exact ⟨own_res (z' := (1 : Int32)) (by unfold fRf; rw [if_pos c2_1, if_neg c29_2, if_neg c35_5, if_pos c41_8, if_neg c59_9, if_pos c67_10]) rfl, N0, rfl⟩) (by decide) (by decide) (fun fs hr => retI X0 hx Bd.returns (hb hby drf_71) hr)
            · refine Go.s (XS.icmpYes X0.here hx rfl (pc0 := 67) (pc' := 72) rfl (hb hby drf_67) rfl (XT.ii_le_t c67_10) (by decide) (by decide)) ?_
              show Go p e below s _ _ _ (s₁.setTop (mkF m 72 #[.val (.int p0), .val (.int p1), .val (.int p2), .val (.int p3), .val (.int p4), .val (.int p5)] []))
              refine Go.s (XS.iconst X0.here hx rfl (hb hby drf_72)) ?_
              exact Go.ret X0 hlk (some (.int 0)) (fun h => by rw [Bd.returns] at h; cases h) (by rw [e0]; exact ⟨own_res (z' := (0 : Int32)) (by unfold fRf; rw [if_pos c2_1, if_neg c29_2, if_neg c35_5, if_pos c41_8, if_neg c59_9, if_neg c67_10]) rfl, N0, rfl⟩) (by decide) (by decide) (fun fs hr => retI X0 hx Bd.returns (hb hby drf_73) hr)
        · refine Go.s (XS.icmpNo X0.here hx rfl (hb hby drf_41) rfl (XT.ii_eq_f c41_8)) ?_
          show Go p e below s _ _ _ (s₁.setTop (mkF m 44 #[.val (.int p0), .val (.int p1), .val (.int p2), .val (.int p3), .val (.int p4), .val (.int p5)] []))
          refine Go.s (XS.iloadN X0.here hx rfl (hb hby drf_44) rfl) ?_
          refine Go.s (XS.iload X0.here hx rfl (hb hby drf_45) rfl) ?_
          by_cases c47_11 : p1 < p4
          · refine Go.s (XS.icmpNo X0.here hx rfl (hb hby drf_47) rfl (XT.ii_ge_f c47_11)) ?_
            show Go p e below s _ _ _ (s₁.setTop (mkF m 50 #[.val (.int p0), .val (.int p1), .val (.int p2), .val (.int p3), .val (.int p4), .val (.int p5)] []))
            refine Go.s (XS.iconst X0.here hx rfl (hb hby drf_50)) ?_
            refine Go.s (XS.goto X0.here hx rfl (pc0 := 51) (pc' := 55) rfl (hb hby drf_51) (by decide) (by decide)) ?_
            exact Go.ret X0 hlk (some (.int (-1))) (fun h => by rw [Bd.returns] at h; cases h) (by rw [e0]; exact ⟨own_res (z' := (-1 : Int32)) (by unfold fRf; rw [if_pos c2_1, if_neg c29_2, if_neg c35_5, if_neg c41_8, if_pos c47_11]) rfl, N0, rfl⟩) (by decide) (by decide) (fun fs hr => retI X0 hx Bd.returns (hb hby drf_55) hr)
          · refine Go.s (XS.icmpYes X0.here hx rfl (pc0 := 47) (pc' := 54) rfl (hb hby drf_47) rfl (XT.ii_ge_t c47_11) (by decide) (by decide)) ?_
            show Go p e below s _ _ _ (s₁.setTop (mkF m 54 #[.val (.int p0), .val (.int p1), .val (.int p2), .val (.int p3), .val (.int p4), .val (.int p5)] []))
            refine Go.s (XS.iconst X0.here hx rfl (hb hby drf_54)) ?_
            exact Go.ret X0 hlk (some (.int 1)) (fun h => by rw [Bd.returns] at h; cases h) (by rw [e0]; exact ⟨own_res (z' := (1 : Int32)) (by unfold fRf; rw [if_pos c2_1, if_neg c29_2, if_neg c35_5, if_neg c41_8, if_neg c47_11]) rfl, N0, rfl⟩) (by decide) (by decide) (fun fs hr => retI X0 hx Bd.returns (hb hby drf_55) hr)
  · refine Go.s (XS.icmpNo X0.here hx rfl (hb hby drf_2) rfl (XT.ii_lt_f c2_1)) ?_
    show Go p e below s _ _ _ (s₁.setTop (mkF m 5 #[.val (.int p0), .val (.int p1), .val (.int p2), .val (.int p3), .val (.int p4), .val (.int p5)] []))
    refine Go.s (XS.iload X0.here hx rfl (hb hby drf_5) rfl) ?_
    refine Go.s (XS.iconst X0.here hx rfl (hb hby drf_7)) ?_
    by_cases c8_12 : p5 < (1 : Int32)
    · refine Go.s (XS.icmpYes X0.here hx rfl (pc0 := 8) (pc' := 27) rfl (hb hby drf_8) rfl (XT.ii_lt_t c8_12) (by decide) (by decide)) ?_
      show Go p e below s _ _ _ (s₁.setTop (mkF m 27 #[.val (.int p0), .val (.int p1), .val (.int p2), .val (.int p3), .val (.int p4), .val (.int p5)] []))
      refine Go.s (XS.iloadN X0.here hx rfl (hb hby drf_27) rfl) ?_
      refine Go.s (XS.iconst X0.here hx rfl (hb hby drf_28)) ?_
      by_cases c29_13 : p2 < (2 : Int32)
      · refine Go.s (XS.icmpYes X0.here hx rfl (pc0 := 29) (pc' := 56) rfl (hb hby drf_29) rfl (XT.ii_lt_t c29_13) (by decide) (by decide)) ?_
        show Go p e below s _ _ _ (s₁.setTop (mkF m 56 #[.val (.int p0), .val (.int p1), .val (.int p2), .val (.int p3), .val (.int p4), .val (.int p5)] []))
        refine Go.s (XS.iloadN X0.here hx rfl (hb hby drf_56) rfl) ?_
        refine Go.s (XS.iload X0.here hx rfl (hb hby drf_57) rfl) ?_
        by_cases c59_14 : p2 < p5
        · refine Go.s (XS.icmpNo X0.here hx rfl (hb hby drf_59) rfl (XT.ii_ge_f c59_14)) ?_
          show Go p e below s _ _ _ (s₁.setTop (mkF m 62 #[.val (.int p0), .val (.int p1), .val (.int p2), .val (.int p3), .val (.int p4), .val (.int p5)] []))
          refine Go.s (XS.iconst X0.here hx rfl (hb hby drf_62)) ?_
          exact Go.ret X0 hlk (some (.int (-1))) (fun h => by rw [Bd.returns] at h; cases h) (by rw [e0]; exact ⟨own_res (z' := (-1 : Int32)) (by unfold fRf; rw [if_neg c2_1, if_pos c8_12, if_pos c29_13, if_pos c59_14]) rfl, N0, rfl⟩) (by decide) (by decide) (fun fs hr => retI X0 hx Bd.returns (hb hby drf_63) hr)
        · refine Go.s (XS.icmpYes X0.here hx rfl (pc0 := 59) (pc' := 64) rfl (hb hby drf_59) rfl (XT.ii_ge_t c59_14) (by decide) (by decide)) ?_
          show Go p e below s _ _ _ (s₁.setTop (mkF m 64 #[.val (.int p0), .val (.int p1), .val (.int p2), .val (.int p3), .val (.int p4), .val (.int p5)] []))
          refine Go.s (XS.iloadN X0.here hx rfl (hb hby drf_64) rfl) ?_
          refine Go.s (XS.iload X0.here hx rfl (hb hby drf_65) rfl) ?_
          by_cases c67_15 : p5 < p2
          · refine Go.s (XS.icmpNo X0.here hx rfl (hb hby drf_67) rfl (XT.ii_le_f c67_15)) ?_
            show Go p e below s _ _ _ (s₁.setTop (mkF m 70 #[.val (.int p0), .val (.int p1), .val (.int p2), .val (.int p3), .val (.int p4), .val (.int p5)] []))
            refine Go.s (XS.iconst X0.here hx rfl (hb hby drf_70)) ?_
            exact Go.ret X0 hlk (some (.int 1)) (fun h => by rw [Bd.returns] at h; cases h) (by rw [e0]; exact ⟨own_res (z' := (1 : Int32)) (by unfold fRf; rw [if_neg c2_1, if_pos c8_12, if_pos c29_13, if_neg c59_14, if_pos c67_15]) rfl, N0, rfl⟩) (by decide) (by decide) (fun fs hr => retI X0 hx Bd.returns (hb hby drf_71) hr)
          · refine Go.s (XS.icmpYes X0.here hx rfl (pc0 := 67) (pc' := 72) rfl (hb hby drf_67) rfl (XT.ii_le_t c67_15) (by decide) (by decide)) ?_
            show Go p e below s _ _ _ (s₁.setTop (mkF m 72 #[.val (.int p0), .val (.int p1), .val (.int p2), .val (.int p3), .val (.int p4), .val (.int p5)] []))
            refine Go.s (XS.iconst X0.here hx rfl (hb hby drf_72)) ?_
            exact Go.ret X0 hlk (some (.int 0)) (fun h => by rw [Bd.returns] at h; cases h) (by rw [e0]; exact ⟨own_res (z' := (0 : Int32)) (by unfold fRf; rw [if_neg c2_1, if_pos c8_12, if_pos c29_13, if_neg c59_14, if_neg c67_15]) rfl, N0, rfl⟩) (by decide) (by decide) (fun fs hr => retI X0 hx Bd.returns (hb hby drf_73) hr)
      · refine Go.s (XS.icmpNo X0.here hx rfl (hb hby drf_29) rfl (XT.ii_lt_f c29_13)) ?_
        show Go p e below s _ _ _ (s₁.setTop (mkF m 32 #[.val (.int p0), .val (.int p1), .val (.int p2), .val (.int p3), .val (.int p4), .val (.int p5)] []))
        refine Go.s (XS.iload X0.here hx rfl (hb hby drf_32) rfl) ?_
        refine Go.s (XS.iconst X0.here hx rfl (hb hby drf_34)) ?_
        by_cases c35_16 : p5 < (2 : Int32)
        · refine Go.s (XS.icmpYes X0.here hx rfl (pc0 := 35) (pc' := 56) rfl (hb hby drf_35) rfl (XT.ii_lt_t c35_16) (by decide) (by decide)) ?_
          show Go p e below s _ _ _ (s₁.setTop (mkF m 56 #[.val (.int p0), .val (.int p1), .val (.int p2), .val (.int p3), .val (.int p4), .val (.int p5)] []))
          refine Go.s (XS.iloadN X0.here hx rfl (hb hby drf_56) rfl) ?_
          refine Go.s (XS.iload X0.here hx rfl (hb hby drf_57) rfl) ?_
          by_cases c59_17 : p2 < p5
          · refine Go.s (XS.icmpNo X0.here hx rfl (hb hby drf_59) rfl (XT.ii_ge_f c59_17)) ?_
            show Go p e below s _ _ _ (s₁.setTop (mkF m 62 #[.val (.int p0), .val (.int p1), .val (.int p2), .val (.int p3), .val (.int p4), .val (.int p5)] []))
            refine Go.s (XS.iconst X0.here hx rfl (hb hby drf_62)) ?_
            exact Go.ret X0 hlk (some (.int (-1))) (fun h => by rw [Bd.returns] at h; cases h) (by rw [e0]; exact ⟨own_res (z' := (-1 : Int32)) (by unfold fRf; rw [if_neg c2_1, if_pos c8_12, if_neg c29_13, if_pos c35_16, if_pos c59_17]) rfl, N0, rfl⟩) (by decide) (by decide) (fun fs hr => retI X0 hx Bd.returns (hb hby drf_63) hr)
          · refine Go.s (XS.icmpYes X0.here hx rfl (pc0 := 59) (pc' := 64) rfl (hb hby drf_59) rfl (XT.ii_ge_t c59_17) (by decide) (by decide)) ?_
            show Go p e below s _ _ _ (s₁.setTop (mkF m 64 #[.val (.int p0), .val (.int p1), .val (.int p2), .val (.int p3), .val (.int p4), .val (.int p5)] []))
            refine Go.s (XS.iloadN X0.here hx rfl (hb hby drf_64) rfl) ?_
            refine Go.s (XS.iload X0.here hx rfl (hb hby drf_65) rfl) ?_
            by_cases c67_18 : p5 < p2
            · refine Go.s (XS.icmpNo X0.here hx rfl (hb hby drf_67) rfl (XT.ii_le_f c67_18)) ?_
              show Go p e below s _ _ _ (s₁.setTop (mkF m 70 #[.val (.int p0), .val (.int p1), .val (.int p2), .val (.int p3), .val (.int p4), .val (.int p5)] []))
              refine Go.s (XS.iconst X0.here hx rfl (hb hby drf_70)) ?_
              exact Go.ret X0 hlk (some (.int 1)) (fun h => by rw [Bd.returns] at h; cases h) (by rw [e0]; exact ⟨own_res (z' := (1 : Int32)) (by unfold fRf; rw [if_neg c2_1, if_pos c8_12, if_neg c29_13, if_pos c35_16, if_neg c59_17, if_pos c67_18]) rfl, N0, rfl⟩) (by decide) (by decide) (fun fs hr => retI X0 hx Bd.returns (hb hby drf_71) hr)
            · refine Go.s (XS.icmpYes X0.here hx rfl (pc0 := 67) (pc' := 72) rfl (hb hby drf_67) rfl (XT.ii_le_t c67_18) (by decide) (by decide)) ?_
              show Go p e below s _ _ _ (s₁.setTop (mkF m 72 #[.val (.int p0), .val (.int p1), .val (.int p2), .val (.int p3), .val (.int p4), .val (.int p5)] []))
              refine Go.s (XS.iconst X0.here hx rfl (hb hby drf_72)) ?_
              exact Go.ret X0 hlk (some (.int 0)) (fun h => by rw [Bd.returns] at h; cases h) (by rw [e0]; exact ⟨own_res (z' := (0 : Int32)) (by unfold fRf; rw [if_neg c2_1, if_pos c8_12, if_neg c29_13, if_pos c35_16, if_neg c59_17, if_neg c67_18]) rfl, N0, rfl⟩) (by decide) (by decide) (fun fs hr => retI X0 hx Bd.returns (hb hby drf_73) hr)
        · refine Go.s (XS.icmpNo X0.here hx rfl (hb hby drf_35) rfl (XT.ii_lt_f c35_16)) ?_
          show Go p e below s _ _ _ (s₁.setTop (mkF m 38 #[.val (.int p0), .val (.int p1), .val (.int p2), .val (.int p3), .val (.int p4), .val (.int p5)] []))
          refine Go.s (XS.iloadN X0.here hx rfl (hb hby drf_38) rfl) ?_
          refine Go.s (XS.iload X0.here hx rfl (hb hby drf_39) rfl) ?_
          by_cases c41_19 : p1 = p4
          · refine Go.s (XS.icmpYes X0.here hx rfl (pc0 := 41) (pc' := 56) rfl (hb hby drf_41) rfl (XT.ii_eq_t c41_19) (by decide) (by decide)) ?_
            show Go p e below s _ _ _ (s₁.setTop (mkF m 56 #[.val (.int p0), .val (.int p1), .val (.int p2), .val (.int p3), .val (.int p4), .val (.int p5)] []))
            refine Go.s (XS.iloadN X0.here hx rfl (hb hby drf_56) rfl) ?_
            refine Go.s (XS.iload X0.here hx rfl (hb hby drf_57) rfl) ?_
            by_cases c59_20 : p2 < p5
            · refine Go.s (XS.icmpNo X0.here hx rfl (hb hby drf_59) rfl (XT.ii_ge_f c59_20)) ?_
              show Go p e below s _ _ _ (s₁.setTop (mkF m 62 #[.val (.int p0), .val (.int p1), .val (.int p2), .val (.int p3), .val (.int p4), .val (.int p5)] []))
              refine Go.s (XS.iconst X0.here hx rfl (hb hby drf_62)) ?_
              exact Go.ret X0 hlk (some (.int (-1))) (fun h => by rw [Bd.returns] at h; cases h) (by rw [e0]; exact ⟨own_res (z' := (-1 : Int32)) (by unfold fRf; rw [if_neg c2_1, if_pos c8_12, if_neg c29_13, if_neg c35_16, if_pos c41_19, if_pos c59_20]) rfl, N0, rfl⟩) (by decide) (by decide) (fun fs hr => retI X0 hx Bd.returns (hb hby drf_63) hr)
            · refine Go.s (XS.icmpYes X0.here hx rfl (pc0 := 59) (pc' := 64) rfl (hb hby drf_59) rfl (XT.ii_ge_t c59_20) (by decide) (by decide)) ?_
              show Go p e below s _ _ _ (s₁.setTop (mkF m 64 #[.val (.int p0), .val (.int p1), .val (.int p2), .val (.int p3), .val (.int p4), .val (.int p5)] []))
              refine Go.s (XS.iloadN X0.here hx rfl (hb hby drf_64) rfl) ?_
              refine Go.s (XS.iload X0.here hx rfl (hb hby drf_65) rfl) ?_
              by_cases c67_21 : p5 < p2
              · refine Go.s (XS.icmpNo X0.here hx rfl (hb hby drf_67) rfl (XT.ii_le_f c67_21)) ?_
                show Go p e below s _ _ _ (s₁.setTop (mkF m 70 #[.val (.int p0), .val (.int p1), .val (.int p2), .val (.int p3), .val (.int p4), .val (.int p5)] []))
                refine Go.s (XS.iconst X0.here hx rfl (hb hby drf_70)) ?_
                exact Go.ret X0 hlk (some (.int 1)) (fun h => by rw [Bd.returns] at h; cases h) (by rw [e0]; exact ⟨own_res (z' := (1 : Int32)) (by unfold fRf; rw [if_neg c2_1, if_pos c8_12, if_neg c29_13, if_neg c35_16, if_pos c41_19, if_neg c59_20, if_pos c67_21]) rfl, N0, rfl⟩) (by decide) (by decide) (fun fs hr => retI X0 hx Bd.returns (hb hby drf_71) hr)
              · refine Go.s (XS.icmpYes X0.here hx rfl (pc0 := 67) (pc' := 72) rfl (hb hby drf_67) rfl (XT.ii_le_t c67_21) (by decide) (by decide)) ?_
                show Go p e below s _ _ _ (s₁.setTop (mkF m 72 #[.val (.int p0), .val (.int p1), .val (.int p2), .val (.int p3), .val (.int p4), .val (.int p5)] []))
                refine Go.s (XS.iconst X0.here hx rfl (hb hby drf_72)) ?_
                exact Go.ret X0 hlk (some (.int 0)) (fun h => by rw [Bd.returns] at h; cases h) (by rw [e0]; exact ⟨own_res (z' := (0 : Int32)) (by unfold fRf; rw [if_neg c2_1, if_pos c8_12, if_neg c29_13, if_neg c35_16, if_pos c41_19, if_neg c59_20, if_neg c67_21]) rfl, N0, rfl⟩) (by decide) (by decide) (fun fs hr => retI X0 hx Bd.returns (hb hby drf_73) hr)
          · refine Go.s (XS.icmpNo X0.here hx rfl (hb hby drf_41) rfl (XT.ii_eq_f c41_19)) ?_
            show Go p e below s _ _ _ (s₁.setTop (mkF m 44 #[.val (.int p0), .val (.int p1), .val (.int p2), .val (.int p3), .val (.int p4), .val (.int p5)] []))
            refine Go.s (XS.iloadN X0.here hx rfl (hb hby drf_44) rfl) ?_
            refine Go.s (XS.iload X0.here hx rfl (hb hby drf_45) rfl) ?_
            by_cases c47_22 : p1 < p4
            · refine Go.s (XS.icmpNo X0.here hx rfl (hb hby drf_47) rfl (XT.ii_ge_f c47_22)) ?_
              show Go p e below s _ _ _ (s₁.setTop (mkF m 50 #[.val (.int p0), .val (.int p1), .val (.int p2), .val (.int p3), .val (.int p4), .val (.int p5)] []))
              refine Go.s (XS.iconst X0.here hx rfl (hb hby drf_50)) ?_
              refine Go.s (XS.goto X0.here hx rfl (pc0 := 51) (pc' := 55) rfl (hb hby drf_51) (by decide) (by decide)) ?_
              exact Go.ret X0 hlk (some (.int (-1))) (fun h => by rw [Bd.returns] at h; cases h) (by rw [e0]; exact ⟨own_res (z' := (-1 : Int32)) (by unfold fRf; rw [if_neg c2_1, if_pos c8_12, if_neg c29_13, if_neg c35_16, if_neg c41_19, if_pos c47_22]) rfl, N0, rfl⟩) (by decide) (by decide) (fun fs hr => retI X0 hx Bd.returns (hb hby drf_55) hr)
            · refine Go.s (XS.icmpYes X0.here hx rfl (pc0 := 47) (pc' := 54) rfl (hb hby drf_47) rfl (XT.ii_ge_t c47_22) (by decide) (by decide)) ?_
              show Go p e below s _ _ _ (s₁.setTop (mkF m 54 #[.val (.int p0), .val (.int p1), .val (.int p2), .val (.int p3), .val (.int p4), .val (.int p5)] []))
              refine Go.s (XS.iconst X0.here hx rfl (hb hby drf_54)) ?_
              exact Go.ret X0 hlk (some (.int 1)) (fun h => by rw [Bd.returns] at h; cases h) (by rw [e0]; exact ⟨own_res (z' := (1 : Int32)) (by unfold fRf; rw [if_neg c2_1, if_pos c8_12, if_neg c29_13, if_neg c35_16, if_neg c41_19, if_neg c47_22]) rfl, N0, rfl⟩) (by decide) (by decide) (fun fs hr => retI X0 hx Bd.returns (hb hby drf_55) hr)
    · refine Go.s (XS.icmpNo X0.here hx rfl (hb hby drf_8) rfl (XT.ii_lt_f c8_12)) ?_
      show Go p e below s _ _ _ (s₁.setTop (mkF m 11 #[.val (.int p0), .val (.int p1), .val (.int p2), .val (.int p3), .val (.int p4), .val (.int p5)] []))
      refine Go.s (XS.iloadN X0.here hx rfl (hb hby drf_11) rfl) ?_
      refine Go.s (XS.iloadN X0.here hx rfl (hb hby drf_12) rfl) ?_
      by_cases c13_23 : p0 = p3
      · refine Go.s (XS.icmpYes X0.here hx rfl (pc0 := 13) (pc' := 27) rfl (hb hby drf_13) rfl (XT.ii_eq_t c13_23) (by decide) (by decide)) ?_
        show Go p e below s _ _ _ (s₁.setTop (mkF m 27 #[.val (.int p0), .val (.int p1), .val (.int p2), .val (.int p3), .val (.int p4), .val (.int p5)] []))
        refine Go.s (XS.iloadN X0.here hx rfl (hb hby drf_27) rfl) ?_
        refine Go.s (XS.iconst X0.here hx rfl (hb hby drf_28)) ?_
        by_cases c29_24 : p2 < (2 : Int32)
        · refine Go.s (XS.icmpYes X0.here hx rfl (pc0 := 29) (pc' := 56) rfl (hb hby drf_29) rfl (XT.ii_lt_t c29_24) (by decide) (by decide)) ?_
          show Go p e below s _ _ _ (s₁.setTop (mkF m 56 #[.val (.int p0), .val (.int p1), .val (.int p2), .val (.int p3), .val (.int p4), .val (.int p5)] []))
          refine Go.s (XS.iloadN X0.here hx rfl (hb hby drf_56) rfl) ?_
          refine Go.s (XS.iload X0.here hx rfl (hb hby drf_57) rfl) ?_
          by_cases c59_25 : p2 < p5
          · refine Go.s (XS.icmpNo X0.here hx rfl (hb hby drf_59) rfl (XT.ii_ge_f c59_25)) ?_
            show Go p e below s _ _ _ (s₁.setTop (mkF m 62 #[.val (.int p0), .val (.int p1), .val (.int p2), .val (.int p3), .val (.int p4), .val (.int p5)] []))
            refine Go.s (XS.iconst X0.here hx rfl (hb hby drf_62)) ?_
            exact Go.ret X0 hlk (some (.int (-1))) (fun h => by rw [Bd.returns] at h; cases h) (by rw [e0]; exact ⟨own_res (z' := (-1 : Int32)) (by unfold fRf; rw [if_neg c2_1, if_neg c8_12, if_pos c13_23, if_pos c29_24, if_pos c59_25]) rfl, N0, rfl⟩) (by decide) (by decide) (fun fs hr => retI X0 hx Bd.returns (hb hby drf_63) hr)
          · refine Go.s (XS.icmpYes X0.here hx rfl (pc0 := 59) (pc' := 64) rfl (hb hby drf_59) rfl (XT.ii_ge_t c59_25) (by decide) (by decide)) ?_
            show Go p e below s _ _ _ (s₁.setTop (mkF m 64 #[.val (.int p0), .val (.int p1), .val (.int p2), .val (.int p3), .val (.int p4), .val (.int p5)] []))
            refine Go.s (XS.iloadN X0.here hx rfl (hb hby drf_64) rfl) ?_
            refine Go.s (XS.iload X0.here hx rfl (hb hby drf_65) rfl) ?_
            by_cases c67_26 : p5 < p2
            · refine Go.s (XS.icmpNo X0.here hx rfl (hb hby drf_67) rfl (XT.ii_le_f c67_26)) ?_
              show Go p e below s _ _ _ (s₁.setTop (mkF m 70 #[.val (.int p0), .val (.int p1), .val (.int p2), .val (.int p3), .val (.int p4), .val (.int p5)] []))
              refine Go.s (XS.iconst X0.here hx rfl (hb hby drf_70)) ?_
              exact Go.ret X0 hlk (some (.int 1)) (fun h => by rw [Bd.returns] at h; cases h) (by rw [e0]; exact ⟨own_res (z' := (1 : Int32)) (by unfold fRf; rw [if_neg c2_1, if_neg c8_12, if_pos c13_23, if_pos c29_24, if_neg c59_25, if_pos c67_26]) rfl, N0, rfl⟩) (by decide) (by decide) (fun fs hr => retI X0 hx Bd.returns (hb hby drf_71) hr)
            · refine Go.s (XS.icmpYes X0.here hx rfl (pc0 := 67) (pc' := 72) rfl (hb hby drf_67) rfl (XT.ii_le_t c67_26) (by decide) (by decide)) ?_
              show Go p e below s _ _ _ (s₁.setTop (mkF m 72 #[.val (.int p0), .val (.int p1), .val (.int p2), .val (.int p3), .val (.int p4), .val (.int p5)] []))
              refine Go.s (XS.iconst X0.here hx rfl (hb hby drf_72)) ?_
              exact Go.ret X0 hlk (some (.int 0)) (fun h => by rw [Bd.returns] at h; cases h) (by rw [e0]; exact ⟨own_res (z' := (0 : Int32)) (by unfold fRf; rw [if_neg c2_1, if_neg c8_12, if_pos c13_23, if_pos c29_24, if_neg c59_25, if_neg c67_26]) rfl, N0, rfl⟩) (by decide) (by decide) (fun fs hr => retI X0 hx Bd.returns (hb hby drf_73) hr)
        · refine Go.s (XS.icmpNo X0.here hx rfl (hb hby drf_29) rfl (XT.ii_lt_f c29_24)) ?_
          show Go p e below s _ _ _ (s₁.setTop (mkF m 32 #[.val (.int p0), .val (.int p1), .val (.int p2), .val (.int p3), .val (.int p4), .val (.int p5)] []))
          refine Go.s (XS.iload X0.here hx rfl (hb hby drf_32) rfl) ?_
          refine Go.s (XS.iconst X0.here hx rfl (hb hby drf_34)) ?_
          by_cases c35_27 : p5 < (2 : Int32)
          · refine Go.s (XS.icmpYes X0.here hx rfl (pc0 := 35) (pc' := 56) rfl (hb hby drf_35) rfl (XT.ii_lt_t c35_27) (by decide) (by decide)) ?_
            show Go p e below s _ _ _ (s₁.setTop (mkF m 56 #[.val (.int p0), .val (.int p1), .val (.int p2), .val (.int p3), .val (.int p4), .val (.int p5)] []))
            refine Go.s (XS.iloadN X0.here hx rfl (hb hby drf_56) rfl) ?_
            refine Go.s (XS.iload X0.here hx rfl (hb hby drf_57) rfl) ?_
            by_cases c59_28 : p2 < p5
            · refine Go.s (XS.icmpNo X0.here hx rfl (hb hby drf_59) rfl (XT.ii_ge_f c59_28)) ?_
              show Go p e below s _ _ _ (s₁.setTop (mkF m 62 #[.val (.int p0), .val (.int p1), .val (.int p2), .val (.int p3), .val (.int p4), .val (.int p5)] []))
              refine Go.s (XS.iconst X0.here hx rfl (hb hby drf_62)) ?_
              exact Go.ret X0 hlk (some (.int (-1))) (fun h => by rw [Bd.returns] at h; cases h) (by rw [e0]; exact ⟨own_res (z' := (-1 : Int32)) (by unfold fRf; rw [if_neg c2_1, if_neg c8_12, if_pos c13_23, if_neg c29_24, if_pos c35_27, if_pos c59_28]) rfl, N0, rfl⟩) (by decide) (by decide) (fun fs hr => retI X0 hx Bd.returns (hb hby drf_63) hr)
            · refine Go.s (XS.icmpYes X0.here hx rfl (pc0 := 59) (pc' := 64) rfl (hb hby drf_59) rfl (XT.ii_ge_t c59_28) (by decide) (by decide)) ?_
              show Go p e below s _ _ _ (s₁.setTop (mkF m 64 #[.val (.int p0), .val (.int p1), .val (.int p2), .val (.int p3), .val (.int p4), .val (.int p5)] []))
              refine Go.s (XS.iloadN X0.here hx rfl (hb hby drf_64) rfl) ?_
              refine Go.s (XS.iload X0.here hx rfl (hb hby drf_65) rfl) ?_
              by_cases c67_29 : p5 < p2
              · refine Go.s (XS.icmpNo X0.here hx rfl (hb hby drf_67) rfl (XT.ii_le_f c67_29)) ?_
                show Go p e below s _ _ _ (s₁.setTop (mkF m 70 #[.val (.int p0), .val (.int p1), .val (.int p2), .val (.int p3), .val (.int p4), .val (.int p5)] []))
                refine Go.s (XS.iconst X0.here hx rfl (hb hby drf_70)) ?_
                exact Go.ret X0 hlk (some (.int 1)) (fun h => by rw [Bd.returns] at h; cases h) (by rw [e0]; exact ⟨own_res (z' := (1 : Int32)) (by unfold fRf; rw [if_neg c2_1, if_neg c8_12, if_pos c13_23, if_neg c29_24, if_pos c35_27, if_neg c59_28, if_pos c67_29]) rfl, N0, rfl⟩) (by decide) (by decide) (fun fs hr => retI X0 hx Bd.returns (hb hby drf_71) hr)
              · refine Go.s (XS.icmpYes X0.here hx rfl (pc0 := 67) (pc' := 72) rfl (hb hby drf_67) rfl (XT.ii_le_t c67_29) (by decide) (by decide)) ?_
                show Go p e below s _ _ _ (s₁.setTop (mkF m 72 #[.val (.int p0), .val (.int p1), .val (.int p2), .val (.int p3), .val (.int p4), .val (.int p5)] []))
                refine Go.s (XS.iconst X0.here hx rfl (hb hby drf_72)) ?_
                exact Go.ret X0 hlk (some (.int 0)) (fun h => by rw [Bd.returns] at h; cases h) (by rw [e0]; exact ⟨own_res (z' := (0 : Int32)) (by unfold fRf; rw [if_neg c2_1, if_neg c8_12, if_pos c13_23, if_neg c29_24, if_pos c35_27, if_neg c59_28, if_neg c67_29]) rfl, N0, rfl⟩) (by decide) (by decide) (fun fs hr => retI X0 hx Bd.returns (hb hby drf_73) hr)
          · refine Go.s (XS.icmpNo X0.here hx rfl (hb hby drf_35) rfl (XT.ii_lt_f c35_27)) ?_
            show Go p e below s _ _ _ (s₁.setTop (mkF m 38 #[.val (.int p0), .val (.int p1), .val (.int p2), .val (.int p3), .val (.int p4), .val (.int p5)] []))
            refine Go.s (XS.iloadN X0.here hx rfl (hb hby drf_38) rfl) ?_
            refine Go.s (XS.iload X0.here hx rfl (hb hby drf_39) rfl) ?_
            by_cases c41_30 : p1 = p4
            · refine Go.s (XS.icmpYes X0.here hx rfl (pc0 := 41) (pc' := 56) rfl (hb hby drf_41) rfl (XT.ii_eq_t c41_30) (by decide) (by decide)) ?_
              show Go p e below s _ _ _ (s₁.setTop (mkF m 56 #[.val (.int p0), .val (.int p1), .val (.int p2), .val (.int p3), .val (.int p4), .val (.int p5)] []))
              refine Go.s (XS.iloadN X0.here hx rfl (hb hby drf_56) rfl) ?_
              refine Go.s (XS.iload X0.here hx rfl (hb hby drf_57) rfl) ?_
              by_cases c59_31 : p2 < p5
              · refine Go.s (XS.icmpNo X0.here hx rfl (hb hby drf_59) rfl (XT.ii_ge_f c59_31)) ?_
                show Go p e below s _ _ _ (s₁.setTop (mkF m 62 #[.val (.int p0), .val (.int p1), .val (.int p2), .val (.int p3), .val (.int p4), .val (.int p5)] []))
                refine Go.s (XS.iconst X0.here hx rfl (hb hby drf_62)) ?_
                exact Go.ret X0 hlk (some (.int (-1))) (fun h => by rw [Bd.returns] at h; cases h) (by rw [e0]; exact ⟨own_res (z' := (-1 : Int32)) (by unfold fRf; rw [if_neg c2_1, if_neg c8_12, if_pos c13_23, if_neg c29_24, if_neg c35_27, if_pos c41_30, if_pos c59_31]) rfl, N0, rfl⟩) (by decide) (by decide) (fun fs hr => retI X0 hx Bd.returns (hb hby drf_63) hr)
              · refine Go.s (XS.icmpYes X0.here hx rfl (pc0 := 59) (pc' := 64) rfl (hb hby drf_59) rfl (XT.ii_ge_t c59_31) (by decide) (by decide)) ?_
                show Go p e below s _ _ _ (s₁.setTop (mkF m 64 #[.val (.int p0), .val (.int p1), .val (.int p2), .val (.int p3), .val (.int p4), .val (.int p5)] []))
                refine Go.s (XS.iloadN X0.here hx rfl (hb hby drf_64) rfl) ?_
                refine Go.s (XS.iload X0.here hx rfl (hb hby drf_65) rfl) ?_
                by_cases c67_32 : p5 < p2
                · refine Go.s (XS.icmpNo X0.here hx rfl (hb hby drf_67) rfl (XT.ii_le_f c67_32)) ?_
                  show Go p e below s _ _ _ (s₁.setTop (mkF m 70 #[.val (.int p0), .val (.int p1), .val (.int p2), .val (.int p3), .val (.int p4), .val (.int p5)] []))
                  refine Go.s (XS.iconst X0.here hx rfl (hb hby drf_70)) ?_
                  exact Go.ret X0 hlk (some (.int 1)) (fun h => by rw [Bd.returns] at h; cases h) (by rw [e0]; exact ⟨own_res (z' := (1 : Int32)) (by unfold fRf; rw [if_neg c2_1, if_neg c8_12, if_pos c13_23, if_neg c29_24, if_neg c35_27, if_pos c41_30, if_neg c59_31, if_pos c67_32]) rfl, N0, rfl⟩) (by decide) (by decide) (fun fs hr => retI X0 hx Bd.returns (hb hby drf_71) hr)
                · refine Go.s (XS.icmpYes X0.here hx rfl (pc0 := 67) (pc' := 72) rfl (hb hby drf_67) rfl (XT.ii_le_t c67_32) (by decide) (by decide)) ?_
                  show Go p e below s _ _ _ (s₁.setTop (mkF m 72 #[.val (.int p0), .val (.int p1), .val (.int p2), .val (.int p3), .val (.int p4), .val (.int p5)] []))
                  refine Go.s (XS.iconst X0.here hx rfl (hb hby drf_72)) ?_
                  exact Go.ret X0 hlk (some (.int 0)) (fun h => by rw [Bd.returns] at h; cases h) (by rw [e0]; exact ⟨own_res (z' := (0 : Int32)) (by unfold fRf; rw [if_neg c2_1, if_neg c8_12, if_pos c13_23, if_neg c29_24, if_neg c35_27, if_pos c41_30, if_neg c59_31, if_neg c67_32]) rfl, N0, rfl⟩) (by decide) (by decide) (fun fs hr => retI X0 hx Bd.returns (hb hby drf_73) hr)
            · refine Go.s (XS.icmpNo X0.here hx rfl (hb hby drf_41) rfl (XT.ii_eq_f c41_30)) ?_
              show Go p e below s _ _ _ (s₁.setTop (mkF m 44 #[.val (.int p0), .val (.int p1), .val (.int p2), .val (.int p3), .val (.int p4), .val (.int p5)] []))
              refine Go.s (XS.iloadN X0.here hx rfl (hb hby drf_44) rfl) ?_
              refine Go.s (XS.iload X0.here hx rfl (hb hby drf_45) rfl) ?_
              by_cases c47_33 : p1 < p4
              · refine Go.s (XS.icmpNo X0.here hx rfl (hb hby drf_47) rfl (XT.ii_ge_f c47_33)) ?_
                show Go p e below s _ _ _ (s₁.setTop (mkF m 50 #[.val (.int p0), .val (.int p1), .val (.int p2), .val (.int p3), .val (.int p4), .val (.int p5)] []))
                refine Go.s (XS.iconst X0.here hx rfl (hb hby drf_50)) ?_
                refine Go.s (XS.goto X0.here hx rfl (pc0 := 51) (pc' := 55) rfl (hb hby drf_51) (by decide) (by decide)) ?_
                exact Go.ret X0 hlk (some (.int (-1))) (fun h => by rw [Bd.returns] at h; cases h) (by rw [e0]; exact ⟨own_res (z' := (-1 : Int32)) (by unfold fRf; rw [if_neg c2_1, if_neg c8_12, if_pos c13_23, if_neg c29_24, if_neg c35_27, if_neg c41_30, if_pos c47_33]) rfl, N0, rfl⟩) (by decide) (by decide) (fun fs hr => retI X0 hx Bd.returns (hb hby drf_55) hr)
              · refine Go.s (XS.icmpYes X0.here hx rfl (pc0 := 47) (pc' := 54) rfl (hb hby drf_47) rfl (XT.ii_ge_t c47_33) (by decide) (by decide)) ?_
                show Go p e below s _ _ _ (s₁.setTop (mkF m 54 #[.val (.int p0), .val (.int p1), .val (.int p2), .val (.int p3), .val (.int p4), .val (.int p5)] []))
                refine Go.s (XS.iconst X0.here hx rfl (hb hby drf_54)) ?_
                exact Go.ret X0 hlk (some (.int 1)) (fun h => by rw [Bd.returns] at h; cases h) (by rw [e0]; exact ⟨own_res (z' := (1 : Int32)) (by unfold fRf; rw [if_neg c2_1, if_neg c8_12, if_pos c13_23, if_neg c29_24, if_neg c35_27, if_neg c41_30, if_neg c47_33]) rfl, N0, rfl⟩) (by decide) (by decide) (fun fs hr => retI X0 hx Bd.returns (hb hby drf_55) hr)
      · refine Go.s (XS.icmpNo X0.here hx rfl (hb hby drf_13) rfl (XT.ii_eq_f c13_23)) ?_
        show Go p e below s _ _ _ (s₁.setTop (mkF m 16 #[.val (.int p0), .val (.int p1), .val (.int p2), .val (.int p3), .val (.int p4), .val (.int p5)] []))
        refine Go.s (XS.iloadN X0.here hx rfl (hb hby drf_16) rfl) ?_
        refine Go.s (XS.iloadN X0.here hx rfl (hb hby drf_17) rfl) ?_
        by_cases c18_34 : p0 < p3
        · refine Go.s (XS.icmpNo X0.here hx rfl (hb hby drf_18) rfl (XT.ii_ge_f c18_34)) ?_
          show Go p e below s _ _ _ (s₁.setTop (mkF m 21 #[.val (.int p0), .val (.int p1), .val (.int p2), .val (.int p3), .val (.int p4), .val (.int p5)] []))
          refine Go.s (XS.iconst X0.here hx rfl (hb hby drf_21)) ?_
          refine Go.s (XS.goto X0.here hx rfl (pc0 := 22) (pc' := 26) rfl (hb hby drf_22) (by decide) (by decide)) ?_
          exact Go.ret X0 hlk (some (.int (-1))) (fun h => by rw [Bd.returns] at h; cases h) (by rw [e0]; exact ⟨own_res (z' := (-1 : Int32)) (by unfold fRf; rw [if_neg c2_1, if_neg c8_12, if_neg c13_23, if_pos c18_34]) rfl, N0, rfl⟩) (by decide) (by decide) (fun fs hr => retI X0 hx Bd.returns (hb hby drf_26) hr)
        · refine Go.s (XS.icmpYes X0.here hx rfl (pc0 := 18) (pc' := 25) rfl (hb hby drf_18) rfl (XT.ii_ge_t c18_34) (by decide) (by decide)) ?_
          show Go p e below s _ _ _ (s₁.setTop (mkF m 25 #[.val (.int p0), .val (.int p1), .val (.int p2), .val (.int p3), .val (.int p4), .val (.int p5)] []))
          refine Go.s (XS.iconst X0.here hx rfl (hb hby drf_25)) ?_
          exact Go.ret X0 hlk (some (.int 1)) (fun h => by rw [Bd.returns] at h; cases h) (by rw [e0]; exact ⟨own_res (z' := (1 : Int32)) (by unfold fRf; rw [if_neg c2_1, if_neg c8_12, if_neg c13_23, if_neg c18_34]) rfl, N0, rfl⟩) (by decide) (by decide) (fun fs hr => retI X0 hx Bd.returns (hb hby drf_26) hr)
 obtain ⟨s2, o2, st2, r2⟩ := G
 exact ⟨s2, o2, castTop (efrf m p0 p1 p2 p3 p4 p5) st2, r2⟩
theorem dsg_0 : decode method_3_code 0 = .ok (.iload_n 0, 1) := by decide +kernel
theorem dsg_1 : decode method_3_code 1 = .ok (.ifCond .ge 5, 3) := by decide +kernel
theorem dsg_4 : decode method_3_code 4 = .ok (.iconst (-1), 1) := by decide +kernel
theorem dsg_5 : decode method_3_code 5 = .ok (.ireturn, 1) := by decide +kernel
theorem dsg_6 : decode method_3_code 6 = .ok (.iload_n 0, 1) := by decide +kernel
theorem dsg_7 : decode method_3_code 7 = .ok (.ifCond .le 5, 3) := by decide +kernel
theorem dsg_10 : decode method_3_code 10 = .ok (.iconst 1, 1) := by decide +kernel
theorem dsg_11 : decode method_3_code 11 = .ok (.ireturn, 1) := by decide +kernel
theorem dsg_12 : decode method_3_code 12 = .ok (.iconst 0, 1) := by decide +kernel
theorem dsg_13 : decode method_3_code 13 = .ok (.ireturn, 1) := by decide +kernel
theorem pnsg : plainName "com/example/rootward/rootward/model/ShortestPathTreeCompareCodePointsPinLaw" = true := by first | (simp [plainName, overriddenIn]; done) | decide +kernel
theorem efsg (m : MethodId) (x0 : Int32) : entryFrame m #[(.int x0)] 1 = mkF m 0 #[.val (.int x0)] [] := by first | (simp [entryFrame, mkF, argsToLocals, Value.category, maxLocals]; done) | rfl
def fSg (p0 : Int32) : Int32 := (if p0 < (0 : Int32) then (-1 : Int32) else (if (0 : Int32) < p0 then (1 : Int32) else (0 : Int32)))
def Qsg (Z : State) (p0 : Int32) (h0 : Heap) (n0 : Nat) (v : Option Value) (h : Heap) (L : List Loc) : Prop := v = some (.int (fSg p0)) ∧ Fr n0 L ∧ h = h0
theorem rmsg (l : Launch) (Z : State) (a0 : Array Value) (hw : ∀ d ∈ tables_1, d.before a0 Z = true) (ws : List Jvm.Cond) (p0 : Int32) (h0 : Heap) (n0 : Nat) (O0 : Old Z n0 h0)  :
  MetFree l mN32 (head1 (Jvm.Cond.code mN32 method_3_code 1 (some .int) :: ws) ({ frames := 0, cells := 0, slots := 0, locals := 0 } : Room)) (fun A_ U_ => A_ = #[(.int p0)] ∧ Z.Warmed39 U_.vm ∧ U_.heap = h0) (fun _ _ _ _ _ => True) (fun _ U o U' => ∃ v L, o = .returned v ∧ Qsg Z p0 h0 n0 v U'.heap L ∧ FrameEnd U o U' L ({ frames := 0, cells := 0, slots := 0, locals := 0 } : Room).cells ({ frames := 0, cells := 0, slots := 0, locals := 0 } : Room).slots) := by
 refine MetFree.of_bodySF (plainFor_of_name pnsg) hisR ?_
 intro p e s m args below meth cd s₁ Bd hml0 hP hK
 obtain ⟨rfl, hZ, hh⟩ := hP
 have hx := Bd.exec
 have hby := Bd.bytes
 have hlk : meth.locks = false := BodyLoose.notSynchronized Bd
 have hml : cd.maxLocals = 1 := hml0
 have hown : s.vm.findClass "com/example/rootward/rootward/model/ShortestPathTreeCompareCodePointsPinLaw" = some m.cls := findClass_of_methodNamed Bd.named
 have X0 : Stand p l e ({ frames := 0, cells := 0, slots := 0, locals := 0 } : Room) s m #[(.int p0)] below meth cd s₁ [] 0 0 := Stand.of_body Bd
 have e0 : s₁.heap = h0 := by rw [← hh, Bd.state]; rfl
 have N0 := Fr.nil n0
 have G : Go p e below s 0 0 (Qsg Z p0 h0 n0) (s₁.setTop (mkF m 0 #[.val (.int p0)] [])) := by
  refine Go.s (XS.iloadN X0.here hx rfl (hb hby dsg_0) rfl) ?_
  by_cases c1_1 : p0 < (0 : Int32)
  · refine Go.s (XS.ifNo X0.here hx rfl (hb hby dsg_1) rfl (XT.i0_ge_f c1_1)) ?_
    show Go p e below s _ _ _ (s₁.setTop (mkF m 4 #[.val (.int p0)] []))
    refine Go.s (XS.iconst X0.here hx rfl (hb hby dsg_4)) ?_
    exact Go.ret X0 hlk (some (.int (-1))) (fun h => by rw [Bd.returns] at h; cases h) (by rw [e0]; exact ⟨own_res (z' := (-1 : Int32)) (by unfold fSg; rw [if_pos c1_1]) rfl, N0, rfl⟩) (by decide) (by decide) (fun fs hr => retI X0 hx Bd.returns (hb hby dsg_5) hr)
  · refine Go.s (XS.ifYes X0.here hx rfl (pc0 := 1) (pc' := 6) rfl (hb hby dsg_1) rfl (XT.i0_ge_t c1_1) (by decide) (by decide)) ?_
    show Go p e below s _ _ _ (s₁.setTop (mkF m 6 #[.val (.int p0)] []))
    refine Go.s (XS.iloadN X0.here hx rfl (hb hby dsg_6) rfl) ?_
    by_cases c7_2 : (0 : Int32) < p0
    · refine Go.s (XS.ifNo X0.here hx rfl (hb hby dsg_7) rfl (XT.i0_le_f c7_2)) ?_
      show Go p e below s _ _ _ (s₁.setTop (mkF m 10 #[.val (.int p0)] []))
      refine Go.s (XS.iconst X0.here hx rfl (hb hby dsg_10)) ?_
      exact Go.ret X0 hlk (some (.int 1)) (fun h => by rw [Bd.returns] at h; cases h) (by rw [e0]; exact ⟨own_res (z' := (1 : Int32)) (by unfold fSg; rw [if_neg c1_1, if_pos c7_2]) rfl, N0, rfl⟩) (by decide) (by decide) (fun fs hr => retI X0 hx Bd.returns (hb hby dsg_11) hr)
    · refine Go.s (XS.ifYes X0.here hx rfl (pc0 := 7) (pc' := 12) rfl (hb hby dsg_7) rfl (XT.i0_le_t c7_2) (by decide) (by decide)) ?_
      show Go p e below s _ _ _ (s₁.setTop (mkF m 12 #[.val (.int p0)] []))
      refine Go.s (XS.iconst X0.here hx rfl (hb hby dsg_12)) ?_
      exact Go.ret X0 hlk (some (.int 0)) (fun h => by rw [Bd.returns] at h; cases h) (by rw [e0]; exact ⟨own_res (z' := (0 : Int32)) (by unfold fSg; rw [if_neg c1_1, if_neg c7_2]) rfl, N0, rfl⟩) (by decide) (by decide) (fun fs hr => retI X0 hx Bd.returns (hb hby dsg_13) hr)
 obtain ⟨s2, o2, st2, r2⟩ := G
 exact ⟨s2, o2, castTop (efsg m p0) st2, r2⟩
def gCp (a : Int32) : List Int32 → Int32
  | [] => a
  | d :: _ => if fHS a = (0 : Int32) then a else if fLS d = (0 : Int32) then a else fTC a d
def gCmp : List Int32 → List Int32 → Int32
  | [], [] => 0
  | [], _ :: _ => -1
  | _ :: _, [] => 1
  | a :: cs, b :: ds => if a = b then gCmp cs ds else fIc (gCp a cs) (gCp b ds)
theorem own_g (cs ds : List Int32) (h1 : cs.length ≤ 4) (h2 : ds.length ≤ 4) : oCmp cs ds = gCmp cs ds := by
  rcases cs with _ | ⟨a, _ | ⟨b, _ | ⟨c, _ | ⟨d, _ | ⟨e, r⟩⟩⟩⟩⟩
  case cons.cons.cons.cons.cons => simp only [List.length_cons] at h1; omega
  all_goals (rcases ds with _ | ⟨a', _ | ⟨b', _ | ⟨c', _ | ⟨d', _ | ⟨e', r'⟩⟩⟩⟩⟩)
  all_goals first
    | (simp only [List.length_cons] at h2; omega)
    | (simp [oCmp, gCmp, gCp, oCpL, oCp, fMn, fIc]; done)
    | (simp [oCmp, gCmp, gCp, oCpL, oCp, fMn, fIc]; rfl)
def Scl (s : Int32) : Prop := ¬ s < 0 ∧ ¬ (1114111 : Int32) < s ∧ (s < (55296 : Int32) ∨ (57343 : Int32) < s)
theorem own_scl (p : Int32) : Scl (fSc p) := by
  have h1 := c_mask p 2097151 21 (by decide) (by decide)
  have h2 := c_iremV (p &&& 2097151) 1114112
  have h3 : 0 ≤ (p &&& 2097151).toInt := by rw [h1]; exact Int.emod_nonneg _ (by decide)
  have h4 := h2.1 h3 (by decide)
  unfold Scl fSc
  generalize (p &&& (2097151 : Int32)) % (1114112 : Int32) = x at h4 ⊢
  have h5 := c_iadd x 2048
  have r := rng32 (x + 2048)
  simp only [Int32.reduceToInt] at h4 h5
  simp only [own_lt, Int32.reduceToInt]
  split
  · omega
  · split <;> omega
theorem own_hsN {s : Int32} (h : s < (55296 : Int32) ∨ (56319 : Int32) < s) : fHS s = 0 := by
  unfold fHS
  simp only [own_lt, Int32.reduceToInt] at h ⊢
  split
  · rfl
  · rw [if_neg (by omega)]
theorem own_gcN {s : Int32} (h : s < (55296 : Int32) ∨ (56319 : Int32) < s) (X : List Int32) : gCp s X = s := by
  cases X with
  | nil => rfl
  | cons d _ => show (if fHS s = (0 : Int32) then s else _) = s; rw [if_pos (own_hsN h)]
theorem own_gcH {s : Int32} (h : ¬ s < (65536 : Int32)) (h2 : ¬ (1114111 : Int32) < s) (X : List Int32) : gCp (oH s) (oL s :: X) = s := by
  have e1 := oH_int h h2
  have e2 := oL_int h h2
  have a1 : ¬ fHS (oH s) = (0 : Int32) := by
    unfold fHS
    simp only [own_lt, Int32.reduceToInt] at h h2 ⊢
    rw [if_neg (by omega), if_pos (by omega)]
    decide
  have a2 : ¬ fLS (oL s) = (0 : Int32) := by
    unfold fLS
    simp only [own_lt, Int32.reduceToInt] at h h2 ⊢
    rw [if_neg (by omega), if_pos (by omega)]
    decide
  show (if fHS (oH s) = (0 : Int32) then oH s else if fLS (oL s) = (0 : Int32) then oH s else fTC (oH s) (oL s)) = s
  rw [if_neg a1, if_neg a2, own_eq]
  unfold fTC
  have b1 := c_ishl (oH s) 10 10 (by decide)
  have b2 := c_iadd (oH s <<< ((10 : Int32) &&& 31)) (oL s)
  have b3 := c_iadd ((oH s <<< ((10 : Int32) &&& 31)) + oL s) (-56613888)
  have r1 := rng32 (oH s <<< ((10 : Int32) &&& 31))
  have r2 := rng32 ((oH s <<< ((10 : Int32) &&& 31)) + oL s)
  have r3 := rng32 ((oH s <<< ((10 : Int32) &&& 31)) + oL s + (-56613888))
  simp only [own_lt, Int32.reduceToInt] at h h2
  simp only [Int32.reduceToInt, show (-56613888 : Int32).toInt = -56613888 from rfl] at b1 b2 b3
  rw [e1] at b1
  rw [e2] at b2
  omega
theorem own_fIcV (a b : Int32) : fSg (fIc a b) = if a = b then 0 else if a < b then -1 else 1 := by
  unfold fIc
  by_cases h1 : a = b
  · subst h1
    rw [if_pos rfl, if_neg (by simp only [own_lt]; omega), if_pos rfl]
    decide
  · rw [if_neg h1, if_neg h1]
    split <;> decide
theorem own_put {s t : Int32} (hs : Scl s) (ht : Scl t) (X Y : List Int32) : fSg (gCmp (oPut s ++ X) (oPut t ++ Y)) = if s = t then fSg (gCmp X Y) else if s < t then -1 else 1 := by
  obtain ⟨s0, s1, s2⟩ := hs
  obtain ⟨t0, t1, t2⟩ := ht
  unfold oPut
  by_cases hA : s < (65536 : Int32) <;> by_cases hB : t < (65536 : Int32)
  · rw [if_pos hA, if_pos hB]
    show fSg (if s = t then gCmp X Y else fIc (gCp s X) (gCp t Y)) = _
    rw [own_gcN (by simp only [own_lt, Int32.reduceToInt] at *; omega), own_gcN (by simp only [own_lt, Int32.reduceToInt] at *; omega)]
    by_cases h : s = t
    · rw [if_pos h, if_pos h]
    · rw [if_neg h, if_neg h, own_fIcV, if_neg h]
  · have e1 := oH_int hB t1
    have n1 : ¬ s = oH t := by simp only [own_lt, own_eq, Int32.reduceToInt] at *; omega
    have n2 : ¬ s = t := by simp only [own_lt, own_eq, Int32.reduceToInt] at *; omega
    rw [if_pos hA, if_neg hB]
    show fSg (if s = oH t then gCmp X (oL t :: Y) else fIc (gCp s X) (gCp (oH t) (oL t :: Y))) = _
    rw [if_neg n1, own_gcN (by simp only [own_lt, Int32.reduceToInt] at *; omega), own_gcH hB t1, own_fIcV, if_neg n2, if_neg n2]
  · have e1 := oH_int hA s1
    have n1 : ¬ oH s = t := by simp only [own_lt, own_eq, Int32.reduceToInt] at *; omega
    have n2 : ¬ s = t := by simp only [own_lt, own_eq, Int32.reduceToInt] at *; omega
    rw [if_neg hA, if_pos hB]
    show fSg (if oH s = t then gCmp (oL s :: X) Y else fIc (gCp (oH s) (oL s :: X)) (gCp t Y)) = _
    rw [if_neg n1, own_gcN (s := t) (by simp only [own_lt, Int32.reduceToInt] at *; omega), own_gcH hA s1, own_fIcV, if_neg n2, if_neg n2]
  · have e1 := oH_int hA s1
    have e2 := oL_int hA s1
    have e3 := oH_int hB t1
    have e4 := oL_int hB t1
    rw [if_neg hA, if_neg hB]
    show fSg (if oH s = oH t then (if oL s = oL t then gCmp X Y else fIc (gCp (oL s) X) (gCp (oL t) Y)) else fIc (gCp (oH s) (oL s :: X)) (gCp (oH t) (oL t :: Y))) = _
    rw [own_gcH hA s1, own_gcH hB t1, own_gcN (s := oL s) (by simp only [own_lt, Int32.reduceToInt] at *; omega), own_gcN (s := oL t) (by simp only [own_lt, Int32.reduceToInt] at *; omega)]
    by_cases hH : oH s = oH t
    · rw [if_pos hH]
      by_cases hL : oL s = oL t
      · have q : s = t := by simp only [own_lt, own_eq, Int32.reduceToInt] at *; omega
        rw [if_pos hL, if_pos q]
      · have q : ¬ s = t := fun z => hL (by rw [z])
        rw [if_neg hL, if_neg q, own_fIcV, if_neg hL]
        by_cases hl : s < t
        · rw [if_pos hl, if_pos (by simp only [own_lt, own_eq, Int32.reduceToInt] at *; omega)]
        · rw [if_neg hl, if_neg (by simp only [own_lt, own_eq, Int32.reduceToInt] at *; omega)]
    · have q : ¬ s = t := fun z => hH (by rw [z])
      rw [if_neg hH, if_neg q, own_fIcV, if_neg q]
theorem own_put0 (s : Int32) (X : List Int32) : ∃ a Y, oPut s ++ X = a :: Y := by
  unfold oPut
  split
  · exact ⟨_, _, rfl⟩
  · exact ⟨_, _, rfl⟩
theorem own_n1 (s : Int32) (X : List Int32) : gCmp [] (oPut s ++ X) = -1 := by
  obtain ⟨a, Y, e⟩ := own_put0 s X
  rw [e]
  rfl
theorem own_n2 (s : Int32) (X : List Int32) : gCmp (oPut s ++ X) [] = 1 := by
  obtain ⟨a, Y, e⟩ := own_put0 s X
  rw [e]
  rfl
theorem own_putl (s : Int32) : (oPut s).length ≤ 2 := by
  unfold oPut
  split <;> simp
theorem own_encl (s0 s1 n : Int32) : (oEnc s0 s1 n).length ≤ 4 := by
  have h0 := own_putl s0
  have h1 := own_putl s1
  unfold oEnc
  split
  · exact Nat.zero_le _
  · split
    · omega
    · rw [List.length_append]
      omega
theorem own_law {s0 s1 t0 t1 n m : Int32} (h0 : Scl s0) (h1 : Scl s1) (k0 : Scl t0) (k1 : Scl t1) (hn : n = 0 ∨ n = 1 ∨ n = 2) (hm : m = 0 ∨ m = 1 ∨ m = 2) : fSg (oCmp (oEnc s0 s1 n) (oEnc t0 t1 m)) = fRf s0 s1 n t0 t1 m := by
  rw [own_g _ _ (own_encl _ _ _) (own_encl _ _ _)]
  have E0 : ∀ a b, oEnc a b 0 = [] := fun _ _ => rfl
  have E1 : ∀ a b, oEnc a b 1 = oPut a ++ [] := fun a b => by rw [List.append_nil]; rfl
  have E2 : ∀ a b, oEnc a b 2 = oPut a ++ (oPut b ++ []) := fun a b => by rw [List.append_nil]; rfl
  have z0 : gCmp [] [] = 0 := rfl
  have f0 : fSg 0 = 0 := by decide
  have f1 : fSg (-1) = -1 := by decide
  have f2 : fSg 1 = 1 := by decide
  rcases hn with rfl | rfl | rfl <;> rcases hm with rfl | rfl | rfl <;> simp only [E0, E1, E2, own_n1, own_n2, own_put h0 k0, own_put h1 k1, z0, f0, f1, f2]
  all_goals (unfold fRf; simp)
theorem own_m3 (x : Int32) : ¬ ((x &&& (3 : Int32)) % (3 : Int32) < 0) ∧ (x &&& (3 : Int32)) % (3 : Int32) < 3 := by
  have h1 := c_mask x 3 2 (by decide) (by decide)
  have h2 := c_iremV (x &&& 3) 3
  have h3 : 0 ≤ (x &&& 3).toInt := by rw [h1]; exact Int.emod_nonneg _ (by decide)
  have h4 := h2.1 h3 (by decide)
  simp only [Int32.reduceToInt] at h4
  simp only [own_lt, Int32.reduceToInt]
  omega
theorem pd0_0 : parseMethodDescriptor "(III)Ljava/lang/String;" = some ⟨[.int, .int, .int], some (.object "java/lang/String")⟩ := by decide +kernel
theorem pd0_1 : parseMethodDescriptor "(IIIIII)I" = some ⟨[.int, .int, .int, .int, .int, .int], some .int⟩ := by decide +kernel
theorem pd0_2 : parseMethodDescriptor "(Ljava/lang/String;Ljava/lang/String;)I" = some ⟨[(.object "java/lang/String"), (.object "java/lang/String")], some .int⟩ := by decide +kernel
theorem pn0 : plainName "com/example/rootward/rootward/model/ShortestPathTreeCompareCodePointsPinLaw" = true := by first | (simp [plainName, overriddenIn]; done) | decide +kernel
theorem ef0 (m : MethodId) (x0 : Int32) (x1 : Int32) (x2 : Int32) (x3 : Int32) (x4 : Int32) : entryFrame m #[(.int x0), (.int x1), (.int x2), (.int x3), (.int x4)] maxLocals = mkF m 0 #[.val (.int x0), .val (.int x1), .val (.int x2), .val (.int x3), .val (.int x4), .unset, .unset, .unset, .unset, .unset, .unset, .unset, .unset, .unset, .unset] [] := by first | (simp [entryFrame, mkF, argsToLocals, Value.category, maxLocals]; done) | rfl
def Q0 (Z : State) (p0 : Int32) (p1 : Int32) (p2 : Int32) (p3 : Int32) (p4 : Int32) (zc : Int32) (fm : Value) (h0 : Heap) (n0 : Nat) (v : Option Value) (vm : Vm) (h : Heap) (L : List Loc) : Prop := v = some (.int 1) ∧ Fr n0 L
theorem rm0 (l : Launch) (Z : State) (a0 : Array Value) (hw : ∀ d ∈ tables_1, d.before a0 Z = true) (ws : List Jvm.Cond) (p0 : Int32) (p1 : Int32) (p2 : Int32) (p3 : Int32) (p4 : Int32) (zc : Int32) (fm : Value) (h0 : Heap) (n0 : Nat) (O0 : Old Z n0 h0) (hz0 : Z.heap = h0) (SA : Sta Z Z.heap "java/lang/StringUTF16" "$assertionsDisabled" "Z" (.int 1)) (SHI : Sta Z Z.heap "java/lang/StringUTF16" "HI_BYTE_SHIFT" "I" (.int 0)) (SLO : Sta Z Z.heap "java/lang/StringUTF16" "LO_BYTE_SHIFT" "I" (.int 8)) (SF : Sta Z Z.heap "jdk/internal/util/Preconditions" "SIOOBE_FORMATTER" "Ljava/util/function/BiFunction;" fm) (rf : fm.isRef = true) (SC : Sta Z Z.heap "java/lang/String" "COMPACT_STRINGS" "Z" (.int zc)) (hcs : ¬ zc = 0) (hcw : Jvm.Lit.compactW.before a0 Z = true) (hcon : Jvm.Lit.constsHeld consts_1 Z) :
  MetFree l x (head1 (Jvm.Cond.code x code maxLocals ret :: ws) room_1) (fun A_ U_ => A_ = #[(.int p0), (.int p1), (.int p2), (.int p3), (.int p4)] ∧ U_ = Z) (fun _ _ _ _ _ => True) (fun _ U o U' => ∃ v L, o = .returned v ∧ Q0 Z p0 p1 p2 p3 p4 zc fm h0 n0 v U'.vm U'.heap L ∧ ReturnedEndW U o U' L room_1.cells room_1.slots) := by
 refine MetFree.of_bodySF (plainFor_of_name pn0) hisR ?_
 intro p e s m args below meth cd s₁ Bd hml0 hP hK
 obtain ⟨rfl, hU⟩ := hP
 have hZ : Z.Warmed39 s.vm := by rw [hU]; exact State.Warmed39.refl Z
 have hZs := hZ
 have hh : s.heap = h0 := by rw [hU]; exact hz0
 have I0 : OwnI Z s.vm [] := by rw [hU]; exact OwnI.start
 have J0 : IB s s.vm [] := IB.start
 have hs0 : s.heap.size = n0 := by rw [hU]; exact O0.1
 have hS0 : s.Since s.vm h0.size := State.WarmedH.since (State.WarmedH.refl s) _
 have hk0 : h0.size ≤ h0.size := Nat.le_refl _
 have wa : (Jvm.Cond.arrayClass .byte).before a0 Z = true := hw _ (List.mem_of_getElem? (i := 28) rfl)
 have wi : (Jvm.Cond.instantiable "java/lang/String" 4).before a0 Z = true := hw _ (List.mem_of_getElem? (i := 15) rfl)
 have hHZ_0 : ConstHeldL Z "java/lang/String" 7 := heldStart (hcon ("java/lang/String", 7) (by decide)) (own_w hw 27 rfl) (by decide) hcw wa wi
 have hHS_0 : ConstHeldL s "java/lang/String" 7 := by rw [hU]; exact hHZ_0
 have hx := Bd.exec
 have hby := Bd.bytes
 have hlk : meth.locks = false := BodyLoose.notSynchronized Bd
 have hml : cd.maxLocals = 15 := hml0
 have hown : s.vm.findClass "com/example/rootward/rootward/model/ShortestPathTreeCompareCodePointsPinLaw" = some m.cls := findClass_of_methodNamed Bd.named
 have X0 : Stand p l e room_1 s m #[(.int p0), (.int p1), (.int p2), (.int p3), (.int p4)] below meth cd s₁ [] 0 0 := Stand.of_body Bd
 have e0 : s₁.heap = h0 := by rw [← hh, Bd.state]; rfl
 have N0 := Fr.nil n0
 have wS : ∀ a ∈ Bundle.stringAtoms, a.before a0 Z = true := fun d hd => hw d ((by decide +kernel : ∀ d ∈ Bundle.stringAtoms, d ∈ tables_1) d hd)
 have G : GoV p e below s room_1.cells room_1.slots (Q0 Z p0 p1 p2 p3 p4 zc fm h0 n0) (s₁.setTop (mkF m 0 #[.val (.int p0), .val (.int p1), .val (.int p2), .val (.int p3), .val (.int p4), .unset, .unset, .unset, .unset, .unset, .unset, .unset, .unset, .unset, .unset] [])) := by
  refine GoV.s (XS.iloadN X0.here hx rfl (hb hby at_0) rfl) ?_
  obtain ⟨_, _, ⟨T1, L1, k1, n1⟩, -, X1, ⟨Lc1, hQ1, l1, y1, z1⟩, st1⟩ := Jvm.LawKit.callS X0 hx (y := mN30) hown (mvT hZ (own_w hw 0 rfl)) (mvT hZ (own_w hw 1 rfl)) (mvT hZ (own_w hw 2 rfl)) (mvT hZ (own_w hw 3 rfl)) (by decide) (backOf (W := 0) (rmsc l Z a0 hw [] p0 h0 n0 O0 ) hZ (own_w hw 3 rfl) (own_w hw 2 rfl) (by decide) (by decide)) (g := (mkF m 1 #[.val (.int p0), .val (.int p1), .val (.int p2), .val (.int p3), .val (.int p4), .unset, .unset, .unset, .unset, .unset, .unset, .unset, .unset, .unset, .unset] [(.int p0)])) rfl (by rw [hml]; rfl) (argsL := [(.int p0)]) (rest := []) (lenOf pdnb1_0 rfl) rfl (by show 2 * 0 + _ ≤ _; exact Nat.le_of_eq rfl) (hb hby at_1) (fun _ _ => ⟨rfl, e0, (by decide : 0 + 0 ≤ _), (by decide : 0 + 0 ≤ _)⟩)
  dsimp only [Pt.U, Pt.locs, Pt.cells, Pt.slots] at X1 l1 y1 z1 st1 hQ1
  subst y1 z1
  obtain ⟨rfl, Nc1, e1⟩ := hQ1
  have N1 : Fr n0 L1 := by rw [l1]; exact Fr.app N0 Nc1
  refine GoV.st st1 ?_
  show GoV p e below s _ _ _ (T1.setTop (mkF m 4 #[.val (.int p0), .val (.int p1), .val (.int p2), .val (.int p3), .val (.int p4), .unset, .unset, .unset, .unset, .unset, .unset, .unset, .unset, .unset, .unset] [(.int (fSc p0))]))
  refine GoV.s (XS.istore X1.here hx rfl (hb hby at_4) rfl (l' := #[.val (.int p0), .val (.int p1), .val (.int p2), .val (.int p3), .val (.int p4), .val (.int (fSc p0)), .unset, .unset, .unset, .unset, .unset, .unset, .unset, .unset, .unset]) rfl) ?_
  refine GoV.s (XS.iloadN X1.here hx rfl (hb hby at_6) rfl) ?_
  obtain ⟨_, _, ⟨T2, L2, k2, n2⟩, -, X2, ⟨Lc2, hQ2, l2, y2, z2⟩, st2⟩ := Jvm.LawKit.callS X1 hx (y := mN30) hown (mvT hZ (own_w hw 0 rfl)) (mvT hZ (own_w hw 1 rfl)) (mvT hZ (own_w hw 2 rfl)) (mvT hZ (own_w hw 3 rfl)) (by decide) (backOf (W := 0) (rmsc l Z a0 hw [] p1 h0 n0 O0 ) hZ (own_w hw 3 rfl) (own_w hw 2 rfl) (by decide) (by decide)) (g := (mkF m 7 #[.val (.int p0), .val (.int p1), .val (.int p2), .val (.int p3), .val (.int p4), .val (.int (fSc p0)), .unset, .unset, .unset, .unset, .unset, .unset, .unset, .unset, .unset] [(.int p1)])) rfl (by rw [hml]; rfl) (argsL := [(.int p1)]) (rest := []) (lenOf pdnb1_0 rfl) rfl (by show 2 * 0 + _ ≤ _; exact Nat.le_of_eq rfl) (hb hby at_7) (fun _ _ => ⟨rfl, e1, (by decide : 0 + 0 ≤ _), (by decide : 0 + 0 ≤ _)⟩)
  dsimp only [Pt.U, Pt.locs, Pt.cells, Pt.slots] at X2 l2 y2 z2 st2 hQ2
  subst y2 z2
  obtain ⟨rfl, Nc2, e2⟩ := hQ2
  have N2 : Fr n0 L2 := by rw [l2]; exact Fr.app N1 Nc2
  refine GoV.st st2 ?_
  show GoV p e below s _ _ _ (T2.setTop (mkF m 10 #[.val (.int p0), .val (.int p1), .val (.int p2), .val (.int p3), .val (.int p4), .val (.int (fSc p0)), .unset, .unset, .unset, .unset, .unset, .unset, .unset, .unset, .unset] [(.int (fSc p1))]))
  refine GoV.s (XS.istore X2.here hx rfl (hb hby at_10) rfl (l' := #[.val (.int p0), .val (.int p1), .val (.int p2), .val (.int p3), .val (.int p4), .val (.int (fSc p0)), .val (.int (fSc p1)), .unset, .unset, .unset, .unset, .unset, .unset, .unset, .unset]) rfl) ?_
  show GoV p e below s _ _ _ (T2.setTop (mkF m 12 #[.val (.int p0), .val (.int p1), .val (.int p2), .val (.int p3), .val (.int p4), .val (.int (fSc p0)), .val (.int (fSc p1)), .unset, .unset, .unset, .unset, .unset, .unset, .unset, .unset] []))
  have J30 : ∀ (t0 : Int32) (T3 : State) (lc3 : List Loc) (X3 : Stand p l e room_1 s m #[(.int p0), (.int p1), (.int p2), (.int p3), (.int p4)] below meth cd T3 lc3 0 0) (e3 : T3.heap = h0) (N3 : Fr n0 lc3) (O3 : Old Z n0 h0) (hk3 : h0.size ≤ h0.size) (ht0 : Scl t0), GoV p e below s room_1.cells room_1.slots (Q0 Z p0 p1 p2 p3 p4 zc fm h0 n0) (T3.setTop (mkF m 30 #[.val (.int p0), .val (.int p1), .val (.int p2), .val (.int p3), .val (.int p4), .val (.int (fSc p0)), .val (.int (fSc p1)), .unset, .unset, .unset, .unset, .unset, .unset, .unset, .unset] [(.int t0)])) := by
    intro t0 T3 lc3 X3 e3 N3 O3 hk3 ht0
    refine GoV.s (XS.istore X3.here hx rfl (hb hby at_30) rfl (l' := #[.val (.int p0), .val (.int p1), .val (.int p2), .val (.int p3), .val (.int p4), .val (.int (fSc p0)), .val (.int (fSc p1)), .val (.int t0), .unset, .unset, .unset, .unset, .unset, .unset, .unset]) rfl) ?_
    show GoV p e below s _ _ _ (T3.setTop (mkF m 32 #[.val (.int p0), .val (.int p1), .val (.int p2), .val (.int p3), .val (.int p4), .val (.int (fSc p0)), .val (.int (fSc p1)), .val (.int t0), .unset, .unset, .unset, .unset, .unset, .unset, .unset] []))
    have J50 : ∀ (t1 : Int32) (T4 : State) (lc4 : List Loc) (X4 : Stand p l e room_1 s m #[(.int p0), (.int p1), (.int p2), (.int p3), (.int p4)] below meth cd T4 lc4 0 0) (e4 : T4.heap = h0) (N4 : Fr n0 lc4) (O4 : Old Z n0 h0) (hk4 : h0.size ≤ h0.size) (ht1 : Scl t1), GoV p e below s room_1.cells room_1.slots (Q0 Z p0 p1 p2 p3 p4 zc fm h0 n0) (T4.setTop (mkF m 50 #[.val (.int p0), .val (.int p1), .val (.int p2), .val (.int p3), .val (.int p4), .val (.int (fSc p0)), .val (.int (fSc p1)), .val (.int t0), .unset, .unset, .unset, .unset, .unset, .unset, .unset] [(.int t1)])) := by
      intro t1 T4 lc4 X4 e4 N4 O4 hk4 ht1
      refine GoV.s (XS.istore X4.here hx rfl (hb hby at_50) rfl (l' := #[.val (.int p0), .val (.int p1), .val (.int p2), .val (.int p3), .val (.int p4), .val (.int (fSc p0)), .val (.int (fSc p1)), .val (.int t0), .val (.int t1), .unset, .unset, .unset, .unset, .unset, .unset]) rfl) ?_
      refine GoV.s (XS.iload X4.here hx rfl (hb hby at_52) rfl) ?_
      refine GoV.s (XS.iconst X4.here hx rfl (hb hby at_54)) ?_
      refine GoV.s (XS.iand X4.here hx rfl (hb hby at_55) rfl) ?_
      refine GoV.s (XS.iconst X4.here hx rfl (hb hby at_56)) ?_
      refine GoV.s (iremM X4 hx rfl (hb hby at_57) rfl (by decide)) ?_
      show GoV p e below s _ _ _ (T4.setTop (mkF m 58 #[.val (.int p0), .val (.int p1), .val (.int p2), .val (.int p3), .val (.int p4), .val (.int (fSc p0)), .val (.int (fSc p1)), .val (.int t0), .val (.int t1), .unset, .unset, .unset, .unset, .unset, .unset] [(.int ((p4 &&& (3 : Int32)) % (3 : Int32)))]))
      refine GoV.s (XS.istore X4.here hx rfl (hb hby at_58) rfl (l' := #[.val (.int p0), .val (.int p1), .val (.int p2), .val (.int p3), .val (.int p4), .val (.int (fSc p0)), .val (.int (fSc p1)), .val (.int t0), .val (.int t1), .val (.int ((p4 &&& (3 : Int32)) % (3 : Int32))), .unset, .unset, .unset, .unset, .unset]) rfl) ?_
      refine GoV.s (XS.iload X4.here hx rfl (hb hby at_60) rfl) ?_
      refine GoV.s (XS.iconst X4.here hx rfl (hb hby at_62)) ?_
      refine GoV.s (XT.iushr X4.here hx rfl (hb hby at_63) rfl) ?_
      show GoV p e below s _ _ _ (T4.setTop (mkF m 64 #[.val (.int p0), .val (.int p1), .val (.int p2), .val (.int p3), .val (.int p4), .val (.int (fSc p0)), .val (.int (fSc p1)), .val (.int t0), .val (.int t1), .val (.int ((p4 &&& (3 : Int32)) % (3 : Int32))), .unset, .unset, .unset, .unset, .unset] [(.int (XT.ushr p4 (2 : Int32)))]))
      refine GoV.s (XS.iconst X4.here hx rfl (hb hby at_64)) ?_
      refine GoV.s (XS.iand X4.here hx rfl (hb hby at_65) rfl) ?_
      refine GoV.s (XS.iconst X4.here hx rfl (hb hby at_66)) ?_
      refine GoV.s (iremM X4 hx rfl (hb hby at_67) rfl (by decide)) ?_
      show GoV p e below s _ _ _ (T4.setTop (mkF m 68 #[.val (.int p0), .val (.int p1), .val (.int p2), .val (.int p3), .val (.int p4), .val (.int (fSc p0)), .val (.int (fSc p1)), .val (.int t0), .val (.int t1), .val (.int ((p4 &&& (3 : Int32)) % (3 : Int32))), .unset, .unset, .unset, .unset, .unset] [(.int (((XT.ushr p4 (2 : Int32)) &&& (3 : Int32)) % (3 : Int32)))]))
      refine GoV.s (XS.istore X4.here hx rfl (hb hby at_68) rfl (l' := #[.val (.int p0), .val (.int p1), .val (.int p2), .val (.int p3), .val (.int p4), .val (.int (fSc p0)), .val (.int (fSc p1)), .val (.int t0), .val (.int t1), .val (.int ((p4 &&& (3 : Int32)) % (3 : Int32))), .val (.int (((XT.ushr p4 (2 : Int32)) &&& (3 : Int32)) % (3 : Int32))), .unset, .unset, .unset, .unset]) rfl) ?_
      refine GoV.s (XS.iload X4.here hx rfl (hb hby at_70) rfl) ?_
      refine GoV.s (XS.iload X4.here hx rfl (hb hby at_72) rfl) ?_
      refine GoV.s (XS.iload X4.here hx rfl (hb hby at_74) rfl) ?_
      have hC5 : ∀ U : State, Z.Warmed39 U.vm → s.WarmedH U.vm → U.heap = h0 → ∀ c ∈ ([("java/lang/String", 7)] : List (String × Nat)), ConstHeldL U c.1 c.2 := by
        intro U hU1 hU2 hU3 c hc
        have hIU := own_iH (s := s) I0 hU2
        have hkU : ∀ (b : Addr) (cl : Cell), Z.heap[b]? = some cl → U.heap[b]? = some cl := fun b cl q => by rw [hU3]; exact O4.2.2 b cl q
        simp only [List.mem_cons, List.not_mem_nil, or_false] at hc
        rcases hc with rfl
        · exact own_held hU1 (own_w hw 27 rfl) hIU hkU hHZ_0 (fun q hq => by cases hq)
      obtain ⟨_, _, ⟨T6, L6, k6, n6⟩, -, X6, hSn6, gr6, ⟨Lc6, hQ6, l6, y6, z6⟩, st6⟩ := callSS X4 hx (y := mN12) hown (mvT hZ (own_w hw 7 rfl)) (mvT hZ (own_w hw 8 rfl)) (mvT hZ (own_w hw 2 rfl)) (mvT hZ (own_w hw 9 rfl)) (by decide) (own_backHC (W := 0) (rmen l Z a0 hw [] (fSc p0) (fSc p1) ((p4 &&& (3 : Int32)) % (3 : Int32)) zc [] h0 n0 O4 (own_scl p0).1 (own_scl p0).2.1 (own_scl p1).1 (own_scl p1).2.1 (own_m3 _) SA SHI SLO SC hcs hHZ_0) hZ I0 hC5 (own_w hw 9 rfl) (own_w hw 2 rfl) (by decide) (by decide)) (g := (mkF m 76 #[.val (.int p0), .val (.int p1), .val (.int p2), .val (.int p3), .val (.int p4), .val (.int (fSc p0)), .val (.int (fSc p1)), .val (.int t0), .val (.int t1), .val (.int ((p4 &&& (3 : Int32)) % (3 : Int32))), .val (.int (((XT.ushr p4 (2 : Int32)) &&& (3 : Int32)) % (3 : Int32))), .unset, .unset, .unset, .unset] [(.int ((p4 &&& (3 : Int32)) % (3 : Int32))), (.int (fSc p1)), (.int (fSc p0))])) rfl (by rw [hml]; rfl) (argsL := [(.int (fSc p0)), (.int (fSc p1)), (.int ((p4 &&& (3 : Int32)) % (3 : Int32)))]) (rest := []) (lenOf pd0_0 rfl) rfl (by show 2 * 0 + _ ≤ _; exact Nat.le_of_eq rfl) (hb hby at_76) (fun _ _ => ⟨rfl, e4, (by decide : 0 + 5 ≤ _), (by decide : 0 + 24 ≤ _)⟩)
      dsimp only [Pt.U, Pt.locs, Pt.cells, Pt.slots] at X6 l6 y6 z6 st6 hQ6
      subst y6 z6
      dsimp only [Pt.U, Pt.locs, Pt.cells, Pt.slots] at hSn6 gr6
      obtain ⟨X6, hS6, hZ6, hown6⟩ := rebS (vm0 := s.vm) hS0 (by rw [e4]; exact hk4) X6 hSn6 gr6 hZ hown
      have hk6 : T6.heap.size ≤ T6.heap.size := Nat.le_refl _
      obtain ⟨x, t, kt, cx, N, vs, P2, rfl, Nc6, Kc6, gx, szx, NE, NC, NV, NB, hcX, hbX, I6, hX⟩ := hQ6
      have N6 : Fr n0 L6 := by rw [l6]; exact Fr.app N4 Nc6
      have g_x : n0 ≤ x := gx
      have O6 := O4.keep Kc6 all0
      have E_x : Exa Z T6.heap x "java/lang/String" := NE
      have F_x_coder : Fld Z T6.heap x "java/lang/String" "coder" "B" (.int cx) := NC
      have F_x_value : Fld Z T6.heap x "java/lang/String" "value" "[B" (.ref t) := NV
      have V_t : Arv Z T6.heap t kt .byte N vs (.int 0) := NB
      refine GoV.tr st6 ?_
      show GoV p e below s _ _ _ (T6.setTop (mkF m 79 #[.val (.int p0), .val (.int p1), .val (.int p2), .val (.int p3), .val (.int p4), .val (.int (fSc p0)), .val (.int (fSc p1)), .val (.int t0), .val (.int t1), .val (.int ((p4 &&& (3 : Int32)) % (3 : Int32))), .val (.int (((XT.ushr p4 (2 : Int32)) &&& (3 : Int32)) % (3 : Int32))), .unset, .unset, .unset, .unset] [(.ref x)]))
      refine GoV.s (XS.astore X6.here hx rfl (hb hby at_79) rfl rfl (l' := #[.val (.int p0), .val (.int p1), .val (.int p2), .val (.int p3), .val (.int p4), .val (.int (fSc p0)), .val (.int (fSc p1)), .val (.int t0), .val (.int t1), .val (.int ((p4 &&& (3 : Int32)) % (3 : Int32))), .val (.int (((XT.ushr p4 (2 : Int32)) &&& (3 : Int32)) % (3 : Int32))), .val (.ref x), .unset, .unset, .unset]) rfl) ?_
      refine GoV.s (XS.iload X6.here hx rfl (hb hby at_81) rfl) ?_
      refine GoV.s (XS.iload X6.here hx rfl (hb hby at_83) rfl) ?_
      refine GoV.s (XS.iload X6.here hx rfl (hb hby at_85) rfl) ?_
      have hC7 : ∀ U : State, Z.Warmed39 U.vm → (s.setVm T6.vm).WarmedH U.vm → U.heap = T6.heap → ∀ c ∈ ([("java/lang/String", 7)] : List (String × Nat)), ConstHeldL U c.1 c.2 := fun U hU1 hU2 hU3 c hc => by
        rw [List.mem_singleton] at hc
        subst hc
        exact hX U hU1 hU3 (own_iH (s := s.setVm T6.vm) I6 hU2) (fun q hq => by cases hq)
      obtain ⟨_, _, ⟨T8, L8, k8, n8⟩, -, X8, hSn8, gr8, ⟨Lc8, hQ8, l8, y8, z8⟩, st8⟩ := callSS X6 hx (y := mN12) hown6 (mvT hZ6 (own_w hw 7 rfl)) (mvT hZ6 (own_w hw 8 rfl)) (mvT hZ6 (own_w hw 2 rfl)) (mvT hZ6 (own_w hw 9 rfl)) (by decide) (own_backHC (W := 0) (rmen l Z a0 hw [] t0 t1 (((XT.ushr p4 (2 : Int32)) &&& (3 : Int32)) % (3 : Int32)) zc P2 T6.heap n0 O6 ht0.1 ht0.2.1 ht1.1 ht1.2.1 (own_m3 _) SA SHI SLO SC hcs hHZ_0) hZ6 I6 hC7 (own_w hw 9 rfl) (own_w hw 2 rfl) (by decide) (by decide)) (g := (mkF m 87 #[.val (.int p0), .val (.int p1), .val (.int p2), .val (.int p3), .val (.int p4), .val (.int (fSc p0)), .val (.int (fSc p1)), .val (.int t0), .val (.int t1), .val (.int ((p4 &&& (3 : Int32)) % (3 : Int32))), .val (.int (((XT.ushr p4 (2 : Int32)) &&& (3 : Int32)) % (3 : Int32))), .val (.ref x), .unset, .unset, .unset] [(.int (((XT.ushr p4 (2 : Int32)) &&& (3 : Int32)) % (3 : Int32))), (.int t1), (.int t0)])) rfl (by rw [hml]; rfl) (argsL := [(.int t0), (.int t1), (.int (((XT.ushr p4 (2 : Int32)) &&& (3 : Int32)) % (3 : Int32)))]) (rest := []) (lenOf pd0_0 rfl) rfl (by show 2 * 0 + _ ≤ _; exact Nat.le_of_eq rfl) (hb hby at_87) (fun _ _ => ⟨rfl, rfl, (by decide : 5 + 5 ≤ _), (by decide : 24 + 24 ≤ _)⟩)
      dsimp only [Pt.U, Pt.locs, Pt.cells, Pt.slots] at X8 l8 y8 z8 st8 hQ8
      subst y8 z8
      dsimp only [Pt.U, Pt.locs, Pt.cells, Pt.slots] at hSn8 gr8
      obtain ⟨X8, hS8, hZ8, hown8⟩ := rebS (vm0 := T6.vm) hS6 hk6 X8 hSn8 gr8 hZ6 hown6
      have hk8 : T8.heap.size ≤ T8.heap.size := Nat.le_refl _
      obtain ⟨y, ty, kty, cy, NY, vy, P3, rfl, Nc8, Kc8, gx, szx, NE, NC, NV, NB, hcY, hbY, I8, hX⟩ := hQ8
      have N8 : Fr n0 L8 := by rw [l8]; exact Fr.app N6 Nc8
      have g_y : n0 ≤ y := gx
      have ne_x_y : x ≠ y := Nat.ne_of_lt (Nat.lt_of_lt_of_le E_x.lt szx)
      have ne_t_y : t ≠ y := Nat.ne_of_lt (Nat.lt_of_lt_of_le V_t.lt szx)
      have E_x := E_x.keep Kc8
      have F_x_coder := F_x_coder.keep Kc8 nin0
      have F_x_value := F_x_value.keep Kc8 nin0
      have V_t := V_t.keep Kc8 nin0
      have O8 := O6.keep Kc8 all0
      have E_y : Exa Z T8.heap y "java/lang/String" := NE
      have F_y_coder : Fld Z T8.heap y "java/lang/String" "coder" "B" (.int cy) := NC
      have F_y_value : Fld Z T8.heap y "java/lang/String" "value" "[B" (.ref ty) := NV
      have V_ty : Arv Z T8.heap ty kty .byte NY vy (.int 0) := NB
      refine GoV.tr st8 ?_
      show GoV p e below s _ _ _ (T8.setTop (mkF m 90 #[.val (.int p0), .val (.int p1), .val (.int p2), .val (.int p3), .val (.int p4), .val (.int (fSc p0)), .val (.int (fSc p1)), .val (.int t0), .val (.int t1), .val (.int ((p4 &&& (3 : Int32)) % (3 : Int32))), .val (.int (((XT.ushr p4 (2 : Int32)) &&& (3 : Int32)) % (3 : Int32))), .val (.ref x), .unset, .unset, .unset] [(.ref y)]))
      refine GoV.s (XS.astore X8.here hx rfl (hb hby at_90) rfl rfl (l' := #[.val (.int p0), .val (.int p1), .val (.int p2), .val (.int p3), .val (.int p4), .val (.int (fSc p0)), .val (.int (fSc p1)), .val (.int t0), .val (.int t1), .val (.int ((p4 &&& (3 : Int32)) % (3 : Int32))), .val (.int (((XT.ushr p4 (2 : Int32)) &&& (3 : Int32)) % (3 : Int32))), .val (.ref x), .val (.ref y), .unset, .unset]) rfl) ?_
      refine GoV.s (XS.iload X8.here hx rfl (hb hby at_92) rfl) ?_
      refine GoV.s (XS.iload X8.here hx rfl (hb hby at_94) rfl) ?_
      refine GoV.s (XS.iload X8.here hx rfl (hb hby at_96) rfl) ?_
      refine GoV.s (XS.iload X8.here hx rfl (hb hby at_98) rfl) ?_
      refine GoV.s (XS.iload X8.here hx rfl (hb hby at_100) rfl) ?_
      refine GoV.s (XS.iload X8.here hx rfl (hb hby at_102) rfl) ?_
      obtain ⟨_, _, ⟨T9, L9, k9, n9⟩, -, X9, ⟨Lc9, hQ9, l9, y9, z9⟩, st9⟩ := Jvm.LawKit.callS X8 hx (y := mN31) hown8 (mvT hZ8 (own_w hw 35 rfl)) (mvT hZ8 (own_w hw 36 rfl)) (mvT hZ8 (own_w hw 2 rfl)) (mvT hZ8 (own_w hw 37 rfl)) (by decide) (backOf (W := 0) (rmrf l Z a0 hw [] (fSc p0) (fSc p1) ((p4 &&& (3 : Int32)) % (3 : Int32)) t0 t1 (((XT.ushr p4 (2 : Int32)) &&& (3 : Int32)) % (3 : Int32)) T8.heap n0 O8 ) hZ8 (own_w hw 37 rfl) (own_w hw 2 rfl) (by decide) (by decide)) (g := (mkF m 104 #[.val (.int p0), .val (.int p1), .val (.int p2), .val (.int p3), .val (.int p4), .val (.int (fSc p0)), .val (.int (fSc p1)), .val (.int t0), .val (.int t1), .val (.int ((p4 &&& (3 : Int32)) % (3 : Int32))), .val (.int (((XT.ushr p4 (2 : Int32)) &&& (3 : Int32)) % (3 : Int32))), .val (.ref x), .val (.ref y), .unset, .unset] [(.int (((XT.ushr p4 (2 : Int32)) &&& (3 : Int32)) % (3 : Int32))), (.int t1), (.int t0), (.int ((p4 &&& (3 : Int32)) % (3 : Int32))), (.int (fSc p1)), (.int (fSc p0))])) rfl (by rw [hml]; rfl) (argsL := [(.int (fSc p0)), (.int (fSc p1)), (.int ((p4 &&& (3 : Int32)) % (3 : Int32))), (.int t0), (.int t1), (.int (((XT.ushr p4 (2 : Int32)) &&& (3 : Int32)) % (3 : Int32)))]) (rest := []) (lenOf pd0_1 rfl) rfl (by show 2 * 0 + _ ≤ _; exact Nat.le_of_eq rfl) (hb hby at_104) (fun _ _ => ⟨rfl, rfl, (by decide : 10 + 0 ≤ _), (by decide : 48 + 0 ≤ _)⟩)
      dsimp only [Pt.U, Pt.locs, Pt.cells, Pt.slots] at X9 l9 y9 z9 st9 hQ9
      subst y9 z9
      obtain ⟨rfl, Nc9, e9⟩ := hQ9
      have N9 : Fr n0 L9 := by rw [l9]; exact Fr.app N8 Nc9
      refine GoV.st st9 ?_
      show GoV p e below s _ _ _ (T9.setTop (mkF m 107 #[.val (.int p0), .val (.int p1), .val (.int p2), .val (.int p3), .val (.int p4), .val (.int (fSc p0)), .val (.int (fSc p1)), .val (.int t0), .val (.int t1), .val (.int ((p4 &&& (3 : Int32)) % (3 : Int32))), .val (.int (((XT.ushr p4 (2 : Int32)) &&& (3 : Int32)) % (3 : Int32))), .val (.ref x), .val (.ref y), .unset, .unset] [(.int (fRf (fSc p0) (fSc p1) ((p4 &&& (3 : Int32)) % (3 : Int32)) t0 t1 (((XT.ushr p4 (2 : Int32)) &&& (3 : Int32)) % (3 : Int32))))]))
      refine GoV.s (XS.istore X9.here hx rfl (hb hby at_107) rfl (l' := #[.val (.int p0), .val (.int p1), .val (.int p2), .val (.int p3), .val (.int p4), .val (.int (fSc p0)), .val (.int (fSc p1)), .val (.int t0), .val (.int t1), .val (.int ((p4 &&& (3 : Int32)) % (3 : Int32))), .val (.int (((XT.ushr p4 (2 : Int32)) &&& (3 : Int32)) % (3 : Int32))), .val (.ref x), .val (.ref y), .val (.int (fRf (fSc p0) (fSc p1) ((p4 &&& (3 : Int32)) % (3 : Int32)) t0 t1 (((XT.ushr p4 (2 : Int32)) &&& (3 : Int32)) % (3 : Int32)))), .unset]) rfl) ?_
      refine GoV.s (XS.aload X9.here hx rfl (hb hby at_109) rfl rfl) ?_
      refine GoV.s (XS.aload X9.here hx rfl (hb hby at_111) rfl rfl) ?_
      obtain ⟨_, _, ⟨T10, L10, k10, n10⟩, -, X10, ⟨Lc10, hQ10, l10, y10, z10⟩, st10⟩ := Jvm.LawKit.callS X9 hx (y := mN28) hown8 (mvT hZ8 (own_w hw 38 rfl)) (mvT hZ8 (own_w hw 39 rfl)) (mvT hZ8 (own_w hw 40 rfl)) (mvT hZ8 (own_w hw 41 rfl)) (by decide) (backOf (W := 0) (rmcm l Z a0 hw [] x t kt cx N vs (oEnc (fSc p0) (fSc p1) ((p4 &&& (3 : Int32)) % (3 : Int32))) y ty kty cy NY vy (oEnc t0 t1 (((XT.ushr p4 (2 : Int32)) &&& (3 : Int32)) % (3 : Int32))) zc fm T8.heap n0 O8 E_x F_x_coder F_x_value V_t E_y F_y_coder F_y_value V_ty hcX hbX (own_encl _ _ _) hcY hbY (own_encl _ _ _) SA SHI SLO SF rf SC hcs) hZ8 (own_w hw 41 rfl) (own_w hw 40 rfl) (by decide) (by decide)) (g := (mkF m 113 #[.val (.int p0), .val (.int p1), .val (.int p2), .val (.int p3), .val (.int p4), .val (.int (fSc p0)), .val (.int (fSc p1)), .val (.int t0), .val (.int t1), .val (.int ((p4 &&& (3 : Int32)) % (3 : Int32))), .val (.int (((XT.ushr p4 (2 : Int32)) &&& (3 : Int32)) % (3 : Int32))), .val (.ref x), .val (.ref y), .val (.int (fRf (fSc p0) (fSc p1) ((p4 &&& (3 : Int32)) % (3 : Int32)) t0 t1 (((XT.ushr p4 (2 : Int32)) &&& (3 : Int32)) % (3 : Int32)))), .unset] [(.ref y), (.ref x)])) rfl (by rw [hml]; rfl) (argsL := [(.ref x), (.ref y)]) (rest := []) (lenOf pd0_2 rfl) rfl (by show 2 * 0 + _ ≤ _; exact Nat.le_of_eq rfl) (hb hby at_113) (fun _ _ => ⟨rfl, e9, (by decide : 10 + 0 ≤ _), (by decide : 48 + 0 ≤ _)⟩)
      dsimp only [Pt.U, Pt.locs, Pt.cells, Pt.slots] at X10 l10 y10 z10 st10 hQ10
      subst y10 z10
      obtain ⟨rfl, Nc10, e10⟩ := hQ10
      have N10 : Fr n0 L10 := by rw [l10]; exact Fr.app N9 Nc10
      refine GoV.st st10 ?_
      show GoV p e below s _ _ _ (T10.setTop (mkF m 116 #[.val (.int p0), .val (.int p1), .val (.int p2), .val (.int p3), .val (.int p4), .val (.int (fSc p0)), .val (.int (fSc p1)), .val (.int t0), .val (.int t1), .val (.int ((p4 &&& (3 : Int32)) % (3 : Int32))), .val (.int (((XT.ushr p4 (2 : Int32)) &&& (3 : Int32)) % (3 : Int32))), .val (.ref x), .val (.ref y), .val (.int (fRf (fSc p0) (fSc p1) ((p4 &&& (3 : Int32)) % (3 : Int32)) t0 t1 (((XT.ushr p4 (2 : Int32)) &&& (3 : Int32)) % (3 : Int32)))), .unset] [(.int (oCmp (oEnc (fSc p0) (fSc p1) ((p4 &&& (3 : Int32)) % (3 : Int32))) (oEnc t0 t1 (((XT.ushr p4 (2 : Int32)) &&& (3 : Int32)) % (3 : Int32)))))]))
      refine GoV.s (XS.istore X10.here hx rfl (hb hby at_116) rfl (l' := #[.val (.int p0), .val (.int p1), .val (.int p2), .val (.int p3), .val (.int p4), .val (.int (fSc p0)), .val (.int (fSc p1)), .val (.int t0), .val (.int t1), .val (.int ((p4 &&& (3 : Int32)) % (3 : Int32))), .val (.int (((XT.ushr p4 (2 : Int32)) &&& (3 : Int32)) % (3 : Int32))), .val (.ref x), .val (.ref y), .val (.int (fRf (fSc p0) (fSc p1) ((p4 &&& (3 : Int32)) % (3 : Int32)) t0 t1 (((XT.ushr p4 (2 : Int32)) &&& (3 : Int32)) % (3 : Int32)))), .val (.int (oCmp (oEnc (fSc p0) (fSc p1) ((p4 &&& (3 : Int32)) % (3 : Int32))) (oEnc t0 t1 (((XT.ushr p4 (2 : Int32)) &&& (3 : Int32)) % (3 : Int32)))))]) rfl) ?_
      refine GoV.s (XS.iload X10.here hx rfl (hb hby at_118) rfl) ?_
      obtain ⟨_, _, ⟨T11, L11, k11, n11⟩, -, X11, ⟨Lc11, hQ11, l11, y11, z11⟩, st11⟩ := Jvm.LawKit.callS X10 hx (y := mN32) hown8 (mvT hZ8 (own_w hw 61 rfl)) (mvT hZ8 (own_w hw 62 rfl)) (mvT hZ8 (own_w hw 2 rfl)) (mvT hZ8 (own_w hw 63 rfl)) (by decide) (backOf (W := 0) (rmsg l Z a0 hw [] (oCmp (oEnc (fSc p0) (fSc p1) ((p4 &&& (3 : Int32)) % (3 : Int32))) (oEnc t0 t1 (((XT.ushr p4 (2 : Int32)) &&& (3 : Int32)) % (3 : Int32)))) T8.heap n0 O8 ) hZ8 (own_w hw 63 rfl) (own_w hw 2 rfl) (by decide) (by decide)) (g := (mkF m 120 #[.val (.int p0), .val (.int p1), .val (.int p2), .val (.int p3), .val (.int p4), .val (.int (fSc p0)), .val (.int (fSc p1)), .val (.int t0), .val (.int t1), .val (.int ((p4 &&& (3 : Int32)) % (3 : Int32))), .val (.int (((XT.ushr p4 (2 : Int32)) &&& (3 : Int32)) % (3 : Int32))), .val (.ref x), .val (.ref y), .val (.int (fRf (fSc p0) (fSc p1) ((p4 &&& (3 : Int32)) % (3 : Int32)) t0 t1 (((XT.ushr p4 (2 : Int32)) &&& (3 : Int32)) % (3 : Int32)))), .val (.int (oCmp (oEnc (fSc p0) (fSc p1) ((p4 &&& (3 : Int32)) % (3 : Int32))) (oEnc t0 t1 (((XT.ushr p4 (2 : Int32)) &&& (3 : Int32)) % (3 : Int32)))))] [(.int (oCmp (oEnc (fSc p0) (fSc p1) ((p4 &&& (3 : Int32)) % (3 : Int32))) (oEnc t0 t1 (((XT.ushr p4 (2 : Int32)) &&& (3 : Int32)) % (3 : Int32)))))])) rfl (by rw [hml]; rfl) (argsL := [(.int (oCmp (oEnc (fSc p0) (fSc p1) ((p4 &&& (3 : Int32)) % (3 : Int32))) (oEnc t0 t1 (((XT.ushr p4 (2 : Int32)) &&& (3 : Int32)) % (3 : Int32)))))]) (rest := []) (lenOf pdnb1_0 rfl) rfl (by show 2 * 0 + _ ≤ _; exact Nat.le_of_eq rfl) (hb hby at_120) (fun _ _ => ⟨rfl, e10, (by decide : 10 + 0 ≤ _), (by decide : 48 + 0 ≤ _)⟩)
      dsimp only [Pt.U, Pt.locs, Pt.cells, Pt.slots] at X11 l11 y11 z11 st11 hQ11
      subst y11 z11
      obtain ⟨rfl, Nc11, e11⟩ := hQ11
      have N11 : Fr n0 L11 := by rw [l11]; exact Fr.app N10 Nc11
      refine GoV.st st11 ?_
      show GoV p e below s _ _ _ (T11.setTop (mkF m 123 #[.val (.int p0), .val (.int p1), .val (.int p2), .val (.int p3), .val (.int p4), .val (.int (fSc p0)), .val (.int (fSc p1)), .val (.int t0), .val (.int t1), .val (.int ((p4 &&& (3 : Int32)) % (3 : Int32))), .val (.int (((XT.ushr p4 (2 : Int32)) &&& (3 : Int32)) % (3 : Int32))), .val (.ref x), .val (.ref y), .val (.int (fRf (fSc p0) (fSc p1) ((p4 &&& (3 : Int32)) % (3 : Int32)) t0 t1 (((XT.ushr p4 (2 : Int32)) &&& (3 : Int32)) % (3 : Int32)))), .val (.int (oCmp (oEnc (fSc p0) (fSc p1) ((p4 &&& (3 : Int32)) % (3 : Int32))) (oEnc t0 t1 (((XT.ushr p4 (2 : Int32)) &&& (3 : Int32)) % (3 : Int32)))))] [(.int (fSg (oCmp (oEnc (fSc p0) (fSc p1) ((p4 &&& (3 : Int32)) % (3 : Int32))) (oEnc t0 t1 (((XT.ushr p4 (2 : Int32)) &&& (3 : Int32)) % (3 : Int32))))))]))
      refine GoV.s (XS.iload X11.here hx rfl (hb hby at_123) rfl) ?_
      refine GoV.s (XS.icmpNo X11.here hx rfl (hb hby at_125) rfl (XT.ii_ne_f (own_law (own_scl p0) (own_scl p1) ht0 ht1 (own_3 (own_m3 _)) (own_3 (own_m3 _))))) ?_
      show GoV p e below s _ _ _ (T11.setTop (mkF m 128 #[.val (.int p0), .val (.int p1), .val (.int p2), .val (.int p3), .val (.int p4), .val (.int (fSc p0)), .val (.int (fSc p1)), .val (.int t0), .val (.int t1), .val (.int ((p4 &&& (3 : Int32)) % (3 : Int32))), .val (.int (((XT.ushr p4 (2 : Int32)) &&& (3 : Int32)) % (3 : Int32))), .val (.ref x), .val (.ref y), .val (.int (fRf (fSc p0) (fSc p1) ((p4 &&& (3 : Int32)) % (3 : Int32)) t0 t1 (((XT.ushr p4 (2 : Int32)) &&& (3 : Int32)) % (3 : Int32)))), .val (.int (oCmp (oEnc (fSc p0) (fSc p1) ((p4 &&& (3 : Int32)) % (3 : Int32))) (oEnc t0 t1 (((XT.ushr p4 (2 : Int32)) &&& (3 : Int32)) % (3 : Int32)))))] []))
      refine GoV.s (XS.iconst X11.here hx rfl (hb hby at_128)) ?_
      refine GoV.s (XS.goto X11.here hx rfl (pc0 := 129) (pc' := 133) rfl (hb hby at_129) (by decide) (by decide)) ?_
      exact GoV.ret (vm1 := T8.vm) X11 hlk hS8 (by rw [e11]; exact hk8) (some (.int (nar .boolean (1 : Int32)))) (fun h => by rw [Bd.returns] at h; cases h) (by rw [e11]; exact ⟨rfl, N11⟩) (by decide) (by decide) (fun fs hr => retN X11 hx (t := .boolean) Bd.returns (by simp) (hb hby at_133) hr)
    refine GoV.s (XS.iload X3.here hx rfl (hb hby at_32) rfl) ?_
    refine GoV.s (XS.iconst X3.here hx rfl (hb hby at_34)) ?_
    refine GoV.s (XT.iushr X3.here hx rfl (hb hby at_35) rfl) ?_
    show GoV p e below s _ _ _ (T3.setTop (mkF m 36 #[.val (.int p0), .val (.int p1), .val (.int p2), .val (.int p3), .val (.int p4), .val (.int (fSc p0)), .val (.int (fSc p1)), .val (.int t0), .unset, .unset, .unset, .unset, .unset, .unset, .unset] [(.int (XT.ushr p4 (5 : Int32)))]))
    refine GoV.s (XS.iconst X3.here hx rfl (hb hby at_36)) ?_
    refine GoV.s (XS.iand X3.here hx rfl (hb hby at_37) rfl) ?_
    by_cases c38_12 : ((XT.ushr p4 (5 : Int32)) &&& (1 : Int32)) = (0 : Int32)
    · refine GoV.s (XS.ifYes X3.here hx rfl (pc0 := 38) (pc' := 46) rfl (hb hby at_38) rfl (XT.i0_eq_t c38_12) (by decide) (by decide)) ?_
      show GoV p e below s _ _ _ (T3.setTop (mkF m 46 #[.val (.int p0), .val (.int p1), .val (.int p2), .val (.int p3), .val (.int p4), .val (.int (fSc p0)), .val (.int (fSc p1)), .val (.int t0), .unset, .unset, .unset, .unset, .unset, .unset, .unset] []))
      refine GoV.s (XS.iloadN X3.here hx rfl (hb hby at_46) rfl) ?_
      obtain ⟨_, _, ⟨T13, L13, k13, n13⟩, -, X13, ⟨Lc13, hQ13, l13, y13, z13⟩, st13⟩ := Jvm.LawKit.callS X3 hx (y := mN30) hown (mvT hZ (own_w hw 0 rfl)) (mvT hZ (own_w hw 1 rfl)) (mvT hZ (own_w hw 2 rfl)) (mvT hZ (own_w hw 3 rfl)) (by decide) (backOf (W := 0) (rmsc l Z a0 hw [] p3 h0 n0 O3 ) hZ (own_w hw 3 rfl) (own_w hw 2 rfl) (by decide) (by decide)) (g := (mkF m 47 #[.val (.int p0), .val (.int p1), .val (.int p2), .val (.int p3), .val (.int p4), .val (.int (fSc p0)), .val (.int (fSc p1)), .val (.int t0), .unset, .unset, .unset, .unset, .unset, .unset, .unset] [(.int p3)])) rfl (by rw [hml]; rfl) (argsL := [(.int p3)]) (rest := []) (lenOf pdnb1_0 rfl) rfl (by show 2 * 0 + _ ≤ _; exact Nat.le_of_eq rfl) (hb hby at_47) (fun _ _ => ⟨rfl, e3, (by decide : 0 + 0 ≤ _), (by decide : 0 + 0 ≤ _)⟩)
      dsimp only [Pt.U, Pt.locs, Pt.cells, Pt.slots] at X13 l13 y13 z13 st13 hQ13
      subst y13 z13
      obtain ⟨rfl, Nc13, e13⟩ := hQ13
      have N13 : Fr n0 L13 := by rw [l13]; exact Fr.app N3 Nc13
      refine GoV.st st13 ?_
      show GoV p e below s _ _ _ (T13.setTop (mkF m 50 #[.val (.int p0), .val (.int p1), .val (.int p2), .val (.int p3), .val (.int p4), .val (.int (fSc p0)), .val (.int (fSc p1)), .val (.int t0), .unset, .unset, .unset, .unset, .unset, .unset, .unset] [(.int (fSc p3))]))
      exact J50 (fSc p3) _ _ X13 e13 N13 O3 hk3  (own_scl p3)
    · refine GoV.s (XS.ifNo X3.here hx rfl (hb hby at_38) rfl (XT.i0_eq_f c38_12)) ?_
      show GoV p e below s _ _ _ (T3.setTop (mkF m 41 #[.val (.int p0), .val (.int p1), .val (.int p2), .val (.int p3), .val (.int p4), .val (.int (fSc p0)), .val (.int (fSc p1)), .val (.int t0), .unset, .unset, .unset, .unset, .unset, .unset, .unset] []))
      refine GoV.s (XS.iload X3.here hx rfl (hb hby at_41) rfl) ?_
      refine GoV.s (XS.goto X3.here hx rfl (pc0 := 43) (pc' := 50) rfl (hb hby at_43) (by decide) (by decide)) ?_
      show GoV p e below s _ _ _ (T3.setTop (mkF m 50 #[.val (.int p0), .val (.int p1), .val (.int p2), .val (.int p3), .val (.int p4), .val (.int (fSc p0)), .val (.int (fSc p1)), .val (.int t0), .unset, .unset, .unset, .unset, .unset, .unset, .unset] [(.int (fSc p1))]))
      exact J50 (fSc p1) _ _ X3 e3 N3 O3 hk3  (own_scl p1)
  refine GoV.s (XS.iload X2.here hx rfl (hb hby at_12) rfl) ?_
  refine GoV.s (XS.iconst X2.here hx rfl (hb hby at_14)) ?_
  refine GoV.s (XT.iushr X2.here hx rfl (hb hby at_15) rfl) ?_
  show GoV p e below s _ _ _ (T2.setTop (mkF m 16 #[.val (.int p0), .val (.int p1), .val (.int p2), .val (.int p3), .val (.int p4), .val (.int (fSc p0)), .val (.int (fSc p1)), .unset, .unset, .unset, .unset, .unset, .unset, .unset, .unset] [(.int (XT.ushr p4 (4 : Int32)))]))
  refine GoV.s (XS.iconst X2.here hx rfl (hb hby at_16)) ?_
  refine GoV.s (XS.iand X2.here hx rfl (hb hby at_17) rfl) ?_
  by_cases c18_14 : ((XT.ushr p4 (4 : Int32)) &&& (1 : Int32)) = (0 : Int32)
  · refine GoV.s (XS.ifYes X2.here hx rfl (pc0 := 18) (pc' := 26) rfl (hb hby at_18) rfl (XT.i0_eq_t c18_14) (by decide) (by decide)) ?_
    show GoV p e below s _ _ _ (T2.setTop (mkF m 26 #[.val (.int p0), .val (.int p1), .val (.int p2), .val (.int p3), .val (.int p4), .val (.int (fSc p0)), .val (.int (fSc p1)), .unset, .unset, .unset, .unset, .unset, .unset, .unset, .unset] []))
    refine GoV.s (XS.iloadN X2.here hx rfl (hb hby at_26) rfl) ?_
    obtain ⟨_, _, ⟨T15, L15, k15, n15⟩, -, X15, ⟨Lc15, hQ15, l15, y15, z15⟩, st15⟩ := Jvm.LawKit.callS X2 hx (y := mN30) hown (mvT hZ (own_w hw 0 rfl)) (mvT hZ (own_w hw 1 rfl)) (mvT hZ (own_w hw 2 rfl)) (mvT hZ (own_w hw 3 rfl)) (by decide) (backOf (W := 0) (rmsc l Z a0 hw [] p2 h0 n0 O0 ) hZ (own_w hw 3 rfl) (own_w hw 2 rfl) (by decide) (by decide)) (g := (mkF m 27 #[.val (.int p0), .val (.int p1), .val (.int p2), .val (.int p3), .val (.int p4), .val (.int (fSc p0)), .val (.int (fSc p1)), .unset, .unset, .unset, .unset, .unset, .unset, .unset, .unset] [(.int p2)])) rfl (by rw [hml]; rfl) (argsL := [(.int p2)]) (rest := []) (lenOf pdnb1_0 rfl) rfl (by show 2 * 0 + _ ≤ _; exact Nat.le_of_eq rfl) (hb hby at_27) (fun _ _ => ⟨rfl, e2, (by decide : 0 + 0 ≤ _), (by decide : 0 + 0 ≤ _)⟩)
    dsimp only [Pt.U, Pt.locs, Pt.cells, Pt.slots] at X15 l15 y15 z15 st15 hQ15
    subst y15 z15
    obtain ⟨rfl, Nc15, e15⟩ := hQ15
    have N15 : Fr n0 L15 := by rw [l15]; exact Fr.app N2 Nc15
    refine GoV.st st15 ?_
    show GoV p e below s _ _ _ (T15.setTop (mkF m 30 #[.val (.int p0), .val (.int p1), .val (.int p2), .val (.int p3), .val (.int p4), .val (.int (fSc p0)), .val (.int (fSc p1)), .unset, .unset, .unset, .unset, .unset, .unset, .unset, .unset] [(.int (fSc p2))]))
    exact J30 (fSc p2) _ _ X15 e15 N15 O0 hk0  (own_scl p2)
  · refine GoV.s (XS.ifNo X2.here hx rfl (hb hby at_18) rfl (XT.i0_eq_f c18_14)) ?_
    show GoV p e below s _ _ _ (T2.setTop (mkF m 21 #[.val (.int p0), .val (.int p1), .val (.int p2), .val (.int p3), .val (.int p4), .val (.int (fSc p0)), .val (.int (fSc p1)), .unset, .unset, .unset, .unset, .unset, .unset, .unset, .unset] []))
    refine GoV.s (XS.iload X2.here hx rfl (hb hby at_21) rfl) ?_
    refine GoV.s (XS.goto X2.here hx rfl (pc0 := 23) (pc' := 30) rfl (hb hby at_23) (by decide) (by decide)) ?_
    show GoV p e below s _ _ _ (T2.setTop (mkF m 30 #[.val (.int p0), .val (.int p1), .val (.int p2), .val (.int p3), .val (.int p4), .val (.int (fSc p0)), .val (.int (fSc p1)), .unset, .unset, .unset, .unset, .unset, .unset, .unset, .unset] [(.int (fSc p0))]))
    exact J30 (fSc p0) _ _ X2 e2 N2 O0 hk0  (own_scl p0)
 obtain ⟨s2, o2, st2, r2⟩ := G
 exact ⟨s2, o2, castTop (ef0 m p0 p1 p2 p3 p4) st2, r2⟩
theorem comes_1 {Post : Tables → Env → Array Value → State → Outcome → State → Prop} (hpost : ∀ tb e args s v u, (limb_1_1.after args s (.returned v) u = true ∧ limb_1_2.after args s (.returned v) u = true ∧ True) → ReturnedEndW s (.returned v) u (Jvm.fieldLocs frame_1_writes args s ++ Jvm.arrayLocs frame_1_arrays args s ++ Jvm.staticLocs frame_1_statics s) 32 1216 → Post tb e args s (.returned v) u) :
    ArmFor flags0 classFile x code maxLocals ret World_1 tables_1 room_1 Calls_1 rest_1 Pre_1 Post := by
  intro l hfl _ _ p e ha hc hk s m args below hf hA hF happ hP
  obtain ⟨hcalls, hrest, hpre⟩ := hP
  obtain ⟨-, -, -, hnamed, -, -, -, hat⟩ := (Spec.applies_iff hf).mp happ
  obtain ⟨hg, hn⟩ := and_e (Cond.before_iff.mp (show (Jvm.Cond.and given_1 narrow_1).before args s = true from hpre))
  obtain ⟨h1, r1⟩ := and_e hg
  obtain ⟨a0, r2⟩ := and_e r1
  obtain ⟨a1, r3⟩ := and_e r2
  obtain ⟨a2, r4⟩ := and_e r3
  obtain ⟨a3, r5⟩ := and_e r4
  obtain ⟨w0, w1, w2, w3, w4, rfl⟩ : ∃ w0 w1 w2 w3 w4 : Value, args = #[w0, w1, w2, w3, w4] := by
    have hs : args.size = 5 := by simpa [Cond.value, given_1] using h1
    obtain ⟨L⟩ := args
    match L, hs with
    | [w0, w1, w2, w3, w4], _ => exact ⟨w0, w1, w2, w3, w4, rfl⟩
  have hw := fun d (hd : d ∈ tables_1) => atoms_spec (ws := Jvm.Cond.code x code maxLocals ret :: tables_1) hat d (List.mem_cons_of_mem _ hd)
  obtain ⟨hsets, hown0⟩ := atoms_of _ (rest_1_c_eq ▸ (show rest_1_c.before _ s = true from hrest))
  have hfit : Fit s := fun {y c} hc i hi => by
    obtain ⟨ha, rfl⟩ := Array.getElem?_eq_some_iff.mp hc
    have q := List.all_eq_true.mp ((Array.all_eq_true_iff_forall_mem.mp hF) _ (Array.getElem_mem ha)) i (List.mem_range.mpr hi)
    simpa [Array.getElem?_eq_getElem hi] using q
  obtain ⟨i0, ei0⟩ := is_v a0
  obtain rfl : w0 = (.int i0) := Option.some.inj ei0
  obtain ⟨i1, ei1⟩ := is_v a1
  obtain rfl : w1 = (.int i1) := Option.some.inj ei1
  obtain ⟨i2, ei2⟩ := is_v a2
  obtain rfl : w2 = (.int i2) := Option.some.inj ei2
  obtain ⟨i3, ei3⟩ := is_v a3
  obtain rfl : w3 = (.int i3) := Option.some.inj ei3
  obtain ⟨i4, ei4⟩ := is_v r5
  obtain rfl : w4 = (.int i4) := Option.some.inj ei4
  have hcw := hsets _ (List.mem_of_getElem? (i := 2) rfl)
  have n5 := not_v (Cond.before_iff.mp hcw)
  obtain ⟨zc, e10⟩ := is_v (Cond.before_iff.mp (hsets _ (List.mem_of_getElem? (i := 1) rfl)))
  have SC : Sta s s.heap "java/lang/String" "COMPACT_STRINGS" "Z" (.int zc) := Sta.start e10 (Or.inl (hsets _ (List.mem_of_getElem? (i := 0) rfl)))
  have hcs : ¬ (zc = (0 : Int32)) := gotF (Cond.eq_ints e10 (Term.int_eval (0))) n5
  obtain ⟨fm, e11, rf⟩ := isR_v (Cond.before_iff.mp (hsets _ (List.mem_of_getElem? (i := 8) rfl)))
  have SF : Sta s s.heap "jdk/internal/util/Preconditions" "SIOOBE_FORMATTER" "Ljava/util/function/BiFunction;" fm := Sta.start e11 (Or.inl (hsets _ (List.mem_of_getElem? (i := 7) rfl)))
  have SA : Sta s s.heap "java/lang/StringUTF16" "$assertionsDisabled" "Z" (.int 1) := Sta.start (own_int (Cond.before_iff.mp (hsets _ (List.mem_of_getElem? (i := 12) rfl)))) (Or.inl (hsets _ (List.mem_of_getElem? (i := 11) rfl)))
  have SHI : Sta s s.heap "java/lang/StringUTF16" "HI_BYTE_SHIFT" "I" (.int 0) := Sta.start (own_int (Cond.before_iff.mp (hsets _ (List.mem_of_getElem? (i := 15) rfl)))) (Or.inl (hsets _ (List.mem_of_getElem? (i := 14) rfl)))
  have SLO : Sta s s.heap "java/lang/StringUTF16" "LO_BYTE_SHIFT" "I" (.int 8) := Sta.start (own_int (Cond.before_iff.mp (hsets _ (List.mem_of_getElem? (i := 18) rfl)))) (Or.inl (hsets _ (List.mem_of_getElem? (i := 17) rfl)))
  obtain ⟨n, o, h1, h2, h3, _, L, rfl, ⟨rfl, N⟩, hq⟩ := rm0 l s _ hw tables_1 i0 i1 i2 i3 i4 zc fm s.heap s.heap.size (Old.start s) rfl SA SHI SLO SF rf SC hcs hcw hcalls.1 p e ha hc hk s m _ below hf ((Spec.applies_iff_loose hf).mp happ).1 ⟨rfl, rfl⟩ trivial
  refine ⟨n, _, h1, h2, h3, hpost _ _ _ _ _ _ ⟨Cond.after_iff.mpr rfl, Cond.after_iff.mpr (eq_i res_at (Term.int_eval (1)) rfl), trivial⟩ ⟨hq.1, hq.2.1, hq.2.2.1, (hq.2.2.2.sift fun y hy => Or.inr (N y hy)).mono (by decide) (by decide)⟩⟩
theorem main_1_1 : Claimed_1_1 := comes_1 fun _ _ _ _ _ _ h hF => ⟨h.1, hF⟩
theorem main_1_2 : Claimed_1_2 := comes_1 fun _ _ _ _ _ _ h hF => ⟨h.2.1, hF⟩
end Jvm.Pilot.@@N@@
namespace Jvm.Pilot.@@N@@
open Jvm Jvm.ClassFile Sem Op Lib Jvm.Free Jvm.Stand Jvm.Pilot.@@N@@.Jvm.D
/-! MADE BY PROGRAM (witnessworld.py) out of the Statement's table words and the real class files: 24 classes; the members and pool entries that the words name. The judged class is class 1, her method 1. -/
namespace start1
open Jvm.ClassFile
def u (s : String) : CpInfo := .utf8 (stringToUtf16 s)
/-- a pool by its gaps: so many unusable entries, then the entry; so many at the end -/
def gap : Nat → List CpInfo → List CpInfo
  | 0, r => r
  | n + 1, r => .unusable :: gap n r
def poolList (es : List (Nat × CpInfo)) (last : Nat) : List CpInfo := es.foldr (fun e r => gap e.1 (e.2 :: r)) (gap last [])
def pool (es : List (Nat × CpInfo)) (last : Nat) : Array CpInfo := ⟨poolList es last⟩
def fileOf (pool : Array CpInfo) (this : Nat) (attrs : Array Attribute := #[]) (ms : Array MethodInfo := #[]) (fl : Nat := 33) (sup : Nat := 0) (ifs : Array Nat := #[]) (fds : Array FieldInfo := #[]) : ClassFile where
  minorVersion := 0
  majorVersion := 65
  constantPool := pool
  accessFlags := fl
  thisClass := this
  superClass := sup
  interfaces := ifs
  fields := fds
  methods := ms
  attributes := attrs
def plain (name : String) (sup : Option ClassId) : Class where
  name := name
  kind := .ordinary
  loader := none
  accessFlags := 33
  super := sup
  interfaces := #[]
  cf := none
  fields := #[]
  methods := #[]
  instanceTypes := #[]
  staticTypes := #[]
  resolved := #[]
  callSites := []
  init := .initialized
  statics := none
  mirror := none

def pool0 : Array CpInfo := pool [(5, u "<init>"), (0, u "()V"), (1, .class_ 10), (1, u "java/lang/Object")] 113

def k0c0 : Code := { maxStack := 0, maxLocals := 1, code := object_method_1_code, exceptionTable := #[], attributes := #[] }
def k0m0 : Method := { name := "<init>", desc := "()V", sig := { parameters := [], returnType := none }, accessFlags := 1, code := some k0c0 }
/-- java/lang/Object -/
def k0 : Class := { plain "java/lang/Object" none with
  accessFlags := 33
  interfaces := #[]
  cf := some (fileOf pool0 8 #[] #[{ accessFlags := 1, nameIndex := 5, descriptorIndex := 6, attributes := #[] }] 33 0 #[] #[])
  fields := #[]
  methods := #[k0m0]
  instanceTypes := #[]
  staticTypes := #[]
  resolved := Array.replicate 124 none
  statics := none }

def pool1 : Array CpInfo := pool [(2, .class_ 4), (1, u "java/lang/Object"), (0, u "<init>"), (0, u "()V"), (0, .methodref 8 9), (0, .class_ 10), (0, .nameAndType 11 12), (0, u "com/example/rootward/rootward/model/ShortestPathTreeCompareCodePointsPinLaw"), (0, u "scalar"), (0, u "(I)I"), (0, .methodref 8 14), (0, .nameAndType 15 16), (0, u "encode"), (0, u "(III)Ljava/lang/String;"), (0, .methodref 8 18), (0, .nameAndType 19 20), (0, u "reference"), (0, u "(IIIIII)I"), (0, .methodref 22 23), (0, .class_ 24), (0, .nameAndType 25 26), (0, u "com/example/rootward/rootward/model/ShortestPathTree"), (0, u "compareCodePoints"), (0, u "(Ljava/lang/String;Ljava/lang/String;)I"), (0, .methodref 8 28), (0, .nameAndType 29 12), (0, u "sign"), (0, .integer 2097151), (0, .integer 1114112), (0, .integer 55296), (0, .integer 57343), (0, .integer 65536), (0, .integer 56320), (0, .methodref 8 37), (0, .nameAndType 38 39), (0, u "put"), (0, u "([CII)I"), (0, .methodref 8 41), (0, .nameAndType 42 43), (0, u "text"), (0, u "([CI)Ljava/lang/String;"), (0, .class_ 45), (0, u "java/lang/String"), (0, .methodref 44 47), (0, .nameAndType 5 48), (0, u "([C)V"), (2, u "law"), (0, u "(IIIII)Z")] 5

def k1m0 : Method := { name := "<init>", desc := "()V", sig := { parameters := [], returnType := none }, accessFlags := 2, code := none }
def k1c1 : Code := { maxStack := 6, maxLocals := 15, code := code, exceptionTable := #[], attributes := #[] }
def k1m1 : Method := { name := "law", desc := "(IIIII)Z", sig := { parameters := [.int, .int, .int, .int, .int], returnType := some .boolean }, accessFlags := 9, code := some k1c1 }
def k1c2 : Code := { maxStack := 1, maxLocals := 1, code := method_3_code, exceptionTable := #[], attributes := #[] }
def k1m2 : Method := { name := "sign", desc := "(I)I", sig := { parameters := [.int], returnType := some .int }, accessFlags := 10, code := some k1c2 }
def k1c3 : Code := { maxStack := 2, maxLocals := 2, code := method_4_code, exceptionTable := #[], attributes := #[] }
def k1m3 : Method := { name := "scalar", desc := "(I)I", sig := { parameters := [.int], returnType := some .int }, accessFlags := 10, code := some k1c3 }
def k1c4 : Code := { maxStack := 2, maxLocals := 6, code := method_5_code, exceptionTable := #[], attributes := #[] }
def k1m4 : Method := { name := "reference", desc := "(IIIIII)I", sig := { parameters := [.int, .int, .int, .int, .int, .int], returnType := some .int }, accessFlags := 10, code := some k1c4 }
def k1c5 : Code := { maxStack := 5, maxLocals := 4, code := method_6_code, exceptionTable := #[], attributes := #[] }
def k1m5 : Method := { name := "put", desc := "([CII)I", sig := { parameters := [(.array .char), .int, .int], returnType := some .int }, accessFlags := 10, code := some k1c5 }
def k1c6 : Code := { maxStack := 3, maxLocals := 5, code := method_7_code, exceptionTable := #[], attributes := #[] }
def k1m6 : Method := { name := "encode", desc := "(III)Ljava/lang/String;", sig := { parameters := [.int, .int, .int], returnType := some (.object "java/lang/String") }, accessFlags := 10, code := some k1c6 }
def k1c7 : Code := { maxStack := 7, maxLocals := 2, code := method_8_code, exceptionTable := #[], attributes := #[] }
def k1m7 : Method := { name := "text", desc := "([CI)Ljava/lang/String;", sig := { parameters := [(.array .char), .int], returnType := some (.object "java/lang/String") }, accessFlags := 10, code := some k1c7 }
/-- com/example/rootward/rootward/model/ShortestPathTreeCompareCodePointsPinLaw -/
def k1 : Class := { plain "com/example/rootward/rootward/model/ShortestPathTreeCompareCodePointsPinLaw" (some 0) with
  accessFlags := 49
  interfaces := #[]
  cf := some (fileOf pool1 8 #[] #[{ accessFlags := 2, nameIndex := 5, descriptorIndex := 6, attributes := #[] }, { accessFlags := 9, nameIndex := 51, descriptorIndex := 52, attributes := #[] }, { accessFlags := 10, nameIndex := 29, descriptorIndex := 12, attributes := #[] }, { accessFlags := 10, nameIndex := 11, descriptorIndex := 12, attributes := #[] }, { accessFlags := 10, nameIndex := 19, descriptorIndex := 20, attributes := #[] }, { accessFlags := 10, nameIndex := 38, descriptorIndex := 39, attributes := #[] }, { accessFlags := 10, nameIndex := 15, descriptorIndex := 16, attributes := #[] }, { accessFlags := 10, nameIndex := 42, descriptorIndex := 43, attributes := #[] }] 49 2 #[] #[])
  fields := #[]
  methods := #[k1m0, k1m1, k1m2, k1m3, k1m4, k1m5, k1m6, k1m7]
  instanceTypes := #[]
  staticTypes := #[]
  resolved := Array.replicate 58 none
  statics := none }

def pool2 : Array CpInfo := pool [(1, .class_ 2), (0, u "java/io/Serializable"), (0, .class_ 4), (0, u "java/lang/Object")] 2

/-- java/io/Serializable -/
def k2 : Class := { plain "java/io/Serializable" (some 0) with
  accessFlags := 1537
  interfaces := #[]
  cf := some (fileOf pool2 1 #[] #[] 1537 3 #[] #[])
  fields := #[]
  methods := #[]
  instanceTypes := #[]
  staticTypes := #[]
  resolved := Array.replicate 7 none
  statics := none }

def pool3 : Array CpInfo := pool [(1, .class_ 2), (0, u "java/lang/Comparable"), (0, .class_ 4), (0, u "java/lang/Object")] 7

/-- java/lang/Comparable -/
def k3 : Class := { plain "java/lang/Comparable" (some 0) with
  accessFlags := 1537
  interfaces := #[]
  cf := some (fileOf pool3 1 #[] #[] 1537 3 #[] #[])
  fields := #[]
  methods := #[]
  instanceTypes := #[]
  staticTypes := #[]
  resolved := Array.replicate 12 none
  statics := none }

def pool4 : Array CpInfo := pool [(2, .class_ 4), (1, u "java/lang/CharSequence"), (42, .class_ 48), (0, u "java/lang/CharSequence$1CodePointIterator"), (10, .class_ 60), (0, u "java/lang/CharSequence$1CharIterator"), (5, .class_ 67), (0, u "java/lang/Object")] 63

/-- java/lang/CharSequence -/
def k4 : Class := { plain "java/lang/CharSequence" (some 0) with
  accessFlags := 1537
  interfaces := #[]
  cf := some (fileOf pool4 2 #[.nestMembers #[47, 59]] #[] 1537 66 #[] #[])
  fields := #[]
  methods := #[]
  instanceTypes := #[]
  staticTypes := #[]
  resolved := Array.replicate 131 none
  statics := none }

def pool5 : Array CpInfo := pool [(1, .class_ 2), (0, u "java/lang/constant/Constable"), (0, .class_ 4), (0, u "java/lang/Object")] 6

/-- java/lang/constant/Constable -/
def k5 : Class := { plain "java/lang/constant/Constable" (some 0) with
  accessFlags := 1537
  interfaces := #[]
  cf := some (fileOf pool5 1 #[] #[] 1537 3 #[] #[])
  fields := #[]
  methods := #[]
  instanceTypes := #[]
  staticTypes := #[]
  resolved := Array.replicate 11 none
  statics := none }

def pool6 : Array CpInfo := pool [(1, .class_ 2), (0, u "java/lang/constant/ConstantDesc"), (0, .class_ 4), (0, u "java/lang/Object")] 32

/-- java/lang/constant/ConstantDesc -/
def k6 : Class := { plain "java/lang/constant/ConstantDesc" (some 0) with
  accessFlags := 1537
  interfaces := #[]
  cf := some (fileOf pool6 1 #[] #[] 1537 3 #[] #[])
  fields := #[]
  methods := #[]
  instanceTypes := #[]
  staticTypes := #[]
  resolved := Array.replicate 37 none
  statics := none }

def pool7 : Array CpInfo := pool [(1, .methodref 2 3), (0, .class_ 4), (0, .nameAndType 5 6), (0, u "java/lang/Object"), (0, u "<init>"), (0, u "()V"), (0, .string 8), (0, u ""), (0, .fieldref 10 11), (0, .class_ 12), (0, .nameAndType 13 14), (0, u "java/lang/String"), (0, u "value"), (0, u "[B"), (0, .fieldref 10 16), (0, .nameAndType 17 18), (0, u "coder"), (0, u "B"), (2, u "hash"), (0, u "I"), (2, u "hashIsZero"), (0, u "Z"), (0, .methodref 10 28), (0, .nameAndType 5 29), (0, u "([CIILjava/lang/Void;)V"), (8, .fieldref 10 39), (0, .nameAndType 40 26), (0, u "COMPACT_STRINGS"), (1, .class_ 44), (1, u "java/lang/StringUTF16"), (0, u "compress"), (1, .methodref 42 48), (0, .nameAndType 49 50), (0, u "coderFromArrayLen"), (0, u "([BI)B"), (46, u "([BII)I"), (9, .class_ 109), (1, u "java/lang/StringLatin1"), (32, u "()Z"), (34, .methodref 42 178), (0, .nameAndType 45 179), (0, u "([CII)[B"), (154, u "()I"), (0, .methodref 10 336), (0, .nameAndType 17 337), (0, u "()B"), (25, u "([BI)C"), (27, u "(II)V"), (35, u "(I)C"), (64, .methodref 10 493), (0, .nameAndType 494 142), (0, u "isLatin1"), (0, .methodref 107 496), (0, .nameAndType 497 363), (0, u "charAt"), (0, .methodref 42 496), (0, .methodref 10 500), (0, .nameAndType 501 391), (0, u "checkIndex"), (0, .methodref 42 503), (0, .nameAndType 504 97), (0, u "codePointAt"), (2, u "length"), (67, .class_ 576), (0, u "java/lang/CharSequence"), (22, u "CASE_INSENSITIVE_ORDER"), (0, u "Ljava/util/Comparator;"), (164, u "(I)I"), (244, u "([C)V"), (42, .fieldref 1054 1055), (0, .class_ 1056), (0, .nameAndType 1057 1058), (0, u "jdk/internal/util/Preconditions"), (0, u "SIOOBE_FORMATTER"), (0, u "Ljava/util/function/BiFunction;"), (0, .methodref 1054 1060), (0, .nameAndType 501 1061), (0, u "(IILjava/util/function/BiFunction;)I"), (39, u "serialPersistentFields"), (0, u "[Ljava/io/ObjectStreamField;"), (0, .class_ 1104), (0, u "java/lang/String$CaseInsensitiveComparator"), (1, .class_ 1107), (0, u "java/io/Serializable"), (0, .class_ 1109), (0, u "java/lang/Comparable"), (0, .class_ 1111), (0, u "java/lang/constant/Constable"), (0, .class_ 1113), (0, u "java/lang/constant/ConstantDesc"), (2, u "serialVersionUID"), (0, u "J"), (3, u "REPL"), (0, u "C"), (2, u "LATIN1"), (1, u "UTF16")] 323

def k7m0 : Method := { name := "<init>", desc := "()V", sig := { parameters := [], returnType := none }, accessFlags := 1, code := none }
def k7c1 : Code := { maxStack := 5, maxLocals := 2, code := jdk_42_method_3_code, exceptionTable := #[], attributes := #[] }
def k7m1 : Method := { name := "<init>", desc := "([C)V", sig := { parameters := [(.array .char)], returnType := none }, accessFlags := 1, code := some k7c1 }
def k7c2 : Code := { maxStack := 2, maxLocals := 1, code := jdk_42_method_54_code, exceptionTable := #[], attributes := #[] }
def k7m2 : Method := { name := "length", desc := "()I", sig := { parameters := [], returnType := some .int }, accessFlags := 1, code := some k7c2 }
def k7c3 : Code := { maxStack := 2, maxLocals := 2, code := jdk_42_method_56_code, exceptionTable := #[], attributes := #[] }
def k7m3 : Method := { name := "charAt", desc := "(I)C", sig := { parameters := [.int], returnType := some .char }, accessFlags := 1, code := some k7c3 }
def k7c4 : Code := { maxStack := 3, maxLocals := 3, code := jdk_42_method_57_code, exceptionTable := #[], attributes := #[] }
def k7m4 : Method := { name := "codePointAt", desc := "(I)I", sig := { parameters := [.int], returnType := some .int }, accessFlags := 1, code := some k7c4 }
def k7c5 : Code := { maxStack := 4, maxLocals := 6, code := jdk_42_method_149_code, exceptionTable := #[], attributes := #[] }
def k7m5 : Method := { name := "<init>", desc := "([CIILjava/lang/Void;)V", sig := { parameters := [(.array .char), .int, .int, (.object "java/lang/Void")], returnType := none }, accessFlags := 2, code := some k7c5 }
def k7c6 : Code := { maxStack := 1, maxLocals := 1, code := jdk_42_method_152_code, exceptionTable := #[], attributes := #[] }
def k7m6 : Method := { name := "coder", desc := "()B", sig := { parameters := [], returnType := some .byte }, accessFlags := 0, code := some k7c6 }
def k7c7 : Code := { maxStack := 1, maxLocals := 1, code := jdk_42_method_154_code, exceptionTable := #[], attributes := #[] }
def k7m7 : Method := { name := "isLatin1", desc := "()Z", sig := { parameters := [], returnType := some .boolean }, accessFlags := 0, code := some k7c7 }
def k7c8 : Code := { maxStack := 3, maxLocals := 2, code := jdk_42_method_155_code, exceptionTable := #[], attributes := #[] }
def k7m8 : Method := { name := "checkIndex", desc := "(II)V", sig := { parameters := [.int, .int], returnType := none }, accessFlags := 8, code := some k7c8 }
/-- java/lang/String -/
def k7 : Class := { plain "java/lang/String" (some 0) with
  accessFlags := 49
  interfaces := #[2, 3, 4, 5, 6]
  cf := some (fileOf pool7 10 #[.nestMembers #[1103]] #[{ accessFlags := 1, nameIndex := 5, descriptorIndex := 6, attributes := #[] }, { accessFlags := 1, nameIndex := 5, descriptorIndex := 1010, attributes := #[] }, { accessFlags := 1, nameIndex := 507, descriptorIndex := 334, attributes := #[] }, { accessFlags := 1, nameIndex := 497, descriptorIndex := 427, attributes := #[] }, { accessFlags := 1, nameIndex := 504, descriptorIndex := 765, attributes := #[] }, { accessFlags := 2, nameIndex := 5, descriptorIndex := 29, attributes := #[] }, { accessFlags := 0, nameIndex := 17, descriptorIndex := 337, attributes := #[] }, { accessFlags := 0, nameIndex := 494, descriptorIndex := 142, attributes := #[] }, { accessFlags := 8, nameIndex := 501, descriptorIndex := 391, attributes := #[] }] 49 2 #[1106, 1108, 575, 1110, 1112] #[{ accessFlags := 18, nameIndex := 13, descriptorIndex := 14, attributes := #[] }, { accessFlags := 18, nameIndex := 17, descriptorIndex := 18, attributes := #[] }, { accessFlags := 2, nameIndex := 21, descriptorIndex := 22, attributes := #[] }, { accessFlags := 2, nameIndex := 25, descriptorIndex := 26, attributes := #[] }, { accessFlags := 26, nameIndex := 1116, descriptorIndex := 1117, attributes := #[] }, { accessFlags := 24, nameIndex := 40, descriptorIndex := 26, attributes := #[] }, { accessFlags := 26, nameIndex := 1101, descriptorIndex := 1102, attributes := #[] }, { accessFlags := 26, nameIndex := 1121, descriptorIndex := 1122, attributes := #[] }, { accessFlags := 25, nameIndex := 599, descriptorIndex := 600, attributes := #[] }, { accessFlags := 24, nameIndex := 1125, descriptorIndex := 18, attributes := #[] }, { accessFlags := 24, nameIndex := 1127, descriptorIndex := 18, attributes := #[] }])
  fields := #[{ name := "value", type := (.array .byte), accessFlags := 18, slot := 0, constantValue := 0 }, { name := "coder", type := .byte, accessFlags := 18, slot := 1, constantValue := 0 }, { name := "hash", type := .int, accessFlags := 2, slot := 2, constantValue := 0 }, { name := "hashIsZero", type := .boolean, accessFlags := 2, slot := 3, constantValue := 0 }, { name := "serialVersionUID", type := .long, accessFlags := 26, slot := 0, constantValue := 0 }, { name := "COMPACT_STRINGS", type := .boolean, accessFlags := 24, slot := 1, constantValue := 0 }, { name := "serialPersistentFields", type := (.array (.object "java/io/ObjectStreamField")), accessFlags := 26, slot := 2, constantValue := 0 }, { name := "REPL", type := .char, accessFlags := 26, slot := 3, constantValue := 0 }, { name := "CASE_INSENSITIVE_ORDER", type := (.object "java/util/Comparator"), accessFlags := 25, slot := 4, constantValue := 0 }, { name := "LATIN1", type := .byte, accessFlags := 24, slot := 5, constantValue := 0 }, { name := "UTF16", type := .byte, accessFlags := 24, slot := 6, constantValue := 0 }]
  methods := #[k7m0, k7m1, k7m2, k7m3, k7m4, k7m5, k7m6, k7m7, k7m8]
  instanceTypes := #[(.array .byte), .byte, .int, .boolean]
  staticTypes := #[.long, .boolean, (.array (.object "java/io/ObjectStreamField")), .char, (.object "java/util/Comparator"), .byte, .byte]
  resolved := Array.replicate 1451 none
  statics := some 0 }

def pool8 : Array CpInfo := pool [(2, .class_ 4), (1, u "java/lang/Object"), (3, .class_ 10), (1, u "com/example/rootward/rootward/model/ShortestPathTree"), (0, u "network"), (0, u "Lcom/example/rootward/rootward/model/Network;"), (2, u "order"), (0, u "[I"), (2, u "parents"), (2, u "parentLinks"), (20, .class_ 44), (0, u "com/example/rootward/rootward/model/ShortestPathTree$Search"), (39, u "length"), (17, u "()I"), (3, u "(I)I"), (37, .methodref 145 146), (0, .class_ 147), (0, .nameAndType 84 102), (0, u "java/lang/String"), (0, .methodref 149 150), (0, .class_ 151), (0, .nameAndType 152 153), (0, u "java/lang/Math"), (0, u "min"), (0, u "(II)I"), (0, .methodref 145 155), (0, .nameAndType 156 157), (0, u "charAt"), (0, u "(I)C"), (0, .methodref 145 159), (0, .nameAndType 160 106), (0, u "codePointAt"), (0, .methodref 162 163), (0, .class_ 164), (0, .nameAndType 165 153), (0, u "java/lang/Integer"), (0, u "compare"), (2, u "CLIENT_PREFIX"), (0, u "Ljava/lang/String;"), (3, u "NONE"), (0, u "I"), (21, u "compareCodePoints"), (0, u "(Ljava/lang/String;Ljava/lang/String;)I"), (5, .class_ 204), (0, u "com/example/rootward/rootward/model/ShortestPathTree$Reach")] 38

def k8c0 : Code := { maxStack := 3, maxLocals := 4, code := prog_22_method_8_code, exceptionTable := #[], attributes := #[] }
def k8m0 : Method := { name := "compareCodePoints", desc := "(Ljava/lang/String;Ljava/lang/String;)I", sig := { parameters := [(.object "java/lang/String"), (.object "java/lang/String")], returnType := some .int }, accessFlags := 8, code := some k8c0 }
/-- com/example/rootward/rootward/model/ShortestPathTree -/
def k8 : Class := { plain "com/example/rootward/rootward/model/ShortestPathTree" (some 0) with
  accessFlags := 49
  interfaces := #[]
  cf := some (fileOf pool8 8 #[.nestMembers #[43, 203]] #[{ accessFlags := 8, nameIndex := 196, descriptorIndex := 197, attributes := #[] }] 49 2 #[] #[{ accessFlags := 25, nameIndex := 168, descriptorIndex := 169, attributes := #[] }, { accessFlags := 26, nameIndex := 173, descriptorIndex := 174, attributes := #[] }, { accessFlags := 18, nameIndex := 11, descriptorIndex := 12, attributes := #[] }, { accessFlags := 18, nameIndex := 15, descriptorIndex := 16, attributes := #[] }, { accessFlags := 18, nameIndex := 19, descriptorIndex := 16, attributes := #[] }, { accessFlags := 18, nameIndex := 22, descriptorIndex := 16, attributes := #[] }])
  fields := #[{ name := "CLIENT_PREFIX", type := (.object "java/lang/String"), accessFlags := 25, slot := 0, constantValue := 0 }, { name := "NONE", type := .int, accessFlags := 26, slot := 1, constantValue := 0 }, { name := "network", type := (.object "com/example/rootward/rootward/model/Network"), accessFlags := 18, slot := 0, constantValue := 0 }, { name := "order", type := (.array .int), accessFlags := 18, slot := 1, constantValue := 0 }, { name := "parents", type := (.array .int), accessFlags := 18, slot := 2, constantValue := 0 }, { name := "parentLinks", type := (.array .int), accessFlags := 18, slot := 3, constantValue := 0 }]
  methods := #[k8m0]
  instanceTypes := #[(.object "com/example/rootward/rootward/model/Network"), (.array .int), (.array .int), (.array .int)]
  staticTypes := #[(.object "java/lang/String"), .int]
  resolved := Array.replicate 243 none
  statics := none }

def pool9 : Array CpInfo := pool [(1, .class_ 2), (0, u "java/lang/Math"), (1, .class_ 6), (1, u "java/lang/Object"), (0, u "<init>"), (0, u "()V"), (89, .class_ 100), (1, u "java/lang/Math$RandomNumberGeneratorHolder"), (71, u "negativeZeroFloatBits"), (0, u "J"), (2, u "negativeZeroDoubleBits"), (24, u "min"), (43, u "$assertionsDisabled"), (0, u "Z"), (88, u "(II)I"), (2, u "twoToTheDoubleScaleDown"), (0, u "D"), (4, u "twoToTheDoubleScaleUp"), (9, u "E"), (3, u "PI"), (2, u "TAU"), (2, u "DEGREES_TO_RADIANS"), (0, u "RADIANS_TO_DEGREES")] 94

def k9m0 : Method := { name := "<init>", desc := "()V", sig := { parameters := [], returnType := none }, accessFlags := 2, code := none }
def k9c1 : Code := { maxStack := 2, maxLocals := 2, code := jdk_29_method_69_code, exceptionTable := #[], attributes := #[] }
def k9m1 : Method := { name := "min", desc := "(II)I", sig := { parameters := [.int, .int], returnType := some .int }, accessFlags := 9, code := some k9c1 }
/-- java/lang/Math -/
def k9 : Class := { plain "java/lang/Math" (some 0) with
  accessFlags := 49
  interfaces := #[]
  cf := some (fileOf pool9 1 #[.nestMembers #[98]] #[{ accessFlags := 2, nameIndex := 7, descriptorIndex := 8, attributes := #[] }, { accessFlags := 9, nameIndex := 201, descriptorIndex := 335, attributes := #[] }] 49 4 #[] #[{ accessFlags := 25, nameIndex := 354, descriptorIndex := 339, attributes := #[] }, { accessFlags := 25, nameIndex := 358, descriptorIndex := 339, attributes := #[] }, { accessFlags := 25, nameIndex := 361, descriptorIndex := 339, attributes := #[] }, { accessFlags := 26, nameIndex := 364, descriptorIndex := 339, attributes := #[] }, { accessFlags := 26, nameIndex := 365, descriptorIndex := 339, attributes := #[] }, { accessFlags := 26, nameIndex := 172, descriptorIndex := 173, attributes := #[] }, { accessFlags := 26, nameIndex := 176, descriptorIndex := 173, attributes := #[] }, { accessFlags := 8, nameIndex := 344, descriptorIndex := 339, attributes := #[] }, { accessFlags := 8, nameIndex := 338, descriptorIndex := 339, attributes := #[] }, { accessFlags := 4120, nameIndex := 245, descriptorIndex := 246, attributes := #[] }])
  fields := #[{ name := "E", type := .double, accessFlags := 25, slot := 0, constantValue := 0 }, { name := "PI", type := .double, accessFlags := 25, slot := 1, constantValue := 0 }, { name := "TAU", type := .double, accessFlags := 25, slot := 2, constantValue := 0 }, { name := "DEGREES_TO_RADIANS", type := .double, accessFlags := 26, slot := 3, constantValue := 0 }, { name := "RADIANS_TO_DEGREES", type := .double, accessFlags := 26, slot := 4, constantValue := 0 }, { name := "negativeZeroFloatBits", type := .long, accessFlags := 26, slot := 5, constantValue := 0 }, { name := "negativeZeroDoubleBits", type := .long, accessFlags := 26, slot := 6, constantValue := 0 }, { name := "twoToTheDoubleScaleUp", type := .double, accessFlags := 8, slot := 7, constantValue := 0 }, { name := "twoToTheDoubleScaleDown", type := .double, accessFlags := 8, slot := 8, constantValue := 0 }, { name := "$assertionsDisabled", type := .boolean, accessFlags := 4120, slot := 9, constantValue := 0 }]
  methods := #[k9m0, k9m1]
  instanceTypes := #[]
  staticTypes := #[.double, .double, .double, .double, .double, .long, .long, .double, .double, .boolean]
  resolved := Array.replicate 460 none
  statics := none }

def pool10 : Array CpInfo := pool [(2, .class_ 4), (1, u "java/lang/Object"), (0, u "<init>"), (0, u "()V"), (1, .class_ 10), (1, u "java/lang/Number"), (2, .class_ 14), (0, u "java/io/Serializable"), (0, u "serialVersionUID"), (0, u "J")] 20

def k10m0 : Method := { name := "<init>", desc := "()V", sig := { parameters := [], returnType := none }, accessFlags := 1, code := none }
/-- java/lang/Number -/
def k10 : Class := { plain "java/lang/Number" (some 0) with
  accessFlags := 1057
  interfaces := #[2]
  cf := some (fileOf pool10 8 #[] #[{ accessFlags := 1, nameIndex := 5, descriptorIndex := 6, attributes := #[] }] 1057 2 #[13] #[{ accessFlags := 26, nameIndex := 15, descriptorIndex := 16, attributes := #[] }])
  fields := #[{ name := "serialVersionUID", type := .long, accessFlags := 26, slot := 0, constantValue := 0 }]
  methods := #[k10m0]
  instanceTypes := #[]
  staticTypes := #[.long]
  resolved := Array.replicate 37 none
  statics := none }

def pool11 : Array CpInfo := pool [(1, .class_ 2), (0, u "java/lang/Integer"), (16, u "digits"), (0, u "[C"), (39, u "(II)I"), (24, u "DigitOnes"), (0, u "[B"), (2, u "DigitTens"), (99, .class_ 190), (0, u "java/lang/Integer$IntegerCache"), (3, u "I"), (8, .class_ 204), (0, u "java/lang/Number"), (2, u "value"), (53, u "compare"), (40, u "TYPE"), (0, u "Ljava/lang/Class;"), (0, .class_ 305), (0, u "java/lang/Comparable"), (0, .class_ 307), (0, u "java/lang/constant/Constable"), (0, .class_ 309), (0, u "java/lang/constant/ConstantDesc"), (0, u "MIN_VALUE"), (1, u "MAX_VALUE"), (3, u "SIZE"), (1, u "BYTES"), (1, u "serialVersionUID"), (0, u "J")] 131

def k11c0 : Code := { maxStack := 2, maxLocals := 2, code := jdk_33_method_40_code, exceptionTable := #[], attributes := #[] }
def k11m0 : Method := { name := "compare", desc := "(II)I", sig := { parameters := [.int, .int], returnType := some .int }, accessFlags := 9, code := some k11c0 }
/-- java/lang/Integer -/
def k11 : Class := { plain "java/lang/Integer" (some 10) with
  accessFlags := 49
  interfaces := #[3, 5, 6]
  cf := some (fileOf pool11 1 #[.nestMembers #[189]] #[{ accessFlags := 9, nameIndex := 261, descriptorIndex := 60, attributes := #[] }] 49 203 #[304, 306, 308] #[{ accessFlags := 25, nameIndex := 310, descriptorIndex := 194, attributes := #[] }, { accessFlags := 25, nameIndex := 312, descriptorIndex := 194, attributes := #[] }, { accessFlags := 25, nameIndex := 302, descriptorIndex := 303, attributes := #[] }, { accessFlags := 24, nameIndex := 19, descriptorIndex := 20, attributes := #[] }, { accessFlags := 24, nameIndex := 89, descriptorIndex := 86, attributes := #[] }, { accessFlags := 24, nameIndex := 85, descriptorIndex := 86, attributes := #[] }, { accessFlags := 18, nameIndex := 207, descriptorIndex := 194, attributes := #[] }, { accessFlags := 25, nameIndex := 316, descriptorIndex := 194, attributes := #[] }, { accessFlags := 25, nameIndex := 318, descriptorIndex := 194, attributes := #[] }, { accessFlags := 26, nameIndex := 320, descriptorIndex := 321, attributes := #[] }])
  fields := #[{ name := "MIN_VALUE", type := .int, accessFlags := 25, slot := 0, constantValue := 0 }, { name := "MAX_VALUE", type := .int, accessFlags := 25, slot := 1, constantValue := 0 }, { name := "TYPE", type := (.object "java/lang/Class"), accessFlags := 25, slot := 2, constantValue := 0 }, { name := "digits", type := (.array .char), accessFlags := 24, slot := 3, constantValue := 0 }, { name := "DigitTens", type := (.array .byte), accessFlags := 24, slot := 4, constantValue := 0 }, { name := "DigitOnes", type := (.array .byte), accessFlags := 24, slot := 5, constantValue := 0 }, { name := "value", type := .int, accessFlags := 18, slot := 0, constantValue := 0 }, { name := "SIZE", type := .int, accessFlags := 25, slot := 6, constantValue := 0 }, { name := "BYTES", type := .int, accessFlags := 25, slot := 7, constantValue := 0 }, { name := "serialVersionUID", type := .long, accessFlags := 26, slot := 8, constantValue := 0 }]
  methods := #[k11m0]
  instanceTypes := #[.int]
  staticTypes := #[.int, .int, (.object "java/lang/Class"), (.array .char), (.array .byte), (.array .byte), .int, .int, .long]
  resolved := Array.replicate 453 none
  statics := none }

def pool12 : Array CpInfo := pool [(3, .class_ 4), (0, u "java/lang/String"), (1, .class_ 8), (1, u "java/lang/Object"), (0, u "<init>"), (0, u "()V"), (0, .methodref 12 13), (0, .class_ 14), (0, .nameAndType 15 16), (0, u "java/lang/StringUTF16"), (0, u "newBytesLength"), (0, u "(I)I"), (3, .integer 1073741823), (23, .fieldref 12 45), (0, .nameAndType 46 47), (0, u "$assertionsDisabled"), (0, u "Z"), (0, .methodref 12 49), (0, .nameAndType 50 51), (0, u "length"), (0, u "([B)I"), (7, .fieldref 12 60), (0, .nameAndType 61 62), (0, u "HI_BYTE_SHIFT"), (0, u "I"), (0, .fieldref 12 64), (0, .nameAndType 65 62), (0, u "LO_BYTE_SHIFT"), (1, .methodref 12 68), (0, .nameAndType 69 70), (0, u "checkIndex"), (0, u "(I[B)V"), (0, .methodref 12 72), (0, .nameAndType 73 74), (0, u "getChar"), (0, u "([BI)C"), (0, .methodref 76 77), (0, .class_ 78), (0, .nameAndType 79 80), (0, u "java/lang/Character"), (0, u "isHighSurrogate"), (0, u "(C)Z"), (0, .methodref 76 82), (0, .nameAndType 83 80), (0, u "isLowSurrogate"), (0, .methodref 76 85), (0, .nameAndType 86 87), (0, u "toCodePoint"), (0, u "(CC)I"), (0, .methodref 12 89), (0, .nameAndType 90 91), (0, u "codePointAt"), (0, u "([BIIZ)I"), (15, .methodref 12 108), (0, .nameAndType 109 110), (0, u "newBytesFor"), (0, u "(I)[B"), (0, .methodref 12 112), (0, .nameAndType 113 114), (0, u "putChar"), (0, u "([BII)V"), (0, .methodref 12 116), (0, .nameAndType 117 118), (0, u "compress"), (0, u "([CI[BII)I"), (0, .methodref 12 120), (0, .nameAndType 121 122), (0, u "toBytes"), (0, u "([CII)[B"), (127, u "([BII)I"), (10, u "coderFromArrayLen"), (0, u "([BI)B"), (106, .class_ 371), (1, u "java/lang/StringUTF16$LinesSpliterator"), (20, u "charAt"), (21, .methodref 3 415), (0, .nameAndType 69 416), (0, u "(II)V"), (13, u "MAX_LENGTH"), (196, .class_ 628), (0, u "java/lang/StringUTF16$CodePointsSpliterator"), (0, .class_ 630), (0, u "java/lang/StringUTF16$CharsSpliterator")] 4

def k12m0 : Method := { name := "<init>", desc := "()V", sig := { parameters := [], returnType := none }, accessFlags := 0, code := none }
def k12c1 : Code := { maxStack := 1, maxLocals := 1, code := jdk_52_method_2_code, exceptionTable := #[], attributes := #[] }
def k12m1 : Method := { name := "newBytesFor", desc := "(I)[B", sig := { parameters := [.int], returnType := some (.array .byte) }, accessFlags := 9, code := some k12c1 }
def k12c2 : Code := { maxStack := 4, maxLocals := 1, code := jdk_52_method_3_code, exceptionTable := #[], attributes := #[] }
def k12m2 : Method := { name := "newBytesLength", desc := "(I)I", sig := { parameters := [.int], returnType := some .int }, accessFlags := 9, code := some k12c2 }
def k12c3 : Code := { maxStack := 4, maxLocals := 3, code := jdk_52_method_4_code, exceptionTable := #[], attributes := #[] }
def k12m3 : Method := { name := "putChar", desc := "([BII)V", sig := { parameters := [(.array .byte), .int, .int], returnType := none }, accessFlags := 8, code := some k12c3 }
def k12c4 : Code := { maxStack := 3, maxLocals := 2, code := jdk_52_method_5_code, exceptionTable := #[], attributes := #[] }
def k12m4 : Method := { name := "getChar", desc := "([BI)C", sig := { parameters := [(.array .byte), .int], returnType := some .char }, accessFlags := 8, code := some k12c4 }
def k12c5 : Code := { maxStack := 2, maxLocals := 1, code := jdk_52_method_6_code, exceptionTable := #[], attributes := #[] }
def k12m5 : Method := { name := "length", desc := "([B)I", sig := { parameters := [(.array .byte)], returnType := some .int }, accessFlags := 9, code := some k12c5 }
def k12c6 : Code := { maxStack := 2, maxLocals := 6, code := jdk_52_method_7_code, exceptionTable := #[], attributes := #[] }
def k12m6 : Method := { name := "codePointAt", desc := "([BIIZ)I", sig := { parameters := [(.array .byte), .int, .int, .boolean], returnType := some .int }, accessFlags := 10, code := some k12c6 }
def k12c7 : Code := { maxStack := 4, maxLocals := 3, code := jdk_52_method_8_code, exceptionTable := #[], attributes := #[] }
def k12m7 : Method := { name := "codePointAt", desc := "([BII)I", sig := { parameters := [(.array .byte), .int, .int], returnType := some .int }, accessFlags := 9, code := some k12c7 }
def k12c8 : Code := { maxStack := 4, maxLocals := 5, code := jdk_52_method_14_code, exceptionTable := #[], attributes := #[] }
def k12m8 : Method := { name := "toBytes", desc := "([CII)[B", sig := { parameters := [(.array .char), .int, .int], returnType := some (.array .byte) }, accessFlags := 9, code := some k12c8 }
def k12c9 : Code := { maxStack := 2, maxLocals := 2, code := jdk_52_method_15_code, exceptionTable := #[], attributes := #[] }
def k12m9 : Method := { name := "coderFromArrayLen", desc := "([BI)B", sig := { parameters := [(.array .byte), .int], returnType := some .byte }, accessFlags := 8, code := some k12c9 }
def k12c10 : Code := { maxStack := 5, maxLocals := 6, code := jdk_52_method_16_code, exceptionTable := #[], attributes := #[] }
def k12m10 : Method := { name := "compress", desc := "([CII)[B", sig := { parameters := [(.array .char), .int, .int], returnType := some (.array .byte) }, accessFlags := 9, code := some k12c10 }
def k12c11 : Code := { maxStack := 3, maxLocals := 7, code := jdk_52_method_21_code, exceptionTable := #[], attributes := #[] }
def k12m11 : Method := { name := "compress", desc := "([CI[BII)I", sig := { parameters := [(.array .char), .int, (.array .byte), .int, .int], returnType := some .int }, accessFlags := 9, code := some k12c11 }
def k12c12 : Code := { maxStack := 2, maxLocals := 2, code := jdk_52_method_83_code, exceptionTable := #[], attributes := #[] }
def k12m12 : Method := { name := "charAt", desc := "([BI)C", sig := { parameters := [(.array .byte), .int], returnType := some .char }, accessFlags := 9, code := some k12c12 }
def k12c13 : Code := { maxStack := 2, maxLocals := 2, code := jdk_52_method_91_code, exceptionTable := #[], attributes := #[] }
def k12m13 : Method := { name := "checkIndex", desc := "(I[B)V", sig := { parameters := [.int, (.array .byte)], returnType := none }, accessFlags := 9, code := some k12c13 }
/-- java/lang/StringUTF16 -/
def k12 : Class := { plain "java/lang/StringUTF16" (some 0) with
  accessFlags := 48
  interfaces := #[]
  cf := some (fileOf pool12 12 #[.nestMembers #[627, 629, 369]] #[{ accessFlags := 0, nameIndex := 9, descriptorIndex := 10, attributes := #[] }, { accessFlags := 9, nameIndex := 109, descriptorIndex := 110, attributes := #[] }, { accessFlags := 9, nameIndex := 15, descriptorIndex := 16, attributes := #[] }, { accessFlags := 8, nameIndex := 113, descriptorIndex := 114, attributes := #[] }, { accessFlags := 8, nameIndex := 73, descriptorIndex := 74, attributes := #[] }, { accessFlags := 9, nameIndex := 50, descriptorIndex := 51, attributes := #[] }, { accessFlags := 10, nameIndex := 90, descriptorIndex := 91, attributes := #[] }, { accessFlags := 9, nameIndex := 90, descriptorIndex := 250, attributes := #[] }, { accessFlags := 9, nameIndex := 121, descriptorIndex := 122, attributes := #[] }, { accessFlags := 8, nameIndex := 261, descriptorIndex := 262, attributes := #[] }, { accessFlags := 9, nameIndex := 117, descriptorIndex := 122, attributes := #[] }, { accessFlags := 9, nameIndex := 117, descriptorIndex := 118, attributes := #[] }, { accessFlags := 9, nameIndex := 392, descriptorIndex := 74, attributes := #[] }, { accessFlags := 9, nameIndex := 69, descriptorIndex := 70, attributes := #[] }] 48 6 #[] #[{ accessFlags := 26, nameIndex := 61, descriptorIndex := 62, attributes := #[] }, { accessFlags := 26, nameIndex := 65, descriptorIndex := 62, attributes := #[] }, { accessFlags := 24, nameIndex := 430, descriptorIndex := 62, attributes := #[] }, { accessFlags := 4120, nameIndex := 46, descriptorIndex := 47, attributes := #[] }])
  fields := #[{ name := "HI_BYTE_SHIFT", type := .int, accessFlags := 26, slot := 0, constantValue := 0 }, { name := "LO_BYTE_SHIFT", type := .int, accessFlags := 26, slot := 1, constantValue := 0 }, { name := "MAX_LENGTH", type := .int, accessFlags := 24, slot := 2, constantValue := 0 }, { name := "$assertionsDisabled", type := .boolean, accessFlags := 4120, slot := 3, constantValue := 0 }]
  methods := #[k12m0, k12m1, k12m2, k12m3, k12m4, k12m5, k12m6, k12m7, k12m8, k12m9, k12m10, k12m11, k12m12, k12m13]
  instanceTypes := #[]
  staticTypes := #[.int, .int, .int, .boolean]
  resolved := Array.replicate 635 none
  statics := some 1 }

def pool13 : Array CpInfo := pool [(1, .class_ 2), (0, u "java/lang/String"), (1, .class_ 6), (1, u "java/lang/Object"), (0, u "<init>"), (0, u "()V"), (0, .methodref 1 10), (0, .nameAndType 11 12), (0, u "checkIndex"), (0, u "(II)V"), (1, .class_ 16), (1, u "java/lang/StringLatin1"), (36, u "([BI)C"), (67, u "$assertionsDisabled"), (0, u "Z"), (98, .class_ 223), (1, u "java/lang/StringLatin1$LinesSpliterator"), (28, u "charAt"), (137, .class_ 391), (0, u "java/lang/StringLatin1$CharsSpliterator")] 3

def k13m0 : Method := { name := "<init>", desc := "()V", sig := { parameters := [], returnType := none }, accessFlags := 0, code := none }
def k13c1 : Code := { maxStack := 2, maxLocals := 2, code := jdk_43_method_2_code, exceptionTable := #[], attributes := #[] }
def k13m1 : Method := { name := "charAt", desc := "([BI)C", sig := { parameters := [(.array .byte), .int], returnType := some .char }, accessFlags := 9, code := some k13c1 }
/-- java/lang/StringLatin1 -/
def k13 : Class := { plain "java/lang/StringLatin1" (some 0) with
  accessFlags := 48
  interfaces := #[]
  cf := some (fileOf pool13 14 #[.nestMembers #[390, 221]] #[{ accessFlags := 0, nameIndex := 7, descriptorIndex := 8, attributes := #[] }, { accessFlags := 9, nameIndex := 252, descriptorIndex := 53, attributes := #[] }] 48 4 #[] #[{ accessFlags := 4120, nameIndex := 121, descriptorIndex := 122, attributes := #[] }])
  fields := #[{ name := "$assertionsDisabled", type := .boolean, accessFlags := 4120, slot := 0, constantValue := 0 }]
  methods := #[k13m0, k13m1]
  instanceTypes := #[]
  staticTypes := #[.boolean]
  resolved := Array.replicate 395 none
  statics := none }

def pool14 : Array CpInfo := pool [(2, .class_ 4), (1, u "java/lang/Object"), (0, u "<init>"), (0, u "()V"), (17, .class_ 26), (1, u "jdk/internal/util/Preconditions"), (6, u "checkIndex"), (21, .class_ 56), (0, u "jdk/internal/util/Preconditions$4"), (57, .class_ 115), (0, u "jdk/internal/util/Preconditions$1"), (7, u "SIOOBE_FORMATTER"), (0, u "Ljava/util/function/BiFunction;"), (0, .class_ 126), (0, u "jdk/internal/util/Preconditions$2"), (3, u "AIOOBE_FORMATTER"), (0, .class_ 132), (0, u "jdk/internal/util/Preconditions$3"), (3, u "IOOBE_FORMATTER"), (41, u "(IILjava/util/function/BiFunction;)I")] 15

def k14m0 : Method := { name := "<init>", desc := "()V", sig := { parameters := [], returnType := none }, accessFlags := 1, code := none }
def k14c1 : Code := { maxStack := 3, maxLocals := 3, code := jdk_41_method_11_code, exceptionTable := #[], attributes := #[] }
def k14m1 : Method := { name := "checkIndex", desc := "(IILjava/util/function/BiFunction;)I", sig := { parameters := [.int, .int, (.object "java/util/function/BiFunction")], returnType := some .int }, accessFlags := 9, code := some k14c1 }
/-- jdk/internal/util/Preconditions -/
def k14 : Class := { plain "jdk/internal/util/Preconditions" (some 0) with
  accessFlags := 33
  interfaces := #[]
  cf := some (fileOf pool14 24 #[.nestMembers #[55, 131, 125, 114]] #[{ accessFlags := 1, nameIndex := 5, descriptorIndex := 6, attributes := #[] }, { accessFlags := 9, nameIndex := 33, descriptorIndex := 178, attributes := #[] }] 33 2 #[] #[{ accessFlags := 25, nameIndex := 123, descriptorIndex := 124, attributes := #[] }, { accessFlags := 25, nameIndex := 130, descriptorIndex := 124, attributes := #[] }, { accessFlags := 25, nameIndex := 136, descriptorIndex := 124, attributes := #[] }])
  fields := #[{ name := "SIOOBE_FORMATTER", type := (.object "java/util/function/BiFunction"), accessFlags := 25, slot := 0, constantValue := 0 }, { name := "AIOOBE_FORMATTER", type := (.object "java/util/function/BiFunction"), accessFlags := 25, slot := 1, constantValue := 0 }, { name := "IOOBE_FORMATTER", type := (.object "java/util/function/BiFunction"), accessFlags := 25, slot := 2, constantValue := 0 }]
  methods := #[k14m0, k14m1]
  instanceTypes := #[]
  staticTypes := #[(.object "java/util/function/BiFunction"), (.object "java/util/function/BiFunction"), (.object "java/util/function/BiFunction")]
  resolved := Array.replicate 194 none
  statics := some 2 }

def pool15 : Array CpInfo := pool [(1, .class_ 2), (0, u "java/lang/Character"), (18, u "value"), (0, u "C"), (19, .class_ 44), (1, u "java/lang/Object"), (3, .class_ 50), (1, u "java/lang/Character$CharacterCache"), (24, .integer 55296), (0, .integer 56320), (0, .integer 57344), (2, u "isHighSurrogate"), (0, u "(C)Z"), (2, u "isLowSurrogate"), (0, .integer 4238353408), (12, u "toCodePoint"), (0, u "(CC)I"), (184, u "$assertionsDisabled"), (0, u "Z"), (21, .class_ 309), (1, u "java/lang/Character$UnicodeBlock"), (73, u "TYPE"), (0, u "Ljava/lang/Class;"), (0, .class_ 386), (0, u "java/io/Serializable"), (0, .class_ 388), (0, u "java/lang/Comparable"), (0, .class_ 390), (0, u "java/lang/constant/Constable"), (0, u "MIN_RADIX"), (0, u "I"), (2, u "MAX_RADIX"), (1, u "MIN_VALUE"), (1, u "MAX_VALUE"), (3, u "UNASSIGNED"), (0, u "B"), (0, u "UPPERCASE_LETTER"), (1, u "LOWERCASE_LETTER"), (0, u "TITLECASE_LETTER"), (1, u "MODIFIER_LETTER"), (1, u "OTHER_LETTER"), (1, u "NON_SPACING_MARK"), (1, u "ENCLOSING_MARK"), (1, u "COMBINING_SPACING_MARK"), (1, u "DECIMAL_DIGIT_NUMBER"), (1, u "LETTER_NUMBER"), (1, u "OTHER_NUMBER"), (1, u "SPACE_SEPARATOR"), (1, u "LINE_SEPARATOR"), (1, u "PARAGRAPH_SEPARATOR"), (1, u "CONTROL"), (1, u "FORMAT"), (1, u "PRIVATE_USE"), (1, u "SURROGATE"), (1, u "DASH_PUNCTUATION"), (1, u "START_PUNCTUATION"), (1, u "END_PUNCTUATION"), (1, u "CONNECTOR_PUNCTUATION"), (1, u "OTHER_PUNCTUATION"), (1, u "MATH_SYMBOL"), (1, u "CURRENCY_SYMBOL"), (1, u "MODIFIER_SYMBOL"), (1, u "OTHER_SYMBOL"), (1, u "INITIAL_QUOTE_PUNCTUATION"), (1, u "FINAL_QUOTE_PUNCTUATION"), (1, u "ERROR"), (1, u "DIRECTIONALITY_UNDEFINED"), (0, u "DIRECTIONALITY_LEFT_TO_RIGHT"), (0, u "DIRECTIONALITY_RIGHT_TO_LEFT"), (0, u "DIRECTIONALITY_RIGHT_TO_LEFT_ARABIC"), (0, u "DIRECTIONALITY_EUROPEAN_NUMBER"), (0, u "DIRECTIONALITY_EUROPEAN_NUMBER_SEPARATOR"), (0, u "DIRECTIONALITY_EUROPEAN_NUMBER_TERMINATOR"), (0, u "DIRECTIONALITY_ARABIC_NUMBER"), (0, u "DIRECTIONALITY_COMMON_NUMBER_SEPARATOR"), (0, u "DIRECTIONALITY_NONSPACING_MARK"), (0, u "DIRECTIONALITY_BOUNDARY_NEUTRAL"), (0, u "DIRECTIONALITY_PARAGRAPH_SEPARATOR"), (0, u "DIRECTIONALITY_SEGMENT_SEPARATOR"), (0, u "DIRECTIONALITY_WHITESPACE"), (0, u "DIRECTIONALITY_OTHER_NEUTRALS"), (0, u "DIRECTIONALITY_LEFT_TO_RIGHT_EMBEDDING"), (0, u "DIRECTIONALITY_LEFT_TO_RIGHT_OVERRIDE"), (0, u "DIRECTIONALITY_RIGHT_TO_LEFT_EMBEDDING"), (0, u "DIRECTIONALITY_RIGHT_TO_LEFT_OVERRIDE"), (1, u "DIRECTIONALITY_POP_DIRECTIONAL_FORMAT"), (0, u "DIRECTIONALITY_LEFT_TO_RIGHT_ISOLATE"), (0, u "DIRECTIONALITY_RIGHT_TO_LEFT_ISOLATE"), (0, u "DIRECTIONALITY_FIRST_STRONG_ISOLATE"), (0, u "DIRECTIONALITY_POP_DIRECTIONAL_ISOLATE"), (0, u "MIN_HIGH_SURROGATE"), (0, u "MAX_HIGH_SURROGATE"), (1, u "MIN_LOW_SURROGATE"), (0, u "MAX_LOW_SURROGATE"), (1, u "MIN_SURROGATE"), (0, u "MAX_SURROGATE"), (0, u "MIN_SUPPLEMENTARY_CODE_POINT"), (0, u "MIN_CODE_POINT"), (0, u "MAX_CODE_POINT"), (1, u "serialVersionUID"), (0, u "J"), (2, u "SIZE"), (0, u "BYTES"), (88, .class_ 596), (0, u "java/lang/Character$UnicodeScript"), (0, .class_ 598), (0, u "java/lang/Character$Subset")] 5

def k15c0 : Code := { maxStack := 2, maxLocals := 1, code := jdk_89_method_14_code, exceptionTable := #[], attributes := #[] }
def k15m0 : Method := { name := "isHighSurrogate", desc := "(C)Z", sig := { parameters := [.char], returnType := some .boolean }, accessFlags := 9, code := some k15c0 }
def k15c1 : Code := { maxStack := 2, maxLocals := 1, code := jdk_89_method_15_code, exceptionTable := #[], attributes := #[] }
def k15m1 : Method := { name := "isLowSurrogate", desc := "(C)Z", sig := { parameters := [.char], returnType := some .boolean }, accessFlags := 9, code := some k15c1 }
def k15c2 : Code := { maxStack := 2, maxLocals := 2, code := jdk_89_method_19_code, exceptionTable := #[], attributes := #[] }
def k15m2 : Method := { name := "toCodePoint", desc := "(CC)I", sig := { parameters := [.char, .char], returnType := some .int }, accessFlags := 9, code := some k15c2 }
/-- java/lang/Character -/
def k15 : Class := { plain "java/lang/Character" (some 0) with
  accessFlags := 49
  interfaces := #[2, 3, 5]
  cf := some (fileOf pool15 1 #[.nestMembers #[48, 595, 307, 597]] #[{ accessFlags := 9, nameIndex := 80, descriptorIndex := 81, attributes := #[] }, { accessFlags := 9, nameIndex := 84, descriptorIndex := 81, attributes := #[] }, { accessFlags := 9, nameIndex := 98, descriptorIndex := 99, attributes := #[] }] 49 42 #[385, 387, 389] #[{ accessFlags := 25, nameIndex := 391, descriptorIndex := 392, attributes := #[] }, { accessFlags := 25, nameIndex := 395, descriptorIndex := 392, attributes := #[] }, { accessFlags := 25, nameIndex := 397, descriptorIndex := 22, attributes := #[] }, { accessFlags := 25, nameIndex := 399, descriptorIndex := 22, attributes := #[] }, { accessFlags := 25, nameIndex := 383, descriptorIndex := 384, attributes := #[] }, { accessFlags := 25, nameIndex := 403, descriptorIndex := 404, attributes := #[] }, { accessFlags := 25, nameIndex := 405, descriptorIndex := 404, attributes := #[] }, { accessFlags := 25, nameIndex := 407, descriptorIndex := 404, attributes := #[] }, { accessFlags := 25, nameIndex := 408, descriptorIndex := 404, attributes := #[] }, { accessFlags := 25, nameIndex := 410, descriptorIndex := 404, attributes := #[] }, { accessFlags := 25, nameIndex := 412, descriptorIndex := 404, attributes := #[] }, { accessFlags := 25, nameIndex := 414, descriptorIndex := 404, attributes := #[] }, { accessFlags := 25, nameIndex := 416, descriptorIndex := 404, attributes := #[] }, { accessFlags := 25, nameIndex := 418, descriptorIndex := 404, attributes := #[] }, { accessFlags := 25, nameIndex := 420, descriptorIndex := 404, attributes := #[] }, { accessFlags := 25, nameIndex := 422, descriptorIndex := 404, attributes := #[] }, { accessFlags := 25, nameIndex := 424, descriptorIndex := 404, attributes := #[] }, { accessFlags := 25, nameIndex := 426, descriptorIndex := 404, attributes := #[] }, { accessFlags := 25, nameIndex := 428, descriptorIndex := 404, attributes := #[] }, { accessFlags := 25, nameIndex := 430, descriptorIndex := 404, attributes := #[] }, { accessFlags := 25, nameIndex := 432, descriptorIndex := 404, attributes := #[] }, { accessFlags := 25, nameIndex := 434, descriptorIndex := 404, attributes := #[] }, { accessFlags := 25, nameIndex := 436, descriptorIndex := 404, attributes := #[] }, { accessFlags := 25, nameIndex := 438, descriptorIndex := 404, attributes := #[] }, { accessFlags := 25, nameIndex := 440, descriptorIndex := 404, attributes := #[] }, { accessFlags := 25, nameIndex := 442, descriptorIndex := 404, attributes := #[] }, { accessFlags := 25, nameIndex := 444, descriptorIndex := 404, attributes := #[] }, { accessFlags := 25, nameIndex := 446, descriptorIndex := 404, attributes := #[] }, { accessFlags := 25, nameIndex := 448, descriptorIndex := 404, attributes := #[] }, { accessFlags := 25, nameIndex := 450, descriptorIndex := 404, attributes := #[] }, { accessFlags := 25, nameIndex := 452, descriptorIndex := 404, attributes := #[] }, { accessFlags := 25, nameIndex := 454, descriptorIndex := 404, attributes := #[] }, { accessFlags := 25, nameIndex := 456, descriptorIndex := 404, attributes := #[] }, { accessFlags := 25, nameIndex := 458, descriptorIndex := 404, attributes := #[] }, { accessFlags := 25, nameIndex := 460, descriptorIndex := 404, attributes := #[] }, { accessFlags := 24, nameIndex := 462, descriptorIndex := 392, attributes := #[] }, { accessFlags := 25, nameIndex := 464, descriptorIndex := 404, attributes := #[] }, { accessFlags := 25, nameIndex := 465, descriptorIndex := 404, attributes := #[] }, { accessFlags := 25, nameIndex := 466, descriptorIndex := 404, attributes := #[] }, { accessFlags := 25, nameIndex := 467, descriptorIndex := 404, attributes := #[] }, { accessFlags := 25, nameIndex := 468, descriptorIndex := 404, attributes := #[] }, { accessFlags := 25, nameIndex := 469, descriptorIndex := 404, attributes := #[] }, { accessFlags := 25, nameIndex := 470, descriptorIndex := 404, attributes := #[] }, { accessFlags := 25, nameIndex := 471, descriptorIndex := 404, attributes := #[] }, { accessFlags := 25, nameIndex := 472, descriptorIndex := 404, attributes := #[] }, { accessFlags := 25, nameIndex := 473, descriptorIndex := 404, attributes := #[] }, { accessFlags := 25, nameIndex := 474, descriptorIndex := 404, attributes := #[] }, { accessFlags := 25, nameIndex := 475, descriptorIndex := 404, attributes := #[] }, { accessFlags := 25, nameIndex := 476, descriptorIndex := 404, attributes := #[] }, { accessFlags := 25, nameIndex := 477, descriptorIndex := 404, attributes := #[] }, { accessFlags := 25, nameIndex := 478, descriptorIndex := 404, attributes := #[] }, { accessFlags := 25, nameIndex := 479, descriptorIndex := 404, attributes := #[] }, { accessFlags := 25, nameIndex := 480, descriptorIndex := 404, attributes := #[] }, { accessFlags := 25, nameIndex := 481, descriptorIndex := 404, attributes := #[] }, { accessFlags := 25, nameIndex := 482, descriptorIndex := 404, attributes := #[] }, { accessFlags := 25, nameIndex := 484, descriptorIndex := 404, attributes := #[] }, { accessFlags := 25, nameIndex := 485, descriptorIndex := 404, attributes := #[] }, { accessFlags := 25, nameIndex := 486, descriptorIndex := 404, attributes := #[] }, { accessFlags := 25, nameIndex := 487, descriptorIndex := 404, attributes := #[] }, { accessFlags := 25, nameIndex := 488, descriptorIndex := 404, attributes := #[] }, { accessFlags := 25, nameIndex := 489, descriptorIndex := 22, attributes := #[] }, { accessFlags := 25, nameIndex := 490, descriptorIndex := 22, attributes := #[] }, { accessFlags := 25, nameIndex := 492, descriptorIndex := 22, attributes := #[] }, { accessFlags := 25, nameIndex := 493, descriptorIndex := 22, attributes := #[] }, { accessFlags := 25, nameIndex := 495, descriptorIndex := 22, attributes := #[] }, { accessFlags := 25, nameIndex := 496, descriptorIndex := 22, attributes := #[] }, { accessFlags := 25, nameIndex := 497, descriptorIndex := 392, attributes := #[] }, { accessFlags := 25, nameIndex := 498, descriptorIndex := 392, attributes := #[] }, { accessFlags := 25, nameIndex := 499, descriptorIndex := 392, attributes := #[] }, { accessFlags := 18, nameIndex := 21, descriptorIndex := 22, attributes := #[] }, { accessFlags := 26, nameIndex := 501, descriptorIndex := 502, attributes := #[] }, { accessFlags := 25, nameIndex := 505, descriptorIndex := 392, attributes := #[] }, { accessFlags := 25, nameIndex := 506, descriptorIndex := 392, attributes := #[] }, { accessFlags := 4120, nameIndex := 284, descriptorIndex := 285, attributes := #[] }])
  fields := #[{ name := "MIN_RADIX", type := .int, accessFlags := 25, slot := 0, constantValue := 0 }, { name := "MAX_RADIX", type := .int, accessFlags := 25, slot := 1, constantValue := 0 }, { name := "MIN_VALUE", type := .char, accessFlags := 25, slot := 2, constantValue := 0 }, { name := "MAX_VALUE", type := .char, accessFlags := 25, slot := 3, constantValue := 0 }, { name := "TYPE", type := (.object "java/lang/Class"), accessFlags := 25, slot := 4, constantValue := 0 }, { name := "UNASSIGNED", type := .byte, accessFlags := 25, slot := 5, constantValue := 0 }, { name := "UPPERCASE_LETTER", type := .byte, accessFlags := 25, slot := 6, constantValue := 0 }, { name := "LOWERCASE_LETTER", type := .byte, accessFlags := 25, slot := 7, constantValue := 0 }, { name := "TITLECASE_LETTER", type := .byte, accessFlags := 25, slot := 8, constantValue := 0 }, { name := "MODIFIER_LETTER", type := .byte, accessFlags := 25, slot := 9, constantValue := 0 }, { name := "OTHER_LETTER", type := .byte, accessFlags := 25, slot := 10, constantValue := 0 }, { name := "NON_SPACING_MARK", type := .byte, accessFlags := 25, slot := 11, constantValue := 0 }, { name := "ENCLOSING_MARK", type := .byte, accessFlags := 25, slot := 12, constantValue := 0 }, { name := "COMBINING_SPACING_MARK", type := .byte, accessFlags := 25, slot := 13, constantValue := 0 }, { name := "DECIMAL_DIGIT_NUMBER", type := .byte, accessFlags := 25, slot := 14, constantValue := 0 }, { name := "LETTER_NUMBER", type := .byte, accessFlags := 25, slot := 15, constantValue := 0 }, { name := "OTHER_NUMBER", type := .byte, accessFlags := 25, slot := 16, constantValue := 0 }, { name := "SPACE_SEPARATOR", type := .byte, accessFlags := 25, slot := 17, constantValue := 0 }, { name := "LINE_SEPARATOR", type := .byte, accessFlags := 25, slot := 18, constantValue := 0 }, { name := "PARAGRAPH_SEPARATOR", type := .byte, accessFlags := 25, slot := 19, constantValue := 0 }, { name := "CONTROL", type := .byte, accessFlags := 25, slot := 20, constantValue := 0 }, { name := "FORMAT", type := .byte, accessFlags := 25, slot := 21, constantValue := 0 }, { name := "PRIVATE_USE", type := .byte, accessFlags := 25, slot := 22, constantValue := 0 }, { name := "SURROGATE", type := .byte, accessFlags := 25, slot := 23, constantValue := 0 }, { name := "DASH_PUNCTUATION", type := .byte, accessFlags := 25, slot := 24, constantValue := 0 }, { name := "START_PUNCTUATION", type := .byte, accessFlags := 25, slot := 25, constantValue := 0 }, { name := "END_PUNCTUATION", type := .byte, accessFlags := 25, slot := 26, constantValue := 0 }, { name := "CONNECTOR_PUNCTUATION", type := .byte, accessFlags := 25, slot := 27, constantValue := 0 }, { name := "OTHER_PUNCTUATION", type := .byte, accessFlags := 25, slot := 28, constantValue := 0 }, { name := "MATH_SYMBOL", type := .byte, accessFlags := 25, slot := 29, constantValue := 0 }, { name := "CURRENCY_SYMBOL", type := .byte, accessFlags := 25, slot := 30, constantValue := 0 }, { name := "MODIFIER_SYMBOL", type := .byte, accessFlags := 25, slot := 31, constantValue := 0 }, { name := "OTHER_SYMBOL", type := .byte, accessFlags := 25, slot := 32, constantValue := 0 }, { name := "INITIAL_QUOTE_PUNCTUATION", type := .byte, accessFlags := 25, slot := 33, constantValue := 0 }, { name := "FINAL_QUOTE_PUNCTUATION", type := .byte, accessFlags := 25, slot := 34, constantValue := 0 }, { name := "ERROR", type := .int, accessFlags := 24, slot := 35, constantValue := 0 }, { name := "DIRECTIONALITY_UNDEFINED", type := .byte, accessFlags := 25, slot := 36, constantValue := 0 }, { name := "DIRECTIONALITY_LEFT_TO_RIGHT", type := .byte, accessFlags := 25, slot := 37, constantValue := 0 }, { name := "DIRECTIONALITY_RIGHT_TO_LEFT", type := .byte, accessFlags := 25, slot := 38, constantValue := 0 }, { name := "DIRECTIONALITY_RIGHT_TO_LEFT_ARABIC", type := .byte, accessFlags := 25, slot := 39, constantValue := 0 }, { name := "DIRECTIONALITY_EUROPEAN_NUMBER", type := .byte, accessFlags := 25, slot := 40, constantValue := 0 }, { name := "DIRECTIONALITY_EUROPEAN_NUMBER_SEPARATOR", type := .byte, accessFlags := 25, slot := 41, constantValue := 0 }, { name := "DIRECTIONALITY_EUROPEAN_NUMBER_TERMINATOR", type := .byte, accessFlags := 25, slot := 42, constantValue := 0 }, { name := "DIRECTIONALITY_ARABIC_NUMBER", type := .byte, accessFlags := 25, slot := 43, constantValue := 0 }, { name := "DIRECTIONALITY_COMMON_NUMBER_SEPARATOR", type := .byte, accessFlags := 25, slot := 44, constantValue := 0 }, { name := "DIRECTIONALITY_NONSPACING_MARK", type := .byte, accessFlags := 25, slot := 45, constantValue := 0 }, { name := "DIRECTIONALITY_BOUNDARY_NEUTRAL", type := .byte, accessFlags := 25, slot := 46, constantValue := 0 }, { name := "DIRECTIONALITY_PARAGRAPH_SEPARATOR", type := .byte, accessFlags := 25, slot := 47, constantValue := 0 }, { name := "DIRECTIONALITY_SEGMENT_SEPARATOR", type := .byte, accessFlags := 25, slot := 48, constantValue := 0 }, { name := "DIRECTIONALITY_WHITESPACE", type := .byte, accessFlags := 25, slot := 49, constantValue := 0 }, { name := "DIRECTIONALITY_OTHER_NEUTRALS", type := .byte, accessFlags := 25, slot := 50, constantValue := 0 }, { name := "DIRECTIONALITY_LEFT_TO_RIGHT_EMBEDDING", type := .byte, accessFlags := 25, slot := 51, constantValue := 0 }, { name := "DIRECTIONALITY_LEFT_TO_RIGHT_OVERRIDE", type := .byte, accessFlags := 25, slot := 52, constantValue := 0 }, { name := "DIRECTIONALITY_RIGHT_TO_LEFT_EMBEDDING", type := .byte, accessFlags := 25, slot := 53, constantValue := 0 }, { name := "DIRECTIONALITY_RIGHT_TO_LEFT_OVERRIDE", type := .byte, accessFlags := 25, slot := 54, constantValue := 0 }, { name := "DIRECTIONALITY_POP_DIRECTIONAL_FORMAT", type := .byte, accessFlags := 25, slot := 55, constantValue := 0 }, { name := "DIRECTIONALITY_LEFT_TO_RIGHT_ISOLATE", type := .byte, accessFlags := 25, slot := 56, constantValue := 0 }, { name := "DIRECTIONALITY_RIGHT_TO_LEFT_ISOLATE", type := .byte, accessFlags := 25, slot := 57, constantValue := 0 }, { name := "DIRECTIONALITY_FIRST_STRONG_ISOLATE", type := .byte, accessFlags := 25, slot := 58, constantValue := 0 }, { name := "DIRECTIONALITY_POP_DIRECTIONAL_ISOLATE", type := .byte, accessFlags := 25, slot := 59, constantValue := 0 }, { name := "MIN_HIGH_SURROGATE", type := .char, accessFlags := 25, slot := 60, constantValue := 0 }, { name := "MAX_HIGH_SURROGATE", type := .char, accessFlags := 25, slot := 61, constantValue := 0 }, { name := "MIN_LOW_SURROGATE", type := .char, accessFlags := 25, slot := 62, constantValue := 0 }, { name := "MAX_LOW_SURROGATE", type := .char, accessFlags := 25, slot := 63, constantValue := 0 }, { name := "MIN_SURROGATE", type := .char, accessFlags := 25, slot := 64, constantValue := 0 }, { name := "MAX_SURROGATE", type := .char, accessFlags := 25, slot := 65, constantValue := 0 }, { name := "MIN_SUPPLEMENTARY_CODE_POINT", type := .int, accessFlags := 25, slot := 66, constantValue := 0 }, { name := "MIN_CODE_POINT", type := .int, accessFlags := 25, slot := 67, constantValue := 0 }, { name := "MAX_CODE_POINT", type := .int, accessFlags := 25, slot := 68, constantValue := 0 }, { name := "value", type := .char, accessFlags := 18, slot := 0, constantValue := 0 }, { name := "serialVersionUID", type := .long, accessFlags := 26, slot := 69, constantValue := 0 }, { name := "SIZE", type := .int, accessFlags := 25, slot := 70, constantValue := 0 }, { name := "BYTES", type := .int, accessFlags := 25, slot := 71, constantValue := 0 }, { name := "$assertionsDisabled", type := .boolean, accessFlags := 4120, slot := 72, constantValue := 0 }]
  methods := #[k15m0, k15m1, k15m2]
  instanceTypes := #[.char]
  staticTypes := #[.int, .int, .char, .char, (.object "java/lang/Class"), .byte, .byte, .byte, .byte, .byte, .byte, .byte, .byte, .byte, .byte, .byte, .byte, .byte, .byte, .byte, .byte, .byte, .byte, .byte, .byte, .byte, .byte, .byte, .byte, .byte, .byte, .byte, .byte, .byte, .byte, .int, .byte, .byte, .byte, .byte, .byte, .byte, .byte, .byte, .byte, .byte, .byte, .byte, .byte, .byte, .byte, .byte, .byte, .byte, .byte, .byte, .byte, .byte, .byte, .byte, .char, .char, .char, .char, .char, .char, .int, .int, .int, .long, .int, .int, .boolean]
  resolved := Array.replicate 604 none
  statics := none }

def pool16 : Array CpInfo := pool [(9, u "<init>"), (6, .class_ 18), (1, u "java/lang/Object"), (0, u "()V"), (1, .class_ 23), (1, u "jdk/internal/util/ArraysSupport"), (0, u "LOG2_ARRAY_LONG_INDEX_SCALE"), (0, u "I"), (2, u "U"), (0, u "Ljdk/internal/misc/Unsafe;"), (8, u "BIG_ENDIAN"), (0, u "Z"), (8, u "LOG2_BYTE_BIT_SIZE"), (4, u "LOG2_ARRAY_INT_INDEX_SCALE"), (54, u "JLA"), (0, u "Ljdk/internal/access/JavaLangAccess;"), (11, u "LOG2_ARRAY_BOOLEAN_INDEX_SCALE"), (9, u "LOG2_ARRAY_BYTE_INDEX_SCALE"), (5, u "LOG2_ARRAY_CHAR_INDEX_SCALE"), (5, u "LOG2_ARRAY_SHORT_INDEX_SCALE"), (18, u "LOG2_ARRAY_FLOAT_INDEX_SCALE"), (24, u "LOG2_ARRAY_DOUBLE_INDEX_SCALE"), (89, u "T_BOOLEAN"), (2, u "T_CHAR"), (1, u "T_FLOAT"), (1, u "T_DOUBLE"), (1, u "T_BYTE"), (1, u "T_SHORT"), (1, u "T_INT"), (1, u "T_LONG"), (1, u "SOFT_MAX_ARRAY_LENGTH")] 83

def k16m0 : Method := { name := "<init>", desc := "()V", sig := { parameters := [], returnType := none }, accessFlags := 2, code := none }
/-- jdk/internal/util/ArraysSupport -/
def k16 : Class := { plain "jdk/internal/util/ArraysSupport" (some 0) with
  accessFlags := 33
  interfaces := #[]
  cf := some (fileOf pool16 21 #[] #[{ accessFlags := 2, nameIndex := 9, descriptorIndex := 19, attributes := #[] }] 33 16 #[] #[{ accessFlags := 24, nameIndex := 28, descriptorIndex := 29, attributes := #[] }, { accessFlags := 26, nameIndex := 38, descriptorIndex := 39, attributes := #[] }, { accessFlags := 25, nameIndex := 121, descriptorIndex := 25, attributes := #[] }, { accessFlags := 25, nameIndex := 131, descriptorIndex := 25, attributes := #[] }, { accessFlags := 25, nameIndex := 137, descriptorIndex := 25, attributes := #[] }, { accessFlags := 25, nameIndex := 143, descriptorIndex := 25, attributes := #[] }, { accessFlags := 25, nameIndex := 53, descriptorIndex := 25, attributes := #[] }, { accessFlags := 25, nameIndex := 24, descriptorIndex := 25, attributes := #[] }, { accessFlags := 25, nameIndex := 162, descriptorIndex := 25, attributes := #[] }, { accessFlags := 25, nameIndex := 187, descriptorIndex := 25, attributes := #[] }, { accessFlags := 26, nameIndex := 48, descriptorIndex := 25, attributes := #[] }, { accessFlags := 25, nameIndex := 277, descriptorIndex := 25, attributes := #[] }, { accessFlags := 25, nameIndex := 280, descriptorIndex := 25, attributes := #[] }, { accessFlags := 25, nameIndex := 282, descriptorIndex := 25, attributes := #[] }, { accessFlags := 25, nameIndex := 284, descriptorIndex := 25, attributes := #[] }, { accessFlags := 25, nameIndex := 286, descriptorIndex := 25, attributes := #[] }, { accessFlags := 25, nameIndex := 288, descriptorIndex := 25, attributes := #[] }, { accessFlags := 25, nameIndex := 290, descriptorIndex := 25, attributes := #[] }, { accessFlags := 25, nameIndex := 292, descriptorIndex := 25, attributes := #[] }, { accessFlags := 26, nameIndex := 108, descriptorIndex := 109, attributes := #[] }, { accessFlags := 25, nameIndex := 294, descriptorIndex := 25, attributes := #[] }])
  fields := #[{ name := "U", type := (.object "jdk/internal/misc/Unsafe"), accessFlags := 24, slot := 0, constantValue := 0 }, { name := "BIG_ENDIAN", type := .boolean, accessFlags := 26, slot := 1, constantValue := 0 }, { name := "LOG2_ARRAY_BOOLEAN_INDEX_SCALE", type := .int, accessFlags := 25, slot := 2, constantValue := 0 }, { name := "LOG2_ARRAY_BYTE_INDEX_SCALE", type := .int, accessFlags := 25, slot := 3, constantValue := 0 }, { name := "LOG2_ARRAY_CHAR_INDEX_SCALE", type := .int, accessFlags := 25, slot := 4, constantValue := 0 }, { name := "LOG2_ARRAY_SHORT_INDEX_SCALE", type := .int, accessFlags := 25, slot := 5, constantValue := 0 }, { name := "LOG2_ARRAY_INT_INDEX_SCALE", type := .int, accessFlags := 25, slot := 6, constantValue := 0 }, { name := "LOG2_ARRAY_LONG_INDEX_SCALE", type := .int, accessFlags := 25, slot := 7, constantValue := 0 }, { name := "LOG2_ARRAY_FLOAT_INDEX_SCALE", type := .int, accessFlags := 25, slot := 8, constantValue := 0 }, { name := "LOG2_ARRAY_DOUBLE_INDEX_SCALE", type := .int, accessFlags := 25, slot := 9, constantValue := 0 }, { name := "LOG2_BYTE_BIT_SIZE", type := .int, accessFlags := 26, slot := 10, constantValue := 0 }, { name := "T_BOOLEAN", type := .int, accessFlags := 25, slot := 11, constantValue := 0 }, { name := "T_CHAR", type := .int, accessFlags := 25, slot := 12, constantValue := 0 }, { name := "T_FLOAT", type := .int, accessFlags := 25, slot := 13, constantValue := 0 }, { name := "T_DOUBLE", type := .int, accessFlags := 25, slot := 14, constantValue := 0 }, { name := "T_BYTE", type := .int, accessFlags := 25, slot := 15, constantValue := 0 }, { name := "T_SHORT", type := .int, accessFlags := 25, slot := 16, constantValue := 0 }, { name := "T_INT", type := .int, accessFlags := 25, slot := 17, constantValue := 0 }, { name := "T_LONG", type := .int, accessFlags := 25, slot := 18, constantValue := 0 }, { name := "JLA", type := (.object "jdk/internal/access/JavaLangAccess"), accessFlags := 26, slot := 19, constantValue := 0 }, { name := "SOFT_MAX_ARRAY_LENGTH", type := .int, accessFlags := 25, slot := 20, constantValue := 0 }]
  methods := #[k16m0]
  instanceTypes := #[]
  staticTypes := #[(.object "jdk/internal/misc/Unsafe"), .boolean, .int, .int, .int, .int, .int, .int, .int, .int, .int, .int, .int, .int, .int, .int, .int, .int, .int, (.object "jdk/internal/access/JavaLangAccess"), .int]
  resolved := Array.replicate 378 none
  statics := none }

def pool17 : Array CpInfo := pool [(1, u "java/lang/Cloneable"), (0, .class_ 1), (0, u "java/lang/Object"), (0, .class_ 3)] 3

/-- java/lang/Cloneable -/
def k17 : Class := { plain "java/lang/Cloneable" (some 0) with
  accessFlags := 1537
  interfaces := #[]
  cf := some (fileOf pool17 2 #[] #[] 1537 4 #[] #[])
  fields := #[]
  methods := #[]
  instanceTypes := #[]
  staticTypes := #[]
  resolved := Array.replicate 8 none
  statics := none }

/-- the primitive byte -/
def k18 : Class := { plain "byte" none with kind := .primitive 'B', accessFlags := 0x411 }
/-- [B -/
def k19 : Class := { plain "[B" (some 0) with kind := .array 18 .byte, interfaces := #[17, 2], accessFlags := 1041 }

/-- the primitive char -/
def k20 : Class := { plain "char" none with kind := .primitive 'C', accessFlags := 0x411 }
/-- [C -/
def k21 : Class := { plain "[C" (some 0) with kind := .array 20 .char, interfaces := #[17, 2], accessFlags := 1041 }

/-- the primitive int -/
def k22 : Class := { plain "int" none with kind := .primitive 'I', accessFlags := 0x411 }
/-- [I -/
def k23 : Class := { plain "[I" (some 0) with kind := .array 22 .int, interfaces := #[17, 2], accessFlags := 1041 }

def heap : Heap := #[{ cls := 7, slots := #[.long 0, .int 1, .null, .int 0, .null, .int 0, .int 0], vm := .statics 7 },
  { cls := 12, slots := #[.int 0, .int 8, .int 0, .int 1], vm := .statics 12 },
  { cls := 14, slots := #[.null, .null, .null], vm := .statics 14 }]
def classes : Array Class := #[k0, k1, k2, k3, k4, k5, k6, k7, k8, k9, k10, k11, k12, k13, k14, k15, k16, k17, k18, k19, k20, k21, k22, k23]
def interned : List (Array UInt16 × Addr) := []
def slotsUsed : Nat := 14
def theMethod : MethodId := ⟨1, 1⟩
def args0 : Array Value := #[.int 65, .int 70000, .int 66, .int 67, .int 6]
def aboutOver (below : List Frame) : State where
  vm := { classes := classes, interned := interned.toArray }
  heap := heap
  slotsUsed := slotsUsed
  threads := #[{ frames := .invoking theMethod args0 :: below }]
def below0 : List Frame := [.native { method := ⟨0, 0⟩, args := #[] }]
def about1 : State := aboutOver below0
def p0 : Program := .bare "" "" ""
def e0 : Env := launch0.env 0 0 0
theorem w_frames : about1.frames = Frame.invoking theMethod args0 :: below0 := rfl
set_option maxRecDepth 65536 in
theorem w_args : argsFit about1.vm theMethod args0 = true := by decide +kernel
set_option maxRecDepth 65536 in
theorem w_heap : heapFits about1 = true := by decide +kernel
set_option maxRecDepth 65536 in
theorem w_runnable : about1.curStatus? = some .runnable := by decide +kernel
set_option maxRecDepth 65536 in
theorem w_alone : about1.alone = true := by decide +kernel
set_option maxRecDepth 65536 in
theorem w_named : about1.methodNamed? x = some theMethod := by decide +kernel
set_option maxRecDepth 65536 in
theorem w_hears : about1.hears theMethod below0 = true := by decide +kernel
set_option maxRecDepth 65536 in
theorem w_ripe : about1.ripe theMethod args0 below0 = true := by decide +kernel
theorem w_running : about1.status = .running := rfl
set_option maxRecDepth 65536 in
theorem w_room : about1.hasRoom e0.platform room_1 = true :=
  launch0.hasRoom_least _ room_1 (by decide +kernel) (by decide +kernel) (by decide +kernel) (by decide +kernel) (by decide +kernel) (by decide +kernel)
theorem allAtoms_all (ts : List Jvm.Cond) (a : Array Jvm.Value) (st : Jvm.State) : (allAtoms ts).before a st = ts.all (fun c => c.before a st) := by
  induction ts with
  | nil => rfl
  | cons c t ih =>
    show (Jvm.Cond.and c (allAtoms t)).before a st = _
    rw [Jvm.Cond.before_and, ih, List.all_cons]
def words1 : List Jvm.Cond := Jvm.Cond.code x code maxLocals ret :: tables_1
/-- a 'code' word, met by the world's own term for the bytes: nothing is compared byte by byte -/
theorem code_word {y : MethodName} {bytes : ByteArray} {mx : Nat} {rt : Option FieldType} {a : Array Value} {s : State} {m : MethodId} {meth : Method} {c : Code} (h1 : s.methodNamed? y = some m) (h2 : s.vm.method? m = some meth) (h3 : meth.code = some c) (h4 : c.code = bytes)
    (h5 : (c.maxLocals == mx && c.exceptionTable.isEmpty && decide (c.maxStack ≤ mostOperands) && decide (meth.sig.returnType = rt) && !meth.locks && decide (parseMethodDescriptor y.desc = some meth.sig)) = true) : (Jvm.Cond.code y bytes mx rt).before a s = true := by
  simp only [Bool.and_eq_true, beq_iff_eq, Bool.not_eq_true', decide_eq_true_eq] at h5
  obtain ⟨⟨⟨⟨⟨g1, g2⟩, g3⟩, g4⟩, g5⟩, g6⟩ := h5
  simp [Cond.before, Cond.holds, Cond.value, h1, h2, h3, h4, g1, g2, g3, g4, g5, g6]
def isCode : Jvm.Cond → Bool
  | .code _ _ _ _ => true
  | _ => false
theorem all_split {L : List Jvm.Cond} {P : Jvm.Cond → Bool} (h1 : L.all (fun c => isCode c || P c) = true) (h2 : ∀ c ∈ L.filter isCode, P c = true) : L.all P = true := by
  refine List.all_eq_true.mpr fun c hc => ?_
  have h := List.all_eq_true.mp h1 c hc
  rcases Bool.eq_false_or_eq_true (isCode c) with hi | hi
  · exact h2 c (List.mem_filter.mpr ⟨hc, hi⟩)
  · simpa [hi] using h
set_option maxRecDepth 65536 in
theorem w_c0 : (Jvm.Cond.code x code maxLocals ret).before args0 about1 = true := code_word (m := ⟨1, 1⟩) (meth := k1m1) (c := k1c1) (by decide +kernel) rfl rfl rfl (by decide +kernel)
set_option maxRecDepth 65536 in
theorem w_c1 : (Jvm.Cond.code ({ cls := "com/example/rootward/rootward/model/ShortestPathTreeCompareCodePointsPinLaw", name := "scalar", desc := "(I)I" } : Jvm.MethodName) method_4_code (2 : Nat) (Option.some Jvm.ClassFile.FieldType.int)).before args0 about1 = true := code_word (m := ⟨1, 3⟩) (meth := k1m3) (c := k1c3) (by decide +kernel) rfl rfl rfl (by decide +kernel)
set_option maxRecDepth 65536 in
theorem w_c2 : (Jvm.Cond.code ({ cls := "com/example/rootward/rootward/model/ShortestPathTreeCompareCodePointsPinLaw", name := "encode", desc := "(III)Ljava/lang/String;" } : Jvm.MethodName) method_7_code (5 : Nat) (Option.some (Jvm.ClassFile.FieldType.object "java/lang/String"))).before args0 about1 = true := code_word (m := ⟨1, 6⟩) (meth := k1m6) (c := k1c6) (by decide +kernel) rfl rfl rfl (by decide +kernel)
set_option maxRecDepth 65536 in
theorem w_c3 : (Jvm.Cond.code ({ cls := "com/example/rootward/rootward/model/ShortestPathTreeCompareCodePointsPinLaw", name := "text", desc := "([CI)Ljava/lang/String;" } : Jvm.MethodName) method_8_code (2 : Nat) (Option.some (Jvm.ClassFile.FieldType.object "java/lang/String"))).before args0 about1 = true := code_word (m := ⟨1, 7⟩) (meth := k1m7) (c := k1c7) (by decide +kernel) rfl rfl rfl (by decide +kernel)
set_option maxRecDepth 65536 in
theorem w_c4 : (Jvm.Cond.code ({ cls := "java/lang/String", name := "<init>", desc := "([C)V" } : Jvm.MethodName) jdk_42_method_3_code (2 : Nat) (Option.none : Option Jvm.ClassFile.FieldType)).before args0 about1 = true := code_word (m := ⟨7, 1⟩) (meth := k7m1) (c := k7c1) (by decide +kernel) rfl rfl rfl (by decide +kernel)
set_option maxRecDepth 65536 in
theorem w_c5 : (Jvm.Cond.code ({ cls := "java/lang/String", name := "<init>", desc := "([CIILjava/lang/Void;)V" } : Jvm.MethodName) jdk_42_method_149_code (6 : Nat) (Option.none : Option Jvm.ClassFile.FieldType)).before args0 about1 = true := code_word (m := ⟨7, 5⟩) (meth := k7m5) (c := k7c5) (by decide +kernel) rfl rfl rfl (by decide +kernel)
set_option maxRecDepth 65536 in
theorem w_c6 : (Jvm.Cond.code ({ cls := "java/lang/Object", name := "<init>", desc := "()V" } : Jvm.MethodName) object_method_1_code (1 : Nat) (Option.none : Option Jvm.ClassFile.FieldType)).before args0 about1 = true := code_word (m := ⟨0, 0⟩) (meth := k0m0) (c := k0c0) (by decide +kernel) rfl rfl rfl (by decide +kernel)
set_option maxRecDepth 65536 in
theorem w_c7 : (Jvm.Cond.code ({ cls := "com/example/rootward/rootward/model/ShortestPathTreeCompareCodePointsPinLaw", name := "reference", desc := "(IIIIII)I" } : Jvm.MethodName) method_5_code (6 : Nat) (Option.some Jvm.ClassFile.FieldType.int)).before args0 about1 = true := code_word (m := ⟨1, 4⟩) (meth := k1m4) (c := k1c4) (by decide +kernel) rfl rfl rfl (by decide +kernel)
set_option maxRecDepth 65536 in
theorem w_c8 : (Jvm.Cond.code ({ cls := "com/example/rootward/rootward/model/ShortestPathTree", name := "compareCodePoints", desc := "(Ljava/lang/String;Ljava/lang/String;)I" } : Jvm.MethodName) prog_22_method_8_code (4 : Nat) (Option.some Jvm.ClassFile.FieldType.int)).before args0 about1 = true := code_word (m := ⟨8, 0⟩) (meth := k8m0) (c := k8c0) (by decide +kernel) rfl rfl rfl (by decide +kernel)
set_option maxRecDepth 65536 in
theorem w_c9 : (Jvm.Cond.code ({ cls := "java/lang/String", name := "length", desc := "()I" } : Jvm.MethodName) jdk_42_method_54_code (1 : Nat) (Option.some Jvm.ClassFile.FieldType.int)).before args0 about1 = true := code_word (m := ⟨7, 2⟩) (meth := k7m2) (c := k7c2) (by decide +kernel) rfl rfl rfl (by decide +kernel)
set_option maxRecDepth 65536 in
theorem w_c10 : (Jvm.Cond.code ({ cls := "java/lang/String", name := "coder", desc := "()B" } : Jvm.MethodName) jdk_42_method_152_code (1 : Nat) (Option.some Jvm.ClassFile.FieldType.byte)).before args0 about1 = true := code_word (m := ⟨7, 6⟩) (meth := k7m6) (c := k7c6) (by decide +kernel) rfl rfl rfl (by decide +kernel)
set_option maxRecDepth 65536 in
theorem w_c11 : (Jvm.Cond.code ({ cls := "java/lang/Math", name := "min", desc := "(II)I" } : Jvm.MethodName) jdk_29_method_69_code (2 : Nat) (Option.some Jvm.ClassFile.FieldType.int)).before args0 about1 = true := code_word (m := ⟨9, 1⟩) (meth := k9m1) (c := k9c1) (by decide +kernel) rfl rfl rfl (by decide +kernel)
set_option maxRecDepth 65536 in
theorem w_c12 : (Jvm.Cond.code ({ cls := "java/lang/Integer", name := "compare", desc := "(II)I" } : Jvm.MethodName) jdk_33_method_40_code (2 : Nat) (Option.some Jvm.ClassFile.FieldType.int)).before args0 about1 = true := code_word (m := ⟨11, 0⟩) (meth := k11m0) (c := k11c0) (by decide +kernel) rfl rfl rfl (by decide +kernel)
set_option maxRecDepth 65536 in
theorem w_c13 : (Jvm.Cond.code ({ cls := "com/example/rootward/rootward/model/ShortestPathTreeCompareCodePointsPinLaw", name := "sign", desc := "(I)I" } : Jvm.MethodName) method_3_code (1 : Nat) (Option.some Jvm.ClassFile.FieldType.int)).before args0 about1 = true := code_word (m := ⟨1, 2⟩) (meth := k1m2) (c := k1c2) (by decide +kernel) rfl rfl rfl (by decide +kernel)
set_option maxRecDepth 65536 in
theorem w_c14 : (Jvm.Cond.code ({ cls := "com/example/rootward/rootward/model/ShortestPathTreeCompareCodePointsPinLaw", name := "put", desc := "([CII)I" } : Jvm.MethodName) method_6_code (4 : Nat) (Option.some Jvm.ClassFile.FieldType.int)).before args0 about1 = true := code_word (m := ⟨1, 5⟩) (meth := k1m5) (c := k1c5) (by decide +kernel) rfl rfl rfl (by decide +kernel)
set_option maxRecDepth 65536 in
theorem w_c15 : (Jvm.Cond.code ({ cls := "java/lang/StringUTF16", name := "compress", desc := "([CII)[B" } : Jvm.MethodName) jdk_52_method_16_code (6 : Nat) (Option.some (Jvm.ClassFile.FieldType.array Jvm.ClassFile.FieldType.byte))).before args0 about1 = true := code_word (m := ⟨12, 10⟩) (meth := k12m10) (c := k12c10) (by decide +kernel) rfl rfl rfl (by decide +kernel)
set_option maxRecDepth 65536 in
theorem w_c16 : (Jvm.Cond.code ({ cls := "java/lang/StringUTF16", name := "compress", desc := "([CI[BII)I" } : Jvm.MethodName) jdk_52_method_21_code (7 : Nat) (Option.some Jvm.ClassFile.FieldType.int)).before args0 about1 = true := code_word (m := ⟨12, 11⟩) (meth := k12m11) (c := k12c11) (by decide +kernel) rfl rfl rfl (by decide +kernel)
set_option maxRecDepth 65536 in
theorem w_c17 : (Jvm.Cond.code ({ cls := "java/lang/StringUTF16", name := "coderFromArrayLen", desc := "([BI)B" } : Jvm.MethodName) jdk_52_method_15_code (2 : Nat) (Option.some Jvm.ClassFile.FieldType.byte)).before args0 about1 = true := code_word (m := ⟨12, 9⟩) (meth := k12m9) (c := k12c9) (by decide +kernel) rfl rfl rfl (by decide +kernel)
set_option maxRecDepth 65536 in
theorem w_c18 : (Jvm.Cond.code ({ cls := "java/lang/String", name := "charAt", desc := "(I)C" } : Jvm.MethodName) jdk_42_method_56_code (2 : Nat) (Option.some Jvm.ClassFile.FieldType.char)).before args0 about1 = true := code_word (m := ⟨7, 3⟩) (meth := k7m3) (c := k7c3) (by decide +kernel) rfl rfl rfl (by decide +kernel)
set_option maxRecDepth 65536 in
theorem w_c19 : (Jvm.Cond.code ({ cls := "java/lang/String", name := "isLatin1", desc := "()Z" } : Jvm.MethodName) jdk_42_method_154_code (1 : Nat) (Option.some Jvm.ClassFile.FieldType.boolean)).before args0 about1 = true := code_word (m := ⟨7, 7⟩) (meth := k7m7) (c := k7c7) (by decide +kernel) rfl rfl rfl (by decide +kernel)
set_option maxRecDepth 65536 in
theorem w_c20 : (Jvm.Cond.code ({ cls := "java/lang/StringLatin1", name := "charAt", desc := "([BI)C" } : Jvm.MethodName) jdk_43_method_2_code (2 : Nat) (Option.some Jvm.ClassFile.FieldType.char)).before args0 about1 = true := code_word (m := ⟨13, 1⟩) (meth := k13m1) (c := k13c1) (by decide +kernel) rfl rfl rfl (by decide +kernel)
set_option maxRecDepth 65536 in
theorem w_c21 : (Jvm.Cond.code ({ cls := "java/lang/String", name := "checkIndex", desc := "(II)V" } : Jvm.MethodName) jdk_42_method_155_code (2 : Nat) (Option.none : Option Jvm.ClassFile.FieldType)).before args0 about1 = true := code_word (m := ⟨7, 8⟩) (meth := k7m8) (c := k7c8) (by decide +kernel) rfl rfl rfl (by decide +kernel)
set_option maxRecDepth 65536 in
theorem w_c22 : (Jvm.Cond.code ({ cls := "jdk/internal/util/Preconditions", name := "checkIndex", desc := "(IILjava/util/function/BiFunction;)I" } : Jvm.MethodName) jdk_41_method_11_code (3 : Nat) (Option.some Jvm.ClassFile.FieldType.int)).before args0 about1 = true := code_word (m := ⟨14, 1⟩) (meth := k14m1) (c := k14c1) (by decide +kernel) rfl rfl rfl (by decide +kernel)
set_option maxRecDepth 65536 in
theorem w_c23 : (Jvm.Cond.code ({ cls := "java/lang/String", name := "codePointAt", desc := "(I)I" } : Jvm.MethodName) jdk_42_method_57_code (3 : Nat) (Option.some Jvm.ClassFile.FieldType.int)).before args0 about1 = true := code_word (m := ⟨7, 4⟩) (meth := k7m4) (c := k7c4) (by decide +kernel) rfl rfl rfl (by decide +kernel)
set_option maxRecDepth 65536 in
theorem w_c24 : (Jvm.Cond.code ({ cls := "java/lang/StringUTF16", name := "toBytes", desc := "([CII)[B" } : Jvm.MethodName) jdk_52_method_14_code (5 : Nat) (Option.some (Jvm.ClassFile.FieldType.array Jvm.ClassFile.FieldType.byte))).before args0 about1 = true := code_word (m := ⟨12, 8⟩) (meth := k12m8) (c := k12c8) (by decide +kernel) rfl rfl rfl (by decide +kernel)
set_option maxRecDepth 65536 in
theorem w_c25 : (Jvm.Cond.code ({ cls := "java/lang/StringUTF16", name := "newBytesFor", desc := "(I)[B" } : Jvm.MethodName) jdk_52_method_2_code (1 : Nat) (Option.some (Jvm.ClassFile.FieldType.array Jvm.ClassFile.FieldType.byte))).before args0 about1 = true := code_word (m := ⟨12, 1⟩) (meth := k12m1) (c := k12c1) (by decide +kernel) rfl rfl rfl (by decide +kernel)
set_option maxRecDepth 65536 in
theorem w_c26 : (Jvm.Cond.code ({ cls := "java/lang/StringUTF16", name := "newBytesLength", desc := "(I)I" } : Jvm.MethodName) jdk_52_method_3_code (1 : Nat) (Option.some Jvm.ClassFile.FieldType.int)).before args0 about1 = true := code_word (m := ⟨12, 2⟩) (meth := k12m2) (c := k12c2) (by decide +kernel) rfl rfl rfl (by decide +kernel)
set_option maxRecDepth 65536 in
theorem w_c27 : (Jvm.Cond.code ({ cls := "java/lang/StringUTF16", name := "putChar", desc := "([BII)V" } : Jvm.MethodName) jdk_52_method_4_code (3 : Nat) (Option.none : Option Jvm.ClassFile.FieldType)).before args0 about1 = true := code_word (m := ⟨12, 3⟩) (meth := k12m3) (c := k12c3) (by decide +kernel) rfl rfl rfl (by decide +kernel)
set_option maxRecDepth 65536 in
theorem w_c28 : (Jvm.Cond.code ({ cls := "java/lang/StringUTF16", name := "getChar", desc := "([BI)C" } : Jvm.MethodName) jdk_52_method_5_code (2 : Nat) (Option.some Jvm.ClassFile.FieldType.char)).before args0 about1 = true := code_word (m := ⟨12, 4⟩) (meth := k12m4) (c := k12c4) (by decide +kernel) rfl rfl rfl (by decide +kernel)
set_option maxRecDepth 65536 in
theorem w_c29 : (Jvm.Cond.code ({ cls := "java/lang/StringUTF16", name := "charAt", desc := "([BI)C" } : Jvm.MethodName) jdk_52_method_83_code (2 : Nat) (Option.some Jvm.ClassFile.FieldType.char)).before args0 about1 = true := code_word (m := ⟨12, 12⟩) (meth := k12m12) (c := k12c12) (by decide +kernel) rfl rfl rfl (by decide +kernel)
set_option maxRecDepth 65536 in
theorem w_c30 : (Jvm.Cond.code ({ cls := "java/lang/StringUTF16", name := "checkIndex", desc := "(I[B)V" } : Jvm.MethodName) jdk_52_method_91_code (2 : Nat) (Option.none : Option Jvm.ClassFile.FieldType)).before args0 about1 = true := code_word (m := ⟨12, 13⟩) (meth := k12m13) (c := k12c13) (by decide +kernel) rfl rfl rfl (by decide +kernel)
set_option maxRecDepth 65536 in
theorem w_c31 : (Jvm.Cond.code ({ cls := "java/lang/StringUTF16", name := "length", desc := "([B)I" } : Jvm.MethodName) jdk_52_method_6_code (1 : Nat) (Option.some Jvm.ClassFile.FieldType.int)).before args0 about1 = true := code_word (m := ⟨12, 5⟩) (meth := k12m5) (c := k12c5) (by decide +kernel) rfl rfl rfl (by decide +kernel)
set_option maxRecDepth 65536 in
theorem w_c32 : (Jvm.Cond.code ({ cls := "java/lang/StringUTF16", name := "codePointAt", desc := "([BII)I" } : Jvm.MethodName) jdk_52_method_8_code (3 : Nat) (Option.some Jvm.ClassFile.FieldType.int)).before args0 about1 = true := code_word (m := ⟨12, 7⟩) (meth := k12m7) (c := k12c7) (by decide +kernel) rfl rfl rfl (by decide +kernel)
set_option maxRecDepth 65536 in
theorem w_c33 : (Jvm.Cond.code ({ cls := "java/lang/StringUTF16", name := "codePointAt", desc := "([BIIZ)I" } : Jvm.MethodName) jdk_52_method_7_code (6 : Nat) (Option.some Jvm.ClassFile.FieldType.int)).before args0 about1 = true := code_word (m := ⟨12, 6⟩) (meth := k12m6) (c := k12c6) (by decide +kernel) rfl rfl rfl (by decide +kernel)
set_option maxRecDepth 65536 in
theorem w_c34 : (Jvm.Cond.code ({ cls := "java/lang/Character", name := "isHighSurrogate", desc := "(C)Z" } : Jvm.MethodName) jdk_89_method_14_code (1 : Nat) (Option.some Jvm.ClassFile.FieldType.boolean)).before args0 about1 = true := code_word (m := ⟨15, 0⟩) (meth := k15m0) (c := k15c0) (by decide +kernel) rfl rfl rfl (by decide +kernel)
set_option maxRecDepth 65536 in
theorem w_c35 : (Jvm.Cond.code ({ cls := "java/lang/Character", name := "isLowSurrogate", desc := "(C)Z" } : Jvm.MethodName) jdk_89_method_15_code (1 : Nat) (Option.some Jvm.ClassFile.FieldType.boolean)).before args0 about1 = true := code_word (m := ⟨15, 1⟩) (meth := k15m1) (c := k15c1) (by decide +kernel) rfl rfl rfl (by decide +kernel)
set_option maxRecDepth 65536 in
theorem w_c36 : (Jvm.Cond.code ({ cls := "java/lang/Character", name := "toCodePoint", desc := "(CC)I" } : Jvm.MethodName) jdk_89_method_19_code (2 : Nat) (Option.some Jvm.ClassFile.FieldType.int)).before args0 about1 = true := code_word (m := ⟨15, 2⟩) (meth := k15m2) (c := k15c2) (by decide +kernel) rfl rfl rfl (by decide +kernel)
def codes1 : List Jvm.Cond := [Jvm.Cond.code x code maxLocals ret, Jvm.Cond.code ({ cls := "com/example/rootward/rootward/model/ShortestPathTreeCompareCodePointsPinLaw", name := "scalar", desc := "(I)I" } : Jvm.MethodName) method_4_code (2 : Nat) (Option.some Jvm.ClassFile.FieldType.int), Jvm.Cond.code ({ cls := "com/example/rootward/rootward/model/ShortestPathTreeCompareCodePointsPinLaw", name := "encode", desc := "(III)Ljava/lang/String;" } : Jvm.MethodName) method_7_code (5 : Nat) (Option.some (Jvm.ClassFile.FieldType.object "java/lang/String")), Jvm.Cond.code ({ cls := "com/example/rootward/rootward/model/ShortestPathTreeCompareCodePointsPinLaw", name := "text", desc := "([CI)Ljava/lang/String;" } : Jvm.MethodName) method_8_code (2 : Nat) (Option.some (Jvm.ClassFile.FieldType.object "java/lang/String")), Jvm.Cond.code ({ cls := "java/lang/String", name := "<init>", desc := "([C)V" } : Jvm.MethodName) jdk_42_method_3_code (2 : Nat) (Option.none : Option Jvm.ClassFile.FieldType), Jvm.Cond.code ({ cls := "java/lang/String", name := "<init>", desc := "([CIILjava/lang/Void;)V" } : Jvm.MethodName) jdk_42_method_149_code (6 : Nat) (Option.none : Option Jvm.ClassFile.FieldType), Jvm.Cond.code ({ cls := "java/lang/Object", name := "<init>", desc := "()V" } : Jvm.MethodName) object_method_1_code (1 : Nat) (Option.none : Option Jvm.ClassFile.FieldType), Jvm.Cond.code ({ cls := "com/example/rootward/rootward/model/ShortestPathTreeCompareCodePointsPinLaw", name := "reference", desc := "(IIIIII)I" } : Jvm.MethodName) method_5_code (6 : Nat) (Option.some Jvm.ClassFile.FieldType.int), Jvm.Cond.code ({ cls := "com/example/rootward/rootward/model/ShortestPathTree", name := "compareCodePoints", desc := "(Ljava/lang/String;Ljava/lang/String;)I" } : Jvm.MethodName) prog_22_method_8_code (4 : Nat) (Option.some Jvm.ClassFile.FieldType.int), Jvm.Cond.code ({ cls := "java/lang/String", name := "length", desc := "()I" } : Jvm.MethodName) jdk_42_method_54_code (1 : Nat) (Option.some Jvm.ClassFile.FieldType.int), Jvm.Cond.code ({ cls := "java/lang/String", name := "coder", desc := "()B" } : Jvm.MethodName) jdk_42_method_152_code (1 : Nat) (Option.some Jvm.ClassFile.FieldType.byte), Jvm.Cond.code ({ cls := "java/lang/Math", name := "min", desc := "(II)I" } : Jvm.MethodName) jdk_29_method_69_code (2 : Nat) (Option.some Jvm.ClassFile.FieldType.int), Jvm.Cond.code ({ cls := "java/lang/Integer", name := "compare", desc := "(II)I" } : Jvm.MethodName) jdk_33_method_40_code (2 : Nat) (Option.some Jvm.ClassFile.FieldType.int), Jvm.Cond.code ({ cls := "com/example/rootward/rootward/model/ShortestPathTreeCompareCodePointsPinLaw", name := "sign", desc := "(I)I" } : Jvm.MethodName) method_3_code (1 : Nat) (Option.some Jvm.ClassFile.FieldType.int), Jvm.Cond.code ({ cls := "com/example/rootward/rootward/model/ShortestPathTreeCompareCodePointsPinLaw", name := "put", desc := "([CII)I" } : Jvm.MethodName) method_6_code (4 : Nat) (Option.some Jvm.ClassFile.FieldType.int), Jvm.Cond.code ({ cls := "java/lang/StringUTF16", name := "compress", desc := "([CII)[B" } : Jvm.MethodName) jdk_52_method_16_code (6 : Nat) (Option.some (Jvm.ClassFile.FieldType.array Jvm.ClassFile.FieldType.byte)), Jvm.Cond.code ({ cls := "java/lang/StringUTF16", name := "compress", desc := "([CI[BII)I" } : Jvm.MethodName) jdk_52_method_21_code (7 : Nat) (Option.some Jvm.ClassFile.FieldType.int), Jvm.Cond.code ({ cls := "java/lang/StringUTF16", name := "coderFromArrayLen", desc := "([BI)B" } : Jvm.MethodName) jdk_52_method_15_code (2 : Nat) (Option.some Jvm.ClassFile.FieldType.byte), Jvm.Cond.code ({ cls := "java/lang/String", name := "charAt", desc := "(I)C" } : Jvm.MethodName) jdk_42_method_56_code (2 : Nat) (Option.some Jvm.ClassFile.FieldType.char), Jvm.Cond.code ({ cls := "java/lang/String", name := "isLatin1", desc := "()Z" } : Jvm.MethodName) jdk_42_method_154_code (1 : Nat) (Option.some Jvm.ClassFile.FieldType.boolean), Jvm.Cond.code ({ cls := "java/lang/StringLatin1", name := "charAt", desc := "([BI)C" } : Jvm.MethodName) jdk_43_method_2_code (2 : Nat) (Option.some Jvm.ClassFile.FieldType.char), Jvm.Cond.code ({ cls := "java/lang/String", name := "checkIndex", desc := "(II)V" } : Jvm.MethodName) jdk_42_method_155_code (2 : Nat) (Option.none : Option Jvm.ClassFile.FieldType), Jvm.Cond.code ({ cls := "jdk/internal/util/Preconditions", name := "checkIndex", desc := "(IILjava/util/function/BiFunction;)I" } : Jvm.MethodName) jdk_41_method_11_code (3 : Nat) (Option.some Jvm.ClassFile.FieldType.int), Jvm.Cond.code ({ cls := "java/lang/String", name := "codePointAt", desc := "(I)I" } : Jvm.MethodName) jdk_42_method_57_code (3 : Nat) (Option.some Jvm.ClassFile.FieldType.int), Jvm.Cond.code ({ cls := "java/lang/StringUTF16", name := "toBytes", desc := "([CII)[B" } : Jvm.MethodName) jdk_52_method_14_code (5 : Nat) (Option.some (Jvm.ClassFile.FieldType.array Jvm.ClassFile.FieldType.byte)), Jvm.Cond.code ({ cls := "java/lang/StringUTF16", name := "newBytesFor", desc := "(I)[B" } : Jvm.MethodName) jdk_52_method_2_code (1 : Nat) (Option.some (Jvm.ClassFile.FieldType.array Jvm.ClassFile.FieldType.byte)), Jvm.Cond.code ({ cls := "java/lang/StringUTF16", name := "newBytesLength", desc := "(I)I" } : Jvm.MethodName) jdk_52_method_3_code (1 : Nat) (Option.some Jvm.ClassFile.FieldType.int), Jvm.Cond.code ({ cls := "java/lang/StringUTF16", name := "putChar", desc := "([BII)V" } : Jvm.MethodName) jdk_52_method_4_code (3 : Nat) (Option.none : Option Jvm.ClassFile.FieldType), Jvm.Cond.code ({ cls := "java/lang/StringUTF16", name := "getChar", desc := "([BI)C" } : Jvm.MethodName) jdk_52_method_5_code (2 : Nat) (Option.some Jvm.ClassFile.FieldType.char), Jvm.Cond.code ({ cls := "java/lang/StringUTF16", name := "charAt", desc := "([BI)C" } : Jvm.MethodName) jdk_52_method_83_code (2 : Nat) (Option.some Jvm.ClassFile.FieldType.char), Jvm.Cond.code ({ cls := "java/lang/StringUTF16", name := "checkIndex", desc := "(I[B)V" } : Jvm.MethodName) jdk_52_method_91_code (2 : Nat) (Option.none : Option Jvm.ClassFile.FieldType), Jvm.Cond.code ({ cls := "java/lang/StringUTF16", name := "length", desc := "([B)I" } : Jvm.MethodName) jdk_52_method_6_code (1 : Nat) (Option.some Jvm.ClassFile.FieldType.int), Jvm.Cond.code ({ cls := "java/lang/StringUTF16", name := "codePointAt", desc := "([BII)I" } : Jvm.MethodName) jdk_52_method_8_code (3 : Nat) (Option.some Jvm.ClassFile.FieldType.int), Jvm.Cond.code ({ cls := "java/lang/StringUTF16", name := "codePointAt", desc := "([BIIZ)I" } : Jvm.MethodName) jdk_52_method_7_code (6 : Nat) (Option.some Jvm.ClassFile.FieldType.int), Jvm.Cond.code ({ cls := "java/lang/Character", name := "isHighSurrogate", desc := "(C)Z" } : Jvm.MethodName) jdk_89_method_14_code (1 : Nat) (Option.some Jvm.ClassFile.FieldType.boolean), Jvm.Cond.code ({ cls := "java/lang/Character", name := "isLowSurrogate", desc := "(C)Z" } : Jvm.MethodName) jdk_89_method_15_code (1 : Nat) (Option.some Jvm.ClassFile.FieldType.boolean), Jvm.Cond.code ({ cls := "java/lang/Character", name := "toCodePoint", desc := "(CC)I" } : Jvm.MethodName) jdk_89_method_19_code (2 : Nat) (Option.some Jvm.ClassFile.FieldType.int)]
set_option maxRecDepth 65536 in
theorem codes_eq : words1.filter isCode = codes1 := rfl
theorem w_codes : ∀ c ∈ words1.filter isCode, c.before args0 about1 = true := by
  rw [codes_eq]
  intro c hc
  simp only [codes1, List.mem_cons, List.not_mem_nil, or_false] at hc
  rcases hc with rfl | rfl | rfl | rfl | rfl | rfl | rfl | rfl | rfl | rfl | rfl | rfl | rfl | rfl | rfl | rfl | rfl | rfl | rfl | rfl | rfl | rfl | rfl | rfl | rfl | rfl | rfl | rfl | rfl | rfl | rfl | rfl | rfl | rfl | rfl | rfl | rfl
  · exact w_c0
  · exact w_c1
  · exact w_c2
  · exact w_c3
  · exact w_c4
  · exact w_c5
  · exact w_c6
  · exact w_c7
  · exact w_c8
  · exact w_c9
  · exact w_c10
  · exact w_c11
  · exact w_c12
  · exact w_c13
  · exact w_c14
  · exact w_c15
  · exact w_c16
  · exact w_c17
  · exact w_c18
  · exact w_c19
  · exact w_c20
  · exact w_c21
  · exact w_c22
  · exact w_c23
  · exact w_c24
  · exact w_c25
  · exact w_c26
  · exact w_c27
  · exact w_c28
  · exact w_c29
  · exact w_c30
  · exact w_c31
  · exact w_c32
  · exact w_c33
  · exact w_c34
  · exact w_c35
  · exact w_c36
set_option maxRecDepth 65536 in
theorem w_t1 : (words1.take 24).all (fun c => isCode c || c.before args0 about1) = true := by decide +kernel
set_option maxRecDepth 65536 in
theorem w_t2 : ((words1.drop 24).take 24).all (fun c => isCode c || c.before args0 about1) = true := by decide +kernel
set_option maxRecDepth 65536 in
theorem w_t3 : (((words1.drop 24).drop 24).take 24).all (fun c => isCode c || c.before args0 about1) = true := by decide +kernel
set_option maxRecDepth 65536 in
theorem w_t4 : ((((words1.drop 24).drop 24).drop 24).take 24).all (fun c => isCode c || c.before args0 about1) = true := by decide +kernel
set_option maxRecDepth 65536 in
theorem w_t5 : (((((words1.drop 24).drop 24).drop 24).drop 24).take 24).all (fun c => isCode c || c.before args0 about1) = true := by decide +kernel
set_option maxRecDepth 65536 in
theorem w_t6 : ((((((words1.drop 24).drop 24).drop 24).drop 24).drop 24).take 24).all (fun c => isCode c || c.before args0 about1) = true := by decide +kernel
set_option maxRecDepth 65536 in
theorem w_t7 : ((((((words1.drop 24).drop 24).drop 24).drop 24).drop 24).drop 24).all (fun c => isCode c || c.before args0 about1) = true := by decide +kernel
theorem w_tables : (allAtoms (Jvm.Cond.code x code maxLocals ret :: tables_1)).before args0 about1 = true := by
  rw [allAtoms_all]
  show words1.all (fun c => c.before args0 about1) = true
  refine all_split ?_ w_codes
  rw [← List.take_append_drop 24 words1, List.all_append, w_t1, ← List.take_append_drop 24 (words1.drop 24), List.all_append, w_t2, ← List.take_append_drop 24 ((words1.drop 24).drop 24), List.all_append, w_t3, ← List.take_append_drop 24 (((words1.drop 24).drop 24).drop 24), List.all_append, w_t4, ← List.take_append_drop 24 ((((words1.drop 24).drop 24).drop 24).drop 24), List.all_append, w_t5, ← List.take_append_drop 24 (((((words1.drop 24).drop 24).drop 24).drop 24).drop 24), List.all_append, w_t6, w_t7]
  rfl
set_option maxRecDepth 65536 in
theorem w_rest : rest_1_c.before args0 about1 = true := by decide +kernel
set_option maxRecDepth 65536 in
theorem w_case : (Jvm.Cond.and given_1 narrow_1).before args0 about1 = true := by decide +kernel
set_option maxRecDepth 65536 in
theorem w_consts : constsHeld consts_1 about1 := Jvm.Lit.constsHeldB_iff.mp (by decide +kernel)
theorem w_applies : (headSpec (Jvm.Cond.code x code maxLocals ret :: tables_1) room_1).applies x e0.platform about1 = true :=
  (Spec.applies_iff w_frames).mpr ⟨w_running, w_runnable, w_alone, w_named, w_hears, w_ripe, w_room, w_tables⟩
theorem atStart : AtStart classFile x code maxLocals ret World_1 tables_1 room_1 Calls_1 rest_1 Pre_1 launch0 p0 e0 about1 theMethod args0 below0 :=
  ⟨lists_1, trivial, launch0.admits_env _ _ _, launch0.least_env, fairChoices_fair.cas, fairChoices_fair.clock, w_frames, w_args, w_heap, w_applies, ⟨w_consts, trivial⟩, w_rest, w_case⟩
end start1
theorem witness_1 : WitnessClaimed_1 := ⟨start1.p0, start1.e0, start1.about1, start1.theMethod, start1.args0, start1.below0, start1.atStart⟩
end Jvm.Pilot.@@N@@
