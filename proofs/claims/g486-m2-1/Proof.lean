import JvmDerived
import JvmDerived.Pilot.@@N@@Statement
import JvmDerived.Pilot.@@N@@Code
set_option linter.unusedVariables false
set_option linter.unusedSimpArgs false
/- laws to paste: Road.backV, Road.chN, Road.eqW, Road.codOf (cut by pick.py; bodies as the Statement names them) -/
namespace Jvm.Pilot.@@N@@
namespace StrChars
open Jvm Sem ClassFile Op Lib Jvm.Stand Jvm.Free.XT Jvm.Free.ALB Jvm.Free.JM Jvm.Free
open Jvm.Lib.Cold (StaticIs)
/-- a char array whose places are chars -/
def Ch (a : Addr) (A : Cell) (U : State) : Prop := Arr .char a A U ∧ Typed .char A
theorem Ch.mv {a : Addr} {A : Cell} {U U' : State} (h : Ch a A U) (hal : U.vm.Alike U'.vm) (hh : U'.heap = U.heap) : Ch a A U' := ⟨h.1.mv hal hh, h.2⟩
theorem Ch.keep {a : Addr} {A : Cell} {U U' : State} (h : Ch a A U) (hal : U.vm.Alike U'.vm) (hk : U'.heap[a]? = some A) : Ch a A U' := ⟨h.1.keep hal hk, h.2⟩
/-- what place i of a char[]'s cell holds -/
def cv (A : Cell) (i : Nat) : Int32 := match A.slots[i]? with | some (.int x) => x | _ => 0
theorem Ch.get {a : Addr} {A : Cell} {U : State} (h : Ch a A U) {i : Nat} (hi : i < A.slots.size) : A.slots[i]? = some (.int (cv A i)) := by
  have e := Array.getElem?_eq_getElem hi
  have f := h.2 i _ e
  unfold cv; rw [e]
  generalize A.slots[i] = v at f
  cases v <;> simp [fits] at f ⊢
/-- the byte that i2b leaves of a char -/
def lo8 (x : Int32) : Int32 := x.toInt8.toInt32
theorem fits_lo8 (y : Int32) : fits .byte (.int (lo8 y)) = true := by
  have h1 := y.toInt8.le_toInt
  have h2 := y.toInt8.toInt_lt
  simp only [lo8, fits, Bool.and_eq_true, decide_eq_true_eq, Int32.le_iff_toInt_le, Int8.toInt_toInt32, show (-128 : Int32).toInt = -128 from by decide, show (127 : Int32).toInt = 127 from by decide]
  omega
/-- A' is A but that each place j of lo .. hi - 1 holds f j -/
def Laid (A A' : Cell) (lo hi : Nat) (f : Nat → Value) : Prop := A'.cls = A.cls ∧ A'.vm = A.vm ∧ A'.slots.size = A.slots.size ∧ ∀ i, A'.slots[i]? = if lo ≤ i ∧ i < hi then some (f i) else A.slots[i]?
theorem Laid.zero (A : Cell) (lo : Nat) (f : Nat → Value) : Laid A A lo (lo + 0) f := ⟨rfl, rfl, rfl, fun i => by rw [if_neg (by omega)]⟩
theorem Laid.step {A Ak : Cell} {lo k : Nat} {f : Nat → Value} {v : Value} (h : Laid A Ak lo k f) (hlo : lo ≤ k) (hk : k < Ak.slots.size) (hv : v = f k) : Laid A (Ak.setSlot k v) lo (k + 1) f := by
  refine ⟨h.1, h.2.1, by simpa [Cell.setSlot] using h.2.2.1, fun i => ?_⟩
  by_cases e : k = i
  · subst e; rw [Cell.slots_setSlot_self v hk, if_pos (by omega), hv]
  · rw [Cell.slots_setSlot_ne v e, h.2.2.2 i]
    by_cases q : lo ≤ i ∧ i < k
    · rw [if_pos q, if_pos (by omega)]
    · rw [if_neg q, if_neg (by omega)]
def U16 : String := "java/lang/StringUTF16"
namespace Cmp5
def yN : MethodName := ⟨"java/lang/StringUTF16", "compress", "([CI[BII)I"⟩
abbrev yB : ByteArray := jdk_52_method_21_code
theorem d0 : decode yB 0 = .ok (.iconst 0, 1) := by decide +kernel
theorem d1 : decode yB 1 = .ok (.istore 5, 2) := by decide +kernel
theorem d3 : decode yB 3 = .ok (.iload 5, 2) := by decide +kernel
theorem d5 : decode yB 5 = .ok (.iload 4, 2) := by decide +kernel
theorem d7 : decode yB 7 = .ok (.if_icmp (.ge) 37, 3) := by decide +kernel
theorem d10 : decode yB 10 = .ok (.aload_n 0, 1) := by decide +kernel
theorem d11 : decode yB 11 = .ok (.iload_n 1, 1) := by decide +kernel
theorem d12 : decode yB 12 = .ok (.caload, 1) := by decide +kernel
theorem d13 : decode yB 13 = .ok (.istore 6, 2) := by decide +kernel
theorem d15 : decode yB 15 = .ok (.iload 6, 2) := by decide +kernel
theorem d17 : decode yB 17 = .ok (.sipush 255, 3) := by decide +kernel
theorem d20 : decode yB 20 = .ok (.if_icmp (.le) 6, 3) := by decide +kernel
theorem d26 : decode yB 26 = .ok (.aload_n 2, 1) := by decide +kernel
theorem d27 : decode yB 27 = .ok (.iload_n 3, 1) := by decide +kernel
theorem d28 : decode yB 28 = .ok (.iload 6, 2) := by decide +kernel
theorem d30 : decode yB 30 = .ok (.i2b, 1) := by decide +kernel
theorem d31 : decode yB 31 = .ok (.bastore, 1) := by decide +kernel
theorem d32 : decode yB 32 = .ok (.iinc 1 1, 3) := by decide +kernel
theorem d35 : decode yB 35 = .ok (.iinc 3 1, 3) := by decide +kernel
theorem d38 : decode yB 38 = .ok (.iinc 5 1, 3) := by decide +kernel
theorem d41 : decode yB 41 = .ok (.goto (-38), 3) := by decide +kernel
theorem d44 : decode yB 44 = .ok (.iload 4, 2) := by decide +kernel
theorem d46 : decode yB 46 = .ok (.ireturn, 1) := by decide +kernel
def site : List Cond := []
def tab : Cond := tabOf yN yB 7 (some .int) site
def P (b : Addr) (A : Cell) (d : Addr) (B : Cell) (o q len : Nat) (args : Array Value) (s : State) : Prop := args = #[.ref b, .int (Int32.ofNat o), .ref d, .int (Int32.ofNat q), .int (Int32.ofNat len)] ∧ Ch b A s ∧ Arr .byte d B s ∧ b ≠ d ∧ o + len ≤ A.slots.size ∧ q + len ≤ B.slots.size ∧ ∀ i, i < len → ¬ 255 < cv A (o + i)
def E (b : Addr) (A : Cell) (d : Addr) (B : Cell) (o q len : Nat) (r : Option Value) (s u : State) : Prop := r = some (.int (Int32.ofNat len)) ∧ ∃ B', Put d B' s u ∧ Laid B B' q (q + len) (fun j => Value.int (lo8 (cv A (o + (j - q)))))
/-- no char of the range above 255: len; the places written hold each char's low byte -/
theorem law (l : Launch) (b : Addr) (A : Cell) (d : Addr) (B : Cell) (o q len : Nat) : Law l yN 5 5 0 0 yB 7 (some .int) site (P b A d B o q len) (E b A d B o q len) (copyLocs d q len) 0 0 := by
  refine Law.of_walk (plainFor_of_name (by decide +kernel)) (by decide +kernel) (by decide +kernel) (by decide) (fun _ _ h => by rw [h.1]; rfl) (fun _ U U' hal hh h => ⟨h.1, h.2.1.mv hal hh, h.2.2.1.mv hal hh, h.2.2.2⟩) (fun r U U' V V' h1 hal h2 h => ⟨h.1, h.2.elim fun B' q => ⟨B', q.1.mv h1 h2, q.2⟩⟩) ?_
  intro p e s m args below meth c s₁ X0 hexec hbytes hml hret hlk hnm hown hh0 W hP
  obtain ⟨rfl, hA, hB, hne, l1, l2, hp⟩ := hP
  have c1 : Steps p.tables e below (s₁.setTop (entryFrame m #[.ref b, .int (Int32.ofNat o), .ref d, .int (Int32.ofNat q), .int (Int32.ofNat len)] 7)) (s₁.setTop (mkF m 0 #[.val (.ref b), .val (.int (Int32.ofNat o)), .val (.ref d), .val (.int (Int32.ofNat q)), .val (.int (Int32.ofNat len)), .unset, .unset] [])) := entry rfl
  have hA0 := hA.1.mv X0.warmed.alike hh0
  have hB0 := hB.mv X0.warmed.alike hh0
  have a31 := hA.1.2.2.2
  have c2 : Steps p.tables e below (s₁.setTop (entryFrame m #[.ref b, .int (Int32.ofNat o), .ref d, .int (Int32.ofNat q), .int (Int32.ofNat len)] 7)) (s₁.setTop (mkF m 3 #[.val (.ref b), .val (.int (Int32.ofNat o)), .val (.ref d), .val (.int (Int32.ofNat q)), .val (.int (Int32.ofNat len)), .val (.int 0), .unset] [])) := c1.trans (by
    refine iconstV X0.here hexec rfl 0 (hb hbytes d0) (by decide) ?_
    refine XS.istore X0.here hexec rfl (hb hbytes d1) rfl rfl ?_
    exact Steps.refl _)
  have loop : ∀ (r i : Nat), i + r = len → ∀ (z : Slot), (z = .unset ∨ ∃ w, z = .val w ∧ w.category = 1) → ∀ (Tl : State) (Bk : Cell), Stand p l e { frames := 0, locals := 0, cells := 0, slots := 0 } s m #[.ref b, .int (Int32.ofNat o), .ref d, .int (Int32.ofNat q), .int (Int32.ofNat len)] below meth c Tl ([] ++ copyLocs d q i) 0 0 → Put d Bk s₁ Tl → Laid B Bk q (q + i) (fun j => Value.int (lo8 (cv A (o + (j - q))))) →
      Steps p.tables e below (s₁.setTop (entryFrame m #[.ref b, .int (Int32.ofNat o), .ref d, .int (Int32.ofNat q), .int (Int32.ofNat len)] 7)) (Tl.setTop (mkF m 3 #[.val (.ref b), .val (.int (Int32.ofNat (o + i))), .val (.ref d), .val (.int (Int32.ofNat (q + i))), .val (.int (Int32.ofNat len)), .val (.int (Int32.ofNat i)), z] [])) → ∃ (T' : State) (B' : Cell) (z' : Slot), Stand p l e { frames := 0, locals := 0, cells := 0, slots := 0 } s m #[.ref b, .int (Int32.ofNat o), .ref d, .int (Int32.ofNat q), .int (Int32.ofNat len)] below meth c T' ([] ++ copyLocs d q len) 0 0 ∧ Put d B' s₁ T' ∧ Laid B B' q (q + len) (fun j => Value.int (lo8 (cv A (o + (j - q))))) ∧
      Steps p.tables e below (s₁.setTop (entryFrame m #[.ref b, .int (Int32.ofNat o), .ref d, .int (Int32.ofNat q), .int (Int32.ofNat len)] 7)) (T'.setTop (mkF m 3 #[.val (.ref b), .val (.int (Int32.ofNat (o + len))), .val (.ref d), .val (.int (Int32.ofNat (q + len))), .val (.int (Int32.ofNat len)), .val (.int (Int32.ofNat len)), z'] [])) := by
    intro r
    induction r with
    | zero =>
      intro i hi z hz Tl Bk Xl pl fl cl
      have hil : i = len := by omega
      rw [hil] at Xl fl cl
      exact ⟨Tl, Bk, z, Xl, pl, fl, cl⟩
    | succ r ih =>
      intro i hi z hz Tl Bk Xl pl fl cl
      have all := X0.warmed.alike.symm.trans Xl.warmed.alike
      have hAl := hA0.keep all (pl.other hne hA0.1)
      have hBk := hB0.like all pl.1 fl.1 fl.2.1 fl.2.2.1
      have hlt : q + i < Bk.slots.size := by rw [fl.2.2.1]; omega
      have c3 : Steps p.tables e below (s₁.setTop (entryFrame m #[.ref b, .int (Int32.ofNat o), .ref d, .int (Int32.ofNat q), .int (Int32.ofNat len)] 7)) (Tl.setTop (mkF m 12 #[.val (.ref b), .val (.int (Int32.ofNat (o + i))), .val (.ref d), .val (.int (Int32.ofNat (q + i))), .val (.int (Int32.ofNat len)), .val (.int (Int32.ofNat i)), z] [.int (Int32.ofNat (o + i)), .ref b])) := cl.trans (by
        refine XS.iload Xl.here hexec rfl (hb hbytes d3) rfl ?_
        refine XS.iload Xl.here hexec rfl (hb hbytes d5) rfl ?_
        refine XS.icmpNo Xl.here hexec rfl (hb hbytes d7) rfl (ii_ge_f (lt32 (by omega) (by omega))) ?_
        refine XS.aloadN Xl.here hexec rfl (hb hbytes d10) rfl rfl ?_
        refine XS.iloadN Xl.here hexec rfl (hb hbytes d11) rfl ?_
        exact Steps.refl _)
      have c4 : Steps p.tables e below (s₁.setTop (entryFrame m #[.ref b, .int (Int32.ofNat o), .ref d, .int (Int32.ofNat q), .int (Int32.ofNat len)] 7)) (Tl.setTop (mkF m 13 #[.val (.ref b), .val (.int (Int32.ofNat (o + i))), .val (.ref d), .val (.int (Int32.ofNat (q + i))), .val (.int (Int32.ofNat len)), .val (.int (Int32.ofNat i)), z] [.int (cv A (o + i))])) := c3.trans (by
        refine Xl.aget hexec hAl rfl (hA.get (i := o + i) (by omega)) rfl rfl (hb hbytes d12) ?_
        exact Steps.refl _)
      have c5 : Steps p.tables e below (s₁.setTop (entryFrame m #[.ref b, .int (Int32.ofNat o), .ref d, .int (Int32.ofNat q), .int (Int32.ofNat len)] 7)) (Tl.setTop (mkF m 15 #[.val (.ref b), .val (.int (Int32.ofNat (o + i))), .val (.ref d), .val (.int (Int32.ofNat (q + i))), .val (.int (Int32.ofNat len)), .val (.int (Int32.ofNat i)), .val (.int (cv A (o + i)))] [])) := c4.trans (by
        refine XS.istoreS Xl.here hexec rfl (hb hbytes d13) rfl rfl hz ?_
        exact Steps.refl _)
      have c6 : Steps p.tables e below (s₁.setTop (entryFrame m #[.ref b, .int (Int32.ofNat o), .ref d, .int (Int32.ofNat q), .int (Int32.ofNat len)] 7)) (Tl.setTop (mkF m 31 #[.val (.ref b), .val (.int (Int32.ofNat (o + i))), .val (.ref d), .val (.int (Int32.ofNat (q + i))), .val (.int (Int32.ofNat len)), .val (.int (Int32.ofNat i)), .val (.int (cv A (o + i)))] [.int (lo8 (cv A (o + i))), .int (Int32.ofNat (q + i)), .ref d])) := c5.trans (by
        refine XS.iload Xl.here hexec rfl (hb hbytes d15) rfl ?_
        refine sipushV Xl.here hexec rfl 255 (hb hbytes d17) (by decide) ?_
        refine XS.icmpYes Xl.here hexec rfl (pc0 := 20) rfl (hb hbytes d20) rfl (ii_le_t (hp i (by omega))) (by decide) rfl ?_
        refine XS.aloadN Xl.here hexec rfl (hb hbytes d26) rfl rfl ?_
        refine XS.iloadN Xl.here hexec rfl (hb hbytes d27) rfl ?_
        refine XS.iload Xl.here hexec rfl (hb hbytes d28) rfl ?_
        refine i2b Xl.here hexec rfl (hb hbytes d30) rfl ?_
        exact Steps.refl _)
      obtain ⟨T7, X7, p7, st7⟩ := Xl.aput hexec hBk rfl hlt rfl (fits_lo8 (cv A (o + i))) (g := (mkF m 31 #[.val (.ref b), .val (.int (Int32.ofNat (o + i))), .val (.ref d), .val (.int (Int32.ofNat (q + i))), .val (.int (Int32.ofNat len)), .val (.int (Int32.ofNat i)), .val (.int (cv A (o + i)))] [.int (lo8 (cv A (o + i))), .int (Int32.ofNat (q + i)), .ref d])) rfl (rest := []) rfl (hb hbytes d31)
      have c8 : Steps p.tables e below (s₁.setTop (entryFrame m #[.ref b, .int (Int32.ofNat o), .ref d, .int (Int32.ofNat q), .int (Int32.ofNat len)] 7)) (T7.setTop (mkF m 32 #[.val (.ref b), .val (.int (Int32.ofNat (o + i))), .val (.ref d), .val (.int (Int32.ofNat (q + i))), .val (.int (Int32.ofNat len)), .val (.int (Int32.ofNat i)), .val (.int (cv A (o + i)))] [])) := c6.trans (st7 _ (Steps.refl _))
      have c9 : Steps p.tables e below (s₁.setTop (entryFrame m #[.ref b, .int (Int32.ofNat o), .ref d, .int (Int32.ofNat q), .int (Int32.ofNat len)] 7)) (T7.setTop (mkF m 3 #[.val (.ref b), .val (.int (Int32.ofNat (o + i) + 1)), .val (.ref d), .val (.int (Int32.ofNat (q + i) + 1)), .val (.int (Int32.ofNat len)), .val (.int (Int32.ofNat i + 1)), .val (.int (cv A (o + i)))] [])) := c8.trans (by
        refine iincV X7.here hexec rfl 1 (hb hbytes d32) (by decide) rfl rfl ?_
        refine iincV X7.here hexec rfl 1 (hb hbytes d35) (by decide) rfl rfl ?_
        refine iincV X7.here hexec rfl 1 (hb hbytes d38) (by decide) rfl rfl ?_
        refine XS.goto X7.here hexec rfl (pc0 := 41) rfl (hb hbytes d41) (by decide) rfl ?_
        exact Steps.refl _)
      have c10 : Steps p.tables e below (s₁.setTop (entryFrame m #[.ref b, .int (Int32.ofNat o), .ref d, .int (Int32.ofNat q), .int (Int32.ofNat len)] 7)) (T7.setTop (mkF m 3 #[.val (.ref b), .val (.int (Int32.ofNat (o + (i + 1)))), .val (.ref d), .val (.int (Int32.ofNat (q + (i + 1)))), .val (.int (Int32.ofNat len)), .val (.int (Int32.ofNat (i + 1))), .val (.int (cv A (o + i)))] [])) := by
        have := c9
        rw [succ32, succ32, succ32] at this
        exact this
      exact ih (i + 1) (by omega) _ (Or.inr ⟨_, rfl, rfl⟩) T7 _ (by rw [copyLocs_step, ← List.append_assoc]; exact X7) (pl.trans p7) (fl.step (by omega) hlt (by simp)) c10
  obtain ⟨T9, B9, z9, X9, p9, f9, g9⟩ := loop len 0 (by omega) .unset (Or.inl rfl) s₁ B (by simpa [copyLocs] using X0) ⟨hB0.1, fun _ _ => rfl, rfl⟩ (Laid.zero _ _ _) c2
  have c11 : Steps p.tables e below (s₁.setTop (entryFrame m #[.ref b, .int (Int32.ofNat o), .ref d, .int (Int32.ofNat q), .int (Int32.ofNat len)] 7)) (T9.setTop (mkF m 46 #[.val (.ref b), .val (.int (Int32.ofNat (o + len))), .val (.ref d), .val (.int (Int32.ofNat (q + len))), .val (.int (Int32.ofNat len)), .val (.int (Int32.ofNat len)), z9] [.int (Int32.ofNat len)])) := g9.trans (by
    refine XS.iload X9.here hexec rfl (hb hbytes d3) rfl ?_
    refine XS.iload X9.here hexec rfl (hb hbytes d5) rfl ?_
    refine XS.icmpYes X9.here hexec rfl (pc0 := 7) rfl (hb hbytes d7) rfl (ii_ge_t (nlt32 (by omega) (Nat.le_refl _))) (by decide) rfl ?_
    refine XS.iload X9.here hexec rfl (hb hbytes d44) rfl ?_
    exact Steps.refl _)
  exact ⟨T9, some (.int (Int32.ofNat len)), _, _, _, X9, by simp, rfl, rfl, (fun h => by cases h), ⟨rfl, B9, p9.from hh0, f9⟩, fun fs hl => c11.trans (X9.ireturnOut hexec hret rfl (Or.inl rfl) (hb hbytes d46) hl)⟩
end Cmp5
namespace Cmp3
def yN : MethodName := ⟨"java/lang/StringUTF16", "compress", "([CII)[B"⟩
abbrev yB : ByteArray := jdk_52_method_16_code
theorem d0 : decode yB 0 = .ok (.iload_n 2, 1) := by decide +kernel
theorem d1 : decode yB 1 = .ok (.newarray .byte, 2) := by decide +kernel
theorem d3 : decode yB 3 = .ok (.astore_n 3, 1) := by decide +kernel
theorem d4 : decode yB 4 = .ok (.aload_n 0, 1) := by decide +kernel
theorem d5 : decode yB 5 = .ok (.iload_n 1, 1) := by decide +kernel
theorem d6 : decode yB 6 = .ok (.aload_n 3, 1) := by decide +kernel
theorem d7 : decode yB 7 = .ok (.iconst 0, 1) := by decide +kernel
theorem d8 : decode yB 8 = .ok (.iload_n 2, 1) := by decide +kernel
theorem d9 : decode yB 9 = .ok (.invokestatic 115, 3) := by decide +kernel
theorem d12 : decode yB 12 = .ok (.istore 4, 2) := by decide +kernel
theorem d14 : decode yB 14 = .ok (.iload 4, 2) := by decide +kernel
theorem d16 : decode yB 16 = .ok (.iload_n 2, 1) := by decide +kernel
theorem d17 : decode yB 17 = .ok (.if_icmp (.eq) 40, 3) := by decide +kernel
theorem d57 : decode yB 57 = .ok (.aload_n 3, 1) := by decide +kernel
theorem d58 : decode yB 58 = .ok (.areturn, 1) := by decide +kernel
def site : List Cond := [.arrayClass .byte, Cmp5.tab] ++ staticW U16 115 Cmp5.yN
def tab : Cond := tabOf yN yB 6 (some (.array .byte)) site
def P (b : Addr) (A : Cell) (o len : Nat) (args : Array Value) (s : State) : Prop := args = #[.ref b, .int (Int32.ofNat o), .int (Int32.ofNat len)] ∧ Ch b A s ∧ o + len ≤ A.slots.size ∧ len ≤ 536870912 ∧ ∀ i, i < len → ¬ 255 < cv A (o + i)
def E (b : Addr) (A : Cell) (o len : Nat) (r : Option Value) (s u : State) : Prop := NewArr .byte "[B" len (fun j => .int (lo8 (cv A (o + j)))) r s u ∧ u.heap.size = s.heap.size + 1
/-- no char of the range above 255: a new byte[] of their low bytes -/
theorem law (l : Launch) (b : Addr) (A : Cell) (o len : Nat) : Law l yN 3 3 1 18 yB 6 (some (.array .byte)) site (P b A o len) (E b A o len) [] 1 len := by
  refine Law.of_walk (plainFor_of_name (by decide +kernel)) (by decide +kernel) (by decide +kernel) (by decide) (fun _ _ h => by rw [h.1]; rfl) (fun _ U U' hal hh h => ⟨h.1, h.2.1.mv hal hh, h.2.2⟩) (fun r U U' V V' h1 hal h2 h => ⟨NewArr.mv r U U' V V' h1 hal h2 h.1, by rw [h1, h2]; exact h.2⟩) ?_
  intro p e s m args below meth c s₁ X0 hexec hbytes hml hret hlk hnm hown hh0 W hP
  obtain ⟨rfl, hA, l1, l2, hp⟩ := hP
  have a31 := hA.1.2.2.2
  have c1 : Steps p.tables e below (s₁.setTop (entryFrame m #[.ref b, .int (Int32.ofNat o), .int (Int32.ofNat len)] 6)) (s₁.setTop (mkF m 0 #[.val (.ref b), .val (.int (Int32.ofNat o)), .val (.int (Int32.ofNat len)), .unset, .unset, .unset] [])) := entry rfl
  have c2 : Steps p.tables e below (s₁.setTop (entryFrame m #[.ref b, .int (Int32.ofNat o), .int (Int32.ofNat len)] 6)) (s₁.setTop (mkF m 1 #[.val (.ref b), .val (.int (Int32.ofNat o)), .val (.int (Int32.ofNat len)), .unset, .unset, .unset] [.int (Int32.ofNat len)])) := c1.trans (by
    refine XS.iloadN X0.here hexec rfl (hb hbytes d0) rfl ?_
    exact Steps.refl _)
  obtain ⟨T3, B3, X3, ba3, bs3, bv3, bh3, bf3, st3⟩ := X0.anew hexec (atype := .byte) (wk W (.arrayClass .byte)) rfl (by show len * 1 ≤ _; omega) (by omega) (g := (mkF m 1 #[.val (.ref b), .val (.int (Int32.ofNat o)), .val (.int (Int32.ofNat len)), .unset, .unset, .unset] [.int (Int32.ofNat len)])) rfl (hb hbytes d1) (rest := []) rfl (Nat.le_refl _) (by show 0 + len ≤ len; omega)
  rw [hh0] at ba3 st3
  have kp3 : XT.Kept s T3 := (XT.Kept.of_eq hh0).push bh3
  have hA3 := hA.keep X3.warmed.alike (kp3 _ _ hA.1.1)
  have hne : b ≠ s.heap.size := hA.1.ne
  have c4 : Steps p.tables e below (s₁.setTop (entryFrame m #[.ref b, .int (Int32.ofNat o), .int (Int32.ofNat len)] 6)) (T3.setTop (mkF m 3 #[.val (.ref b), .val (.int (Int32.ofNat o)), .val (.int (Int32.ofNat len)), .unset, .unset, .unset] [.ref s.heap.size])) := c2.trans (st3 _ (Steps.refl _))
  have c5 : Steps p.tables e below (s₁.setTop (entryFrame m #[.ref b, .int (Int32.ofNat o), .int (Int32.ofNat len)] 6)) (T3.setTop (mkF m 9 #[.val (.ref b), .val (.int (Int32.ofNat o)), .val (.int (Int32.ofNat len)), .val (.ref s.heap.size), .unset, .unset] [.int (Int32.ofNat len), .int 0, .ref s.heap.size, .int (Int32.ofNat o), .ref b])) := c4.trans (by
    refine XS.astoreN X3.here hexec rfl (hb hbytes d3) rfl rfl rfl ?_
    refine XS.aloadN X3.here hexec rfl (hb hbytes d4) rfl rfl ?_
    refine XS.iloadN X3.here hexec rfl (hb hbytes d5) rfl ?_
    refine XS.aloadN X3.here hexec rfl (hb hbytes d6) rfl rfl ?_
    refine iconstV X3.here hexec rfl 0 (hb hbytes d7) (by decide) ?_
    refine XS.iloadN X3.here hexec rfl (hb hbytes d8) rfl ?_
    exact Steps.refl _)
  obtain ⟨v6, T6, X6, E6, g6⟩ := X3.callS hexec (Cmp5.law l b A s.heap.size B3 o 0 len) hown (wks W (staticW U16 115 Cmp5.yN)) (wk W Cmp5.tab) (W := 0) (Nat.le_of_ble_eq_true rfl) (Nat.le_of_ble_eq_true rfl) (Nat.le_refl _) (by show 0 + len + 0 ≤ len; omega) (g := (mkF m 9 #[.val (.ref b), .val (.int (Int32.ofNat o)), .val (.int (Int32.ofNat len)), .val (.ref s.heap.size), .unset, .unset] [.int (Int32.ofNat len), .int (Int32.ofNat 0), .ref s.heap.size, .int (Int32.ofNat o), .ref b])) rfl (by rw [hml]; rfl) c5 (argsL := [.ref b, .int (Int32.ofNat o), .ref s.heap.size, .int (Int32.ofNat 0), .int (Int32.ofNat len)]) (rest := []) rfl rfl (by show 2 * 0 + 0 ≤ _; decide) (hb hbytes d9) (⟨rfl, hA3, ba3, hne, l1, by rw [bs3]; simp, hp⟩)
  obtain ⟨rfl, B6, p6, f6⟩ := E6
  have c7 : Steps p.tables e below (s₁.setTop (entryFrame m #[.ref b, .int (Int32.ofNat o), .int (Int32.ofNat len)] 6)) (T6.setTop (mkF m 12 #[.val (.ref b), .val (.int (Int32.ofNat o)), .val (.int (Int32.ofNat len)), .val (.ref s.heap.size), .unset, .unset] [.int (Int32.ofNat len)])) := g6
  have c8 : Steps p.tables e below (s₁.setTop (entryFrame m #[.ref b, .int (Int32.ofNat o), .int (Int32.ofNat len)] 6)) (T6.setTop (mkF m 58 #[.val (.ref b), .val (.int (Int32.ofNat o)), .val (.int (Int32.ofNat len)), .val (.ref s.heap.size), .val (.int (Int32.ofNat len)), .unset] [.ref s.heap.size])) := c7.trans (by
    refine XS.istore X6.here hexec rfl (hb hbytes d12) rfl rfl ?_
    refine XS.iload X6.here hexec rfl (hb hbytes d14) rfl ?_
    refine XS.iloadN X6.here hexec rfl (hb hbytes d16) rfl ?_
    refine XS.icmpYes X6.here hexec rfl (pc0 := 17) rfl (hb hbytes d17) rfl (ii_eq_t rfl) (by decide) rfl ?_
    refine XS.aloadN X6.here hexec rfl (hb hbytes d57) rfl rfl ?_
    exact Steps.refl _)
  have X8 := X6.wide (L' := []) (cells' := 1) (slots' := len) (fun x hx hlt => by
    simp only [List.nil_append, copyLocs, List.mem_map, List.mem_range] at hx
    obtain ⟨i, -, rfl⟩ := hx
    exact absurd hlt (Nat.lt_irrefl _)) (Nat.le_refl _) (by omega)
  exact ⟨T6, some (.ref s.heap.size), _, _, _, X8, rfl, rfl, rfl, (fun h => by cases h), ⟨⟨rfl, B6, ba3.like (X3.warmed.alike.symm.trans X6.warmed.alike) p6.1 f6.1 f6.2.1 f6.2.2.1, f6.2.1.trans bv3, by rw [X6.warmed.alike.findClass, f6.1]; exact bf3, by rw [f6.2.2.1, bs3]; simp, fun j hj => by rw [f6.2.2.2 j, if_pos (by omega)]; rfl, kp3.put p6 (Nat.le_refl _)⟩, by rw [p6.2.2, bh3, hh0]; simp⟩, fun fs hl => c8.trans (X8.areturnOut hexec rfl hret rfl (hb hbytes d58) hl)⟩
end Cmp3
namespace CodL
def yN : MethodName := ⟨"java/lang/StringUTF16", "coderFromArrayLen", "([BI)B"⟩
abbrev yB : ByteArray := jdk_52_method_15_code
theorem d0 : decode yB 0 = .ok (.iload_n 1, 1) := by decide +kernel
theorem d1 : decode yB 1 = .ok (.aload_n 0, 1) := by decide +kernel
theorem d2 : decode yB 2 = .ok (.arraylength, 1) := by decide +kernel
theorem d3 : decode yB 3 = .ok (.isub, 1) := by decide +kernel
theorem d4 : decode yB 4 = .ok (.bipush 31, 2) := by decide +kernel
theorem d6 : decode yB 6 = .ok (.iushr, 1) := by decide +kernel
theorem d7 : decode yB 7 = .ok (.i2b, 1) := by decide +kernel
theorem d8 : decode yB 8 = .ok (.ireturn, 1) := by decide +kernel
def site : List Cond := []
def tab : Cond := tabOf yN yB 2 (some .byte) site
def P (d : Addr) (B : Cell) (args : Array Value) (s : State) : Prop := args = #[.ref d, .int (Int32.ofNat B.slots.size)] ∧ Arr .byte d B s
def E (r : Option Value) (s u : State) : Prop := XT.PureE (some (.int 0)) r s u
/-- an array as long as the number of chars: LATIN1 -/
theorem law (l : Launch) (d : Addr) (B : Cell) : Law l yN 2 2 0 0 yB 2 (some .byte) site (P d B) E [] 0 0 := by
  refine Law.of_walk (plainFor_of_name (by decide +kernel)) (by decide +kernel) (by decide +kernel) (by decide) (fun _ _ h => by rw [h.1]; rfl) (fun _ U U' hal hh h => ⟨h.1, h.2.mv hal hh⟩) (fun r U U' V V' h1 hal h2 h => XT.PureE.mv r U U' V V' h1 hal h2 h) ?_
  intro p e s m args below meth c s₁ X0 hexec hbytes hml hret hlk hnm hown hh0 W hP
  obtain ⟨rfl, hB⟩ := hP
  have hB0 := hB.mv X0.warmed.alike hh0
  have c1 : Steps p.tables e below (s₁.setTop (entryFrame m #[.ref d, .int (Int32.ofNat B.slots.size)] 2)) (s₁.setTop (mkF m 0 #[.val (.ref d), .val (.int (Int32.ofNat B.slots.size))] [])) := entry rfl
  have c2 : Steps p.tables e below (s₁.setTop (entryFrame m #[.ref d, .int (Int32.ofNat B.slots.size)] 2)) (s₁.setTop (mkF m 2 #[.val (.ref d), .val (.int (Int32.ofNat B.slots.size))] [.ref d, .int (Int32.ofNat B.slots.size)])) := c1.trans (by
    refine XS.iloadN X0.here hexec rfl (hb hbytes d0) rfl ?_
    refine XS.aloadN X0.here hexec rfl (hb hbytes d1) rfl rfl ?_
    exact Steps.refl _)
  have c3 : Steps p.tables e below (s₁.setTop (entryFrame m #[.ref d, .int (Int32.ofNat B.slots.size)] 2)) (s₁.setTop (mkF m 8 #[.val (.ref d), .val (.int (Int32.ofNat B.slots.size))] [.int (lo8 (ushr (Int32.ofNat B.slots.size - Int32.ofNat B.slots.size) 31))])) := c2.trans (by
    refine X0.alen hexec hB0 rfl rfl (hb hbytes d2) ?_
    refine XS.isub X0.here hexec rfl (hb hbytes d3) rfl ?_
    refine bipushV X0.here hexec rfl 31 (hb hbytes d4) (by decide) ?_
    refine iushr X0.here hexec rfl (hb hbytes d6) rfl ?_
    refine i2b X0.here hexec rfl (hb hbytes d7) rfl ?_
    exact Steps.refl _)
  have e0 : lo8 (ushr (Int32.ofNat B.slots.size - Int32.ofNat B.slots.size) 31) = 0 := by rw [Int32.sub_self]; decide
  rw [e0] at c3
  exact ⟨s₁, some (.int 0), _, _, _, X0, rfl, rfl, rfl, (fun h => by cases h), ⟨rfl, hh0⟩, fun fs hl => c3.trans (X0.ireturnOut hexec hret rfl (Or.inr (Or.inr (Or.inl rfl))) (hb hbytes d8) hl)⟩
end CodL
/-- the String at a is Latin-1 over a new byte[] (the heap's one new cell): the low bytes of the len chars of A from o on; every cell but a is kept -/
def Got (a : Addr) (D : Cell) (fV fC : Field) (A : Cell) (o len : Nat) (r : Option Value) (s u : State) : Prop := r = none ∧ ∃ D' V : Cell, Blank "java/lang/String" a D' u ∧ Same D D' [fV.slot, fC.slot] ∧ D'.slots[fV.slot]? = some (.ref s.heap.size) ∧ D'.slots[fC.slot]? = some (.int 0) ∧ Arr .byte s.heap.size V u ∧ V.vm = .none ∧ u.vm.findClass "[B" = some V.cls ∧ V.slots.size = len ∧ (∀ j, j < len → V.slots[j]? = some (.int (lo8 (cv A (o + j))))) ∧ (∀ (y : Addr) (c : Cell), y ≠ a → s.heap[y]? = some c → u.heap[y]? = some c) ∧ u.heap.size = s.heap.size + 1
theorem Got.mv {a : Addr} {D A : Cell} {fV fC : Field} {o len : Nat} : ∀ r (U U' V V' : State), U'.heap = U.heap → V.vm.Alike V'.vm → V'.heap = V.heap → Got a D fV fC A o len r U V → Got a D fV fC A o len r U' V' :=
  fun r U U' V V' h1 hal h2 ⟨e0, D', X, a1, a2, a3, a4, a5, a6, a7, a8, a9, a10, a11⟩ => ⟨e0, D', X, a1.mv hal h2, a2, by rw [h1]; exact a3, a4, by rw [h1]; exact a5.mv hal h2, a6, by rw [hal.findClass]; exact a7, a8, a9, by rw [h1, h2]; exact a10, by rw [h1, h2]; exact a11⟩
namespace New4
def yN : MethodName := ⟨"java/lang/String", "<init>", "([CIILjava/lang/Void;)V"⟩
abbrev yB : ByteArray := jdk_42_method_149_code
theorem d0 : decode yB 0 = .ok (.aload_n 0, 1) := by decide +kernel
theorem d1 : decode yB 1 = .ok (.invokespecial 1, 3) := by decide +kernel
theorem d4 : decode yB 4 = .ok (.iload_n 3, 1) := by decide +kernel
theorem d5 : decode yB 5 = .ok (.ifCond (.ne) 22, 3) := by decide +kernel
theorem d27 : decode yB 27 = .ok (.getstatic 38, 3) := by decide +kernel
theorem d30 : decode yB 30 = .ok (.ifCond (.eq) 28, 3) := by decide +kernel
theorem d33 : decode yB 33 = .ok (.aload_n 1, 1) := by decide +kernel
theorem d34 : decode yB 34 = .ok (.iload_n 2, 1) := by decide +kernel
theorem d35 : decode yB 35 = .ok (.iload_n 3, 1) := by decide +kernel
theorem d36 : decode yB 36 = .ok (.invokestatic 177, 3) := by decide +kernel
theorem d39 : decode yB 39 = .ok (.astore 5, 2) := by decide +kernel
theorem d41 : decode yB 41 = .ok (.aload_n 0, 1) := by decide +kernel
theorem d42 : decode yB 42 = .ok (.aload 5, 2) := by decide +kernel
theorem d44 : decode yB 44 = .ok (.iload_n 3, 1) := by decide +kernel
theorem d45 : decode yB 45 = .ok (.invokestatic 47, 3) := by decide +kernel
theorem d48 : decode yB 48 = .ok (.putfield 15, 3) := by decide +kernel
theorem d51 : decode yB 51 = .ok (.aload_n 0, 1) := by decide +kernel
theorem d52 : decode yB 52 = .ok (.aload 5, 2) := by decide +kernel
theorem d54 : decode yB 54 = .ok (.putfield 9, 3) := by decide +kernel
theorem d57 : decode yB 57 = .ok (.return_, 1) := by decide +kernel
def site : List Cond := [.fieldLink "java/lang/String" 38 "java/lang/String" "COMPACT_STRINGS" "Z", Cmp3.tab, CodL.tab, .laysFinal "java/lang/String" "java/lang/String" "value" "[B", .fieldLink "java/lang/String" 9 "java/lang/String" "value" "[B", .laysFinal "java/lang/String" "java/lang/String" "coder" "B", .fieldLink "java/lang/String" 15 "java/lang/String" "coder" "B"] ++ objW "java/lang/String" 1 ++ staticW "java/lang/String" 177 Cmp3.yN ++ staticW "java/lang/String" 47 CodL.yN
def tab : Cond := tabOf yN yB 6 none site
def P (a : Addr) (D : Cell) (fV fC : Field) (b : Addr) (A : Cell) (z : Int32) (o len : Nat) (args : Array Value) (s : State) : Prop := args = #[.ref a, .ref b, .int (Int32.ofNat o), .int (Int32.ofNat len), .null] ∧ Blank "java/lang/String" a D s ∧ Found "java/lang/String" "value" "[B" fV s ∧ Found "java/lang/String" "coder" "B" fC s ∧ Ch b A s ∧ StaticIs s "java/lang/String" "COMPACT_STRINGS" "Z" (.int z) ∧ ¬ z = 0 ∧ 0 < len ∧ o + len ≤ A.slots.size ∧ len ≤ 536870912 ∧ ∀ i, i < len → ¬ 255 < cv A (o + i)
def E (a : Addr) (D : Cell) (fV fC : Field) (A : Cell) (o len : Nat) (r : Option Value) (s u : State) : Prop := Got a D fV fC A o len r s u
/-- len > 0, no char of the range above 255: a Latin-1 String of their low bytes -/
theorem law (l : Launch) (a : Addr) (D : Cell) (fV fC : Field) (b : Addr) (A : Cell) (z : Int32) (o len : Nat) : Law l yN 5 4 2 35 yB 6 none site (P a D fV fC b A z o len) (E a D fV fC A o len) [⟨a, fC.slot⟩, ⟨a, fV.slot⟩] 1 len := by
  refine Law.of_walk (plainFor_of_name (by decide +kernel)) (by decide +kernel) (by decide +kernel) (by decide) (fun _ _ h => by rw [h.1]; rfl) (fun _ U U' hal hh h => ⟨h.1, h.2.1.mv hal hh, h.2.2.1.al hal, h.2.2.2.1.al hal, h.2.2.2.2.1.mv hal hh, h.2.2.2.2.2.1.there hal hh, h.2.2.2.2.2.2⟩) (fun r U U' V V' h1 hal h2 h => Got.mv r U U' V V' h1 hal h2 h) ?_
  intro p e s m args below meth c s₁ X0 hexec hbytes hml hret hlk hnm hown hh0 W hP
  obtain ⟨rfl, hB, f1, f2, hA, s1, hz, l0, l1, l2, hp⟩ := hP
  have a31 := hA.1.2.2.2
  have c1 : Steps p.tables e below (s₁.setTop (entryFrame m #[.ref a, .ref b, .int (Int32.ofNat o), .int (Int32.ofNat len), .null] 6)) (s₁.setTop (mkF m 0 #[.val (.ref a), .val (.ref b), .val (.int (Int32.ofNat o)), .val (.int (Int32.ofNat len)), .val .null, .unset] [])) := entry rfl
  have c2 : Steps p.tables e below (s₁.setTop (entryFrame m #[.ref a, .ref b, .int (Int32.ofNat o), .int (Int32.ofNat len), .null] 6)) (s₁.setTop (mkF m 1 #[.val (.ref a), .val (.ref b), .val (.int (Int32.ofNat o)), .val (.int (Int32.ofNat len)), .val .null, .unset] [.ref a])) := c1.trans (by
    refine XS.aloadN X0.here hexec rfl (hb hbytes d0) rfl rfl ?_
    exact Steps.refl _)
  obtain ⟨T3, X3, q3, st3⟩ := X0.oinit hexec hown (wks W (objW "java/lang/String" 1)) (g := (mkF m 1 #[.val (.ref a), .val (.ref b), .val (.int (Int32.ofNat o)), .val (.int (Int32.ofNat len)), .val .null, .unset] [.ref a])) rfl (by rw [hml]; rfl) (rest := []) rfl (hb hbytes d1) (W := 0) (by show 2 * 0 + 0 ≤ _; decide) (Nat.le_of_ble_eq_true rfl) (Nat.le_of_ble_eq_true rfl)
  have hh3 := q3.trans hh0
  have c4 : Steps p.tables e below (s₁.setTop (entryFrame m #[.ref a, .ref b, .int (Int32.ofNat o), .int (Int32.ofNat len), .null] 6)) (T3.setTop (mkF m 27 #[.val (.ref a), .val (.ref b), .val (.int (Int32.ofNat o)), .val (.int (Int32.ofNat len)), .val .null, .unset] [])) := (c2.trans (st3 _ (Steps.refl _))).trans (by
    refine XS.iloadN X3.here hexec rfl (hb hbytes d4) rfl ?_
    refine XS.ifYes X3.here hexec rfl (pc0 := 5) rfl (hb hbytes d5) rfl (i0_ne_t (nz32 (by omega) l0)) (by decide) rfl ?_
    exact Steps.refl _)
  obtain ⟨T5, X5, q5, st5⟩ := X3.sget hexec hown (wk W (.fieldLink "java/lang/String" 38 "java/lang/String" "COMPACT_STRINGS" "Z")) s1 (fun _ _ h => by rw [hh3]; exact h) (g := (mkF m 27 #[.val (.ref a), .val (.ref b), .val (.int (Int32.ofNat o)), .val (.int (Int32.ofNat len)), .val .null, .unset] [])) rfl (hb hbytes d27)
  have hh5 := q5.trans hh3
  have c6 : Steps p.tables e below (s₁.setTop (entryFrame m #[.ref a, .ref b, .int (Int32.ofNat o), .int (Int32.ofNat len), .null] 6)) (T5.setTop (mkF m 30 #[.val (.ref a), .val (.ref b), .val (.int (Int32.ofNat o)), .val (.int (Int32.ofNat len)), .val .null, .unset] [.int z])) := c4.trans (st5 _ (Steps.refl _))
  have c7 : Steps p.tables e below (s₁.setTop (entryFrame m #[.ref a, .ref b, .int (Int32.ofNat o), .int (Int32.ofNat len), .null] 6)) (T5.setTop (mkF m 36 #[.val (.ref a), .val (.ref b), .val (.int (Int32.ofNat o)), .val (.int (Int32.ofNat len)), .val .null, .unset] [.int (Int32.ofNat len), .int (Int32.ofNat o), .ref b])) := c6.trans (by
    refine XS.ifNo X5.here hexec rfl (hb hbytes d30) rfl (i0_eq_f hz) ?_
    refine XS.aloadN X5.here hexec rfl (hb hbytes d33) rfl rfl ?_
    refine XS.iloadN X5.here hexec rfl (hb hbytes d34) rfl ?_
    refine XS.iloadN X5.here hexec rfl (hb hbytes d35) rfl ?_
    exact Steps.refl _)
  obtain ⟨v8, T8, X8, E8, g8⟩ := X5.callS hexec (Cmp3.law l b A o len) hown (wks W (staticW "java/lang/String" 177 Cmp3.yN)) (wk W Cmp3.tab) (W := 0) (Nat.le_of_ble_eq_true rfl) (Nat.le_of_ble_eq_true rfl) (Nat.le_refl _) (by show 0 + len ≤ len; omega) (g := (mkF m 36 #[.val (.ref a), .val (.ref b), .val (.int (Int32.ofNat o)), .val (.int (Int32.ofNat len)), .val .null, .unset] [.int (Int32.ofNat len), .int (Int32.ofNat o), .ref b])) rfl (by rw [hml]; rfl) c7 (argsL := [.ref b, .int (Int32.ofNat o), .int (Int32.ofNat len)]) (rest := []) rfl rfl (by show 2 * 0 + 0 ≤ _; decide) (hb hbytes d36) (⟨rfl, hA.mv X5.warmed.alike hh5, l1, l2, hp⟩)
  obtain ⟨e8, z8⟩ := E8
  obtain ⟨rfl, N, n1, n2, n3, n4, n5, n6⟩ := NewArr.mv _ T5 s _ _ hh5.symm (Vm.Alike.refl _) rfl e8
  rw [hh5] at z8
  have hB1 := hB.keep X8.warmed.alike (n6 _ _ hB.1)
  have hne : s.heap.size ≠ a := (Nat.ne_of_lt (Array.getElem?_eq_some_iff.mp hB.1).1).symm
  have c9 : Steps p.tables e below (s₁.setTop (entryFrame m #[.ref a, .ref b, .int (Int32.ofNat o), .int (Int32.ofNat len), .null] 6)) (T8.setTop (mkF m 39 #[.val (.ref a), .val (.ref b), .val (.int (Int32.ofNat o)), .val (.int (Int32.ofNat len)), .val .null, .unset] [.ref s.heap.size])) := g8
  have c10 : Steps p.tables e below (s₁.setTop (entryFrame m #[.ref a, .ref b, .int (Int32.ofNat o), .int (Int32.ofNat len), .null] 6)) (T8.setTop (mkF m 45 #[.val (.ref a), .val (.ref b), .val (.int (Int32.ofNat o)), .val (.int (Int32.ofNat len)), .val .null, .val (.ref s.heap.size)] [.int (Int32.ofNat N.slots.size), .ref s.heap.size, .ref a])) := by
    have hc : Steps p.tables e below (s₁.setTop (entryFrame m #[.ref a, .ref b, .int (Int32.ofNat o), .int (Int32.ofNat len), .null] 6)) (T8.setTop (mkF m 45 #[.val (.ref a), .val (.ref b), .val (.int (Int32.ofNat o)), .val (.int (Int32.ofNat len)), .val .null, .val (.ref s.heap.size)] [.int (Int32.ofNat len), .ref s.heap.size, .ref a])) := c9.trans (by
      refine XS.astore X8.here hexec rfl (hb hbytes d39) rfl rfl rfl ?_
      refine XS.aloadN X8.here hexec rfl (hb hbytes d41) rfl rfl ?_
      refine XS.aload X8.here hexec rfl (hb hbytes d42) rfl rfl ?_
      refine XS.iloadN X8.here hexec rfl (hb hbytes d44) rfl ?_
      exact Steps.refl _)
    rw [n4]; exact hc
  obtain ⟨v11, T11, X11, E11, g11⟩ := X8.callS hexec (CodL.law l s.heap.size N) hown (wks W (staticW "java/lang/String" 47 CodL.yN)) (wk W CodL.tab) (W := 1) (Nat.le_of_ble_eq_true rfl) (Nat.le_of_ble_eq_true rfl) (Nat.le_refl _) (by show 0 + len + 0 ≤ len; omega) (g := (mkF m 45 #[.val (.ref a), .val (.ref b), .val (.int (Int32.ofNat o)), .val (.int (Int32.ofNat len)), .val .null, .val (.ref s.heap.size)] [.int (Int32.ofNat N.slots.size), .ref s.heap.size, .ref a])) rfl (by rw [hml]; rfl) c10 (argsL := [.ref s.heap.size, .int (Int32.ofNat N.slots.size)]) (rest := [.ref a]) rfl rfl (by show 2 * 0 + (1 + 0) ≤ _; decide) (hb hbytes d45) (⟨rfl, n1⟩)
  obtain ⟨rfl, q11⟩ := E11
  have hB11 := hB1.mv (X8.warmed.alike.symm.trans X11.warmed.alike) q11
  have c12 : Steps p.tables e below (s₁.setTop (entryFrame m #[.ref a, .ref b, .int (Int32.ofNat o), .int (Int32.ofNat len), .null] 6)) (T11.setTop (mkF m 48 #[.val (.ref a), .val (.ref b), .val (.int (Int32.ofNat o)), .val (.int (Int32.ofNat len)), .val .null, .val (.ref s.heap.size)] [.int 0, .ref a])) := g11
  obtain ⟨T13, X13, p13, bl13, sl13, st13⟩ := X11.finit hexec hown (wk W (.fieldLink "java/lang/String" 15 "java/lang/String" "coder" "B")) (Or.inr ⟨_, (wk W (.laysFinal "java/lang/String" "java/lang/String" "coder" "B"))⟩) (Or.inl ⟨rfl, hnm⟩) f2 (Or.inl rfl) hB11 (t := .byte) (by decide +kernel) rfl (g := (mkF m 48 #[.val (.ref a), .val (.ref b), .val (.int (Int32.ofNat o)), .val (.int (Int32.ofNat len)), .val .null, .val (.ref s.heap.size)] [.int 0, .ref a])) rfl (rest := []) rfl (hb hbytes d48)
  have c14 : Steps p.tables e below (s₁.setTop (entryFrame m #[.ref a, .ref b, .int (Int32.ofNat o), .int (Int32.ofNat len), .null] 6)) (T13.setTop (mkF m 54 #[.val (.ref a), .val (.ref b), .val (.int (Int32.ofNat o)), .val (.int (Int32.ofNat len)), .val .null, .val (.ref s.heap.size)] [.ref s.heap.size, .ref a])) := (c12.trans (st13 _ (Steps.refl _))).trans (by
    refine XS.aloadN X13.here hexec rfl (hb hbytes d51) rfl rfl ?_
    refine XS.aload X13.here hexec rfl (hb hbytes d52) rfl rfl ?_
    exact Steps.refl _)
  obtain ⟨T15, X15, p15, bl15, sl15, st15⟩ := X13.finit hexec hown (wk W (.fieldLink "java/lang/String" 9 "java/lang/String" "value" "[B")) (Or.inr ⟨_, (wk W (.laysFinal "java/lang/String" "java/lang/String" "value" "[B"))⟩) (Or.inl ⟨rfl, hnm⟩) f1 (Or.inl rfl) bl13 (t := (.array .byte)) (by decide +kernel) rfl (g := (mkF m 54 #[.val (.ref a), .val (.ref b), .val (.int (Int32.ofNat o)), .val (.int (Int32.ofNat len)), .val .null, .val (.ref s.heap.size)] [.ref s.heap.size, .ref a])) rfl (rest := []) rfl (hb hbytes d54)
  have c16 : Steps p.tables e below (s₁.setTop (entryFrame m #[.ref a, .ref b, .int (Int32.ofNat o), .int (Int32.ofNat len), .null] 6)) (T15.setTop (mkF m 57 #[.val (.ref a), .val (.ref b), .val (.int (Int32.ofNat o)), .val (.int (Int32.ofNat len)), .val .null, .val (.ref s.heap.size)] [])) := c14.trans (st15 _ (Steps.refl _))
  have ap := apart (Or.inr ⟨_, (wk W (.laysFinal "java/lang/String" "java/lang/String" "value" "[B"))⟩) (Or.inr ⟨_, (wk W (.laysFinal "java/lang/String" "java/lang/String" "coder" "B"))⟩) f1 f2 (t₁ := .array .byte) (t₂ := .byte) (by decide +kernel) (by decide +kernel) (by decide)
  have al := X8.warmed.alike.symm.trans X15.warmed.alike
  have n7 : T11.heap[s.heap.size]? = some N := by rw [q11]; exact n1.1
  exact ⟨T15, none, _, _, _, X15, by simp, rfl, by omega, (fun _ => rfl), ⟨rfl, _, N, bl15, ((Same.refl D _).set _ (by simp)).set _ (by simp), sl15, (Cell.slots_setSlot_ne _ ap).trans sl13, n1.keep al (p15.other hne (p13.other hne n7)), n2, by rw [al.findClass]; exact n3, n4, n5, fun y c h1 h2 => p15.other h1 (p13.other h1 (by rw [q11]; exact n6 y c h2)), by rw [p15.2.2, p13.2.2, q11]; exact z8⟩, fun fs hl => c16.trans (X15.returnOut hexec hret (hb hbytes d57) hl)⟩
end New4
namespace New1
def yN : MethodName := ⟨"java/lang/String", "<init>", "([C)V"⟩
abbrev yB : ByteArray := jdk_42_method_3_code
theorem d0 : decode yB 0 = .ok (.aload_n 0, 1) := by decide +kernel
theorem d1 : decode yB 1 = .ok (.aload_n 1, 1) := by decide +kernel
theorem d2 : decode yB 2 = .ok (.iconst 0, 1) := by decide +kernel
theorem d3 : decode yB 3 = .ok (.aload_n 1, 1) := by decide +kernel
theorem d4 : decode yB 4 = .ok (.arraylength, 1) := by decide +kernel
theorem d5 : decode yB 5 = .ok (.aconst_null, 1) := by decide +kernel
theorem d6 : decode yB 6 = .ok (.invokespecial 27, 3) := by decide +kernel
theorem d9 : decode yB 9 = .ok (.return_, 1) := by decide +kernel
def site : List Cond := [New4.tab] ++ initW "java/lang/String" 27 New4.yN
def tab : Cond := tabOf yN yB 2 none site
def P (a : Addr) (D : Cell) (fV fC : Field) (b : Addr) (A : Cell) (z : Int32) (args : Array Value) (s : State) : Prop := args = #[.ref a, .ref b] ∧ Blank "java/lang/String" a D s ∧ Found "java/lang/String" "value" "[B" fV s ∧ Found "java/lang/String" "coder" "B" fC s ∧ Ch b A s ∧ StaticIs s "java/lang/String" "COMPACT_STRINGS" "Z" (.int z) ∧ ¬ z = 0 ∧ 0 < A.slots.size ∧ A.slots.size ≤ 536870912 ∧ ∀ i, i < A.slots.size → ¬ 255 < cv A i
def E (a : Addr) (D : Cell) (fV fC : Field) (A : Cell) (r : Option Value) (s u : State) : Prop := Got a D fV fC A 0 A.slots.size r s u
/-- new String(chars), not empty, no char above 255: a Latin-1 String of their low bytes -/
theorem law (l : Launch) (a : Addr) (D : Cell) (fV fC : Field) (b : Addr) (A : Cell) (z : Int32) : Law l yN 2 1 3 52 yB 2 none site (P a D fV fC b A z) (E a D fV fC A) [⟨a, fC.slot⟩, ⟨a, fV.slot⟩] 1 A.slots.size := by
  refine Law.of_walk (plainFor_of_name (by decide +kernel)) (by decide +kernel) (by decide +kernel) (by decide) (fun _ _ h => by rw [h.1]; rfl) (fun _ U U' hal hh h => ⟨h.1, h.2.1.mv hal hh, h.2.2.1.al hal, h.2.2.2.1.al hal, h.2.2.2.2.1.mv hal hh, h.2.2.2.2.2.1.there hal hh, h.2.2.2.2.2.2⟩) (fun r U U' V V' h1 hal h2 h => Got.mv r U U' V V' h1 hal h2 h) ?_
  intro p e s m args below meth c s₁ X0 hexec hbytes hml hret hlk hnm hown hh0 W hP
  obtain ⟨rfl, hB, f1, f2, hA, s1, hz, l0, l2, hp⟩ := hP
  have c1 : Steps p.tables e below (s₁.setTop (entryFrame m #[.ref a, .ref b] 2)) (s₁.setTop (mkF m 0 #[.val (.ref a), .val (.ref b)] [])) := entry rfl
  have c2 : Steps p.tables e below (s₁.setTop (entryFrame m #[.ref a, .ref b] 2)) (s₁.setTop (mkF m 6 #[.val (.ref a), .val (.ref b)] [.null, .int (Int32.ofNat A.slots.size), .int 0, .ref b, .ref a])) := c1.trans (by
    refine XS.aloadN X0.here hexec rfl (hb hbytes d0) rfl rfl ?_
    refine XS.aloadN X0.here hexec rfl (hb hbytes d1) rfl rfl ?_
    refine iconstV X0.here hexec rfl 0 (hb hbytes d2) (by decide) ?_
    refine XS.aloadN X0.here hexec rfl (hb hbytes d3) rfl rfl ?_
    refine X0.alen hexec (hA.1.mv X0.warmed.alike hh0) rfl rfl (hb hbytes d4) ?_
    refine XS.aconstNull X0.here hexec rfl (hb hbytes d5) ?_
    exact Steps.refl _)
  obtain ⟨v3, T3, X3, E3, g3⟩ := X0.callN hexec (New4.law l a D fV fC b A z 0 A.slots.size) rfl hown (wks W (initW "java/lang/String" 27 New4.yN)) (W New4.tab (by simp only [site, List.mem_cons, List.mem_append, true_or, or_true])) (W := 0) (Nat.le_of_ble_eq_true rfl) (Nat.le_of_ble_eq_true rfl) (Nat.le_refl _) (by show 0 + A.slots.size ≤ A.slots.size; omega) (g := (mkF m 6 #[.val (.ref a), .val (.ref b)] [.null, .int (Int32.ofNat A.slots.size), .int (Int32.ofNat 0), .ref b, .ref a])) rfl (by rw [hml]; rfl) c2 (argsL := [.ref b, .int (Int32.ofNat 0), .int (Int32.ofNat A.slots.size), .null]) (rest := []) rfl rfl (by show 2 * 0 + 0 ≤ _; decide) (hb hbytes d6) (⟨rfl, hB.mv X0.warmed.alike hh0, f1.al X0.warmed.alike, f2.al X0.warmed.alike, hA.mv X0.warmed.alike hh0, s1.there X0.warmed.alike hh0, hz, l0, by omega, l2, fun i hi => by rw [Nat.zero_add]; exact hp i hi⟩)
  have e0 := Got.mv _ s₁ s _ _ hh0.symm (Vm.Alike.refl _) rfl E3
  obtain rfl := e0.1
  have c4 : Steps p.tables e below (s₁.setTop (entryFrame m #[.ref a, .ref b] 2)) (T3.setTop (mkF m 9 #[.val (.ref a), .val (.ref b)] [])) := g3
  exact ⟨T3, none, _, _, _, X3, by simp, rfl, by omega, (fun _ => rfl), e0, fun fs hl => c4.trans (X3.returnOut hexec hret (hb hbytes d9) hl)⟩
theorem pays {l : Launch} {R : Room} {p : Program} {e : Env} {below : List Frame} {s : State} {sargs : Array Value} {len W : Nat} (a : Addr) (D : Cell) (fV fC : Field) (b : Addr) (A : Cell) (z : Int32) (htab : tab.before sargs s = true) (hfr : 4 ≤ R.frames) (hlo : W + 65 ≤ R.locals) :
    Back l R p e below s sargs yN len W (fun A₁ a₁ => A₁.cells + 1 ≤ R.cells ∧ A₁.slots + A.slots.size ≤ R.slots ∧ P a D fV fC b A z a₁ A₁.U) (fun A₁ _ v₁ B₁ => E a D fV fC A v₁ A₁.U B₁.U ∧ B₁.locs = A₁.locs ++ [⟨a, fC.slot⟩, ⟨a, fV.slot⟩] ∧ B₁.cells = A₁.cells + 1 ∧ B₁.slots = A₁.slots + A.slots.size) :=
  (law l a D fV fC b A z).pays htab hfr (by omega)
end New1
/-- the byte, read back as charAt reads it, is the char -/
theorem lo8_mask {x : Int32} (h0 : ¬ x < 0) (h1 : ¬ 255 < x) : lo8 x &&& 255 = x := by
  have t : ∀ k : Fin 256, lo8 (Int32.ofNat k.val) &&& 255 = Int32.ofNat k.val := by decide +kernel
  rw [Int32.lt_iff_toInt_lt] at h0 h1
  have e0 : (0 : Int32).toInt = 0 := rfl
  have e1 : (255 : Int32).toInt = 255 := rfl
  obtain ⟨k, hk⟩ : ∃ k : Nat, x.toInt = k := ⟨x.toInt.toNat, by omega⟩
  have hx : x = Int32.ofNat k := Int32.toInt_inj.mp (by rw [hk, Int32.toInt_ofNat_small (by omega)])
  rw [hx]
  exact t ⟨k, by omega⟩
end StrChars
namespace StrChars.Road
open Jvm Sem ClassFile Op Lib Jvm.Stand Jvm.Free Jvm.Free.XT
open Jvm.Lib.Cold (StaticIs)
abbrev ST : String := "java/lang/String"
/-- every table word that New1's law asks, flat -/
abbrev words : List Jvm.Cond := [.code New1.yN New1.yB 2 none, .initialized ST, .methodLink ST 27 New4.yN, .instanceMethod New4.yN,
  .code New4.yN New4.yB 6 none, .fieldLink ST 38 ST "COMPACT_STRINGS" "Z", .laysFinal ST ST "value" "[B", .fieldLink ST 9 ST "value" "[B", .laysFinal ST ST "coder" "B", .fieldLink ST 15 ST "coder" "B",
  .methodLink ST 1 Lib.objectInit, .instanceMethod Lib.objectInit, .code Lib.objectInit ⟨#[0xb1]⟩ 1 none, .methodLink ST 177 Cmp3.yN, .static Cmp3.yN, .methodLink ST 47 CodL.yN, .static CodL.yN,
  .code Cmp3.yN Cmp3.yB 6 (some (.array .byte)), .initialized U16, .arrayClass .byte, .methodLink U16 115 Cmp5.yN, .static Cmp5.yN, .code Cmp5.yN Cmp5.yB 7 (some .int), .code CodL.yN CodL.yB 2 (some .byte)]
theorem tab_of {a : Array Value} {s : State} (h : ∀ w ∈ words, w.before a s = true) : New1.tab.before a s = true := by
  have h5 : Cmp5.tab.before a s = true := unparts (wk h (.code Cmp5.yN Cmp5.yB 7 (some .int))) (wks h (.initialized Cmp5.yN.cls :: Cmp5.site))
  have hc : CodL.tab.before a s = true := unparts (wk h (.code CodL.yN CodL.yB 2 (some .byte))) (wks h (.initialized CodL.yN.cls :: CodL.site))
  have q5 : ∀ w ∈ Cmp5.tab :: words, w.before a s = true := fun w hw => (List.mem_cons.mp hw).elim (fun e => e ▸ h5) (h w)
  have h3 : Cmp3.tab.before a s = true := unparts (wk q5 (.code Cmp3.yN Cmp3.yB 6 (some (.array .byte)))) (wks q5 (.initialized Cmp3.yN.cls :: Cmp3.site))
  have q3 : ∀ w ∈ Cmp3.tab :: CodL.tab :: words, w.before a s = true := fun w hw => (List.mem_cons.mp hw).elim (fun e => e ▸ h3) fun hw => (List.mem_cons.mp hw).elim (fun e => e ▸ hc) (h w)
  have h4 : New4.tab.before a s = true := unparts (wk q3 (.code New4.yN New4.yB 6 none)) (wks q3 (.initialized New4.yN.cls :: New4.site))
  have q4 : ∀ w ∈ New4.tab :: words, w.before a s = true := fun w hw => (List.mem_cons.mp hw).elim (fun e => e ▸ h4) (h w)
  exact unparts (wk q4 (.code New1.yN New1.yB 2 none)) (wks q4 (.initialized New1.yN.cls :: New1.site))
/-- the words ride from the start Z to the walk's own state -/
theorem moved {Z s : State} {a0 args : Array Value} (hZ : Z.Warmed39 s.vm) (hw : ∀ d ∈ words, d.before a0 Z = true) : ∀ d ∈ words, d.before args s = true := fun d hd => by
  have q := hw d hd
  have t : ∀ d ∈ words, d = .arrayClass .byte ∨ (d.onTables && d.keepsFace) = true := by decide +kernel
  rcases t d hd with rfl | t
  · exact RoadKit.mvA hZ q
  · exact RoadKit.mv hZ q t
/-- WHAT COMES BACK, over the tables of the start Z: h the heap at the call, h' behind it -/
def Q (Z : State) (x : Addr) (A : Cell) (h : Heap) (v : Option Value) (h' : Heap) (L : List Loc) : Prop := v = none ∧ (∀ y ∈ L, y.base = x) ∧ RoadKit.Keep h h' [x] ∧ h'.size = h.size + 1 ∧ RoadKit.Exa Z h' x ST ∧ RoadKit.Fld Z h' x ST "value" "[B" (.ref h.size) ∧ RoadKit.Fld Z h' x ST "coder" "B" (.int 0) ∧
  (∃ V : Cell, RoadKit.Arr Z h' h.size V .byte ∧ V.vm = .none ∧ Z.vm.findClass "[B" = some V.cls ∧ V.slots.size = A.slots.size ∧ ∀ j, j < A.slots.size → V.slots[j]? = some (.int (lo8 (cv A j)))) ∧
  ∀ (O n d : String) (w : Value), RoadKit.Fld Z h x O n d w → RoadKit.slotOf Z O n d ≠ RoadKit.slotOf Z ST "value" "[B" → RoadKit.slotOf Z O n d ≠ RoadKit.slotOf Z ST "coder" "B" → RoadKit.Fld Z h' x O n d w
/-- **new String(chars) AT A CALL, IN THE ROAD'S FORM**: for specialBack behind newO: x the fresh String, b the char[] with the cell A -/
theorem back {p : Program} {l : Launch} {e : Env} {R : Room} {s : State} {args : Array Value} {below : List Frame} {len W : Nat} {Z : State} {a0 : Array Value} {h : Heap} (hZ : Z.Warmed39 s.vm) (hw : ∀ d ∈ words, d.before a0 Z = true) {kI : Nat} (wi : (Jvm.Cond.instantiable ST kI).before a0 Z = true)
    {x b : Addr} {A : Cell} {z : Int32} {v0 c0 : Value} (E : RoadKit.Exa Z h x ST) (V : RoadKit.Fld Z h x ST "value" "[B" v0) (C : RoadKit.Fld Z h x ST "coder" "B" c0) (K : RoadKit.Arr Z h b A .char) (hty : Typed .char A) (S : RoadKit.Sta Z h ST "COMPACT_STRINGS" "Z" (.int z)) (hz : ¬ z = 0)
    (l0 : 0 < A.slots.size) (l2 : A.slots.size ≤ 536870912) (hp : ∀ i, i < A.slots.size → ¬ 255 < cv A i) (hfr : 4 ≤ R.frames) (hlo : W + 65 ≤ R.locals) :
    Back l R p e below s args New1.yN len W (fun P a => a = #[.ref x, .ref b] ∧ P.U.heap = h ∧ P.cells + 1 ≤ R.cells ∧ P.slots + A.slots.size ≤ R.slots)
      (fun P _ v B => ∃ L, Q Z x A h v B.U.heap L ∧ B.locs = P.locs ++ L ∧ B.cells = P.cells + 1 ∧ B.slots = P.slots + A.slots.size) := by
  intro m meth c P g ig mk a X hg hsize hdg hW hn hp'
  obtain ⟨rfl, rfl, r1, r2⟩ := hp'
  have al : Z.vm.Alike P.U.vm := hZ.alike.trans X.warmed.alike
  obtain ⟨D, cfV, kV, iV, fV, hD, gV, stV, knV, obV, asV, slV⟩ := id V
  obtain ⟨D', cfC, kC, iC, fC, hD', gC, stC, -, -, asC, slC⟩ := id C
  cases hD.symm.trans hD'
  obtain ⟨D2, kD, e1, e2, e3, e4, e5⟩ := id E
  cases hD.symm.trans e1
  obtain ⟨c2, k2, i1, i2, i3, -⟩ := Cond.instantiable_spec wi
  cases e2.symm.trans i1
  cases e3.symm.trans i2
  obtain ⟨kU, u1, u2⟩ := al.2.2 _ _ e3
  have hB : Blank ST x D P.U := ⟨hD, ⟨knV, fun q hq => by rw [hq] at obV; cases obV⟩, by rw [al.findClass]; exact e2, kU, u1, by rw [u2]; exact i3, by rw [u2]; exact e5 i3⟩
  have F1 : Found ST "value" "[B" fV P.U := ⟨SBG.found_only al ⟨cfV, kV, iV, gV⟩, stV⟩
  have F2 : Found ST "coder" "B" fC P.U := ⟨SBG.found_only al ⟨cfC, kC, iC, gC⟩, stC⟩
  have hA : Ch b A P.U := ⟨⟨K.1, State.isArrayOf_alike al K.2.1, K.2.2, by omega⟩, hty⟩
  have hS : StaticIs P.U ST "COMPACT_STRINGS" "Z" (.int z) := by
    obtain ⟨cfS, iS, kS, fS, st, cS, t1, t2, t3, t4, t5, t6, t7⟩ := S
    exact StaticIs.there (s := { Z with heap := P.U.heap }) ⟨cfS, iS, kS, fS, st, cS, t1, t2, t3, t4, t5, (fun q => by rw [q] at t6; cases t6), t7⟩ al rfl
  obtain ⟨v, B, X', ⟨⟨hv, E', V', q1, q2, q3, q4, q5, q6, q7, q8, q9, q10, q11⟩, hl, hc, hs⟩, st⟩ := New1.pays x D fV fC b A z (tab_of (moved hZ hw)) hfr hlo m meth c P g ig mk _ X hg hsize hdg hW hn ⟨r1, r2, rfl, hB, F1, F2, hA, hS, hz, l0, l2, hp⟩
  have al' : Z.vm.Alike B.U.vm := hZ.alike.trans X'.warmed.alike
  have hsz : E'.slots.size = D.slots.size := by
    obtain ⟨-, -, -, kB, w1, w2, w3⟩ := q1
    obtain ⟨kB', y1, y2⟩ := al'.2.2 _ _ e3
    rw [q2.2.1] at w1
    cases w1.symm.trans y1
    rw [w3, e5 i3, y2]
  refine ⟨v, B, X', ⟨_, ⟨hv, ?_, ⟨by omega, fun y cy hy hn' => q10 y cy (by simpa using hn') hy, fun y cy hy => ?_⟩, q11, ⟨E', _, q1.1, by rw [q2.2.1]; exact e2, by rw [q2.2.1]; exact e3, by rw [q2.1]; exact obV, fun _ => by rw [hsz]; exact e5 i3⟩,
    ⟨E', cfV, kV, iV, fV, q1.1, gV, stV, by rw [q2.1]; exact knV, by rw [q2.1]; exact obV, by rw [q2.2.1]; exact asV, q3⟩, ⟨E', cfC, kC, iC, fC, q1.1, gC, stC, by rw [q2.1]; exact knV, by rw [q2.1]; exact obV, by rw [q2.2.1]; exact asC, q4⟩,
    ⟨V', ⟨q5.1, State.isArrayOf_alike al'.symm q5.2.1, q5.2.2.1⟩, q6, by rw [← al'.findClass]; exact q7, q8, fun j hj => by have := q9 j hj; rwa [Nat.zero_add] at this⟩, fun O n d w F n1 n2 => ?_⟩, hl, hc, hs⟩, st⟩
  · intro y hy
    simp only [List.mem_cons, List.not_mem_nil, or_false] at hy
    rcases hy with rfl | rfl <;> rfl
  · by_cases q : y = x
    · subst q
      cases hD.symm.trans hy
      exact ⟨E', q1.1, q2.2.1, q2.1, hsz⟩
    · exact ⟨cy, q10 y cy q hy, rfl, rfl, rfl⟩
  · obtain ⟨D3, cf, k, i, f, g1, g2, g3, g4, g5, g6, g7⟩ := F
    cases hD.symm.trans g1
    simp only [RoadKit.slotOf, g2, gV, gC, Option.map_some, Option.getD_some] at n1 n2
    exact ⟨E', cf, k, i, f, q1.1, g2, g3, by rw [q2.1]; exact g4, by rw [q2.1]; exact g5, by rw [q2.2.1]; exact g6, by rw [q2.2.2 f.slot (by simp [n1, n2])]; exact g7⟩
end StrChars.Road
namespace StrChars.Road
open Jvm Sem ClassFile Op Lib Jvm.Stand Jvm.Free Jvm.Free.XT
/-- WHAT COMES BACK, the byte[] as a list of values -/
def QA (Z : State) (x : Addr) (zn : Int32) (cs : List Int32) (h : Heap) (v : Option Value) (h' : Heap) (L : List Loc) : Prop := v = none ∧ (∀ y ∈ L, y.base = x) ∧ RoadKit.Keep h h' [x] ∧ h'.size = h.size + 1 ∧ RoadKit.Exa Z h' x ST ∧ RoadKit.Fld Z h' x ST "value" "[B" (.ref h.size) ∧ RoadKit.Fld Z h' x ST "coder" "B" (.int 0) ∧
  (∃ kb, Z.vm.findClass "[B" = some kb ∧ RoadKit.Arv Z h' h.size kb .byte zn (cs.map fun c => .int (lo8 c)) (.int 0)) ∧
  ∀ (O n d : String) (w : Value), RoadKit.Fld Z h x O n d w → RoadKit.slotOf Z O n d ≠ RoadKit.slotOf Z ST "value" "[B" → RoadKit.slotOf Z O n d ≠ RoadKit.slotOf Z ST "coder" "B" → RoadKit.Fld Z h' x O n d w
/-- **new String(chars) AT A CALL, THE ARRAYS AS LISTS**: the char[] at b holds cs, not empty, no char above 255 -/
theorem backArv {p : Program} {l : Launch} {e : Env} {R : Room} {s : State} {args : Array Value} {below : List Frame} {len W : Nat} {Z : State} {a0 : Array Value} {h : Heap} (hZ : Z.Warmed39 s.vm) (hw : ∀ d ∈ words, d.before a0 Z = true) {kI : Nat} (wi : (Jvm.Cond.instantiable ST kI).before a0 Z = true)
    {x b : Addr} {k : ClassId} {zn z : Int32} {cs : List Int32} {dv v0 c0 : Value} (E : RoadKit.Exa Z h x ST) (V : RoadKit.Fld Z h x ST "value" "[B" v0) (C : RoadKit.Fld Z h x ST "coder" "B" c0) (K : RoadKit.Arv Z h b k .char zn (cs.map Value.int) dv) (S : RoadKit.Sta Z h ST "COMPACT_STRINGS" "Z" (.int z)) (hz : ¬ z = 0)
    (hlen : zn.toNatClampNeg = cs.length) (h0 : 0 < cs.length) (hbig : cs.length ≤ 536870912) (hall : ∀ c ∈ cs, ¬ 255 < c) (hfr : 4 ≤ R.frames) (hlo : W + 65 ≤ R.locals) :
    Back l R p e below s args New1.yN len W (fun P a => a = #[.ref x, .ref b] ∧ P.U.heap = h ∧ P.cells + 1 ≤ R.cells ∧ P.slots + cs.length ≤ R.slots)
      (fun P _ v B => ∃ L, QA Z x zn cs h v B.U.heap L ∧ B.locs = P.locs ++ L ∧ B.cells = P.cells + 1 ∧ B.slots = P.slots + cs.length) := by
  obtain ⟨A, K1, K2, K3, K4, K5, K6⟩ := K
  have e : A.slots.size = cs.length := K3.trans hlen
  have hat : ∀ (i : Nat) (hi : i < cs.length), A.slots[i]? = some (.int cs[i]) := fun i hi => by rw [K5 i (by omega)]; simp [List.getD_eq_getElem?_getD, hi]
  have hcv : ∀ (i : Nat) (hi : i < cs.length), cv A i = cs[i] := fun i hi => by unfold cv; rw [hat i hi]
  have hty : Typed .char A := fun i v hv => by
    have hi : i < A.slots.size := (Array.getElem?_eq_some_iff.mp hv).1
    have q := K5 i hi
    rw [hv] at q
    rw [Option.some.inj q]
    exact K6 i hi
  refine Back.mono (back hZ hw wi E V C K1 hty S hz (by omega) (by omega) (fun i hi => by rw [hcv i (by omega)]; exact hall _ (List.getElem_mem _)) hfr hlo) (fun P a hp => ⟨hp.1, hp.2.1, hp.2.2.1, by rw [e]; exact hp.2.2.2⟩) (fun P a v B hp hq => ?_)
  obtain ⟨L, ⟨q1, q2, q3, q4, q5, q6, q7, ⟨V', v1, v2, v3, v4, v5⟩, q9⟩, hl, hc, hs⟩ := hq
  refine ⟨L, ⟨q1, q2, q3, q4, q5, q6, q7, ⟨V'.cls, v3, V', v1, rfl, by rw [v4, e, hlen], K4, fun i hi => ?_, fun i hi => ?_⟩, q9⟩, hl, hc, by rw [hs, e]⟩
  · have hi' : i < cs.length := by omega
    rw [v5 i (by omega), hcv i hi']; simp [List.getD_eq_getElem?_getD, hi']
  · have hi' : i < cs.length := by omega
    simp only [List.getD_eq_getElem?_getD, List.getElem?_map, List.getElem?_eq_getElem hi', Option.map_some, Option.getD_some]
    exact fits_lo8 _
end StrChars.Road
namespace StrChars.Road
open Jvm Sem ClassFile Op Lib Jvm.Stand Jvm.Free Jvm.Free.XT
/-- WHAT COMES BACK, in the writer's own shape -/
def QV (Z : State) (x : Addr) (N : Int32) (bs : List Int32) (h : Heap) (n0 : Nat) (v : Option Value) (h' : Heap) (L : List Loc) : Prop := v = none ∧ RoadKit.Fr n0 L ∧ RoadKit.Keep h h' [x] ∧ RoadKit.Exa Z h' x ST ∧ RoadKit.Fld Z h' x ST "coder" "B" (.int 0) ∧
  ∃ (t : Addr) (kb : ClassId), n0 ≤ t ∧ h.size ≤ t ∧ ¬ t = x ∧ RoadKit.Fld Z h' x ST "value" "[B" (.ref t) ∧ RoadKit.Arv Z h' t kb .byte N (bs.map Value.int) (.int 0)
/-- **new String(chars) AT A CALL, FOR THE WRITER**: a char[] of n known ints, each 0 to 255 -/
theorem backV {p : Program} {l : Launch} {e : Env} {R : Room} {s : State} {args : Array Value} {below : List Frame} {len W : Nat} {Z : State} {a0 : Array Value} {h : Heap} (hZ : Z.Warmed39 s.vm) (hw : ∀ d ∈ words, d.before a0 Z = true) {kI : Nat} (wi : (Jvm.Cond.instantiable ST kI).before a0 Z = true)
    {x b : Addr} {kC : ClassId} {cs bs : List Int32} {d v0 c0 : Value} {z N : Int32} {n n0 : Nat} (hx0 : n0 ≤ x) (hh0 : n0 ≤ h.size) (E : RoadKit.Exa Z h x ST) (V : RoadKit.Fld Z h x ST "value" "[B" v0) (C : RoadKit.Fld Z h x ST "coder" "B" c0) (K : RoadKit.Arv Z h b kC .char N (cs.map Value.int) d) (S : RoadKit.Sta Z h ST "COMPACT_STRINGS" "Z" (.int z)) (hz : ¬ z = 0)
    (hn : cs.length = n) (hN : N = Int32.ofNat n) (l0 : 0 < n) (l2 : n ≤ 4000) (hp : ∀ c ∈ cs, ¬ c < 0 ∧ ¬ (255 : Int32) < c) (hb : bs = cs.map (fun c => c.toInt8.toInt32)) (hfr : 4 ≤ R.frames) (hlo : W + 65 ≤ R.locals) :
    Back l R p e below s args (⟨"java/lang/String", "<init>", "([C)V"⟩ : MethodName) len W (fun P a => a = #[.ref x, .ref b] ∧ P.U.heap = h ∧ P.cells + 1 ≤ R.cells ∧ P.slots + n ≤ R.slots)
      (fun P _ v B => ∃ L, QV Z x N bs h n0 v B.U.heap L ∧ B.locs = P.locs ++ L ∧ B.cells = P.cells + 1 ∧ B.slots = P.slots + n) := by
  subst hn hN hb
  refine Back.mono (backArv hZ hw wi E V C K S hz (n32 (by omega)) l0 (by omega) (fun c hc => (hp c hc).2) hfr hlo) (fun P a hp => hp) (fun P a v B hp hq => ?_)
  obtain ⟨L, ⟨q1, q2, q3, q4, q5, q6, q7, ⟨kb, v1, v2⟩, q9⟩, hl, hc, hs⟩ := hq
  exact ⟨L, ⟨q1, fun y hy => by rw [q2 y hy]; exact hx0, q3, q5, q7, h.size, kb, hh0, Nat.le_refl _, Nat.ne_of_gt E.lt, q6, by rw [List.map_map]; exact v2⟩, hl, hc, hs⟩
end StrChars.Road
namespace StrChars
open Jvm Sem ClassFile Op Lib Jvm.Stand Jvm.Free.XT Jvm.Free.ALB Jvm.Free.JM Jvm.Free
open Jvm.Lib.Cold (StaticIs)
def hi8 (x : Int32) : Int32 := lo8 (x >>> ((8 : Int32) &&& 31))
/-- what StringUTF16.getChar makes of two bytes -/
def pairCh (u v : Int32) : Int32 := (((u &&& 255) <<< ((0 : Int32) &&& 31)) ||| ((v &&& 255) <<< ((8 : Int32) &&& 31))).toUInt32.toUInt16.toUInt32.toInt32
theorem lo8_and (x : Int32) : (lo8 x &&& 255).toBitVec.toNat = x.toBitVec.toNat % 256 := by
  have h : (lo8 x).toBitVec = (x.toBitVec.signExtend 8).signExtend 32 := by rw [lo8, Int8.toBitVec_toInt32, Int32.toBitVec_toInt8]
  rw [Int32.toBitVec_and, BitVec.toNat_and, h]
  have e : ((x.toBitVec.signExtend 8).signExtend 32).toNat % 256 = x.toBitVec.toNat % 256 := by
    rw [BitVec.toNat_signExtend]
    have hlt := x.toBitVec.isLt
    simp only [BitVec.toNat_setWidth, BitVec.toNat_signExtend]
    split <;> split <;> omega
  rw [← e]
  exact Nat.and_two_pow_sub_one_eq_mod _ 8
theorem pair_says {c : Int32} (h0 : ¬ c < 0) (h1 : ¬ 65535 < c) : pairCh (lo8 c) (hi8 c) = c := by
  rw [Int32.lt_iff_toInt_lt] at h0 h1
  have e0 : (0 : Int32).toInt = 0 := rfl
  have e1 : (65535 : Int32).toInt = 65535 := rfl
  have hc : c.toInt = c.toBitVec.toNat := by
    have := c.toBitVec.isLt
    have e : c.toInt = c.toBitVec.toInt := rfl
    rw [e] at h0 h1
    rw [e]
    rw [BitVec.toInt_eq_toNat_cond] at h0 h1 ⊢
    split at h0 <;> split <;> omega
  have hn : c.toBitVec.toNat < 65536 := by omega
  have a1 := lo8_and c
  have a2 : (hi8 c &&& 255).toBitVec.toNat = c.toBitVec.toNat / 256 := by
    rw [hi8, lo8_and]
    have e : ((8 : Int32) &&& 31) = 8 := by decide
    rw [e, Int32.toBitVec_shiftRight]
    have e2 : ((8 : Int32).toBitVec.smod 32) = 8#32 := by decide
    rw [e2, BitVec.sshiftRight_eq', BitVec.toNat_sshiftRight_of_msb_false (by rw [BitVec.msb_eq_false_iff_two_mul_lt]; omega)]
    show c.toBitVec.toNat >>> 8 % 256 = _
    rw [Nat.shiftRight_eq_div_pow]
    omega
  unfold pairCh
  apply Int32.toBitVec_inj.mp
  apply BitVec.eq_of_toNat_eq
  have f0 : ((0 : Int32) &&& 31) = 0 := by decide
  have f8 : ((8 : Int32) &&& 31) = 8 := by decide
  rw [f0, f8]
  have g : (((lo8 c &&& 255) <<< (0 : Int32)) ||| ((hi8 c &&& 255) <<< (8 : Int32))).toBitVec.toNat = c.toBitVec.toNat := by
    rw [Int32.toBitVec_or, Int32.toBitVec_shiftLeft, Int32.toBitVec_shiftLeft]
    have s0 : ((0 : Int32).toBitVec.smod 32) = 0#32 := by decide
    have s8 : ((8 : Int32).toBitVec.smod 32) = 8#32 := by decide
    rw [s0, s8, BitVec.toNat_or]
    simp only [BitVec.shiftLeft_eq', BitVec.toNat_shiftLeft, a1, a2]
    show (c.toBitVec.toNat % 256) <<< 0 % 2 ^ 32 ||| (c.toBitVec.toNat / 256) <<< 8 % 2 ^ 32 = _
    rw [Nat.shiftLeft_zero, Nat.mod_eq_of_lt (show c.toBitVec.toNat % 256 < 2 ^ 32 by omega), Nat.mod_eq_of_lt (show (c.toBitVec.toNat / 256) <<< 8 < 2 ^ 32 by rw [Nat.shiftLeft_eq]; omega), Nat.or_comm, ← Nat.shiftLeft_add_eq_or_of_lt (by omega), Nat.shiftLeft_eq]
    omega
  show BitVec.toNat (((((lo8 c &&& 255) <<< (0 : Int32)) ||| ((hi8 c &&& 255) <<< (8 : Int32))).toBitVec.setWidth 16).setWidth 32) = _
  rw [BitVec.toNat_setWidth, BitVec.toNat_setWidth, g]
  omega
end StrChars
namespace StrChars
open Jvm Sem ClassFile Op Lib Jvm.Stand Jvm.Free.XT Jvm.Free.ALB Jvm.Free.JM Jvm.Free
open Jvm.Lib.Cold (StaticIs)
/-- charAt's cast of a byte read back -/
def chr8 (u : Int32) : Int32 := (u &&& 255).toUInt32.toUInt16.toUInt32.toInt32
theorem chr8_lo8 {c : Int32} (h0 : ¬ c < 0) (h1 : ¬ 255 < c) : chr8 (lo8 c) = c := by
  have t : ∀ k : Fin 256, (Int32.ofNat k.val).toUInt32.toUInt16.toUInt32.toInt32 = Int32.ofNat k.val := by decide +kernel
  unfold chr8
  rw [lo8_mask h0 h1]
  rw [Int32.lt_iff_toInt_lt] at h0 h1
  have e0 : (0 : Int32).toInt = 0 := rfl
  have e1 : (255 : Int32).toInt = 255 := rfl
  obtain ⟨k, hk⟩ : ∃ k : Nat, c.toInt = k := ⟨c.toInt.toNat, by omega⟩
  have hx : c = Int32.ofNat k := Int32.toInt_inj.mp (by rw [hk, Int32.toInt_ofNat_small (by omega)])
  rw [hx]
  exact t ⟨k, by omega⟩
theorem narrow_ch {c : Int32} (h0 : ¬ c < 0) (h1 : ¬ 65535 < c) : narrow .char (.int c) = .int c := by
  have q : narrow .char (.int (pairCh (lo8 c) (hi8 c))) = .int (pairCh (lo8 c) (hi8 c)) := narrow_c _
  rwa [pair_says h0 h1] at q
/-- the array's cell V codes the n chars f 0 .. f (n - 1) by the coder cd, as the JDK does: coder 1 just where some char is above 255 -/
def Cod (cd : Int32) (n : Nat) (f : Nat → Int32) (V : Cell) : Prop := (cd = 0 ∧ V.slots.size = n ∧ ∀ j, j < n → V.slots[j]? = some (.int (lo8 (f j))) ∧ ¬ 255 < f j) ∨ (cd = 1 ∧ V.slots.size = 2 * n ∧ (∀ j, j < n → V.slots[2 * j]? = some (.int (lo8 (f j))) ∧ V.slots[2 * j + 1]? = some (.int (hi8 (f j)))) ∧ ∃ j, j < n ∧ 255 < f j)
theorem Cod.cd {cd : Int32} {n : Nat} {f : Nat → Int32} {V : Cell} (h : Cod cd n f V) : cd = 0 ∨ cd = 1 := h.imp (fun q => q.1) fun q => q.1
/-- **x is a String of the n chars f 0 .. f (n - 1)**, Latin-1 or UTF-16; its array at t has the cell V -/
def Txt (x t : Addr) (V : Cell) (cd : Int32) (n : Nat) (f : Nat → Int32) (U : State) : Prop := Exact "java/lang/String" x U ∧ Has x "java/lang/String" "value" "[B" (.ref t) U ∧ Has x "java/lang/String" "coder" "B" (.int cd) U ∧ XT.Arr .byte t V U ∧ Cod cd n f V ∧ ∀ j, j < n → ¬ f j < 0 ∧ ¬ 65535 < f j
theorem Txt.mv {x t : Addr} {V : Cell} {cd : Int32} {n : Nat} {f : Nat → Int32} {U U' : State} (h : Txt x t V cd n f U) (hal : U.vm.Alike U'.vm) (hh : U'.heap = U.heap) : Txt x t V cd n f U' := ⟨h.1.mv hal hh, h.2.1.mv hal hh, h.2.2.1.mv hal hh, h.2.2.2.1.mv hal hh, h.2.2.2.2⟩
namespace IsL
def yN : MethodName := ⟨"java/lang/String", "isLatin1", "()Z"⟩
abbrev yB : ByteArray := jdk_42_method_154_code
theorem d0 : decode yB 0 = .ok (.getstatic 38, 3) := by decide +kernel
theorem d3 : decode yB 3 = .ok (.ifCond (.eq) 14, 3) := by decide +kernel
theorem d6 : decode yB 6 = .ok (.aload_n 0, 1) := by decide +kernel
theorem d7 : decode yB 7 = .ok (.getfield 15, 3) := by decide +kernel
theorem d10 : decode yB 10 = .ok (.ifCond (.ne) 7, 3) := by decide +kernel
theorem d13 : decode yB 13 = .ok (.iconst 1, 1) := by decide +kernel
theorem d14 : decode yB 14 = .ok (.goto 4, 3) := by decide +kernel
theorem d17 : decode yB 17 = .ok (.iconst 0, 1) := by decide +kernel
theorem d18 : decode yB 18 = .ok (.ireturn, 1) := by decide +kernel
def site : List Cond := [.fieldLink "java/lang/String" 38 "java/lang/String" "COMPACT_STRINGS" "Z", .fieldLink "java/lang/String" 15 "java/lang/String" "coder" "B"]
def tab : Cond := tabOf yN yB 1 (some .boolean) site
def P (x : Addr) (cd z : Int32) (args : Array Value) (s : State) : Prop := args = #[.ref x] ∧ Has x "java/lang/String" "coder" "B" (.int cd) s ∧ (cd = 0 ∨ cd = 1) ∧ StaticIs s "java/lang/String" "COMPACT_STRINGS" "Z" (.int z) ∧ ¬ z = 0
def E (cd : Int32) (r : Option Value) (s u : State) : Prop := XT.PureE (some (.int (1 - cd))) r s u
theorem law (l : Launch) (x : Addr) (cd z : Int32) : Law l yN 1 0 0 0 yB 1 (some .boolean) site (P x cd z) (E cd) [] 0 0 := by
  refine Law.of_walk (plainFor_of_name (by decide +kernel)) (by decide +kernel) (by decide +kernel) (by decide) (fun _ _ h => by rw [h.1]; rfl) (fun _ U U' hal hh h => ⟨h.1, h.2.1.mv hal hh, h.2.2.1, h.2.2.2.1.there hal hh, h.2.2.2.2⟩) (fun r U U' V V' h1 hal h2 h => XT.PureE.mv r U U' V V' h1 hal h2 h) ?_
  intro p e s m args below meth c s₁ X0 hexec hbytes hml hret hlk hnm hown hh0 W hP
  obtain ⟨rfl, hx, hc, s1, hz⟩ := hP
  have c1 : Steps p.tables e below (s₁.setTop (entryFrame m #[.ref x] 1)) (s₁.setTop (mkF m 0 #[.val (.ref x)] [])) := entry rfl
  obtain ⟨T2, X2, q2, st2⟩ := X0.sget hexec hown (wk W (.fieldLink "java/lang/String" 38 "java/lang/String" "COMPACT_STRINGS" "Z")) s1 (fun _ _ h => by rw [hh0]; exact h) (g := (mkF m 0 #[.val (.ref x)] [])) rfl (hb hbytes d0)
  have hh2 := q2.trans hh0
  have c3 : Steps p.tables e below (s₁.setTop (entryFrame m #[.ref x] 1)) (T2.setTop (mkF m 7 #[.val (.ref x)] [.ref x])) := (c1.trans (st2 _ (Steps.refl _))).trans (by
    refine XS.ifNo X2.here hexec rfl (hb hbytes d3) rfl (i0_eq_f hz) ?_
    refine XS.aloadN X2.here hexec rfl (hb hbytes d6) rfl rfl ?_
    exact Steps.refl _)
  obtain ⟨T4, X4, q4, st4⟩ := X2.hget hexec hown (wk W (.fieldLink "java/lang/String" 15 "java/lang/String" "coder" "B")) (hx.mv X2.warmed.alike hh2) (g := (mkF m 7 #[.val (.ref x)] [.ref x])) rfl (rest := []) rfl (hb hbytes d7)
  have c5 : Steps p.tables e below (s₁.setTop (entryFrame m #[.ref x] 1)) (T4.setTop (mkF m 10 #[.val (.ref x)] [.int cd])) := c3.trans (st4 _ (Steps.refl _))
  have c6 : Steps p.tables e below (s₁.setTop (entryFrame m #[.ref x] 1)) (T4.setTop (mkF m 18 #[.val (.ref x)] [.int (1 - cd)])) := by
    rcases hc with rfl | rfl
    · exact c5.trans (by
        refine XS.ifNo X4.here hexec rfl (hb hbytes d10) rfl (i0_ne_f rfl) ?_
        refine iconstV X4.here hexec rfl 1 (hb hbytes d13) (by decide) ?_
        refine XS.goto X4.here hexec rfl (pc0 := 14) rfl (hb hbytes d14) (by decide) rfl ?_
        exact Steps.refl _)
    · exact c5.trans (by
        refine XS.ifYes X4.here hexec rfl (pc0 := 10) rfl (hb hbytes d10) rfl (i0_ne_t (by decide)) (by decide) rfl ?_
        refine iconstV X4.here hexec rfl 0 (hb hbytes d17) (by decide) ?_
        exact Steps.refl _)
  exact ⟨T4, some (.int (1 - cd)), _, _, _, X4, rfl, rfl, rfl, (fun h => by cases h), ⟨rfl, q4.trans hh2⟩, fun fs hl => c6.trans (X4.ireturnOut hexec hret (by rcases hc with rfl | rfl <;> rfl) (Or.inr (Or.inl rfl)) (hb hbytes d18) hl)⟩
end IsL
namespace LChA
def yN : MethodName := ⟨"java/lang/StringLatin1", "charAt", "([BI)C"⟩
abbrev yB : ByteArray := jdk_43_method_2_code
theorem d0 : decode yB 0 = .ok (.iload_n 1, 1) := by decide +kernel
theorem d1 : decode yB 1 = .ok (.aload_n 0, 1) := by decide +kernel
theorem d2 : decode yB 2 = .ok (.arraylength, 1) := by decide +kernel
theorem d3 : decode yB 3 = .ok (.invokestatic 9, 3) := by decide +kernel
theorem d6 : decode yB 6 = .ok (.aload_n 0, 1) := by decide +kernel
theorem d7 : decode yB 7 = .ok (.iload_n 1, 1) := by decide +kernel
theorem d8 : decode yB 8 = .ok (.baload, 1) := by decide +kernel
theorem d9 : decode yB 9 = .ok (.sipush 255, 3) := by decide +kernel
theorem d12 : decode yB 12 = .ok (.iand, 1) := by decide +kernel
theorem d13 : decode yB 13 = .ok (.i2c, 1) := by decide +kernel
theorem d14 : decode yB 14 = .ok (.ireturn, 1) := by decide +kernel
def site : List Cond := [JO.Str_checkIndex.tab] ++ staticW "java/lang/StringLatin1" 9 JO.Str_checkIndex.yN
def tab : Cond := tabOf yN yB 2 (some .char) site
def P (t : Addr) (V : Cell) (i : Nat) (u : Int32) (fm : Value) (args : Array Value) (s : State) : Prop := args = #[.ref t, .int (Int32.ofNat i)] ∧ XT.Arr .byte t V s ∧ V.slots[i]? = some (.int u) ∧ (StaticIs s "jdk/internal/util/Preconditions" "SIOOBE_FORMATTER" "Ljava/util/function/BiFunction;" fm ∧ fm.isRef = true)
def E (u : Int32) (r : Option Value) (s w : State) : Prop := XT.PureE (some (.int (chr8 u))) r s w
theorem law (l : Launch) (t : Addr) (V : Cell) (i : Nat) (u : Int32) (fm : Value) : Law l yN 2 2 2 27 yB 2 (some .char) site (P t V i u fm) (E u) [] 0 0 := by
  refine Law.of_walk (plainFor_of_name (by decide +kernel)) (by decide +kernel) (by decide +kernel) (by decide) (fun _ _ h => by rw [h.1]; rfl) (fun _ U U' hal hh h => ⟨h.1, h.2.1.mv hal hh, h.2.2.1, h.2.2.2.1.there hal hh, h.2.2.2.2⟩) (fun r U U' V V' h1 hal h2 h => XT.PureE.mv r U U' V V' h1 hal h2 h) ?_
  intro p e s m args below meth c s₁ X0 hexec hbytes hml hret hlk hnm hown hh0 W hP
  obtain ⟨rfl, hV, hu, s1, rf⟩ := hP
  have v31 := hV.2.2.2
  have hi : i < V.slots.size := (Array.getElem?_eq_some_iff.mp hu).1
  have c1 : Steps p.tables e below (s₁.setTop (entryFrame m #[.ref t, .int (Int32.ofNat i)] 2)) (s₁.setTop (mkF m 0 #[.val (.ref t), .val (.int (Int32.ofNat i))] [])) := entry rfl
  have c2 : Steps p.tables e below (s₁.setTop (entryFrame m #[.ref t, .int (Int32.ofNat i)] 2)) (s₁.setTop (mkF m 3 #[.val (.ref t), .val (.int (Int32.ofNat i))] [.int (Int32.ofNat V.slots.size), .int (Int32.ofNat i)])) := c1.trans (by
    refine XS.iloadN X0.here hexec rfl (hb hbytes d0) rfl ?_
    refine XS.aloadN X0.here hexec rfl (hb hbytes d1) rfl rfl ?_
    refine X0.alen hexec (hV.mv X0.warmed.alike hh0) rfl rfl (hb hbytes d2) ?_
    exact Steps.refl _)
  obtain ⟨v3, T3, X3, E3, g3⟩ := X0.callS hexec (JO.Str_checkIndex.law l (Int32.ofNat i) (Int32.ofNat V.slots.size) fm) hown (wks W (staticW "java/lang/StringLatin1" 9 JO.Str_checkIndex.yN)) (wk W JO.Str_checkIndex.tab) (W := 0) (Nat.le_of_ble_eq_true rfl) (Nat.le_of_ble_eq_true rfl) (Nat.le_refl _) (Nat.le_refl _) (g := (mkF m 3 #[.val (.ref t), .val (.int (Int32.ofNat i))] [.int (Int32.ofNat V.slots.size), .int (Int32.ofNat i)])) rfl (by rw [hml]; rfl) c2 (argsL := [.int (Int32.ofNat i), .int (Int32.ofNat V.slots.size)]) (rest := []) rfl rfl (by show 2 * 0 + 0 ≤ _; decide) (hb hbytes d3) (⟨rfl, rf, s1.there X0.warmed.alike hh0, Int32.ofNat_not_neg (by omega), lt32 v31 hi⟩)
  obtain ⟨rfl, q3⟩ := E3
  have hh3 := q3.trans hh0
  have c4 : Steps p.tables e below (s₁.setTop (entryFrame m #[.ref t, .int (Int32.ofNat i)] 2)) (T3.setTop (mkF m 14 #[.val (.ref t), .val (.int (Int32.ofNat i))] [.int (chr8 u)])) := Steps.trans g3 (by
    refine XS.aloadN X3.here hexec rfl (hb hbytes d6) rfl rfl ?_
    refine XS.iloadN X3.here hexec rfl (hb hbytes d7) rfl ?_
    refine X3.aget hexec (hV.mv X3.warmed.alike hh3) rfl hu rfl rfl (hb hbytes d8) ?_
    refine sipushV X3.here hexec rfl 255 (hb hbytes d9) (by decide) ?_
    refine XS.iand X3.here hexec rfl (hb hbytes d12) rfl ?_
    refine i2c X3.here hexec rfl (hb hbytes d13) rfl ?_
    exact Steps.refl _)
  exact ⟨T3, some (.int (chr8 u)), _, _, _, X3, rfl, rfl, rfl, (fun h => by cases h), ⟨rfl, hh3⟩, fun fs hl => c4.trans (X3.ireturnOut hexec hret (narrow_c _) (Or.inr (Or.inr (Or.inr (Or.inl rfl)))) (hb hbytes d14) hl)⟩
end LChA
end StrChars
namespace StrChars.Road
open Jvm Sem ClassFile Op Lib Jvm.Stand Jvm.Free Jvm.Free.XT
open Jvm.Lib.Cold (StaticIs)
theorem consq {a : Array Value} {s : State} {c : Jvm.Cond} {L : List Jvm.Cond} (h0 : c.before a s = true) (h : ∀ w ∈ L, w.before a s = true) : ∀ w ∈ c :: L, w.before a s = true := fun w hw => (List.mem_cons.mp hw).elim (fun e => e ▸ h0) (h w)
/-- the bytes of the chars cs, low before high -/
def wideBytes : List Int32 → List Value
  | [] => []
  | c :: cs => .int (lo8 c) :: .int (hi8 c) :: wideBytes cs
theorem wide_lo (d : Value) : ∀ (cs : List Int32) (j : Nat), j < cs.length → (wideBytes cs).getD (2 * j) d = .int (lo8 (cs.getD j 0))
  | [], j, h => absurd h (Nat.not_lt_zero j)
  | c :: cs, 0, _ => rfl
  | c :: cs, j + 1, h => by
    have q := wide_lo d cs j (by simpa using h)
    rw [show 2 * (j + 1) = 2 * j + 1 + 1 from by omega]
    simpa [wideBytes] using q
theorem wide_hi (d : Value) : ∀ (cs : List Int32) (j : Nat), j < cs.length → (wideBytes cs).getD (2 * j + 1) d = .int (hi8 (cs.getD j 0))
  | [], j, h => absurd h (Nat.not_lt_zero j)
  | c :: cs, 0, _ => rfl
  | c :: cs, j + 1, h => by
    have q := wide_hi d cs j (by simpa using h)
    rw [show 2 * (j + 1) + 1 = 2 * j + 1 + 1 + 1 from by omega]
    simpa [wideBytes] using q
theorem low_at (d : Value) (cs : List Int32) (j : Nat) (h : j < cs.length) : (cs.map fun c => Value.int (lo8 c)).getD j d = .int (lo8 (cs.getD j 0)) := by
  simp [List.getD_eq_getElem?_getD, h]
/-- an array of N2 bytes vs codes the chars cs by the coder cd -/
def CodA (cs : List Int32) (cd N2 : Int32) (vs : List Value) : Prop := (cd = 0 ∧ N2 = Int32.ofNat cs.length ∧ vs = (cs.map fun c => Value.int (lo8 c)) ∧ ∀ c ∈ cs, ¬ 255 < c) ∨ (cd = 1 ∧ N2 = Int32.ofNat (2 * cs.length) ∧ vs = wideBytes cs ∧ ∃ c ∈ cs, 255 < c)
theorem CodA.cod {cs : List Int32} {cd N2 : Int32} {vs : List Value} {V : Cell} (h : CodA cs cd N2 vs) (hn : 2 * cs.length < 2 ^ 31) (hs : V.slots.size = N2.toNatClampNeg) (hv : RoadKit.Has V vs (.int 0)) : Cod cd cs.length (fun j => cs.getD j 0) V := by
  rcases h with ⟨rfl, rfl, rfl, h⟩ | ⟨rfl, rfl, rfl, c, hc, hw⟩
  · rw [n32 (by omega)] at hs
    exact Or.inl ⟨rfl, hs, fun j hj => ⟨by rw [hv j (by omega), low_at _ _ _ hj], by
      have e : cs.getD j 0 = cs[j] := by simp [List.getD_eq_getElem?_getD, hj]
      show ¬ 255 < cs.getD j 0
      rw [e]; exact h _ (List.getElem_mem _)⟩⟩
  · rw [n32 (by omega)] at hs
    obtain ⟨j, hj, rfl⟩ := List.getElem_of_mem hc
    exact Or.inr ⟨rfl, hs, fun j hj => ⟨by rw [hv _ (by omega), wide_lo _ _ _ hj], by rw [hv _ (by omega), wide_hi _ _ _ hj]⟩, j, hj, by
      have e : cs.getD j 0 = cs[j] := by simp [List.getD_eq_getElem?_getD, hj]
      show 255 < cs.getD j 0
      rw [e]; exact hw⟩
/-- an object of exactly java/lang/String, its two fields found: as the laws ask it -/
theorem strObj {Z U : State} {a0 : Array Value} {kI : Nat} (wi : (Jvm.Cond.instantiable ST kI).before a0 Z = true) (al : Z.vm.Alike U.vm) {x : Addr} {v0 c0 : Value} (E : RoadKit.Exa Z U.heap x ST) (V : RoadKit.Fld Z U.heap x ST "value" "[B" v0) (C : RoadKit.Fld Z U.heap x ST "coder" "B" c0) :
    ∃ (D : Cell) (fV fC : Field), Blank ST x D U ∧ Found ST "value" "[B" fV U ∧ Found ST "coder" "B" fC U ∧ D.slots[fV.slot]? = some v0 ∧ D.slots[fC.slot]? = some c0 ∧ RoadKit.slotOf Z ST "value" "[B" = fV.slot ∧ RoadKit.slotOf Z ST "coder" "B" = fC.slot := by
  obtain ⟨D, cfV, kV, iV, fV, hD, gV, stV, knV, obV, asV, slV⟩ := V
  obtain ⟨D', cfC, kC, iC, fC, hD', gC, stC, -, -, asC, slC⟩ := C
  cases hD.symm.trans hD'
  obtain ⟨D2, kD, e1, e2, e3, e4, e5⟩ := E
  cases hD.symm.trans e1
  obtain ⟨c2, k2, i1, i2, i3, -⟩ := Cond.instantiable_spec wi
  cases e2.symm.trans i1
  cases e3.symm.trans i2
  obtain ⟨kU, u1, u2⟩ := al.2.2 _ _ e3
  exact ⟨D, fV, fC, ⟨hD, ⟨knV, fun q hq => by rw [hq] at obV; cases obV⟩, by rw [al.findClass]; exact e2, kU, u1, by rw [u2]; exact i3, by rw [u2]; exact e5 i3⟩, ⟨SBG.found_only al ⟨cfV, kV, iV, gV⟩, stV⟩, ⟨SBG.found_only al ⟨cfC, kC, iC, gC⟩, stC⟩, slV, slC, by simp [RoadKit.slotOf, gV], by simp [RoadKit.slotOf, gC]⟩
theorem sta_is {Z U : State} (al : Z.vm.Alike U.vm) {C n d : String} {v : Value} (S : RoadKit.Sta Z U.heap C n d v) : StaticIs U C n d v := by
  obtain ⟨cfS, iS, kS, fS, st, cS, t1, t2, t3, t4, t5, t6, t7⟩ := S
  exact StaticIs.there (s := { Z with heap := U.heap }) ⟨cfS, iS, kS, fS, st, cS, t1, t2, t3, t4, t5, (fun q => by rw [q] at t6; cases t6), t7⟩ al rfl
end StrChars.Road
namespace StrChars
open Jvm Sem ClassFile Op Lib Jvm.Stand Jvm.Free.XT Jvm.Free.ALB Jvm.Free.JM Jvm.Free
open Jvm.Lib.Cold (StaticIs)
/-- what place i of a byte[]'s cell holds -/
def yv (A : Cell) (i : Nat) : Int32 := match A.slots[i]? with | some (.int x) => x | _ => 0
theorem yv_get {a : Addr} {A : Cell} {U : State} (h : XT.Arr .byte a A U) (ht : Typed .byte A) {i : Nat} (hi : i < A.slots.size) : A.slots[i]? = some (.int (yv A i)) := by
  have e := Array.getElem?_eq_getElem hi
  have f := ht i _ e
  unfold yv; rw [e]
  generalize A.slots[i] = v at f
  cases v <;> simp [fits] at f ⊢
/-- the two arrays are equal, place for place -/
def EqC (A B : Cell) : Prop := A.slots.size = B.slots.size ∧ ∀ i, i < A.slots.size → yv A i = yv B i
/-- a boolean that says whether p -/
def Says01 (q : Prop) (r : Option Value) (s u : State) : Prop := ∃ v : Int32, r = some (.int v) ∧ u.heap = s.heap ∧ ((v = 1 ∧ q) ∨ (v = 0 ∧ ¬ q))
theorem Says01.mv {q : Prop} : ∀ r (U U' V V' : State), U'.heap = U.heap → V.vm.Alike V'.vm → V'.heap = V.heap → Says01 q r U V → Says01 q r U' V' :=
  fun r U U' V V' h1 _ h2 ⟨v, a, b, c⟩ => ⟨v, a, by rw [h1, h2]; exact b, c⟩
namespace LEq
def yN : MethodName := ⟨"java/lang/StringLatin1", "equals", "([B[B)Z"⟩
abbrev yB : ByteArray := jdk_43_method_13_code
theorem d0 : decode yB 0 = .ok (.aload_n 0, 1) := by decide +kernel
theorem d1 : decode yB 1 = .ok (.arraylength, 1) := by decide +kernel
theorem d2 : decode yB 2 = .ok (.aload_n 1, 1) := by decide +kernel
theorem d3 : decode yB 3 = .ok (.arraylength, 1) := by decide +kernel
theorem d4 : decode yB 4 = .ok (.if_icmp (.ne) 30, 3) := by decide +kernel
theorem d7 : decode yB 7 = .ok (.iconst 0, 1) := by decide +kernel
theorem d8 : decode yB 8 = .ok (.istore_n 2, 1) := by decide +kernel
theorem d9 : decode yB 9 = .ok (.iload_n 2, 1) := by decide +kernel
theorem d10 : decode yB 10 = .ok (.aload_n 0, 1) := by decide +kernel
theorem d11 : decode yB 11 = .ok (.arraylength, 1) := by decide +kernel
theorem d12 : decode yB 12 = .ok (.if_icmp (.ge) 20, 3) := by decide +kernel
theorem d15 : decode yB 15 = .ok (.aload_n 0, 1) := by decide +kernel
theorem d16 : decode yB 16 = .ok (.iload_n 2, 1) := by decide +kernel
theorem d17 : decode yB 17 = .ok (.baload, 1) := by decide +kernel
theorem d18 : decode yB 18 = .ok (.aload_n 1, 1) := by decide +kernel
theorem d19 : decode yB 19 = .ok (.iload_n 2, 1) := by decide +kernel
theorem d20 : decode yB 20 = .ok (.baload, 1) := by decide +kernel
theorem d21 : decode yB 21 = .ok (.if_icmp (.eq) 5, 3) := by decide +kernel
theorem d24 : decode yB 24 = .ok (.iconst 0, 1) := by decide +kernel
theorem d25 : decode yB 25 = .ok (.ireturn, 1) := by decide +kernel
theorem d26 : decode yB 26 = .ok (.iinc 2 1, 3) := by decide +kernel
theorem d29 : decode yB 29 = .ok (.goto (-20), 3) := by decide +kernel
theorem d32 : decode yB 32 = .ok (.iconst 1, 1) := by decide +kernel
theorem d33 : decode yB 33 = .ok (.ireturn, 1) := by decide +kernel
theorem d34 : decode yB 34 = .ok (.iconst 0, 1) := by decide +kernel
theorem d35 : decode yB 35 = .ok (.ireturn, 1) := by decide +kernel
def site : List Cond := []
def tab : Cond := tabOf yN yB 3 (some .boolean) site
def P (a : Addr) (A : Cell) (b : Addr) (B : Cell) (args : Array Value) (s : State) : Prop := args = #[.ref a, .ref b] ∧ XT.Arr .byte a A s ∧ Typed .byte A ∧ XT.Arr .byte b B s ∧ Typed .byte B
/-- whether two byte[] are equal, place for place -/
theorem law (l : Launch) (a : Addr) (A : Cell) (b : Addr) (B : Cell) : Law l yN 2 2 0 0 yB 3 (some .boolean) site (P a A b B) (Says01 (EqC A B)) [] 0 0 := by
  refine Law.of_walk (plainFor_of_name (by decide +kernel)) (by decide +kernel) (by decide +kernel) (by decide) (fun _ _ h => by rw [h.1]; rfl) (fun _ U U' hal hh h => ⟨h.1, h.2.1.mv hal hh, h.2.2.1, h.2.2.2.1.mv hal hh, h.2.2.2.2⟩) (fun r U U' V V' h1 hal h2 h => Says01.mv r U U' V V' h1 hal h2 h) ?_
  intro p e s m args below meth c s₁ X0 hexec hbytes hml hret hlk hnm hown hh0 W hP
  obtain ⟨rfl, hA, tA, hB, tB⟩ := hP
  have a31 := hA.2.2.2
  have b31 := hB.2.2.2
  have hA0 := hA.mv X0.warmed.alike hh0
  have hB0 := hB.mv X0.warmed.alike hh0
  have c1 : Steps p.tables e below (s₁.setTop (entryFrame m #[.ref a, .ref b] 3)) (s₁.setTop (mkF m 0 #[.val (.ref a), .val (.ref b), .unset] [])) := entry rfl
  have c2 : Steps p.tables e below (s₁.setTop (entryFrame m #[.ref a, .ref b] 3)) (s₁.setTop (mkF m 4 #[.val (.ref a), .val (.ref b), .unset] [.int (Int32.ofNat B.slots.size), .int (Int32.ofNat A.slots.size)])) := c1.trans (by
    refine XS.aloadN X0.here hexec rfl (hb hbytes d0) rfl rfl ?_
    refine X0.alen hexec hA0 rfl rfl (hb hbytes d1) ?_
    refine XS.aloadN X0.here hexec rfl (hb hbytes d2) rfl rfl ?_
    refine X0.alen hexec hB0 rfl rfl (hb hbytes d3) ?_
    exact Steps.refl _)
  by_cases hs : A.slots.size = B.slots.size
  · have c3 : Steps p.tables e below (s₁.setTop (entryFrame m #[.ref a, .ref b] 3)) (s₁.setTop (mkF m 9 #[.val (.ref a), .val (.ref b), .val (.int 0)] [])) := c2.trans (by
      refine XS.icmpNo X0.here hexec rfl (hb hbytes d4) rfl (ii_ne_f (by rw [hs])) ?_
      refine iconstV X0.here hexec rfl 0 (hb hbytes d7) (by decide) ?_
      refine XS.istoreN X0.here hexec rfl (hb hbytes d8) rfl rfl ?_
      exact Steps.refl _)
    have loop : ∀ (r i : Nat), i + r = A.slots.size → (∀ j, j < i → yv A j = yv B j) → Steps p.tables e below (s₁.setTop (entryFrame m #[.ref a, .ref b] 3)) (s₁.setTop (mkF m 9 #[.val (.ref a), .val (.ref b), .val (.int (Int32.ofNat i))] [])) → ∃ (pc : Nat) (Ls : Array Slot) (v : Int32), (pc = 25 ∨ pc = 33) ∧ ((v = 1 ∧ EqC A B) ∨ (v = 0 ∧ ¬ EqC A B)) ∧ Steps p.tables e below (s₁.setTop (entryFrame m #[.ref a, .ref b] 3)) (s₁.setTop (mkF m pc Ls [.int v])) := by
      intro r
      induction r with
      | zero =>
        intro i hi he cl
        exact ⟨33, _, 1, Or.inr rfl, Or.inl ⟨rfl, hs, fun j hj => he j (by omega)⟩, cl.trans (by
          refine XS.iloadN X0.here hexec rfl (hb hbytes d9) rfl ?_
          refine XS.aloadN X0.here hexec rfl (hb hbytes d10) rfl rfl ?_
          refine X0.alen hexec hA0 rfl rfl (hb hbytes d11) ?_
          refine XS.icmpYes X0.here hexec rfl (pc0 := 12) rfl (hb hbytes d12) rfl (ii_ge_t (nlt32 (by omega) (by omega))) (by decide) rfl ?_
          refine iconstV X0.here hexec rfl 1 (hb hbytes d32) (by decide) ?_
          exact Steps.refl _)⟩
      | succ r ih =>
        intro i hi he cl
        have c4 : Steps p.tables e below (s₁.setTop (entryFrame m #[.ref a, .ref b] 3)) (s₁.setTop (mkF m 21 #[.val (.ref a), .val (.ref b), .val (.int (Int32.ofNat i))] [.int (yv B i), .int (yv A i)])) := cl.trans (by
          refine XS.iloadN X0.here hexec rfl (hb hbytes d9) rfl ?_
          refine XS.aloadN X0.here hexec rfl (hb hbytes d10) rfl rfl ?_
          refine X0.alen hexec hA0 rfl rfl (hb hbytes d11) ?_
          refine XS.icmpNo X0.here hexec rfl (hb hbytes d12) rfl (ii_ge_f (lt32 (by omega) (by omega))) ?_
          refine XS.aloadN X0.here hexec rfl (hb hbytes d15) rfl rfl ?_
          refine XS.iloadN X0.here hexec rfl (hb hbytes d16) rfl ?_
          refine X0.aget hexec hA0 rfl (yv_get hA tA (i := i) (by omega)) rfl rfl (hb hbytes d17) ?_
          refine XS.aloadN X0.here hexec rfl (hb hbytes d18) rfl rfl ?_
          refine XS.iloadN X0.here hexec rfl (hb hbytes d19) rfl ?_
          refine X0.aget hexec hB0 rfl (yv_get hB tB (i := i) (by omega)) rfl rfl (hb hbytes d20) ?_
          exact Steps.refl _)
        by_cases hv : yv A i = yv B i
        · have c5 : Steps p.tables e below (s₁.setTop (entryFrame m #[.ref a, .ref b] 3)) (s₁.setTop (mkF m 9 #[.val (.ref a), .val (.ref b), .val (.int (Int32.ofNat i + 1))] [])) := c4.trans (by
            refine XS.icmpYes X0.here hexec rfl (pc0 := 21) rfl (hb hbytes d21) rfl (ii_eq_t hv) (by decide) rfl ?_
            refine iincV X0.here hexec rfl 1 (hb hbytes d26) (by decide) rfl rfl ?_
            refine XS.goto X0.here hexec rfl (pc0 := 29) rfl (hb hbytes d29) (by decide) rfl ?_
            exact Steps.refl _)
          rw [succ32] at c5
          exact ih (i + 1) (by omega) (fun j hj => by
            by_cases e : j = i
            · rw [e]; exact hv
            · exact he j (by omega)) c5
        · exact ⟨25, _, 0, Or.inl rfl, Or.inr ⟨rfl, fun q => hv (q.2 i (by omega))⟩, c4.trans (by
            refine XS.icmpNo X0.here hexec rfl (hb hbytes d21) rfl (ii_eq_f hv) ?_
            refine iconstV X0.here hexec rfl 0 (hb hbytes d24) (by decide) ?_
            exact Steps.refl _)⟩
    obtain ⟨pc, Ls, v, hpc, hv, cz⟩ := loop A.slots.size 0 (by omega) (fun j hj => absurd hj (Nat.not_lt_zero j)) c3
    have nv : narrow .boolean (.int v) = .int v := by rcases hv with ⟨rfl, -⟩ | ⟨rfl, -⟩ <;> rfl
    rcases hpc with rfl | rfl
    · exact ⟨s₁, some (.int v), _, _, _, X0, rfl, rfl, rfl, (fun h => by cases h), ⟨v, rfl, hh0, hv⟩, fun fs hl => cz.trans (X0.ireturnOut hexec hret nv (Or.inr (Or.inl rfl)) (hb hbytes d25) hl)⟩
    · exact ⟨s₁, some (.int v), _, _, _, X0, rfl, rfl, rfl, (fun h => by cases h), ⟨v, rfl, hh0, hv⟩, fun fs hl => cz.trans (X0.ireturnOut hexec hret nv (Or.inr (Or.inl rfl)) (hb hbytes d33) hl)⟩
  · have c3 : Steps p.tables e below (s₁.setTop (entryFrame m #[.ref a, .ref b] 3)) (s₁.setTop (mkF m 35 #[.val (.ref a), .val (.ref b), .unset] [.int 0])) := c2.trans (by
      refine XS.icmpYes X0.here hexec rfl (pc0 := 4) rfl (hb hbytes d4) rfl (ii_ne_t (ne32 a31 b31 hs)) (by decide) rfl ?_
      refine iconstV X0.here hexec rfl 0 (hb hbytes d34) (by decide) ?_
      exact Steps.refl _)
    exact ⟨s₁, some (.int 0), _, _, _, X0, rfl, rfl, rfl, (fun h => by cases h), ⟨0, rfl, hh0, Or.inr ⟨rfl, fun q => hs q.1⟩⟩, fun fs hl => c3.trans (X0.ireturnOut hexec hret rfl (Or.inr (Or.inl rfl)) (hb hbytes d35) hl)⟩
end LEq
theorem Cod.ty {cd : Int32} {n : Nat} {f : Nat → Int32} {V : Cell} (h : Cod cd n f V) : Typed .byte V := fun i v hv => by
  have hi : i < V.slots.size := (Array.getElem?_eq_some_iff.mp hv).1
  rcases h with ⟨-, k1, k2⟩ | ⟨-, k1, k2, -⟩
  · rw [(k2 i (by omega)).1] at hv; cases hv; exact fits_lo8 _
  · rcases Nat.mod_two_eq_zero_or_one i with e | e
    · obtain ⟨j, rfl⟩ : ∃ j, i = 2 * j := ⟨i / 2, by omega⟩
      rw [(k2 j (by omega)).1] at hv; cases hv; exact fits_lo8 _
    · obtain ⟨j, rfl⟩ : ∃ j, i = 2 * j + 1 := ⟨i / 2, by omega⟩
      rw [(k2 j (by omega)).2] at hv; cases hv; exact fits_lo8 _
/-- the same text -/
def SameT (n : Nat) (f : Nat → Int32) (k : Nat) (g : Nat → Int32) : Prop := n = k ∧ ∀ j, j < n → f j = g j
theorem lo8_inj {x y : Int32} (h0 : ¬ x < 0) (h1 : ¬ 255 < x) (k0 : ¬ y < 0) (k1 : ¬ 255 < y) (h : lo8 x = lo8 y) : x = y := by
  rw [← lo8_mask h0 h1, ← lo8_mask k0 k1, h]
/-- arrays coded by one coder are equal just where the texts are -/
theorem Cod.eqv {cd : Int32} {n k : Nat} {f g : Nat → Int32} {V V' : Cell} (h : Cod cd n f V) (h' : Cod cd k g V') (hf : ∀ j, j < n → ¬ f j < 0 ∧ ¬ 65535 < f j) (hg : ∀ j, j < k → ¬ g j < 0 ∧ ¬ 65535 < g j) : EqC V V' ↔ SameT n f k g := by
  have yvv : ∀ {W : Cell} {i : Nat} {x : Int32}, W.slots[i]? = some (.int x) → yv W i = x := fun q => by unfold yv; rw [q]
  rcases h with ⟨rfl, k1, k2⟩ | ⟨rfl, k1, k2, -⟩
  · rcases h' with ⟨-, m1, m2⟩ | ⟨e, -⟩
    · constructor
      · rintro ⟨e1, e2⟩
        refine ⟨by omega, fun j hj => ?_⟩
        have q := e2 j (by omega)
        rw [yvv (k2 j hj).1, yvv (m2 j (by omega)).1] at q
        exact lo8_inj (hf j hj).1 (k2 j hj).2 (hg j (by omega)).1 (m2 j (by omega)).2 q
      · rintro ⟨rfl, e2⟩
        refine ⟨by omega, fun j hj => ?_⟩
        rw [yvv (k2 j (by omega)).1, yvv (m2 j (by omega)).1, e2 j (by omega)]
    · exact absurd e (by decide)
  · rcases h' with ⟨e, -⟩ | ⟨-, m1, m2, -⟩
    · exact absurd e (by decide)
    · constructor
      · rintro ⟨e1, e2⟩
        refine ⟨by omega, fun j hj => ?_⟩
        have q1 := e2 (2 * j) (by omega)
        have q2 := e2 (2 * j + 1) (by omega)
        rw [yvv (k2 j hj).1, yvv (m2 j (by omega)).1] at q1
        rw [yvv (k2 j hj).2, yvv (m2 j (by omega)).2] at q2
        rw [← pair_says (hf j hj).1 (hf j hj).2, ← pair_says (hg j (by omega)).1 (hg j (by omega)).2, q1, q2]
      · rintro ⟨rfl, e2⟩
        refine ⟨by omega, fun i hi => ?_⟩
        rcases Nat.mod_two_eq_zero_or_one i with e | e
        · obtain ⟨j, rfl⟩ : ∃ j, i = 2 * j := ⟨i / 2, by omega⟩
          rw [yvv (k2 j (by omega)).1, yvv (m2 j (by omega)).1, e2 j (by omega)]
        · obtain ⟨j, rfl⟩ : ∃ j, i = 2 * j + 1 := ⟨i / 2, by omega⟩
          rw [yvv (k2 j (by omega)).2, yvv (m2 j (by omega)).2, e2 j (by omega)]
/-- two codings differ: so do the texts -/
theorem Cod.dif {cd cd' : Int32} {n k : Nat} {f g : Nat → Int32} {V V' : Cell} (h : Cod cd n f V) (h' : Cod cd' k g V') (hne : ¬ cd = cd') : ¬ SameT n f k g := by
  rintro ⟨rfl, e⟩
  rcases h with ⟨rfl, -, k2⟩ | ⟨rfl, -, -, j, hj, hw⟩
  · rcases h' with ⟨rfl, -⟩ | ⟨-, -, -, j, hj, hw⟩
    · exact hne rfl
    · exact (k2 j hj).2 (by rw [e j hj]; exact hw)
  · rcases h' with ⟨-, -, m2⟩ | ⟨rfl, -⟩
    · exact (m2 j hj).2 (by rw [← e j hj]; exact hw)
    · exact hne rfl
/-- an object of exactly C is an instance of C -/
theorem cinst {p : Program} {l : Launch} {e : Env} {R : Room} {s : State} {m : MethodId} {args : Array Value} {below : List Frame} {meth : Method} {c : Code} {T : State} {locs : List Loc} {cells slots : Nat} (X : Stand p l e R s m args below meth c T locs cells slots) (hexec : p.tables.exec = Jvm.exec) {own C : String} {index : Nat} (hown : s.vm.findClass own = some m.cls) (hlink : (Cond.classLink own index C).before args s = true) {a : Addr} (hE : Exact C a T)
    {g : JFrame} (hg : g.method = m) {rest : List Value} (hstack : g.stack = .ref a :: rest) (hdg : decode c.code g.pc = .ok (.instanceof index, 3)) :
    ∃ T', Stand p l e R s m args below meth c T' locs cells slots ∧ T'.heap = T.heap ∧ ∀ target, Steps p.tables e below (T'.setTop { g with pc := g.pc + 3, stack := .int 1 :: rest }) target → Steps p.tables e below (T.setTop g) target := by
  obtain ⟨cB, h1, D, h2, h3, h4⟩ := hE
  have h1' : s.vm.findClass C = some cB := by rw [← X.warmed.alike.findClass]; exact h1
  obtain ⟨vm', X', st⟩ := X.instanceofYes hexec hown hlink h2 h4 h1' (by rw [h3]; exact Jvm.Free.SB.assignable_self _ _) hg hstack hdg
  exact ⟨_, X', rfl, st⟩
theorem cself {p : Program} {l : Launch} {e : Env} {R : Room} {s : State} {m : MethodId} {args : Array Value} {below : List Frame} {meth : Method} {c : Code} {T : State} {locs : List Loc} {cells slots : Nat} (X : Stand p l e R s m args below meth c T locs cells slots) (hexec : p.tables.exec = Jvm.exec) {own C : String} {index : Nat} (hown : s.vm.findClass own = some m.cls) (hlink : (Cond.classLink own index C).before args s = true) {a : Addr} (hE : Exact C a T)
    {g : JFrame} (hg : g.method = m) {rest : List Value} (hstack : g.stack = .ref a :: rest) (hdg : decode c.code g.pc = .ok (.checkcast index, 3)) :
    ∃ T', Stand p l e R s m args below meth c T' locs cells slots ∧ T'.heap = T.heap ∧ ∀ target, Steps p.tables e below (T'.setTop { g with pc := g.pc + 3, stack := .ref a :: rest }) target → Steps p.tables e below (T.setTop g) target := by
  obtain ⟨cB, h1, D, h2, h3, h4⟩ := hE
  have h1' : s.vm.findClass C = some cB := by rw [← X.warmed.alike.findClass]; exact h1
  obtain ⟨vm', X', st⟩ := X.checkcastYes hexec hown hlink h2 h4 h1' (by rw [h3]; exact Jvm.Free.SB.assignable_self _ _) hg hstack hdg
  exact ⟨_, X', rfl, fun t h => st t (by rw [← hstack] at h; exact h)⟩
namespace SEq
def yN : MethodName := ⟨"java/lang/String", "equals", "(Ljava/lang/Object;)Z"⟩
abbrev yB : ByteArray := jdk_42_method_66_code
theorem d0 : decode yB 0 = .ok (.aload_n 0, 1) := by decide +kernel
theorem d1 : decode yB 1 = .ok (.aload_n 1, 1) := by decide +kernel
theorem d2 : decode yB 2 = .ok (.if_acmp (.ne) 5, 3) := by decide +kernel
theorem d5 : decode yB 5 = .ok (.iconst 1, 1) := by decide +kernel
theorem d6 : decode yB 6 = .ok (.ireturn, 1) := by decide +kernel
theorem d7 : decode yB 7 = .ok (.aload_n 1, 1) := by decide +kernel
theorem d8 : decode yB 8 = .ok (.instanceof 10, 3) := by decide +kernel
theorem d11 : decode yB 11 = .ok (.ifCond (.eq) 43, 3) := by decide +kernel
theorem d14 : decode yB 14 = .ok (.aload_n 1, 1) := by decide +kernel
theorem d15 : decode yB 15 = .ok (.checkcast 10, 3) := by decide +kernel
theorem d18 : decode yB 18 = .ok (.astore_n 2, 1) := by decide +kernel
theorem d19 : decode yB 19 = .ok (.getstatic 38, 3) := by decide +kernel
theorem d22 : decode yB 22 = .ok (.ifCond (.eq) 14, 3) := by decide +kernel
theorem d25 : decode yB 25 = .ok (.aload_n 0, 1) := by decide +kernel
theorem d26 : decode yB 26 = .ok (.getfield 15, 3) := by decide +kernel
theorem d29 : decode yB 29 = .ok (.aload_n 2, 1) := by decide +kernel
theorem d30 : decode yB 30 = .ok (.getfield 15, 3) := by decide +kernel
theorem d33 : decode yB 33 = .ok (.if_icmp (.ne) 21, 3) := by decide +kernel
theorem d36 : decode yB 36 = .ok (.aload_n 0, 1) := by decide +kernel
theorem d37 : decode yB 37 = .ok (.getfield 9, 3) := by decide +kernel
theorem d40 : decode yB 40 = .ok (.aload_n 2, 1) := by decide +kernel
theorem d41 : decode yB 41 = .ok (.getfield 9, 3) := by decide +kernel
theorem d44 : decode yB 44 = .ok (.invokestatic 541, 3) := by decide +kernel
theorem d47 : decode yB 47 = .ok (.ifCond (.eq) 7, 3) := by decide +kernel
theorem d50 : decode yB 50 = .ok (.iconst 1, 1) := by decide +kernel
theorem d51 : decode yB 51 = .ok (.goto 4, 3) := by decide +kernel
theorem d54 : decode yB 54 = .ok (.iconst 0, 1) := by decide +kernel
theorem d55 : decode yB 55 = .ok (.ireturn, 1) := by decide +kernel
def site : List Cond := [.classLink "java/lang/String" 10 "java/lang/String", .fieldLink "java/lang/String" 38 "java/lang/String" "COMPACT_STRINGS" "Z", .fieldLink "java/lang/String" 15 "java/lang/String" "coder" "B", .fieldLink "java/lang/String" 9 "java/lang/String" "value" "[B", LEq.tab] ++ staticW "java/lang/String" 541 LEq.yN
def tab : Cond := tabOf yN yB 3 (some .boolean) site
def P (x t : Addr) (V : Cell) (cd : Int32) (n : Nat) (f : Nat → Int32) (y t' : Addr) (V' : Cell) (cd' : Int32) (k : Nat) (g : Nat → Int32) (z : Int32) (args : Array Value) (s : State) : Prop := args = #[.ref x, .ref y] ∧ Txt x t V cd n f s ∧ Txt y t' V' cd' k g s ∧ StaticIs s "java/lang/String" "COMPACT_STRINGS" "Z" (.int z) ∧ ¬ z = 0
/-- equals(Object) of two Strings: whether the texts are the same -/
theorem law (l : Launch) (x t : Addr) (V : Cell) (cd : Int32) (n : Nat) (f : Nat → Int32) (y t' : Addr) (V' : Cell) (cd' : Int32) (k : Nat) (g : Nat → Int32) (z : Int32) : Law l yN 2 1 1 14 yB 3 (some .boolean) site (P x t V cd n f y t' V' cd' k g z) (Says01 (SameT n f k g)) [] 0 0 := by
  refine Law.of_walk (plainFor_of_name (by decide +kernel)) (by decide +kernel) (by decide +kernel) (by decide) (fun _ _ h => by rw [h.1]; rfl) (fun _ U U' hal hh h => ⟨h.1, h.2.1.mv hal hh, h.2.2.1.mv hal hh, h.2.2.2.1.there hal hh, h.2.2.2.2⟩) (fun r U U' V V' h1 hal h2 h => Says01.mv r U U' V V' h1 hal h2 h) ?_
  intro p e s m args below meth c s₁ X0 hexec hbytes hml hret hlk hnm hown hh0 W hP
  obtain ⟨rfl, hx, hy, s1, hz⟩ := hP
  have c1 : Steps p.tables e below (s₁.setTop (entryFrame m #[.ref x, .ref y] 3)) (s₁.setTop (mkF m 2 #[.val (.ref x), .val (.ref y), .unset] [.ref y, .ref x])) := Steps.trans (entry rfl) (by
    show Steps p.tables e below (s₁.setTop (mkF m 0 #[.val (.ref x), .val (.ref y), .unset] [])) _
    refine XS.aloadN X0.here hexec rfl (hb hbytes d0) rfl rfl ?_
    refine XS.aloadN X0.here hexec rfl (hb hbytes d1) rfl rfl ?_
    exact Steps.refl _)
  by_cases hxy : x = y
  · have c2 : Steps p.tables e below (s₁.setTop (entryFrame m #[.ref x, .ref y] 3)) (s₁.setTop (mkF m 6 #[.val (.ref x), .val (.ref y), .unset] [.int 1])) := c1.trans (by
      refine acmpNo X0.here hexec rfl (hb hbytes d2) rfl rfl rfl (by simp [acmp, hxy]) ?_
      refine iconstV X0.here hexec rfl 1 (hb hbytes d5) (by decide) ?_
      exact Steps.refl _)
    subst hxy
    have ec : cd = cd' := by
      obtain ⟨D, fd, a1, a2, a3⟩ := hx.2.2.1
      obtain ⟨D', fd', b1, b2, b3⟩ := hy.2.2.1
      cases a1.symm.trans b1
      obtain ⟨q1, q2, q3, q4⟩ := a2.1
      obtain ⟨r1, r2, r3, r4⟩ := b2.1
      cases q4.symm.trans r4
      cases a3.symm.trans b3; rfl
    have et : t = t' := by
      obtain ⟨D, fd, a1, a2, a3⟩ := hx.2.1
      obtain ⟨D', fd', b1, b2, b3⟩ := hy.2.1
      cases a1.symm.trans b1
      obtain ⟨q1, q2, q3, q4⟩ := a2.1
      obtain ⟨r1, r2, r3, r4⟩ := b2.1
      cases q4.symm.trans r4
      cases a3.symm.trans b3; rfl
    subst ec et
    have ev : V = V' := by cases hx.2.2.2.1.1.symm.trans hy.2.2.2.1.1; rfl
    subst ev
    have hs : SameT n f k g := (Cod.eqv hx.2.2.2.2.1 hy.2.2.2.2.1 hx.2.2.2.2.2 hy.2.2.2.2.2).mp ⟨rfl, fun _ _ => rfl⟩
    exact ⟨s₁, some (.int 1), _, _, _, X0, rfl, rfl, rfl, (fun h => by cases h), ⟨1, rfl, hh0, Or.inl ⟨rfl, hs⟩⟩, fun fs hl => c2.trans (X0.ireturnOut hexec hret rfl (Or.inr (Or.inl rfl)) (hb hbytes d6) hl)⟩
  · have c2 : Steps p.tables e below (s₁.setTop (entryFrame m #[.ref x, .ref y] 3)) (s₁.setTop (mkF m 8 #[.val (.ref x), .val (.ref y), .unset] [.ref y])) := c1.trans (by
      refine acmpYes X0.here hexec rfl (pc0 := 2) rfl (hb hbytes d2) rfl rfl rfl (by simp [acmp, hxy]) (by decide) rfl ?_
      refine XS.aloadN X0.here hexec rfl (hb hbytes d7) rfl rfl ?_
      exact Steps.refl _)
    obtain ⟨T3, X3, q3, st3⟩ := cinst X0 hexec hown (wk W (.classLink "java/lang/String" 10 "java/lang/String")) (hy.mv X0.warmed.alike hh0).1 (g := (mkF m 8 #[.val (.ref x), .val (.ref y), .unset] [.ref y])) rfl (rest := []) rfl (hb hbytes d8)
    have hh3 := q3.trans hh0
    have c4 : Steps p.tables e below (s₁.setTop (entryFrame m #[.ref x, .ref y] 3)) (T3.setTop (mkF m 15 #[.val (.ref x), .val (.ref y), .unset] [.ref y])) := (c2.trans (st3 _ (Steps.refl _))).trans (by
      refine XS.ifNo X3.here hexec rfl (hb hbytes d11) rfl (i0_eq_f (by decide)) ?_
      refine XS.aloadN X3.here hexec rfl (hb hbytes d14) rfl rfl ?_
      exact Steps.refl _)
    obtain ⟨T5, X5, q5, st5⟩ := cself X3 hexec hown (wk W (.classLink "java/lang/String" 10 "java/lang/String")) (hy.mv X3.warmed.alike hh3).1 (g := (mkF m 15 #[.val (.ref x), .val (.ref y), .unset] [.ref y])) rfl (rest := []) rfl (hb hbytes d15)
    have hh5 := q5.trans hh3
    have c6 : Steps p.tables e below (s₁.setTop (entryFrame m #[.ref x, .ref y] 3)) (T5.setTop (mkF m 19 #[.val (.ref x), .val (.ref y), .val (.ref y)] [])) := (c4.trans (st5 _ (Steps.refl _))).trans (by
      refine XS.astoreN X5.here hexec rfl (hb hbytes d18) rfl rfl rfl ?_
      exact Steps.refl _)
    obtain ⟨T7, X7, q7, st7⟩ := X5.sget hexec hown (wk W (.fieldLink "java/lang/String" 38 "java/lang/String" "COMPACT_STRINGS" "Z")) s1 (fun _ _ h => by rw [hh5]; exact h) (g := (mkF m 19 #[.val (.ref x), .val (.ref y), .val (.ref y)] [])) rfl (hb hbytes d19)
    have hh7 := q7.trans hh5
    have c8 : Steps p.tables e below (s₁.setTop (entryFrame m #[.ref x, .ref y] 3)) (T7.setTop (mkF m 26 #[.val (.ref x), .val (.ref y), .val (.ref y)] [.ref x])) := (c6.trans (st7 _ (Steps.refl _))).trans (by
      refine XS.ifNo X7.here hexec rfl (hb hbytes d22) rfl (i0_eq_f hz) ?_
      refine XS.aloadN X7.here hexec rfl (hb hbytes d25) rfl rfl ?_
      exact Steps.refl _)
    obtain ⟨T9, X9, q9, st9⟩ := X7.hget hexec hown (wk W (.fieldLink "java/lang/String" 15 "java/lang/String" "coder" "B")) (hx.mv X7.warmed.alike hh7).2.2.1 (g := (mkF m 26 #[.val (.ref x), .val (.ref y), .val (.ref y)] [.ref x])) rfl (rest := []) rfl (hb hbytes d26)
    have hh9 := q9.trans hh7
    have c10 : Steps p.tables e below (s₁.setTop (entryFrame m #[.ref x, .ref y] 3)) (T9.setTop (mkF m 30 #[.val (.ref x), .val (.ref y), .val (.ref y)] [.ref y, .int cd])) := (c8.trans (st9 _ (Steps.refl _))).trans (by
      refine XS.aloadN X9.here hexec rfl (hb hbytes d29) rfl rfl ?_
      exact Steps.refl _)
    obtain ⟨T11, X11, q11, st11⟩ := X9.hget hexec hown (wk W (.fieldLink "java/lang/String" 15 "java/lang/String" "coder" "B")) (hy.mv X9.warmed.alike hh9).2.2.1 (g := (mkF m 30 #[.val (.ref x), .val (.ref y), .val (.ref y)] [.ref y, .int cd])) rfl (rest := [.int cd]) rfl (hb hbytes d30)
    have hh11 := q11.trans hh9
    have c12 : Steps p.tables e below (s₁.setTop (entryFrame m #[.ref x, .ref y] 3)) (T11.setTop (mkF m 33 #[.val (.ref x), .val (.ref y), .val (.ref y)] [.int cd', .int cd])) := c10.trans (st11 _ (Steps.refl _))
    by_cases hcd : cd = cd'
    · subst hcd
      have c13 : Steps p.tables e below (s₁.setTop (entryFrame m #[.ref x, .ref y] 3)) (T11.setTop (mkF m 37 #[.val (.ref x), .val (.ref y), .val (.ref y)] [.ref x])) := c12.trans (by
        refine XS.icmpNo X11.here hexec rfl (hb hbytes d33) rfl (ii_ne_f rfl) ?_
        refine XS.aloadN X11.here hexec rfl (hb hbytes d36) rfl rfl ?_
        exact Steps.refl _)
      obtain ⟨T14, X14, q14, st14⟩ := X11.hget hexec hown (wk W (.fieldLink "java/lang/String" 9 "java/lang/String" "value" "[B")) (hx.mv X11.warmed.alike hh11).2.1 (g := (mkF m 37 #[.val (.ref x), .val (.ref y), .val (.ref y)] [.ref x])) rfl (rest := []) rfl (hb hbytes d37)
      have hh14 := q14.trans hh11
      have c15 : Steps p.tables e below (s₁.setTop (entryFrame m #[.ref x, .ref y] 3)) (T14.setTop (mkF m 41 #[.val (.ref x), .val (.ref y), .val (.ref y)] [.ref y, .ref t])) := (c13.trans (st14 _ (Steps.refl _))).trans (by
        refine XS.aloadN X14.here hexec rfl (hb hbytes d40) rfl rfl ?_
        exact Steps.refl _)
      obtain ⟨T16, X16, q16, st16⟩ := X14.hget hexec hown (wk W (.fieldLink "java/lang/String" 9 "java/lang/String" "value" "[B")) (hy.mv X14.warmed.alike hh14).2.1 (g := (mkF m 41 #[.val (.ref x), .val (.ref y), .val (.ref y)] [.ref y, .ref t])) rfl (rest := [.ref t]) rfl (hb hbytes d41)
      have hh16 := q16.trans hh14
      have c17 : Steps p.tables e below (s₁.setTop (entryFrame m #[.ref x, .ref y] 3)) (T16.setTop (mkF m 44 #[.val (.ref x), .val (.ref y), .val (.ref y)] [.ref t', .ref t])) := c15.trans (st16 _ (Steps.refl _))
      obtain ⟨v18, T18, X18, E18, g18⟩ := X16.callS hexec (LEq.law l t V t' V') hown (wks W (staticW "java/lang/String" 541 LEq.yN)) (wk W LEq.tab) (W := 0) (Nat.le_of_ble_eq_true rfl) (Nat.le_of_ble_eq_true rfl) (Nat.le_refl _) (Nat.le_refl _) (g := (mkF m 44 #[.val (.ref x), .val (.ref y), .val (.ref y)] [.ref t', .ref t])) rfl (by rw [hml]; rfl) c17 (argsL := [.ref t, .ref t']) (rest := []) rfl rfl (by show 2 * 0 + 0 ≤ _; decide) (hb hbytes d44) (⟨rfl, hx.2.2.2.1.mv X16.warmed.alike hh16, hx.2.2.2.2.1.ty, hy.2.2.2.1.mv X16.warmed.alike hh16, hy.2.2.2.2.1.ty⟩)
      obtain ⟨v, rfl, q18, hv⟩ := E18
      have iff := Cod.eqv hx.2.2.2.2.1 hy.2.2.2.2.1 hx.2.2.2.2.2 hy.2.2.2.2.2
      rcases hv with ⟨rfl, he⟩ | ⟨rfl, he⟩
      · have c19 : Steps p.tables e below (s₁.setTop (entryFrame m #[.ref x, .ref y] 3)) (T18.setTop (mkF m 55 #[.val (.ref x), .val (.ref y), .val (.ref y)] [.int 1])) := Steps.trans g18 (by
          refine XS.ifNo X18.here hexec rfl (hb hbytes d47) rfl (i0_eq_f (by decide)) ?_
          refine iconstV X18.here hexec rfl 1 (hb hbytes d50) (by decide) ?_
          refine XS.goto X18.here hexec rfl (pc0 := 51) rfl (hb hbytes d51) (by decide) rfl ?_
          exact Steps.refl _)
        exact ⟨T18, some (.int 1), _, _, _, X18, rfl, rfl, rfl, (fun h => by cases h), ⟨1, rfl, q18.trans hh16, Or.inl ⟨rfl, iff.mp he⟩⟩, fun fs hl => c19.trans (X18.ireturnOut hexec hret rfl (Or.inr (Or.inl rfl)) (hb hbytes d55) hl)⟩
      · have c19 : Steps p.tables e below (s₁.setTop (entryFrame m #[.ref x, .ref y] 3)) (T18.setTop (mkF m 55 #[.val (.ref x), .val (.ref y), .val (.ref y)] [.int 0])) := Steps.trans g18 (by
          refine XS.ifYes X18.here hexec rfl (pc0 := 47) rfl (hb hbytes d47) rfl (i0_eq_t rfl) (by decide) rfl ?_
          refine iconstV X18.here hexec rfl 0 (hb hbytes d54) (by decide) ?_
          exact Steps.refl _)
        exact ⟨T18, some (.int 0), _, _, _, X18, rfl, rfl, rfl, (fun h => by cases h), ⟨0, rfl, q18.trans hh16, Or.inr ⟨rfl, fun q => he (iff.mpr q)⟩⟩, fun fs hl => c19.trans (X18.ireturnOut hexec hret rfl (Or.inr (Or.inl rfl)) (hb hbytes d55) hl)⟩
    · have c13 : Steps p.tables e below (s₁.setTop (entryFrame m #[.ref x, .ref y] 3)) (T11.setTop (mkF m 55 #[.val (.ref x), .val (.ref y), .val (.ref y)] [.int 0])) := c12.trans (by
        refine XS.icmpYes X11.here hexec rfl (pc0 := 33) rfl (hb hbytes d33) rfl (ii_ne_t hcd) (by decide) rfl ?_
        refine iconstV X11.here hexec rfl 0 (hb hbytes d54) (by decide) ?_
        exact Steps.refl _)
      exact ⟨T11, some (.int 0), _, _, _, X11, rfl, rfl, rfl, (fun h => by cases h), ⟨0, rfl, hh11, Or.inr ⟨rfl, Cod.dif hx.2.2.2.2.1 hy.2.2.2.2.1 hcd⟩⟩, fun fs hl => c13.trans (X11.ireturnOut hexec hret rfl (Or.inr (Or.inl rfl)) (hb hbytes d55) hl)⟩
theorem pays {l : Launch} {R : Room} {p : Program} {e : Env} {below : List Frame} {s : State} {sargs : Array Value} {len W : Nat} (x t : Addr) (V : Cell) (cd : Int32) (n : Nat) (f : Nat → Int32) (y t' : Addr) (V' : Cell) (cd' : Int32) (k : Nat) (g : Nat → Int32) (z : Int32) (htab : tab.before sargs s = true) (hfr : 2 ≤ R.frames) (hlo : W + 28 ≤ R.locals) :
    Back l R p e below s sargs yN len W (fun A₁ a₁ => A₁.cells + 0 ≤ R.cells ∧ A₁.slots + 0 ≤ R.slots ∧ P x t V cd n f y t' V' cd' k g z a₁ A₁.U) (fun A₁ _ v₁ B₁ => Says01 (SameT n f k g) v₁ A₁.U B₁.U ∧ B₁.locs = A₁.locs ++ [] ∧ B₁.cells = A₁.cells + 0 ∧ B₁.slots = A₁.slots + 0) :=
  (law l x t V cd n f y t' V' cd' k g z).pays htab hfr (by omega)
end SEq
end StrChars
namespace StrChars.Road
open Jvm Sem ClassFile Op Lib Jvm.Stand Jvm.Free Jvm.Free.XT
open Jvm.Lib.Cold (StaticIs)
/-- the words of String.equals(Object) -/
abbrev wordsEq : List Jvm.Cond := [.code SEq.yN SEq.yB 3 (some .boolean), .initialized ST, .classLink ST 10 ST, .fieldLink ST 38 ST "COMPACT_STRINGS" "Z", .fieldLink ST 15 ST "coder" "B", .fieldLink ST 9 ST "value" "[B", .methodLink ST 541 LEq.yN, .static LEq.yN, .code LEq.yN LEq.yB 3 (some .boolean), .initialized "java/lang/StringLatin1"]
theorem tabEq_of {a : Array Value} {s : State} (h : ∀ w ∈ wordsEq, w.before a s = true) : SEq.tab.before a s = true := by
  have hl : LEq.tab.before a s = true := unparts (wk h (.code LEq.yN LEq.yB 3 (some .boolean))) (wks h (.initialized LEq.yN.cls :: LEq.site))
  have q := consq hl h
  exact unparts (wk q (.code SEq.yN SEq.yB 3 (some .boolean))) (wks q (.initialized SEq.yN.cls :: SEq.site))
theorem movedEq {Z s : State} {a0 args : Array Value} (hZ : Z.Warmed39 s.vm) (hw : ∀ d ∈ wordsEq, d.before a0 Z = true) : ∀ d ∈ wordsEq, d.before args s = true := fun d hd => by
  have t : ∀ d ∈ wordsEq, (d.onTables && d.keepsFace) = true := by decide +kernel
  exact RoadKit.mv hZ (hw d hd) (t d hd)
/-- the road's facts of a String, as the laws ask it -/
theorem txt_of {Z U : State} {a0 : Array Value} {kI : Nat} (wi : (Jvm.Cond.instantiable ST kI).before a0 Z = true) (al : Z.vm.Alike U.vm) {x t : Addr} {kb : ClassId} {cs : List Int32} {cd N2 : Int32} {vs : List Value} (E : RoadKit.Exa Z U.heap x ST) (V : RoadKit.Fld Z U.heap x ST "value" "[B" (.ref t)) (C : RoadKit.Fld Z U.heap x ST "coder" "B" (.int cd)) (K : RoadKit.Arv Z U.heap t kb .byte N2 vs (.int 0)) (hc : CodA cs cd N2 vs) (hb : ∀ c ∈ cs, ¬ c < 0 ∧ ¬ (65535 : Int32) < c) (l2 : cs.length ≤ 4000) :
    ∃ A, Txt x t A cd cs.length (fun j => cs.getD j 0) U := by
  obtain ⟨A, K1, K2, K3, K4, K5, K6⟩ := K
  have hcod := hc.cod (by omega) K3 K5
  obtain ⟨D, fV, fC, hB, F1, F2, g1, g2, -, -⟩ := strObj wi al E V C
  exact ⟨A, ⟨_, hB.2.2.1, D, hB.1, rfl, by cases q : D.vm <;> first | rfl | exact absurd q (hB.2.1.2 _)⟩, Has.of hB F1 g1, Has.of hB F2 g2, ⟨K1.1, State.isArrayOf_alike al K1.2.1, K1.2.2, by rcases hcod with ⟨-, q, -⟩ | ⟨-, q, -⟩ <;> omega⟩, hcod, fun j hj => by
    have e : cs.getD j 0 = cs[j] := by simp [List.getD_eq_getElem?_getD, hj]
    show ¬ cs.getD j 0 < 0 ∧ ¬ 65535 < cs.getD j 0
    rw [e]; exact hb _ (List.getElem_mem _)⟩
theorem same_list (cs ds : List Int32) : SameT cs.length (fun j => cs.getD j 0) ds.length (fun j => ds.getD j 0) ↔ cs = ds := by
  constructor
  · rintro ⟨e, q⟩
    refine List.ext_getElem e fun j h1 h2 => ?_
    have := q j h1
    simpa [List.getD_eq_getElem?_getD, h1, h2] using this
  · rintro rfl
    exact ⟨rfl, fun _ _ => rfl⟩
/-- **equals(Object) OF TWO SUCH STRINGS**: 1 just where the chars are the same -/
theorem eqW {p : Program} {l : Launch} {e : Env} {R : Room} {s : State} {args : Array Value} {below : List Frame} {len W : Nat} {Z : State} {a0 : Array Value} {h : Heap} (hZ : Z.Warmed39 s.vm) (hw : ∀ d ∈ wordsEq, d.before a0 Z = true) {kI : Nat} (wi : (Jvm.Cond.instantiable ST kI).before a0 Z = true)
    {x t : Addr} {kb : ClassId} {cs : List Int32} {cd N2 : Int32} {vs : List Value} (E : RoadKit.Exa Z h x ST) (V : RoadKit.Fld Z h x ST "value" "[B" (.ref t)) (C : RoadKit.Fld Z h x ST "coder" "B" (.int cd)) (K : RoadKit.Arv Z h t kb .byte N2 vs (.int 0)) (hc : CodA cs cd N2 vs) (hb : ∀ c ∈ cs, ¬ c < 0 ∧ ¬ (65535 : Int32) < c) (l2 : cs.length ≤ 4000)
    {y t' : Addr} {kb' : ClassId} {ds : List Int32} {cd' N2' : Int32} {vs' : List Value} (E' : RoadKit.Exa Z h y ST) (V' : RoadKit.Fld Z h y ST "value" "[B" (.ref t')) (C' : RoadKit.Fld Z h y ST "coder" "B" (.int cd')) (K' : RoadKit.Arv Z h t' kb' .byte N2' vs' (.int 0)) (hc' : CodA ds cd' N2' vs') (hb' : ∀ c ∈ ds, ¬ c < 0 ∧ ¬ (65535 : Int32) < c) (l2' : ds.length ≤ 4000)
    {z : Int32} (S : RoadKit.Sta Z h ST "COMPACT_STRINGS" "Z" (.int z)) (hz : ¬ z = 0) (hfr : 2 ≤ R.frames) (hlo : W + 28 ≤ R.locals) :
    Back l R p e below s args (⟨"java/lang/String", "equals", "(Ljava/lang/Object;)Z"⟩ : MethodName) len W (fun P a => a = #[.ref x, .ref y] ∧ P.U.heap = h ∧ P.cells + 0 ≤ R.cells ∧ P.slots + 0 ≤ R.slots)
      (fun P _ v B => ∃ L, (((v = some (.int 1) ∧ cs = ds) ∨ (v = some (.int 0) ∧ ¬ cs = ds)) ∧ L = [] ∧ B.U.heap = h) ∧ B.locs = P.locs ++ L ∧ B.cells = P.cells + 0 ∧ B.slots = P.slots + 0) := by
  intro m meth c P g ig mk a X hg hsize hdg hW hn hp'
  obtain ⟨rfl, rfl, r1, r2⟩ := hp'
  have al : Z.vm.Alike P.U.vm := hZ.alike.trans X.warmed.alike
  obtain ⟨A, hx⟩ := txt_of wi al E V C K hc hb l2
  obtain ⟨A', hy⟩ := txt_of wi al E' V' C' K' hc' hb' l2'
  obtain ⟨v, B, X', ⟨⟨w, hv, hh, hq⟩, hl, hk, hs⟩, st⟩ := SEq.pays x t A cd cs.length (fun j => cs.getD j 0) y t' A' cd' ds.length (fun j => ds.getD j 0) z (tabEq_of (movedEq hZ hw)) hfr hlo m meth c P g ig mk _ X hg hsize hdg hW hn ⟨r1, r2, rfl, hx, hy, sta_is al S, hz⟩
  refine ⟨v, B, X', ⟨[], ⟨?_, rfl, hh⟩, hl, hk, hs⟩, st⟩
  rcases hq with ⟨rfl, q⟩ | ⟨rfl, q⟩
  · exact Or.inl ⟨hv, (same_list cs ds).mp q⟩
  · exact Or.inr ⟨hv, fun e => q ((same_list cs ds).mpr e)⟩
end StrChars.Road
namespace StrChars
open Jvm Sem ClassFile Op Lib Jvm.Stand Jvm.Free.XT Jvm.Free.ALB Jvm.Free.JM Jvm.Free
open Jvm.Lib.Cold (StaticIs)
namespace ChN
def yN : MethodName := ⟨"java/lang/String", "charAt", "(I)C"⟩
abbrev yB : ByteArray := jdk_42_method_56_code
theorem d0 : decode yB 0 = .ok (.aload_n 0, 1) := by decide +kernel
theorem d1 : decode yB 1 = .ok (.invokevirtual 492, 3) := by decide +kernel
theorem d4 : decode yB 4 = .ok (.ifCond (.eq) 12, 3) := by decide +kernel
theorem d7 : decode yB 7 = .ok (.aload_n 0, 1) := by decide +kernel
theorem d8 : decode yB 8 = .ok (.getfield 9, 3) := by decide +kernel
theorem d11 : decode yB 11 = .ok (.iload_n 1, 1) := by decide +kernel
theorem d12 : decode yB 12 = .ok (.invokestatic 495, 3) := by decide +kernel
theorem d15 : decode yB 15 = .ok (.ireturn, 1) := by decide +kernel
def site : List Cond := [.fieldLink "java/lang/String" 9 "java/lang/String" "value" "[B", IsL.tab, LChA.tab] ++ virtW "java/lang/String" 492 "java/lang/String" IsL.yN IsL.yN ++ staticW "java/lang/String" 495 LChA.yN
def tab : Cond := tabOf yN yB 2 (some .char) site
def P (x t : Addr) (V : Cell) (n : Nat) (f : Nat → Int32) (z : Int32) (fm : Value) (i : Nat) (args : Array Value) (s : State) : Prop := args = #[.ref x, .int (Int32.ofNat i)] ∧ Txt x t V 0 n f s ∧ i < n ∧ StaticIs s "java/lang/String" "COMPACT_STRINGS" "Z" (.int z) ∧ ¬ z = 0 ∧ StaticIs s "jdk/internal/util/Preconditions" "SIOOBE_FORMATTER" "Ljava/util/function/BiFunction;" fm ∧ fm.isRef = true
def E (f : Nat → Int32) (i : Nat) (r : Option Value) (s u : State) : Prop := XT.PureE (some (.int (f i))) r s u
/-- charAt(i) of a Latin-1 String of n chars, i < n: f i -/
theorem law (l : Launch) (x t : Addr) (V : Cell) (n : Nat) (f : Nat → Int32) (z : Int32) (fm : Value) (i : Nat) : Law l yN 2 1 3 40 yB 2 (some .char) site (P x t V n f z fm i) (E f i) [] 0 0 := by
  refine Law.of_walk (plainFor_of_name (by decide +kernel)) (by decide +kernel) (by decide +kernel) (by decide) (fun _ _ h => by rw [h.1]; rfl) (fun _ U U' hal hh h => ⟨h.1, h.2.1.mv hal hh, h.2.2.1, h.2.2.2.1.there hal hh, h.2.2.2.2.1, h.2.2.2.2.2.1.there hal hh, h.2.2.2.2.2.2⟩) (fun r U U' V V' h1 hal h2 h => XT.PureE.mv r U U' V V' h1 hal h2 h) ?_
  intro p e s m args below meth c s₁ X0 hexec hbytes hml hret hlk hnm hown hh0 W hP
  obtain ⟨rfl, hx, hi, s1, hz, s3, rf⟩ := hP
  have v31 := hx.2.2.2.1.2.2.2
  have hr := hx.2.2.2.2.2 i hi
  have hx0 := hx.mv X0.warmed.alike hh0
  have c1 : Steps p.tables e below (s₁.setTop (entryFrame m #[.ref x, .int (Int32.ofNat i)] 2)) (s₁.setTop (mkF m 1 #[.val (.ref x), .val (.int (Int32.ofNat i))] [.ref x])) := Steps.trans (entry rfl) (by
    show Steps p.tables e below (s₁.setTop (mkF m 0 #[.val (.ref x), .val (.int (Int32.ofNat i))] [])) _
    refine XS.aloadN X0.here hexec rfl (hb hbytes d0) rfl rfl ?_
    exact Steps.refl _)
  obtain ⟨v2, T2, X2, E2, g2⟩ := X0.callV hexec (IsL.law l x 0 z) hown (wks W (virtW "java/lang/String" 492 "java/lang/String" IsL.yN IsL.yN)) rfl (by decide) (wk W IsL.tab) (W := 0) (Nat.le_of_ble_eq_true rfl) (Nat.le_of_ble_eq_true rfl) (Nat.le_refl _) (Nat.le_refl _) (hx0.1.fc X0.warmed.alike) hx0.1.is (g := (mkF m 1 #[.val (.ref x), .val (.int (Int32.ofNat i))] [.ref x])) rfl (by rw [hml]; rfl) c1 (argsL := []) (rest := []) rfl rfl (by show 2 * 0 + 0 ≤ _; decide) (hb hbytes d1) (⟨rfl, hx0.2.2.1, hx.2.2.2.2.1.cd, s1.there X0.warmed.alike hh0, hz⟩)
  obtain ⟨rfl, q2⟩ := E2
  have hh2 := q2.trans hh0
  have hx2 := hx.mv X2.warmed.alike hh2
  obtain ⟨-, k1, k2⟩ | ⟨k0, -⟩ := hx.2.2.2.2.1
  · have c3 : Steps p.tables e below (s₁.setTop (entryFrame m #[.ref x, .int (Int32.ofNat i)] 2)) (T2.setTop (mkF m 8 #[.val (.ref x), .val (.int (Int32.ofNat i))] [.ref x])) := Steps.trans g2 (by
      refine XS.ifNo X2.here hexec rfl (hb hbytes d4) rfl (i0_eq_f (by decide)) ?_
      refine XS.aloadN X2.here hexec rfl (hb hbytes d7) rfl rfl ?_
      exact Steps.refl _)
    obtain ⟨T4, X4, q4, st4⟩ := X2.hget hexec hown (wk W (.fieldLink "java/lang/String" 9 "java/lang/String" "value" "[B")) hx2.2.1 (g := (mkF m 8 #[.val (.ref x), .val (.int (Int32.ofNat i))] [.ref x])) rfl (rest := []) rfl (hb hbytes d8)
    have hh4 := q4.trans hh2
    have c5 : Steps p.tables e below (s₁.setTop (entryFrame m #[.ref x, .int (Int32.ofNat i)] 2)) (T4.setTop (mkF m 12 #[.val (.ref x), .val (.int (Int32.ofNat i))] [.int (Int32.ofNat i), .ref t])) := (c3.trans (st4 _ (Steps.refl _))).trans (by
      refine XS.iloadN X4.here hexec rfl (hb hbytes d11) rfl ?_
      exact Steps.refl _)
    obtain ⟨v6, T6, X6, E6, g6⟩ := X4.callS hexec (LChA.law l t V i (lo8 (f i)) fm) hown (wks W (staticW "java/lang/String" 495 LChA.yN)) (wk W LChA.tab) (W := 0) (Nat.le_of_ble_eq_true rfl) (Nat.le_of_ble_eq_true rfl) (Nat.le_refl _) (Nat.le_refl _) (g := (mkF m 12 #[.val (.ref x), .val (.int (Int32.ofNat i))] [.int (Int32.ofNat i), .ref t])) rfl (by rw [hml]; rfl) c5 (argsL := [.ref t, .int (Int32.ofNat i)]) (rest := []) rfl rfl (by show 2 * 0 + 0 ≤ _; decide) (hb hbytes d12) (⟨rfl, hx.2.2.2.1.mv X4.warmed.alike hh4, (k2 i hi).1, s3.there X4.warmed.alike hh4, rf⟩)
    obtain ⟨rfl, q6⟩ := E6
    rw [chr8_lo8 hr.1 (k2 i hi).2] at g6
    exact ⟨T6, some (.int (f i)), _, _, _, X6, rfl, rfl, rfl, (fun h => by cases h), ⟨rfl, q6.trans hh4⟩, fun fs hl => Steps.trans g6 (X6.ireturnOut hexec hret (narrow_ch hr.1 hr.2) (Or.inr (Or.inr (Or.inr (Or.inl rfl)))) (hb hbytes d15) hl)⟩
  · exact absurd k0 (by decide)
theorem pays {l : Launch} {R : Room} {p : Program} {e : Env} {below : List Frame} {s : State} {sargs : Array Value} {len W : Nat} (x t : Addr) (V : Cell) (n : Nat) (f : Nat → Int32) (z : Int32) (fm : Value) (i : Nat) (htab : tab.before sargs s = true) (hfr : 4 ≤ R.frames) (hlo : W + 53 ≤ R.locals) :
    Back l R p e below s sargs yN len W (fun A₁ a₁ => A₁.cells + 0 ≤ R.cells ∧ A₁.slots + 0 ≤ R.slots ∧ P x t V n f z fm i a₁ A₁.U) (fun A₁ _ v₁ B₁ => E f i v₁ A₁.U B₁.U ∧ B₁.locs = A₁.locs ++ [] ∧ B₁.cells = A₁.cells + 0 ∧ B₁.slots = A₁.slots + 0) :=
  (law l x t V n f z fm i).pays htab hfr (by omega)
end ChN
end StrChars
namespace StrChars.Road
open Jvm Sem ClassFile Op Lib Jvm.Stand Jvm.Free Jvm.Free.XT
open Jvm.Lib.Cold (StaticIs)
/-- the words of String.charAt(int), the Latin-1 road alone -/
abbrev wordsChN : List Jvm.Cond := [.code ChN.yN ChN.yB 2 (some .char), .initialized ST, .fieldLink ST 9 ST "value" "[B", .fieldLink ST 38 ST "COMPACT_STRINGS" "Z", .fieldLink ST 15 ST "coder" "B", .code IsL.yN IsL.yB 1 (some .boolean), .methodLink ST 492 IsL.yN, .declares IsL.yN, .selects ST IsL.yN IsL.yN, .instanceMethod IsL.yN,
  .methodLink ST 495 LChA.yN, .static LChA.yN, .code LChA.yN LChA.yB 2 (some .char), .initialized "java/lang/StringLatin1", .methodLink "java/lang/StringLatin1" 9 JO.Str_checkIndex.yN, .static JO.Str_checkIndex.yN, .code JO.Str_checkIndex.yN JO.Str_checkIndex.yB 2 none,
  .fieldLink ST 1053 "jdk/internal/util/Preconditions" "SIOOBE_FORMATTER" "Ljava/util/function/BiFunction;", .methodLink ST 1059 JC.PreCheck.yN, .static JC.PreCheck.yN, .code JC.PreCheck.yN JC.PreCheck.yB 3 (some .int), .initialized "jdk/internal/util/Preconditions"]
theorem tabChN_of {a : Array Value} {s : State} (h : ∀ w ∈ wordsChN, w.before a s = true) : ChN.tab.before a s = true := by
  have hp : JC.PreCheck.tab.before a s = true := unparts (wk h (.code JC.PreCheck.yN JC.PreCheck.yB 3 (some .int))) (wks h (.initialized JC.PreCheck.yN.cls :: JC.PreCheck.site))
  have qk := consq hp h
  have hk : JO.Str_checkIndex.tab.before a s = true := unparts (wk qk (.code JO.Str_checkIndex.yN JO.Str_checkIndex.yB 2 none)) (wks qk (.initialized JO.Str_checkIndex.yN.cls :: JO.Str_checkIndex.site))
  have ql := consq hk h
  have hl : LChA.tab.before a s = true := unparts (wk ql (.code LChA.yN LChA.yB 2 (some .char))) (wks ql (.initialized LChA.yN.cls :: LChA.site))
  have hi : IsL.tab.before a s = true := unparts (wk h (.code IsL.yN IsL.yB 1 (some .boolean))) (wks h (.initialized IsL.yN.cls :: IsL.site))
  have q := consq hi (consq hl h)
  exact unparts (wk q (.code ChN.yN ChN.yB 2 (some .char))) (wks q (.initialized ChN.yN.cls :: ChN.site))
theorem movedChN {Z s : State} {a0 args : Array Value} (hZ : Z.Warmed39 s.vm) (hw : ∀ d ∈ wordsChN, d.before a0 Z = true) : ∀ d ∈ wordsChN, d.before args s = true := fun d hd => by
  have t : ∀ d ∈ wordsChN, (d.onTables && d.keepsFace) = true := by decide +kernel
  exact RoadKit.mv hZ (hw d hd) (t d hd)
/-- **charAt(i) OF A LATIN-1 STRING**, i < n: the char -/
theorem chN {p : Program} {l : Launch} {e : Env} {R : Room} {s : State} {args : Array Value} {below : List Frame} {len W : Nat} {Z : State} {a0 : Array Value} {h : Heap} (hZ : Z.Warmed39 s.vm) (hw : ∀ d ∈ wordsChN, d.before a0 Z = true) {kI : Nat} (wi : (Jvm.Cond.instantiable ST kI).before a0 Z = true)
    {x t : Addr} {kb : ClassId} {cs : List Int32} {N2 z : Int32} {vs : List Value} {fm : Value} {i : Nat} {j : Int32} (E : RoadKit.Exa Z h x ST) (V : RoadKit.Fld Z h x ST "value" "[B" (.ref t)) (C : RoadKit.Fld Z h x ST "coder" "B" (.int 0)) (K : RoadKit.Arv Z h t kb .byte N2 vs (.int 0)) (hc : CodA cs 0 N2 vs) (hb : ∀ c ∈ cs, ¬ c < 0 ∧ ¬ (65535 : Int32) < c)
    (S : RoadKit.Sta Z h ST "COMPACT_STRINGS" "Z" (.int z)) (hz : ¬ z = 0) (F : RoadKit.Sta Z h "jdk/internal/util/Preconditions" "SIOOBE_FORMATTER" "Ljava/util/function/BiFunction;" fm) (rf : fm.isRef = true) (l2 : cs.length ≤ 4000) (hi : i < cs.length) (hj : j = Int32.ofNat i) (hfr : 4 ≤ R.frames) (hlo : W + 53 ≤ R.locals) :
    Back l R p e below s args (⟨"java/lang/String", "charAt", "(I)C"⟩ : MethodName) len W (fun P a => a = #[.ref x, .int j] ∧ P.U.heap = h ∧ P.cells + 0 ≤ R.cells ∧ P.slots + 0 ≤ R.slots)
      (fun P _ v B => ∃ L, (v = some (.int (cs.getD i 0)) ∧ L = [] ∧ B.U.heap = h) ∧ B.locs = P.locs ++ L ∧ B.cells = P.cells + 0 ∧ B.slots = P.slots + 0) := by
  subst hj
  intro m meth c P g ig mk a X hg hsize hdg hW hn hp'
  obtain ⟨rfl, rfl, r1, r2⟩ := hp'
  have al : Z.vm.Alike P.U.vm := hZ.alike.trans X.warmed.alike
  obtain ⟨A, hx⟩ := txt_of wi al E V C K hc hb l2
  obtain ⟨v, B, X', ⟨⟨hv, hh⟩, hl, hk, hs⟩, st⟩ := ChN.pays x t A cs.length (fun j => cs.getD j 0) z fm i (tabChN_of (movedChN hZ hw)) hfr hlo m meth c P g ig mk _ X hg hsize hdg hW hn ⟨r1, r2, rfl, hx, hi, sta_is al S, hz, sta_is al F, rf⟩
  exact ⟨v, B, X', ⟨[], ⟨hv, rfl, hh⟩, hl, hk, hs⟩, st⟩
/-- what backV says of its String, as the contracts of this text ask it: cs's low bytes, coder 0 -/
theorem codOf {cs : List Int32} {n : Nat} (hn : cs.length = n) (hb : ∀ c ∈ cs, ¬ 255 < c) : CodA cs 0 (Int32.ofNat n) ((cs.map lo8).map Value.int) := Or.inl ⟨rfl, by rw [hn], by simp [List.map_map, Function.comp_def], hb⟩
end StrChars.Road
end Jvm.Pilot.@@N@@

namespace Jvm.Pilot.@@N@@
open Jvm Jvm.ClassFile Sem Op Lib Jvm.Free Jvm.Stand Jvm.LawKit Jvm.RoadKit Bundle Jvm.Pilot.@@N@@.Jvm.D
namespace Own
section Own
variable {p : Program} {l : Launch} {e : Env} {R : Room} {s : State} {m : MethodId} {args : Array Value} {below : List Frame} {meth : Method} {c : Code} {Z : State} {a0 : Array Value} {EL : List (String × Nat)} {y : MethodName} {bytes : ByteArray} {ml : Nat} {ret : Option FieldType} {w : Bool} {h0 : Heap} {ws ws' : List Addr} {vm0 vm1 : Vm} {T T' : State} {h h' h1 : Heap} {locs locs' : List Loc} {cells slots cells' slots' : Nat} {F : State → Option Value → Prop} {pc pc' : Nat} {Ls Ls' : Array Slot} {rest : List Value} {a b x : Addr}
/-- what is left of a walk: from here it comes to a return of which F is true -/
def Go (p : Program) (e : Env) (below : List Frame) (F : State → Option Value → Prop) (T : State) (g : JFrame) : Prop :=
  ∃ t v, Steps p.tables e below (T.setTop g) t ∧ t.status = .running ∧ Ended t below (.returned v) ∧ F t v
theorem Go.by {g g' : JFrame} (k : Go p e below F T' g') (st : ∀ t, Steps p.tables e below (T'.setTop g') t → Steps p.tables e below (T.setTop g) t) : Go p e below F T g := by
  obtain ⟨t, v, a, b⟩ := k; exact ⟨t, v, st t a, b⟩
theorem Go.imp {g : JFrame} {F' : State → Option Value → Prop} (k : Go p e below F T g) (f : ∀ t v, F t v → F' t v) : Go p e below F' T g := by
  obtain ⟨t, v, a, b, c, d⟩ := k; exact ⟨t, v, a, b, c, f t v d⟩
theorem extK (E : Ext h0 h) (K : Keep h h' ws) (q : ∀ x ∈ ws, h0.size ≤ x) : Ext h0 h' :=
  ⟨Nat.le_trans E.1 K.1, fun a c r => K.2.1 a c (E.2 a c r) fun z => absurd (Array.getElem?_eq_some_iff.mp r).1 (Nat.not_lt.mpr (q a z))⟩
theorem Ext.rfl' (h : Heap) : Ext h h := ⟨Nat.le_refl _, fun _ _ q => q⟩
theorem Ext.tr (E : Ext h h') (E' : Ext h' h1) : Ext h h1 := ⟨Nat.le_trans E.1 E'.1, fun a c q => E'.2 a c (E.2 a c q)⟩
theorem extN (K : Keep h h' []) : Ext h h' := ⟨K.1, fun a c q => K.2.1 a c q nin0⟩
/-- one step of the heap: what is kept; in a walk that may intern, the constants as well -/
def Ev (w : Bool) (Z : State) (EL : List (String × Nat)) (vm0 : Vm) (h : Heap) (vm1 : Vm) (h' : Heap) (ws : List Addr) : Prop := Keep h h' ws ∧ (w = true → CHr Z EL vm0 h vm1 h')
/-- the cell at x may be written -/
def Ok (w : Bool) (Z : State) (EL : List (String × Nat)) (h0 : Heap) (ws : List Addr) (vm0 : Vm) (h : Heap) (x : Addr) : Prop := x < h.size ∧ Z.heap.size ≤ x ∧ (x ∈ ws ∨ h0.size ≤ x) ∧ (w = true → Safe Z EL vm0 h x)
theorem Ok.ev (O : Ok w Z EL h0 ws vm0 h x) (V : Ev w Z EL vm0 h vm1 h' ws') : Ok w Z EL h0 ws vm1 h' x := ⟨Nat.lt_of_lt_of_le O.1 V.1.1, O.2.1, O.2.2.1, fun q => (V.2 q).safe O.1 (O.2.2.2 q)⟩
/-- where a walk stands -/
def Wk (p : Program) (l : Launch) (e : Env) (R : Room) (s : State) (m : MethodId) (args : Array Value) (below : List Frame) (meth : Method) (c : Code) (Z : State) (a0 : Array Value) (EL : List (String × Nat)) (y : MethodName) (bytes : ByteArray) (ml : Nat) (ret : Option FieldType) (w : Bool) (h0 : Heap) (ws : List Addr) (vm0 : Vm) (T : State) (h : Heap) (locs : List Loc) (cells slots : Nat) : Prop :=
  (p.tables.exec = Jvm.exec ∧ c.code = bytes ∧ c.maxLocals = ml ∧ meth.sig.returnType = ret ∧ meth.locks = false ∧ meth.name = y.name ∧ EW Z a0 EL) ∧
  Stand p l e R (s.setVm vm0) m args below meth c T locs cells slots ∧ Z.Warmed39 vm0 ∧ vm0.findClass y.cls = some m.cls ∧ T.heap = h ∧ (∃ k0, s.Since vm0 k0 ∧ k0 ≤ h.size) ∧ (w = false → vm0 = s.vm) ∧ Fr Z.heap.size locs ∧ Ext Z.heap h ∧ Keep h0 h ws ∧ (w = true → CHr Z EL s.vm h0 vm0 h)
theorem Wk.hx (X : Wk p l e R s m args below meth c Z a0 EL y bytes ml ret w h0 ws vm0 T h locs cells slots) : p.tables.exec = Jvm.exec := X.1.1
theorem Wk.hby (X : Wk p l e R s m args below meth c Z a0 EL y bytes ml ret w h0 ws vm0 T h locs cells slots) : c.code = bytes := X.1.2.1
theorem Wk.hml (X : Wk p l e R s m args below meth c Z a0 EL y bytes ml ret w h0 ws vm0 T h locs cells slots) : c.maxLocals = ml := X.1.2.2.1
theorem Wk.hret (X : Wk p l e R s m args below meth c Z a0 EL y bytes ml ret w h0 ws vm0 T h locs cells slots) : meth.sig.returnType = ret := X.1.2.2.2.1
theorem Wk.hlk (X : Wk p l e R s m args below meth c Z a0 EL y bytes ml ret w h0 ws vm0 T h locs cells slots) : meth.locks = false := X.1.2.2.2.2.1
theorem Wk.hnm (X : Wk p l e R s m args below meth c Z a0 EL y bytes ml ret w h0 ws vm0 T h locs cells slots) : meth.name = y.name := X.1.2.2.2.2.2.1
theorem Wk.hEW (X : Wk p l e R s m args below meth c Z a0 EL y bytes ml ret w h0 ws vm0 T h locs cells slots) : EW Z a0 EL := X.1.2.2.2.2.2.2
theorem Wk.st (X : Wk p l e R s m args below meth c Z a0 EL y bytes ml ret w h0 ws vm0 T h locs cells slots) : Stand p l e R (s.setVm vm0) m args below meth c T locs cells slots := X.2.1
theorem Wk.hZ (X : Wk p l e R s m args below meth c Z a0 EL y bytes ml ret w h0 ws vm0 T h locs cells slots) : Z.Warmed39 (s.setVm vm0).vm := X.2.2.1
theorem Wk.hown (X : Wk p l e R s m args below meth c Z a0 EL y bytes ml ret w h0 ws vm0 T h locs cells slots) : (s.setVm vm0).vm.findClass y.cls = some m.cls := X.2.2.2.1
theorem Wk.hT (X : Wk p l e R s m args below meth c Z a0 EL y bytes ml ret w h0 ws vm0 T h locs cells slots) : T.heap = h := X.2.2.2.2.1
theorem Wk.hS (X : Wk p l e R s m args below meth c Z a0 EL y bytes ml ret w h0 ws vm0 T h locs cells slots) : ∃ k0, s.Since vm0 k0 ∧ k0 ≤ h.size := X.2.2.2.2.2.1
theorem Wk.hv (X : Wk p l e R s m args below meth c Z a0 EL y bytes ml ret w h0 ws vm0 T h locs cells slots) : w = false → vm0 = s.vm := X.2.2.2.2.2.2.1
theorem Wk.hN (X : Wk p l e R s m args below meth c Z a0 EL y bytes ml ret w h0 ws vm0 T h locs cells slots) : Fr Z.heap.size locs := X.2.2.2.2.2.2.2.1
theorem Wk.hE (X : Wk p l e R s m args below meth c Z a0 EL y bytes ml ret w h0 ws vm0 T h locs cells slots) : Ext Z.heap h := X.2.2.2.2.2.2.2.2.1
theorem Wk.hK (X : Wk p l e R s m args below meth c Z a0 EL y bytes ml ret w h0 ws vm0 T h locs cells slots) : Keep h0 h ws := X.2.2.2.2.2.2.2.2.2.1
theorem Wk.hC (X : Wk p l e R s m args below meth c Z a0 EL y bytes ml ret w h0 ws vm0 T h locs cells slots) : w = true → CHr Z EL s.vm h0 vm0 h := X.2.2.2.2.2.2.2.2.2.2
theorem Wk.chv (X : Wk p l e R s m args below meth c Z a0 EL y bytes ml ret w h0 ws vm0 T h locs cells slots) (q : w = true) : CHv Z EL vm0 h := (X.hC q).1
theorem Wk.move (X : Wk p l e R s m args below meth c Z a0 EL y bytes ml ret w h0 ws vm0 T h locs cells slots) (St : Stand p l e R (s.setVm vm1) m args below meth c T' locs' cells' slots') (hZ : Z.Warmed39 vm1) (ho : vm1.findClass y.cls = some m.cls) (hT : T'.heap = h') (hS : ∃ k0, s.Since vm1 k0 ∧ k0 ≤ h'.size) (hv : w = false → vm1 = s.vm) (N : Fr Z.heap.size locs') (V : Ev w Z EL vm0 h vm1 h' ws') (q : ∀ x ∈ ws', Z.heap.size ≤ x ∧ (x ∈ ws ∨ h0.size ≤ x)) :
    Wk p l e R s m args below meth c Z a0 EL y bytes ml ret w h0 ws vm1 T' h' locs' cells' slots' :=
  ⟨X.1, St, hZ, ho, hT, hS, hv, N, extK X.hE V.1 fun x hx => (q x hx).1, X.hK.trans V.1 fun x hx => (q x hx).2, fun r => (X.hC r).trans (V.2 r)⟩
theorem Wk.since (X : Wk p l e R s m args below meth c Z a0 EL y bytes ml ret w h0 ws vm0 T h locs cells slots) (hg : h.size ≤ h'.size) : ∃ k0, s.Since vm0 k0 ∧ k0 ≤ h'.size := by obtain ⟨k, a, b⟩ := X.hS; exact ⟨k, a, Nat.le_trans b hg⟩
theorem Wk.same (X : Wk p l e R s m args below meth c Z a0 EL y bytes ml ret w h0 ws vm0 T h locs cells slots) (St : Stand p l e R (s.setVm vm0) m args below meth c T' locs' cells' slots') (hT : T'.heap = h') (N : Fr Z.heap.size locs') (V : Ev w Z EL vm0 h vm0 h' ws') (q : ∀ x ∈ ws', Z.heap.size ≤ x ∧ (x ∈ ws ∨ h0.size ≤ x)) :
    Wk p l e R s m args below meth c Z a0 EL y bytes ml ret w h0 ws vm0 T' h' locs' cells' slots' := X.move St X.hZ X.hown hT (X.since V.1.1) X.hv N V q
theorem Wk.evR (X : Wk p l e R s m args below meth c Z a0 EL y bytes ml ret w h0 ws vm0 T h locs cells slots) : Ev w Z EL vm0 h vm0 h [] := ⟨Keep.refl _ _, fun q => CHr.refl (X.chv q)⟩
theorem Wk.evE (X : Wk p l e R s m args below meth c Z a0 EL y bytes ml ret w h0 ws vm0 T h locs cells slots) (E : Ext h h') : Ev w Z EL vm0 h vm0 h' [] := ⟨(Keep.refl _ _).ext E, fun q => CHr.ext E (X.chv q)⟩
theorem Wk.evW {sl : Nat} {v : Value} (X : Wk p l e R s m args below meth c Z a0 EL y bytes ml ret w h0 ws vm0 T h locs cells slots) (W : Wr h h' a sl v) (O : Ok w Z EL h0 ws vm0 h a) : Ev w Z EL vm0 h vm0 h' [a] := ⟨Keep.of_wr W, fun q => CHr.wr W (O.2.2.2 q) (X.chv q)⟩
theorem Wk.evK (X : Wk p l e R s m args below meth c Z a0 EL y bytes ml ret w h0 ws vm0 T h locs cells slots) (K : Keep h h' ws') (q : ∀ x ∈ ws', Ok w Z EL h0 ws vm0 h x) : Ev w Z EL vm0 h vm0 h' ws' := ⟨K, fun r => CHr.keep K (fun x hx => (q x hx).2.2.2 r) (X.chv r)⟩
theorem Ok.two (q : ∀ x ∈ ws', Ok w Z EL h0 ws vm0 h x) : ∀ x ∈ ws', Z.heap.size ≤ x ∧ (x ∈ ws ∨ h0.size ≤ x) := fun x hx => ⟨(q x hx).2.1, (q x hx).2.2.1⟩
theorem Ok.one (O : Ok w Z EL h0 ws vm0 h a) : ∀ x ∈ [a], Ok w Z EL h0 ws vm0 h x := fun x hx => by cases List.mem_singleton.mp hx; exact O
theorem Ok.nil : ∀ x ∈ ([] : List Addr), Ok w Z EL h0 ws vm0 h x := fun _ q => nomatch q
theorem two0 : ∀ x ∈ ([] : List Addr), Z.heap.size ≤ x ∧ (x ∈ ws ∨ h0.size ≤ x) := fun _ q => nomatch q
theorem Wk.mono (X : Wk p l e R s m args below meth c Z a0 EL y bytes ml ret w h0 ws vm0 T h locs cells slots) (hc : cells ≤ cells') (hs : slots ≤ slots') : Wk p l e R s m args below meth c Z a0 EL y bytes ml ret w h0 ws vm0 T h locs cells' slots' :=
  ⟨X.1, X.st.more hc hs, X.2.2⟩
/-- the new cell at the heap's end may be written -/
theorem Wk.okNew (X : Wk p l e R s m args below meth c Z a0 EL y bytes ml ret w h0 ws vm0 T h locs cells slots) (E : Ext h h') (hlt : h.size < h'.size) : Ok w Z EL h0 ws vm0 h' h.size := ⟨hlt, X.hE.1, Or.inr X.hK.1, fun q => Safe.ext E (X.chv q) (Safe.new (Nat.le_refl _))⟩
/-! returns -/
def Done (w : Bool) (Z : State) (EL : List (String × Nat)) (rm : Room) (s : State) (h0 : Heap) (ws : List Addr) (P : Option Value → Heap → Prop) (t : State) (v : Option Value) : Prop :=
  ∃ L, (Fr Z.heap.size L ∧ Keep h0 t.heap ws ∧ P v t.heap) ∧ (w = true → CHr Z EL s.vm h0 t.vm t.heap) ∧ ReturnedEndW s (.returned v) t L rm.cells rm.slots ∧ (w = false → FrameEnd s (.returned v) t L rm.cells rm.slots)
theorem r_end {rm : Room} {P : Option Value → Heap → Prop} {g : JFrame} (X : Wk p l e R s m args below meth c Z a0 EL y bytes ml ret w h0 ws vm0 T h locs cells slots) (v : Option Value) (hv : ret = none → v = none) (hc : cells ≤ rm.cells) (hs : slots ≤ rm.slots) (hP : P v h)
    (st : ∀ fs, (∀ (f : JFrame) (acts : List Action), f.method = m → f.locked = none → f.entered = [] → (doReturn e (T.setTop f) acts v).1 = T.setFrames fs) → Steps p.tables e below (T.setTop g) (T.setFrames fs)) :
    Go p e below (Done w Z EL rm s h0 ws P) T g := by
  have hT := X.hT
  have hlk := X.hlk
  have hv' : meth.sig.returnType = none → v = none := fun q => hv (X.hret.symm.trans q)
  have hC : w = true → CHr Z EL s.vm h0 T.vm h := fun q => (X.hC q).trans (CHv.at X.st X.hZ X.hEW (X.chv q))
  cases w with
  | false =>
    have e0 := X.hv rfl
    subst e0
    have X1 : Stand p l e R s m args below meth c T locs cells slots := X.st
    obtain ⟨fs, h1, h2, h3, h4, h5⟩ := X1.leave (v := v) hv'
    refine ⟨T.setFrames fs, v, st fs h1, h2, h3, locs, ⟨X.hN, ?_, ?_⟩, nofun, ReturnedEndW.of_narrow ⟨v, rfl⟩ h4 (h5.mono hc hs), fun _ => ⟨⟨v, rfl⟩, h4, h5.mono hc hs⟩⟩
    · show Keep h0 T.heap ws; rw [hT]; exact X.hK
    · show P v T.heap; rw [hT]; exact hP
  | true =>
    obtain ⟨k0, k1, k2⟩ := X.hS
    obtain ⟨fs, h1, h2, h3, h4, h5, h6, h7⟩ := X.st.leaveW k1 (by rw [hT]; exact k2) (v := v) hv'
    refine ⟨T.setFrames fs, v, st fs h1, h2, h3, locs, ⟨X.hN, ?_, ?_⟩, fun q => ?_, ⟨h4, h5, h6, h7.mono hc hs⟩, nofun⟩
    · show Keep h0 T.heap ws; rw [hT]; exact X.hK
    · show P v T.heap; rw [hT]; exact hP
    · show CHr Z EL s.vm h0 T.vm T.heap; rw [hT]; exact hC q
theorem r_void {rm : Room} {P : Option Value → Heap → Prop} (X : Wk p l e R s m args below meth c Z a0 EL y bytes ml ret w h0 ws vm0 T h locs cells slots) (hr : ret = none) (hd : decode bytes pc = .ok (.return_, 1)) (hc : cells ≤ rm.cells) (hs : slots ≤ rm.slots) (hP : P none h) : Go p e below (Done w Z EL rm s h0 ws P) T (mkF m pc Ls []) :=
  r_end X none (fun _ => rfl) hc hs hP fun fs hl => X.st.returnOut X.hx (X.hret.trans hr) (hb X.hby hd) hl
theorem r_int {rm : Room} {P : Option Value → Heap → Prop} {z : Int32} (X : Wk p l e R s m args below meth c Z a0 EL y bytes ml ret w h0 ws vm0 T h locs cells slots) (hr : ret = some .int) (hd : decode bytes pc = .ok (.ireturn, 1)) (hc : cells ≤ rm.cells) (hs : slots ≤ rm.slots) (hP : P (some (.int z)) h) : Go p e below (Done w Z EL rm s h0 ws P) T (mkF m pc Ls (.int z :: rest)) :=
  r_end X (some (.int z)) (fun q => by rw [hr] at q; cases q) hc hs hP fun fs hl => retOut X.st X.hx (X.hret.trans hr) rfl (Or.inl ⟨rfl, Or.inl rfl, z, rfl⟩) (hb X.hby hd) hl
theorem r_nar {rm : Room} {P : Option Value → Heap → Prop} {z : Int32} {t : FieldType} (X : Wk p l e R s m args below meth c Z a0 EL y bytes ml ret w h0 ws vm0 T h locs cells slots) (hr : ret = some t) (ht : t = .boolean ∨ t = .byte ∨ t = .char ∨ t = .short) (hd : decode bytes pc = .ok (.ireturn, 1)) (hc : cells ≤ rm.cells) (hs : slots ≤ rm.slots) (hP : P (some (.int (nar t z))) h) : Go p e below (Done w Z EL rm s h0 ws P) T (mkF m pc Ls (.int z :: rest)) :=
  r_end X (some (.int (nar t z))) (fun q => by rw [hr] at q; cases q) hc hs hP fun fs hl => retN X.st X.hx (X.hret.trans hr) ht (hb X.hby hd) hl
theorem r_ref {rm : Room} {P : Option Value → Heap → Prop} {v : Value} {t : FieldType} (X : Wk p l e R s m args below meth c Z a0 EL y bytes ml ret w h0 ws vm0 T h locs cells slots) (hr : ret = some t) (ht : t.isReference = true) (hv : v.isRef = true) (hd : decode bytes pc = .ok (.areturn, 1)) (hc : cells ≤ rm.cells) (hs : slots ≤ rm.slots) (hP : P (some v) h) : Go p e below (Done w Z EL rm s h0 ws P) T (mkF m pc Ls (v :: rest)) :=
  r_end X (some v) (fun q => by rw [hr] at q; cases q) hc hs hP fun fs hl => retOut X.st X.hx (X.hret.trans hr) (by cases t <;> first | rfl | cases ht) (Or.inr (Or.inr (Or.inr (Or.inr ⟨rfl, ht, hv⟩)))) (hb X.hby hd) hl
/-! contracts -/
def Ctr (w : Bool) (l : Launch) (Z : State) (a0 : Array Value) (EL : List (String × Nat)) (y : MethodName) (bytes : ByteArray) (ml : Nat) (ret : Option FieldType) (rm : Room) (as : Array Value) (h0 : Heap) (ws : List Addr) (P : Option Value → Heap → Prop) : Prop :=
  ∀ cs : List Jvm.Cond, MetFree l y (head1 (Jvm.Cond.code y bytes ml ret :: cs) rm) (fun a U => a = as ∧ Z.Warmed39 U.vm ∧ U.heap = h0 ∧ (w = true → CHv Z EL U.vm h0 ∧ ∀ x ∈ ws, Safe Z EL U.vm h0 x)) (fun _ _ _ _ _ => True) (fun _ U o U' => ∃ v, o = .returned v ∧ Done w Z EL rm U h0 ws P U' v)
theorem Ctr.of {rm : Room} {as : Array Value} {P : Option Value → Heap → Prop} (hpn : plainFor y = true) (ef : ∀ m, entryFrame m as ml = mkF m 0 Ls []) (hE : Ext Z.heap h0) (hEW : EW Z a0 EL)
    (body : ∀ (p : Program) (e : Env) (s : State) (m : MethodId) (below : List Frame) (meth : Method) (c : Code) (T : State), Wk p l e rm s m as below meth c Z a0 EL y bytes ml ret w h0 ws s.vm T h0 [] 0 0 → (w = true → ∀ x ∈ ws, Safe Z EL s.vm h0 x) → Go p e below (Done w Z EL rm s h0 ws P) T (mkF m 0 Ls [])) :
    Ctr w l Z a0 EL y bytes ml ret rm as h0 ws P := by
  intro cs
  refine MetFree.of_bodySF hpn hisR ?_
  intro p e s m args below meth c s₁ Bd hml hP hK
  obtain ⟨rfl, hZ, hh, hC⟩ := hP
  have e0 : s₁.heap = h0 := by rw [← hh, Bd.state]; rfl
  have hS : s.Since s.vm s.heap.size := (State.WarmedH.refl s).since _
  obtain ⟨t, v, st, r1, r2, q⟩ := body p e s m below meth c s₁ ⟨⟨Bd.exec, Bd.bytes, hml, Bd.returns, Bd.notSynchronized, (name_of_methodNamed Bd.named Bd.method).1, hEW⟩, Stand.of_body Bd, hZ, findClass_of_methodNamed Bd.named, e0, ⟨_, hS, by rw [hh]; exact Nat.le_refl _⟩, fun _ => rfl, Fr.nil _, hE, Keep.refl _ _, fun q => CHr.refl (hC q).1⟩ (fun q => (hC q).2)
  exact ⟨t, .returned v, castTop (ef m) st, r1, r2, v, rfl, q⟩
theorem Ctr.back {w' : Bool} {y' : MethodName} {bytes' : ByteArray} {ml' : Nat} {ret' : Option FieldType} {rm : Room} {as : Array Value} {P : Option Value → Heap → Prop} {len W : Nat} (hw : w' = false) (H : Ctr w' l Z a0 EL y' bytes' ml' ret' rm as h ws' P) (hZ : Z.Warmed39 s.vm) (wc : (Jvm.Cond.code y' bytes' ml' ret').before a0 Z = true) (wz : (Jvm.Cond.initialized y'.cls).before a0 Z = true) (hf : rm.frames + 1 ≤ R.frames) (hl : W + (ml' + 11) + rm.locals ≤ R.locals) :
    Back l R p e below s args y' len W (fun A a => a = as ∧ A.U.heap = h ∧ A.cells + rm.cells ≤ R.cells ∧ A.slots + rm.slots ≤ R.slots) (fun A _ v B => ∃ L, (Fr Z.heap.size L ∧ Keep h B.U.heap ws' ∧ P v B.U.heap) ∧ B.locs = A.locs ++ L ∧ B.cells = A.cells + rm.cells ∧ B.slots = A.slots + rm.slots) := by
  subst hw
  refine backOf (Q := fun v h' L => Fr Z.heap.size L ∧ Keep h h' ws' ∧ P v h') (fun p e ha hc hk s m args below hf happ hP hK => ?_) hZ wc wz hf hl
  obtain ⟨n, o, r1, r2, r3, v, rfl, L, q1, -, -, q4⟩ := H [] p e ha hc hk s m args below hf happ ⟨hP.1, hP.2.1, hP.2.2, nofun⟩ hK
  exact ⟨n, _, r1, r2, r3, v, L, rfl, q1, q4 rfl⟩
theorem Ctr.backS {w' : Bool} {y' : MethodName} {bytes' : ByteArray} {ml' : Nat} {ret' : Option FieldType} {rm : Room} {as : Array Value} {P : Option Value → Heap → Prop} {len W : Nat} (hw : w' = true) (H : Ctr w' l Z a0 EL y' bytes' ml' ret' rm as h ws' P) (hZ : Z.Warmed39 vm0) (wc : (Jvm.Cond.code y' bytes' ml' ret').before a0 Z = true) (wz : (Jvm.Cond.initialized y'.cls).before a0 Z = true) (hf : rm.frames + 1 ≤ R.frames) (hl : W + (ml' + 11) + rm.locals ≤ R.locals) (hEL : EW Z a0 EL) (hC : CHv Z EL vm0 h) (hs : ∀ x ∈ ws', x < h.size ∧ Safe Z EL vm0 h x) :
    BackS l R p e below (s.setVm vm0) args y' len W (fun A a => a = as ∧ A.U.heap = h ∧ A.cells + rm.cells ≤ R.cells ∧ A.slots + rm.slots ≤ R.slots) (fun A _ v B => ∃ L, (Fr Z.heap.size L ∧ Keep h B.U.heap ws' ∧ P v B.U.heap ∧ CHr Z EL vm0 h B.U.vm B.U.heap) ∧ B.locs = A.locs ++ L ∧ B.cells = A.cells + rm.cells ∧ B.slots = A.slots + rm.slots) := by
  subst hw
  refine BackS.of_freeW (bytes := bytes') (maxL := ml') (ret := ret') (E := fun _ first o t L k n => k = rm.cells ∧ n = rm.slots ∧ (∃ v, o = .returned v ∧ Fr Z.heap.size L ∧ Keep h t.heap ws' ∧ P v t.heap) ∧ CHr Z EL first.vm h t.vm t.heap) (H []) hf hl ?_ ?_ (fun _ _ _ _ _ _ _ _ _ => trivial) ?_ ?_
  · intro m meth c A a Y hp
    have hU : Z.Warmed39 A.U.vm := wtrans (s := s.setVm vm0) hZ Y.warmed
    exact ⟨by show (Cond.and _ .tt).before a A.U = true; rw [Cond.before_and, mv hU wc]; rfl, mv hU wc, mv hU wz, hp.2.2.1, hp.2.2.2⟩
  · intro m meth c A a g mk Y hp
    have q := CHv.at Y hZ hEL hC
    exact ⟨hp.1, wtrans (s := s.setVm vm0) hZ Y.warmed, hp.2.1, fun _ => ⟨q.1, fun x hx => q.safe (hs x hx).1 (hs x hx).2⟩⟩
  · intro a first o t hq
    obtain ⟨v, rfl, L, q1, q2, q3, -⟩ := hq
    exact ⟨L, _, _, q3, rfl, rfl, ⟨v, rfl, q1⟩, q2 rfl⟩
  · intro m meth c A a g mk v t L k n Y hp _ _ hE
    obtain ⟨e1, e2, ⟨v', e3, e4⟩, e5⟩ := hE
    cases e3; subst e1 e2
    exact ⟨L, ⟨e4.1, e4.2.1, e4.2.2, (CHv.at Y hZ hEL hC).trans e5⟩, rfl, rfl, rfl⟩
/-! behind a call -/
theorem goB {G : Option Value → JFrame} {g : JFrame} {v : Option Value} {B : Pt} {Q : Option Value → Heap → List Loc → Prop} {P : Option Value → Heap → Prop} {cc ss : Nat} (X : Wk p l e R s m args below meth c Z a0 EL y bytes ml ret w h0 ws vm0 T h locs cells slots) (X' : Stand p l e R (s.setVm vm0) m args below meth c B.U B.locs B.cells B.slots)
    (hq : ∃ L, Q v B.U.heap L ∧ B.locs = locs ++ L ∧ B.cells = cells + cc ∧ B.slots = slots + ss) (st : Steps p.tables e below (T.setTop g) (B.U.setTop (G v))) (hQ : ∀ v h' L, Q v h' L → Fr Z.heap.size L ∧ Keep h h' ws' ∧ P v h') (hok : ∀ x ∈ ws', Ok w Z EL h0 ws vm0 h x)
    (k : ∀ v vm1 T' h' L, Wk p l e R s m args below meth c Z a0 EL y bytes ml ret w h0 ws vm1 T' h' (locs ++ L) (cells + cc) (slots + ss) → Ev w Z EL vm0 h vm1 h' ws' → P v h' → Go p e below F T' (G v)) : Go p e below F T g := by
  obtain ⟨L, q, e1, e2, e3⟩ := hq
  obtain ⟨n, K, hP⟩ := hQ _ _ _ q
  rw [e1, e2, e3] at X'
  have V := X.evK K hok
  exact (k v vm0 B.U B.U.heap L (X.same X' rfl (X.hN.app n) V (Ok.two hok)) V hP).by fun t r => st.trans r
theorem goS {G : Option Value → JFrame} {g : JFrame} {v : Option Value} {B : Pt} {P : Option Value → Heap → Prop} {cc ss : Nat} (hw : w = true) (X : Wk p l e R s m args below meth c Z a0 EL y bytes ml ret w h0 ws vm0 T h locs cells slots) (X' : Stand p l e R ((s.setVm vm0).setVm B.U.vm) m args below meth c B.U B.locs B.cells B.slots) (hS : (s.setVm vm0).Since B.U.vm B.U.heap.size) (hg : T.heap.size ≤ B.U.heap.size)
    (hq : ∃ L, (Fr Z.heap.size L ∧ Keep h B.U.heap ws' ∧ P v B.U.heap ∧ CHr Z EL vm0 h B.U.vm B.U.heap) ∧ B.locs = locs ++ L ∧ B.cells = cells + cc ∧ B.slots = slots + ss) (st : Steps p.tables e below (T.setTop g) (B.U.setTop (G v))) (hok : ∀ x ∈ ws', Ok w Z EL h0 ws vm0 h x)
    (k : ∀ v vm1 T' h' L, Wk p l e R s m args below meth c Z a0 EL y bytes ml ret w h0 ws vm1 T' h' (locs ++ L) (cells + cc) (slots + ss) → Ev w Z EL vm0 h vm1 h' ws' → P v h' → Go p e below F T' (G v)) : Go p e below F T g := by
  obtain ⟨L, ⟨n, K, hP, hC⟩, e1, e2, e3⟩ := hq
  rw [e1, e2, e3] at X'
  have V : Ev w Z EL vm0 h B.U.vm B.U.heap ws' := ⟨K, fun _ => hC⟩
  obtain ⟨k0, k1, k2⟩ := X.hS
  rw [X.hT] at hg
  have hZ : Z.Warmed39 B.U.vm := State.Warmed39.trans (t := s.setVm vm0) X.hZ hS.1
  refine (k v B.U.vm B.U B.U.heap L (X.move X' hZ ?_ rfl ⟨_, k1.trans hS (Nat.le_trans k2 hg), Nat.le_refl _⟩ (fun q => by rw [hw] at q; cases q) (X.hN.app n) V (Ok.two hok)) V hP).by fun t r => st.trans r
  rw [hS.1.alike.findClass]; exact X.hown
/-- never MethodHandle or VarHandle -/
abbrev Pl (y : MethodName) : Prop := y.cls ≠ "java/lang/invoke/MethodHandle" ∧ y.cls ≠ "java/lang/invoke/VarHandle"
section Calls
variable {y' z' : MethodName} {bytes' : ByteArray} {ml' idx W : Nat} {ret' : Option FieldType} {rm : Room} {P : Option Value → Heap → Prop} {w' : Bool} {S argsL : List Value} {Q : Option Value → Heap → List Loc → Prop} {cc ss : Nat} {C : String}
/-! calls paid by a Back -/
theorem b_static (X : Wk p l e R s m args below meth c Z a0 EL y bytes ml ret w h0 ws vm0 T h locs cells slots) (hd : decode bytes pc = .ok (.invokestatic idx, 3)) (w1 : (Jvm.Cond.methodLink y.cls idx y').before a0 Z = true) (w2 : (Jvm.Cond.static y').before a0 Z = true) (w3 : (Jvm.Cond.initialized y'.cls).before a0 Z = true) (w4 : (Jvm.Cond.code y' bytes' ml' ret').before a0 Z = true) (hy : Pl y')
    (argsL rest : List Value) (B : Back l R p e below (s.setVm vm0) args y' 3 W (fun A a => a = argsL.toArray ∧ A.U.heap = h ∧ A.cells + cc ≤ R.cells ∧ A.slots + ss ≤ R.slots) (fun A _ v B => ∃ L, Q v B.U.heap L ∧ B.locs = A.locs ++ L ∧ B.cells = A.cells + cc ∧ B.slots = A.slots + ss))
    (hQ : ∀ v h' L, Q v h' L → Fr Z.heap.size L ∧ Keep h h' ws' ∧ P v h') (hok : ∀ x ∈ ws', Ok w Z EL h0 ws vm0 h x) (hlen : ∀ sig, parseMethodDescriptor y'.desc = some sig → argsL.length = sig.parameters.length) (hS : S = argsL.reverse ++ rest) (hW : (rest.map fun v => v.category).sum ≤ W) (hc : cells + cc ≤ R.cells) (hs : slots + ss ≤ R.slots) (hsz : Ls.size = ml) (hp : pc + 3 = pc')
    (k : ∀ v vm1 T' h' L, Wk p l e R s m args below meth c Z a0 EL y bytes ml ret w h0 ws vm1 T' h' (locs ++ L) (cells + cc) (slots + ss) → Ev w Z EL vm0 h vm1 h' ws' → P v h' → Go p e below F T' (mkF m pc' Ls (v.toList ++ rest))) : Go p e below F T (mkF m pc Ls S) := by
  subst hp hS
  obtain ⟨v, vm, B, -, X', hq, st⟩ := Jvm.LawKit.callS X.st X.hx X.hown (mvT X.hZ w1) (mvT X.hZ w2) (mvT X.hZ w3) (mvT X.hZ w4) hy B (g := mkF m pc Ls (argsL.reverse ++ rest)) rfl (hsz.trans X.hml.symm) hlen rfl (by show 2 * 0 + _ ≤ _; omega) (hb X.hby hd) (fun _ _ => ⟨rfl, X.hT, hc, hs⟩)
  exact goB X X' hq (st _ (Steps.refl _)) hQ hok k
theorem b_special (X : Wk p l e R s m args below meth c Z a0 EL y bytes ml ret w h0 ws vm0 T h locs cells slots) (hd : decode bytes pc = .ok (.invokespecial idx, 3)) (hn : y'.name = "<init>") (w1 : (Jvm.Cond.methodLink y.cls idx y').before a0 Z = true) (w2 : (Jvm.Cond.instanceMethod y').before a0 Z = true) (w4 : (Jvm.Cond.code y' bytes' ml' none).before a0 Z = true) (hy : Pl y')
    (a : Addr) (argsL rest : List Value) (B : Back l R p e below (s.setVm vm0) args y' 3 W (fun A a' => a' = (.ref a :: argsL).toArray ∧ A.U.heap = h ∧ A.cells + cc ≤ R.cells ∧ A.slots + ss ≤ R.slots) (fun A _ v B => ∃ L, Q v B.U.heap L ∧ B.locs = A.locs ++ L ∧ B.cells = A.cells + cc ∧ B.slots = A.slots + ss))
    (hQ : ∀ v h' L, Q v h' L → Fr Z.heap.size L ∧ Keep h h' ws' ∧ P v h') (hok : ∀ x ∈ ws', Ok w Z EL h0 ws vm0 h x) (hlen : ∀ sig, parseMethodDescriptor y'.desc = some sig → argsL.length = sig.parameters.length) (hS : S = argsL.reverse ++ .ref a :: rest) (hW : (rest.map fun v => v.category).sum ≤ W) (hc : cells + cc ≤ R.cells) (hs : slots + ss ≤ R.slots) (hsz : Ls.size = ml) (hp : pc + 3 = pc')
    (k : ∀ v vm1 T' h' L, Wk p l e R s m args below meth c Z a0 EL y bytes ml ret w h0 ws vm1 T' h' (locs ++ L) (cells + cc) (slots + ss) → Ev w Z EL vm0 h vm1 h' ws' → P v h' → Go p e below F T' (mkF m pc' Ls (v.toList ++ rest))) : Go p e below F T (mkF m pc Ls S) := by
  subst hp hS
  obtain ⟨v, vm, B, -, X', hq, st⟩ := X.st.specialBack X.hx hn X.hown (mvT X.hZ w1) (mvT X.hZ w2) (mvT X.hZ w4) hy B (g := mkF m pc Ls (argsL.reverse ++ .ref a :: rest)) rfl (hsz.trans X.hml.symm) (Steps.refl _) hlen rfl (by show 2 * 0 + _ ≤ _; omega) (hb X.hby hd) (fun _ _ => ⟨rfl, X.hT, hc, hs⟩)
  exact goB X X' hq st hQ hok k
theorem b_virtual (X : Wk p l e R s m args below meth c Z a0 EL y bytes ml ret w h0 ws vm0 T h locs cells slots) (hd : decode bytes pc = .ok (.invokevirtual idx, 3)) (w1 : (Jvm.Cond.methodLink y.cls idx y').before a0 Z = true) (w2 : (Jvm.Cond.declares y').before a0 Z = true) (hnf : NotFace (s.setVm vm0) y') (w3 : (Jvm.Cond.selects C y' z').before a0 Z = true) (w4 : (Jvm.Cond.instanceMethod z').before a0 Z = true) (hy : Pl y')
    (a : Addr) (argsL rest : List Value) (E : Exa Z h a C) (B : Back l R p e below (s.setVm vm0) args z' 3 W (fun A a' => a' = (.ref a :: argsL).toArray ∧ A.U.heap = h ∧ A.cells + cc ≤ R.cells ∧ A.slots + ss ≤ R.slots) (fun A _ v B => ∃ L, Q v B.U.heap L ∧ B.locs = A.locs ++ L ∧ B.cells = A.cells + cc ∧ B.slots = A.slots + ss))
    (hQ : ∀ v h' L, Q v h' L → Fr Z.heap.size L ∧ Keep h h' ws' ∧ P v h') (hok : ∀ x ∈ ws', Ok w Z EL h0 ws vm0 h x) (hlen : ∀ sig, parseMethodDescriptor y'.desc = some sig → argsL.length = sig.parameters.length) (hS : S = argsL.reverse ++ .ref a :: rest) (hW : (rest.map fun v => v.category).sum ≤ W) (hc : cells + cc ≤ R.cells) (hs : slots + ss ≤ R.slots) (hsz : Ls.size = ml) (hp : pc + 3 = pc')
    (k : ∀ v vm1 T' h' L, Wk p l e R s m args below meth c Z a0 EL y bytes ml ret w h0 ws vm1 T' h' (locs ++ L) (cells + cc) (slots + ss) → Ev w Z EL vm0 h vm1 h' ws' → P v h' → Go p e below F T' (mkF m pc' Ls (v.toList ++ rest))) : Go p e below F T (mkF m pc Ls S) := by
  subst hp hS
  obtain ⟨cq, kq, qa, qb, qc⟩ := isOf (s := s.setVm vm0) X.hZ X.hT E
  obtain ⟨v, vm, B, -, X', hq, st⟩ := X.st.virtualBack X.hx X.hown (mvT X.hZ w1) (mvT X.hZ w2) hnf (mvT X.hZ w3) (mvT X.hZ w4) hy B qa qc (g := mkF m pc Ls (argsL.reverse ++ .ref a :: rest)) rfl (hsz.trans X.hml.symm) (Steps.refl _) hlen rfl (by show 2 * 0 + _ ≤ _; omega) (hb X.hby hd) (fun _ _ => ⟨rfl, X.hT, hc, hs⟩)
  exact goB X X' hq st hQ hok k
/-! calls paid by a contract -/
theorem c_static (X : Wk p l e R s m args below meth c Z a0 EL y bytes ml ret w h0 ws vm0 T h locs cells slots) (hd : decode bytes pc = .ok (.invokestatic idx, 3)) (w1 : (Jvm.Cond.methodLink y.cls idx y').before a0 Z = true) (w2 : (Jvm.Cond.static y').before a0 Z = true) (w3 : (Jvm.Cond.initialized y'.cls).before a0 Z = true) (w4 : (Jvm.Cond.code y' bytes' ml' ret').before a0 Z = true) (hy : Pl y')
    (argsL rest : List Value) (W : Nat) (H : Ctr w' l Z a0 EL y' bytes' ml' ret' rm argsL.toArray h ws' P) (hww : w' = true → w = true) (hok : ∀ x ∈ ws', Ok w Z EL h0 ws vm0 h x) (hlen : ∀ sig, parseMethodDescriptor y'.desc = some sig → argsL.length = sig.parameters.length) (hS : S = argsL.reverse ++ rest) (hW : (rest.map fun v => v.category).sum ≤ W) (hf : rm.frames + 1 ≤ R.frames) (hl : W + (ml' + 11) + rm.locals ≤ R.locals) (hc : cells + rm.cells ≤ R.cells) (hs : slots + rm.slots ≤ R.slots) (hsz : Ls.size = ml) (hp : pc + 3 = pc')
    (k : ∀ v vm1 T' h' L, Wk p l e R s m args below meth c Z a0 EL y bytes ml ret w h0 ws vm1 T' h' (locs ++ L) (cells + rm.cells) (slots + rm.slots) → Ev w Z EL vm0 h vm1 h' ws' → P v h' → Go p e below F T' (mkF m pc' Ls (v.toList ++ rest))) : Go p e below F T (mkF m pc Ls S) := by
  cases hw' : w' with
  | false => exact b_static X hd w1 w2 w3 w4 hy argsL rest (Ctr.back hw' H X.hZ w4 w3 hf hl) (fun v h' L q => q) hok hlen hS hW hc hs hsz hp k
  | true =>
    subst hp hS
    have hw := hww hw'
    obtain ⟨v, vm, B, -, X', hsi, hg, hq, st⟩ := callSS X.st X.hx X.hown (mvT X.hZ w1) (mvT X.hZ w2) (mvT X.hZ w3) (mvT X.hZ w4) hy (Ctr.backS hw' H X.hZ w4 w3 hf hl X.hEW (X.chv hw) fun x hx => ⟨(hok x hx).1, (hok x hx).2.2.2 hw⟩) (g := mkF m pc Ls (argsL.reverse ++ rest)) rfl (hsz.trans X.hml.symm) hlen rfl (by show 2 * 0 + _ ≤ _; omega) (hb X.hby hd) (fun _ _ => ⟨rfl, X.hT, hc, hs⟩)
    exact goS hw X X' hsi hg hq st hok k
theorem c_special (X : Wk p l e R s m args below meth c Z a0 EL y bytes ml ret w h0 ws vm0 T h locs cells slots) (hd : decode bytes pc = .ok (.invokespecial idx, 3)) (hn : y'.name = "<init>") (w1 : (Jvm.Cond.methodLink y.cls idx y').before a0 Z = true) (w2 : (Jvm.Cond.instanceMethod y').before a0 Z = true) (w3 : (Jvm.Cond.initialized y'.cls).before a0 Z = true) (w4 : (Jvm.Cond.code y' bytes' ml' none).before a0 Z = true) (hy : Pl y')
    (a : Addr) (argsL rest : List Value) (W : Nat) (H : Ctr w' l Z a0 EL y' bytes' ml' none rm (.ref a :: argsL).toArray h ws' P) (hww : w' = true → w = true) (hok : ∀ x ∈ ws', Ok w Z EL h0 ws vm0 h x) (hlen : ∀ sig, parseMethodDescriptor y'.desc = some sig → argsL.length = sig.parameters.length) (hS : S = argsL.reverse ++ .ref a :: rest) (hW : (rest.map fun v => v.category).sum ≤ W) (hf : rm.frames + 1 ≤ R.frames) (hl : W + (ml' + 11) + rm.locals ≤ R.locals) (hc : cells + rm.cells ≤ R.cells) (hs : slots + rm.slots ≤ R.slots) (hsz : Ls.size = ml) (hp : pc + 3 = pc')
    (k : ∀ v vm1 T' h' L, Wk p l e R s m args below meth c Z a0 EL y bytes ml ret w h0 ws vm1 T' h' (locs ++ L) (cells + rm.cells) (slots + rm.slots) → Ev w Z EL vm0 h vm1 h' ws' → P v h' → Go p e below F T' (mkF m pc' Ls (v.toList ++ rest))) : Go p e below F T (mkF m pc Ls S) := by
  cases hw' : w' with
  | false => exact b_special X hd hn w1 w2 w4 hy a argsL rest (Ctr.back hw' H X.hZ w4 w3 hf hl) (fun v h' L q => q) hok hlen hS hW hc hs hsz hp k
  | true =>
    subst hp hS
    have hw := hww hw'
    obtain ⟨v, vm, B, -, X', hsi, hg, hq, st⟩ := X.st.specialBackS X.hx hn X.hown (mvT X.hZ w1) (mvT X.hZ w2) (mvT X.hZ w4) hy (Ctr.backS hw' H X.hZ w4 w3 hf hl X.hEW (X.chv hw) fun x hx => ⟨(hok x hx).1, (hok x hx).2.2.2 hw⟩) (g := mkF m pc Ls (argsL.reverse ++ .ref a :: rest)) rfl (hsz.trans X.hml.symm) (Steps.refl _) hlen rfl (by show 2 * 0 + _ ≤ _; omega) (hb X.hby hd) (fun _ _ => ⟨rfl, X.hT, hc, hs⟩)
    exact goS hw X X' hsi hg hq st hok k
theorem c_virtual (X : Wk p l e R s m args below meth c Z a0 EL y bytes ml ret w h0 ws vm0 T h locs cells slots) (hd : decode bytes pc = .ok (.invokevirtual idx, 3)) (w1 : (Jvm.Cond.methodLink y.cls idx y').before a0 Z = true) (w2 : (Jvm.Cond.declares y').before a0 Z = true) (hnf : NotFace (s.setVm vm0) y') (w3 : (Jvm.Cond.selects C y' z').before a0 Z = true) (w4 : (Jvm.Cond.instanceMethod z').before a0 Z = true) (w5 : (Jvm.Cond.initialized z'.cls).before a0 Z = true) (w6 : (Jvm.Cond.code z' bytes' ml' ret').before a0 Z = true) (hy : Pl y')
    (a : Addr) (argsL rest : List Value) (W : Nat) (E : Exa Z h a C) (H : Ctr w' l Z a0 EL z' bytes' ml' ret' rm (.ref a :: argsL).toArray h ws' P) (hww : w' = true → w = true) (hok : ∀ x ∈ ws', Ok w Z EL h0 ws vm0 h x) (hlen : ∀ sig, parseMethodDescriptor y'.desc = some sig → argsL.length = sig.parameters.length) (hS : S = argsL.reverse ++ .ref a :: rest) (hW : (rest.map fun v => v.category).sum ≤ W) (hf : rm.frames + 1 ≤ R.frames) (hl : W + (ml' + 11) + rm.locals ≤ R.locals) (hc : cells + rm.cells ≤ R.cells) (hs : slots + rm.slots ≤ R.slots) (hsz : Ls.size = ml) (hp : pc + 3 = pc')
    (k : ∀ v vm1 T' h' L, Wk p l e R s m args below meth c Z a0 EL y bytes ml ret w h0 ws vm1 T' h' (locs ++ L) (cells + rm.cells) (slots + rm.slots) → Ev w Z EL vm0 h vm1 h' ws' → P v h' → Go p e below F T' (mkF m pc' Ls (v.toList ++ rest))) : Go p e below F T (mkF m pc Ls S) := by
  cases hw' : w' with
  | false => exact b_virtual X hd w1 w2 hnf w3 w4 hy a argsL rest E (Ctr.back hw' H X.hZ w6 w5 hf hl) (fun v h' L q => q) hok hlen hS hW hc hs hsz hp k
  | true =>
    subst hp hS
    have hw := hww hw'
    obtain ⟨cq, kq, qa, qb, qc⟩ := isOf (s := s.setVm vm0) X.hZ X.hT E
    obtain ⟨v, vm, B, -, X', hsi, hg, hq, st⟩ := X.st.virtualBackS X.hx X.hown (mvT X.hZ w1) (mvT X.hZ w2) hnf (mvT X.hZ w3) (mvT X.hZ w4) hy (Ctr.backS hw' H X.hZ w6 w5 hf hl X.hEW (X.chv hw) fun x hx => ⟨(hok x hx).1, (hok x hx).2.2.2 hw⟩) qa qc (g := mkF m pc Ls (argsL.reverse ++ .ref a :: rest)) rfl (hsz.trans X.hml.symm) (Steps.refl _) hlen rfl (by show 2 * 0 + _ ≤ _; omega) (hb X.hby hd) (fun _ _ => ⟨rfl, X.hT, hc, hs⟩)
    exact goS hw X X' hsi hg hq st hok k
theorem b_interface {count : Nat} (X : Wk p l e R s m args below meth c Z a0 EL y bytes ml ret w h0 ws vm0 T h locs cells slots) (hd : decode bytes pc = .ok (.invokeinterface idx count, 5)) (w1 : (Jvm.Cond.methodLink y.cls idx y').before a0 Z = true) (w2 : (Jvm.Cond.declares y').before a0 Z = true) (w3 : (Jvm.Cond.interfaceMethod y'.cls y'.cls y'.name y'.desc).before a0 Z = true) (hfc : ((Jvm.Cond.interfaceMethod y'.cls y'.cls y'.name y'.desc).onTables && (Jvm.Cond.interfaceMethod y'.cls y'.cls y'.name y'.desc).keepsFace) = true) (w4 : (Jvm.Cond.selects C y' z').before a0 Z = true) (w5 : (Jvm.Cond.instanceMethod z').before a0 Z = true) (w6 : (Jvm.Cond.publicMethod z').before a0 Z = true) (w7 : (Jvm.Cond.unhidden C y'.name y'.desc).before a0 Z = true) (w8 : (Jvm.Cond.castable C y'.cls).before a0 Z = true) (hy : Pl y')
    (a : Addr) (argsL rest : List Value) (E : Exa Z h a C) (B : Back l R p e below (s.setVm vm0) args z' 5 W (fun A a' => a' = (.ref a :: argsL).toArray ∧ A.U.heap = h ∧ A.cells + cc ≤ R.cells ∧ A.slots + ss ≤ R.slots) (fun A _ v B => ∃ L, Q v B.U.heap L ∧ B.locs = A.locs ++ L ∧ B.cells = A.cells + cc ∧ B.slots = A.slots + ss))
    (hQ : ∀ v h' L, Q v h' L → Fr Z.heap.size L ∧ Keep h h' ws' ∧ P v h') (hok : ∀ x ∈ ws', Ok w Z EL h0 ws vm0 h x) (hlen : ∀ sig, parseMethodDescriptor y'.desc = some sig → argsL.length = sig.parameters.length) (hS : S = argsL.reverse ++ .ref a :: rest) (hW : (rest.map fun v => v.category).sum ≤ W) (hc : cells + cc ≤ R.cells) (hs : slots + ss ≤ R.slots) (hsz : Ls.size = ml) (hp : pc + 5 = pc')
    (k : ∀ v vm1 T' h' L, Wk p l e R s m args below meth c Z a0 EL y bytes ml ret w h0 ws vm1 T' h' (locs ++ L) (cells + cc) (slots + ss) → Ev w Z EL vm0 h vm1 h' ws' → P v h' → Go p e below F T' (mkF m pc' Ls (v.toList ++ rest))) : Go p e below F T (mkF m pc Ls S) := by
  subst hp hS
  obtain ⟨cq, kq, qa, qb, qc⟩ := isOf (s := s.setVm vm0) X.hZ X.hT E
  obtain ⟨v, vm, B, -, X', hq, st⟩ := X.st.interfaceBack X.hx X.hown (mvT X.hZ w1) (mvT X.hZ w2) (mvT X.hZ w3 hfc) (mvT X.hZ w4) (mvT X.hZ w5) (mvT X.hZ w6) (mvT X.hZ w7) (mvT X.hZ w8) hy B qa qb qc (g := mkF m pc Ls (argsL.reverse ++ .ref a :: rest)) rfl (hsz.trans X.hml.symm) (Steps.refl _) hlen rfl (by show 2 * 0 + _ ≤ _; omega) (hb X.hby hd) (fun _ _ => ⟨rfl, X.hT, hc, hs⟩)
  exact goB X X' hq st hQ hok k
theorem c_interface {count : Nat} (X : Wk p l e R s m args below meth c Z a0 EL y bytes ml ret w h0 ws vm0 T h locs cells slots) (hd : decode bytes pc = .ok (.invokeinterface idx count, 5)) (w1 : (Jvm.Cond.methodLink y.cls idx y').before a0 Z = true) (w2 : (Jvm.Cond.declares y').before a0 Z = true) (w3 : (Jvm.Cond.interfaceMethod y'.cls y'.cls y'.name y'.desc).before a0 Z = true) (hfc : ((Jvm.Cond.interfaceMethod y'.cls y'.cls y'.name y'.desc).onTables && (Jvm.Cond.interfaceMethod y'.cls y'.cls y'.name y'.desc).keepsFace) = true) (w4 : (Jvm.Cond.selects C y' z').before a0 Z = true) (w5 : (Jvm.Cond.instanceMethod z').before a0 Z = true) (w6 : (Jvm.Cond.publicMethod z').before a0 Z = true) (w7 : (Jvm.Cond.unhidden C y'.name y'.desc).before a0 Z = true) (w8 : (Jvm.Cond.castable C y'.cls).before a0 Z = true) (wz : (Jvm.Cond.initialized z'.cls).before a0 Z = true) (wc : (Jvm.Cond.code z' bytes' ml' ret').before a0 Z = true) (hy : Pl y')
    (a : Addr) (argsL rest : List Value) (W : Nat) (E : Exa Z h a C) (H : Ctr w' l Z a0 EL z' bytes' ml' ret' rm (.ref a :: argsL).toArray h ws' P) (hww : w' = true → w = true) (hok : ∀ x ∈ ws', Ok w Z EL h0 ws vm0 h x) (hlen : ∀ sig, parseMethodDescriptor y'.desc = some sig → argsL.length = sig.parameters.length) (hS : S = argsL.reverse ++ .ref a :: rest) (hW : (rest.map fun v => v.category).sum ≤ W) (hf : rm.frames + 1 ≤ R.frames) (hl : W + (ml' + 11) + rm.locals ≤ R.locals) (hc : cells + rm.cells ≤ R.cells) (hs : slots + rm.slots ≤ R.slots) (hsz : Ls.size = ml) (hp : pc + 5 = pc')
    (k : ∀ v vm1 T' h' L, Wk p l e R s m args below meth c Z a0 EL y bytes ml ret w h0 ws vm1 T' h' (locs ++ L) (cells + rm.cells) (slots + rm.slots) → Ev w Z EL vm0 h vm1 h' ws' → P v h' → Go p e below F T' (mkF m pc' Ls (v.toList ++ rest))) : Go p e below F T (mkF m pc Ls S) := by
  cases hw' : w' with
  | false => exact b_interface X hd w1 w2 w3 hfc w4 w5 w6 w7 w8 hy a argsL rest E (Ctr.back hw' H X.hZ wc wz hf hl) (fun v h' L q => q) hok hlen hS hW hc hs hsz hp k
  | true =>
    subst hp hS
    have hw := hww hw'
    obtain ⟨cq, kq, qa, qb, qc⟩ := isOf (s := s.setVm vm0) X.hZ X.hT E
    obtain ⟨v, vm, B, -, X', hsi, hg, hq, st⟩ := X.st.interfaceBackS X.hx X.hown (mvT X.hZ w1) (mvT X.hZ w2) (mvT X.hZ w3 hfc) (mvT X.hZ w4) (mvT X.hZ w5) (mvT X.hZ w6) (mvT X.hZ w7) (mvT X.hZ w8) hy (Ctr.backS hw' H X.hZ wc wz hf hl X.hEW (X.chv hw) fun x hx => ⟨(hok x hx).1, (hok x hx).2.2.2 hw⟩) qa qb qc (g := mkF m pc Ls (argsL.reverse ++ .ref a :: rest)) rfl (hsz.trans X.hml.symm) (Steps.refl _) hlen rfl (by show 2 * 0 + _ ≤ _; omega) (hb X.hby hd) (fun _ _ => ⟨rfl, X.hT, hc, hs⟩)
    exact goS hw X X' hsi hg hq st hok k
end Calls
/-! steps that make or write -/
theorem s_initO {idx : Nat} (X : Wk p l e R s m args below meth c Z a0 EL y bytes ml ret w h0 ws vm0 T h locs cells slots) (hd : decode bytes pc = .ok (.invokespecial idx, 3)) (w1 : (Jvm.Cond.methodLink y.cls idx Lib.objectInit).before a0 Z = true) (w2 : (Jvm.Cond.instanceMethod Lib.objectInit).before a0 Z = true) (w3 : (Jvm.Cond.code Lib.objectInit ⟨#[0xb1]⟩ 1 none).before a0 Z = true) (W : Nat) (hW : (rest.map fun v => v.category).sum ≤ W) (hf : 1 ≤ R.frames) (hl : W + 12 ≤ R.locals) (hsz : Ls.size = ml) (hp : pc + 3 = pc')
    (k : ∀ T', Wk p l e R s m args below meth c Z a0 EL y bytes ml ret w h0 ws vm0 T' h locs cells slots → Go p e below F T' (mkF m pc' Ls rest)) : Go p e below F T (mkF m pc Ls (.ref a :: rest)) := by
  subst hp
  obtain ⟨T', X', e', st⟩ := initO X.st X.hx X.hZ X.hown w1 w2 w3 X.hT (g := mkF m pc Ls (.ref a :: rest)) rfl (hsz.trans X.hml.symm) rfl (hb X.hby hd) hf (W := W) (by show 2 * 0 + _ ≤ _; omega) hl
  exact (k T' (X.same X' e' X.hN X.evR two0)).by fun t r => st t r
theorem s_new {idx n : Nat} {C : String} (X : Wk p l e R s m args below meth c Z a0 EL y bytes ml ret w h0 ws vm0 T h locs cells slots) (hd : decode bytes pc = .ok (.new idx, 3)) (w1 : (Jvm.Cond.classLink y.cls idx C).before a0 Z = true) (w2 : (Jvm.Cond.instantiable C n).before a0 Z = true) (w3 : (Jvm.Cond.initialized C).before a0 Z = true) (hc : cells + 1 ≤ R.cells) (hs : slots + n ≤ R.slots) (hp : pc + 3 = pc')
    (k : ∀ a T' h', Wk p l e R s m args below meth c Z a0 EL y bytes ml ret w h0 ws vm0 T' h' locs (cells + 1) (slots + n) → Ev w Z EL vm0 h vm0 h' [] → h.size ≤ a → Exa Z h' a C → Ok w Z EL h0 ws vm0 h' a → (∀ {O nm d : String} {ty : FieldType}, Laid Z a0 C O nm d → parseFieldDescriptor d = some ty → Fld Z h' a O nm d (defaultValue ty)) → Go p e below F T' (mkF m pc' Ls (.ref a :: rest))) : Go p e below F T (mkF m pc Ls rest) := by
  subst hp
  obtain ⟨T', h', X', e', E, A, D, -, st⟩ := newO X.st X.hx X.hZ X.hown w1 w2 w3 X.hT (g := mkF m pc Ls rest) rfl (hb X.hby hd) hc hs
  have V := X.evE E
  exact (k h.size T' h' (X.same X' e' X.hN V two0) V (Nat.le_refl _) A (X.okNew E A.lt) D).by fun t r => st t r
theorem s_newarray {aty : ArrayType} {n : Int32} (X : Wk p l e R s m args below meth c Z a0 EL y bytes ml ret w h0 ws vm0 T h locs cells slots) (hd : decode bytes pc = .ok (.newarray aty, 2)) (w1 : (Jvm.Cond.arrayClass (newarray.typeOf aty)).before a0 Z = true) (hn : ¬ n < 0) (cap : Nat) (hcap : n.toNatClampNeg ≤ cap) (hbg : cap * 8 ≤ 536870912) (hc : cells + 1 ≤ R.cells) (hs : slots + cap ≤ R.slots) (hp : pc + 2 = pc')
    (k : ∀ a T' h' kc, Wk p l e R s m args below meth c Z a0 EL y bytes ml ret w h0 ws vm0 T' h' locs (cells + 1) (slots + cap) → Ev w Z EL vm0 h vm0 h' [] → h.size ≤ a → Arv Z h' a kc (newarray.typeOf aty) n [] (defaultValue (newarray.typeOf aty)) → Ok w Z EL h0 ws vm0 h' a → Go p e below F T' (mkF m pc' Ls (.ref a :: rest))) : Go p e below F T (mkF m pc Ls (.int n :: rest)) := by
  subst hp
  obtain ⟨T', h', kc, X', e', E, A, st⟩ := newP X.st X.hx X.hZ w1 X.hT (g := mkF m pc Ls (.int n :: rest)) rfl (hb X.hby hd) rfl hn hcap hbg hc hs
  have V := X.evE E
  exact (k h.size T' h' kc (X.same X' e' X.hN V two0) V (Nat.le_refl _) (Arv.new A hn) (X.okNew E A.lt)).by fun t r => st t r
theorem s_putfield {idx kk : Nat} {O nm d C : String} {old v : Value} {ty : FieldType} (X : Wk p l e R s m args below meth c Z a0 EL y bytes ml ret w h0 ws vm0 T h locs cells slots) (hd : decode bytes pc = .ok (.putfield idx, 3)) (w1 : (Jvm.Cond.fieldLink y.cls idx O nm d).before a0 Z = true) (Fo : Fld Z h a O nm d old) (E : Exa Z h a C) (L : (Jvm.Cond.lays C O nm d).before a0 Z = true ∨ ((Jvm.Cond.laysFinal C O nm d).before a0 Z = true ∧ y.cls = O ∧ y.name = "<init>")) (wi : (Jvm.Cond.instantiable C kk).before a0 Z = true) (hty : parseFieldDescriptor d = some ty) (hn : narrow ty v = v) (hf : fits ty v = true) (Oa : Ok w Z EL h0 ws vm0 h a) (hp : pc + 3 = pc')
    (k : ∀ T' h', Wk p l e R s m args below meth c Z a0 EL y bytes ml ret w h0 ws vm0 T' h' (locs ++ [⟨a, Jvm.RoadKit.slotOf Z O nm d⟩]) cells slots → Ev w Z EL vm0 h vm0 h' [a] → Wr h h' a (Jvm.RoadKit.slotOf Z O nm d) v → Go p e below F T' (mkF m pc' Ls rest)) : Go p e below F T (mkF m pc Ls (v :: .ref a :: rest)) := by
  subst hp
  obtain ⟨T', h', X', e', W, st⟩ := putF X.st X.hx X.hZ X.hown (host := "") (Or.inl w1) Via.refl X.hT Fo E (L.imp id fun q => ⟨q.1, q.2.1, X.hnm.trans q.2.2⟩) wi hty hn hf (g := mkF m pc Ls (v :: .ref a :: rest)) rfl rfl (hb X.hby hd)
  have V := X.evW W Oa
  exact (k T' h' (X.same X' e' (Fr.snoc X' X.hN Oa.2.1) V (Ok.two Oa.one)) V W).by fun t r => st t r
theorem s_putfieldN {idx kk : Nat} {O nm d C : String} {old v v' : Value} {ty : FieldType} (X : Wk p l e R s m args below meth c Z a0 EL y bytes ml ret w h0 ws vm0 T h locs cells slots) (hd : decode bytes pc = .ok (.putfield idx, 3)) (w1 : (Jvm.Cond.fieldLink y.cls idx O nm d).before a0 Z = true) (Fo : Fld Z h a O nm d old) (E : Exa Z h a C) (L : (Jvm.Cond.lays C O nm d).before a0 Z = true ∨ ((Jvm.Cond.laysFinal C O nm d).before a0 Z = true ∧ y.cls = O ∧ y.name = "<init>")) (wi : (Jvm.Cond.instantiable C kk).before a0 Z = true) (hty : parseFieldDescriptor d = some ty) (hn : narrow ty v = v') (hf : fits ty v' = true) (Oa : Ok w Z EL h0 ws vm0 h a) (hp : pc + 3 = pc')
    (k : ∀ T' h', Wk p l e R s m args below meth c Z a0 EL y bytes ml ret w h0 ws vm0 T' h' (locs ++ [⟨a, Jvm.RoadKit.slotOf Z O nm d⟩]) cells slots → Ev w Z EL vm0 h vm0 h' [a] → Wr h h' a (Jvm.RoadKit.slotOf Z O nm d) v' → Go p e below F T' (mkF m pc' Ls rest)) : Go p e below F T (mkF m pc Ls (v :: .ref a :: rest)) := by
  subst hp
  obtain ⟨T', h', X', e', W, st⟩ := putFN X.st X.hx X.hZ X.hown w1 Via.refl X.hT Fo E (L.imp id fun q => ⟨q.1, q.2.1, X.hnm.trans q.2.2⟩) wi hty hn hf (g := mkF m pc Ls (v :: .ref a :: rest)) rfl rfl (hb X.hby hd)
  have V := X.evW W Oa
  exact (k T' h' (X.same X' e' (Fr.snoc X' X.hN Oa.2.1) V (Ok.two Oa.one)) V W).by fun t r => st t r
theorem s_getfield {idx : Nat} {O nm d : String} {v : Value} (X : Wk p l e R s m args below meth c Z a0 EL y bytes ml ret w h0 ws vm0 T h locs cells slots) (hd : decode bytes pc = .ok (.getfield idx, 3)) (w1 : (Jvm.Cond.fieldLink y.cls idx O nm d).before a0 Z = true) (Fo : Fld Z h a O nm d v) (hp : pc + 3 = pc')
    (k : ∀ T', Wk p l e R s m args below meth c Z a0 EL y bytes ml ret w h0 ws vm0 T' h locs cells slots → Go p e below F T' (mkF m pc' Ls (v :: rest))) : Go p e below F T (mkF m pc Ls (.ref a :: rest)) := by
  subst hp
  obtain ⟨T', X', e', st⟩ := getF X.st X.hx X.hZ X.hown (host := "") (Or.inl w1) Via.refl X.hT Fo (g := mkF m pc Ls (.ref a :: rest)) rfl rfl (hb X.hby hd)
  exact (k T' (X.same X' e' X.hN X.evR two0)).by fun t r => st t r
theorem s_getstatic {idx : Nat} {O nm d : String} {v : Value} (X : Wk p l e R s m args below meth c Z a0 EL y bytes ml ret w h0 ws vm0 T h locs cells slots) (hd : decode bytes pc = .ok (.getstatic idx, 3)) (w1 : (Jvm.Cond.fieldLink y.cls idx O nm d).before a0 Z = true) (Fo : Sta Z h O nm d v) (hp : pc + 3 = pc')
    (k : ∀ T', Wk p l e R s m args below meth c Z a0 EL y bytes ml ret w h0 ws vm0 T' h locs cells slots → Go p e below F T' (mkF m pc' Ls (v :: rest))) : Go p e below F T (mkF m pc Ls rest) := by
  subst hp
  obtain ⟨T', X', e', st⟩ := getS2 X.st X.hx X.hZ X.hown (host := "") (Or.inl w1) Via.refl X.hT Fo (g := mkF m pc Ls rest) rfl (hb X.hby hd)
  exact (k T' (X.same X' e' X.hN X.evR two0)).by fun t r => st t r
theorem s_getstaticN {idx : Nat} {O nm d host : String} {v : Value} (X : Wk p l e R s m args below meth c Z a0 EL y bytes ml ret w h0 ws vm0 T h locs cells slots) (hd : decode bytes pc = .ok (.getstatic idx, 3)) (w1 : (Jvm.Cond.fieldLinkNest y.cls idx O nm d host).before a0 Z = true) (Fo : Sta Z h O nm d v) (hp : pc + 3 = pc')
    (k : ∀ T', Wk p l e R s m args below meth c Z a0 EL y bytes ml ret w h0 ws vm0 T' h locs cells slots → Go p e below F T' (mkF m pc' Ls (v :: rest))) : Go p e below F T (mkF m pc Ls rest) := by
  subst hp
  obtain ⟨T', X', e', st⟩ := getS2 X.st X.hx X.hZ X.hown (host := host) (Or.inr w1) Via.refl X.hT Fo (g := mkF m pc Ls rest) rfl (hb X.hby hd)
  exact (k T' (X.same X' e' X.hN X.evR two0)).by fun t r => st t r
theorem s_castore {j z n : Int32} {kc : ClassId} {vs : List Value} {dv : Value} (X : Wk p l e R s m args below meth c Z a0 EL y bytes ml ret w h0 ws vm0 T h locs cells slots) (hd : decode bytes pc = .ok (.castore, 1)) (A : Arv Z h a kc .char n vs dv) (hj : ¬ j < 0 ∧ j < n) (i : Nat) (hi : j.toNatClampNeg = i) (hlt : i < vs.length) (Oa : Ok w Z EL h0 ws vm0 h a) (hp : pc + 1 = pc')
    (k : ∀ T' h', Wk p l e R s m args below meth c Z a0 EL y bytes ml ret w h0 ws vm0 T' h' (locs ++ [⟨a, j.toNatClampNeg⟩]) cells slots → Ev w Z EL vm0 h vm0 h' [a] → Arv Z h' a kc .char n (vs.set i (.int (nar .char z))) dv → Go p e below F T' (mkF m pc' Ls rest)) : Go p e below F T (mkF m pc Ls (.int z :: .int j :: .ref a :: rest)) := by
  subst hp
  obtain ⟨cl, Ar, q1, S, q3, H, G⟩ := A
  obtain ⟨T', h', X', e', W, st⟩ := stC X.st X.hx X.hZ X.hT Ar (inb_of S hj) (g := mkF m pc Ls (.int z :: .int j :: .ref a :: rest)) rfl rfl (hb X.hby hd)
  have V := X.evW W Oa
  exact (k T' h' (X.same X' e' (Fr.snoc X' X.hN Oa.2.1) V (Ok.two Oa.one)) V (Arv.set Ar q1 S q3 H G (fits_nar_char z) W i hi hlt)).by fun t r => st t r
theorem s_bastore {j z n : Int32} {kc : ClassId} {vs : List Value} {dv : Value} (X : Wk p l e R s m args below meth c Z a0 EL y bytes ml ret w h0 ws vm0 T h locs cells slots) (hd : decode bytes pc = .ok (.bastore, 1)) (A : Arv Z h a kc .byte n vs dv) (hj : ¬ j < 0 ∧ j < n) (i : Nat) (hi : j.toNatClampNeg = i) (hlt : i < vs.length) (Oa : Ok w Z EL h0 ws vm0 h a) (hp : pc + 1 = pc')
    (k : ∀ T' h', Wk p l e R s m args below meth c Z a0 EL y bytes ml ret w h0 ws vm0 T' h' (locs ++ [⟨a, j.toNatClampNeg⟩]) cells slots → Ev w Z EL vm0 h vm0 h' [a] → Arv Z h' a kc .byte n (vs.set i (.int z.toInt8.toInt32)) dv → Go p e below F T' (mkF m pc' Ls rest)) : Go p e below F T (mkF m pc Ls (.int z :: .int j :: .ref a :: rest)) := by
  subst hp
  obtain ⟨cl, Ar, q1, S, q3, H, G⟩ := A
  obtain ⟨T', h', X', e', W, st⟩ := stB X.st X.hx X.hZ X.hT Ar (inb_of S hj) (g := mkF m pc Ls (.int z :: .int j :: .ref a :: rest)) rfl rfl (hb X.hby hd)
  have V := X.evW W Oa
  exact (k T' h' (X.same X' e' (Fr.snoc X' X.hN Oa.2.1) V (Ok.two Oa.one)) V (Arv.set Ar q1 S q3 H G (fits_nar_byte z) W i hi hlt)).by fun t r => st t r
theorem s_caload {j n z : Int32} {kc : ClassId} {vs : List Value} {dv : Value} (X : Wk p l e R s m args below meth c Z a0 EL y bytes ml ret w h0 ws vm0 T h locs cells slots) (hd : decode bytes pc = .ok (.caload, 1)) (A : Arv Z h a kc .char n vs dv) (hj : ¬ j < 0 ∧ j < n) (hz : vs.getD j.toNatClampNeg dv = .int z) (hp : pc + 1 = pc')
    (k : Go p e below F T (mkF m pc' Ls (.int z :: rest))) : Go p e below F T (mkF m pc Ls (.int j :: .ref a :: rest)) := by
  subst hp
  obtain ⟨cl, Ar, q1, S, q3, H, G⟩ := A
  exact k.by fun t r => X.st.caload X.hx (j := j) (v := .int z) (by rw [X.hT]; exact Ar.1) (State.isArrayOf_alike X.hZ.alike Ar.2.1) Ar.2.2 (inb_of S hj) (H.at (inb_of S hj) hz) (g := mkF m pc Ls (.int j :: .ref a :: rest)) rfl rfl (hb X.hby hd) t r
theorem s_baload {j n z : Int32} {kc : ClassId} {vs : List Value} {dv : Value} (X : Wk p l e R s m args below meth c Z a0 EL y bytes ml ret w h0 ws vm0 T h locs cells slots) (hd : decode bytes pc = .ok (.baload, 1)) (A : Arv Z h a kc .byte n vs dv) (hj : ¬ j < 0 ∧ j < n) (hz : vs.getD j.toNatClampNeg dv = .int z) (hp : pc + 1 = pc')
    (k : Go p e below F T (mkF m pc' Ls (.int z :: rest))) : Go p e below F T (mkF m pc Ls (.int j :: .ref a :: rest)) := by
  subst hp
  obtain ⟨cl, Ar, q1, S, q3, H, G⟩ := A
  exact k.by fun t r => X.st.baloadBytes X.hx (j := j) (v := .int z) (by rw [X.hT]; exact Ar.1) (State.isArrayOf_alike X.hZ.alike Ar.2.1) Ar.2.2 (inb_of S hj) (H.at (inb_of S hj) hz) (g := mkF m pc Ls (.int j :: .ref a :: rest)) rfl rfl (hb X.hby hd) t r
theorem s_arraylength {n : Int32} {kc : ClassId} {ty : FieldType} {vs : List Value} {dv : Value} (X : Wk p l e R s m args below meth c Z a0 EL y bytes ml ret w h0 ws vm0 T h locs cells slots) (hd : decode bytes pc = .ok (.arraylength, 1)) (A : Arv Z h a kc ty n vs dv) (hp : pc + 1 = pc')
    (k : Go p e below F T (mkF m pc' Ls (.int n :: rest))) : Go p e below F T (mkF m pc Ls (.ref a :: rest)) := by
  subst hp
  obtain ⟨cl, Ar, q1, S, q3, H, G⟩ := A
  refine k.by fun t r => X.st.arraylength X.hx (by rw [X.hT]; exact Ar.1) (State.isArrayOf_alike X.hZ.alike Ar.2.1) (g := mkF m pc Ls (.ref a :: rest)) rfl rfl (hb X.hby hd) t ?_
  rw [len_of S q3]; exact r
theorem s_castY {idx : Nat} {K : String} (X : Wk p l e R s m args below meth c Z a0 EL y bytes ml ret w h0 ws vm0 T h locs cells slots) (hd : decode bytes pc = .ok (.checkcast idx, 3)) (w1 : (Jvm.Cond.classLink y.cls idx K).before a0 Z = true) (I : Ins Z h a K true) (hp : pc + 3 = pc')
    (k : ∀ T', Wk p l e R s m args below meth c Z a0 EL y bytes ml ret w h0 ws vm0 T' h locs cells slots → Go p e below F T' (mkF m pc' Ls (.ref a :: rest))) : Go p e below F T (mkF m pc Ls (.ref a :: rest)) := by
  subst hp
  obtain ⟨T', X', e', st⟩ := castY X.st X.hx X.hZ X.hown w1 X.hT I (g := mkF m pc Ls (.ref a :: rest)) rfl rfl (hb X.hby hd)
  exact (k T' (X.same X' e' X.hN X.evR two0)).by fun t r => st t r
theorem s_castNull {idx : Nat} (X : Wk p l e R s m args below meth c Z a0 EL y bytes ml ret w h0 ws vm0 T h locs cells slots) (hd : decode bytes pc = .ok (.checkcast idx, 3)) (hp : pc + 3 = pc') (k : Go p e below F T (mkF m pc' Ls (.null :: rest))) : Go p e below F T (mkF m pc Ls (.null :: rest)) := by
  subst hp
  exact k.by fun t r => X.st.checkcastNull X.hx (g := mkF m pc Ls (.null :: rest)) rfl rfl (hb X.hby hd) t r
theorem s_instY {idx : Nat} {K : String} (X : Wk p l e R s m args below meth c Z a0 EL y bytes ml ret w h0 ws vm0 T h locs cells slots) (hd : decode bytes pc = .ok (.instanceof idx, 3)) (w1 : (Jvm.Cond.classLink y.cls idx K).before a0 Z = true) (I : Ins Z h a K true) (hp : pc + 3 = pc')
    (k : ∀ T', Wk p l e R s m args below meth c Z a0 EL y bytes ml ret w h0 ws vm0 T' h locs cells slots → Go p e below F T' (mkF m pc' Ls (.int 1 :: rest))) : Go p e below F T (mkF m pc Ls (.ref a :: rest)) := by
  subst hp
  obtain ⟨T', X', e', st⟩ := instY X.st X.hx X.hZ X.hown w1 X.hT I (g := mkF m pc Ls (.ref a :: rest)) rfl rfl (hb X.hby hd)
  exact (k T' (X.same X' e' X.hN X.evR two0)).by fun t r => st t r
theorem s_instNull {idx : Nat} (X : Wk p l e R s m args below meth c Z a0 EL y bytes ml ret w h0 ws vm0 T h locs cells slots) (hd : decode bytes pc = .ok (.instanceof idx, 3)) (hp : pc + 3 = pc') (k : Go p e below F T (mkF m pc' Ls (.int 0 :: rest))) : Go p e below F T (mkF m pc Ls (.null :: rest)) := by
  subst hp
  exact k.by fun t r => X.st.instanceofNull X.hx (g := mkF m pc Ls (.null :: rest)) rfl rfl (hb X.hby hd) t r
theorem s_ldcI {idx : Nat} {v : Int32} (X : Wk p l e R s m args below meth c Z a0 EL y bytes ml ret w h0 ws vm0 T h locs cells slots) (hd : decode bytes pc = .ok (.ldc idx, 2)) (w1 : (Jvm.Cond.constant y.cls idx v).before a0 Z = true) (hp : pc + 2 = pc') (k : Go p e below F T (mkF m pc' Ls (.int v :: rest))) : Go p e below F T (mkF m pc Ls rest) := by
  subst hp
  exact k.by fun t r => X.st.ldcI X.hx X.hown (mvT X.hZ w1) (g := mkF m pc Ls rest) rfl (hb X.hby hd) r
theorem s_ldcStr {idx : Nat} {text : String} {vs : List Value} {z : Int32} (hw : w = true) (X : Wk p l e R s m args below meth c Z a0 EL y bytes ml ret w h0 ws vm0 T h locs cells slots) (hd : decode bytes pc = .ok (.ldc idx, 2)) (w1 : (Jvm.Cond.stringLink y.cls idx text).before a0 Z = true) (wS : ∀ a ∈ Bundle.stringAtoms, a.before a0 Z = true) (hmem : (y.cls, idx) ∈ EL)
    (ht : (∀ c ∈ text.toList, c.toNat < 256) ∧ text.toList.map (fun c => Value.int (Jvm.Lit.byteI c.toNat.toUInt16)) = vs) (hz : ¬ z < 0) (hl : z.toNatClampNeg = vs.length) (n : Nat) (hn : 4 * text.toList.length ≤ n) (hbig : n ≤ 536870912) (hc : cells + 2 ≤ R.cells) (hs : slots + (n + 4) ≤ R.slots) (hp : pc + 2 = pc')
    (k : ∀ a b kc vm1 T' h', Wk p l e R s m args below meth c Z a0 EL y bytes ml ret w h0 ws vm1 T' h' locs (cells + 2) (slots + (n + 4)) → Ev w Z EL vm0 h vm1 h' [] → Exa Z h' a "java/lang/String" → Fld Z h' a "java/lang/String" "coder" "B" (.int 0) → Fld Z h' a "java/lang/String" "value" "[B" (.ref b) → Arv Z h' b kc .byte z vs (.int 0) → Go p e below F T' (mkF m pc' Ls (.ref a :: rest))) : Go p e below F T (mkF m pc Ls rest) := by
  subst hp
  obtain ⟨k0, k1, k2⟩ := X.hS
  obtain ⟨a, T', h', kk, b, kc, X', e', E, hS, hk, hZ, ho, q1, q2, q3, q4, -, -, hC, -, -, st⟩ := ldcCH X.st X.hx X.hZ X.hown w1 wS X.hT k1 k2 X.hEW hmem (X.chv hw) ht hz hl (g := mkF m pc Ls rest) rfl (hb X.hby hd) hn hbig hc hs
  have V : Ev w Z EL vm0 h T'.vm h' [] := ⟨(Keep.refl _ _).ext E, fun _ => hC⟩
  exact (k a b kc T'.vm T' h' (X.move X' hZ ho e' ⟨_, hS, hk⟩ (fun q => by rw [hw] at q; cases q) X.hN V two0) V q1 q2 q3 q4).by fun t r => st t r
theorem s_ldcOpaque {idx : Nat} {text : String} (hw : w = true) (X : Wk p l e R s m args below meth c Z a0 EL y bytes ml ret w h0 ws vm0 T h locs cells slots) (hd : decode bytes pc = .ok (.ldc idx, 2)) (w1 : (Jvm.Cond.stringLink y.cls idx text).before a0 Z = true) (wS : ∀ a ∈ Bundle.stringAtoms, a.before a0 Z = true)
    (n : Nat) (hn : 4 * text.toList.length ≤ n) (hbig : n ≤ 536870912) (hc : cells + 2 ≤ R.cells) (hs : slots + (n + 4) ≤ R.slots) (hp : pc + 2 = pc')
    (k : ∀ a vm1 T' h', Wk p l e R s m args below meth c Z a0 EL y bytes ml ret w h0 ws vm1 T' h' locs (cells + 2) (slots + (n + 4)) → Ev w Z EL vm0 h vm1 h' [] → Go p e below F T' (mkF m pc' Ls (.ref a :: rest))) : Go p e below F T (mkF m pc Ls rest) := by
  subst hp
  obtain ⟨k0, k1, k2⟩ := X.hS
  obtain ⟨a, T', h', kk, X', e', E, hS, hk, hZ, ho, hC, -, st⟩ := ldcOH X.st X.hx X.hZ X.hown w1 wS X.hT k1 k2 X.hEW (X.chv hw) (g := mkF m pc Ls rest) rfl (hb X.hby hd) hn hbig hc hs
  have V : Ev w Z EL vm0 h T'.vm h' [] := ⟨(Keep.refl _ _).ext E, fun _ => hC⟩
  exact (k a T'.vm T' h' (X.move X' hZ ho e' ⟨_, hS, hk⟩ (fun q => by rw [hw] at q; cases q) X.hN V two0) V).by fun t r => st t r
/-! plain steps -/
theorem s_aload {k : Nat} {v : Value} (X : Wk p l e R s m args below meth c Z a0 EL y bytes ml ret w h0 ws vm0 T h locs cells slots) (hd : decode bytes pc = .ok (.aload k, 2)) (hl : Ls[k]? = some (.val v)) (hv : v.isRef = true) (hp : pc + 2 = pc') (k : Go p e below F T (mkF m pc' Ls (v :: rest))) : Go p e below F T (mkF m pc Ls (rest)) := by
  subst hp
  exact k.by fun t r => XS.aload X.st.here X.hx rfl (hb X.hby hd) hl hv r
theorem s_iload {k : Nat} {v : Int32} (X : Wk p l e R s m args below meth c Z a0 EL y bytes ml ret w h0 ws vm0 T h locs cells slots) (hd : decode bytes pc = .ok (.iload k, 2)) (hl : Ls[k]? = some (.val (.int v))) (hp : pc + 2 = pc') (k : Go p e below F T (mkF m pc' Ls (.int v :: rest))) : Go p e below F T (mkF m pc Ls (rest)) := by
  subst hp
  exact k.by fun t r => XS.iload X.st.here X.hx rfl (hb X.hby hd) hl r
theorem s_lload {k : Nat} {v : Int64} (X : Wk p l e R s m args below meth c Z a0 EL y bytes ml ret w h0 ws vm0 T h locs cells slots) (hd : decode bytes pc = .ok (.lload k, 2)) (hl : Ls[k]? = some (.val (.long v))) (hp : pc + 2 = pc') (k : Go p e below F T (mkF m pc' Ls (.long v :: rest))) : Go p e below F T (mkF m pc Ls (rest)) := by
  subst hp
  exact k.by fun t r => XT.lload X.st.here X.hx rfl (hb X.hby hd) hl r
theorem s_astore {k : Nat} {v : Value} (X : Wk p l e R s m args below meth c Z a0 EL y bytes ml ret w h0 ws vm0 T h locs cells slots) (hd : decode bytes pc = .ok (.astore k, 2)) (hv : v.isRef = true) (Ls' : Array Slot) (hl : storeLocals Ls k v = some Ls') (hp : pc + 2 = pc') (k : Go p e below F T (mkF m pc' Ls' (rest))) : Go p e below F T (mkF m pc Ls (v :: rest)) := by
  subst hp
  exact k.by fun t r => XS.astore X.st.here X.hx rfl (hb X.hby hd) rfl hv hl r
theorem s_istore {k : Nat} {v : Int32} (X : Wk p l e R s m args below meth c Z a0 EL y bytes ml ret w h0 ws vm0 T h locs cells slots) (hd : decode bytes pc = .ok (.istore k, 2)) (Ls' : Array Slot) (hl : storeLocals Ls k (.int v) = some Ls') (hp : pc + 2 = pc') (k : Go p e below F T (mkF m pc' Ls' (rest))) : Go p e below F T (mkF m pc Ls (.int v :: rest)) := by
  subst hp
  exact k.by fun t r => XS.istore X.st.here X.hx rfl (hb X.hby hd) rfl hl r
theorem s_lstore {k : Nat} {v : Int64} (X : Wk p l e R s m args below meth c Z a0 EL y bytes ml ret w h0 ws vm0 T h locs cells slots) (hd : decode bytes pc = .ok (.lstore k, 2)) (Ls' : Array Slot) (hl : storeLocals Ls k (.long v) = some Ls') (hp : pc + 2 = pc') (k : Go p e below F T (mkF m pc' Ls' (rest))) : Go p e below F T (mkF m pc Ls (.long v :: rest)) := by
  subst hp
  exact k.by fun t r => XT.lstore X.st.here X.hx rfl (hb X.hby hd) rfl hl r
theorem s_aloadN {k : Fin 4} {v : Value} (X : Wk p l e R s m args below meth c Z a0 EL y bytes ml ret w h0 ws vm0 T h locs cells slots) (hd : decode bytes pc = .ok (.aload_n k, 1)) (hl : Ls[k.val]? = some (.val v)) (hv : v.isRef = true) (hp : pc + 1 = pc') (k : Go p e below F T (mkF m pc' Ls (v :: rest))) : Go p e below F T (mkF m pc Ls (rest)) := by
  subst hp
  exact k.by fun t r => XS.aloadN X.st.here X.hx rfl (hb X.hby hd) hl hv r
theorem s_iloadN {k : Fin 4} {v : Int32} (X : Wk p l e R s m args below meth c Z a0 EL y bytes ml ret w h0 ws vm0 T h locs cells slots) (hd : decode bytes pc = .ok (.iload_n k, 1)) (hl : Ls[k.val]? = some (.val (.int v))) (hp : pc + 1 = pc') (k : Go p e below F T (mkF m pc' Ls (.int v :: rest))) : Go p e below F T (mkF m pc Ls (rest)) := by
  subst hp
  exact k.by fun t r => XS.iloadN X.st.here X.hx rfl (hb X.hby hd) hl r
theorem s_lloadN {k : Fin 4} {v : Int64} (X : Wk p l e R s m args below meth c Z a0 EL y bytes ml ret w h0 ws vm0 T h locs cells slots) (hd : decode bytes pc = .ok (.lload_n k, 1)) (hl : Ls[k.val]? = some (.val (.long v))) (hp : pc + 1 = pc') (k : Go p e below F T (mkF m pc' Ls (.long v :: rest))) : Go p e below F T (mkF m pc Ls (rest)) := by
  subst hp
  exact k.by fun t r => XT.lloadN X.st.here X.hx rfl (hb X.hby hd) hl r
theorem s_astoreN {k : Fin 4} {v : Value} (X : Wk p l e R s m args below meth c Z a0 EL y bytes ml ret w h0 ws vm0 T h locs cells slots) (hd : decode bytes pc = .ok (.astore_n k, 1)) (hv : v.isRef = true) (Ls' : Array Slot) (hl : storeLocals Ls k.val v = some Ls') (hp : pc + 1 = pc') (k : Go p e below F T (mkF m pc' Ls' (rest))) : Go p e below F T (mkF m pc Ls (v :: rest)) := by
  subst hp
  exact k.by fun t r => XS.astoreN X.st.here X.hx rfl (hb X.hby hd) rfl hv hl r
theorem s_istoreN {k : Fin 4} {v : Int32} (X : Wk p l e R s m args below meth c Z a0 EL y bytes ml ret w h0 ws vm0 T h locs cells slots) (hd : decode bytes pc = .ok (.istore_n k, 1)) (Ls' : Array Slot) (hl : storeLocals Ls k.val (.int v) = some Ls') (hp : pc + 1 = pc') (k : Go p e below F T (mkF m pc' Ls' (rest))) : Go p e below F T (mkF m pc Ls (.int v :: rest)) := by
  subst hp
  exact k.by fun t r => XS.istoreN X.st.here X.hx rfl (hb X.hby hd) rfl hl r
theorem s_lstoreN {k : Fin 4} {v : Int64} (X : Wk p l e R s m args below meth c Z a0 EL y bytes ml ret w h0 ws vm0 T h locs cells slots) (hd : decode bytes pc = .ok (.lstore_n k, 1)) (Ls' : Array Slot) (hl : storeLocals Ls k.val (.long v) = some Ls') (hp : pc + 1 = pc') (k : Go p e below F T (mkF m pc' Ls' (rest))) : Go p e below F T (mkF m pc Ls (.long v :: rest)) := by
  subst hp
  exact k.by fun t r => XT.lstoreN X.st.here X.hx rfl (hb X.hby hd) rfl hl r
theorem s_iconst {i : Int} (X : Wk p l e R s m args below meth c Z a0 EL y bytes ml ret w h0 ws vm0 T h locs cells slots) (hd : decode bytes pc = .ok (.iconst i, 1)) (v : Int32) (hv : Int32.ofInt i = v) (hp : pc + 1 = pc') (k : Go p e below F T (mkF m pc' Ls (.int v :: rest))) : Go p e below F T (mkF m pc Ls (rest)) := by
  subst hp
  exact k.by fun t r => XT.iconstV X.st.here X.hx rfl v (hb X.hby hd) hv r
theorem s_bipush {i : Int} (X : Wk p l e R s m args below meth c Z a0 EL y bytes ml ret w h0 ws vm0 T h locs cells slots) (hd : decode bytes pc = .ok (.bipush i, 2)) (v : Int32) (hv : (Int8.ofInt i).toInt32 = v) (hp : pc + 2 = pc') (k : Go p e below F T (mkF m pc' Ls (.int v :: rest))) : Go p e below F T (mkF m pc Ls (rest)) := by
  subst hp
  exact k.by fun t r => XT.bipushV X.st.here X.hx rfl v (hb X.hby hd) hv r
theorem s_sipush {i : Int} (X : Wk p l e R s m args below meth c Z a0 EL y bytes ml ret w h0 ws vm0 T h locs cells slots) (hd : decode bytes pc = .ok (.sipush i, 3)) (v : Int32) (hv : (Int16.ofInt i).toInt32 = v) (hp : pc + 3 = pc') (k : Go p e below F T (mkF m pc' Ls (.int v :: rest))) : Go p e below F T (mkF m pc Ls (rest)) := by
  subst hp
  exact k.by fun t r => XT.sipushV X.st.here X.hx rfl v (hb X.hby hd) hv r
theorem s_lconst {k : Fin 2} (X : Wk p l e R s m args below meth c Z a0 EL y bytes ml ret w h0 ws vm0 T h locs cells slots) (hd : decode bytes pc = .ok (.lconst k, 1)) (v : Int64) (hv : Int64.ofNat k = v) (hp : pc + 1 = pc') (k : Go p e below F T (mkF m pc' Ls (.long v :: rest))) : Go p e below F T (mkF m pc Ls (rest)) := by
  subst hp
  exact k.by fun t r => XT.lconstV X.st.here X.hx rfl v (hb X.hby hd) hv r
theorem s_aconst_null (X : Wk p l e R s m args below meth c Z a0 EL y bytes ml ret w h0 ws vm0 T h locs cells slots) (hd : decode bytes pc = .ok (.aconst_null, 1)) (hp : pc + 1 = pc') (k : Go p e below F T (mkF m pc' Ls (.null :: rest))) : Go p e below F T (mkF m pc Ls (rest)) := by
  subst hp
  exact k.by fun t r => XS.aconstNull X.st.here X.hx rfl (hb X.hby hd) r
theorem s_iadd {u v : Int32} (X : Wk p l e R s m args below meth c Z a0 EL y bytes ml ret w h0 ws vm0 T h locs cells slots) (hd : decode bytes pc = .ok (.iadd, 1)) (hp : pc + 1 = pc') (k : Go p e below F T (mkF m pc' Ls (.int (u + v) :: rest))) : Go p e below F T (mkF m pc Ls (.int v :: .int u :: rest)) := by
  subst hp
  exact k.by fun t r => XS.iadd X.st.here X.hx rfl (hb X.hby hd) rfl r
theorem s_isub {u v : Int32} (X : Wk p l e R s m args below meth c Z a0 EL y bytes ml ret w h0 ws vm0 T h locs cells slots) (hd : decode bytes pc = .ok (.isub, 1)) (hp : pc + 1 = pc') (k : Go p e below F T (mkF m pc' Ls (.int (u - v) :: rest))) : Go p e below F T (mkF m pc Ls (.int v :: .int u :: rest)) := by
  subst hp
  exact k.by fun t r => XS.isub X.st.here X.hx rfl (hb X.hby hd) rfl r
theorem s_imul {u v : Int32} (X : Wk p l e R s m args below meth c Z a0 EL y bytes ml ret w h0 ws vm0 T h locs cells slots) (hd : decode bytes pc = .ok (.imul, 1)) (hp : pc + 1 = pc') (k : Go p e below F T (mkF m pc' Ls (.int (u * v) :: rest))) : Go p e below F T (mkF m pc Ls (.int v :: .int u :: rest)) := by
  subst hp
  exact k.by fun t r => XS.imul X.st.here X.hx rfl (hb X.hby hd) rfl r
theorem s_iand {u v : Int32} (X : Wk p l e R s m args below meth c Z a0 EL y bytes ml ret w h0 ws vm0 T h locs cells slots) (hd : decode bytes pc = .ok (.iand, 1)) (hp : pc + 1 = pc') (k : Go p e below F T (mkF m pc' Ls (.int (u &&& v) :: rest))) : Go p e below F T (mkF m pc Ls (.int v :: .int u :: rest)) := by
  subst hp
  exact k.by fun t r => XS.iand X.st.here X.hx rfl (hb X.hby hd) rfl r
theorem s_ior {u v : Int32} (X : Wk p l e R s m args below meth c Z a0 EL y bytes ml ret w h0 ws vm0 T h locs cells slots) (hd : decode bytes pc = .ok (.ior, 1)) (hp : pc + 1 = pc') (k : Go p e below F T (mkF m pc' Ls (.int (u ||| v) :: rest))) : Go p e below F T (mkF m pc Ls (.int v :: .int u :: rest)) := by
  subst hp
  exact k.by fun t r => XT.ior X.st.here X.hx rfl (hb X.hby hd) rfl r
theorem s_ixor {u v : Int32} (X : Wk p l e R s m args below meth c Z a0 EL y bytes ml ret w h0 ws vm0 T h locs cells slots) (hd : decode bytes pc = .ok (.ixor, 1)) (hp : pc + 1 = pc') (k : Go p e below F T (mkF m pc' Ls (.int (u ^^^ v) :: rest))) : Go p e below F T (mkF m pc Ls (.int v :: .int u :: rest)) := by
  subst hp
  exact k.by fun t r => XT.ixor X.st.here X.hx rfl (hb X.hby hd) rfl r
theorem s_ishl {u v : Int32} (X : Wk p l e R s m args below meth c Z a0 EL y bytes ml ret w h0 ws vm0 T h locs cells slots) (hd : decode bytes pc = .ok (.ishl, 1)) (hp : pc + 1 = pc') (k : Go p e below F T (mkF m pc' Ls (.int (u <<< (v &&& 31)) :: rest))) : Go p e below F T (mkF m pc Ls (.int v :: .int u :: rest)) := by
  subst hp
  exact k.by fun t r => XT.ishl X.st.here X.hx rfl (hb X.hby hd) rfl r
theorem s_ishr {u v : Int32} (X : Wk p l e R s m args below meth c Z a0 EL y bytes ml ret w h0 ws vm0 T h locs cells slots) (hd : decode bytes pc = .ok (.ishr, 1)) (hp : pc + 1 = pc') (k : Go p e below F T (mkF m pc' Ls (.int (u >>> (v &&& 31)) :: rest))) : Go p e below F T (mkF m pc Ls (.int v :: .int u :: rest)) := by
  subst hp
  exact k.by fun t r => XT.ishr X.st.here X.hx rfl (hb X.hby hd) rfl r
theorem s_iushr {u v : Int32} (X : Wk p l e R s m args below meth c Z a0 EL y bytes ml ret w h0 ws vm0 T h locs cells slots) (hd : decode bytes pc = .ok (.iushr, 1)) (hp : pc + 1 = pc') (k : Go p e below F T (mkF m pc' Ls (.int (XT.ushr u v) :: rest))) : Go p e below F T (mkF m pc Ls (.int v :: .int u :: rest)) := by
  subst hp
  exact k.by fun t r => XT.iushr X.st.here X.hx rfl (hb X.hby hd) rfl r
theorem s_idiv {u v : Int32} (X : Wk p l e R s m args below meth c Z a0 EL y bytes ml ret w h0 ws vm0 T h locs cells slots) (hd : decode bytes pc = .ok (.idiv, 1)) (hy : v ≠ 0) (hp : pc + 1 = pc') (k : Go p e below F T (mkF m pc' Ls (.int (u / v) :: rest))) : Go p e below F T (mkF m pc Ls (.int v :: .int u :: rest)) := by
  subst hp
  exact k.by fun t r => XS.idiv X.st.here X.hx rfl (hb X.hby hd) rfl hy r
theorem s_irem {u v : Int32} (X : Wk p l e R s m args below meth c Z a0 EL y bytes ml ret w h0 ws vm0 T h locs cells slots) (hd : decode bytes pc = .ok (.irem, 1)) (hy : v ≠ 0) (hp : pc + 1 = pc') (k : Go p e below F T (mkF m pc' Ls (.int (u % v) :: rest))) : Go p e below F T (mkF m pc Ls (.int v :: .int u :: rest)) := by
  subst hp
  exact k.by fun t r => iremM X.st X.hx (g := mkF m pc Ls (.int v :: .int u :: rest)) rfl (hb X.hby hd) rfl hy r
theorem s_ladd {u v : Int64} (X : Wk p l e R s m args below meth c Z a0 EL y bytes ml ret w h0 ws vm0 T h locs cells slots) (hd : decode bytes pc = .ok (.ladd, 1)) (hp : pc + 1 = pc') (k : Go p e below F T (mkF m pc' Ls (.long (u + v) :: rest))) : Go p e below F T (mkF m pc Ls (.long v :: .long u :: rest)) := by
  subst hp
  exact k.by fun t r => XT.ladd X.st.here X.hx rfl (hb X.hby hd) rfl r
theorem s_lsub {u v : Int64} (X : Wk p l e R s m args below meth c Z a0 EL y bytes ml ret w h0 ws vm0 T h locs cells slots) (hd : decode bytes pc = .ok (.lsub, 1)) (hp : pc + 1 = pc') (k : Go p e below F T (mkF m pc' Ls (.long (u - v) :: rest))) : Go p e below F T (mkF m pc Ls (.long v :: .long u :: rest)) := by
  subst hp
  exact k.by fun t r => XT.lsub X.st.here X.hx rfl (hb X.hby hd) rfl r
theorem s_lmul {u v : Int64} (X : Wk p l e R s m args below meth c Z a0 EL y bytes ml ret w h0 ws vm0 T h locs cells slots) (hd : decode bytes pc = .ok (.lmul, 1)) (hp : pc + 1 = pc') (k : Go p e below F T (mkF m pc' Ls (.long (u * v) :: rest))) : Go p e below F T (mkF m pc Ls (.long v :: .long u :: rest)) := by
  subst hp
  exact k.by fun t r => XT.lmul X.st.here X.hx rfl (hb X.hby hd) rfl r
theorem s_land {u v : Int64} (X : Wk p l e R s m args below meth c Z a0 EL y bytes ml ret w h0 ws vm0 T h locs cells slots) (hd : decode bytes pc = .ok (.land, 1)) (hp : pc + 1 = pc') (k : Go p e below F T (mkF m pc' Ls (.long (u &&& v) :: rest))) : Go p e below F T (mkF m pc Ls (.long v :: .long u :: rest)) := by
  subst hp
  exact k.by fun t r => XT.land X.st.here X.hx rfl (hb X.hby hd) rfl r
theorem s_lor {u v : Int64} (X : Wk p l e R s m args below meth c Z a0 EL y bytes ml ret w h0 ws vm0 T h locs cells slots) (hd : decode bytes pc = .ok (.lor, 1)) (hp : pc + 1 = pc') (k : Go p e below F T (mkF m pc' Ls (.long (u ||| v) :: rest))) : Go p e below F T (mkF m pc Ls (.long v :: .long u :: rest)) := by
  subst hp
  exact k.by fun t r => XT.lor X.st.here X.hx rfl (hb X.hby hd) rfl r
theorem s_lxor {u v : Int64} (X : Wk p l e R s m args below meth c Z a0 EL y bytes ml ret w h0 ws vm0 T h locs cells slots) (hd : decode bytes pc = .ok (.lxor, 1)) (hp : pc + 1 = pc') (k : Go p e below F T (mkF m pc' Ls (.long (u ^^^ v) :: rest))) : Go p e below F T (mkF m pc Ls (.long v :: .long u :: rest)) := by
  subst hp
  exact k.by fun t r => XT.lxor X.st.here X.hx rfl (hb X.hby hd) rfl r
theorem s_lrem {u v : Int64} (X : Wk p l e R s m args below meth c Z a0 EL y bytes ml ret w h0 ws vm0 T h locs cells slots) (hd : decode bytes pc = .ok (.lrem, 1)) (hy : v ≠ 0) (hp : pc + 1 = pc') (k : Go p e below F T (mkF m pc' Ls (.long (u - (u / v) * v) :: rest))) : Go p e below F T (mkF m pc Ls (.long v :: .long u :: rest)) := by
  subst hp
  exact k.by fun t r => XT.lrem X.st.here X.hx rfl (hb X.hby hd) rfl hy r
theorem s_lushr {u : Int64} {v : Int32} (X : Wk p l e R s m args below meth c Z a0 EL y bytes ml ret w h0 ws vm0 T h locs cells slots) (hd : decode bytes pc = .ok (.lushr, 1)) (hp : pc + 1 = pc') (k : Go p e below F T (mkF m pc' Ls (.long (XT.ushrL u v) :: rest))) : Go p e below F T (mkF m pc Ls (.int v :: .long u :: rest)) := by
  subst hp
  exact k.by fun t r => XT.lushr X.st.here X.hx rfl (hb X.hby hd) rfl r
theorem s_ineg {u : Int32} (X : Wk p l e R s m args below meth c Z a0 EL y bytes ml ret w h0 ws vm0 T h locs cells slots) (hd : decode bytes pc = .ok (.ineg, 1)) (hp : pc + 1 = pc') (k : Go p e below F T (mkF m pc' Ls (.int (-u) :: rest))) : Go p e below F T (mkF m pc Ls (.int u :: rest)) := by
  subst hp
  exact k.by fun t r => XS.ineg X.st.here X.hx rfl (hb X.hby hd) rfl r
theorem s_i2l {u : Int32} (X : Wk p l e R s m args below meth c Z a0 EL y bytes ml ret w h0 ws vm0 T h locs cells slots) (hd : decode bytes pc = .ok (.i2l, 1)) (hp : pc + 1 = pc') (k : Go p e below F T (mkF m pc' Ls (.long (u.toInt64) :: rest))) : Go p e below F T (mkF m pc Ls (.int u :: rest)) := by
  subst hp
  exact k.by fun t r => XT.i2l X.st.here X.hx rfl (hb X.hby hd) rfl r
theorem s_l2i {u : Int64} (X : Wk p l e R s m args below meth c Z a0 EL y bytes ml ret w h0 ws vm0 T h locs cells slots) (hd : decode bytes pc = .ok (.l2i, 1)) (hp : pc + 1 = pc') (k : Go p e below F T (mkF m pc' Ls (.int (u.toInt32) :: rest))) : Go p e below F T (mkF m pc Ls (.long u :: rest)) := by
  subst hp
  exact k.by fun t r => XT.l2i X.st.here X.hx rfl (hb X.hby hd) rfl r
theorem s_i2b {u : Int32} (X : Wk p l e R s m args below meth c Z a0 EL y bytes ml ret w h0 ws vm0 T h locs cells slots) (hd : decode bytes pc = .ok (.i2b, 1)) (hp : pc + 1 = pc') (k : Go p e below F T (mkF m pc' Ls (.int (u.toInt8.toInt32) :: rest))) : Go p e below F T (mkF m pc Ls (.int u :: rest)) := by
  subst hp
  exact k.by fun t r => XT.i2b X.st.here X.hx rfl (hb X.hby hd) rfl r
theorem s_i2s {u : Int32} (X : Wk p l e R s m args below meth c Z a0 EL y bytes ml ret w h0 ws vm0 T h locs cells slots) (hd : decode bytes pc = .ok (.i2s, 1)) (hp : pc + 1 = pc') (k : Go p e below F T (mkF m pc' Ls (.int (u.toInt16.toInt32) :: rest))) : Go p e below F T (mkF m pc Ls (.int u :: rest)) := by
  subst hp
  exact k.by fun t r => XT.i2s X.st.here X.hx rfl (hb X.hby hd) rfl r
theorem s_i2c {u : Int32} (X : Wk p l e R s m args below meth c Z a0 EL y bytes ml ret w h0 ws vm0 T h locs cells slots) (hd : decode bytes pc = .ok (.i2c, 1)) (hp : pc + 1 = pc') (k : Go p e below F T (mkF m pc' Ls (.int (u.toUInt32.toUInt16.toUInt32.toInt32) :: rest))) : Go p e below F T (mkF m pc Ls (.int u :: rest)) := by
  subst hp
  exact k.by fun t r => XT.i2c X.st.here X.hx rfl (hb X.hby hd) rfl r
theorem s_dup {v : Value} (X : Wk p l e R s m args below meth c Z a0 EL y bytes ml ret w h0 ws vm0 T h locs cells slots) (hd : decode bytes pc = .ok (.dup, 1)) (hc : v.category = 1) (hp : pc + 1 = pc') (k : Go p e below F T (mkF m pc' Ls (v :: v :: rest))) : Go p e below F T (mkF m pc Ls (v :: rest)) := by
  subst hp
  exact k.by fun t r => XS.dup X.st.here X.hx rfl (hb X.hby hd) rfl hc r
theorem s_pop {v : Value} (X : Wk p l e R s m args below meth c Z a0 EL y bytes ml ret w h0 ws vm0 T h locs cells slots) (hd : decode bytes pc = .ok (.pop, 1)) (hc : v.category = 1) (hp : pc + 1 = pc') (k : Go p e below F T (mkF m pc' Ls (rest))) : Go p e below F T (mkF m pc Ls (v :: rest)) := by
  subst hp
  exact k.by fun t r => XT.pop X.st.here X.hx rfl (hb X.hby hd) rfl hc r
theorem s_dup_x1 {u v : Value} (X : Wk p l e R s m args below meth c Z a0 EL y bytes ml ret w h0 ws vm0 T h locs cells slots) (hd : decode bytes pc = .ok (.dup_x1, 1)) (hc : u.category = 1) (hc' : v.category = 1) (hp : pc + 1 = pc') (k : Go p e below F T (mkF m pc' Ls (u :: v :: u :: rest))) : Go p e below F T (mkF m pc Ls (u :: v :: rest)) := by
  subst hp
  exact k.by fun t r => XT.dupX1 X.st.here X.hx rfl (hb X.hby hd) rfl hc hc' r
theorem s_iinc {k : Nat} {cst : Int} {u : Int32} (X : Wk p l e R s m args below meth c Z a0 EL y bytes ml ret w h0 ws vm0 T h locs cells slots) (hd : decode bytes pc = .ok (.iinc k cst, 3)) (v : Int32) (hv : Int32.ofInt cst = v) (hl : Ls[k]? = some (.val (.int u))) (Ls' : Array Slot) (hl' : storeLocals Ls k (.int (u + v)) = some Ls') (hp : pc + 3 = pc') (k : Go p e below F T (mkF m pc' Ls' (rest))) : Go p e below F T (mkF m pc Ls (rest)) := by
  subst hp
  exact k.by fun t r => XT.iincV X.st.here X.hx rfl v (hb X.hby hd) hv hl hl' r
theorem s_goto {o : Int} (X : Wk p l e R s m args below meth c Z a0 EL y bytes ml ret w h0 ws vm0 T h locs cells slots) (hd : decode bytes pc = .ok (.goto o, 3)) (ho : 0 ≤ (pc : Int) + o) (hp : ((pc : Int) + o).toNat = pc') (k : Go p e below F T (mkF m pc' Ls rest)) : Go p e below F T (mkF m pc Ls (rest)) :=
  k.by fun t r => XS.goto X.st.here X.hx rfl (pc0 := pc) rfl (hb X.hby hd) ho hp r
theorem s_ifT {cd : ClassFile.Cond} {u : Int32} {o : Int} (X : Wk p l e R s m args below meth c Z a0 EL y bytes ml ret w h0 ws vm0 T h locs cells slots) (hd : decode bytes pc = .ok (.ifCond cd o, 3)) (hc : ifCond.holds cd u = true) (ho : 0 ≤ (pc : Int) + o) (hp : ((pc : Int) + o).toNat = pc') (k : Go p e below F T (mkF m pc' Ls rest)) : Go p e below F T (mkF m pc Ls (.int u :: rest)) :=
  k.by fun t r => XS.ifYes X.st.here X.hx rfl (pc0 := pc) rfl (hb X.hby hd) rfl hc ho hp r
theorem s_ifF {cd : ClassFile.Cond} {u : Int32} {o : Int} (X : Wk p l e R s m args below meth c Z a0 EL y bytes ml ret w h0 ws vm0 T h locs cells slots) (hd : decode bytes pc = .ok (.ifCond cd o, 3)) (hc : ifCond.holds cd u = false) (hp : pc + 3 = pc') (k : Go p e below F T (mkF m pc' Ls rest)) : Go p e below F T (mkF m pc Ls (.int u :: rest)) := by
  subst hp
  exact k.by fun t r => XS.ifNo X.st.here X.hx rfl (hb X.hby hd) rfl hc r
theorem s_icmpT {cd : ClassFile.Cond} {u v : Int32} {o : Int} (X : Wk p l e R s m args below meth c Z a0 EL y bytes ml ret w h0 ws vm0 T h locs cells slots) (hd : decode bytes pc = .ok (.if_icmp cd o, 3)) (hc : if_icmp.holds cd u v = true) (ho : 0 ≤ (pc : Int) + o) (hp : ((pc : Int) + o).toNat = pc') (k : Go p e below F T (mkF m pc' Ls rest)) : Go p e below F T (mkF m pc Ls (.int v :: .int u :: rest)) :=
  k.by fun t r => XS.icmpYes X.st.here X.hx rfl (pc0 := pc) rfl (hb X.hby hd) rfl hc ho hp r
theorem s_icmpF {cd : ClassFile.Cond} {u v : Int32} {o : Int} (X : Wk p l e R s m args below meth c Z a0 EL y bytes ml ret w h0 ws vm0 T h locs cells slots) (hd : decode bytes pc = .ok (.if_icmp cd o, 3)) (hc : if_icmp.holds cd u v = false) (hp : pc + 3 = pc') (k : Go p e below F T (mkF m pc' Ls rest)) : Go p e below F T (mkF m pc Ls (.int v :: .int u :: rest)) := by
  subst hp
  exact k.by fun t r => XS.icmpNo X.st.here X.hx rfl (hb X.hby hd) rfl hc r
theorem s_ifnullT {o : Int} (X : Wk p l e R s m args below meth c Z a0 EL y bytes ml ret w h0 ws vm0 T h locs cells slots) (hd : decode bytes pc = .ok (.ifnull o, 3)) (ho : 0 ≤ (pc : Int) + o) (hp : ((pc : Int) + o).toNat = pc') (k : Go p e below F T (mkF m pc' Ls rest)) : Go p e below F T (mkF m pc Ls (.null :: rest)) :=
  k.by fun t r => XS.ifnullYes X.st.here X.hx rfl (pc0 := pc) rfl (hb X.hby hd) rfl ho hp r
theorem s_ifnullF {o : Int} (X : Wk p l e R s m args below meth c Z a0 EL y bytes ml ret w h0 ws vm0 T h locs cells slots) (hd : decode bytes pc = .ok (.ifnull o, 3)) (hp : pc + 3 = pc') (k : Go p e below F T (mkF m pc' Ls rest)) : Go p e below F T (mkF m pc Ls (.ref a :: rest)) := by
  subst hp
  exact k.by fun t r => XS.ifnullNo X.st.here X.hx rfl (hb X.hby hd) rfl r
theorem s_ifnonnullT {o : Int} (X : Wk p l e R s m args below meth c Z a0 EL y bytes ml ret w h0 ws vm0 T h locs cells slots) (hd : decode bytes pc = .ok (.ifnonnull o, 3)) (ho : 0 ≤ (pc : Int) + o) (hp : ((pc : Int) + o).toNat = pc') (k : Go p e below F T (mkF m pc' Ls rest)) : Go p e below F T (mkF m pc Ls (.ref a :: rest)) :=
  k.by fun t r => XT.ifnonnullYes X.st.here X.hx rfl (pc0 := pc) rfl (hb X.hby hd) rfl ho hp r
theorem s_ifnonnullF {o : Int} (X : Wk p l e R s m args below meth c Z a0 EL y bytes ml ret w h0 ws vm0 T h locs cells slots) (hd : decode bytes pc = .ok (.ifnonnull o, 3)) (hp : pc + 3 = pc') (k : Go p e below F T (mkF m pc' Ls rest)) : Go p e below F T (mkF m pc Ls (.null :: rest)) := by
  subst hp
  exact k.by fun t r => XT.ifnonnullNo X.st.here X.hx rfl (hb X.hby hd) rfl r
theorem s_acmpT {cd : ClassFile.ACond} {u v : Value} {o : Int} (X : Wk p l e R s m args below meth c Z a0 EL y bytes ml ret w h0 ws vm0 T h locs cells slots) (hd : decode bytes pc = .ok (.if_acmp cd o, 3)) (hu : u.isRef = true) (hv : v.isRef = true) (hc : XT.acmp cd u v = true) (ho : 0 ≤ (pc : Int) + o) (hp : ((pc : Int) + o).toNat = pc') (k : Go p e below F T (mkF m pc' Ls rest)) : Go p e below F T (mkF m pc Ls (v :: u :: rest)) :=
  k.by fun t r => XT.acmpYes X.st.here X.hx rfl (pc0 := pc) rfl (hb X.hby hd) rfl hu hv hc ho hp r
theorem s_acmpF {cd : ClassFile.ACond} {u v : Value} {o : Int} (X : Wk p l e R s m args below meth c Z a0 EL y bytes ml ret w h0 ws vm0 T h locs cells slots) (hd : decode bytes pc = .ok (.if_acmp cd o, 3)) (hu : u.isRef = true) (hv : v.isRef = true) (hc : XT.acmp cd u v = false) (hp : pc + 3 = pc') (k : Go p e below F T (mkF m pc' Ls rest)) : Go p e below F T (mkF m pc Ls (v :: u :: rest)) := by
  subst hp
  exact k.by fun t r => XT.acmpNo X.st.here X.hx rfl (hb X.hby hd) rfl hu hv hc r
end Own
end Own
namespace Own
theorem narR {t : FieldType} (ht : t.isReference = true) (v : Value) : narrow t v = v := by cases t <;> first | rfl | cases ht
theorem fitR {t : FieldType} (ht : t.isReference = true) {v : Value} (hv : v.isRef = true) : fits t v = true := by
  rcases ref_cases hv with rfl | ⟨a, rfl⟩ <;> cases t <;> first | rfl | cases ht
end Own

namespace Own
section Str0
variable {p : Program} {l : Launch} {e : Env} {R : Room} {s : State} {m : MethodId} {args : Array Value} {below : List Frame} {meth : Method} {c : Code} {Z : State} {a0 : Array Value} {EL : List (String × Nat)} {y : MethodName} {bytes : ByteArray} {ml : Nat} {ret : Option FieldType} {w : Bool} {h0 : Heap} {ws ws' : List Addr} {vm0 vm1 : Vm} {T T' : State} {h h' h1 : Heap} {locs locs' : List Loc} {cells slots cells' slots' : Nat} {F : State → Option Value → Prop} {pc pc' : Nat} {Ls Ls' : Array Slot} {rest : List Value} {a b x : Addr}
/-- a char that Latin-1 holds -/
def Lat (z : Int32) : Prop := ¬ z < 0 ∧ ¬ (255 : Int32) < z
def lo (z : Int32) : Int32 := z.toInt8.toInt32
theorem lat_mask (x : Int32) : Lat (x &&& (255 : Int32)) := by
  have q := c_and x 255 (by decide)
  have e2 : (255 : Int32).toInt = 255 := by decide
  refine ⟨fun r => ?_, fun r => ?_⟩
  · rw [Int32.lt_iff_toInt_lt] at r; have e1 : (0 : Int32).toInt = 0 := by decide
    omega
  · rw [Int32.lt_iff_toInt_lt] at r; omega
theorem nar_mask (x : Int32) : nar .char (x &&& (255 : Int32)) = (x &&& (255 : Int32)) := i2c_mask x
theorem lat_eq {z : Int32} (q : Lat z) : z &&& 255 = z := by
  have h1 := c_mask z 255 8 (by decide) (by decide)
  have e1 : (0 : Int32).toInt = 0 := by decide
  have e2 : (255 : Int32).toInt = 255 := by decide
  have q1 := q.1; have q2 := q.2
  rw [Int32.lt_iff_toInt_lt] at q1 q2
  apply Int32.toInt_inj.mp
  rw [h1]; omega
theorem nar_chr {z : Int32} (q : Lat z) : nar .char z = z := by
  have e := lat_eq q
  have r := nar_mask z
  rw [e] at r; exact r
theorem i2c_chr {z : Int32} (q : Lat z) : z.toUInt32.toUInt16.toUInt32.toInt32 = z := nar_chr q
theorem s_i2cM {u : Int32} (X : Wk p l e R s m args below meth c Z a0 EL y bytes ml ret w h0 ws vm0 T h locs cells slots) (hd : decode bytes pc = .ok (.i2c, 1)) (hp : pc + 1 = pc') (k : Go p e below F T (mkF m pc' Ls (.int (u &&& (255 : Int32)) :: rest))) : Go p e below F T (mkF m pc Ls (.int (u &&& (255 : Int32)) :: rest)) :=
  s_i2c X hd hp (by rw [i2c_mask]; exact k)
theorem s_i2cR {u : Int32} (X : Wk p l e R s m args below meth c Z a0 EL y bytes ml ret w h0 ws vm0 T h locs cells slots) (hd : decode bytes pc = .ok (.i2c, 1)) (q : Lat u) (hp : pc + 1 = pc') (k : Go p e below F T (mkF m pc' Ls (.int u :: rest))) : Go p e below F T (mkF m pc Ls (.int u :: rest)) :=
  s_i2c X hd hp (by rw [i2c_chr q]; exact k)
theorem s_castoreR {j z n : Int32} {kc : ClassId} {vs : List Value} {dv : Value} (X : Wk p l e R s m args below meth c Z a0 EL y bytes ml ret w h0 ws vm0 T h locs cells slots) (hd : decode bytes pc = .ok (.castore, 1)) (A : Arv Z h a kc .char n vs dv) (hj : ¬ j < 0 ∧ j < n) (i : Nat) (hi : j.toNatClampNeg = i) (hlt : i < vs.length) (hz : nar .char z = z) (Oa : Ok w Z EL h0 ws vm0 h a) (hp : pc + 1 = pc')
    (k : ∀ T' h', Wk p l e R s m args below meth c Z a0 EL y bytes ml ret w h0 ws vm0 T' h' (locs ++ [⟨a, j.toNatClampNeg⟩]) cells slots → Ev w Z EL vm0 h vm0 h' [a] → Arv Z h' a kc .char n (vs.set i (.int z)) dv → Go p e below F T' (mkF m pc' Ls rest)) : Go p e below F T (mkF m pc Ls (.int z :: .int j :: .ref a :: rest)) :=
  s_castore X hd A hj i hi hlt Oa hp (by rw [hz]; exact k)
/-- a String of Latin-1 chars -/
def Str (Z : State) (h : Heap) (a : Addr) (cs : List Int32) : Prop := (∀ c ∈ cs, Lat c) ∧ cs.length ≤ 4000 ∧ Exa Z h a "java/lang/String" ∧ Fld Z h a "java/lang/String" "coder" "B" (.int 0) ∧ ∃ (t : Addr) (kb : ClassId), Fld Z h a "java/lang/String" "value" "[B" (.ref t) ∧ Arv Z h t kb .byte (Int32.ofNat cs.length) ((cs.map lo).map Value.int) (.int 0)
theorem Str.ext {cs : List Int32} (S : Str Z h a cs) (E : Ext h h') : Str Z h' a cs := by
  obtain ⟨h1, h2, h3, h4, t, kb, h5, h6⟩ := S; exact ⟨h1, h2, h3.ext E, h4.ext E, t, kb, h5.ext E, h6.ext E⟩
theorem Str.exa {cs : List Int32} (S : Str Z h a cs) : Exa Z h a "java/lang/String" := S.2.2.1
theorem Str.lt {cs : List Int32} (S : Str Z h a cs) : a < h.size := S.exa.lt
theorem Str.mk {cs : List Int32} {t : Addr} {kb : ClassId} {z : Int32} {vs : List Value} (h1 : (∀ c ∈ cs, Lat c) ∧ (cs.map lo).map Value.int = vs) (h2 : cs.length ≤ 4000 ∧ z = Int32.ofNat cs.length) (E : Exa Z h a "java/lang/String") (C : Fld Z h a "java/lang/String" "coder" "B" (.int 0)) (V : Fld Z h a "java/lang/String" "value" "[B" (.ref t)) (A : Arv Z h t kb .byte z vs (.int 0)) : Str Z h a cs := by
  obtain ⟨q1, rfl⟩ := h1
  obtain ⟨q2, rfl⟩ := h2
  exact ⟨q1, q2, E, C, t, kb, V, A⟩
instance (z : Int32) : Decidable (Lat z) := inferInstanceAs (Decidable (_ ∧ _))
theorem up65 {cs : List Int32} (hq : ∀ c ∈ cs, Lat c) : ∀ c ∈ cs, ¬ c < 0 ∧ ¬ (65535 : Int32) < c := fun c hc => ⟨(hq c hc).1, fun q => (hq c hc).2 (by rw [Int32.lt_iff_toInt_lt] at q ⊢; have e1 : (65535 : Int32).toInt = 65535 := rfl; have e2 : (255 : Int32).toInt = 255 := rfl; omega)⟩
theorem lolo (z : Int32) : z.toInt8.toInt32.toInt8.toInt32 = lo z := by simp [lo]
/-- a String of one char, by its byte -/
theorem str1 {z : Int32} {t : Addr} {kb : ClassId} (hz : Lat z) (E : Exa Z h a "java/lang/String") (C : Fld Z h a "java/lang/String" "coder" "B" (.int 0)) (V : Fld Z h a "java/lang/String" "value" "[B" (.ref t)) (A : Arv Z h t kb .byte (1 : Int32) [(.int z.toInt8.toInt32.toInt8.toInt32)] (.int (0 : Int32))) : Str Z h a [z] := by
  rw [lolo] at A
  exact ⟨fun c hc => by cases List.mem_singleton.mp hc; exact hz, Nat.le_of_ble_eq_true rfl, E, C, t, kb, V, A⟩
/-- an object of another class is written: the String stands as it stood -/
theorem Str.keepE {cs : List Int32} {C : String} {n : Nat} (S : Str Z h a cs) (K : Keep h h' [x]) (E : Exa Z h x C) (hC : C ≠ "java/lang/String") (wi : (Jvm.Cond.instantiable C n).before a0 Z = true) : Str Z h' a cs := by
  obtain ⟨h1, h2, h3, h4, t, kb, h5, h6⟩ := S
  have n1 : a ∉ [x] := ninS (Ne.symm (Exa.ne E h3 hC)) nin0
  have n2 : t ∉ [x] := ninS (Ne.symm (Exa.neArv E h6 wi)) nin0
  exact ⟨h1, h2, h3.keep K, h4.keep K n1, t, kb, h5.keep K n1, h6.keep K n2⟩
/-- a value that is null, or a String of these chars -/
def NStr (Z : State) (h : Heap) (u : Value) : Option (List Int32) → Prop
  | none => u = .null
  | some cs => ∃ r, u = .ref r ∧ Str Z h r cs
theorem NStr.ext {u : Value} {o : Option (List Int32)} (S : NStr Z h u o) (E : Ext h h') : NStr Z h' u o := by
  cases o with
  | none => exact S
  | some cs => obtain ⟨r, e, q⟩ := S; exact ⟨r, e, q.ext E⟩
theorem NStr.keepE {u : Value} {o : Option (List Int32)} {C : String} {n : Nat} (S : NStr Z h u o) (K : Keep h h' [x]) (E : Exa Z h x C) (hC : C ≠ "java/lang/String") (wi : (Jvm.Cond.instantiable C n).before a0 Z = true) : NStr Z h' u o := by
  cases o with
  | none => exact S
  | some cs => obtain ⟨r, e, q⟩ := S; exact ⟨r, e, q.keepE K E hC wi⟩
theorem NStr.isRef {u : Value} {o : Option (List Int32)} (S : NStr Z h u o) : u.isRef = true := by
  cases o with
  | none => cases S; rfl
  | some cs => obtain ⟨r, rfl, q⟩ := S; rfl
theorem NStr.cases {u : Value} {o : Option (List Int32)} (S : NStr Z h u o) : (u = .null ∧ o = none) ∨ ∃ r cs, u = .ref r ∧ o = some cs ∧ Str Z h r cs := by
  cases o with
  | none => exact Or.inl ⟨S, rfl⟩
  | some cs => obtain ⟨r, e, q⟩ := S; exact Or.inr ⟨r, cs, e, rfl, q⟩
end Str0
end Own
namespace Own
section Own2
variable {p : Program} {l : Launch} {e : Env} {R : Room} {s : State} {m : MethodId} {args : Array Value} {below : List Frame} {meth : Method} {c : Code} {Z : State} {a0 : Array Value} {EL : List (String × Nat)} {y : MethodName} {bytes : ByteArray} {ml : Nat} {ret : Option FieldType} {w : Bool} {h0 : Heap} {ws ws' : List Addr} {vm0 vm1 : Vm} {T T' : State} {h h' h1 : Heap} {locs locs' : List Loc} {cells slots cells' slots' : Nat} {F : State → Option Value → Prop} {pc pc' : Nat} {Ls Ls' : Array Slot} {rest : List Value} {a b x : Addr}
/-- System.arraycopy between two arrays of one plain kind -/
theorem s_arraycopy {idx : Nat} {k k' : ClassId} {ty : FieldType} {z z' sp dp nn : Int32} {vs vd us vd' : List Value} {dv dd : Value} (X : Wk p l e R s m args below meth c Z a0 EL y bytes ml ret w h0 ws vm0 T h locs cells slots) (hd : decode bytes pc = .ok (.invokestatic idx, 3)) (w1 : (Jvm.Cond.methodLink y.cls idx Jvm.Stand.acN).before a0 Z = true) (w2 : (Jvm.Cond.native Jvm.Stand.acN).before a0 Z = true) (w3 : (Jvm.Cond.static Jvm.Stand.acN).before a0 Z = true) (w4 : (Jvm.Cond.initialized "java/lang/System").before a0 Z = true)
    (A : Arv Z h a k ty z vs dv) (B : Arv Z h b k' ty z' vd dd) (hty : refKind ty = false) (h1 : ¬ sp < 0) (h2 : ¬ dp < 0) (h3 : ¬ nn < 0) (h4 : sp.toNatClampNeg + nn.toNatClampNeg ≤ z.toNatClampNeg) (h5 : dp.toNatClampNeg + nn.toNatClampNeg ≤ z'.toNatClampNeg)
    (hus : us = (List.range nn.toNatClampNeg).map fun i => vs.getD (sp.toNatClampNeg + i) dv) (hl : dp.toNatClampNeg + nn.toNatClampNeg ≤ vd.length) (hvd : vd.take dp.toNatClampNeg ++ us ++ vd.drop (dp.toNatClampNeg + nn.toNatClampNeg) = vd') (Ob : Ok w Z EL h0 ws vm0 h b)
    (hsz : Ls.size = ml) (W : Nat) (hW : (rest.map fun v => v.category).sum ≤ W) (hf : 1 ≤ R.frames) (hlo : W + (nativeFrameWords "java/lang/System" "arraycopy" 5 + 11) ≤ R.locals) (hp : pc + 3 = pc')
    (kk : ∀ T' h' L, Wk p l e R s m args below meth c Z a0 EL y bytes ml ret w h0 ws vm0 T' h' L cells slots → Ev w Z EL vm0 h vm0 h' [b] → Arv Z h' b k' ty z' vd' dd → Go p e below F T' (mkF m pc' Ls rest)) : Go p e below F T (mkF m pc Ls (.int nn :: .int dp :: .ref b :: .int sp :: .ref a :: rest)) := by
  subst hp hvd
  obtain ⟨T', h', L, X', e', N, K, A', st⟩ := cpA X.st X.hx X.hZ X.hown w1 w2 w3 w4 X.hT A B (Or.inl ⟨rfl, hty⟩) h1 h2 h3 h4 h5 hus hl X.hN Ob.2.1 (g := mkF m pc Ls (.int nn :: .int dp :: .ref b :: .int sp :: .ref a :: rest)) rfl (hsz.trans X.hml.symm) rfl (hb X.hby hd) hf (W := W) (by show 2 * 0 + _ ≤ _; omega) hlo
  have V := X.evK K Ob.one
  exact (kk T' h' L (X.same X' e' N V (Ok.two Ob.one)) V A').by fun t r => st t r
theorem lo_inj {u v : Int32} (hu : Lat u) (hv : Lat v) (h : lo u = lo v) : u = v := by
  have e : ∀ {z : Int32}, Lat z → (lo z).toInt % 256 = z.toInt := fun {z} q => by
    have h1 := (c_i2b z).1
    have q1 := q.1; have q2 := q.2
    rw [Int32.lt_iff_toInt_lt] at q1 q2
    have e1 : (0 : Int32).toInt = 0 := by decide
    have e2 : (255 : Int32).toInt = 255 := by decide
    simp only [lo]
    omega
  apply Int32.toInt_inj.mp
  rw [← e hu, ← e hv, h]
/-- what stands before the first ch -/
def tw : List Int32 → Int32 → List Int32
  | [], _ => []
  | c :: r, ch => if c = ch then [] else c :: tw r ch
theorem tw_nil (ch : Int32) : tw [] ch = [] := rfl
theorem tw_hit {c ch : Int32} {r : List Int32} (h : c = ch) : tw (c :: r) ch = [] := by simp [tw, h]
theorem tw_miss {c ch : Int32} {r : List Int32} (h : ¬ c = ch) : tw (c :: r) ch = c :: tw r ch := by simp [tw, h]
theorem ofNat_toNat {n : Nat} (h : n < 2147483648) : (Int32.ofNat n).toNatClampNeg = n := by
  have hz : (Int32.size : Int) = 4294967296 := by decide
  have h1 : (Int32.ofNat n).toInt = n := by
    rw [Int32.toInt_ofNat']; exact Int.bmod_eq_of_le (by omega) (by omega)
  simp only [Int32.toNatClampNeg, h1]; omega
theorem ofNat_toInt {n : Nat} (h : n < 2147483648) : (Int32.ofNat n).toInt = n := by
  have hz : (Int32.size : Int) = 4294967296 := by decide
  rw [Int32.toInt_ofNat']; exact Int.bmod_eq_of_le (by omega) (by omega)
theorem ofNat_lt {i n : Nat} (hi : i < 2147483648) (hn : n < 2147483648) : Int32.ofNat i < Int32.ofNat n ↔ i < n := by
  rw [Int32.lt_iff_toInt_lt, ofNat_toInt hi, ofNat_toInt hn]; omega
theorem ofNat_nneg {n : Nat} (h : n < 2147483648) : ¬ Int32.ofNat n < 0 := by
  rw [Int32.lt_iff_toInt_lt, ofNat_toInt h]; have e1 : (0 : Int32).toInt = 0 := by decide
  omega
theorem ofNat_succ (n : Nat) : Int32.ofNat n + 1 = Int32.ofNat (n + 1) := by
  apply Int32.toInt_inj.mp
  rw [Int32.toInt_add, Int32.toInt_ofNat', Int32.toInt_ofNat']
  have e1 : (1 : Int32).toInt = 1 := by decide
  rw [e1]
  simp
end Own2
end Own

namespace Own
theorem latN : ∀ c ∈ ([] : List Int32), Lat c := fun _ q => nomatch q
theorem latL {z : Int32} {L : List Int32} (q : Lat z) (r : ∀ c ∈ L, Lat c) : ∀ c ∈ z :: L, Lat c := fun c hc => (List.mem_cons.mp hc).elim (fun e => e ▸ q) (r c)
end Own
namespace Own
section Str1
variable {p : Program} {l : Launch} {e : Env} {R : Room} {s : State} {args : Array Value} {below : List Frame} {Z : State} {a0 : Array Value} {h h' h1 : Heap} {rest : List Value} {a b x : Addr} {len W : Nat} {cs ds : List Int32}
/-- new String(chars) -/
theorem strNew {kC : ClassId} {d v0 c0 : Value} {z N : Int32} {n : Nat} (hZ : Z.Warmed39 s.vm) (hws : ∀ d ∈ StrChars.Road.words, d.before a0 Z = true) (wi : (Jvm.Cond.instantiable "java/lang/String" 4).before a0 Z = true) (hx0 : Z.heap.size ≤ x) (hh0 : Z.heap.size ≤ h.size) (E : Exa Z h x "java/lang/String") (V : Fld Z h x "java/lang/String" "value" "[B" v0) (C : Fld Z h x "java/lang/String" "coder" "B" c0) (K : Arv Z h b kC .char N (cs.map Value.int) d) (S : Sta Z h "java/lang/String" "COMPACT_STRINGS" "Z" (.int z)) (hz : ¬ z = 0)
    (hn : cs.length = n) (hN : N = Int32.ofNat n) (l0 : 0 < n) (l2 : n ≤ 4000) (hp : ∀ c ∈ cs, Lat c) (hfr : 4 ≤ R.frames) (hlo : W + 65 ≤ R.locals) :
    Back l R p e below s args (⟨"java/lang/String", "<init>", "([C)V"⟩ : MethodName) len W (fun P a => a = #[.ref x, .ref b] ∧ P.U.heap = h ∧ P.cells + 1 ≤ R.cells ∧ P.slots + n ≤ R.slots)
      (fun P _ v B => ∃ L, StrChars.Road.QV Z x N (cs.map fun c => c.toInt8.toInt32) h Z.heap.size v B.U.heap L ∧ B.locs = P.locs ++ L ∧ B.cells = P.cells + 1 ∧ B.slots = P.slots + n) :=
  StrChars.Road.backV hZ hws wi hx0 hh0 E V C K S hz hn hN l0 l2 hp rfl hfr hlo
theorem strNewQ {N : Int32} {n : Nat} {v : Option Value} {L : List Loc} (hn : cs.length = n) (hN : N = Int32.ofNat n) (l2 : n ≤ 4000) (hp : ∀ c ∈ cs, Lat c) (q : StrChars.Road.QV Z x N (cs.map fun c => c.toInt8.toInt32) h Z.heap.size v h' L) : Fr Z.heap.size L ∧ Keep h h' [x] ∧ (v = none ∧ Str Z h' x cs) := by
  obtain ⟨q1, q2, q3, q4, q5, t, kb, -, -, -, q6, q7⟩ := q
  subst hn hN
  exact ⟨q2, q3, q1, hp, l2, q4, q5, t, kb, q6, q7⟩
theorem strAt {z : Int32} {fm : Value} {i : Nat} {j : Int32} (hZ : Z.Warmed39 s.vm) (hws : ∀ d ∈ StrChars.Road.wordsChN, d.before a0 Z = true) (wi : (Jvm.Cond.instantiable "java/lang/String" 4).before a0 Z = true) (T : Str Z h x cs) (S : Sta Z h "java/lang/String" "COMPACT_STRINGS" "Z" (.int z)) (hz : ¬ z = 0) (F : Sta Z h "jdk/internal/util/Preconditions" "SIOOBE_FORMATTER" "Ljava/util/function/BiFunction;" fm) (rf : fm.isRef = true) (hi : i < cs.length) (hj : j = Int32.ofNat i) (hfr : 4 ≤ R.frames) (hlo : W + 53 ≤ R.locals) :
    Back l R p e below s args (⟨"java/lang/String", "charAt", "(I)C"⟩ : MethodName) len W (fun P a => a = #[.ref x, .int j] ∧ P.U.heap = h ∧ P.cells + 0 ≤ R.cells ∧ P.slots + 0 ≤ R.slots)
      (fun P _ v B => ∃ L, (v = some (.int (cs.getD i 0)) ∧ L = [] ∧ B.U.heap = h) ∧ B.locs = P.locs ++ L ∧ B.cells = P.cells + 0 ∧ B.slots = P.slots + 0) := by
  obtain ⟨q1, q2, q3, q4, t, kb, q5, q6⟩ := T
  exact StrChars.Road.chN hZ hws wi q3 q5 q4 q6 (StrChars.Road.codOf rfl fun c hc => (q1 c hc).2) (up65 q1) S hz F rf q2 hi hj hfr hlo
theorem strAtQ {v : Option Value} {L : List Loc} {i : Nat} {z : Int32} (hz : cs.getD i 0 = z) (q : v = some (.int (cs.getD i 0)) ∧ L = [] ∧ h' = h) : Fr Z.heap.size L ∧ Keep h h' [] ∧ (v = some (.int z)) := by
  obtain ⟨rfl, rfl, rfl⟩ := q; exact ⟨Fr.nil _, Keep.refl _ _, by rw [hz]⟩
theorem strEq {z : Int32} (hZ : Z.Warmed39 s.vm) (hws : ∀ d ∈ StrChars.Road.wordsEq, d.before a0 Z = true) (wi : (Jvm.Cond.instantiable "java/lang/String" 4).before a0 Z = true) (T : Str Z h x cs) (T' : Str Z h b ds) (S : Sta Z h "java/lang/String" "COMPACT_STRINGS" "Z" (.int z)) (hz : ¬ z = 0) (hfr : 2 ≤ R.frames) (hlo : W + 28 ≤ R.locals) :
    Back l R p e below s args (⟨"java/lang/String", "equals", "(Ljava/lang/Object;)Z"⟩ : MethodName) len W (fun P a => a = #[.ref x, .ref b] ∧ P.U.heap = h ∧ P.cells + 0 ≤ R.cells ∧ P.slots + 0 ≤ R.slots)
      (fun P _ v B => ∃ L, (((v = some (.int 1) ∧ cs = ds) ∨ (v = some (.int 0) ∧ ¬ cs = ds)) ∧ L = [] ∧ B.U.heap = h) ∧ B.locs = P.locs ++ L ∧ B.cells = P.cells + 0 ∧ B.slots = P.slots + 0) := by
  obtain ⟨q1, q2, q3, q4, t, kb, q5, q6⟩ := T
  obtain ⟨r1, r2, r3, r4, t', kb', r5, r6⟩ := T'
  exact StrChars.Road.eqW hZ hws wi q3 q5 q4 q6 (StrChars.Road.codOf rfl fun c hc => (q1 c hc).2) (up65 q1) q2 r3 r5 r4 r6 (StrChars.Road.codOf rfl fun c hc => (r1 c hc).2) (up65 r1) r2 S hz hfr hlo
theorem strEqQ {v : Option Value} {L : List Loc} (q : ((v = some (.int 1) ∧ cs = ds) ∨ (v = some (.int 0) ∧ ¬ cs = ds)) ∧ L = [] ∧ h' = h) : Fr Z.heap.size L ∧ Keep h h' [] ∧ (v = some (.int (if cs = ds then 1 else 0))) := by
  obtain ⟨q, rfl, rfl⟩ := q
  refine ⟨Fr.nil _, Keep.refl _ _, ?_⟩
  rcases q with ⟨rfl, e⟩ | ⟨rfl, e⟩ <;> simp [e]
end Str1
end Own

theorem tw0 {Z : State} {a0 : Array Value} (hw : ∀ d ∈ tables_1, d.before a0 Z = true) : (Jvm.Cond.constant "com/example/carelane/carelane/registry/EpisodeIsActiveOrClosedPinLaw" (7 : Nat) (2147483647 : Int32)).before a0 Z = true := hw _ (List.mem_of_getElem? (i := 0) rfl)
theorem tw1 {Z : State} {a0 : Array Value} (hw : ∀ d ∈ tables_1, d.before a0 Z = true) : (Jvm.Cond.stringLink "com/example/carelane/carelane/registry/EpisodeIsActiveOrClosedPinLaw" (8 : Nat) "active").before a0 Z = true := hw _ (List.mem_of_getElem? (i := 1) rfl)
theorem tw2 {Z : State} {a0 : Array Value} (hw : ∀ d ∈ tables_1, d.before a0 Z = true) : (Jvm.Cond.initialized "java/lang/String").before a0 Z = true := hw _ (List.mem_of_getElem? (i := 2) rfl)
theorem tw3 {Z : State} {a0 : Array Value} (hw : ∀ d ∈ tables_1, d.before a0 Z = true) : (Jvm.Cond.instantiable "java/lang/String" (4 : Nat)).before a0 Z = true := hw _ (List.mem_of_getElem? (i := 3) rfl)
theorem tw4 {Z : State} {a0 : Array Value} (hw : ∀ d ∈ tables_1, d.before a0 Z = true) : (Jvm.Cond.arrayClass Jvm.ClassFile.FieldType.byte).before a0 Z = true := hw _ (List.mem_of_getElem? (i := 4) rfl)
theorem tw5 {Z : State} {a0 : Array Value} (hw : ∀ d ∈ tables_1, d.before a0 Z = true) : (Jvm.Cond.laysFinal "java/lang/String" "java/lang/String" "value" "[B").before a0 Z = true := hw _ (List.mem_of_getElem? (i := 5) rfl)
theorem tw6 {Z : State} {a0 : Array Value} (hw : ∀ d ∈ tables_1, d.before a0 Z = true) : (Jvm.Cond.laysFinal "java/lang/String" "java/lang/String" "coder" "B").before a0 Z = true := hw _ (List.mem_of_getElem? (i := 6) rfl)
theorem tw9 {Z : State} {a0 : Array Value} (hw : ∀ d ∈ tables_1, d.before a0 Z = true) : (Jvm.Cond.arrayClass Jvm.ClassFile.FieldType.char).before a0 Z = true := hw _ (List.mem_of_getElem? (i := 9) rfl)
theorem tw10 {Z : State} {a0 : Array Value} (hw : ∀ d ∈ tables_1, d.before a0 Z = true) : (Jvm.Cond.methodLink "com/example/carelane/carelane/registry/EpisodeIsActiveOrClosedPinLaw" (16 : Nat) ({ cls := "java/lang/String", name := "charAt", desc := "(I)C" } : Jvm.MethodName)).before a0 Z = true := hw _ (List.mem_of_getElem? (i := 10) rfl)
theorem tw11 {Z : State} {a0 : Array Value} (hw : ∀ d ∈ tables_1, d.before a0 Z = true) : (Jvm.Cond.declares ({ cls := "java/lang/String", name := "charAt", desc := "(I)C" } : Jvm.MethodName)).before a0 Z = true := hw _ (List.mem_of_getElem? (i := 11) rfl)
theorem tw12 {Z : State} {a0 : Array Value} (hw : ∀ d ∈ tables_1, d.before a0 Z = true) : (Jvm.Cond.instanceMethod ({ cls := "java/lang/String", name := "charAt", desc := "(I)C" } : Jvm.MethodName)).before a0 Z = true := hw _ (List.mem_of_getElem? (i := 12) rfl)
theorem tw13 {Z : State} {a0 : Array Value} (hw : ∀ d ∈ tables_1, d.before a0 Z = true) : (Jvm.Cond.selects "java/lang/String" ({ cls := "java/lang/String", name := "charAt", desc := "(I)C" } : Jvm.MethodName) ({ cls := "java/lang/String", name := "charAt", desc := "(I)C" } : Jvm.MethodName)).before a0 Z = true := hw _ (List.mem_of_getElem? (i := 13) rfl)
theorem tw35 {Z : State} {a0 : Array Value} (hw : ∀ d ∈ tables_1, d.before a0 Z = true) : (Jvm.Cond.classLink "com/example/carelane/carelane/registry/EpisodeIsActiveOrClosedPinLaw" (17 : Nat) "java/lang/String").before a0 Z = true := hw _ (List.mem_of_getElem? (i := 35) rfl)
theorem tw36 {Z : State} {a0 : Array Value} (hw : ∀ d ∈ tables_1, d.before a0 Z = true) : (Jvm.Cond.methodLink "com/example/carelane/carelane/registry/EpisodeIsActiveOrClosedPinLaw" (22 : Nat) ({ cls := "java/lang/String", name := "<init>", desc := "([C)V" } : Jvm.MethodName)).before a0 Z = true := hw _ (List.mem_of_getElem? (i := 36) rfl)
theorem tw37 {Z : State} {a0 : Array Value} (hw : ∀ d ∈ tables_1, d.before a0 Z = true) : (Jvm.Cond.instanceMethod ({ cls := "java/lang/String", name := "<init>", desc := "([C)V" } : Jvm.MethodName)).before a0 Z = true := hw _ (List.mem_of_getElem? (i := 37) rfl)
theorem tw38 {Z : State} {a0 : Array Value} (hw : ∀ d ∈ tables_1, d.before a0 Z = true) : (Jvm.Cond.code ({ cls := "java/lang/String", name := "<init>", desc := "([C)V" } : Jvm.MethodName) jdk_42_method_3_code (2 : Nat) (Option.none : Option Jvm.ClassFile.FieldType)).before a0 Z = true := hw _ (List.mem_of_getElem? (i := 38) rfl)
theorem tw44 {Z : State} {a0 : Array Value} (hw : ∀ d ∈ tables_1, d.before a0 Z = true) : (Jvm.Cond.instanceMethod ({ cls := "java/lang/Object", name := "<init>", desc := "()V" } : Jvm.MethodName)).before a0 Z = true := hw _ (List.mem_of_getElem? (i := 44) rfl)
theorem tw45 {Z : State} {a0 : Array Value} (hw : ∀ d ∈ tables_1, d.before a0 Z = true) : (Jvm.Cond.code ({ cls := "java/lang/Object", name := "<init>", desc := "()V" } : Jvm.MethodName) object_method_1_code (1 : Nat) (Option.none : Option Jvm.ClassFile.FieldType)).before a0 Z = true := hw _ (List.mem_of_getElem? (i := 45) rfl)
theorem tw56 {Z : State} {a0 : Array Value} (hw : ∀ d ∈ tables_1, d.before a0 Z = true) : (Jvm.Cond.classLink "com/example/carelane/carelane/registry/EpisodeIsActiveOrClosedPinLaw" (25 : Nat) "com/example/carelane/carelane/registry/Episode").before a0 Z = true := hw _ (List.mem_of_getElem? (i := 56) rfl)
theorem tw57 {Z : State} {a0 : Array Value} (hw : ∀ d ∈ tables_1, d.before a0 Z = true) : (Jvm.Cond.instantiable "com/example/carelane/carelane/registry/Episode" (4 : Nat)).before a0 Z = true := hw _ (List.mem_of_getElem? (i := 57) rfl)
theorem tw58 {Z : State} {a0 : Array Value} (hw : ∀ d ∈ tables_1, d.before a0 Z = true) : (Jvm.Cond.initialized "com/example/carelane/carelane/registry/Episode").before a0 Z = true := hw _ (List.mem_of_getElem? (i := 58) rfl)
theorem tw59 {Z : State} {a0 : Array Value} (hw : ∀ d ∈ tables_1, d.before a0 Z = true) : (Jvm.Cond.stringLink "com/example/carelane/carelane/registry/EpisodeIsActiveOrClosedPinLaw" (27 : Nat) "e1").before a0 Z = true := hw _ (List.mem_of_getElem? (i := 59) rfl)
theorem tw60 {Z : State} {a0 : Array Value} (hw : ∀ d ∈ tables_1, d.before a0 Z = true) : (Jvm.Cond.stringLink "com/example/carelane/carelane/registry/EpisodeIsActiveOrClosedPinLaw" (29 : Nat) "p1").before a0 Z = true := hw _ (List.mem_of_getElem? (i := 60) rfl)
theorem tw61 {Z : State} {a0 : Array Value} (hw : ∀ d ∈ tables_1, d.before a0 Z = true) : (Jvm.Cond.stringLink "com/example/carelane/carelane/registry/EpisodeIsActiveOrClosedPinLaw" (31 : Nat) "o1").before a0 Z = true := hw _ (List.mem_of_getElem? (i := 61) rfl)
theorem tw62 {Z : State} {a0 : Array Value} (hw : ∀ d ∈ tables_1, d.before a0 Z = true) : (Jvm.Cond.methodLink "com/example/carelane/carelane/registry/EpisodeIsActiveOrClosedPinLaw" (33 : Nat) ({ cls := "com/example/carelane/carelane/registry/Episode", name := "<init>", desc := "(Ljava/lang/String;Ljava/lang/String;Ljava/lang/String;Ljava/lang/String;)V" } : Jvm.MethodName)).before a0 Z = true := hw _ (List.mem_of_getElem? (i := 62) rfl)
theorem tw63 {Z : State} {a0 : Array Value} (hw : ∀ d ∈ tables_1, d.before a0 Z = true) : (Jvm.Cond.instanceMethod ({ cls := "com/example/carelane/carelane/registry/Episode", name := "<init>", desc := "(Ljava/lang/String;Ljava/lang/String;Ljava/lang/String;Ljava/lang/String;)V" } : Jvm.MethodName)).before a0 Z = true := hw _ (List.mem_of_getElem? (i := 63) rfl)
theorem tw64 {Z : State} {a0 : Array Value} (hw : ∀ d ∈ tables_1, d.before a0 Z = true) : (Jvm.Cond.code ({ cls := "com/example/carelane/carelane/registry/Episode", name := "<init>", desc := "(Ljava/lang/String;Ljava/lang/String;Ljava/lang/String;Ljava/lang/String;)V" } : Jvm.MethodName) prog_22_method_1_code (5 : Nat) (Option.none : Option Jvm.ClassFile.FieldType)).before a0 Z = true := hw _ (List.mem_of_getElem? (i := 64) rfl)
theorem tw65 {Z : State} {a0 : Array Value} (hw : ∀ d ∈ tables_1, d.before a0 Z = true) : (Jvm.Cond.methodLink "com/example/carelane/carelane/registry/Episode" (1 : Nat) ({ cls := "java/lang/Record", name := "<init>", desc := "()V" } : Jvm.MethodName)).before a0 Z = true := hw _ (List.mem_of_getElem? (i := 65) rfl)
theorem tw66 {Z : State} {a0 : Array Value} (hw : ∀ d ∈ tables_1, d.before a0 Z = true) : (Jvm.Cond.instanceMethod ({ cls := "java/lang/Record", name := "<init>", desc := "()V" } : Jvm.MethodName)).before a0 Z = true := hw _ (List.mem_of_getElem? (i := 66) rfl)
theorem tw68 {Z : State} {a0 : Array Value} (hw : ∀ d ∈ tables_1, d.before a0 Z = true) : (Jvm.Cond.initialized "java/lang/Record").before a0 Z = true := hw _ (List.mem_of_getElem? (i := 68) rfl)
theorem tw69 {Z : State} {a0 : Array Value} (hw : ∀ d ∈ tables_1, d.before a0 Z = true) : (Jvm.Cond.code ({ cls := "java/lang/Record", name := "<init>", desc := "()V" } : Jvm.MethodName) jdk_30_method_1_code (1 : Nat) (Option.none : Option Jvm.ClassFile.FieldType)).before a0 Z = true := hw _ (List.mem_of_getElem? (i := 69) rfl)
theorem tw70 {Z : State} {a0 : Array Value} (hw : ∀ d ∈ tables_1, d.before a0 Z = true) : (Jvm.Cond.methodLink "java/lang/Record" (1 : Nat) ({ cls := "java/lang/Object", name := "<init>", desc := "()V" } : Jvm.MethodName)).before a0 Z = true := hw _ (List.mem_of_getElem? (i := 70) rfl)
theorem tw71 {Z : State} {a0 : Array Value} (hw : ∀ d ∈ tables_1, d.before a0 Z = true) : (Jvm.Cond.fieldLink "com/example/carelane/carelane/registry/Episode" (7 : Nat) "com/example/carelane/carelane/registry/Episode" "id" "Ljava/lang/String;").before a0 Z = true := hw _ (List.mem_of_getElem? (i := 71) rfl)
theorem tw72 {Z : State} {a0 : Array Value} (hw : ∀ d ∈ tables_1, d.before a0 Z = true) : (Jvm.Cond.laysFinal "com/example/carelane/carelane/registry/Episode" "com/example/carelane/carelane/registry/Episode" "id" "Ljava/lang/String;").before a0 Z = true := hw _ (List.mem_of_getElem? (i := 72) rfl)
theorem tw73 {Z : State} {a0 : Array Value} (hw : ∀ d ∈ tables_1, d.before a0 Z = true) : (Jvm.Cond.fieldLink "com/example/carelane/carelane/registry/Episode" (13 : Nat) "com/example/carelane/carelane/registry/Episode" "personId" "Ljava/lang/String;").before a0 Z = true := hw _ (List.mem_of_getElem? (i := 73) rfl)
theorem tw74 {Z : State} {a0 : Array Value} (hw : ∀ d ∈ tables_1, d.before a0 Z = true) : (Jvm.Cond.laysFinal "com/example/carelane/carelane/registry/Episode" "com/example/carelane/carelane/registry/Episode" "personId" "Ljava/lang/String;").before a0 Z = true := hw _ (List.mem_of_getElem? (i := 74) rfl)
theorem tw75 {Z : State} {a0 : Array Value} (hw : ∀ d ∈ tables_1, d.before a0 Z = true) : (Jvm.Cond.fieldLink "com/example/carelane/carelane/registry/Episode" (16 : Nat) "com/example/carelane/carelane/registry/Episode" "status" "Ljava/lang/String;").before a0 Z = true := hw _ (List.mem_of_getElem? (i := 75) rfl)
theorem tw76 {Z : State} {a0 : Array Value} (hw : ∀ d ∈ tables_1, d.before a0 Z = true) : (Jvm.Cond.laysFinal "com/example/carelane/carelane/registry/Episode" "com/example/carelane/carelane/registry/Episode" "status" "Ljava/lang/String;").before a0 Z = true := hw _ (List.mem_of_getElem? (i := 76) rfl)
theorem tw77 {Z : State} {a0 : Array Value} (hw : ∀ d ∈ tables_1, d.before a0 Z = true) : (Jvm.Cond.fieldLink "com/example/carelane/carelane/registry/Episode" (19 : Nat) "com/example/carelane/carelane/registry/Episode" "managingOrganizationId" "Ljava/lang/String;").before a0 Z = true := hw _ (List.mem_of_getElem? (i := 77) rfl)
theorem tw78 {Z : State} {a0 : Array Value} (hw : ∀ d ∈ tables_1, d.before a0 Z = true) : (Jvm.Cond.laysFinal "com/example/carelane/carelane/registry/Episode" "com/example/carelane/carelane/registry/Episode" "managingOrganizationId" "Ljava/lang/String;").before a0 Z = true := hw _ (List.mem_of_getElem? (i := 78) rfl)
theorem tw79 {Z : State} {a0 : Array Value} (hw : ∀ d ∈ tables_1, d.before a0 Z = true) : (Jvm.Cond.methodLink "com/example/carelane/carelane/registry/EpisodeIsActiveOrClosedPinLaw" (36 : Nat) ({ cls := "com/example/carelane/carelane/registry/Episode", name := "isActiveOrClosed", desc := "()Z" } : Jvm.MethodName)).before a0 Z = true := hw _ (List.mem_of_getElem? (i := 79) rfl)
theorem tw80 {Z : State} {a0 : Array Value} (hw : ∀ d ∈ tables_1, d.before a0 Z = true) : (Jvm.Cond.declares ({ cls := "com/example/carelane/carelane/registry/Episode", name := "isActiveOrClosed", desc := "()Z" } : Jvm.MethodName)).before a0 Z = true := hw _ (List.mem_of_getElem? (i := 80) rfl)
theorem tw81 {Z : State} {a0 : Array Value} (hw : ∀ d ∈ tables_1, d.before a0 Z = true) : (Jvm.Cond.instanceMethod ({ cls := "com/example/carelane/carelane/registry/Episode", name := "isActiveOrClosed", desc := "()Z" } : Jvm.MethodName)).before a0 Z = true := hw _ (List.mem_of_getElem? (i := 81) rfl)
theorem tw82 {Z : State} {a0 : Array Value} (hw : ∀ d ∈ tables_1, d.before a0 Z = true) : (Jvm.Cond.selects "com/example/carelane/carelane/registry/Episode" ({ cls := "com/example/carelane/carelane/registry/Episode", name := "isActiveOrClosed", desc := "()Z" } : Jvm.MethodName) ({ cls := "com/example/carelane/carelane/registry/Episode", name := "isActiveOrClosed", desc := "()Z" } : Jvm.MethodName)).before a0 Z = true := hw _ (List.mem_of_getElem? (i := 82) rfl)
theorem tw83 {Z : State} {a0 : Array Value} (hw : ∀ d ∈ tables_1, d.before a0 Z = true) : (Jvm.Cond.code ({ cls := "com/example/carelane/carelane/registry/Episode", name := "isActiveOrClosed", desc := "()Z" } : Jvm.MethodName) prog_22_method_3_code (1 : Nat) (Option.some Jvm.ClassFile.FieldType.boolean)).before a0 Z = true := hw _ (List.mem_of_getElem? (i := 83) rfl)
theorem tw84 {Z : State} {a0 : Array Value} (hw : ∀ d ∈ tables_1, d.before a0 Z = true) : (Jvm.Cond.methodLink "com/example/carelane/carelane/registry/Episode" (30 : Nat) ({ cls := "com/example/carelane/carelane/registry/Episode", name := "isActive", desc := "()Z" } : Jvm.MethodName)).before a0 Z = true := hw _ (List.mem_of_getElem? (i := 84) rfl)
theorem tw85 {Z : State} {a0 : Array Value} (hw : ∀ d ∈ tables_1, d.before a0 Z = true) : (Jvm.Cond.declares ({ cls := "com/example/carelane/carelane/registry/Episode", name := "isActive", desc := "()Z" } : Jvm.MethodName)).before a0 Z = true := hw _ (List.mem_of_getElem? (i := 85) rfl)
theorem tw86 {Z : State} {a0 : Array Value} (hw : ∀ d ∈ tables_1, d.before a0 Z = true) : (Jvm.Cond.instanceMethod ({ cls := "com/example/carelane/carelane/registry/Episode", name := "isActive", desc := "()Z" } : Jvm.MethodName)).before a0 Z = true := hw _ (List.mem_of_getElem? (i := 86) rfl)
theorem tw87 {Z : State} {a0 : Array Value} (hw : ∀ d ∈ tables_1, d.before a0 Z = true) : (Jvm.Cond.selects "com/example/carelane/carelane/registry/Episode" ({ cls := "com/example/carelane/carelane/registry/Episode", name := "isActive", desc := "()Z" } : Jvm.MethodName) ({ cls := "com/example/carelane/carelane/registry/Episode", name := "isActive", desc := "()Z" } : Jvm.MethodName)).before a0 Z = true := hw _ (List.mem_of_getElem? (i := 87) rfl)
theorem tw88 {Z : State} {a0 : Array Value} (hw : ∀ d ∈ tables_1, d.before a0 Z = true) : (Jvm.Cond.code ({ cls := "com/example/carelane/carelane/registry/Episode", name := "isActive", desc := "()Z" } : Jvm.MethodName) prog_22_method_2_code (1 : Nat) (Option.some Jvm.ClassFile.FieldType.boolean)).before a0 Z = true := hw _ (List.mem_of_getElem? (i := 88) rfl)
theorem tw89 {Z : State} {a0 : Array Value} (hw : ∀ d ∈ tables_1, d.before a0 Z = true) : (Jvm.Cond.stringLink "com/example/carelane/carelane/registry/Episode" (22 : Nat) "active").before a0 Z = true := hw _ (List.mem_of_getElem? (i := 89) rfl)
theorem tw90 {Z : State} {a0 : Array Value} (hw : ∀ d ∈ tables_1, d.before a0 Z = true) : (Jvm.Cond.methodLink "com/example/carelane/carelane/registry/Episode" (24 : Nat) ({ cls := "java/lang/String", name := "equals", desc := "(Ljava/lang/Object;)Z" } : Jvm.MethodName)).before a0 Z = true := hw _ (List.mem_of_getElem? (i := 90) rfl)
theorem tw91 {Z : State} {a0 : Array Value} (hw : ∀ d ∈ tables_1, d.before a0 Z = true) : (Jvm.Cond.declares ({ cls := "java/lang/String", name := "equals", desc := "(Ljava/lang/Object;)Z" } : Jvm.MethodName)).before a0 Z = true := hw _ (List.mem_of_getElem? (i := 91) rfl)
theorem tw92 {Z : State} {a0 : Array Value} (hw : ∀ d ∈ tables_1, d.before a0 Z = true) : (Jvm.Cond.instanceMethod ({ cls := "java/lang/String", name := "equals", desc := "(Ljava/lang/Object;)Z" } : Jvm.MethodName)).before a0 Z = true := hw _ (List.mem_of_getElem? (i := 92) rfl)
theorem tw93 {Z : State} {a0 : Array Value} (hw : ∀ d ∈ tables_1, d.before a0 Z = true) : (Jvm.Cond.selects "java/lang/String" ({ cls := "java/lang/String", name := "equals", desc := "(Ljava/lang/Object;)Z" } : Jvm.MethodName) ({ cls := "java/lang/String", name := "equals", desc := "(Ljava/lang/Object;)Z" } : Jvm.MethodName)).before a0 Z = true := hw _ (List.mem_of_getElem? (i := 93) rfl)
theorem tw94 {Z : State} {a0 : Array Value} (hw : ∀ d ∈ tables_1, d.before a0 Z = true) : (Jvm.Cond.code ({ cls := "java/lang/String", name := "equals", desc := "(Ljava/lang/Object;)Z" } : Jvm.MethodName) jdk_42_method_66_code (3 : Nat) (Option.some Jvm.ClassFile.FieldType.boolean)).before a0 Z = true := hw _ (List.mem_of_getElem? (i := 94) rfl)
theorem tw99 {Z : State} {a0 : Array Value} (hw : ∀ d ∈ tables_1, d.before a0 Z = true) : (Jvm.Cond.stringLink "com/example/carelane/carelane/registry/EpisodeIsActiveOrClosedPinLaw" (12 : Nat) "cancel").before a0 Z = true := hw _ (List.mem_of_getElem? (i := 99) rfl)
theorem tw100 {Z : State} {a0 : Array Value} (hw : ∀ d ∈ tables_1, d.before a0 Z = true) : (Jvm.Cond.stringLink "com/example/carelane/carelane/registry/Episode" (34 : Nat) "closed").before a0 Z = true := hw _ (List.mem_of_getElem? (i := 100) rfl)
theorem tw101 {Z : State} {a0 : Array Value} (hw : ∀ d ∈ tables_1, d.before a0 Z = true) : (Jvm.Cond.stringLink "com/example/carelane/carelane/registry/EpisodeIsActiveOrClosedPinLaw" (14 : Nat) "ACTIVE").before a0 Z = true := hw _ (List.mem_of_getElem? (i := 101) rfl)
theorem tw102 {Z : State} {a0 : Array Value} (hw : ∀ d ∈ tables_1, d.before a0 Z = true) : (Jvm.Cond.stringLink "com/example/carelane/carelane/registry/EpisodeIsActiveOrClosedPinLaw" (10 : Nat) "closed").before a0 Z = true := hw _ (List.mem_of_getElem? (i := 102) rfl)
theorem dc_jdk_30_method_1_0 : decode jdk_30_method_1_code 0 = .ok (.aload_n 0, 1) := by decide +kernel
theorem dc_jdk_30_method_1_1 : decode jdk_30_method_1_code 1 = .ok (.invokespecial 1, 3) := by decide +kernel
theorem dc_jdk_30_method_1_4 : decode jdk_30_method_1_code 4 = .ok (.return_, 1) := by decide +kernel
theorem dc_jdk_42_method_66_0 : decode jdk_42_method_66_code 0 = .ok (.aload_n 0, 1) := by decide +kernel
theorem dc_jdk_42_method_66_1 : decode jdk_42_method_66_code 1 = .ok (.aload_n 1, 1) := by decide +kernel
theorem dc_jdk_42_method_66_2 : decode jdk_42_method_66_code 2 = .ok (.if_acmp .ne 5, 3) := by decide +kernel
theorem dc_jdk_42_method_66_7 : decode jdk_42_method_66_code 7 = .ok (.aload_n 1, 1) := by decide +kernel
theorem dc_jdk_42_method_66_8 : decode jdk_42_method_66_code 8 = .ok (.instanceof 10, 3) := by decide +kernel
theorem dc_jdk_42_method_66_11 : decode jdk_42_method_66_code 11 = .ok (.ifCond .eq 43, 3) := by decide +kernel
theorem dc_jdk_42_method_66_54 : decode jdk_42_method_66_code 54 = .ok (.iconst 0, 1) := by decide +kernel
theorem dc_jdk_42_method_66_55 : decode jdk_42_method_66_code 55 = .ok (.ireturn, 1) := by decide +kernel
theorem dc_prog_22_method_1_0 : decode prog_22_method_1_code 0 = .ok (.aload_n 0, 1) := by decide +kernel
theorem dc_prog_22_method_1_1 : decode prog_22_method_1_code 1 = .ok (.invokespecial 1, 3) := by decide +kernel
theorem dc_prog_22_method_1_4 : decode prog_22_method_1_code 4 = .ok (.aload_n 0, 1) := by decide +kernel
theorem dc_prog_22_method_1_5 : decode prog_22_method_1_code 5 = .ok (.aload_n 1, 1) := by decide +kernel
theorem dc_prog_22_method_1_6 : decode prog_22_method_1_code 6 = .ok (.putfield 7, 3) := by decide +kernel
theorem dc_prog_22_method_1_9 : decode prog_22_method_1_code 9 = .ok (.aload_n 0, 1) := by decide +kernel
theorem dc_prog_22_method_1_10 : decode prog_22_method_1_code 10 = .ok (.aload_n 2, 1) := by decide +kernel
theorem dc_prog_22_method_1_11 : decode prog_22_method_1_code 11 = .ok (.putfield 13, 3) := by decide +kernel
theorem dc_prog_22_method_1_14 : decode prog_22_method_1_code 14 = .ok (.aload_n 0, 1) := by decide +kernel
theorem dc_prog_22_method_1_15 : decode prog_22_method_1_code 15 = .ok (.aload_n 3, 1) := by decide +kernel
theorem dc_prog_22_method_1_16 : decode prog_22_method_1_code 16 = .ok (.putfield 16, 3) := by decide +kernel
theorem dc_prog_22_method_1_19 : decode prog_22_method_1_code 19 = .ok (.aload_n 0, 1) := by decide +kernel
theorem dc_prog_22_method_1_20 : decode prog_22_method_1_code 20 = .ok (.aload 4, 2) := by decide +kernel
theorem dc_prog_22_method_1_22 : decode prog_22_method_1_code 22 = .ok (.putfield 19, 3) := by decide +kernel
theorem dc_prog_22_method_1_25 : decode prog_22_method_1_code 25 = .ok (.return_, 1) := by decide +kernel
theorem dc_prog_22_method_2_0 : decode prog_22_method_2_code 0 = .ok (.ldc 22, 2) := by decide +kernel
theorem dc_prog_22_method_2_2 : decode prog_22_method_2_code 2 = .ok (.aload_n 0, 1) := by decide +kernel
theorem dc_prog_22_method_2_3 : decode prog_22_method_2_code 3 = .ok (.getfield 16, 3) := by decide +kernel
theorem dc_prog_22_method_2_6 : decode prog_22_method_2_code 6 = .ok (.invokevirtual 24, 3) := by decide +kernel
theorem dc_prog_22_method_2_9 : decode prog_22_method_2_code 9 = .ok (.ireturn, 1) := by decide +kernel
theorem dc_prog_22_method_3_0 : decode prog_22_method_3_code 0 = .ok (.aload_n 0, 1) := by decide +kernel
theorem dc_prog_22_method_3_1 : decode prog_22_method_3_code 1 = .ok (.invokevirtual 30, 3) := by decide +kernel
theorem dc_prog_22_method_3_4 : decode prog_22_method_3_code 4 = .ok (.ifCond .ne 15, 3) := by decide +kernel
theorem dc_prog_22_method_3_7 : decode prog_22_method_3_code 7 = .ok (.ldc 34, 2) := by decide +kernel
theorem dc_prog_22_method_3_9 : decode prog_22_method_3_code 9 = .ok (.aload_n 0, 1) := by decide +kernel
theorem dc_prog_22_method_3_10 : decode prog_22_method_3_code 10 = .ok (.getfield 16, 3) := by decide +kernel
theorem dc_prog_22_method_3_13 : decode prog_22_method_3_code 13 = .ok (.invokevirtual 24, 3) := by decide +kernel
theorem dc_prog_22_method_3_16 : decode prog_22_method_3_code 16 = .ok (.ifCond .eq 7, 3) := by decide +kernel
theorem dc_prog_22_method_3_23 : decode prog_22_method_3_code 23 = .ok (.iconst 0, 1) := by decide +kernel
theorem dc_prog_22_method_3_24 : decode prog_22_method_3_code 24 = .ok (.ireturn, 1) := by decide +kernel
theorem dc_prog_22_method_3_19 : decode prog_22_method_3_code 19 = .ok (.iconst 1, 1) := by decide +kernel
theorem dc_prog_22_method_3_20 : decode prog_22_method_3_code 20 = .ok (.goto 4, 3) := by decide +kernel
theorem pd_0 : parseMethodDescriptor "()V" = some ⟨[], none⟩ := by decide +kernel
theorem pd_1 : parseMethodDescriptor "(Ljava/lang/Object;)Z" = some ⟨[(.object "java/lang/Object")], some .boolean⟩ := by decide +kernel
theorem pd_2 : parseMethodDescriptor "()Z" = some ⟨[], some .boolean⟩ := by decide +kernel
theorem pd_3 : parseMethodDescriptor "([C)V" = some ⟨[(.array .char)], none⟩ := by decide +kernel
theorem pd_4 : parseMethodDescriptor "(Ljava/lang/String;Ljava/lang/String;Ljava/lang/String;Ljava/lang/String;)V" = some ⟨[(.object "java/lang/String"), (.object "java/lang/String"), (.object "java/lang/String"), (.object "java/lang/String")], none⟩ := by decide +kernel
theorem pd_5 : parseMethodDescriptor "(I)C" = some ⟨[.int], some .char⟩ := by decide +kernel
theorem pn_0 : plainFor (⟨"java/lang/Record", "<init>", "()V"⟩ : MethodName) = true := plainFor_of_name (by first | (simp [plainName, overriddenIn]; done) | decide +kernel)
theorem pn_1 : plainFor (⟨"java/lang/String", "equals", "(Ljava/lang/Object;)Z"⟩ : MethodName) = true := plainFor_of_name (by first | (simp [plainName, overriddenIn]; done) | decide +kernel)
theorem pn_2 : plainFor (⟨"com/example/carelane/carelane/registry/Episode", "<init>", "(Ljava/lang/String;Ljava/lang/String;Ljava/lang/String;Ljava/lang/String;)V"⟩ : MethodName) = true := plainFor_of_name (by first | (simp [plainName, overriddenIn]; done) | decide +kernel)
theorem pn_3 : plainFor (⟨"com/example/carelane/carelane/registry/Episode", "isActive", "()Z"⟩ : MethodName) = true := plainFor_of_name (by first | (simp [plainName, overriddenIn]; done) | decide +kernel)
theorem pn_4 : plainFor (⟨"com/example/carelane/carelane/registry/Episode", "isActiveOrClosed", "()Z"⟩ : MethodName) = true := plainFor_of_name (by first | (simp [plainName, overriddenIn]; done) | decide +kernel)
theorem pn_5 : plainFor x = true := plainFor_of_name (by first | (simp [plainName, overriddenIn]; done) | decide +kernel)
theorem ef_0 (x0 : Addr) (m : MethodId) : entryFrame m #[(.ref x0)] 1 = mkF m 0 #[.val (.ref x0)] [] := by first | (simp [entryFrame, mkF, argsToLocals, Value.category]; done) | rfl
theorem ef_1 (x0 : Addr) (m : MethodId) : entryFrame m #[(.ref x0), .null] 3 = mkF m 0 #[.val (.ref x0), .val .null, .unset] [] := by first | (simp [entryFrame, mkF, argsToLocals, Value.category]; done) | rfl
theorem ef_2 (x0 : Addr) (x1 : Addr) (x2 : Addr) (x3 : Value) (q3 : x3.isRef = true) (x4 : Addr) (m : MethodId) : entryFrame m #[(.ref x0), (.ref x1), (.ref x2), x3, (.ref x4)] 5 = mkF m 0 #[.val (.ref x0), .val (.ref x1), .val (.ref x2), .val x3, .val (.ref x4)] [] := by
  rcases ref_cases q3 with rfl | ⟨_, rfl⟩ <;> first | (simp [entryFrame, mkF, argsToLocals, Value.category]; done) | rfl
theorem ef_3 (x0 : Int32) (x1 : Int32) (x2 : Int32) (x3 : Int32) (m : MethodId) : entryFrame m #[(.int x0), (.int x1), (.int x2), (.int x3)] maxLocals = mkF m 0 #[.val (.int x0), .val (.int x1), .val (.int x2), .val (.int x3), .unset, .unset, .unset, .unset, .unset, .unset, .unset, .unset, .unset, .unset, .unset] [] := by first | (simp [entryFrame, mkF, argsToLocals, Value.category, maxLocals]; done) | rfl
def EL : List (String × Nat) := consts_1
theorem ewEL {Z : State} {a0 : Array Value} (hw : ∀ d ∈ tables_1, d.before a0 Z = true) : EW Z a0 EL := (EW.cons (tw89 hw) (by decide) (EW.cons (tw100 hw) (by decide) (EW.cons (tw1 hw) (by decide) (EW.cons (tw102 hw) (by decide) (EW.cons (tw99 hw) (by decide) (EW.cons (tw101 hw) (by decide) (EW.cons (tw59 hw) (by decide) (EW.cons (tw60 hw) (by decide) (EW.cons (tw61 hw) (by decide) EW.nil)))))))))
theorem wSA {Z : State} {a0 : Array Value} (hw : ∀ d ∈ tables_1, d.before a0 Z = true) : ∀ a ∈ Bundle.stringAtoms, a.before a0 Z = true := fun d hd => hw d ((by decide +kernel : ∀ d ∈ Bundle.stringAtoms, d ∈ tables_1) d hd)
theorem wNew {Z : State} {a0 : Array Value} (hw : ∀ d ∈ tables_1, d.before a0 Z = true) : ∀ d ∈ StrChars.Road.words, d.before a0 Z = true := fun d hd => hw d ((by decide +kernel : ∀ d ∈ StrChars.Road.words, d ∈ tables_1) d hd)
theorem wChN {Z : State} {a0 : Array Value} (hw : ∀ d ∈ tables_1, d.before a0 Z = true) : ∀ d ∈ StrChars.Road.wordsChN, d.before a0 Z = true := fun d hd => hw d ((by decide +kernel : ∀ d ∈ StrChars.Road.wordsChN, d ∈ tables_1) d hd)
theorem wEq {Z : State} {a0 : Array Value} (hw : ∀ d ∈ tables_1, d.before a0 Z = true) : ∀ d ∈ StrChars.Road.wordsEq, d.before a0 Z = true := fun d hd => hw d ((by decide +kernel : ∀ d ∈ StrChars.Road.wordsEq, d ∈ tables_1) d hd)
theorem own_ex {t0 t1 t2 t3 t4 t5 ts rp cc tp : Int32} (hT : ((ts = 0 ∧ [t0, t1, t2, t3, t4, t5] = [(97 : Int32), (99 : Int32), (116 : Int32), (105 : Int32), (118 : Int32), (101 : Int32)]) ∨ (ts = 1 ∧ [t0, t1, t2, t3, t4, t5] = [(99 : Int32), (108 : Int32), (111 : Int32), (115 : Int32), (101 : Int32), (100 : Int32)]) ∨ (¬ ts = 0 ∧ ¬ ts = 1 ∧ ([t0, t1, t2, t3, t4, t5] = [(99 : Int32), (97 : Int32), (110 : Int32), (99 : Int32), (101 : Int32), (108 : Int32)] ∨ [t0, t1, t2, t3, t4, t5] = [(65 : Int32), (67 : Int32), (84 : Int32), (73 : Int32), (86 : Int32), (69 : Int32)])))) (hr : rp = 0) : ((([t0, t1, t2, t3, t4, t5] : List Int32) = [(97 : Int32), (99 : Int32), (116 : Int32), (105 : Int32), (118 : Int32), (101 : Int32)] ∨ [t0, t1, t2, t3, t4, t5] = [(99 : Int32), (108 : Int32), (111 : Int32), (115 : Int32), (101 : Int32), (100 : Int32)]) ↔ ((ts = 0 ∨ ts = 1) ∧ (rp = 0 ∨ cc = tp))) := by
  have d01 : ¬ (0 : Int32) = 1 := by decide
  rcases hT with ⟨h, e⟩ | ⟨h, e⟩ | ⟨h, h', e | e⟩ <;> simp only [List.cons.injEq, and_true] at e <;> obtain ⟨rfl, rfl, rfl, rfl, rfl, rfl⟩ := e <;> first | subst h | skip
  all_goals simp [*]
theorem own_ex0 {t0 t1 t2 t3 t4 t5 ts rp cc tp : Int32} (hT : ((ts = 0 ∧ [t0, t1, t2, t3, t4, t5] = [(97 : Int32), (99 : Int32), (116 : Int32), (105 : Int32), (118 : Int32), (101 : Int32)]) ∨ (ts = 1 ∧ [t0, t1, t2, t3, t4, t5] = [(99 : Int32), (108 : Int32), (111 : Int32), (115 : Int32), (101 : Int32), (100 : Int32)]) ∨ (¬ ts = 0 ∧ ¬ ts = 1 ∧ ([t0, t1, t2, t3, t4, t5] = [(99 : Int32), (97 : Int32), (110 : Int32), (99 : Int32), (101 : Int32), (108 : Int32)] ∨ [t0, t1, t2, t3, t4, t5] = [(65 : Int32), (67 : Int32), (84 : Int32), (73 : Int32), (86 : Int32), (69 : Int32)])))) (hr : ¬ rp = 0) (ht : t0 = tp) : ((([cc, t1, t2, t3, t4, t5] : List Int32) = [(97 : Int32), (99 : Int32), (116 : Int32), (105 : Int32), (118 : Int32), (101 : Int32)] ∨ [cc, t1, t2, t3, t4, t5] = [(99 : Int32), (108 : Int32), (111 : Int32), (115 : Int32), (101 : Int32), (100 : Int32)]) ↔ ((ts = 0 ∨ ts = 1) ∧ (rp = 0 ∨ cc = tp))) := by
  subst ht
  have d01 : ¬ (0 : Int32) = 1 := by decide
  rcases hT with ⟨h, e⟩ | ⟨h, e⟩ | ⟨h, h', e | e⟩ <;> simp only [List.cons.injEq, and_true] at e <;> obtain ⟨rfl, rfl, rfl, rfl, rfl, rfl⟩ := e <;> first | subst h | skip
  all_goals simp [*]
theorem own_ex1 {t0 t1 t2 t3 t4 t5 ts rp cc tp : Int32} (hT : ((ts = 0 ∧ [t0, t1, t2, t3, t4, t5] = [(97 : Int32), (99 : Int32), (116 : Int32), (105 : Int32), (118 : Int32), (101 : Int32)]) ∨ (ts = 1 ∧ [t0, t1, t2, t3, t4, t5] = [(99 : Int32), (108 : Int32), (111 : Int32), (115 : Int32), (101 : Int32), (100 : Int32)]) ∨ (¬ ts = 0 ∧ ¬ ts = 1 ∧ ([t0, t1, t2, t3, t4, t5] = [(99 : Int32), (97 : Int32), (110 : Int32), (99 : Int32), (101 : Int32), (108 : Int32)] ∨ [t0, t1, t2, t3, t4, t5] = [(65 : Int32), (67 : Int32), (84 : Int32), (73 : Int32), (86 : Int32), (69 : Int32)])))) (hr : ¬ rp = 0) (ht : t1 = tp) : ((([t0, cc, t2, t3, t4, t5] : List Int32) = [(97 : Int32), (99 : Int32), (116 : Int32), (105 : Int32), (118 : Int32), (101 : Int32)] ∨ [t0, cc, t2, t3, t4, t5] = [(99 : Int32), (108 : Int32), (111 : Int32), (115 : Int32), (101 : Int32), (100 : Int32)]) ↔ ((ts = 0 ∨ ts = 1) ∧ (rp = 0 ∨ cc = tp))) := by
  subst ht
  have d01 : ¬ (0 : Int32) = 1 := by decide
  rcases hT with ⟨h, e⟩ | ⟨h, e⟩ | ⟨h, h', e | e⟩ <;> simp only [List.cons.injEq, and_true] at e <;> obtain ⟨rfl, rfl, rfl, rfl, rfl, rfl⟩ := e <;> first | subst h | skip
  all_goals simp [*]
theorem own_ex2 {t0 t1 t2 t3 t4 t5 ts rp cc tp : Int32} (hT : ((ts = 0 ∧ [t0, t1, t2, t3, t4, t5] = [(97 : Int32), (99 : Int32), (116 : Int32), (105 : Int32), (118 : Int32), (101 : Int32)]) ∨ (ts = 1 ∧ [t0, t1, t2, t3, t4, t5] = [(99 : Int32), (108 : Int32), (111 : Int32), (115 : Int32), (101 : Int32), (100 : Int32)]) ∨ (¬ ts = 0 ∧ ¬ ts = 1 ∧ ([t0, t1, t2, t3, t4, t5] = [(99 : Int32), (97 : Int32), (110 : Int32), (99 : Int32), (101 : Int32), (108 : Int32)] ∨ [t0, t1, t2, t3, t4, t5] = [(65 : Int32), (67 : Int32), (84 : Int32), (73 : Int32), (86 : Int32), (69 : Int32)])))) (hr : ¬ rp = 0) (ht : t2 = tp) : ((([t0, t1, cc, t3, t4, t5] : List Int32) = [(97 : Int32), (99 : Int32), (116 : Int32), (105 : Int32), (118 : Int32), (101 : Int32)] ∨ [t0, t1, cc, t3, t4, t5] = [(99 : Int32), (108 : Int32), (111 : Int32), (115 : Int32), (101 : Int32), (100 : Int32)]) ↔ ((ts = 0 ∨ ts = 1) ∧ (rp = 0 ∨ cc = tp))) := by
  subst ht
  have d01 : ¬ (0 : Int32) = 1 := by decide
  rcases hT with ⟨h, e⟩ | ⟨h, e⟩ | ⟨h, h', e | e⟩ <;> simp only [List.cons.injEq, and_true] at e <;> obtain ⟨rfl, rfl, rfl, rfl, rfl, rfl⟩ := e <;> first | subst h | skip
  all_goals simp [*]
theorem own_ex3 {t0 t1 t2 t3 t4 t5 ts rp cc tp : Int32} (hT : ((ts = 0 ∧ [t0, t1, t2, t3, t4, t5] = [(97 : Int32), (99 : Int32), (116 : Int32), (105 : Int32), (118 : Int32), (101 : Int32)]) ∨ (ts = 1 ∧ [t0, t1, t2, t3, t4, t5] = [(99 : Int32), (108 : Int32), (111 : Int32), (115 : Int32), (101 : Int32), (100 : Int32)]) ∨ (¬ ts = 0 ∧ ¬ ts = 1 ∧ ([t0, t1, t2, t3, t4, t5] = [(99 : Int32), (97 : Int32), (110 : Int32), (99 : Int32), (101 : Int32), (108 : Int32)] ∨ [t0, t1, t2, t3, t4, t5] = [(65 : Int32), (67 : Int32), (84 : Int32), (73 : Int32), (86 : Int32), (69 : Int32)])))) (hr : ¬ rp = 0) (ht : t3 = tp) : ((([t0, t1, t2, cc, t4, t5] : List Int32) = [(97 : Int32), (99 : Int32), (116 : Int32), (105 : Int32), (118 : Int32), (101 : Int32)] ∨ [t0, t1, t2, cc, t4, t5] = [(99 : Int32), (108 : Int32), (111 : Int32), (115 : Int32), (101 : Int32), (100 : Int32)]) ↔ ((ts = 0 ∨ ts = 1) ∧ (rp = 0 ∨ cc = tp))) := by
  subst ht
  have d01 : ¬ (0 : Int32) = 1 := by decide
  rcases hT with ⟨h, e⟩ | ⟨h, e⟩ | ⟨h, h', e | e⟩ <;> simp only [List.cons.injEq, and_true] at e <;> obtain ⟨rfl, rfl, rfl, rfl, rfl, rfl⟩ := e <;> first | subst h | skip
  all_goals simp [*]
theorem own_ex4 {t0 t1 t2 t3 t4 t5 ts rp cc tp : Int32} (hT : ((ts = 0 ∧ [t0, t1, t2, t3, t4, t5] = [(97 : Int32), (99 : Int32), (116 : Int32), (105 : Int32), (118 : Int32), (101 : Int32)]) ∨ (ts = 1 ∧ [t0, t1, t2, t3, t4, t5] = [(99 : Int32), (108 : Int32), (111 : Int32), (115 : Int32), (101 : Int32), (100 : Int32)]) ∨ (¬ ts = 0 ∧ ¬ ts = 1 ∧ ([t0, t1, t2, t3, t4, t5] = [(99 : Int32), (97 : Int32), (110 : Int32), (99 : Int32), (101 : Int32), (108 : Int32)] ∨ [t0, t1, t2, t3, t4, t5] = [(65 : Int32), (67 : Int32), (84 : Int32), (73 : Int32), (86 : Int32), (69 : Int32)])))) (hr : ¬ rp = 0) (ht : t4 = tp) : ((([t0, t1, t2, t3, cc, t5] : List Int32) = [(97 : Int32), (99 : Int32), (116 : Int32), (105 : Int32), (118 : Int32), (101 : Int32)] ∨ [t0, t1, t2, t3, cc, t5] = [(99 : Int32), (108 : Int32), (111 : Int32), (115 : Int32), (101 : Int32), (100 : Int32)]) ↔ ((ts = 0 ∨ ts = 1) ∧ (rp = 0 ∨ cc = tp))) := by
  subst ht
  have d01 : ¬ (0 : Int32) = 1 := by decide
  rcases hT with ⟨h, e⟩ | ⟨h, e⟩ | ⟨h, h', e | e⟩ <;> simp only [List.cons.injEq, and_true] at e <;> obtain ⟨rfl, rfl, rfl, rfl, rfl, rfl⟩ := e <;> first | subst h | skip
  all_goals simp [*]
theorem own_ex5 {t0 t1 t2 t3 t4 t5 ts rp cc tp : Int32} (hT : ((ts = 0 ∧ [t0, t1, t2, t3, t4, t5] = [(97 : Int32), (99 : Int32), (116 : Int32), (105 : Int32), (118 : Int32), (101 : Int32)]) ∨ (ts = 1 ∧ [t0, t1, t2, t3, t4, t5] = [(99 : Int32), (108 : Int32), (111 : Int32), (115 : Int32), (101 : Int32), (100 : Int32)]) ∨ (¬ ts = 0 ∧ ¬ ts = 1 ∧ ([t0, t1, t2, t3, t4, t5] = [(99 : Int32), (97 : Int32), (110 : Int32), (99 : Int32), (101 : Int32), (108 : Int32)] ∨ [t0, t1, t2, t3, t4, t5] = [(65 : Int32), (67 : Int32), (84 : Int32), (73 : Int32), (86 : Int32), (69 : Int32)])))) (hr : ¬ rp = 0) (ht : t5 = tp) : ((([t0, t1, t2, t3, t4, cc] : List Int32) = [(97 : Int32), (99 : Int32), (116 : Int32), (105 : Int32), (118 : Int32), (101 : Int32)] ∨ [t0, t1, t2, t3, t4, cc] = [(99 : Int32), (108 : Int32), (111 : Int32), (115 : Int32), (101 : Int32), (100 : Int32)]) ↔ ((ts = 0 ∨ ts = 1) ∧ (rp = 0 ∨ cc = tp))) := by
  subst ht
  have d01 : ¬ (0 : Int32) = 1 := by decide
  rcases hT with ⟨h, e⟩ | ⟨h, e⟩ | ⟨h, h', e | e⟩ <;> simp only [List.cons.injEq, and_true] at e <;> obtain ⟨rfl, rfl, rfl, rfl, rfl, rfl⟩ := e <;> first | subst h | skip
  all_goals simp [*]
theorem own_p6 (q : Int32) : (q &&& (2147483647 : Int32)) % (6 : Int32) = 0 ∨ (q &&& (2147483647 : Int32)) % (6 : Int32) = 1 ∨ (q &&& (2147483647 : Int32)) % (6 : Int32) = 2 ∨ (q &&& (2147483647 : Int32)) % (6 : Int32) = 3 ∨ (q &&& (2147483647 : Int32)) % (6 : Int32) = 4 ∨ (q &&& (2147483647 : Int32)) % (6 : Int32) = 5 := by
  have h1 := (c_and q 2147483647 (by decide)).1
  have h2 := (c_irem (q &&& 2147483647) 6 6 (by decide)).1 h1
  have a0 : (0 : Int32).toInt = 0 := by decide
  have a1 : (1 : Int32).toInt = 1 := by decide
  have a2 : (2 : Int32).toInt = 2 := by decide
  have a3 : (3 : Int32).toInt = 3 := by decide
  have a4 : (4 : Int32).toInt = 4 := by decide
  have a5 : (5 : Int32).toInt = 5 := by decide
  simp only [← Int32.toInt_inj, h2, a0, a1, a2, a3, a4, a5]
  omega
set_option maxRecDepth 65536 in
set_option maxHeartbeats 40000000 in
theorem rm_record {l : Launch} {Z : State} {a0 : Array Value} (hw : ∀ d ∈ tables_1, d.before a0 Z = true) (a : Addr) (h0 : Heap) (hE : Ext Z.heap h0)  :
    Own.Ctr false l Z a0 EL (⟨"java/lang/Record", "<init>", "()V"⟩ : MethodName) jdk_30_method_1_code 1 (Option.none : Option Jvm.ClassFile.FieldType) ({ frames := 1, cells := 0, slots := 0, locals := 12 } : Room) #[(.ref a)] h0 [] (fun v h => v = none) := by
  refine Own.Ctr.of pn_0 (ef_0 a) hE (ewEL hw) ?_
  intro p e s m below meth c T0 X0 hsafe
  refine Own.s_aloadN X0 dc_jdk_30_method_1_0 rfl rfl rfl ?_
  refine Own.s_initO X0 dc_jdk_30_method_1_1 (tw70 hw) (tw44 hw) (tw45 hw) 0 (Nat.le_of_eq rfl) (by decide) (by decide) rfl rfl ?_
  intro T1 X1
  exact Own.r_void X1 rfl dc_jdk_30_method_1_4 (by decide) (by decide) (rfl)
set_option maxRecDepth 65536 in
set_option maxHeartbeats 40000000 in
theorem rm_eqNull {l : Launch} {Z : State} {a0 : Array Value} (hw : ∀ d ∈ tables_1, d.before a0 Z = true) (a : Addr) (h0 : Heap) (hE : Ext Z.heap h0)  :
    Own.Ctr false l Z a0 EL (⟨"java/lang/String", "equals", "(Ljava/lang/Object;)Z"⟩ : MethodName) jdk_42_method_66_code 3 (Option.some Jvm.ClassFile.FieldType.boolean) ({ frames := 0, cells := 0, slots := 0, locals := 0 } : Room) #[(.ref a), .null] h0 [] (fun v h => v = some (.int (0 : Int32))) := by
  refine Own.Ctr.of pn_1 (ef_1 a) hE (ewEL hw) ?_
  intro p e s m below meth c T0 X0 hsafe
  refine Own.s_aloadN X0 dc_jdk_42_method_66_0 rfl rfl rfl ?_
  refine Own.s_aloadN X0 dc_jdk_42_method_66_1 rfl rfl rfl ?_
  refine Own.s_acmpT X0 dc_jdk_42_method_66_2 rfl rfl (XT.aa_ne_t nofun) (by decide) (pc' := 7) (by decide) ?_
  refine Own.s_aloadN X0 dc_jdk_42_method_66_7 rfl rfl rfl ?_
  refine Own.s_instNull X0 dc_jdk_42_method_66_8 rfl ?_
  refine Own.s_ifT X0 dc_jdk_42_method_66_11 ((if0 _ _).trans (teq (show (0 : Int32) = (0 : Int32) by decide)).1) (by decide) (pc' := 54) (by decide) ?_
  refine Own.s_iconst X0 dc_jdk_42_method_66_54 (0 : Int32) (by decide) rfl ?_
  exact Own.r_nar X0 rfl (Or.inl rfl) dc_jdk_42_method_66_55 (by decide) (by decide) (by decide)
set_option maxRecDepth 65536 in
set_option maxHeartbeats 40000000 in
theorem rm_ep {l : Launch} {Z : State} {a0 : Array Value} (hw : ∀ d ∈ tables_1, d.before a0 Z = true) (a : Addr) (i1 : Addr) (i2 : Addr) (sv : Value) (qs : sv.isRef = true) (i3 : Addr)  (h0 : Heap) (hE : Ext Z.heap h0) (ga : Z.heap.size ≤ a) (E : Exa Z h0 a "com/example/carelane/carelane/registry/Episode") (F_id : Fld Z h0 a "com/example/carelane/carelane/registry/Episode" "id" "Ljava/lang/String;" .null) (F_personId : Fld Z h0 a "com/example/carelane/carelane/registry/Episode" "personId" "Ljava/lang/String;" .null) (F_status : Fld Z h0 a "com/example/carelane/carelane/registry/Episode" "status" "Ljava/lang/String;" .null) (F_managingOrganizationId : Fld Z h0 a "com/example/carelane/carelane/registry/Episode" "managingOrganizationId" "Ljava/lang/String;" .null)  :
    Own.Ctr false l Z a0 EL (⟨"com/example/carelane/carelane/registry/Episode", "<init>", "(Ljava/lang/String;Ljava/lang/String;Ljava/lang/String;Ljava/lang/String;)V"⟩ : MethodName) prog_22_method_1_code 5 (Option.none : Option Jvm.ClassFile.FieldType) ({ frames := 2, cells := 0, slots := 0, locals := 24 } : Room) #[(.ref a), (.ref i1), (.ref i2), sv, (.ref i3)] h0 [a] (fun v h => v = none ∧ Exa Z h a "com/example/carelane/carelane/registry/Episode" ∧ Fld Z h a "com/example/carelane/carelane/registry/Episode" "id" "Ljava/lang/String;" (.ref i1) ∧ Fld Z h a "com/example/carelane/carelane/registry/Episode" "personId" "Ljava/lang/String;" (.ref i2) ∧ Fld Z h a "com/example/carelane/carelane/registry/Episode" "status" "Ljava/lang/String;" sv ∧ Fld Z h a "com/example/carelane/carelane/registry/Episode" "managingOrganizationId" "Ljava/lang/String;" (.ref i3)) := by
  refine Own.Ctr.of pn_2 (ef_2 a i1 i2 sv qs i3) hE (ewEL hw) ?_
  intro p e s m below meth c T0 X0 hsafe
  have O0 : Own.Ok false Z EL h0 [a] s.vm h0 a := ⟨E.lt, ga, Or.inl (List.mem_singleton.mpr rfl), fun q => hsafe q _ (List.mem_singleton.mpr rfl)⟩
  refine Own.s_aloadN X0 dc_prog_22_method_1_0 rfl rfl rfl ?_
  refine Own.c_special X0 dc_prog_22_method_1_1 rfl (tw65 hw) (tw66 hw) (tw68 hw) (tw69 hw) (by decide) a [] [] 0 (rm_record hw a h0 X0.hE) (fun q => nomatch q) Own.Ok.nil (lenOf pd_0 rfl) rfl (Nat.le_of_eq rfl) (by decide) (by decide) (by decide) (by decide) rfl rfl ?_
  intro v1 vm1 T1 h1 L1 X1 V1 Q1
  obtain rfl := Q1
  refine Own.s_aloadN X1 dc_prog_22_method_1_4 rfl rfl rfl ?_
  refine Own.s_aloadN X1 dc_prog_22_method_1_5 rfl rfl rfl ?_
  have ex3 : Ext h0 h1 := Own.extK (Own.Ext.rfl' h0) V1.1 all0
  have F_4 := Fld.ext ex3 F_id
  have E_5 := Exa.ext ex3 E
  have O6 := (O0.ev V1)
  refine Own.s_putfield X1 dc_prog_22_method_1_6 (tw71 hw) F_4 E_5 (Or.inr ⟨(tw72 hw), rfl, rfl⟩) (tw57 hw) (ty := (.object "java/lang/String")) (by decide) rfl rfl O6 rfl ?_
  intro T2 h2 X2 V2 W2
  have F2 := Fld.same W2 F_4
  refine Own.s_aloadN X2 dc_prog_22_method_1_9 rfl rfl rfl ?_
  refine Own.s_aloadN X2 dc_prog_22_method_1_10 rfl rfl rfl ?_
  have F_8 := (Fld.other W2 (Fld.ext (Own.extN V1.1) F_personId) (Or.inr (slot_ne (Or.inr (tw74 hw)) (Or.inr (tw72 hw)) (by decide) (t := (.object "java/lang/String")) (t' := (.object "java/lang/String")) (by decide) (by decide))))
  have E_9 := (Exa.keep E_5 V2.1)
  have O10 := (O6.ev V2)
  refine Own.s_putfield X2 dc_prog_22_method_1_11 (tw73 hw) F_8 E_9 (Or.inr ⟨(tw74 hw), rfl, rfl⟩) (tw57 hw) (ty := (.object "java/lang/String")) (by decide) rfl rfl O10 rfl ?_
  intro T7 h7 X7 V7 W7
  have F7 := Fld.same W7 F_8
  refine Own.s_aloadN X7 dc_prog_22_method_1_14 rfl rfl rfl ?_
  refine Own.s_aloadN X7 dc_prog_22_method_1_15 rfl qs rfl ?_
  have F_12 := (Fld.other W7 (Fld.other W2 (Fld.ext (Own.extN V1.1) F_status) (Or.inr (slot_ne (Or.inr (tw76 hw)) (Or.inr (tw72 hw)) (by decide) (t := (.object "java/lang/String")) (t' := (.object "java/lang/String")) (by decide) (by decide)))) (Or.inr (slot_ne (Or.inr (tw76 hw)) (Or.inr (tw74 hw)) (by decide) (t := (.object "java/lang/String")) (t' := (.object "java/lang/String")) (by decide) (by decide))))
  have E_13 := (Exa.keep E_9 V7.1)
  have O14 := (O10.ev V7)
  refine Own.s_putfield X7 dc_prog_22_method_1_16 (tw75 hw) F_12 E_13 (Or.inr ⟨(tw76 hw), rfl, rfl⟩) (tw57 hw) (ty := (.object "java/lang/String")) (by decide) (Own.narR rfl _) (Own.fitR rfl qs) O14 rfl ?_
  intro T11 h11 X11 V11 W11
  have F11 := Fld.same W11 F_12
  refine Own.s_aloadN X11 dc_prog_22_method_1_19 rfl rfl rfl ?_
  refine Own.s_aload X11 dc_prog_22_method_1_20 rfl rfl rfl ?_
  have F_16 := (Fld.other W11 (Fld.other W7 (Fld.other W2 (Fld.ext (Own.extN V1.1) F_managingOrganizationId) (Or.inr (slot_ne (Or.inr (tw78 hw)) (Or.inr (tw72 hw)) (by decide) (t := (.object "java/lang/String")) (t' := (.object "java/lang/String")) (by decide) (by decide)))) (Or.inr (slot_ne (Or.inr (tw78 hw)) (Or.inr (tw74 hw)) (by decide) (t := (.object "java/lang/String")) (t' := (.object "java/lang/String")) (by decide) (by decide)))) (Or.inr (slot_ne (Or.inr (tw78 hw)) (Or.inr (tw76 hw)) (by decide) (t := (.object "java/lang/String")) (t' := (.object "java/lang/String")) (by decide) (by decide))))
  have E_17 := (Exa.keep E_13 V11.1)
  have O18 := (O14.ev V11)
  refine Own.s_putfield X11 dc_prog_22_method_1_22 (tw77 hw) F_16 E_17 (Or.inr ⟨(tw78 hw), rfl, rfl⟩) (tw57 hw) (ty := (.object "java/lang/String")) (by decide) rfl rfl O18 rfl ?_
  intro T15 h15 X15 V15 W15
  have F15 := Fld.same W15 F_16
  have E_19 := (Exa.keep E_17 V15.1)
  have F_20 := (Fld.other W15 (Fld.other W11 (Fld.other W7 F2 (Or.inr (slot_ne (Or.inr (tw72 hw)) (Or.inr (tw74 hw)) (by decide) (t := (.object "java/lang/String")) (t' := (.object "java/lang/String")) (by decide) (by decide)))) (Or.inr (slot_ne (Or.inr (tw72 hw)) (Or.inr (tw76 hw)) (by decide) (t := (.object "java/lang/String")) (t' := (.object "java/lang/String")) (by decide) (by decide)))) (Or.inr (slot_ne (Or.inr (tw72 hw)) (Or.inr (tw78 hw)) (by decide) (t := (.object "java/lang/String")) (t' := (.object "java/lang/String")) (by decide) (by decide))))
  have F_21 := (Fld.other W15 (Fld.other W11 F7 (Or.inr (slot_ne (Or.inr (tw74 hw)) (Or.inr (tw76 hw)) (by decide) (t := (.object "java/lang/String")) (t' := (.object "java/lang/String")) (by decide) (by decide)))) (Or.inr (slot_ne (Or.inr (tw74 hw)) (Or.inr (tw78 hw)) (by decide) (t := (.object "java/lang/String")) (t' := (.object "java/lang/String")) (by decide) (by decide))))
  have F_22 := (Fld.other W15 F11 (Or.inr (slot_ne (Or.inr (tw76 hw)) (Or.inr (tw78 hw)) (by decide) (t := (.object "java/lang/String")) (t' := (.object "java/lang/String")) (by decide) (by decide))))
  exact Own.r_void X15 rfl dc_prog_22_method_1_25 (by decide) (by decide) (⟨rfl, E_19, F_20, F_21, F_22, F15⟩)
set_option maxRecDepth 65536 in
set_option maxHeartbeats 40000000 in
theorem rm_acN {l : Launch} {Z : State} {a0 : Array Value} (hw : ∀ d ∈ tables_1, d.before a0 Z = true) (a : Addr) {zc : Int32} (SC : Sta Z Z.heap "java/lang/String" "COMPACT_STRINGS" "Z" (.int zc)) (hzc : ¬ zc = 0) {fm : Value} (SF : Sta Z Z.heap "jdk/internal/util/Preconditions" "SIOOBE_FORMATTER" "Ljava/util/function/BiFunction;" fm) (hfm : fm.isRef = true) (h0 : Heap) (hE : Ext Z.heap h0) (E : Exa Z h0 a "com/example/carelane/carelane/registry/Episode") (Fs : Fld Z h0 a "com/example/carelane/carelane/registry/Episode" "status" "Ljava/lang/String;" .null) :
    Own.Ctr true l Z a0 EL (⟨"com/example/carelane/carelane/registry/Episode", "isActive", "()Z"⟩ : MethodName) prog_22_method_2_code 1 (Option.some Jvm.ClassFile.FieldType.boolean) ({ frames := 1, cells := 2, slots := 28, locals := 14 } : Room) #[(.ref a)] h0 [] (fun v h => v = some (.int (0 : Int32))) := by
  refine Own.Ctr.of pn_3 (ef_0 a) hE (ewEL hw) ?_
  intro p e s m below meth c T0 X0 hsafe
  have SC0 := Sta.ext hE SC
  have SF0 := Sta.ext hE SF
  refine Own.s_ldcStr rfl X0 dc_prog_22_method_2_0 (tw89 hw) (wSA hw) (by decide) (vs := [(.int (97 : Int32)), (.int (99 : Int32)), (.int (116 : Int32)), (.int (105 : Int32)), (.int (118 : Int32)), (.int (101 : Int32))]) (z := (6 : Int32)) ⟨by decide, by decide⟩ (by decide) (by decide) 24 (by decide) (by decide) (by decide) (by decide) rfl ?_
  intro a1 b1 k1 vm1 T1 h1 X1 V1 E1 C1 U1 A1
  have S1 : Own.Str Z h1 a1 [(97 : Int32), (99 : Int32), (116 : Int32), (105 : Int32), (118 : Int32), (101 : Int32)] := Own.Str.mk (by decide) (by decide) E1 C1 U1 A1
  refine Own.s_aloadN X1 dc_prog_22_method_2_2 rfl rfl rfl ?_
  have ex2 : Ext h0 h1 := Own.extK (Own.Ext.rfl' h0) V1.1 all0
  have F_3 := Fld.ext ex2 Fs
  refine Own.s_getfield X1 dc_prog_22_method_2_3 (tw75 hw) F_3 rfl ?_
  intro T4 X4
  refine Own.c_virtual X4 dc_prog_22_method_2_6 (tw90 hw) (tw91 hw) (notFace_of_selects (args := #[]) (mvT X4.hZ (tw93 hw))) (tw93 hw) (tw92 hw) (tw2 hw) (tw94 hw) (by decide) a1 [.null] [] 0 E1 (rm_eqNull hw a1 h1 X4.hE) (fun q => nomatch q) Own.Ok.nil (lenOf pd_1 rfl) rfl (Nat.le_of_eq rfl) (by decide) (by decide) (by decide) (by decide) rfl rfl ?_
  intro v5 vm5 T5 h5 L5 X5 V5 Q5
  obtain rfl := Q5
  exact Own.r_nar X5 rfl (Or.inl rfl) dc_prog_22_method_2_9 (by decide) (by decide) (by decide)
theorem own_ite {cs ds : List Int32} {v : Option Value} (h : v = some (.int (nar .boolean (if ds = cs then 1 else 0)))) : (v = some (.int (1 : Int32)) ∧ cs = ds) ∨ (v = some (.int (0 : Int32)) ∧ ¬ cs = ds) := by
  by_cases e : ds = cs
  · rw [if_pos e] at h; exact Or.inl ⟨h, e.symm⟩
  · rw [if_neg e] at h; exact Or.inr ⟨h, fun r => e r.symm⟩
set_option maxRecDepth 65536 in
set_option maxHeartbeats 40000000 in
theorem rm_acS {l : Launch} {Z : State} {a0 : Array Value} (hw : ∀ d ∈ tables_1, d.before a0 Z = true) (a q : Addr) (cs : List Int32) {zc : Int32} (SC : Sta Z Z.heap "java/lang/String" "COMPACT_STRINGS" "Z" (.int zc)) (hzc : ¬ zc = 0) {fm : Value} (SF : Sta Z Z.heap "jdk/internal/util/Preconditions" "SIOOBE_FORMATTER" "Ljava/util/function/BiFunction;" fm) (hfm : fm.isRef = true) (h0 : Heap) (hE : Ext Z.heap h0) (E : Exa Z h0 a "com/example/carelane/carelane/registry/Episode") (Fs : Fld Z h0 a "com/example/carelane/carelane/registry/Episode" "status" "Ljava/lang/String;" (.ref q)) (S : Own.Str Z h0 q cs) :
    Own.Ctr true l Z a0 EL (⟨"com/example/carelane/carelane/registry/Episode", "isActive", "()Z"⟩ : MethodName) prog_22_method_2_code 1 (Option.some Jvm.ClassFile.FieldType.boolean) ({ frames := 2, cells := 2, slots := 28, locals := 28 } : Room) #[(.ref a)] h0 [] (fun v h => (v = some (.int (1 : Int32)) ∧ cs = [(97 : Int32), (99 : Int32), (116 : Int32), (105 : Int32), (118 : Int32), (101 : Int32)]) ∨ (v = some (.int (0 : Int32)) ∧ ¬ cs = [(97 : Int32), (99 : Int32), (116 : Int32), (105 : Int32), (118 : Int32), (101 : Int32)])) := by
  refine Own.Ctr.of pn_3 (ef_0 a) hE (ewEL hw) ?_
  intro p e s m below meth c T0 X0 hsafe
  have SC0 := Sta.ext hE SC
  have SF0 := Sta.ext hE SF
  refine Own.s_ldcStr rfl X0 dc_prog_22_method_2_0 (tw89 hw) (wSA hw) (by decide) (vs := [(.int (97 : Int32)), (.int (99 : Int32)), (.int (116 : Int32)), (.int (105 : Int32)), (.int (118 : Int32)), (.int (101 : Int32))]) (z := (6 : Int32)) ⟨by decide, by decide⟩ (by decide) (by decide) 24 (by decide) (by decide) (by decide) (by decide) rfl ?_
  intro a1 b1 k1 vm1 T1 h1 X1 V1 E1 C1 U1 A1
  have S1 : Own.Str Z h1 a1 [(97 : Int32), (99 : Int32), (116 : Int32), (105 : Int32), (118 : Int32), (101 : Int32)] := Own.Str.mk (by decide) (by decide) E1 C1 U1 A1
  refine Own.s_aloadN X1 dc_prog_22_method_2_2 rfl rfl rfl ?_
  have ex2 : Ext h0 h1 := Own.extK (Own.Ext.rfl' h0) V1.1 all0
  have F_3 := Fld.ext ex2 Fs
  refine Own.s_getfield X1 dc_prog_22_method_2_3 (tw75 hw) F_3 rfl ?_
  intro T4 X4
  have S_5 := Own.Str.ext S ex2
  have Z_6 := Sta.ext ex2 SC0
  refine Own.b_virtual X4 dc_prog_22_method_2_6 (tw90 hw) (tw91 hw) (notFace_of_selects (args := #[]) (mvT X4.hZ (tw93 hw))) (tw93 hw) (tw92 hw) (by decide) a1 [(.ref q)] [] E1 (Own.strEq (W := 0) X4.hZ (wEq hw) (tw3 hw) S1 S_5 Z_6 hzc (by decide) (by decide)) (fun v h' L q => Own.strEqQ q) Own.Ok.nil (lenOf pd_1 rfl) rfl (Nat.le_of_eq rfl) (by decide) (by decide) rfl rfl ?_
  intro v7 vm7 T7 h7 L7 X7 V7 Q7
  obtain rfl := Q7
  exact Own.r_nar X7 rfl (Or.inl rfl) dc_prog_22_method_2_9 (by decide) (by decide) (own_ite rfl)
set_option maxRecDepth 65536 in
set_option maxHeartbeats 40000000 in
theorem rm_aocN {l : Launch} {Z : State} {a0 : Array Value} (hw : ∀ d ∈ tables_1, d.before a0 Z = true) (a : Addr) {zc : Int32} (SC : Sta Z Z.heap "java/lang/String" "COMPACT_STRINGS" "Z" (.int zc)) (hzc : ¬ zc = 0) {fm : Value} (SF : Sta Z Z.heap "jdk/internal/util/Preconditions" "SIOOBE_FORMATTER" "Ljava/util/function/BiFunction;" fm) (hfm : fm.isRef = true) (h0 : Heap) (hE : Ext Z.heap h0) (E : Exa Z h0 a "com/example/carelane/carelane/registry/Episode") (Fs : Fld Z h0 a "com/example/carelane/carelane/registry/Episode" "status" "Ljava/lang/String;" .null) :
    Own.Ctr true l Z a0 EL (⟨"com/example/carelane/carelane/registry/Episode", "isActiveOrClosed", "()Z"⟩ : MethodName) prog_22_method_3_code 1 (Option.some Jvm.ClassFile.FieldType.boolean) ({ frames := 2, cells := 4, slots := 56, locals := 26 } : Room) #[(.ref a)] h0 [] (fun v h => v = some (.int (0 : Int32))) := by
  refine Own.Ctr.of pn_4 (ef_0 a) hE (ewEL hw) ?_
  intro p e s m below meth c T0 X0 hsafe
  have SC0 := Sta.ext hE SC
  have SF0 := Sta.ext hE SF
  refine Own.s_aloadN X0 dc_prog_22_method_3_0 rfl rfl rfl ?_
  refine Own.c_virtual X0 dc_prog_22_method_3_1 (tw84 hw) (tw85 hw) (notFace_of_selects (args := #[]) (mvT X0.hZ (tw87 hw))) (tw87 hw) (tw86 hw) (tw58 hw) (tw88 hw) (by decide) a [] [] 0 E (rm_acN hw a SC hzc SF hfm h0 X0.hE E Fs) (fun _ => rfl) Own.Ok.nil (lenOf pd_2 rfl) rfl (Nat.le_of_eq rfl) (by decide) (by decide) (by decide) (by decide) rfl rfl ?_
  intro v1 vm1 T1 h1 L1 X1 V1 Q1
  obtain rfl := Q1
  refine Own.s_ifF X1 dc_prog_22_method_3_4 ((if0 _ _).trans (teq (show (0 : Int32) = (0 : Int32) by decide)).2) rfl ?_
  refine Own.s_ldcStr rfl X1 dc_prog_22_method_3_7 (tw100 hw) (wSA hw) (by decide) (vs := [(.int (99 : Int32)), (.int (108 : Int32)), (.int (111 : Int32)), (.int (115 : Int32)), (.int (101 : Int32)), (.int (100 : Int32))]) (z := (6 : Int32)) ⟨by decide, by decide⟩ (by decide) (by decide) 24 (by decide) (by decide) (by decide) (by decide) rfl ?_
  intro a2 b2 k2 vm2 T2 h2 X2 V2 E2 C2 U2 A2
  have S2 : Own.Str Z h2 a2 [(99 : Int32), (108 : Int32), (111 : Int32), (115 : Int32), (101 : Int32), (100 : Int32)] := Own.Str.mk (by decide) (by decide) E2 C2 U2 A2
  refine Own.s_aloadN X2 dc_prog_22_method_3_9 rfl rfl rfl ?_
  have ex3 : Ext h0 h1 := Own.extK (Own.Ext.rfl' h0) V1.1 all0
  have ex4 : Ext h0 h2 := Own.extK ex3 V2.1 all0
  have F_5 := Fld.ext ex4 Fs
  refine Own.s_getfield X2 dc_prog_22_method_3_10 (tw75 hw) F_5 rfl ?_
  intro T6 X6
  refine Own.c_virtual X6 dc_prog_22_method_3_13 (tw90 hw) (tw91 hw) (notFace_of_selects (args := #[]) (mvT X6.hZ (tw93 hw))) (tw93 hw) (tw92 hw) (tw2 hw) (tw94 hw) (by decide) a2 [.null] [] 0 E2 (rm_eqNull hw a2 h2 X6.hE) (fun q => nomatch q) Own.Ok.nil (lenOf pd_1 rfl) rfl (Nat.le_of_eq rfl) (by decide) (by decide) (by decide) (by decide) rfl rfl ?_
  intro v7 vm7 T7 h7 L7 X7 V7 Q7
  obtain rfl := Q7
  refine Own.s_ifT X7 dc_prog_22_method_3_16 ((if0 _ _).trans (teq (show (0 : Int32) = (0 : Int32) by decide)).1) (by decide) (pc' := 23) (by decide) ?_
  refine Own.s_iconst X7 dc_prog_22_method_3_23 (0 : Int32) (by decide) rfl ?_
  exact Own.r_nar X7 rfl (Or.inl rfl) dc_prog_22_method_3_24 (by decide) (by decide) (by decide)
set_option maxRecDepth 65536 in
set_option maxHeartbeats 40000000 in
theorem rm_aocS {l : Launch} {Z : State} {a0 : Array Value} (hw : ∀ d ∈ tables_1, d.before a0 Z = true) (a q : Addr) (cs : List Int32) {zc : Int32} (SC : Sta Z Z.heap "java/lang/String" "COMPACT_STRINGS" "Z" (.int zc)) (hzc : ¬ zc = 0) {fm : Value} (SF : Sta Z Z.heap "jdk/internal/util/Preconditions" "SIOOBE_FORMATTER" "Ljava/util/function/BiFunction;" fm) (hfm : fm.isRef = true) (h0 : Heap) (hE : Ext Z.heap h0) (E : Exa Z h0 a "com/example/carelane/carelane/registry/Episode") (Fs : Fld Z h0 a "com/example/carelane/carelane/registry/Episode" "status" "Ljava/lang/String;" (.ref q)) (S : Own.Str Z h0 q cs) :
    Own.Ctr true l Z a0 EL (⟨"com/example/carelane/carelane/registry/Episode", "isActiveOrClosed", "()Z"⟩ : MethodName) prog_22_method_3_code 1 (Option.some Jvm.ClassFile.FieldType.boolean) ({ frames := 3, cells := 4, slots := 56, locals := 40 } : Room) #[(.ref a)] h0 [] (fun v h => (v = some (.int (1 : Int32)) ∧ (cs = [(97 : Int32), (99 : Int32), (116 : Int32), (105 : Int32), (118 : Int32), (101 : Int32)] ∨ cs = [(99 : Int32), (108 : Int32), (111 : Int32), (115 : Int32), (101 : Int32), (100 : Int32)])) ∨ (v = some (.int (0 : Int32)) ∧ ¬ (cs = [(97 : Int32), (99 : Int32), (116 : Int32), (105 : Int32), (118 : Int32), (101 : Int32)] ∨ cs = [(99 : Int32), (108 : Int32), (111 : Int32), (115 : Int32), (101 : Int32), (100 : Int32)]))) := by
  refine Own.Ctr.of pn_4 (ef_0 a) hE (ewEL hw) ?_
  intro p e s m below meth c T0 X0 hsafe
  have SC0 := Sta.ext hE SC
  have SF0 := Sta.ext hE SF
  refine Own.s_aloadN X0 dc_prog_22_method_3_0 rfl rfl rfl ?_
  refine Own.c_virtual X0 dc_prog_22_method_3_1 (tw84 hw) (tw85 hw) (notFace_of_selects (args := #[]) (mvT X0.hZ (tw87 hw))) (tw87 hw) (tw86 hw) (tw58 hw) (tw88 hw) (by decide) a [] [] 0 E (rm_acS hw a q cs SC hzc SF hfm h0 X0.hE E Fs S) (fun _ => rfl) Own.Ok.nil (lenOf pd_2 rfl) rfl (Nat.le_of_eq rfl) (by decide) (by decide) (by decide) (by decide) rfl rfl ?_
  intro v1 vm1 T1 h1 L1 X1 V1 Q1
  rcases Q1 with Q1 | Q1
  · obtain ⟨rfl, hq1⟩ := Q1
    refine Own.s_ifT X1 dc_prog_22_method_3_4 ((if0 _ _).trans (feq (show ¬ (1 : Int32) = (0 : Int32) by decide)).2) (by decide) (pc' := 19) (by decide) ?_
    refine Own.s_iconst X1 dc_prog_22_method_3_19 (1 : Int32) (by decide) rfl ?_
    refine Own.s_goto X1 dc_prog_22_method_3_20 (by decide) (pc' := 24) (by decide) ?_
    exact Own.r_nar X1 rfl (Or.inl rfl) dc_prog_22_method_3_24 (by decide) (by decide) (Or.inl ⟨by decide, Or.inl hq1⟩)
  · obtain ⟨rfl, hq1⟩ := Q1
    refine Own.s_ifF X1 dc_prog_22_method_3_4 ((if0 _ _).trans (teq (show (0 : Int32) = (0 : Int32) by decide)).2) rfl ?_
    refine Own.s_ldcStr rfl X1 dc_prog_22_method_3_7 (tw100 hw) (wSA hw) (by decide) (vs := [(.int (99 : Int32)), (.int (108 : Int32)), (.int (111 : Int32)), (.int (115 : Int32)), (.int (101 : Int32)), (.int (100 : Int32))]) (z := (6 : Int32)) ⟨by decide, by decide⟩ (by decide) (by decide) 24 (by decide) (by decide) (by decide) (by decide) rfl ?_
    intro a2 b2 k2 vm2 T2 h2 X2 V2 E2 C2 U2 A2
    have S2 : Own.Str Z h2 a2 [(99 : Int32), (108 : Int32), (111 : Int32), (115 : Int32), (101 : Int32), (100 : Int32)] := Own.Str.mk (by decide) (by decide) E2 C2 U2 A2
    refine Own.s_aloadN X2 dc_prog_22_method_3_9 rfl rfl rfl ?_
    have ex3 : Ext h0 h1 := Own.extK (Own.Ext.rfl' h0) V1.1 all0
    have ex4 : Ext h0 h2 := Own.extK ex3 V2.1 all0
    have F_5 := Fld.ext ex4 Fs
    refine Own.s_getfield X2 dc_prog_22_method_3_10 (tw75 hw) F_5 rfl ?_
    intro T6 X6
    have S_7 := Own.Str.ext S ex4
    have Z_8 := Sta.ext ex4 SC0
    refine Own.b_virtual X6 dc_prog_22_method_3_13 (tw90 hw) (tw91 hw) (notFace_of_selects (args := #[]) (mvT X6.hZ (tw93 hw))) (tw93 hw) (tw92 hw) (by decide) a2 [(.ref q)] [] E2 (Own.strEq (W := 0) X6.hZ (wEq hw) (tw3 hw) S2 S_7 Z_8 hzc (by decide) (by decide)) (fun v h' L q => Own.strEqQ q) Own.Ok.nil (lenOf pd_1 rfl) rfl (Nat.le_of_eq rfl) (by decide) (by decide) rfl rfl ?_
    intro v9 vm9 T9 h9 L9 X9 V9 Q9
    obtain rfl := Q9
    by_cases hc16_10 : (if ([(99 : Int32), (108 : Int32), (111 : Int32), (115 : Int32), (101 : Int32), (100 : Int32)] : List Int32) = cs then 1 else 0) = (0 : Int32)
    · refine Own.s_ifT X9 dc_prog_22_method_3_16 ((if0 _ _).trans (teq hc16_10).1) (by decide) (pc' := 23) (by decide) ?_
      refine Own.s_iconst X9 dc_prog_22_method_3_23 (0 : Int32) (by decide) rfl ?_
      exact Own.r_nar X9 rfl (Or.inl rfl) dc_prog_22_method_3_24 (by decide) (by decide) (Or.inr ⟨by decide, fun r => r.elim hq1 (fun r => absurd ((if_pos r.symm).symm.trans hc16_10) (by decide))⟩)
    · refine Own.s_ifF X9 dc_prog_22_method_3_16 ((if0 _ _).trans (feq hc16_10).1) rfl ?_
      refine Own.s_iconst X9 dc_prog_22_method_3_19 (1 : Int32) (by decide) rfl ?_
      refine Own.s_goto X9 dc_prog_22_method_3_20 (by decide) (pc' := 24) (by decide) ?_
      exact Own.r_nar X9 rfl (Or.inl rfl) dc_prog_22_method_3_24 (by decide) (by decide) (Or.inl ⟨by decide, Or.inr (Decidable.byContradiction fun r => hc16_10 (if_neg fun q => r q.symm))⟩)
set_option maxRecDepth 65536 in
set_option maxHeartbeats 40000000 in
theorem sg_c {l : Launch} {Z : State} {a0 : Array Value} (hw : ∀ d ∈ tables_1, d.before a0 Z = true) {p : Program} {e : Env} {s : State} {m : MethodId} {below : List Frame} {meth : Method} {c : Code} {vms : Vm} {Ts : State} {h0 h0s : Heap} {locs : List Loc} (p0 p1 p2 p3 : Int32) {zc : Int32} (SC : Sta Z Z.heap "java/lang/String" "COMPACT_STRINGS" "Z" (.int zc)) (hzc : ¬ zc = 0) {fm : Value} (SF : Sta Z Z.heap "jdk/internal/util/Preconditions" "SIOOBE_FORMATTER" "Ljava/util/function/BiFunction;" fm) (hfm : fm.isRef = true) (ts ls rp pp cc c2 tp t0 t1 t2 t3 t4 t5 b0_ b1_ b2_ b3_ b4_ b5_ b6_ : Int32) (tt bb : Addr) (kb : ClassId)
    (Xs : Own.Wk p l e room_1 s m #[(.int p0), (.int p1), (.int p2), (.int p3)] below meth c Z a0 EL x code maxLocals ret true h0 [] vms Ts h0s locs 3 35) (St : Own.Str Z h0s tt [t0, t1, t2, t3, t4, t5]) (Ab : Arv Z h0s bb kb .char (7 : Int32) [(.int b0_), (.int b1_), (.int b2_), (.int b3_), (.int b4_), (.int b5_), (.int b6_)] (.int (0 : Int32))) (hb0 : Own.Lat b0_) (hb1 : Own.Lat b1_) (hb2 : Own.Lat b2_) (hb3 : Own.Lat b3_) (hb4 : Own.Lat b4_) (hb5 : Own.Lat b5_) (hb6 : Own.Lat b6_) (hcc : Own.Lat cc) (hc2 : Own.Lat c2) (hi6 : pp.toNatClampNeg < [t0, t1, t2, t3, t4, t5].length) (hj6 : pp = Int32.ofNat pp.toNatClampNeg) (htp : ([t0, t1, t2, t3, t4, t5] : List Int32).getD pp.toNatClampNeg 0 = tp) (hEx : ((([b0_, b1_, b2_, b3_, b4_, b5_] : List Int32) = [(97 : Int32), (99 : Int32), (116 : Int32), (105 : Int32), (118 : Int32), (101 : Int32)] ∨ [b0_, b1_, b2_, b3_, b4_, b5_] = [(99 : Int32), (108 : Int32), (111 : Int32), (115 : Int32), (101 : Int32), (100 : Int32)]) ↔ ((ts = 0 ∨ ts = 1) ∧ (rp = 0 ∨ cc = tp)))) :
    Own.Go p e below (Own.Done true Z EL room_1 s h0 [] (fun v h => v = some (.int (1 : Int32)))) Ts (mkF m 181 #[.val (.int p0), .val (.int p1), .val (.int p2), .val (.int p3), .val (.int ts), .val (.int ls), .val (.int rp), .val (.int pp), .val (.int cc), .val (.int c2), .val (.ref tt), .val (.ref bb), .unset, .unset, .unset] []) := by
  have hE := Xs.hE
  have SC0 := Sta.ext hE SC
  have SF0 := Sta.ext hE SF
  refine Own.s_iload Xs at_181 rfl rfl ?_
  by_cases hc183_1 : ls = (0 : Int32)
  · refine Own.s_ifF Xs at_183 ((if0 _ _).trans (teq hc183_1).2) rfl ?_
    refine Own.s_new Xs at_186 (tw35 hw) (tw3 hw) (tw2 hw) (by decide) (by decide) rfl ?_
    intro b2 T2 h2 X2 V2 g2 E2 O2 D2
    have F2_value : Fld Z h2 b2 "java/lang/String" "value" "[B" (.null) := D2 (Or.inr (tw5 hw)) (ty := (.array .byte)) (by decide)
    have F2_coder : Fld Z h2 b2 "java/lang/String" "coder" "B" (.int 0) := D2 (Or.inr (tw6 hw)) (ty := .byte) (by decide)
    refine Own.s_dup X2 at_189 rfl rfl ?_
    refine Own.s_bipush X2 at_190 (6 : Int32) (by decide) rfl ?_
    refine Own.s_newarray X2 at_192 (tw9 hw) (by decide) 6 (by decide) (by decide) (by decide) (by decide) rfl ?_
    intro b3 T3 h3 k3 X3 V3 g3 A3 O3
    have B3 : Arv Z h3 b3 k3 .char (6 : Int32) [(.int (0 : Int32)), (.int (0 : Int32)), (.int (0 : Int32)), (.int (0 : Int32)), (.int (0 : Int32)), (.int (0 : Int32))] (.int (0 : Int32)) := A3.pad (pad_rep [] (.int (0 : Int32)) 6)
    refine Own.s_dup X3 at_194 rfl rfl ?_
    refine Own.s_iconst X3 at_195 (0 : Int32) (by decide) rfl ?_
    refine Own.s_aload X3 at_196 rfl rfl rfl ?_
    refine Own.s_iconst X3 at_198 (0 : Int32) (by decide) rfl ?_
    have ex4 : Ext h0s h2 := Own.extK (Own.Ext.rfl' h0s) V2.1 all0
    have ex5 : Ext h0s h3 := Own.extK ex4 V3.1 all0
    have A_6 := Arv.ext Ab ex5
    refine Own.s_caload X3 at_199 A_6 ⟨by decide, by decide⟩ rfl rfl ?_
    refine Own.s_castoreR X3 at_200 B3 ⟨by decide, by decide⟩ 0 (by decide) (Nat.le_of_ble_eq_true rfl) (Own.nar_chr hb0) O3 rfl ?_
    intro T7 h7 X7 V7 A7
    have B7 : Arv Z h7 b3 k3 .char (6 : Int32) [(.int b0_), (.int (0 : Int32)), (.int (0 : Int32)), (.int (0 : Int32)), (.int (0 : Int32)), (.int (0 : Int32))] (.int (0 : Int32)) := A7
    refine Own.s_dup X7 at_201 rfl rfl ?_
    refine Own.s_iconst X7 at_202 (1 : Int32) (by decide) rfl ?_
    refine Own.s_aload X7 at_203 rfl rfl rfl ?_
    refine Own.s_iconst X7 at_205 (1 : Int32) (by decide) rfl ?_
    have le8 : h0s.size ≤ h2.size := V2.1.1
    have ex9 : Ext h0s h7 := Own.extK ex5 V7.1 (allS (Nat.le_trans le8 g3) all0)
    have A_10 := Arv.ext Ab ex9
    refine Own.s_caload X7 at_206 A_10 ⟨by decide, by decide⟩ rfl rfl ?_
    have O12 := (O3.ev V7)
    refine Own.s_castoreR X7 at_207 B7 ⟨by decide, by decide⟩ 1 (by decide) (Nat.le_of_ble_eq_true rfl) (Own.nar_chr hb1) O12 rfl ?_
    intro T11 h11 X11 V11 A11
    have B11 : Arv Z h11 b3 k3 .char (6 : Int32) [(.int b0_), (.int b1_), (.int (0 : Int32)), (.int (0 : Int32)), (.int (0 : Int32)), (.int (0 : Int32))] (.int (0 : Int32)) := A11
    refine Own.s_dup X11 at_208 rfl rfl ?_
    refine Own.s_iconst X11 at_209 (2 : Int32) (by decide) rfl ?_
    refine Own.s_aload X11 at_210 rfl rfl rfl ?_
    refine Own.s_iconst X11 at_212 (2 : Int32) (by decide) rfl ?_
    have ex13 : Ext h0s h11 := Own.extK ex9 V11.1 (allS (Nat.le_trans le8 g3) all0)
    have A_14 := Arv.ext Ab ex13
    refine Own.s_caload X11 at_213 A_14 ⟨by decide, by decide⟩ rfl rfl ?_
    have O16 := (O12.ev V11)
    refine Own.s_castoreR X11 at_214 B11 ⟨by decide, by decide⟩ 2 (by decide) (Nat.le_of_ble_eq_true rfl) (Own.nar_chr hb2) O16 rfl ?_
    intro T15 h15 X15 V15 A15
    have B15 : Arv Z h15 b3 k3 .char (6 : Int32) [(.int b0_), (.int b1_), (.int b2_), (.int (0 : Int32)), (.int (0 : Int32)), (.int (0 : Int32))] (.int (0 : Int32)) := A15
    refine Own.s_dup X15 at_215 rfl rfl ?_
    refine Own.s_iconst X15 at_216 (3 : Int32) (by decide) rfl ?_
    refine Own.s_aload X15 at_217 rfl rfl rfl ?_
    refine Own.s_iconst X15 at_219 (3 : Int32) (by decide) rfl ?_
    have ex17 : Ext h0s h15 := Own.extK ex13 V15.1 (allS (Nat.le_trans le8 g3) all0)
    have A_18 := Arv.ext Ab ex17
    refine Own.s_caload X15 at_220 A_18 ⟨by decide, by decide⟩ rfl rfl ?_
    have O20 := (O16.ev V15)
    refine Own.s_castoreR X15 at_221 B15 ⟨by decide, by decide⟩ 3 (by decide) (Nat.le_of_ble_eq_true rfl) (Own.nar_chr hb3) O20 rfl ?_
    intro T19 h19 X19 V19 A19
    have B19 : Arv Z h19 b3 k3 .char (6 : Int32) [(.int b0_), (.int b1_), (.int b2_), (.int b3_), (.int (0 : Int32)), (.int (0 : Int32))] (.int (0 : Int32)) := A19
    refine Own.s_dup X19 at_222 rfl rfl ?_
    refine Own.s_iconst X19 at_223 (4 : Int32) (by decide) rfl ?_
    refine Own.s_aload X19 at_224 rfl rfl rfl ?_
    refine Own.s_iconst X19 at_226 (4 : Int32) (by decide) rfl ?_
    have ex21 : Ext h0s h19 := Own.extK ex17 V19.1 (allS (Nat.le_trans le8 g3) all0)
    have A_22 := Arv.ext Ab ex21
    refine Own.s_caload X19 at_227 A_22 ⟨by decide, by decide⟩ rfl rfl ?_
    have O24 := (O20.ev V19)
    refine Own.s_castoreR X19 at_228 B19 ⟨by decide, by decide⟩ 4 (by decide) (Nat.le_of_ble_eq_true rfl) (Own.nar_chr hb4) O24 rfl ?_
    intro T23 h23 X23 V23 A23
    have B23 : Arv Z h23 b3 k3 .char (6 : Int32) [(.int b0_), (.int b1_), (.int b2_), (.int b3_), (.int b4_), (.int (0 : Int32))] (.int (0 : Int32)) := A23
    refine Own.s_dup X23 at_229 rfl rfl ?_
    refine Own.s_iconst X23 at_230 (5 : Int32) (by decide) rfl ?_
    refine Own.s_aload X23 at_231 rfl rfl rfl ?_
    refine Own.s_iconst X23 at_233 (5 : Int32) (by decide) rfl ?_
    have ex25 : Ext h0s h23 := Own.extK ex21 V23.1 (allS (Nat.le_trans le8 g3) all0)
    have A_26 := Arv.ext Ab ex25
    refine Own.s_caload X23 at_234 A_26 ⟨by decide, by decide⟩ rfl rfl ?_
    have O28 := (O24.ev V23)
    refine Own.s_castoreR X23 at_235 B23 ⟨by decide, by decide⟩ 5 (by decide) (Nat.le_of_ble_eq_true rfl) (Own.nar_chr hb5) O28 rfl ?_
    intro T27 h27 X27 V27 A27
    have B27 : Arv Z h27 b3 k3 .char (6 : Int32) [(.int b0_), (.int b1_), (.int b2_), (.int b3_), (.int b4_), (.int b5_)] (.int (0 : Int32)) := A27
    have ex29 : Ext h0s h27 := Own.extK ex25 V27.1 (allS (Nat.le_trans le8 g3) all0)
    have Z_30 := Sta.ext ex29 SC0
    have ex31 : Ext h2 h3 := Own.extK (Own.Ext.rfl' h2) V3.1 all0
    have ex32 : Ext h2 h7 := Own.extK ex31 V7.1 (allS g3 all0)
    have ex33 : Ext h2 h11 := Own.extK ex32 V11.1 (allS g3 all0)
    have ex34 : Ext h2 h15 := Own.extK ex33 V15.1 (allS g3 all0)
    have ex35 : Ext h2 h19 := Own.extK ex34 V19.1 (allS g3 all0)
    have ex36 : Ext h2 h23 := Own.extK ex35 V23.1 (allS g3 all0)
    have ex37 : Ext h2 h27 := Own.extK ex36 V27.1 (allS g3 all0)
    have E_38 := Exa.ext ex37 E2
    have F_39 := Fld.ext ex37 F2_value
    have F_40 := Fld.ext ex37 F2_coder
    have O41 := (((((((O2.ev V3).ev V7).ev V11).ev V15).ev V19).ev V23).ev V27)
    have lat42 : ∀ c ∈ [b0_, b1_, b2_, b3_, b4_, b5_], Own.Lat c := (Own.latL hb0 (Own.latL hb1 (Own.latL hb2 (Own.latL hb3 (Own.latL hb4 (Own.latL hb5 Own.latN))))))
    refine Own.b_special X27 at_236 rfl (tw36 hw) (tw37 hw) (tw38 hw) (by decide) b2 [(.ref b3)] [(.ref b2)] (Own.strNew (W := 1) (cs := [b0_, b1_, b2_, b3_, b4_, b5_]) (n := 6) X27.hZ (wNew hw) (tw3 hw) O41.2.1 X27.hE.1 E_38 F_39 F_40 B27 Z_30 hzc rfl (by decide) (by decide) (by decide) lat42 (by decide) (by decide)) (fun v h' L q => Own.strNewQ (n := 6) rfl (by decide) (by decide) lat42 q) (Own.Ok.one O41) (lenOf pd_3 rfl) rfl (Nat.le_of_eq rfl) (by decide) (by decide) rfl rfl ?_
    intro v43 vm43 T43 h43 L43 X43 V43 Q43
    obtain ⟨rfl, S43⟩ := Q43
    refine Own.s_astore X43 at_239 rfl #[.val (.int p0), .val (.int p1), .val (.int p2), .val (.int p3), .val (.int ts), .val (.int ls), .val (.int rp), .val (.int pp), .val (.int cc), .val (.int c2), .val (.ref tt), .val (.ref bb), .val (.ref b2), .unset, .unset] rfl rfl ?_
    refine Own.s_goto X43 at_241 (by decide) (pc' := 323) (by decide) ?_
    refine Own.s_iload X43 at_323 rfl rfl ?_
    refine Own.s_ifT X43 at_325 ((if0 _ _).trans (teq (show ls = (0 : Int32) by rw [hc183_1] <;> decide)).1) (by decide) (pc' := 334) (by decide) ?_
    refine Own.s_iload X43 at_334 rfl rfl ?_
    by_cases hc336_44 : ts = (0 : Int32)
    · refine Own.s_ifT X43 at_336 ((if0 _ _).trans (teq hc336_44).1) (by decide) (pc' := 345) (by decide) ?_
      refine Own.s_iload X43 at_345 rfl rfl ?_
      by_cases hc347_45 : rp = (0 : Int32)
      · refine Own.s_ifT X43 at_347 ((if0 _ _).trans (teq hc347_45).1) (by decide) (pc' := 362) (by decide) ?_
        refine Own.s_iconst X43 at_362 (1 : Int32) (by decide) rfl ?_
        refine Own.s_goto X43 at_363 (by decide) (pc' := 367) (by decide) ?_
        refine Own.s_istore X43 at_367 #[.val (.int p0), .val (.int p1), .val (.int p2), .val (.int p3), .val (.int ts), .val (.int ls), .val (.int rp), .val (.int pp), .val (.int cc), .val (.int c2), .val (.ref tt), .val (.ref bb), .val (.ref b2), .val (.int (1 : Int32)), .unset] rfl rfl ?_
        refine Own.s_goto X43 at_369 (by decide) (pc' := 375) (by decide) ?_
        refine Own.s_new X43 at_375 (tw56 hw) (tw57 hw) (tw58 hw) (by decide) (by decide) rfl ?_
        intro b46 T46 h46 X46 V46 g46 E46 O46 D46
        have F46_id : Fld Z h46 b46 "com/example/carelane/carelane/registry/Episode" "id" "Ljava/lang/String;" (.null) := D46 (Or.inr (tw72 hw)) (ty := (.object "java/lang/String")) (by decide)
        have F46_personId : Fld Z h46 b46 "com/example/carelane/carelane/registry/Episode" "personId" "Ljava/lang/String;" (.null) := D46 (Or.inr (tw74 hw)) (ty := (.object "java/lang/String")) (by decide)
        have F46_status : Fld Z h46 b46 "com/example/carelane/carelane/registry/Episode" "status" "Ljava/lang/String;" (.null) := D46 (Or.inr (tw76 hw)) (ty := (.object "java/lang/String")) (by decide)
        have F46_managingOrganizationId : Fld Z h46 b46 "com/example/carelane/carelane/registry/Episode" "managingOrganizationId" "Ljava/lang/String;" (.null) := D46 (Or.inr (tw78 hw)) (ty := (.object "java/lang/String")) (by decide)
        refine Own.s_dup X46 at_378 rfl rfl ?_
        refine Own.s_ldcStr rfl X46 at_379 (tw59 hw) (wSA hw) (by decide) (vs := [(.int (101 : Int32)), (.int (49 : Int32))]) (z := (2 : Int32)) ⟨by decide, by decide⟩ (by decide) (by decide) 8 (by decide) (by decide) (by decide) (by decide) rfl ?_
        intro a47 b47 k47 vm47 T47 h47 X47 V47 E47 C47 U47 A47
        have S47 : Own.Str Z h47 a47 [(101 : Int32), (49 : Int32)] := Own.Str.mk (by decide) (by decide) E47 C47 U47 A47
        refine Own.s_ldcStr rfl X47 at_381 (tw60 hw) (wSA hw) (by decide) (vs := [(.int (112 : Int32)), (.int (49 : Int32))]) (z := (2 : Int32)) ⟨by decide, by decide⟩ (by decide) (by decide) 8 (by decide) (by decide) (by decide) (by decide) rfl ?_
        intro a48 b48 k48 vm48 T48 h48 X48 V48 E48 C48 U48 A48
        have S48 : Own.Str Z h48 a48 [(112 : Int32), (49 : Int32)] := Own.Str.mk (by decide) (by decide) E48 C48 U48 A48
        refine Own.s_aload X48 at_383 rfl rfl rfl ?_
        refine Own.s_ldcStr rfl X48 at_385 (tw61 hw) (wSA hw) (by decide) (vs := [(.int (111 : Int32)), (.int (49 : Int32))]) (z := (2 : Int32)) ⟨by decide, by decide⟩ (by decide) (by decide) 8 (by decide) (by decide) (by decide) (by decide) rfl ?_
        intro a49 b49 k49 vm49 T49 h49 X49 V49 E49 C49 U49 A49
        have S49 : Own.Str Z h49 a49 [(111 : Int32), (49 : Int32)] := Own.Str.mk (by decide) (by decide) E49 C49 U49 A49
        have ex50 : Ext h46 h47 := Own.extK (Own.Ext.rfl' h46) V47.1 all0
        have ex51 : Ext h46 h48 := Own.extK ex50 V48.1 all0
        have ex52 : Ext h46 h49 := Own.extK ex51 V49.1 all0
        have F_53 := Fld.ext ex52 F46_id
        have F_54 := Fld.ext ex52 F46_personId
        have F_55 := Fld.ext ex52 F46_status
        have F_56 := Fld.ext ex52 F46_managingOrganizationId
        have E_57 := Exa.ext ex52 E46
        have O58 := (((O46.ev V47).ev V48).ev V49)
        refine Own.c_special X49 at_387 rfl (tw62 hw) (tw63 hw) (tw58 hw) (tw64 hw) (by decide) b46 [(.ref a47), (.ref a48), (.ref b2), (.ref a49)] [(.ref b46)] 1 (rm_ep hw b46 a47 a48 (.ref b2) rfl a49  h49 X49.hE O58.2.1 E_57 F_53 F_54 F_55 F_56 ) (fun q => nomatch q) (Own.Ok.one O58) (lenOf pd_4 rfl) rfl (Nat.le_of_eq rfl) (by decide) (by decide) (by decide) (by decide) rfl rfl ?_
        intro v59 vm59 T59 h59 L59 X59 V59 Q59
        obtain ⟨rfl, E59, F59_0, F59_1, F59_2, F59_3⟩ := Q59
        refine Own.s_astore X59 at_390 rfl #[.val (.int p0), .val (.int p1), .val (.int p2), .val (.int p3), .val (.int ts), .val (.int ls), .val (.int rp), .val (.int pp), .val (.int cc), .val (.int c2), .val (.ref tt), .val (.ref bb), .val (.ref b2), .val (.int (1 : Int32)), .val (.ref b46)] rfl rfl ?_
        refine Own.s_aload X59 at_392 rfl rfl rfl ?_
        have ex60 : Ext h43 h46 := Own.extK (Own.Ext.rfl' h43) V46.1 all0
        have ex61 : Ext h43 h47 := Own.extK ex60 V47.1 all0
        have ex62 : Ext h43 h48 := Own.extK ex61 V48.1 all0
        have ex63 : Ext h43 h49 := Own.extK ex62 V49.1 all0
        have ex64 : Ext h43 h59 := Own.extK ex63 V59.1 (allS g46 all0)
        have S_65 := Own.Str.ext S43 ex64
        refine Own.c_virtual X59 at_394 (tw79 hw) (tw80 hw) (notFace_of_selects (args := #[]) (mvT X59.hZ (tw82 hw))) (tw82 hw) (tw81 hw) (tw58 hw) (tw83 hw) (by decide) b46 [] [] 0 E59 (rm_aocS hw b46 b2 [b0_, b1_, b2_, b3_, b4_, b5_] SC hzc SF hfm h59 X59.hE E59 F59_2 S_65) (fun _ => rfl) Own.Ok.nil (lenOf pd_2 rfl) rfl (Nat.le_of_eq rfl) (by decide) (by decide) (by decide) (by decide) rfl rfl ?_
        intro v66 vm66 T66 h66 L66 X66 V66 Q66
        rcases Q66 with Q66 | Q66
        · obtain ⟨rfl, hq66⟩ := Q66
          refine Own.s_iload X66 at_397 rfl rfl ?_
          refine Own.s_icmpF X66 at_399 (teq (show (1 : Int32) = (1 : Int32) by decide)).2 rfl ?_
          refine Own.s_iconst X66 at_402 (1 : Int32) (by decide) rfl ?_
          refine Own.s_goto X66 at_403 (by decide) (pc' := 407) (by decide) ?_
          exact Own.r_nar X66 rfl (Or.inl rfl) at_407 (by decide) (by decide) (by decide)
        · obtain ⟨rfl, hq66⟩ := Q66
          refine Own.s_iload X66 at_397 rfl rfl ?_
          refine Own.s_icmpT X66 at_399 (feq (show ¬ (0 : Int32) = (1 : Int32) by decide)).2 (by decide) (pc' := 406) (by decide) ?_
          refine Own.s_iconst X66 at_406 (0 : Int32) (by decide) rfl ?_
          exact Own.r_nar X66 rfl (Or.inl rfl) at_407 (by decide) (by decide) (absurd (hEx.mpr ⟨Or.inl hc336_44, Or.inl hc347_45⟩) hq66)
      · refine Own.s_ifF X43 at_347 ((if0 _ _).trans (feq hc347_45).1) rfl ?_
        refine Own.s_iload X43 at_350 rfl rfl ?_
        refine Own.s_aload X43 at_352 rfl rfl rfl ?_
        refine Own.s_iload X43 at_354 rfl rfl ?_
        have ex67 : Ext h0s h43 := Own.extK ex29 V43.1 (allS g2 all0)
        have S_68 := Own.Str.ext St ex67
        have Z_69 := Sta.ext ex67 SC0
        have Z_70 := Sta.ext ex67 SF0
        have E_72 := Exa.ext ex67 St.exa
        refine Own.b_virtual X43 at_356 (tw10 hw) (tw11 hw) (notFace_of_selects (args := #[]) (mvT X43.hZ (tw13 hw))) (tw13 hw) (tw12 hw) (by decide) tt [(.int pp)] [(.int cc)] E_72 (Own.strAt (W := 1) (i := pp.toNatClampNeg) X43.hZ (wChN hw) (tw3 hw) S_68 Z_69 hzc Z_70 hfm hi6 hj6 (by decide) (by decide)) (fun v h' L q => Own.strAtQ (z := tp) htp q) Own.Ok.nil (lenOf pd_5 rfl) rfl (Nat.le_of_eq rfl) (by decide) (by decide) rfl rfl ?_
        intro v71 vm71 T71 h71 L71 X71 V71 Q71
        obtain rfl := Q71
        by_cases hc359_73 : cc = tp
        · refine Own.s_icmpF X71 at_359 (teq hc359_73).2 rfl ?_
          refine Own.s_iconst X71 at_362 (1 : Int32) (by decide) rfl ?_
          refine Own.s_goto X71 at_363 (by decide) (pc' := 367) (by decide) ?_
          refine Own.s_istore X71 at_367 #[.val (.int p0), .val (.int p1), .val (.int p2), .val (.int p3), .val (.int ts), .val (.int ls), .val (.int rp), .val (.int pp), .val (.int cc), .val (.int c2), .val (.ref tt), .val (.ref bb), .val (.ref b2), .val (.int (1 : Int32)), .unset] rfl rfl ?_
          refine Own.s_goto X71 at_369 (by decide) (pc' := 375) (by decide) ?_
          refine Own.s_new X71 at_375 (tw56 hw) (tw57 hw) (tw58 hw) (by decide) (by decide) rfl ?_
          intro b74 T74 h74 X74 V74 g74 E74 O74 D74
          have F74_id : Fld Z h74 b74 "com/example/carelane/carelane/registry/Episode" "id" "Ljava/lang/String;" (.null) := D74 (Or.inr (tw72 hw)) (ty := (.object "java/lang/String")) (by decide)
          have F74_personId : Fld Z h74 b74 "com/example/carelane/carelane/registry/Episode" "personId" "Ljava/lang/String;" (.null) := D74 (Or.inr (tw74 hw)) (ty := (.object "java/lang/String")) (by decide)
          have F74_status : Fld Z h74 b74 "com/example/carelane/carelane/registry/Episode" "status" "Ljava/lang/String;" (.null) := D74 (Or.inr (tw76 hw)) (ty := (.object "java/lang/String")) (by decide)
          have F74_managingOrganizationId : Fld Z h74 b74 "com/example/carelane/carelane/registry/Episode" "managingOrganizationId" "Ljava/lang/String;" (.null) := D74 (Or.inr (tw78 hw)) (ty := (.object "java/lang/String")) (by decide)
          refine Own.s_dup X74 at_378 rfl rfl ?_
          refine Own.s_ldcStr rfl X74 at_379 (tw59 hw) (wSA hw) (by decide) (vs := [(.int (101 : Int32)), (.int (49 : Int32))]) (z := (2 : Int32)) ⟨by decide, by decide⟩ (by decide) (by decide) 8 (by decide) (by decide) (by decide) (by decide) rfl ?_
          intro a75 b75 k75 vm75 T75 h75 X75 V75 E75 C75 U75 A75
          have S75 : Own.Str Z h75 a75 [(101 : Int32), (49 : Int32)] := Own.Str.mk (by decide) (by decide) E75 C75 U75 A75
          refine Own.s_ldcStr rfl X75 at_381 (tw60 hw) (wSA hw) (by decide) (vs := [(.int (112 : Int32)), (.int (49 : Int32))]) (z := (2 : Int32)) ⟨by decide, by decide⟩ (by decide) (by decide) 8 (by decide) (by decide) (by decide) (by decide) rfl ?_
          intro a76 b76 k76 vm76 T76 h76 X76 V76 E76 C76 U76 A76
          have S76 : Own.Str Z h76 a76 [(112 : Int32), (49 : Int32)] := Own.Str.mk (by decide) (by decide) E76 C76 U76 A76
          refine Own.s_aload X76 at_383 rfl rfl rfl ?_
          refine Own.s_ldcStr rfl X76 at_385 (tw61 hw) (wSA hw) (by decide) (vs := [(.int (111 : Int32)), (.int (49 : Int32))]) (z := (2 : Int32)) ⟨by decide, by decide⟩ (by decide) (by decide) 8 (by decide) (by decide) (by decide) (by decide) rfl ?_
          intro a77 b77 k77 vm77 T77 h77 X77 V77 E77 C77 U77 A77
          have S77 : Own.Str Z h77 a77 [(111 : Int32), (49 : Int32)] := Own.Str.mk (by decide) (by decide) E77 C77 U77 A77
          have ex78 : Ext h74 h75 := Own.extK (Own.Ext.rfl' h74) V75.1 all0
          have ex79 : Ext h74 h76 := Own.extK ex78 V76.1 all0
          have ex80 : Ext h74 h77 := Own.extK ex79 V77.1 all0
          have F_81 := Fld.ext ex80 F74_id
          have F_82 := Fld.ext ex80 F74_personId
          have F_83 := Fld.ext ex80 F74_status
          have F_84 := Fld.ext ex80 F74_managingOrganizationId
          have E_85 := Exa.ext ex80 E74
          have O86 := (((O74.ev V75).ev V76).ev V77)
          refine Own.c_special X77 at_387 rfl (tw62 hw) (tw63 hw) (tw58 hw) (tw64 hw) (by decide) b74 [(.ref a75), (.ref a76), (.ref b2), (.ref a77)] [(.ref b74)] 1 (rm_ep hw b74 a75 a76 (.ref b2) rfl a77  h77 X77.hE O86.2.1 E_85 F_81 F_82 F_83 F_84 ) (fun q => nomatch q) (Own.Ok.one O86) (lenOf pd_4 rfl) rfl (Nat.le_of_eq rfl) (by decide) (by decide) (by decide) (by decide) rfl rfl ?_
          intro v87 vm87 T87 h87 L87 X87 V87 Q87
          obtain ⟨rfl, E87, F87_0, F87_1, F87_2, F87_3⟩ := Q87
          refine Own.s_astore X87 at_390 rfl #[.val (.int p0), .val (.int p1), .val (.int p2), .val (.int p3), .val (.int ts), .val (.int ls), .val (.int rp), .val (.int pp), .val (.int cc), .val (.int c2), .val (.ref tt), .val (.ref bb), .val (.ref b2), .val (.int (1 : Int32)), .val (.ref b74)] rfl rfl ?_
          refine Own.s_aload X87 at_392 rfl rfl rfl ?_
          have ex88 : Ext h43 h71 := Own.extK (Own.Ext.rfl' h43) V71.1 all0
          have ex89 : Ext h43 h74 := Own.extK ex88 V74.1 all0
          have ex90 : Ext h43 h75 := Own.extK ex89 V75.1 all0
          have ex91 : Ext h43 h76 := Own.extK ex90 V76.1 all0
          have ex92 : Ext h43 h77 := Own.extK ex91 V77.1 all0
          have le93 : h43.size ≤ h71.size := V71.1.1
          have ex94 : Ext h43 h87 := Own.extK ex92 V87.1 (allS (Nat.le_trans le93 g74) all0)
          have S_95 := Own.Str.ext S43 ex94
          refine Own.c_virtual X87 at_394 (tw79 hw) (tw80 hw) (notFace_of_selects (args := #[]) (mvT X87.hZ (tw82 hw))) (tw82 hw) (tw81 hw) (tw58 hw) (tw83 hw) (by decide) b74 [] [] 0 E87 (rm_aocS hw b74 b2 [b0_, b1_, b2_, b3_, b4_, b5_] SC hzc SF hfm h87 X87.hE E87 F87_2 S_95) (fun _ => rfl) Own.Ok.nil (lenOf pd_2 rfl) rfl (Nat.le_of_eq rfl) (by decide) (by decide) (by decide) (by decide) rfl rfl ?_
          intro v96 vm96 T96 h96 L96 X96 V96 Q96
          rcases Q96 with Q96 | Q96
          · obtain ⟨rfl, hq96⟩ := Q96
            refine Own.s_iload X96 at_397 rfl rfl ?_
            refine Own.s_icmpF X96 at_399 (teq (show (1 : Int32) = (1 : Int32) by decide)).2 rfl ?_
            refine Own.s_iconst X96 at_402 (1 : Int32) (by decide) rfl ?_
            refine Own.s_goto X96 at_403 (by decide) (pc' := 407) (by decide) ?_
            exact Own.r_nar X96 rfl (Or.inl rfl) at_407 (by decide) (by decide) (by decide)
          · obtain ⟨rfl, hq96⟩ := Q96
            refine Own.s_iload X96 at_397 rfl rfl ?_
            refine Own.s_icmpT X96 at_399 (feq (show ¬ (0 : Int32) = (1 : Int32) by decide)).2 (by decide) (pc' := 406) (by decide) ?_
            refine Own.s_iconst X96 at_406 (0 : Int32) (by decide) rfl ?_
            exact Own.r_nar X96 rfl (Or.inl rfl) at_407 (by decide) (by decide) (absurd (hEx.mpr ⟨Or.inl hc336_44, Or.inr hc359_73⟩) hq96)
        · refine Own.s_icmpT X71 at_359 (feq hc359_73).2 (by decide) (pc' := 366) (by decide) ?_
          refine Own.s_iconst X71 at_366 (0 : Int32) (by decide) rfl ?_
          refine Own.s_istore X71 at_367 #[.val (.int p0), .val (.int p1), .val (.int p2), .val (.int p3), .val (.int ts), .val (.int ls), .val (.int rp), .val (.int pp), .val (.int cc), .val (.int c2), .val (.ref tt), .val (.ref bb), .val (.ref b2), .val (.int (0 : Int32)), .unset] rfl rfl ?_
          refine Own.s_goto X71 at_369 (by decide) (pc' := 375) (by decide) ?_
          refine Own.s_new X71 at_375 (tw56 hw) (tw57 hw) (tw58 hw) (by decide) (by decide) rfl ?_
          intro b97 T97 h97 X97 V97 g97 E97 O97 D97
          have F97_id : Fld Z h97 b97 "com/example/carelane/carelane/registry/Episode" "id" "Ljava/lang/String;" (.null) := D97 (Or.inr (tw72 hw)) (ty := (.object "java/lang/String")) (by decide)
          have F97_personId : Fld Z h97 b97 "com/example/carelane/carelane/registry/Episode" "personId" "Ljava/lang/String;" (.null) := D97 (Or.inr (tw74 hw)) (ty := (.object "java/lang/String")) (by decide)
          have F97_status : Fld Z h97 b97 "com/example/carelane/carelane/registry/Episode" "status" "Ljava/lang/String;" (.null) := D97 (Or.inr (tw76 hw)) (ty := (.object "java/lang/String")) (by decide)
          have F97_managingOrganizationId : Fld Z h97 b97 "com/example/carelane/carelane/registry/Episode" "managingOrganizationId" "Ljava/lang/String;" (.null) := D97 (Or.inr (tw78 hw)) (ty := (.object "java/lang/String")) (by decide)
          refine Own.s_dup X97 at_378 rfl rfl ?_
          refine Own.s_ldcStr rfl X97 at_379 (tw59 hw) (wSA hw) (by decide) (vs := [(.int (101 : Int32)), (.int (49 : Int32))]) (z := (2 : Int32)) ⟨by decide, by decide⟩ (by decide) (by decide) 8 (by decide) (by decide) (by decide) (by decide) rfl ?_
          intro a98 b98 k98 vm98 T98 h98 X98 V98 E98 C98 U98 A98
          have S98 : Own.Str Z h98 a98 [(101 : Int32), (49 : Int32)] := Own.Str.mk (by decide) (by decide) E98 C98 U98 A98
          refine Own.s_ldcStr rfl X98 at_381 (tw60 hw) (wSA hw) (by decide) (vs := [(.int (112 : Int32)), (.int (49 : Int32))]) (z := (2 : Int32)) ⟨by decide, by decide⟩ (by decide) (by decide) 8 (by decide) (by decide) (by decide) (by decide) rfl ?_
          intro a99 b99 k99 vm99 T99 h99 X99 V99 E99 C99 U99 A99
          have S99 : Own.Str Z h99 a99 [(112 : Int32), (49 : Int32)] := Own.Str.mk (by decide) (by decide) E99 C99 U99 A99
          refine Own.s_aload X99 at_383 rfl rfl rfl ?_
          refine Own.s_ldcStr rfl X99 at_385 (tw61 hw) (wSA hw) (by decide) (vs := [(.int (111 : Int32)), (.int (49 : Int32))]) (z := (2 : Int32)) ⟨by decide, by decide⟩ (by decide) (by decide) 8 (by decide) (by decide) (by decide) (by decide) rfl ?_
          intro a100 b100 k100 vm100 T100 h100 X100 V100 E100 C100 U100 A100
          have S100 : Own.Str Z h100 a100 [(111 : Int32), (49 : Int32)] := Own.Str.mk (by decide) (by decide) E100 C100 U100 A100
          have ex101 : Ext h97 h98 := Own.extK (Own.Ext.rfl' h97) V98.1 all0
          have ex102 : Ext h97 h99 := Own.extK ex101 V99.1 all0
          have ex103 : Ext h97 h100 := Own.extK ex102 V100.1 all0
          have F_104 := Fld.ext ex103 F97_id
          have F_105 := Fld.ext ex103 F97_personId
          have F_106 := Fld.ext ex103 F97_status
          have F_107 := Fld.ext ex103 F97_managingOrganizationId
          have E_108 := Exa.ext ex103 E97
          have O109 := (((O97.ev V98).ev V99).ev V100)
          refine Own.c_special X100 at_387 rfl (tw62 hw) (tw63 hw) (tw58 hw) (tw64 hw) (by decide) b97 [(.ref a98), (.ref a99), (.ref b2), (.ref a100)] [(.ref b97)] 1 (rm_ep hw b97 a98 a99 (.ref b2) rfl a100  h100 X100.hE O109.2.1 E_108 F_104 F_105 F_106 F_107 ) (fun q => nomatch q) (Own.Ok.one O109) (lenOf pd_4 rfl) rfl (Nat.le_of_eq rfl) (by decide) (by decide) (by decide) (by decide) rfl rfl ?_
          intro v110 vm110 T110 h110 L110 X110 V110 Q110
          obtain ⟨rfl, E110, F110_0, F110_1, F110_2, F110_3⟩ := Q110
          refine Own.s_astore X110 at_390 rfl #[.val (.int p0), .val (.int p1), .val (.int p2), .val (.int p3), .val (.int ts), .val (.int ls), .val (.int rp), .val (.int pp), .val (.int cc), .val (.int c2), .val (.ref tt), .val (.ref bb), .val (.ref b2), .val (.int (0 : Int32)), .val (.ref b97)] rfl rfl ?_
          refine Own.s_aload X110 at_392 rfl rfl rfl ?_
          have ex111 : Ext h43 h71 := Own.extK (Own.Ext.rfl' h43) V71.1 all0
          have ex112 : Ext h43 h97 := Own.extK ex111 V97.1 all0
          have ex113 : Ext h43 h98 := Own.extK ex112 V98.1 all0
          have ex114 : Ext h43 h99 := Own.extK ex113 V99.1 all0
          have ex115 : Ext h43 h100 := Own.extK ex114 V100.1 all0
          have le116 : h43.size ≤ h71.size := V71.1.1
          have ex117 : Ext h43 h110 := Own.extK ex115 V110.1 (allS (Nat.le_trans le116 g97) all0)
          have S_118 := Own.Str.ext S43 ex117
          refine Own.c_virtual X110 at_394 (tw79 hw) (tw80 hw) (notFace_of_selects (args := #[]) (mvT X110.hZ (tw82 hw))) (tw82 hw) (tw81 hw) (tw58 hw) (tw83 hw) (by decide) b97 [] [] 0 E110 (rm_aocS hw b97 b2 [b0_, b1_, b2_, b3_, b4_, b5_] SC hzc SF hfm h110 X110.hE E110 F110_2 S_118) (fun _ => rfl) Own.Ok.nil (lenOf pd_2 rfl) rfl (Nat.le_of_eq rfl) (by decide) (by decide) (by decide) (by decide) rfl rfl ?_
          intro v119 vm119 T119 h119 L119 X119 V119 Q119
          rcases Q119 with Q119 | Q119
          · obtain ⟨rfl, hq119⟩ := Q119
            refine Own.s_iload X119 at_397 rfl rfl ?_
            refine Own.s_icmpT X119 at_399 (feq (show ¬ (1 : Int32) = (0 : Int32) by decide)).2 (by decide) (pc' := 406) (by decide) ?_
            refine Own.s_iconst X119 at_406 (0 : Int32) (by decide) rfl ?_
            exact Own.r_nar X119 rfl (Or.inl rfl) at_407 (by decide) (by decide) (absurd (hEx.mp hq119).2 (fun r => r.elim hc347_45 hc359_73))
          · obtain ⟨rfl, hq119⟩ := Q119
            refine Own.s_iload X119 at_397 rfl rfl ?_
            refine Own.s_icmpF X119 at_399 (teq (show (0 : Int32) = (0 : Int32) by decide)).2 rfl ?_
            refine Own.s_iconst X119 at_402 (1 : Int32) (by decide) rfl ?_
            refine Own.s_goto X119 at_403 (by decide) (pc' := 407) (by decide) ?_
            exact Own.r_nar X119 rfl (Or.inl rfl) at_407 (by decide) (by decide) (by decide)
    · refine Own.s_ifF X43 at_336 ((if0 _ _).trans (feq hc336_44).1) rfl ?_
      refine Own.s_iload X43 at_339 rfl rfl ?_
      refine Own.s_iconst X43 at_341 (1 : Int32) (by decide) rfl ?_
      by_cases hc342_120 : ts = (1 : Int32)
      · refine Own.s_icmpF X43 at_342 (teq hc342_120).2 rfl ?_
        refine Own.s_iload X43 at_345 rfl rfl ?_
        by_cases hc347_121 : rp = (0 : Int32)
        · refine Own.s_ifT X43 at_347 ((if0 _ _).trans (teq hc347_121).1) (by decide) (pc' := 362) (by decide) ?_
          refine Own.s_iconst X43 at_362 (1 : Int32) (by decide) rfl ?_
          refine Own.s_goto X43 at_363 (by decide) (pc' := 367) (by decide) ?_
          refine Own.s_istore X43 at_367 #[.val (.int p0), .val (.int p1), .val (.int p2), .val (.int p3), .val (.int ts), .val (.int ls), .val (.int rp), .val (.int pp), .val (.int cc), .val (.int c2), .val (.ref tt), .val (.ref bb), .val (.ref b2), .val (.int (1 : Int32)), .unset] rfl rfl ?_
          refine Own.s_goto X43 at_369 (by decide) (pc' := 375) (by decide) ?_
          refine Own.s_new X43 at_375 (tw56 hw) (tw57 hw) (tw58 hw) (by decide) (by decide) rfl ?_
          intro b122 T122 h122 X122 V122 g122 E122 O122 D122
          have F122_id : Fld Z h122 b122 "com/example/carelane/carelane/registry/Episode" "id" "Ljava/lang/String;" (.null) := D122 (Or.inr (tw72 hw)) (ty := (.object "java/lang/String")) (by decide)
          have F122_personId : Fld Z h122 b122 "com/example/carelane/carelane/registry/Episode" "personId" "Ljava/lang/String;" (.null) := D122 (Or.inr (tw74 hw)) (ty := (.object "java/lang/String")) (by decide)
          have F122_status : Fld Z h122 b122 "com/example/carelane/carelane/registry/Episode" "status" "Ljava/lang/String;" (.null) := D122 (Or.inr (tw76 hw)) (ty := (.object "java/lang/String")) (by decide)
          have F122_managingOrganizationId : Fld Z h122 b122 "com/example/carelane/carelane/registry/Episode" "managingOrganizationId" "Ljava/lang/String;" (.null) := D122 (Or.inr (tw78 hw)) (ty := (.object "java/lang/String")) (by decide)
          refine Own.s_dup X122 at_378 rfl rfl ?_
          refine Own.s_ldcStr rfl X122 at_379 (tw59 hw) (wSA hw) (by decide) (vs := [(.int (101 : Int32)), (.int (49 : Int32))]) (z := (2 : Int32)) ⟨by decide, by decide⟩ (by decide) (by decide) 8 (by decide) (by decide) (by decide) (by decide) rfl ?_
          intro a123 b123 k123 vm123 T123 h123 X123 V123 E123 C123 U123 A123
          have S123 : Own.Str Z h123 a123 [(101 : Int32), (49 : Int32)] := Own.Str.mk (by decide) (by decide) E123 C123 U123 A123
          refine Own.s_ldcStr rfl X123 at_381 (tw60 hw) (wSA hw) (by decide) (vs := [(.int (112 : Int32)), (.int (49 : Int32))]) (z := (2 : Int32)) ⟨by decide, by decide⟩ (by decide) (by decide) 8 (by decide) (by decide) (by decide) (by decide) rfl ?_
          intro a124 b124 k124 vm124 T124 h124 X124 V124 E124 C124 U124 A124
          have S124 : Own.Str Z h124 a124 [(112 : Int32), (49 : Int32)] := Own.Str.mk (by decide) (by decide) E124 C124 U124 A124
          refine Own.s_aload X124 at_383 rfl rfl rfl ?_
          refine Own.s_ldcStr rfl X124 at_385 (tw61 hw) (wSA hw) (by decide) (vs := [(.int (111 : Int32)), (.int (49 : Int32))]) (z := (2 : Int32)) ⟨by decide, by decide⟩ (by decide) (by decide) 8 (by decide) (by decide) (by decide) (by decide) rfl ?_
          intro a125 b125 k125 vm125 T125 h125 X125 V125 E125 C125 U125 A125
          have S125 : Own.Str Z h125 a125 [(111 : Int32), (49 : Int32)] := Own.Str.mk (by decide) (by decide) E125 C125 U125 A125
          have ex126 : Ext h122 h123 := Own.extK (Own.Ext.rfl' h122) V123.1 all0
          have ex127 : Ext h122 h124 := Own.extK ex126 V124.1 all0
          have ex128 : Ext h122 h125 := Own.extK ex127 V125.1 all0
          have F_129 := Fld.ext ex128 F122_id
          have F_130 := Fld.ext ex128 F122_personId
          have F_131 := Fld.ext ex128 F122_status
          have F_132 := Fld.ext ex128 F122_managingOrganizationId
          have E_133 := Exa.ext ex128 E122
          have O134 := (((O122.ev V123).ev V124).ev V125)
          refine Own.c_special X125 at_387 rfl (tw62 hw) (tw63 hw) (tw58 hw) (tw64 hw) (by decide) b122 [(.ref a123), (.ref a124), (.ref b2), (.ref a125)] [(.ref b122)] 1 (rm_ep hw b122 a123 a124 (.ref b2) rfl a125  h125 X125.hE O134.2.1 E_133 F_129 F_130 F_131 F_132 ) (fun q => nomatch q) (Own.Ok.one O134) (lenOf pd_4 rfl) rfl (Nat.le_of_eq rfl) (by decide) (by decide) (by decide) (by decide) rfl rfl ?_
          intro v135 vm135 T135 h135 L135 X135 V135 Q135
          obtain ⟨rfl, E135, F135_0, F135_1, F135_2, F135_3⟩ := Q135
          refine Own.s_astore X135 at_390 rfl #[.val (.int p0), .val (.int p1), .val (.int p2), .val (.int p3), .val (.int ts), .val (.int ls), .val (.int rp), .val (.int pp), .val (.int cc), .val (.int c2), .val (.ref tt), .val (.ref bb), .val (.ref b2), .val (.int (1 : Int32)), .val (.ref b122)] rfl rfl ?_
          refine Own.s_aload X135 at_392 rfl rfl rfl ?_
          have ex136 : Ext h43 h122 := Own.extK (Own.Ext.rfl' h43) V122.1 all0
          have ex137 : Ext h43 h123 := Own.extK ex136 V123.1 all0
          have ex138 : Ext h43 h124 := Own.extK ex137 V124.1 all0
          have ex139 : Ext h43 h125 := Own.extK ex138 V125.1 all0
          have ex140 : Ext h43 h135 := Own.extK ex139 V135.1 (allS g122 all0)
          have S_141 := Own.Str.ext S43 ex140
          refine Own.c_virtual X135 at_394 (tw79 hw) (tw80 hw) (notFace_of_selects (args := #[]) (mvT X135.hZ (tw82 hw))) (tw82 hw) (tw81 hw) (tw58 hw) (tw83 hw) (by decide) b122 [] [] 0 E135 (rm_aocS hw b122 b2 [b0_, b1_, b2_, b3_, b4_, b5_] SC hzc SF hfm h135 X135.hE E135 F135_2 S_141) (fun _ => rfl) Own.Ok.nil (lenOf pd_2 rfl) rfl (Nat.le_of_eq rfl) (by decide) (by decide) (by decide) (by decide) rfl rfl ?_
          intro v142 vm142 T142 h142 L142 X142 V142 Q142
          rcases Q142 with Q142 | Q142
          · obtain ⟨rfl, hq142⟩ := Q142
            refine Own.s_iload X142 at_397 rfl rfl ?_
            refine Own.s_icmpF X142 at_399 (teq (show (1 : Int32) = (1 : Int32) by decide)).2 rfl ?_
            refine Own.s_iconst X142 at_402 (1 : Int32) (by decide) rfl ?_
            refine Own.s_goto X142 at_403 (by decide) (pc' := 407) (by decide) ?_
            exact Own.r_nar X142 rfl (Or.inl rfl) at_407 (by decide) (by decide) (by decide)
          · obtain ⟨rfl, hq142⟩ := Q142
            refine Own.s_iload X142 at_397 rfl rfl ?_
            refine Own.s_icmpT X142 at_399 (feq (show ¬ (0 : Int32) = (1 : Int32) by decide)).2 (by decide) (pc' := 406) (by decide) ?_
            refine Own.s_iconst X142 at_406 (0 : Int32) (by decide) rfl ?_
            exact Own.r_nar X142 rfl (Or.inl rfl) at_407 (by decide) (by decide) (absurd (hEx.mpr ⟨Or.inr hc342_120, Or.inl hc347_121⟩) hq142)
        · refine Own.s_ifF X43 at_347 ((if0 _ _).trans (feq hc347_121).1) rfl ?_
          refine Own.s_iload X43 at_350 rfl rfl ?_
          refine Own.s_aload X43 at_352 rfl rfl rfl ?_
          refine Own.s_iload X43 at_354 rfl rfl ?_
          have ex143 : Ext h0s h43 := Own.extK ex29 V43.1 (allS g2 all0)
          have S_144 := Own.Str.ext St ex143
          have Z_145 := Sta.ext ex143 SC0
          have Z_146 := Sta.ext ex143 SF0
          have E_148 := Exa.ext ex143 St.exa
          refine Own.b_virtual X43 at_356 (tw10 hw) (tw11 hw) (notFace_of_selects (args := #[]) (mvT X43.hZ (tw13 hw))) (tw13 hw) (tw12 hw) (by decide) tt [(.int pp)] [(.int cc)] E_148 (Own.strAt (W := 1) (i := pp.toNatClampNeg) X43.hZ (wChN hw) (tw3 hw) S_144 Z_145 hzc Z_146 hfm hi6 hj6 (by decide) (by decide)) (fun v h' L q => Own.strAtQ (z := tp) htp q) Own.Ok.nil (lenOf pd_5 rfl) rfl (Nat.le_of_eq rfl) (by decide) (by decide) rfl rfl ?_
          intro v147 vm147 T147 h147 L147 X147 V147 Q147
          obtain rfl := Q147
          by_cases hc359_149 : cc = tp
          · refine Own.s_icmpF X147 at_359 (teq hc359_149).2 rfl ?_
            refine Own.s_iconst X147 at_362 (1 : Int32) (by decide) rfl ?_
            refine Own.s_goto X147 at_363 (by decide) (pc' := 367) (by decide) ?_
            refine Own.s_istore X147 at_367 #[.val (.int p0), .val (.int p1), .val (.int p2), .val (.int p3), .val (.int ts), .val (.int ls), .val (.int rp), .val (.int pp), .val (.int cc), .val (.int c2), .val (.ref tt), .val (.ref bb), .val (.ref b2), .val (.int (1 : Int32)), .unset] rfl rfl ?_
            refine Own.s_goto X147 at_369 (by decide) (pc' := 375) (by decide) ?_
            refine Own.s_new X147 at_375 (tw56 hw) (tw57 hw) (tw58 hw) (by decide) (by decide) rfl ?_
            intro b150 T150 h150 X150 V150 g150 E150 O150 D150
            have F150_id : Fld Z h150 b150 "com/example/carelane/carelane/registry/Episode" "id" "Ljava/lang/String;" (.null) := D150 (Or.inr (tw72 hw)) (ty := (.object "java/lang/String")) (by decide)
            have F150_personId : Fld Z h150 b150 "com/example/carelane/carelane/registry/Episode" "personId" "Ljava/lang/String;" (.null) := D150 (Or.inr (tw74 hw)) (ty := (.object "java/lang/String")) (by decide)
            have F150_status : Fld Z h150 b150 "com/example/carelane/carelane/registry/Episode" "status" "Ljava/lang/String;" (.null) := D150 (Or.inr (tw76 hw)) (ty := (.object "java/lang/String")) (by decide)
            have F150_managingOrganizationId : Fld Z h150 b150 "com/example/carelane/carelane/registry/Episode" "managingOrganizationId" "Ljava/lang/String;" (.null) := D150 (Or.inr (tw78 hw)) (ty := (.object "java/lang/String")) (by decide)
            refine Own.s_dup X150 at_378 rfl rfl ?_
            refine Own.s_ldcStr rfl X150 at_379 (tw59 hw) (wSA hw) (by decide) (vs := [(.int (101 : Int32)), (.int (49 : Int32))]) (z := (2 : Int32)) ⟨by decide, by decide⟩ (by decide) (by decide) 8 (by decide) (by decide) (by decide) (by decide) rfl ?_
            intro a151 b151 k151 vm151 T151 h151 X151 V151 E151 C151 U151 A151
            have S151 : Own.Str Z h151 a151 [(101 : Int32), (49 : Int32)] := Own.Str.mk (by decide) (by decide) E151 C151 U151 A151
            refine Own.s_ldcStr rfl X151 at_381 (tw60 hw) (wSA hw) (by decide) (vs := [(.int (112 : Int32)), (.int (49 : Int32))]) (z := (2 : Int32)) ⟨by decide, by decide⟩ (by decide) (by decide) 8 (by decide) (by decide) (by decide) (by decide) rfl ?_
            intro a152 b152 k152 vm152 T152 h152 X152 V152 E152 C152 U152 A152
            have S152 : Own.Str Z h152 a152 [(112 : Int32), (49 : Int32)] := Own.Str.mk (by decide) (by decide) E152 C152 U152 A152
            refine Own.s_aload X152 at_383 rfl rfl rfl ?_
            refine Own.s_ldcStr rfl X152 at_385 (tw61 hw) (wSA hw) (by decide) (vs := [(.int (111 : Int32)), (.int (49 : Int32))]) (z := (2 : Int32)) ⟨by decide, by decide⟩ (by decide) (by decide) 8 (by decide) (by decide) (by decide) (by decide) rfl ?_
            intro a153 b153 k153 vm153 T153 h153 X153 V153 E153 C153 U153 A153
            have S153 : Own.Str Z h153 a153 [(111 : Int32), (49 : Int32)] := Own.Str.mk (by decide) (by decide) E153 C153 U153 A153
            have ex154 : Ext h150 h151 := Own.extK (Own.Ext.rfl' h150) V151.1 all0
            have ex155 : Ext h150 h152 := Own.extK ex154 V152.1 all0
            have ex156 : Ext h150 h153 := Own.extK ex155 V153.1 all0
            have F_157 := Fld.ext ex156 F150_id
            have F_158 := Fld.ext ex156 F150_personId
            have F_159 := Fld.ext ex156 F150_status
            have F_160 := Fld.ext ex156 F150_managingOrganizationId
            have E_161 := Exa.ext ex156 E150
            have O162 := (((O150.ev V151).ev V152).ev V153)
            refine Own.c_special X153 at_387 rfl (tw62 hw) (tw63 hw) (tw58 hw) (tw64 hw) (by decide) b150 [(.ref a151), (.ref a152), (.ref b2), (.ref a153)] [(.ref b150)] 1 (rm_ep hw b150 a151 a152 (.ref b2) rfl a153  h153 X153.hE O162.2.1 E_161 F_157 F_158 F_159 F_160 ) (fun q => nomatch q) (Own.Ok.one O162) (lenOf pd_4 rfl) rfl (Nat.le_of_eq rfl) (by decide) (by decide) (by decide) (by decide) rfl rfl ?_
            intro v163 vm163 T163 h163 L163 X163 V163 Q163
            obtain ⟨rfl, E163, F163_0, F163_1, F163_2, F163_3⟩ := Q163
            refine Own.s_astore X163 at_390 rfl #[.val (.int p0), .val (.int p1), .val (.int p2), .val (.int p3), .val (.int ts), .val (.int ls), .val (.int rp), .val (.int pp), .val (.int cc), .val (.int c2), .val (.ref tt), .val (.ref bb), .val (.ref b2), .val (.int (1 : Int32)), .val (.ref b150)] rfl rfl ?_
            refine Own.s_aload X163 at_392 rfl rfl rfl ?_
            have ex164 : Ext h43 h147 := Own.extK (Own.Ext.rfl' h43) V147.1 all0
            have ex165 : Ext h43 h150 := Own.extK ex164 V150.1 all0
            have ex166 : Ext h43 h151 := Own.extK ex165 V151.1 all0
            have ex167 : Ext h43 h152 := Own.extK ex166 V152.1 all0
            have ex168 : Ext h43 h153 := Own.extK ex167 V153.1 all0
            have le169 : h43.size ≤ h147.size := V147.1.1
            have ex170 : Ext h43 h163 := Own.extK ex168 V163.1 (allS (Nat.le_trans le169 g150) all0)
            have S_171 := Own.Str.ext S43 ex170
            refine Own.c_virtual X163 at_394 (tw79 hw) (tw80 hw) (notFace_of_selects (args := #[]) (mvT X163.hZ (tw82 hw))) (tw82 hw) (tw81 hw) (tw58 hw) (tw83 hw) (by decide) b150 [] [] 0 E163 (rm_aocS hw b150 b2 [b0_, b1_, b2_, b3_, b4_, b5_] SC hzc SF hfm h163 X163.hE E163 F163_2 S_171) (fun _ => rfl) Own.Ok.nil (lenOf pd_2 rfl) rfl (Nat.le_of_eq rfl) (by decide) (by decide) (by decide) (by decide) rfl rfl ?_
            intro v172 vm172 T172 h172 L172 X172 V172 Q172
            rcases Q172 with Q172 | Q172
            · obtain ⟨rfl, hq172⟩ := Q172
              refine Own.s_iload X172 at_397 rfl rfl ?_
              refine Own.s_icmpF X172 at_399 (teq (show (1 : Int32) = (1 : Int32) by decide)).2 rfl ?_
              refine Own.s_iconst X172 at_402 (1 : Int32) (by decide) rfl ?_
              refine Own.s_goto X172 at_403 (by decide) (pc' := 407) (by decide) ?_
              exact Own.r_nar X172 rfl (Or.inl rfl) at_407 (by decide) (by decide) (by decide)
            · obtain ⟨rfl, hq172⟩ := Q172
              refine Own.s_iload X172 at_397 rfl rfl ?_
              refine Own.s_icmpT X172 at_399 (feq (show ¬ (0 : Int32) = (1 : Int32) by decide)).2 (by decide) (pc' := 406) (by decide) ?_
              refine Own.s_iconst X172 at_406 (0 : Int32) (by decide) rfl ?_
              exact Own.r_nar X172 rfl (Or.inl rfl) at_407 (by decide) (by decide) (absurd (hEx.mpr ⟨Or.inr hc342_120, Or.inr hc359_149⟩) hq172)
          · refine Own.s_icmpT X147 at_359 (feq hc359_149).2 (by decide) (pc' := 366) (by decide) ?_
            refine Own.s_iconst X147 at_366 (0 : Int32) (by decide) rfl ?_
            refine Own.s_istore X147 at_367 #[.val (.int p0), .val (.int p1), .val (.int p2), .val (.int p3), .val (.int ts), .val (.int ls), .val (.int rp), .val (.int pp), .val (.int cc), .val (.int c2), .val (.ref tt), .val (.ref bb), .val (.ref b2), .val (.int (0 : Int32)), .unset] rfl rfl ?_
            refine Own.s_goto X147 at_369 (by decide) (pc' := 375) (by decide) ?_
            refine Own.s_new X147 at_375 (tw56 hw) (tw57 hw) (tw58 hw) (by decide) (by decide) rfl ?_
            intro b173 T173 h173 X173 V173 g173 E173 O173 D173
            have F173_id : Fld Z h173 b173 "com/example/carelane/carelane/registry/Episode" "id" "Ljava/lang/String;" (.null) := D173 (Or.inr (tw72 hw)) (ty := (.object "java/lang/String")) (by decide)
            have F173_personId : Fld Z h173 b173 "com/example/carelane/carelane/registry/Episode" "personId" "Ljava/lang/String;" (.null) := D173 (Or.inr (tw74 hw)) (ty := (.object "java/lang/String")) (by decide)
            have F173_status : Fld Z h173 b173 "com/example/carelane/carelane/registry/Episode" "status" "Ljava/lang/String;" (.null) := D173 (Or.inr (tw76 hw)) (ty := (.object "java/lang/String")) (by decide)
            have F173_managingOrganizationId : Fld Z h173 b173 "com/example/carelane/carelane/registry/Episode" "managingOrganizationId" "Ljava/lang/String;" (.null) := D173 (Or.inr (tw78 hw)) (ty := (.object "java/lang/String")) (by decide)
            refine Own.s_dup X173 at_378 rfl rfl ?_
            refine Own.s_ldcStr rfl X173 at_379 (tw59 hw) (wSA hw) (by decide) (vs := [(.int (101 : Int32)), (.int (49 : Int32))]) (z := (2 : Int32)) ⟨by decide, by decide⟩ (by decide) (by decide) 8 (by decide) (by decide) (by decide) (by decide) rfl ?_
            intro a174 b174 k174 vm174 T174 h174 X174 V174 E174 C174 U174 A174
            have S174 : Own.Str Z h174 a174 [(101 : Int32), (49 : Int32)] := Own.Str.mk (by decide) (by decide) E174 C174 U174 A174
            refine Own.s_ldcStr rfl X174 at_381 (tw60 hw) (wSA hw) (by decide) (vs := [(.int (112 : Int32)), (.int (49 : Int32))]) (z := (2 : Int32)) ⟨by decide, by decide⟩ (by decide) (by decide) 8 (by decide) (by decide) (by decide) (by decide) rfl ?_
            intro a175 b175 k175 vm175 T175 h175 X175 V175 E175 C175 U175 A175
            have S175 : Own.Str Z h175 a175 [(112 : Int32), (49 : Int32)] := Own.Str.mk (by decide) (by decide) E175 C175 U175 A175
            refine Own.s_aload X175 at_383 rfl rfl rfl ?_
            refine Own.s_ldcStr rfl X175 at_385 (tw61 hw) (wSA hw) (by decide) (vs := [(.int (111 : Int32)), (.int (49 : Int32))]) (z := (2 : Int32)) ⟨by decide, by decide⟩ (by decide) (by decide) 8 (by decide) (by decide) (by decide) (by decide) rfl ?_
            intro a176 b176 k176 vm176 T176 h176 X176 V176 E176 C176 U176 A176
            have S176 : Own.Str Z h176 a176 [(111 : Int32), (49 : Int32)] := Own.Str.mk (by decide) (by decide) E176 C176 U176 A176
            have ex177 : Ext h173 h174 := Own.extK (Own.Ext.rfl' h173) V174.1 all0
            have ex178 : Ext h173 h175 := Own.extK ex177 V175.1 all0
            have ex179 : Ext h173 h176 := Own.extK ex178 V176.1 all0
            have F_180 := Fld.ext ex179 F173_id
            have F_181 := Fld.ext ex179 F173_personId
            have F_182 := Fld.ext ex179 F173_status
            have F_183 := Fld.ext ex179 F173_managingOrganizationId
            have E_184 := Exa.ext ex179 E173
            have O185 := (((O173.ev V174).ev V175).ev V176)
            refine Own.c_special X176 at_387 rfl (tw62 hw) (tw63 hw) (tw58 hw) (tw64 hw) (by decide) b173 [(.ref a174), (.ref a175), (.ref b2), (.ref a176)] [(.ref b173)] 1 (rm_ep hw b173 a174 a175 (.ref b2) rfl a176  h176 X176.hE O185.2.1 E_184 F_180 F_181 F_182 F_183 ) (fun q => nomatch q) (Own.Ok.one O185) (lenOf pd_4 rfl) rfl (Nat.le_of_eq rfl) (by decide) (by decide) (by decide) (by decide) rfl rfl ?_
            intro v186 vm186 T186 h186 L186 X186 V186 Q186
            obtain ⟨rfl, E186, F186_0, F186_1, F186_2, F186_3⟩ := Q186
            refine Own.s_astore X186 at_390 rfl #[.val (.int p0), .val (.int p1), .val (.int p2), .val (.int p3), .val (.int ts), .val (.int ls), .val (.int rp), .val (.int pp), .val (.int cc), .val (.int c2), .val (.ref tt), .val (.ref bb), .val (.ref b2), .val (.int (0 : Int32)), .val (.ref b173)] rfl rfl ?_
            refine Own.s_aload X186 at_392 rfl rfl rfl ?_
            have ex187 : Ext h43 h147 := Own.extK (Own.Ext.rfl' h43) V147.1 all0
            have ex188 : Ext h43 h173 := Own.extK ex187 V173.1 all0
            have ex189 : Ext h43 h174 := Own.extK ex188 V174.1 all0
            have ex190 : Ext h43 h175 := Own.extK ex189 V175.1 all0
            have ex191 : Ext h43 h176 := Own.extK ex190 V176.1 all0
            have le192 : h43.size ≤ h147.size := V147.1.1
            have ex193 : Ext h43 h186 := Own.extK ex191 V186.1 (allS (Nat.le_trans le192 g173) all0)
            have S_194 := Own.Str.ext S43 ex193
            refine Own.c_virtual X186 at_394 (tw79 hw) (tw80 hw) (notFace_of_selects (args := #[]) (mvT X186.hZ (tw82 hw))) (tw82 hw) (tw81 hw) (tw58 hw) (tw83 hw) (by decide) b173 [] [] 0 E186 (rm_aocS hw b173 b2 [b0_, b1_, b2_, b3_, b4_, b5_] SC hzc SF hfm h186 X186.hE E186 F186_2 S_194) (fun _ => rfl) Own.Ok.nil (lenOf pd_2 rfl) rfl (Nat.le_of_eq rfl) (by decide) (by decide) (by decide) (by decide) rfl rfl ?_
            intro v195 vm195 T195 h195 L195 X195 V195 Q195
            rcases Q195 with Q195 | Q195
            · obtain ⟨rfl, hq195⟩ := Q195
              refine Own.s_iload X195 at_397 rfl rfl ?_
              refine Own.s_icmpT X195 at_399 (feq (show ¬ (1 : Int32) = (0 : Int32) by decide)).2 (by decide) (pc' := 406) (by decide) ?_
              refine Own.s_iconst X195 at_406 (0 : Int32) (by decide) rfl ?_
              exact Own.r_nar X195 rfl (Or.inl rfl) at_407 (by decide) (by decide) (absurd (hEx.mp hq195).2 (fun r => r.elim hc347_121 hc359_149))
            · obtain ⟨rfl, hq195⟩ := Q195
              refine Own.s_iload X195 at_397 rfl rfl ?_
              refine Own.s_icmpF X195 at_399 (teq (show (0 : Int32) = (0 : Int32) by decide)).2 rfl ?_
              refine Own.s_iconst X195 at_402 (1 : Int32) (by decide) rfl ?_
              refine Own.s_goto X195 at_403 (by decide) (pc' := 407) (by decide) ?_
              exact Own.r_nar X195 rfl (Or.inl rfl) at_407 (by decide) (by decide) (by decide)
      · refine Own.s_icmpT X43 at_342 (feq hc342_120).2 (by decide) (pc' := 372) (by decide) ?_
        refine Own.s_iconst X43 at_372 (0 : Int32) (by decide) rfl ?_
        refine Own.s_istore X43 at_373 #[.val (.int p0), .val (.int p1), .val (.int p2), .val (.int p3), .val (.int ts), .val (.int ls), .val (.int rp), .val (.int pp), .val (.int cc), .val (.int c2), .val (.ref tt), .val (.ref bb), .val (.ref b2), .val (.int (0 : Int32)), .unset] rfl rfl ?_
        refine Own.s_new X43 at_375 (tw56 hw) (tw57 hw) (tw58 hw) (by decide) (by decide) rfl ?_
        intro b196 T196 h196 X196 V196 g196 E196 O196 D196
        have F196_id : Fld Z h196 b196 "com/example/carelane/carelane/registry/Episode" "id" "Ljava/lang/String;" (.null) := D196 (Or.inr (tw72 hw)) (ty := (.object "java/lang/String")) (by decide)
        have F196_personId : Fld Z h196 b196 "com/example/carelane/carelane/registry/Episode" "personId" "Ljava/lang/String;" (.null) := D196 (Or.inr (tw74 hw)) (ty := (.object "java/lang/String")) (by decide)
        have F196_status : Fld Z h196 b196 "com/example/carelane/carelane/registry/Episode" "status" "Ljava/lang/String;" (.null) := D196 (Or.inr (tw76 hw)) (ty := (.object "java/lang/String")) (by decide)
        have F196_managingOrganizationId : Fld Z h196 b196 "com/example/carelane/carelane/registry/Episode" "managingOrganizationId" "Ljava/lang/String;" (.null) := D196 (Or.inr (tw78 hw)) (ty := (.object "java/lang/String")) (by decide)
        refine Own.s_dup X196 at_378 rfl rfl ?_
        refine Own.s_ldcStr rfl X196 at_379 (tw59 hw) (wSA hw) (by decide) (vs := [(.int (101 : Int32)), (.int (49 : Int32))]) (z := (2 : Int32)) ⟨by decide, by decide⟩ (by decide) (by decide) 8 (by decide) (by decide) (by decide) (by decide) rfl ?_
        intro a197 b197 k197 vm197 T197 h197 X197 V197 E197 C197 U197 A197
        have S197 : Own.Str Z h197 a197 [(101 : Int32), (49 : Int32)] := Own.Str.mk (by decide) (by decide) E197 C197 U197 A197
        refine Own.s_ldcStr rfl X197 at_381 (tw60 hw) (wSA hw) (by decide) (vs := [(.int (112 : Int32)), (.int (49 : Int32))]) (z := (2 : Int32)) ⟨by decide, by decide⟩ (by decide) (by decide) 8 (by decide) (by decide) (by decide) (by decide) rfl ?_
        intro a198 b198 k198 vm198 T198 h198 X198 V198 E198 C198 U198 A198
        have S198 : Own.Str Z h198 a198 [(112 : Int32), (49 : Int32)] := Own.Str.mk (by decide) (by decide) E198 C198 U198 A198
        refine Own.s_aload X198 at_383 rfl rfl rfl ?_
        refine Own.s_ldcStr rfl X198 at_385 (tw61 hw) (wSA hw) (by decide) (vs := [(.int (111 : Int32)), (.int (49 : Int32))]) (z := (2 : Int32)) ⟨by decide, by decide⟩ (by decide) (by decide) 8 (by decide) (by decide) (by decide) (by decide) rfl ?_
        intro a199 b199 k199 vm199 T199 h199 X199 V199 E199 C199 U199 A199
        have S199 : Own.Str Z h199 a199 [(111 : Int32), (49 : Int32)] := Own.Str.mk (by decide) (by decide) E199 C199 U199 A199
        have ex200 : Ext h196 h197 := Own.extK (Own.Ext.rfl' h196) V197.1 all0
        have ex201 : Ext h196 h198 := Own.extK ex200 V198.1 all0
        have ex202 : Ext h196 h199 := Own.extK ex201 V199.1 all0
        have F_203 := Fld.ext ex202 F196_id
        have F_204 := Fld.ext ex202 F196_personId
        have F_205 := Fld.ext ex202 F196_status
        have F_206 := Fld.ext ex202 F196_managingOrganizationId
        have E_207 := Exa.ext ex202 E196
        have O208 := (((O196.ev V197).ev V198).ev V199)
        refine Own.c_special X199 at_387 rfl (tw62 hw) (tw63 hw) (tw58 hw) (tw64 hw) (by decide) b196 [(.ref a197), (.ref a198), (.ref b2), (.ref a199)] [(.ref b196)] 1 (rm_ep hw b196 a197 a198 (.ref b2) rfl a199  h199 X199.hE O208.2.1 E_207 F_203 F_204 F_205 F_206 ) (fun q => nomatch q) (Own.Ok.one O208) (lenOf pd_4 rfl) rfl (Nat.le_of_eq rfl) (by decide) (by decide) (by decide) (by decide) rfl rfl ?_
        intro v209 vm209 T209 h209 L209 X209 V209 Q209
        obtain ⟨rfl, E209, F209_0, F209_1, F209_2, F209_3⟩ := Q209
        refine Own.s_astore X209 at_390 rfl #[.val (.int p0), .val (.int p1), .val (.int p2), .val (.int p3), .val (.int ts), .val (.int ls), .val (.int rp), .val (.int pp), .val (.int cc), .val (.int c2), .val (.ref tt), .val (.ref bb), .val (.ref b2), .val (.int (0 : Int32)), .val (.ref b196)] rfl rfl ?_
        refine Own.s_aload X209 at_392 rfl rfl rfl ?_
        have ex210 : Ext h43 h196 := Own.extK (Own.Ext.rfl' h43) V196.1 all0
        have ex211 : Ext h43 h197 := Own.extK ex210 V197.1 all0
        have ex212 : Ext h43 h198 := Own.extK ex211 V198.1 all0
        have ex213 : Ext h43 h199 := Own.extK ex212 V199.1 all0
        have ex214 : Ext h43 h209 := Own.extK ex213 V209.1 (allS g196 all0)
        have S_215 := Own.Str.ext S43 ex214
        refine Own.c_virtual X209 at_394 (tw79 hw) (tw80 hw) (notFace_of_selects (args := #[]) (mvT X209.hZ (tw82 hw))) (tw82 hw) (tw81 hw) (tw58 hw) (tw83 hw) (by decide) b196 [] [] 0 E209 (rm_aocS hw b196 b2 [b0_, b1_, b2_, b3_, b4_, b5_] SC hzc SF hfm h209 X209.hE E209 F209_2 S_215) (fun _ => rfl) Own.Ok.nil (lenOf pd_2 rfl) rfl (Nat.le_of_eq rfl) (by decide) (by decide) (by decide) (by decide) rfl rfl ?_
        intro v216 vm216 T216 h216 L216 X216 V216 Q216
        rcases Q216 with Q216 | Q216
        · obtain ⟨rfl, hq216⟩ := Q216
          refine Own.s_iload X216 at_397 rfl rfl ?_
          refine Own.s_icmpT X216 at_399 (feq (show ¬ (1 : Int32) = (0 : Int32) by decide)).2 (by decide) (pc' := 406) (by decide) ?_
          refine Own.s_iconst X216 at_406 (0 : Int32) (by decide) rfl ?_
          exact Own.r_nar X216 rfl (Or.inl rfl) at_407 (by decide) (by decide) (absurd (hEx.mp hq216).1 (fun r => r.elim hc336_44 hc342_120))
        · obtain ⟨rfl, hq216⟩ := Q216
          refine Own.s_iload X216 at_397 rfl rfl ?_
          refine Own.s_icmpF X216 at_399 (teq (show (0 : Int32) = (0 : Int32) by decide)).2 rfl ?_
          refine Own.s_iconst X216 at_402 (1 : Int32) (by decide) rfl ?_
          refine Own.s_goto X216 at_403 (by decide) (pc' := 407) (by decide) ?_
          exact Own.r_nar X216 rfl (Or.inl rfl) at_407 (by decide) (by decide) (by decide)
  · refine Own.s_ifT Xs at_183 ((if0 _ _).trans (feq hc183_1).2) (by decide) (pc' := 244) (by decide) ?_
    refine Own.s_iload Xs at_244 rfl rfl ?_
    refine Own.s_iconst Xs at_246 (1 : Int32) (by decide) rfl ?_
    by_cases hc247_217 : ls = (1 : Int32)
    · refine Own.s_icmpF Xs at_247 (teq hc247_217).2 rfl ?_
      refine Own.s_new Xs at_250 (tw35 hw) (tw3 hw) (tw2 hw) (by decide) (by decide) rfl ?_
      intro b218 T218 h218 X218 V218 g218 E218 O218 D218
      have F218_value : Fld Z h218 b218 "java/lang/String" "value" "[B" (.null) := D218 (Or.inr (tw5 hw)) (ty := (.array .byte)) (by decide)
      have F218_coder : Fld Z h218 b218 "java/lang/String" "coder" "B" (.int 0) := D218 (Or.inr (tw6 hw)) (ty := .byte) (by decide)
      refine Own.s_dup X218 at_253 rfl rfl ?_
      refine Own.s_iconst X218 at_254 (5 : Int32) (by decide) rfl ?_
      refine Own.s_newarray X218 at_255 (tw9 hw) (by decide) 5 (by decide) (by decide) (by decide) (by decide) rfl ?_
      intro b219 T219 h219 k219 X219 V219 g219 A219 O219
      have B219 : Arv Z h219 b219 k219 .char (5 : Int32) [(.int (0 : Int32)), (.int (0 : Int32)), (.int (0 : Int32)), (.int (0 : Int32)), (.int (0 : Int32))] (.int (0 : Int32)) := A219.pad (pad_rep [] (.int (0 : Int32)) 5)
      refine Own.s_dup X219 at_257 rfl rfl ?_
      refine Own.s_iconst X219 at_258 (0 : Int32) (by decide) rfl ?_
      refine Own.s_aload X219 at_259 rfl rfl rfl ?_
      refine Own.s_iconst X219 at_261 (0 : Int32) (by decide) rfl ?_
      have ex220 : Ext h0s h218 := Own.extK (Own.Ext.rfl' h0s) V218.1 all0
      have ex221 : Ext h0s h219 := Own.extK ex220 V219.1 all0
      have A_222 := Arv.ext Ab ex221
      refine Own.s_caload X219 at_262 A_222 ⟨by decide, by decide⟩ rfl rfl ?_
      refine Own.s_castoreR X219 at_263 B219 ⟨by decide, by decide⟩ 0 (by decide) (Nat.le_of_ble_eq_true rfl) (Own.nar_chr hb0) O219 rfl ?_
      intro T223 h223 X223 V223 A223
      have B223 : Arv Z h223 b219 k219 .char (5 : Int32) [(.int b0_), (.int (0 : Int32)), (.int (0 : Int32)), (.int (0 : Int32)), (.int (0 : Int32))] (.int (0 : Int32)) := A223
      refine Own.s_dup X223 at_264 rfl rfl ?_
      refine Own.s_iconst X223 at_265 (1 : Int32) (by decide) rfl ?_
      refine Own.s_aload X223 at_266 rfl rfl rfl ?_
      refine Own.s_iconst X223 at_268 (1 : Int32) (by decide) rfl ?_
      have le224 : h0s.size ≤ h218.size := V218.1.1
      have ex225 : Ext h0s h223 := Own.extK ex221 V223.1 (allS (Nat.le_trans le224 g219) all0)
      have A_226 := Arv.ext Ab ex225
      refine Own.s_caload X223 at_269 A_226 ⟨by decide, by decide⟩ rfl rfl ?_
      have O228 := (O219.ev V223)
      refine Own.s_castoreR X223 at_270 B223 ⟨by decide, by decide⟩ 1 (by decide) (Nat.le_of_ble_eq_true rfl) (Own.nar_chr hb1) O228 rfl ?_
      intro T227 h227 X227 V227 A227
      have B227 : Arv Z h227 b219 k219 .char (5 : Int32) [(.int b0_), (.int b1_), (.int (0 : Int32)), (.int (0 : Int32)), (.int (0 : Int32))] (.int (0 : Int32)) := A227
      refine Own.s_dup X227 at_271 rfl rfl ?_
      refine Own.s_iconst X227 at_272 (2 : Int32) (by decide) rfl ?_
      refine Own.s_aload X227 at_273 rfl rfl rfl ?_
      refine Own.s_iconst X227 at_275 (2 : Int32) (by decide) rfl ?_
      have ex229 : Ext h0s h227 := Own.extK ex225 V227.1 (allS (Nat.le_trans le224 g219) all0)
      have A_230 := Arv.ext Ab ex229
      refine Own.s_caload X227 at_276 A_230 ⟨by decide, by decide⟩ rfl rfl ?_
      have O232 := (O228.ev V227)
      refine Own.s_castoreR X227 at_277 B227 ⟨by decide, by decide⟩ 2 (by decide) (Nat.le_of_ble_eq_true rfl) (Own.nar_chr hb2) O232 rfl ?_
      intro T231 h231 X231 V231 A231
      have B231 : Arv Z h231 b219 k219 .char (5 : Int32) [(.int b0_), (.int b1_), (.int b2_), (.int (0 : Int32)), (.int (0 : Int32))] (.int (0 : Int32)) := A231
      refine Own.s_dup X231 at_278 rfl rfl ?_
      refine Own.s_iconst X231 at_279 (3 : Int32) (by decide) rfl ?_
      refine Own.s_aload X231 at_280 rfl rfl rfl ?_
      refine Own.s_iconst X231 at_282 (3 : Int32) (by decide) rfl ?_
      have ex233 : Ext h0s h231 := Own.extK ex229 V231.1 (allS (Nat.le_trans le224 g219) all0)
      have A_234 := Arv.ext Ab ex233
      refine Own.s_caload X231 at_283 A_234 ⟨by decide, by decide⟩ rfl rfl ?_
      have O236 := (O232.ev V231)
      refine Own.s_castoreR X231 at_284 B231 ⟨by decide, by decide⟩ 3 (by decide) (Nat.le_of_ble_eq_true rfl) (Own.nar_chr hb3) O236 rfl ?_
      intro T235 h235 X235 V235 A235
      have B235 : Arv Z h235 b219 k219 .char (5 : Int32) [(.int b0_), (.int b1_), (.int b2_), (.int b3_), (.int (0 : Int32))] (.int (0 : Int32)) := A235
      refine Own.s_dup X235 at_285 rfl rfl ?_
      refine Own.s_iconst X235 at_286 (4 : Int32) (by decide) rfl ?_
      refine Own.s_aload X235 at_287 rfl rfl rfl ?_
      refine Own.s_iconst X235 at_289 (4 : Int32) (by decide) rfl ?_
      have ex237 : Ext h0s h235 := Own.extK ex233 V235.1 (allS (Nat.le_trans le224 g219) all0)
      have A_238 := Arv.ext Ab ex237
      refine Own.s_caload X235 at_290 A_238 ⟨by decide, by decide⟩ rfl rfl ?_
      have O240 := (O236.ev V235)
      refine Own.s_castoreR X235 at_291 B235 ⟨by decide, by decide⟩ 4 (by decide) (Nat.le_of_ble_eq_true rfl) (Own.nar_chr hb4) O240 rfl ?_
      intro T239 h239 X239 V239 A239
      have B239 : Arv Z h239 b219 k219 .char (5 : Int32) [(.int b0_), (.int b1_), (.int b2_), (.int b3_), (.int b4_)] (.int (0 : Int32)) := A239
      have ex241 : Ext h0s h239 := Own.extK ex237 V239.1 (allS (Nat.le_trans le224 g219) all0)
      have Z_242 := Sta.ext ex241 SC0
      have ex243 : Ext h218 h219 := Own.extK (Own.Ext.rfl' h218) V219.1 all0
      have ex244 : Ext h218 h223 := Own.extK ex243 V223.1 (allS g219 all0)
      have ex245 : Ext h218 h227 := Own.extK ex244 V227.1 (allS g219 all0)
      have ex246 : Ext h218 h231 := Own.extK ex245 V231.1 (allS g219 all0)
      have ex247 : Ext h218 h235 := Own.extK ex246 V235.1 (allS g219 all0)
      have ex248 : Ext h218 h239 := Own.extK ex247 V239.1 (allS g219 all0)
      have E_249 := Exa.ext ex248 E218
      have F_250 := Fld.ext ex248 F218_value
      have F_251 := Fld.ext ex248 F218_coder
      have O252 := ((((((O218.ev V219).ev V223).ev V227).ev V231).ev V235).ev V239)
      have lat253 : ∀ c ∈ [b0_, b1_, b2_, b3_, b4_], Own.Lat c := (Own.latL hb0 (Own.latL hb1 (Own.latL hb2 (Own.latL hb3 (Own.latL hb4 Own.latN)))))
      refine Own.b_special X239 at_292 rfl (tw36 hw) (tw37 hw) (tw38 hw) (by decide) b218 [(.ref b219)] [(.ref b218)] (Own.strNew (W := 1) (cs := [b0_, b1_, b2_, b3_, b4_]) (n := 5) X239.hZ (wNew hw) (tw3 hw) O252.2.1 X239.hE.1 E_249 F_250 F_251 B239 Z_242 hzc rfl (by decide) (by decide) (by decide) lat253 (by decide) (by decide)) (fun v h' L q => Own.strNewQ (n := 5) rfl (by decide) (by decide) lat253 q) (Own.Ok.one O252) (lenOf pd_3 rfl) rfl (Nat.le_of_eq rfl) (by decide) (by decide) rfl rfl ?_
      intro v254 vm254 T254 h254 L254 X254 V254 Q254
      obtain ⟨rfl, S254⟩ := Q254
      refine Own.s_astore X254 at_295 rfl #[.val (.int p0), .val (.int p1), .val (.int p2), .val (.int p3), .val (.int ts), .val (.int ls), .val (.int rp), .val (.int pp), .val (.int cc), .val (.int c2), .val (.ref tt), .val (.ref bb), .val (.ref b218), .unset, .unset] rfl rfl ?_
      refine Own.s_goto X254 at_297 (by decide) (pc' := 323) (by decide) ?_
      refine Own.s_iload X254 at_323 rfl rfl ?_
      refine Own.s_ifF X254 at_325 ((if0 _ _).trans (feq (show ¬ (ls = (0 : Int32)) by rw [hc247_217] <;> decide)).1) rfl ?_
      refine Own.s_iconst X254 at_328 (0 : Int32) (by decide) rfl ?_
      refine Own.s_istore X254 at_329 #[.val (.int p0), .val (.int p1), .val (.int p2), .val (.int p3), .val (.int ts), .val (.int ls), .val (.int rp), .val (.int pp), .val (.int cc), .val (.int c2), .val (.ref tt), .val (.ref bb), .val (.ref b218), .val (.int (0 : Int32)), .unset] rfl rfl ?_
      refine Own.s_goto X254 at_331 (by decide) (pc' := 375) (by decide) ?_
      refine Own.s_new X254 at_375 (tw56 hw) (tw57 hw) (tw58 hw) (by decide) (by decide) rfl ?_
      intro b255 T255 h255 X255 V255 g255 E255 O255 D255
      have F255_id : Fld Z h255 b255 "com/example/carelane/carelane/registry/Episode" "id" "Ljava/lang/String;" (.null) := D255 (Or.inr (tw72 hw)) (ty := (.object "java/lang/String")) (by decide)
      have F255_personId : Fld Z h255 b255 "com/example/carelane/carelane/registry/Episode" "personId" "Ljava/lang/String;" (.null) := D255 (Or.inr (tw74 hw)) (ty := (.object "java/lang/String")) (by decide)
      have F255_status : Fld Z h255 b255 "com/example/carelane/carelane/registry/Episode" "status" "Ljava/lang/String;" (.null) := D255 (Or.inr (tw76 hw)) (ty := (.object "java/lang/String")) (by decide)
      have F255_managingOrganizationId : Fld Z h255 b255 "com/example/carelane/carelane/registry/Episode" "managingOrganizationId" "Ljava/lang/String;" (.null) := D255 (Or.inr (tw78 hw)) (ty := (.object "java/lang/String")) (by decide)
      refine Own.s_dup X255 at_378 rfl rfl ?_
      refine Own.s_ldcStr rfl X255 at_379 (tw59 hw) (wSA hw) (by decide) (vs := [(.int (101 : Int32)), (.int (49 : Int32))]) (z := (2 : Int32)) ⟨by decide, by decide⟩ (by decide) (by decide) 8 (by decide) (by decide) (by decide) (by decide) rfl ?_
      intro a256 b256 k256 vm256 T256 h256 X256 V256 E256 C256 U256 A256
      have S256 : Own.Str Z h256 a256 [(101 : Int32), (49 : Int32)] := Own.Str.mk (by decide) (by decide) E256 C256 U256 A256
      refine Own.s_ldcStr rfl X256 at_381 (tw60 hw) (wSA hw) (by decide) (vs := [(.int (112 : Int32)), (.int (49 : Int32))]) (z := (2 : Int32)) ⟨by decide, by decide⟩ (by decide) (by decide) 8 (by decide) (by decide) (by decide) (by decide) rfl ?_
      intro a257 b257 k257 vm257 T257 h257 X257 V257 E257 C257 U257 A257
      have S257 : Own.Str Z h257 a257 [(112 : Int32), (49 : Int32)] := Own.Str.mk (by decide) (by decide) E257 C257 U257 A257
      refine Own.s_aload X257 at_383 rfl rfl rfl ?_
      refine Own.s_ldcStr rfl X257 at_385 (tw61 hw) (wSA hw) (by decide) (vs := [(.int (111 : Int32)), (.int (49 : Int32))]) (z := (2 : Int32)) ⟨by decide, by decide⟩ (by decide) (by decide) 8 (by decide) (by decide) (by decide) (by decide) rfl ?_
      intro a258 b258 k258 vm258 T258 h258 X258 V258 E258 C258 U258 A258
      have S258 : Own.Str Z h258 a258 [(111 : Int32), (49 : Int32)] := Own.Str.mk (by decide) (by decide) E258 C258 U258 A258
      have ex259 : Ext h255 h256 := Own.extK (Own.Ext.rfl' h255) V256.1 all0
      have ex260 : Ext h255 h257 := Own.extK ex259 V257.1 all0
      have ex261 : Ext h255 h258 := Own.extK ex260 V258.1 all0
      have F_262 := Fld.ext ex261 F255_id
      have F_263 := Fld.ext ex261 F255_personId
      have F_264 := Fld.ext ex261 F255_status
      have F_265 := Fld.ext ex261 F255_managingOrganizationId
      have E_266 := Exa.ext ex261 E255
      have O267 := (((O255.ev V256).ev V257).ev V258)
      refine Own.c_special X258 at_387 rfl (tw62 hw) (tw63 hw) (tw58 hw) (tw64 hw) (by decide) b255 [(.ref a256), (.ref a257), (.ref b218), (.ref a258)] [(.ref b255)] 1 (rm_ep hw b255 a256 a257 (.ref b218) rfl a258  h258 X258.hE O267.2.1 E_266 F_262 F_263 F_264 F_265 ) (fun q => nomatch q) (Own.Ok.one O267) (lenOf pd_4 rfl) rfl (Nat.le_of_eq rfl) (by decide) (by decide) (by decide) (by decide) rfl rfl ?_
      intro v268 vm268 T268 h268 L268 X268 V268 Q268
      obtain ⟨rfl, E268, F268_0, F268_1, F268_2, F268_3⟩ := Q268
      refine Own.s_astore X268 at_390 rfl #[.val (.int p0), .val (.int p1), .val (.int p2), .val (.int p3), .val (.int ts), .val (.int ls), .val (.int rp), .val (.int pp), .val (.int cc), .val (.int c2), .val (.ref tt), .val (.ref bb), .val (.ref b218), .val (.int (0 : Int32)), .val (.ref b255)] rfl rfl ?_
      refine Own.s_aload X268 at_392 rfl rfl rfl ?_
      have ex269 : Ext h254 h255 := Own.extK (Own.Ext.rfl' h254) V255.1 all0
      have ex270 : Ext h254 h256 := Own.extK ex269 V256.1 all0
      have ex271 : Ext h254 h257 := Own.extK ex270 V257.1 all0
      have ex272 : Ext h254 h258 := Own.extK ex271 V258.1 all0
      have ex273 : Ext h254 h268 := Own.extK ex272 V268.1 (allS g255 all0)
      have S_274 := Own.Str.ext S254 ex273
      refine Own.c_virtual X268 at_394 (tw79 hw) (tw80 hw) (notFace_of_selects (args := #[]) (mvT X268.hZ (tw82 hw))) (tw82 hw) (tw81 hw) (tw58 hw) (tw83 hw) (by decide) b255 [] [] 0 E268 (rm_aocS hw b255 b218 [b0_, b1_, b2_, b3_, b4_] SC hzc SF hfm h268 X268.hE E268 F268_2 S_274) (fun _ => rfl) Own.Ok.nil (lenOf pd_2 rfl) rfl (Nat.le_of_eq rfl) (by decide) (by decide) (by decide) (by decide) rfl rfl ?_
      intro v275 vm275 T275 h275 L275 X275 V275 Q275
      rcases Q275 with Q275 | Q275
      · obtain ⟨rfl, hq275⟩ := Q275
        refine Own.s_iload X275 at_397 rfl rfl ?_
        refine Own.s_icmpT X275 at_399 (feq (show ¬ (1 : Int32) = (0 : Int32) by decide)).2 (by decide) (pc' := 406) (by decide) ?_
        refine Own.s_iconst X275 at_406 (0 : Int32) (by decide) rfl ?_
        exact Own.r_nar X275 rfl (Or.inl rfl) at_407 (by decide) (by decide) (absurd (hq275.elim (congrArg List.length) (congrArg List.length)) (by simp))
      · obtain ⟨rfl, hq275⟩ := Q275
        refine Own.s_iload X275 at_397 rfl rfl ?_
        refine Own.s_icmpF X275 at_399 (teq (show (0 : Int32) = (0 : Int32) by decide)).2 rfl ?_
        refine Own.s_iconst X275 at_402 (1 : Int32) (by decide) rfl ?_
        refine Own.s_goto X275 at_403 (by decide) (pc' := 407) (by decide) ?_
        exact Own.r_nar X275 rfl (Or.inl rfl) at_407 (by decide) (by decide) (by decide)
    · refine Own.s_icmpT Xs at_247 (feq hc247_217).2 (by decide) (pc' := 300) (by decide) ?_
      refine Own.s_iload Xs at_300 rfl rfl ?_
      refine Own.s_iconst Xs at_302 (2 : Int32) (by decide) rfl ?_
      by_cases hc303_276 : ls = (2 : Int32)
      · refine Own.s_icmpF Xs at_303 (teq hc303_276).2 rfl ?_
        refine Own.s_new Xs at_306 (tw35 hw) (tw3 hw) (tw2 hw) (by decide) (by decide) rfl ?_
        intro b277 T277 h277 X277 V277 g277 E277 O277 D277
        have F277_value : Fld Z h277 b277 "java/lang/String" "value" "[B" (.null) := D277 (Or.inr (tw5 hw)) (ty := (.array .byte)) (by decide)
        have F277_coder : Fld Z h277 b277 "java/lang/String" "coder" "B" (.int 0) := D277 (Or.inr (tw6 hw)) (ty := .byte) (by decide)
        refine Own.s_dup X277 at_309 rfl rfl ?_
        refine Own.s_aload X277 at_310 rfl rfl rfl ?_
        have ex278 : Ext h0s h277 := Own.extK (Own.Ext.rfl' h0s) V277.1 all0
        have Z_279 := Sta.ext ex278 SC0
        have A_280 := Arv.ext Ab ex278
        have lat281 : ∀ c ∈ [b0_, b1_, b2_, b3_, b4_, b5_, b6_], Own.Lat c := (Own.latL hb0 (Own.latL hb1 (Own.latL hb2 (Own.latL hb3 (Own.latL hb4 (Own.latL hb5 (Own.latL hb6 Own.latN)))))))
        refine Own.b_special X277 at_312 rfl (tw36 hw) (tw37 hw) (tw38 hw) (by decide) b277 [(.ref bb)] [(.ref b277)] (Own.strNew (W := 1) (cs := [b0_, b1_, b2_, b3_, b4_, b5_, b6_]) (n := 7) X277.hZ (wNew hw) (tw3 hw) O277.2.1 X277.hE.1 E277 F277_value F277_coder A_280 Z_279 hzc rfl (by decide) (by decide) (by decide) lat281 (by decide) (by decide)) (fun v h' L q => Own.strNewQ (n := 7) rfl (by decide) (by decide) lat281 q) (Own.Ok.one O277) (lenOf pd_3 rfl) rfl (Nat.le_of_eq rfl) (by decide) (by decide) rfl rfl ?_
        intro v282 vm282 T282 h282 L282 X282 V282 Q282
        obtain ⟨rfl, S282⟩ := Q282
        refine Own.s_astore X282 at_315 rfl #[.val (.int p0), .val (.int p1), .val (.int p2), .val (.int p3), .val (.int ts), .val (.int ls), .val (.int rp), .val (.int pp), .val (.int cc), .val (.int c2), .val (.ref tt), .val (.ref bb), .val (.ref b277), .unset, .unset] rfl rfl ?_
        refine Own.s_goto X282 at_317 (by decide) (pc' := 323) (by decide) ?_
        refine Own.s_iload X282 at_323 rfl rfl ?_
        refine Own.s_ifF X282 at_325 ((if0 _ _).trans (feq (show ¬ (ls = (0 : Int32)) by rw [hc303_276] <;> decide)).1) rfl ?_
        refine Own.s_iconst X282 at_328 (0 : Int32) (by decide) rfl ?_
        refine Own.s_istore X282 at_329 #[.val (.int p0), .val (.int p1), .val (.int p2), .val (.int p3), .val (.int ts), .val (.int ls), .val (.int rp), .val (.int pp), .val (.int cc), .val (.int c2), .val (.ref tt), .val (.ref bb), .val (.ref b277), .val (.int (0 : Int32)), .unset] rfl rfl ?_
        refine Own.s_goto X282 at_331 (by decide) (pc' := 375) (by decide) ?_
        refine Own.s_new X282 at_375 (tw56 hw) (tw57 hw) (tw58 hw) (by decide) (by decide) rfl ?_
        intro b283 T283 h283 X283 V283 g283 E283 O283 D283
        have F283_id : Fld Z h283 b283 "com/example/carelane/carelane/registry/Episode" "id" "Ljava/lang/String;" (.null) := D283 (Or.inr (tw72 hw)) (ty := (.object "java/lang/String")) (by decide)
        have F283_personId : Fld Z h283 b283 "com/example/carelane/carelane/registry/Episode" "personId" "Ljava/lang/String;" (.null) := D283 (Or.inr (tw74 hw)) (ty := (.object "java/lang/String")) (by decide)
        have F283_status : Fld Z h283 b283 "com/example/carelane/carelane/registry/Episode" "status" "Ljava/lang/String;" (.null) := D283 (Or.inr (tw76 hw)) (ty := (.object "java/lang/String")) (by decide)
        have F283_managingOrganizationId : Fld Z h283 b283 "com/example/carelane/carelane/registry/Episode" "managingOrganizationId" "Ljava/lang/String;" (.null) := D283 (Or.inr (tw78 hw)) (ty := (.object "java/lang/String")) (by decide)
        refine Own.s_dup X283 at_378 rfl rfl ?_
        refine Own.s_ldcStr rfl X283 at_379 (tw59 hw) (wSA hw) (by decide) (vs := [(.int (101 : Int32)), (.int (49 : Int32))]) (z := (2 : Int32)) ⟨by decide, by decide⟩ (by decide) (by decide) 8 (by decide) (by decide) (by decide) (by decide) rfl ?_
        intro a284 b284 k284 vm284 T284 h284 X284 V284 E284 C284 U284 A284
        have S284 : Own.Str Z h284 a284 [(101 : Int32), (49 : Int32)] := Own.Str.mk (by decide) (by decide) E284 C284 U284 A284
        refine Own.s_ldcStr rfl X284 at_381 (tw60 hw) (wSA hw) (by decide) (vs := [(.int (112 : Int32)), (.int (49 : Int32))]) (z := (2 : Int32)) ⟨by decide, by decide⟩ (by decide) (by decide) 8 (by decide) (by decide) (by decide) (by decide) rfl ?_
        intro a285 b285 k285 vm285 T285 h285 X285 V285 E285 C285 U285 A285
        have S285 : Own.Str Z h285 a285 [(112 : Int32), (49 : Int32)] := Own.Str.mk (by decide) (by decide) E285 C285 U285 A285
        refine Own.s_aload X285 at_383 rfl rfl rfl ?_
        refine Own.s_ldcStr rfl X285 at_385 (tw61 hw) (wSA hw) (by decide) (vs := [(.int (111 : Int32)), (.int (49 : Int32))]) (z := (2 : Int32)) ⟨by decide, by decide⟩ (by decide) (by decide) 8 (by decide) (by decide) (by decide) (by decide) rfl ?_
        intro a286 b286 k286 vm286 T286 h286 X286 V286 E286 C286 U286 A286
        have S286 : Own.Str Z h286 a286 [(111 : Int32), (49 : Int32)] := Own.Str.mk (by decide) (by decide) E286 C286 U286 A286
        have ex287 : Ext h283 h284 := Own.extK (Own.Ext.rfl' h283) V284.1 all0
        have ex288 : Ext h283 h285 := Own.extK ex287 V285.1 all0
        have ex289 : Ext h283 h286 := Own.extK ex288 V286.1 all0
        have F_290 := Fld.ext ex289 F283_id
        have F_291 := Fld.ext ex289 F283_personId
        have F_292 := Fld.ext ex289 F283_status
        have F_293 := Fld.ext ex289 F283_managingOrganizationId
        have E_294 := Exa.ext ex289 E283
        have O295 := (((O283.ev V284).ev V285).ev V286)
        refine Own.c_special X286 at_387 rfl (tw62 hw) (tw63 hw) (tw58 hw) (tw64 hw) (by decide) b283 [(.ref a284), (.ref a285), (.ref b277), (.ref a286)] [(.ref b283)] 1 (rm_ep hw b283 a284 a285 (.ref b277) rfl a286  h286 X286.hE O295.2.1 E_294 F_290 F_291 F_292 F_293 ) (fun q => nomatch q) (Own.Ok.one O295) (lenOf pd_4 rfl) rfl (Nat.le_of_eq rfl) (by decide) (by decide) (by decide) (by decide) rfl rfl ?_
        intro v296 vm296 T296 h296 L296 X296 V296 Q296
        obtain ⟨rfl, E296, F296_0, F296_1, F296_2, F296_3⟩ := Q296
        refine Own.s_astore X296 at_390 rfl #[.val (.int p0), .val (.int p1), .val (.int p2), .val (.int p3), .val (.int ts), .val (.int ls), .val (.int rp), .val (.int pp), .val (.int cc), .val (.int c2), .val (.ref tt), .val (.ref bb), .val (.ref b277), .val (.int (0 : Int32)), .val (.ref b283)] rfl rfl ?_
        refine Own.s_aload X296 at_392 rfl rfl rfl ?_
        have ex297 : Ext h282 h283 := Own.extK (Own.Ext.rfl' h282) V283.1 all0
        have ex298 : Ext h282 h284 := Own.extK ex297 V284.1 all0
        have ex299 : Ext h282 h285 := Own.extK ex298 V285.1 all0
        have ex300 : Ext h282 h286 := Own.extK ex299 V286.1 all0
        have ex301 : Ext h282 h296 := Own.extK ex300 V296.1 (allS g283 all0)
        have S_302 := Own.Str.ext S282 ex301
        refine Own.c_virtual X296 at_394 (tw79 hw) (tw80 hw) (notFace_of_selects (args := #[]) (mvT X296.hZ (tw82 hw))) (tw82 hw) (tw81 hw) (tw58 hw) (tw83 hw) (by decide) b283 [] [] 0 E296 (rm_aocS hw b283 b277 [b0_, b1_, b2_, b3_, b4_, b5_, b6_] SC hzc SF hfm h296 X296.hE E296 F296_2 S_302) (fun _ => rfl) Own.Ok.nil (lenOf pd_2 rfl) rfl (Nat.le_of_eq rfl) (by decide) (by decide) (by decide) (by decide) rfl rfl ?_
        intro v303 vm303 T303 h303 L303 X303 V303 Q303
        rcases Q303 with Q303 | Q303
        · obtain ⟨rfl, hq303⟩ := Q303
          refine Own.s_iload X303 at_397 rfl rfl ?_
          refine Own.s_icmpT X303 at_399 (feq (show ¬ (1 : Int32) = (0 : Int32) by decide)).2 (by decide) (pc' := 406) (by decide) ?_
          refine Own.s_iconst X303 at_406 (0 : Int32) (by decide) rfl ?_
          exact Own.r_nar X303 rfl (Or.inl rfl) at_407 (by decide) (by decide) (absurd (hq303.elim (congrArg List.length) (congrArg List.length)) (by simp))
        · obtain ⟨rfl, hq303⟩ := Q303
          refine Own.s_iload X303 at_397 rfl rfl ?_
          refine Own.s_icmpF X303 at_399 (teq (show (0 : Int32) = (0 : Int32) by decide)).2 rfl ?_
          refine Own.s_iconst X303 at_402 (1 : Int32) (by decide) rfl ?_
          refine Own.s_goto X303 at_403 (by decide) (pc' := 407) (by decide) ?_
          exact Own.r_nar X303 rfl (Or.inl rfl) at_407 (by decide) (by decide) (by decide)
      · refine Own.s_icmpT Xs at_303 (feq hc303_276).2 (by decide) (pc' := 320) (by decide) ?_
        refine Own.s_aconst_null Xs at_320 rfl ?_
        refine Own.s_astore Xs at_321 rfl #[.val (.int p0), .val (.int p1), .val (.int p2), .val (.int p3), .val (.int ts), .val (.int ls), .val (.int rp), .val (.int pp), .val (.int cc), .val (.int c2), .val (.ref tt), .val (.ref bb), .val .null, .unset, .unset] rfl rfl ?_
        refine Own.s_iload Xs at_323 rfl rfl ?_
        refine Own.s_ifF Xs at_325 ((if0 _ _).trans (feq hc183_1).1) rfl ?_
        refine Own.s_iconst Xs at_328 (0 : Int32) (by decide) rfl ?_
        refine Own.s_istore Xs at_329 #[.val (.int p0), .val (.int p1), .val (.int p2), .val (.int p3), .val (.int ts), .val (.int ls), .val (.int rp), .val (.int pp), .val (.int cc), .val (.int c2), .val (.ref tt), .val (.ref bb), .val .null, .val (.int (0 : Int32)), .unset] rfl rfl ?_
        refine Own.s_goto Xs at_331 (by decide) (pc' := 375) (by decide) ?_
        refine Own.s_new Xs at_375 (tw56 hw) (tw57 hw) (tw58 hw) (by decide) (by decide) rfl ?_
        intro b304 T304 h304 X304 V304 g304 E304 O304 D304
        have F304_id : Fld Z h304 b304 "com/example/carelane/carelane/registry/Episode" "id" "Ljava/lang/String;" (.null) := D304 (Or.inr (tw72 hw)) (ty := (.object "java/lang/String")) (by decide)
        have F304_personId : Fld Z h304 b304 "com/example/carelane/carelane/registry/Episode" "personId" "Ljava/lang/String;" (.null) := D304 (Or.inr (tw74 hw)) (ty := (.object "java/lang/String")) (by decide)
        have F304_status : Fld Z h304 b304 "com/example/carelane/carelane/registry/Episode" "status" "Ljava/lang/String;" (.null) := D304 (Or.inr (tw76 hw)) (ty := (.object "java/lang/String")) (by decide)
        have F304_managingOrganizationId : Fld Z h304 b304 "com/example/carelane/carelane/registry/Episode" "managingOrganizationId" "Ljava/lang/String;" (.null) := D304 (Or.inr (tw78 hw)) (ty := (.object "java/lang/String")) (by decide)
        refine Own.s_dup X304 at_378 rfl rfl ?_
        refine Own.s_ldcStr rfl X304 at_379 (tw59 hw) (wSA hw) (by decide) (vs := [(.int (101 : Int32)), (.int (49 : Int32))]) (z := (2 : Int32)) ⟨by decide, by decide⟩ (by decide) (by decide) 8 (by decide) (by decide) (by decide) (by decide) rfl ?_
        intro a305 b305 k305 vm305 T305 h305 X305 V305 E305 C305 U305 A305
        have S305 : Own.Str Z h305 a305 [(101 : Int32), (49 : Int32)] := Own.Str.mk (by decide) (by decide) E305 C305 U305 A305
        refine Own.s_ldcStr rfl X305 at_381 (tw60 hw) (wSA hw) (by decide) (vs := [(.int (112 : Int32)), (.int (49 : Int32))]) (z := (2 : Int32)) ⟨by decide, by decide⟩ (by decide) (by decide) 8 (by decide) (by decide) (by decide) (by decide) rfl ?_
        intro a306 b306 k306 vm306 T306 h306 X306 V306 E306 C306 U306 A306
        have S306 : Own.Str Z h306 a306 [(112 : Int32), (49 : Int32)] := Own.Str.mk (by decide) (by decide) E306 C306 U306 A306
        refine Own.s_aload X306 at_383 rfl rfl rfl ?_
        refine Own.s_ldcStr rfl X306 at_385 (tw61 hw) (wSA hw) (by decide) (vs := [(.int (111 : Int32)), (.int (49 : Int32))]) (z := (2 : Int32)) ⟨by decide, by decide⟩ (by decide) (by decide) 8 (by decide) (by decide) (by decide) (by decide) rfl ?_
        intro a307 b307 k307 vm307 T307 h307 X307 V307 E307 C307 U307 A307
        have S307 : Own.Str Z h307 a307 [(111 : Int32), (49 : Int32)] := Own.Str.mk (by decide) (by decide) E307 C307 U307 A307
        have ex308 : Ext h304 h305 := Own.extK (Own.Ext.rfl' h304) V305.1 all0
        have ex309 : Ext h304 h306 := Own.extK ex308 V306.1 all0
        have ex310 : Ext h304 h307 := Own.extK ex309 V307.1 all0
        have F_311 := Fld.ext ex310 F304_id
        have F_312 := Fld.ext ex310 F304_personId
        have F_313 := Fld.ext ex310 F304_status
        have F_314 := Fld.ext ex310 F304_managingOrganizationId
        have E_315 := Exa.ext ex310 E304
        have O316 := (((O304.ev V305).ev V306).ev V307)
        refine Own.c_special X307 at_387 rfl (tw62 hw) (tw63 hw) (tw58 hw) (tw64 hw) (by decide) b304 [(.ref a305), (.ref a306), .null, (.ref a307)] [(.ref b304)] 1 (rm_ep hw b304 a305 a306 .null rfl a307  h307 X307.hE O316.2.1 E_315 F_311 F_312 F_313 F_314 ) (fun q => nomatch q) (Own.Ok.one O316) (lenOf pd_4 rfl) rfl (Nat.le_of_eq rfl) (by decide) (by decide) (by decide) (by decide) rfl rfl ?_
        intro v317 vm317 T317 h317 L317 X317 V317 Q317
        obtain ⟨rfl, E317, F317_0, F317_1, F317_2, F317_3⟩ := Q317
        refine Own.s_astore X317 at_390 rfl #[.val (.int p0), .val (.int p1), .val (.int p2), .val (.int p3), .val (.int ts), .val (.int ls), .val (.int rp), .val (.int pp), .val (.int cc), .val (.int c2), .val (.ref tt), .val (.ref bb), .val .null, .val (.int (0 : Int32)), .val (.ref b304)] rfl rfl ?_
        refine Own.s_aload X317 at_392 rfl rfl rfl ?_
        refine Own.c_virtual X317 at_394 (tw79 hw) (tw80 hw) (notFace_of_selects (args := #[]) (mvT X317.hZ (tw82 hw))) (tw82 hw) (tw81 hw) (tw58 hw) (tw83 hw) (by decide) b304 [] [] 0 E317 (rm_aocN hw b304 SC hzc SF hfm h317 X317.hE E317 F317_2) (fun _ => rfl) Own.Ok.nil (lenOf pd_2 rfl) rfl (Nat.le_of_eq rfl) (by decide) (by decide) (by decide) (by decide) rfl rfl ?_
        intro v318 vm318 T318 h318 L318 X318 V318 Q318
        obtain rfl := Q318
        refine Own.s_iload X318 at_397 rfl rfl ?_
        refine Own.s_icmpF X318 at_399 (teq (show (0 : Int32) = (0 : Int32) by decide)).2 rfl ?_
        refine Own.s_iconst X318 at_402 (1 : Int32) (by decide) rfl ?_
        refine Own.s_goto X318 at_403 (by decide) (pc' := 407) (by decide) ?_
        exact Own.r_nar X318 rfl (Or.inl rfl) at_407 (by decide) (by decide) (by decide)
set_option maxRecDepth 65536 in
set_option maxHeartbeats 40000000 in
theorem sg_b {l : Launch} {Z : State} {a0 : Array Value} (hw : ∀ d ∈ tables_1, d.before a0 Z = true) {p : Program} {e : Env} {s : State} {m : MethodId} {below : List Frame} {meth : Method} {c : Code} {vms : Vm} {Ts : State} {h0 h0s : Heap} {locs : List Loc} (p0 p1 p2 p3 : Int32) {zc : Int32} (SC : Sta Z Z.heap "java/lang/String" "COMPACT_STRINGS" "Z" (.int zc)) (hzc : ¬ zc = 0) {fm : Value} (SF : Sta Z Z.heap "jdk/internal/util/Preconditions" "SIOOBE_FORMATTER" "Ljava/util/function/BiFunction;" fm) (hfm : fm.isRef = true) (ts ls rp pp cc c2 t0 t1 t2 t3 t4 t5 : Int32) (tt : Addr)
    (Xs : Own.Wk p l e room_1 s m #[(.int p0), (.int p1), (.int p2), (.int p3)] below meth c Z a0 EL x code maxLocals ret true h0 [] vms Ts h0s locs 2 28) (St : Own.Str Z h0s tt [t0, t1, t2, t3, t4, t5]) (hcc : Own.Lat cc) (hc2 : Own.Lat c2) (hpp : pp = 0 ∨ pp = 1 ∨ pp = 2 ∨ pp = 3 ∨ pp = 4 ∨ pp = 5) (hi6 : pp.toNatClampNeg < [t0, t1, t2, t3, t4, t5].length) (hj6 : pp = Int32.ofNat pp.toNatClampNeg) (hT : ((ts = 0 ∧ [t0, t1, t2, t3, t4, t5] = [(97 : Int32), (99 : Int32), (116 : Int32), (105 : Int32), (118 : Int32), (101 : Int32)]) ∨ (ts = 1 ∧ [t0, t1, t2, t3, t4, t5] = [(99 : Int32), (108 : Int32), (111 : Int32), (115 : Int32), (101 : Int32), (100 : Int32)]) ∨ (¬ ts = 0 ∧ ¬ ts = 1 ∧ ([t0, t1, t2, t3, t4, t5] = [(99 : Int32), (97 : Int32), (110 : Int32), (99 : Int32), (101 : Int32), (108 : Int32)] ∨ [t0, t1, t2, t3, t4, t5] = [(65 : Int32), (67 : Int32), (84 : Int32), (73 : Int32), (86 : Int32), (69 : Int32)])))) :
    Own.Go p e below (Own.Done true Z EL room_1 s h0 [] (fun v h => v = some (.int (1 : Int32)))) Ts (mkF m 96 #[.val (.int p0), .val (.int p1), .val (.int p2), .val (.int p3), .val (.int ts), .val (.int ls), .val (.int rp), .val (.int pp), .val (.int cc), .val (.int c2), .val (.ref tt), .unset, .unset, .unset, .unset] []) := by
  have hE := Xs.hE
  have SC0 := Sta.ext hE SC
  have SF0 := Sta.ext hE SF
  have ht0 : Own.Lat t0 := St.1 _ (List.mem_of_getElem? (i := 0) rfl)
  have ht1 : Own.Lat t1 := St.1 _ (List.mem_of_getElem? (i := 1) rfl)
  have ht2 : Own.Lat t2 := St.1 _ (List.mem_of_getElem? (i := 2) rfl)
  have ht3 : Own.Lat t3 := St.1 _ (List.mem_of_getElem? (i := 3) rfl)
  have ht4 : Own.Lat t4 := St.1 _ (List.mem_of_getElem? (i := 4) rfl)
  have ht5 : Own.Lat t5 := St.1 _ (List.mem_of_getElem? (i := 5) rfl)
  refine Own.s_bipush Xs at_96 (7 : Int32) (by decide) rfl ?_
  refine Own.s_newarray Xs at_98 (tw9 hw) (by decide) 7 (by decide) (by decide) (by decide) (by decide) rfl ?_
  intro b1 T1 h1 k1 X1 V1 g1 A1 O1
  have B1 : Arv Z h1 b1 k1 .char (7 : Int32) [(.int (0 : Int32)), (.int (0 : Int32)), (.int (0 : Int32)), (.int (0 : Int32)), (.int (0 : Int32)), (.int (0 : Int32)), (.int (0 : Int32))] (.int (0 : Int32)) := A1.pad (pad_rep [] (.int (0 : Int32)) 7)
  refine Own.s_astore X1 at_100 rfl #[.val (.int p0), .val (.int p1), .val (.int p2), .val (.int p3), .val (.int ts), .val (.int ls), .val (.int rp), .val (.int pp), .val (.int cc), .val (.int c2), .val (.ref tt), .val (.ref b1), .unset, .unset, .unset] rfl rfl ?_
  refine Own.s_aload X1 at_102 rfl rfl rfl ?_
  refine Own.s_iconst X1 at_104 (0 : Int32) (by decide) rfl ?_
  refine Own.s_aload X1 at_105 rfl rfl rfl ?_
  refine Own.s_iconst X1 at_107 (0 : Int32) (by decide) rfl ?_
  have ex2 : Ext h0s h1 := Own.extK (Own.Ext.rfl' h0s) V1.1 all0
  have S_3 := Own.Str.ext St ex2
  have Z_4 := Sta.ext ex2 SC0
  have Z_5 := Sta.ext ex2 SF0
  have E_7 := Exa.ext ex2 St.exa
  refine Own.b_virtual X1 at_108 (tw10 hw) (tw11 hw) (notFace_of_selects (args := #[]) (mvT X1.hZ (tw13 hw))) (tw13 hw) (tw12 hw) (by decide) tt [(.int (0 : Int32))] [(.int (0 : Int32)), (.ref b1)] E_7 (Own.strAt (W := 2) (i := 0) X1.hZ (wChN hw) (tw3 hw) S_3 Z_4 hzc Z_5 hfm (Nat.le_of_ble_eq_true rfl) (by decide) (by decide) (by decide)) (fun v h' L q => Own.strAtQ (z := t0) rfl q) Own.Ok.nil (lenOf pd_5 rfl) rfl (Nat.le_of_eq rfl) (by decide) (by decide) rfl rfl ?_
  intro v6 vm6 T6 h6 L6 X6 V6 Q6
  obtain rfl := Q6
  have ex9 : Ext h1 h6 := Own.extK (Own.Ext.rfl' h1) V6.1 all0
  have A_10 := Arv.ext B1 ex9
  have O11 := (O1.ev V6)
  refine Own.s_castoreR X6 at_111 A_10 ⟨by decide, by decide⟩ 0 (by decide) (Nat.le_of_ble_eq_true rfl) (Own.nar_chr ht0) O11 rfl ?_
  intro T8 h8 X8 V8 A8
  have B8 : Arv Z h8 b1 k1 .char (7 : Int32) [(.int t0), (.int (0 : Int32)), (.int (0 : Int32)), (.int (0 : Int32)), (.int (0 : Int32)), (.int (0 : Int32)), (.int (0 : Int32))] (.int (0 : Int32)) := A8
  refine Own.s_aload X8 at_112 rfl rfl rfl ?_
  refine Own.s_iconst X8 at_114 (1 : Int32) (by decide) rfl ?_
  refine Own.s_aload X8 at_115 rfl rfl rfl ?_
  refine Own.s_iconst X8 at_117 (1 : Int32) (by decide) rfl ?_
  have ex12 : Ext h0s h6 := Own.extK ex2 V6.1 all0
  have ex13 : Ext h0s h8 := Own.extK ex12 V8.1 (allS g1 all0)
  have S_14 := Own.Str.ext St ex13
  have Z_15 := Sta.ext ex13 SC0
  have Z_16 := Sta.ext ex13 SF0
  have E_18 := Exa.ext ex13 St.exa
  refine Own.b_virtual X8 at_118 (tw10 hw) (tw11 hw) (notFace_of_selects (args := #[]) (mvT X8.hZ (tw13 hw))) (tw13 hw) (tw12 hw) (by decide) tt [(.int (1 : Int32))] [(.int (1 : Int32)), (.ref b1)] E_18 (Own.strAt (W := 2) (i := 1) X8.hZ (wChN hw) (tw3 hw) S_14 Z_15 hzc Z_16 hfm (Nat.le_of_ble_eq_true rfl) (by decide) (by decide) (by decide)) (fun v h' L q => Own.strAtQ (z := t1) rfl q) Own.Ok.nil (lenOf pd_5 rfl) rfl (Nat.le_of_eq rfl) (by decide) (by decide) rfl rfl ?_
  intro v17 vm17 T17 h17 L17 X17 V17 Q17
  obtain rfl := Q17
  have ex20 : Ext h8 h17 := Own.extK (Own.Ext.rfl' h8) V17.1 all0
  have A_21 := Arv.ext B8 ex20
  have O22 := ((O11.ev V8).ev V17)
  refine Own.s_castoreR X17 at_121 A_21 ⟨by decide, by decide⟩ 1 (by decide) (Nat.le_of_ble_eq_true rfl) (Own.nar_chr ht1) O22 rfl ?_
  intro T19 h19 X19 V19 A19
  have B19 : Arv Z h19 b1 k1 .char (7 : Int32) [(.int t0), (.int t1), (.int (0 : Int32)), (.int (0 : Int32)), (.int (0 : Int32)), (.int (0 : Int32)), (.int (0 : Int32))] (.int (0 : Int32)) := A19
  refine Own.s_aload X19 at_122 rfl rfl rfl ?_
  refine Own.s_iconst X19 at_124 (2 : Int32) (by decide) rfl ?_
  refine Own.s_aload X19 at_125 rfl rfl rfl ?_
  refine Own.s_iconst X19 at_127 (2 : Int32) (by decide) rfl ?_
  have ex23 : Ext h0s h17 := Own.extK ex13 V17.1 all0
  have ex24 : Ext h0s h19 := Own.extK ex23 V19.1 (allS g1 all0)
  have S_25 := Own.Str.ext St ex24
  have Z_26 := Sta.ext ex24 SC0
  have Z_27 := Sta.ext ex24 SF0
  have E_29 := Exa.ext ex24 St.exa
  refine Own.b_virtual X19 at_128 (tw10 hw) (tw11 hw) (notFace_of_selects (args := #[]) (mvT X19.hZ (tw13 hw))) (tw13 hw) (tw12 hw) (by decide) tt [(.int (2 : Int32))] [(.int (2 : Int32)), (.ref b1)] E_29 (Own.strAt (W := 2) (i := 2) X19.hZ (wChN hw) (tw3 hw) S_25 Z_26 hzc Z_27 hfm (Nat.le_of_ble_eq_true rfl) (by decide) (by decide) (by decide)) (fun v h' L q => Own.strAtQ (z := t2) rfl q) Own.Ok.nil (lenOf pd_5 rfl) rfl (Nat.le_of_eq rfl) (by decide) (by decide) rfl rfl ?_
  intro v28 vm28 T28 h28 L28 X28 V28 Q28
  obtain rfl := Q28
  have ex31 : Ext h19 h28 := Own.extK (Own.Ext.rfl' h19) V28.1 all0
  have A_32 := Arv.ext B19 ex31
  have O33 := ((O22.ev V19).ev V28)
  refine Own.s_castoreR X28 at_131 A_32 ⟨by decide, by decide⟩ 2 (by decide) (Nat.le_of_ble_eq_true rfl) (Own.nar_chr ht2) O33 rfl ?_
  intro T30 h30 X30 V30 A30
  have B30 : Arv Z h30 b1 k1 .char (7 : Int32) [(.int t0), (.int t1), (.int t2), (.int (0 : Int32)), (.int (0 : Int32)), (.int (0 : Int32)), (.int (0 : Int32))] (.int (0 : Int32)) := A30
  refine Own.s_aload X30 at_132 rfl rfl rfl ?_
  refine Own.s_iconst X30 at_134 (3 : Int32) (by decide) rfl ?_
  refine Own.s_aload X30 at_135 rfl rfl rfl ?_
  refine Own.s_iconst X30 at_137 (3 : Int32) (by decide) rfl ?_
  have ex34 : Ext h0s h28 := Own.extK ex24 V28.1 all0
  have ex35 : Ext h0s h30 := Own.extK ex34 V30.1 (allS g1 all0)
  have S_36 := Own.Str.ext St ex35
  have Z_37 := Sta.ext ex35 SC0
  have Z_38 := Sta.ext ex35 SF0
  have E_40 := Exa.ext ex35 St.exa
  refine Own.b_virtual X30 at_138 (tw10 hw) (tw11 hw) (notFace_of_selects (args := #[]) (mvT X30.hZ (tw13 hw))) (tw13 hw) (tw12 hw) (by decide) tt [(.int (3 : Int32))] [(.int (3 : Int32)), (.ref b1)] E_40 (Own.strAt (W := 2) (i := 3) X30.hZ (wChN hw) (tw3 hw) S_36 Z_37 hzc Z_38 hfm (Nat.le_of_ble_eq_true rfl) (by decide) (by decide) (by decide)) (fun v h' L q => Own.strAtQ (z := t3) rfl q) Own.Ok.nil (lenOf pd_5 rfl) rfl (Nat.le_of_eq rfl) (by decide) (by decide) rfl rfl ?_
  intro v39 vm39 T39 h39 L39 X39 V39 Q39
  obtain rfl := Q39
  have ex42 : Ext h30 h39 := Own.extK (Own.Ext.rfl' h30) V39.1 all0
  have A_43 := Arv.ext B30 ex42
  have O44 := ((O33.ev V30).ev V39)
  refine Own.s_castoreR X39 at_141 A_43 ⟨by decide, by decide⟩ 3 (by decide) (Nat.le_of_ble_eq_true rfl) (Own.nar_chr ht3) O44 rfl ?_
  intro T41 h41 X41 V41 A41
  have B41 : Arv Z h41 b1 k1 .char (7 : Int32) [(.int t0), (.int t1), (.int t2), (.int t3), (.int (0 : Int32)), (.int (0 : Int32)), (.int (0 : Int32))] (.int (0 : Int32)) := A41
  refine Own.s_aload X41 at_142 rfl rfl rfl ?_
  refine Own.s_iconst X41 at_144 (4 : Int32) (by decide) rfl ?_
  refine Own.s_aload X41 at_145 rfl rfl rfl ?_
  refine Own.s_iconst X41 at_147 (4 : Int32) (by decide) rfl ?_
  have ex45 : Ext h0s h39 := Own.extK ex35 V39.1 all0
  have ex46 : Ext h0s h41 := Own.extK ex45 V41.1 (allS g1 all0)
  have S_47 := Own.Str.ext St ex46
  have Z_48 := Sta.ext ex46 SC0
  have Z_49 := Sta.ext ex46 SF0
  have E_51 := Exa.ext ex46 St.exa
  refine Own.b_virtual X41 at_148 (tw10 hw) (tw11 hw) (notFace_of_selects (args := #[]) (mvT X41.hZ (tw13 hw))) (tw13 hw) (tw12 hw) (by decide) tt [(.int (4 : Int32))] [(.int (4 : Int32)), (.ref b1)] E_51 (Own.strAt (W := 2) (i := 4) X41.hZ (wChN hw) (tw3 hw) S_47 Z_48 hzc Z_49 hfm (Nat.le_of_ble_eq_true rfl) (by decide) (by decide) (by decide)) (fun v h' L q => Own.strAtQ (z := t4) rfl q) Own.Ok.nil (lenOf pd_5 rfl) rfl (Nat.le_of_eq rfl) (by decide) (by decide) rfl rfl ?_
  intro v50 vm50 T50 h50 L50 X50 V50 Q50
  obtain rfl := Q50
  have ex53 : Ext h41 h50 := Own.extK (Own.Ext.rfl' h41) V50.1 all0
  have A_54 := Arv.ext B41 ex53
  have O55 := ((O44.ev V41).ev V50)
  refine Own.s_castoreR X50 at_151 A_54 ⟨by decide, by decide⟩ 4 (by decide) (Nat.le_of_ble_eq_true rfl) (Own.nar_chr ht4) O55 rfl ?_
  intro T52 h52 X52 V52 A52
  have B52 : Arv Z h52 b1 k1 .char (7 : Int32) [(.int t0), (.int t1), (.int t2), (.int t3), (.int t4), (.int (0 : Int32)), (.int (0 : Int32))] (.int (0 : Int32)) := A52
  refine Own.s_aload X52 at_152 rfl rfl rfl ?_
  refine Own.s_iconst X52 at_154 (5 : Int32) (by decide) rfl ?_
  refine Own.s_aload X52 at_155 rfl rfl rfl ?_
  refine Own.s_iconst X52 at_157 (5 : Int32) (by decide) rfl ?_
  have ex56 : Ext h0s h50 := Own.extK ex46 V50.1 all0
  have ex57 : Ext h0s h52 := Own.extK ex56 V52.1 (allS g1 all0)
  have S_58 := Own.Str.ext St ex57
  have Z_59 := Sta.ext ex57 SC0
  have Z_60 := Sta.ext ex57 SF0
  have E_62 := Exa.ext ex57 St.exa
  refine Own.b_virtual X52 at_158 (tw10 hw) (tw11 hw) (notFace_of_selects (args := #[]) (mvT X52.hZ (tw13 hw))) (tw13 hw) (tw12 hw) (by decide) tt [(.int (5 : Int32))] [(.int (5 : Int32)), (.ref b1)] E_62 (Own.strAt (W := 2) (i := 5) X52.hZ (wChN hw) (tw3 hw) S_58 Z_59 hzc Z_60 hfm (Nat.le_of_ble_eq_true rfl) (by decide) (by decide) (by decide)) (fun v h' L q => Own.strAtQ (z := t5) rfl q) Own.Ok.nil (lenOf pd_5 rfl) rfl (Nat.le_of_eq rfl) (by decide) (by decide) rfl rfl ?_
  intro v61 vm61 T61 h61 L61 X61 V61 Q61
  obtain rfl := Q61
  have ex64 : Ext h52 h61 := Own.extK (Own.Ext.rfl' h52) V61.1 all0
  have A_65 := Arv.ext B52 ex64
  have O66 := ((O55.ev V52).ev V61)
  refine Own.s_castoreR X61 at_161 A_65 ⟨by decide, by decide⟩ 5 (by decide) (Nat.le_of_ble_eq_true rfl) (Own.nar_chr ht5) O66 rfl ?_
  intro T63 h63 X63 V63 A63
  have B63 : Arv Z h63 b1 k1 .char (7 : Int32) [(.int t0), (.int t1), (.int t2), (.int t3), (.int t4), (.int t5), (.int (0 : Int32))] (.int (0 : Int32)) := A63
  refine Own.s_aload X63 at_162 rfl rfl rfl ?_
  refine Own.s_bipush X63 at_164 (6 : Int32) (by decide) rfl ?_
  refine Own.s_iload X63 at_166 rfl rfl ?_
  have O68 := (O66.ev V63)
  refine Own.s_castoreR X63 at_168 B63 ⟨by decide, by decide⟩ 6 (by decide) (Nat.le_of_ble_eq_true rfl) (Own.nar_chr hc2) O68 rfl ?_
  intro T67 h67 X67 V67 A67
  have B67 : Arv Z h67 b1 k1 .char (7 : Int32) [(.int t0), (.int t1), (.int t2), (.int t3), (.int t4), (.int t5), (.int c2)] (.int (0 : Int32)) := A67
  refine Own.s_iload X67 at_169 rfl rfl ?_
  by_cases hc171_69 : rp = (0 : Int32)
  · refine Own.s_ifT X67 at_171 ((if0 _ _).trans (teq hc171_69).1) (by decide) (pc' := 181) (by decide) ?_
    have ex70 : Ext h0s h61 := Own.extK ex57 V61.1 all0
    have ex71 : Ext h0s h63 := Own.extK ex70 V63.1 (allS g1 all0)
    have ex72 : Ext h0s h67 := Own.extK ex71 V67.1 (allS g1 all0)
    have S_73 := Own.Str.ext St ex72
    exact sg_c hw p0 p1 p2 p3 SC hzc SF hfm ts ls rp pp cc c2 (([t0, t1, t2, t3, t4, t5] : List Int32).getD pp.toNatClampNeg 0) t0 t1 t2 t3 t4 t5 t0 t1 t2 t3 t4 t5 c2 tt b1 _ (Own.Wk.mono X67 (by decide) (by decide)) S_73 B67 ht0 ht1 ht2 ht3 ht4 ht5 hc2 hcc hc2 hi6 hj6 rfl (own_ex hT hc171_69)
  · refine Own.s_ifF X67 at_171 ((if0 _ _).trans (feq hc171_69).1) rfl ?_
    rcases hpp with hp0 | hp1 | hp2 | hp3 | hp4 | hp5
    · refine Own.s_aload X67 at_174 rfl rfl rfl ?_
      refine Own.s_iload X67 at_176 rfl rfl ?_
      refine Own.s_iload X67 at_178 rfl rfl ?_
      have O75 := (O68.ev V67)
      refine Own.s_castoreR X67 at_180 B67 ⟨by rw [hp0] <;> decide, by rw [hp0] <;> decide⟩ 0 (by rw [hp0] <;> decide) (Nat.le_of_ble_eq_true rfl) (Own.nar_chr hcc) O75 rfl ?_
      intro T74 h74 X74 V74 A74
      have B74 : Arv Z h74 b1 k1 .char (7 : Int32) [(.int cc), (.int t1), (.int t2), (.int t3), (.int t4), (.int t5), (.int c2)] (.int (0 : Int32)) := A74
      have ex76 : Ext h0s h61 := Own.extK ex57 V61.1 all0
      have ex77 : Ext h0s h63 := Own.extK ex76 V63.1 (allS g1 all0)
      have ex78 : Ext h0s h67 := Own.extK ex77 V67.1 (allS g1 all0)
      have ex79 : Ext h0s h74 := Own.extK ex78 V74.1 (allS g1 all0)
      have S_80 := Own.Str.ext St ex79
      exact sg_c hw p0 p1 p2 p3 SC hzc SF hfm ts ls rp pp cc c2 (([t0, t1, t2, t3, t4, t5] : List Int32).getD pp.toNatClampNeg 0) t0 t1 t2 t3 t4 t5 cc t1 t2 t3 t4 t5 c2 tt b1 _ (Own.Wk.mono X74 (by decide) (by decide)) S_80 B74 hcc ht1 ht2 ht3 ht4 ht5 hc2 hcc hc2 hi6 hj6 rfl (own_ex0 hT hc171_69 (by rw [hp0]; rfl))
    · refine Own.s_aload X67 at_174 rfl rfl rfl ?_
      refine Own.s_iload X67 at_176 rfl rfl ?_
      refine Own.s_iload X67 at_178 rfl rfl ?_
      have O82 := (O68.ev V67)
      refine Own.s_castoreR X67 at_180 B67 ⟨by rw [hp1] <;> decide, by rw [hp1] <;> decide⟩ 1 (by rw [hp1] <;> decide) (Nat.le_of_ble_eq_true rfl) (Own.nar_chr hcc) O82 rfl ?_
      intro T81 h81 X81 V81 A81
      have B81 : Arv Z h81 b1 k1 .char (7 : Int32) [(.int t0), (.int cc), (.int t2), (.int t3), (.int t4), (.int t5), (.int c2)] (.int (0 : Int32)) := A81
      have ex83 : Ext h0s h61 := Own.extK ex57 V61.1 all0
      have ex84 : Ext h0s h63 := Own.extK ex83 V63.1 (allS g1 all0)
      have ex85 : Ext h0s h67 := Own.extK ex84 V67.1 (allS g1 all0)
      have ex86 : Ext h0s h81 := Own.extK ex85 V81.1 (allS g1 all0)
      have S_87 := Own.Str.ext St ex86
      exact sg_c hw p0 p1 p2 p3 SC hzc SF hfm ts ls rp pp cc c2 (([t0, t1, t2, t3, t4, t5] : List Int32).getD pp.toNatClampNeg 0) t0 t1 t2 t3 t4 t5 t0 cc t2 t3 t4 t5 c2 tt b1 _ (Own.Wk.mono X81 (by decide) (by decide)) S_87 B81 ht0 hcc ht2 ht3 ht4 ht5 hc2 hcc hc2 hi6 hj6 rfl (own_ex1 hT hc171_69 (by rw [hp1]; rfl))
    · refine Own.s_aload X67 at_174 rfl rfl rfl ?_
      refine Own.s_iload X67 at_176 rfl rfl ?_
      refine Own.s_iload X67 at_178 rfl rfl ?_
      have O89 := (O68.ev V67)
      refine Own.s_castoreR X67 at_180 B67 ⟨by rw [hp2] <;> decide, by rw [hp2] <;> decide⟩ 2 (by rw [hp2] <;> decide) (Nat.le_of_ble_eq_true rfl) (Own.nar_chr hcc) O89 rfl ?_
      intro T88 h88 X88 V88 A88
      have B88 : Arv Z h88 b1 k1 .char (7 : Int32) [(.int t0), (.int t1), (.int cc), (.int t3), (.int t4), (.int t5), (.int c2)] (.int (0 : Int32)) := A88
      have ex90 : Ext h0s h61 := Own.extK ex57 V61.1 all0
      have ex91 : Ext h0s h63 := Own.extK ex90 V63.1 (allS g1 all0)
      have ex92 : Ext h0s h67 := Own.extK ex91 V67.1 (allS g1 all0)
      have ex93 : Ext h0s h88 := Own.extK ex92 V88.1 (allS g1 all0)
      have S_94 := Own.Str.ext St ex93
      exact sg_c hw p0 p1 p2 p3 SC hzc SF hfm ts ls rp pp cc c2 (([t0, t1, t2, t3, t4, t5] : List Int32).getD pp.toNatClampNeg 0) t0 t1 t2 t3 t4 t5 t0 t1 cc t3 t4 t5 c2 tt b1 _ (Own.Wk.mono X88 (by decide) (by decide)) S_94 B88 ht0 ht1 hcc ht3 ht4 ht5 hc2 hcc hc2 hi6 hj6 rfl (own_ex2 hT hc171_69 (by rw [hp2]; rfl))
    · refine Own.s_aload X67 at_174 rfl rfl rfl ?_
      refine Own.s_iload X67 at_176 rfl rfl ?_
      refine Own.s_iload X67 at_178 rfl rfl ?_
      have O96 := (O68.ev V67)
      refine Own.s_castoreR X67 at_180 B67 ⟨by rw [hp3] <;> decide, by rw [hp3] <;> decide⟩ 3 (by rw [hp3] <;> decide) (Nat.le_of_ble_eq_true rfl) (Own.nar_chr hcc) O96 rfl ?_
      intro T95 h95 X95 V95 A95
      have B95 : Arv Z h95 b1 k1 .char (7 : Int32) [(.int t0), (.int t1), (.int t2), (.int cc), (.int t4), (.int t5), (.int c2)] (.int (0 : Int32)) := A95
      have ex97 : Ext h0s h61 := Own.extK ex57 V61.1 all0
      have ex98 : Ext h0s h63 := Own.extK ex97 V63.1 (allS g1 all0)
      have ex99 : Ext h0s h67 := Own.extK ex98 V67.1 (allS g1 all0)
      have ex100 : Ext h0s h95 := Own.extK ex99 V95.1 (allS g1 all0)
      have S_101 := Own.Str.ext St ex100
      exact sg_c hw p0 p1 p2 p3 SC hzc SF hfm ts ls rp pp cc c2 (([t0, t1, t2, t3, t4, t5] : List Int32).getD pp.toNatClampNeg 0) t0 t1 t2 t3 t4 t5 t0 t1 t2 cc t4 t5 c2 tt b1 _ (Own.Wk.mono X95 (by decide) (by decide)) S_101 B95 ht0 ht1 ht2 hcc ht4 ht5 hc2 hcc hc2 hi6 hj6 rfl (own_ex3 hT hc171_69 (by rw [hp3]; rfl))
    · refine Own.s_aload X67 at_174 rfl rfl rfl ?_
      refine Own.s_iload X67 at_176 rfl rfl ?_
      refine Own.s_iload X67 at_178 rfl rfl ?_
      have O103 := (O68.ev V67)
      refine Own.s_castoreR X67 at_180 B67 ⟨by rw [hp4] <;> decide, by rw [hp4] <;> decide⟩ 4 (by rw [hp4] <;> decide) (Nat.le_of_ble_eq_true rfl) (Own.nar_chr hcc) O103 rfl ?_
      intro T102 h102 X102 V102 A102
      have B102 : Arv Z h102 b1 k1 .char (7 : Int32) [(.int t0), (.int t1), (.int t2), (.int t3), (.int cc), (.int t5), (.int c2)] (.int (0 : Int32)) := A102
      have ex104 : Ext h0s h61 := Own.extK ex57 V61.1 all0
      have ex105 : Ext h0s h63 := Own.extK ex104 V63.1 (allS g1 all0)
      have ex106 : Ext h0s h67 := Own.extK ex105 V67.1 (allS g1 all0)
      have ex107 : Ext h0s h102 := Own.extK ex106 V102.1 (allS g1 all0)
      have S_108 := Own.Str.ext St ex107
      exact sg_c hw p0 p1 p2 p3 SC hzc SF hfm ts ls rp pp cc c2 (([t0, t1, t2, t3, t4, t5] : List Int32).getD pp.toNatClampNeg 0) t0 t1 t2 t3 t4 t5 t0 t1 t2 t3 cc t5 c2 tt b1 _ (Own.Wk.mono X102 (by decide) (by decide)) S_108 B102 ht0 ht1 ht2 ht3 hcc ht5 hc2 hcc hc2 hi6 hj6 rfl (own_ex4 hT hc171_69 (by rw [hp4]; rfl))
    · refine Own.s_aload X67 at_174 rfl rfl rfl ?_
      refine Own.s_iload X67 at_176 rfl rfl ?_
      refine Own.s_iload X67 at_178 rfl rfl ?_
      have O110 := (O68.ev V67)
      refine Own.s_castoreR X67 at_180 B67 ⟨by rw [hp5] <;> decide, by rw [hp5] <;> decide⟩ 5 (by rw [hp5] <;> decide) (Nat.le_of_ble_eq_true rfl) (Own.nar_chr hcc) O110 rfl ?_
      intro T109 h109 X109 V109 A109
      have B109 : Arv Z h109 b1 k1 .char (7 : Int32) [(.int t0), (.int t1), (.int t2), (.int t3), (.int t4), (.int cc), (.int c2)] (.int (0 : Int32)) := A109
      have ex111 : Ext h0s h61 := Own.extK ex57 V61.1 all0
      have ex112 : Ext h0s h63 := Own.extK ex111 V63.1 (allS g1 all0)
      have ex113 : Ext h0s h67 := Own.extK ex112 V67.1 (allS g1 all0)
      have ex114 : Ext h0s h109 := Own.extK ex113 V109.1 (allS g1 all0)
      have S_115 := Own.Str.ext St ex114
      exact sg_c hw p0 p1 p2 p3 SC hzc SF hfm ts ls rp pp cc c2 (([t0, t1, t2, t3, t4, t5] : List Int32).getD pp.toNatClampNeg 0) t0 t1 t2 t3 t4 t5 t0 t1 t2 t3 t4 cc c2 tt b1 _ (Own.Wk.mono X109 (by decide) (by decide)) S_115 B109 ht0 ht1 ht2 ht3 ht4 hcc hc2 hcc hc2 hi6 hj6 rfl (own_ex5 hT hc171_69 (by rw [hp5]; rfl))
theorem own_i6 (q : Int32) : ((q &&& (2147483647 : Int32)) % (6 : Int32)).toNatClampNeg < 6 := by
  rcases own_p6 q with h | h | h | h | h | h <;> rw [h] <;> decide
theorem own_j6 (q : Int32) : ((q &&& (2147483647 : Int32)) % (6 : Int32)) = Int32.ofNat ((q &&& (2147483647 : Int32)) % (6 : Int32)).toNatClampNeg := by
  rcases own_p6 q with h | h | h | h | h | h <;> rw [h] <;> decide
set_option maxRecDepth 65536 in
set_option maxHeartbeats 40000000 in
theorem rm_law {l : Launch} {Z : State} {a0 : Array Value} (hw : ∀ d ∈ tables_1, d.before a0 Z = true) (p0 p1 p2 p3 : Int32) {zc : Int32} (SC : Sta Z Z.heap "java/lang/String" "COMPACT_STRINGS" "Z" (.int zc)) (hzc : ¬ zc = 0) {fm : Value} (SF : Sta Z Z.heap "jdk/internal/util/Preconditions" "SIOOBE_FORMATTER" "Ljava/util/function/BiFunction;" fm) (hfm : fm.isRef = true) (h0 : Heap) (hE : Ext Z.heap h0)  :
    Own.Ctr true l Z a0 EL x code maxLocals ret room_1 #[(.int p0), (.int p1), (.int p2), (.int p3)] h0 [] (fun v h => v = some (.int (1 : Int32))) := by
  refine Own.Ctr.of pn_5 (ef_3 p0 p1 p2 p3) hE (ewEL hw) ?_
  intro p e s m below meth c T0 X0 hsafe
  have SC0 := Sta.ext hE SC
  have SF0 := Sta.ext hE SF
  refine Own.s_iloadN X0 at_0 rfl rfl ?_
  refine Own.s_iconst X0 at_1 (1 : Int32) (by decide) rfl ?_
  refine Own.s_ishr X0 at_2 rfl ?_
  refine Own.s_iconst X0 at_3 (3 : Int32) (by decide) rfl ?_
  refine Own.s_iand X0 at_4 rfl ?_
  refine Own.s_istore X0 at_5 #[.val (.int p0), .val (.int p1), .val (.int p2), .val (.int p3), .val (.int ((p0 >>> ((1 : Int32) &&& 31)) &&& (3 : Int32))), .unset, .unset, .unset, .unset, .unset, .unset, .unset, .unset, .unset, .unset] rfl rfl ?_
  refine Own.s_iloadN X0 at_7 rfl rfl ?_
  refine Own.s_iconst X0 at_8 (3 : Int32) (by decide) rfl ?_
  refine Own.s_ishr X0 at_9 rfl ?_
  refine Own.s_iconst X0 at_10 (3 : Int32) (by decide) rfl ?_
  refine Own.s_iand X0 at_11 rfl ?_
  refine Own.s_istore X0 at_12 #[.val (.int p0), .val (.int p1), .val (.int p2), .val (.int p3), .val (.int ((p0 >>> ((1 : Int32) &&& 31)) &&& (3 : Int32))), .val (.int ((p0 >>> ((3 : Int32) &&& 31)) &&& (3 : Int32))), .unset, .unset, .unset, .unset, .unset, .unset, .unset, .unset, .unset] rfl rfl ?_
  refine Own.s_iloadN X0 at_14 rfl rfl ?_
  refine Own.s_iconst X0 at_15 (5 : Int32) (by decide) rfl ?_
  refine Own.s_ishr X0 at_16 rfl ?_
  refine Own.s_iconst X0 at_17 (1 : Int32) (by decide) rfl ?_
  refine Own.s_iand X0 at_18 rfl ?_
  by_cases hc19_1 : ((p0 >>> ((5 : Int32) &&& 31)) &&& (1 : Int32)) = (0 : Int32)
  · refine Own.s_ifT X0 at_19 ((if0 _ _).trans (teq hc19_1).1) (by decide) (pc' := 26) (by decide) ?_
    refine Own.s_iconst X0 at_26 (0 : Int32) (by decide) rfl ?_
    refine Own.s_istore X0 at_27 #[.val (.int p0), .val (.int p1), .val (.int p2), .val (.int p3), .val (.int ((p0 >>> ((1 : Int32) &&& 31)) &&& (3 : Int32))), .val (.int ((p0 >>> ((3 : Int32) &&& 31)) &&& (3 : Int32))), .val (.int (0 : Int32)), .unset, .unset, .unset, .unset, .unset, .unset, .unset, .unset] rfl rfl ?_
    refine Own.s_iloadN X0 at_29 rfl rfl ?_
    refine Own.s_ldcI X0 at_30 (tw0 hw) rfl ?_
    refine Own.s_iand X0 at_32 rfl ?_
    refine Own.s_bipush X0 at_33 (6 : Int32) (by decide) rfl ?_
    refine Own.s_irem X0 at_35 (by decide) rfl ?_
    refine Own.s_istore X0 at_36 #[.val (.int p0), .val (.int p1), .val (.int p2), .val (.int p3), .val (.int ((p0 >>> ((1 : Int32) &&& 31)) &&& (3 : Int32))), .val (.int ((p0 >>> ((3 : Int32) &&& 31)) &&& (3 : Int32))), .val (.int (0 : Int32)), .val (.int ((p1 &&& (2147483647 : Int32)) % (6 : Int32))), .unset, .unset, .unset, .unset, .unset, .unset, .unset] rfl rfl ?_
    refine Own.s_iloadN X0 at_38 rfl rfl ?_
    refine Own.s_sipush X0 at_39 (255 : Int32) (by decide) rfl ?_
    refine Own.s_iand X0 at_42 rfl ?_
    refine Own.s_i2cM X0 at_43 rfl ?_
    refine Own.s_istore X0 at_44 #[.val (.int p0), .val (.int p1), .val (.int p2), .val (.int p3), .val (.int ((p0 >>> ((1 : Int32) &&& 31)) &&& (3 : Int32))), .val (.int ((p0 >>> ((3 : Int32) &&& 31)) &&& (3 : Int32))), .val (.int (0 : Int32)), .val (.int ((p1 &&& (2147483647 : Int32)) % (6 : Int32))), .val (.int (p2 &&& (255 : Int32))), .unset, .unset, .unset, .unset, .unset, .unset] rfl rfl ?_
    refine Own.s_iloadN X0 at_46 rfl rfl ?_
    refine Own.s_sipush X0 at_47 (255 : Int32) (by decide) rfl ?_
    refine Own.s_iand X0 at_50 rfl ?_
    refine Own.s_i2cM X0 at_51 rfl ?_
    refine Own.s_istore X0 at_52 #[.val (.int p0), .val (.int p1), .val (.int p2), .val (.int p3), .val (.int ((p0 >>> ((1 : Int32) &&& 31)) &&& (3 : Int32))), .val (.int ((p0 >>> ((3 : Int32) &&& 31)) &&& (3 : Int32))), .val (.int (0 : Int32)), .val (.int ((p1 &&& (2147483647 : Int32)) % (6 : Int32))), .val (.int (p2 &&& (255 : Int32))), .val (.int (p3 &&& (255 : Int32))), .unset, .unset, .unset, .unset, .unset] rfl rfl ?_
    refine Own.s_iload X0 at_54 rfl rfl ?_
    by_cases hc56_2 : ((p0 >>> ((1 : Int32) &&& 31)) &&& (3 : Int32)) = (0 : Int32)
    · refine Own.s_ifF X0 at_56 ((if0 _ _).trans (teq hc56_2).2) rfl ?_
      refine Own.s_ldcStr rfl X0 at_59 (tw1 hw) (wSA hw) (by decide) (vs := [(.int (97 : Int32)), (.int (99 : Int32)), (.int (116 : Int32)), (.int (105 : Int32)), (.int (118 : Int32)), (.int (101 : Int32))]) (z := (6 : Int32)) ⟨by decide, by decide⟩ (by decide) (by decide) 24 (by decide) (by decide) (by decide) (by decide) rfl ?_
      intro a3 b3 k3 vm3 T3 h3 X3 V3 E3 C3 U3 A3
      have S3 : Own.Str Z h3 a3 [(97 : Int32), (99 : Int32), (116 : Int32), (105 : Int32), (118 : Int32), (101 : Int32)] := Own.Str.mk (by decide) (by decide) E3 C3 U3 A3
      refine Own.s_astore X3 at_61 rfl #[.val (.int p0), .val (.int p1), .val (.int p2), .val (.int p3), .val (.int ((p0 >>> ((1 : Int32) &&& 31)) &&& (3 : Int32))), .val (.int ((p0 >>> ((3 : Int32) &&& 31)) &&& (3 : Int32))), .val (.int (0 : Int32)), .val (.int ((p1 &&& (2147483647 : Int32)) % (6 : Int32))), .val (.int (p2 &&& (255 : Int32))), .val (.int (p3 &&& (255 : Int32))), .val (.ref a3), .unset, .unset, .unset, .unset] rfl rfl ?_
      refine Own.s_goto X3 at_63 (by decide) (pc' := 96) (by decide) ?_
      exact sg_b hw p0 p1 p2 p3 SC hzc SF hfm ((p0 >>> ((1 : Int32) &&& 31)) &&& (3 : Int32)) ((p0 >>> ((3 : Int32) &&& 31)) &&& (3 : Int32)) (0 : Int32) ((p1 &&& (2147483647 : Int32)) % (6 : Int32)) (p2 &&& (255 : Int32)) (p3 &&& (255 : Int32)) (97 : Int32) (99 : Int32) (116 : Int32) (105 : Int32) (118 : Int32) (101 : Int32) a3 (Own.Wk.mono X3 (by decide) (by decide)) S3 (Own.lat_mask _) (Own.lat_mask _) (own_p6 p1) (own_i6 p1) (own_j6 p1) (Or.inl ⟨hc56_2, rfl⟩)
    · refine Own.s_ifT X0 at_56 ((if0 _ _).trans (feq hc56_2).2) (by decide) (pc' := 66) (by decide) ?_
      refine Own.s_iload X0 at_66 rfl rfl ?_
      refine Own.s_iconst X0 at_68 (1 : Int32) (by decide) rfl ?_
      by_cases hc69_4 : ((p0 >>> ((1 : Int32) &&& 31)) &&& (3 : Int32)) = (1 : Int32)
      · refine Own.s_icmpF X0 at_69 (teq hc69_4).2 rfl ?_
        refine Own.s_ldcStr rfl X0 at_72 (tw102 hw) (wSA hw) (by decide) (vs := [(.int (99 : Int32)), (.int (108 : Int32)), (.int (111 : Int32)), (.int (115 : Int32)), (.int (101 : Int32)), (.int (100 : Int32))]) (z := (6 : Int32)) ⟨by decide, by decide⟩ (by decide) (by decide) 24 (by decide) (by decide) (by decide) (by decide) rfl ?_
        intro a5 b5 k5 vm5 T5 h5 X5 V5 E5 C5 U5 A5
        have S5 : Own.Str Z h5 a5 [(99 : Int32), (108 : Int32), (111 : Int32), (115 : Int32), (101 : Int32), (100 : Int32)] := Own.Str.mk (by decide) (by decide) E5 C5 U5 A5
        refine Own.s_astore X5 at_74 rfl #[.val (.int p0), .val (.int p1), .val (.int p2), .val (.int p3), .val (.int ((p0 >>> ((1 : Int32) &&& 31)) &&& (3 : Int32))), .val (.int ((p0 >>> ((3 : Int32) &&& 31)) &&& (3 : Int32))), .val (.int (0 : Int32)), .val (.int ((p1 &&& (2147483647 : Int32)) % (6 : Int32))), .val (.int (p2 &&& (255 : Int32))), .val (.int (p3 &&& (255 : Int32))), .val (.ref a5), .unset, .unset, .unset, .unset] rfl rfl ?_
        refine Own.s_goto X5 at_76 (by decide) (pc' := 96) (by decide) ?_
        exact sg_b hw p0 p1 p2 p3 SC hzc SF hfm ((p0 >>> ((1 : Int32) &&& 31)) &&& (3 : Int32)) ((p0 >>> ((3 : Int32) &&& 31)) &&& (3 : Int32)) (0 : Int32) ((p1 &&& (2147483647 : Int32)) % (6 : Int32)) (p2 &&& (255 : Int32)) (p3 &&& (255 : Int32)) (99 : Int32) (108 : Int32) (111 : Int32) (115 : Int32) (101 : Int32) (100 : Int32) a5 (Own.Wk.mono X5 (by decide) (by decide)) S5 (Own.lat_mask _) (Own.lat_mask _) (own_p6 p1) (own_i6 p1) (own_j6 p1) (Or.inr (Or.inl ⟨hc69_4, rfl⟩))
      · refine Own.s_icmpT X0 at_69 (feq hc69_4).2 (by decide) (pc' := 79) (by decide) ?_
        refine Own.s_iload X0 at_79 rfl rfl ?_
        refine Own.s_iconst X0 at_81 (2 : Int32) (by decide) rfl ?_
        by_cases hc82_6 : ((p0 >>> ((1 : Int32) &&& 31)) &&& (3 : Int32)) = (2 : Int32)
        · refine Own.s_icmpF X0 at_82 (teq hc82_6).2 rfl ?_
          refine Own.s_ldcStr rfl X0 at_85 (tw99 hw) (wSA hw) (by decide) (vs := [(.int (99 : Int32)), (.int (97 : Int32)), (.int (110 : Int32)), (.int (99 : Int32)), (.int (101 : Int32)), (.int (108 : Int32))]) (z := (6 : Int32)) ⟨by decide, by decide⟩ (by decide) (by decide) 24 (by decide) (by decide) (by decide) (by decide) rfl ?_
          intro a7 b7 k7 vm7 T7 h7 X7 V7 E7 C7 U7 A7
          have S7 : Own.Str Z h7 a7 [(99 : Int32), (97 : Int32), (110 : Int32), (99 : Int32), (101 : Int32), (108 : Int32)] := Own.Str.mk (by decide) (by decide) E7 C7 U7 A7
          refine Own.s_astore X7 at_87 rfl #[.val (.int p0), .val (.int p1), .val (.int p2), .val (.int p3), .val (.int ((p0 >>> ((1 : Int32) &&& 31)) &&& (3 : Int32))), .val (.int ((p0 >>> ((3 : Int32) &&& 31)) &&& (3 : Int32))), .val (.int (0 : Int32)), .val (.int ((p1 &&& (2147483647 : Int32)) % (6 : Int32))), .val (.int (p2 &&& (255 : Int32))), .val (.int (p3 &&& (255 : Int32))), .val (.ref a7), .unset, .unset, .unset, .unset] rfl rfl ?_
          refine Own.s_goto X7 at_89 (by decide) (pc' := 96) (by decide) ?_
          exact sg_b hw p0 p1 p2 p3 SC hzc SF hfm ((p0 >>> ((1 : Int32) &&& 31)) &&& (3 : Int32)) ((p0 >>> ((3 : Int32) &&& 31)) &&& (3 : Int32)) (0 : Int32) ((p1 &&& (2147483647 : Int32)) % (6 : Int32)) (p2 &&& (255 : Int32)) (p3 &&& (255 : Int32)) (99 : Int32) (97 : Int32) (110 : Int32) (99 : Int32) (101 : Int32) (108 : Int32) a7 (Own.Wk.mono X7 (by decide) (by decide)) S7 (Own.lat_mask _) (Own.lat_mask _) (own_p6 p1) (own_i6 p1) (own_j6 p1) (Or.inr (Or.inr ⟨hc56_2, hc69_4, Or.inl rfl⟩))
        · refine Own.s_icmpT X0 at_82 (feq hc82_6).2 (by decide) (pc' := 92) (by decide) ?_
          refine Own.s_ldcStr rfl X0 at_92 (tw101 hw) (wSA hw) (by decide) (vs := [(.int (65 : Int32)), (.int (67 : Int32)), (.int (84 : Int32)), (.int (73 : Int32)), (.int (86 : Int32)), (.int (69 : Int32))]) (z := (6 : Int32)) ⟨by decide, by decide⟩ (by decide) (by decide) 24 (by decide) (by decide) (by decide) (by decide) rfl ?_
          intro a8 b8 k8 vm8 T8 h8 X8 V8 E8 C8 U8 A8
          have S8 : Own.Str Z h8 a8 [(65 : Int32), (67 : Int32), (84 : Int32), (73 : Int32), (86 : Int32), (69 : Int32)] := Own.Str.mk (by decide) (by decide) E8 C8 U8 A8
          refine Own.s_astore X8 at_94 rfl #[.val (.int p0), .val (.int p1), .val (.int p2), .val (.int p3), .val (.int ((p0 >>> ((1 : Int32) &&& 31)) &&& (3 : Int32))), .val (.int ((p0 >>> ((3 : Int32) &&& 31)) &&& (3 : Int32))), .val (.int (0 : Int32)), .val (.int ((p1 &&& (2147483647 : Int32)) % (6 : Int32))), .val (.int (p2 &&& (255 : Int32))), .val (.int (p3 &&& (255 : Int32))), .val (.ref a8), .unset, .unset, .unset, .unset] rfl rfl ?_
          exact sg_b hw p0 p1 p2 p3 SC hzc SF hfm ((p0 >>> ((1 : Int32) &&& 31)) &&& (3 : Int32)) ((p0 >>> ((3 : Int32) &&& 31)) &&& (3 : Int32)) (0 : Int32) ((p1 &&& (2147483647 : Int32)) % (6 : Int32)) (p2 &&& (255 : Int32)) (p3 &&& (255 : Int32)) (65 : Int32) (67 : Int32) (84 : Int32) (73 : Int32) (86 : Int32) (69 : Int32) a8 (Own.Wk.mono X8 (by decide) (by decide)) S8 (Own.lat_mask _) (Own.lat_mask _) (own_p6 p1) (own_i6 p1) (own_j6 p1) (Or.inr (Or.inr ⟨hc56_2, hc69_4, Or.inr rfl⟩))
  · refine Own.s_ifF X0 at_19 ((if0 _ _).trans (feq hc19_1).1) rfl ?_
    refine Own.s_iconst X0 at_22 (1 : Int32) (by decide) rfl ?_
    refine Own.s_goto X0 at_23 (by decide) (pc' := 27) (by decide) ?_
    refine Own.s_istore X0 at_27 #[.val (.int p0), .val (.int p1), .val (.int p2), .val (.int p3), .val (.int ((p0 >>> ((1 : Int32) &&& 31)) &&& (3 : Int32))), .val (.int ((p0 >>> ((3 : Int32) &&& 31)) &&& (3 : Int32))), .val (.int (1 : Int32)), .unset, .unset, .unset, .unset, .unset, .unset, .unset, .unset] rfl rfl ?_
    refine Own.s_iloadN X0 at_29 rfl rfl ?_
    refine Own.s_ldcI X0 at_30 (tw0 hw) rfl ?_
    refine Own.s_iand X0 at_32 rfl ?_
    refine Own.s_bipush X0 at_33 (6 : Int32) (by decide) rfl ?_
    refine Own.s_irem X0 at_35 (by decide) rfl ?_
    refine Own.s_istore X0 at_36 #[.val (.int p0), .val (.int p1), .val (.int p2), .val (.int p3), .val (.int ((p0 >>> ((1 : Int32) &&& 31)) &&& (3 : Int32))), .val (.int ((p0 >>> ((3 : Int32) &&& 31)) &&& (3 : Int32))), .val (.int (1 : Int32)), .val (.int ((p1 &&& (2147483647 : Int32)) % (6 : Int32))), .unset, .unset, .unset, .unset, .unset, .unset, .unset] rfl rfl ?_
    refine Own.s_iloadN X0 at_38 rfl rfl ?_
    refine Own.s_sipush X0 at_39 (255 : Int32) (by decide) rfl ?_
    refine Own.s_iand X0 at_42 rfl ?_
    refine Own.s_i2cM X0 at_43 rfl ?_
    refine Own.s_istore X0 at_44 #[.val (.int p0), .val (.int p1), .val (.int p2), .val (.int p3), .val (.int ((p0 >>> ((1 : Int32) &&& 31)) &&& (3 : Int32))), .val (.int ((p0 >>> ((3 : Int32) &&& 31)) &&& (3 : Int32))), .val (.int (1 : Int32)), .val (.int ((p1 &&& (2147483647 : Int32)) % (6 : Int32))), .val (.int (p2 &&& (255 : Int32))), .unset, .unset, .unset, .unset, .unset, .unset] rfl rfl ?_
    refine Own.s_iloadN X0 at_46 rfl rfl ?_
    refine Own.s_sipush X0 at_47 (255 : Int32) (by decide) rfl ?_
    refine Own.s_iand X0 at_50 rfl ?_
    refine Own.s_i2cM X0 at_51 rfl ?_
    refine Own.s_istore X0 at_52 #[.val (.int p0), .val (.int p1), .val (.int p2), .val (.int p3), .val (.int ((p0 >>> ((1 : Int32) &&& 31)) &&& (3 : Int32))), .val (.int ((p0 >>> ((3 : Int32) &&& 31)) &&& (3 : Int32))), .val (.int (1 : Int32)), .val (.int ((p1 &&& (2147483647 : Int32)) % (6 : Int32))), .val (.int (p2 &&& (255 : Int32))), .val (.int (p3 &&& (255 : Int32))), .unset, .unset, .unset, .unset, .unset] rfl rfl ?_
    refine Own.s_iload X0 at_54 rfl rfl ?_
    by_cases hc56_9 : ((p0 >>> ((1 : Int32) &&& 31)) &&& (3 : Int32)) = (0 : Int32)
    · refine Own.s_ifF X0 at_56 ((if0 _ _).trans (teq hc56_9).2) rfl ?_
      refine Own.s_ldcStr rfl X0 at_59 (tw1 hw) (wSA hw) (by decide) (vs := [(.int (97 : Int32)), (.int (99 : Int32)), (.int (116 : Int32)), (.int (105 : Int32)), (.int (118 : Int32)), (.int (101 : Int32))]) (z := (6 : Int32)) ⟨by decide, by decide⟩ (by decide) (by decide) 24 (by decide) (by decide) (by decide) (by decide) rfl ?_
      intro a10 b10 k10 vm10 T10 h10 X10 V10 E10 C10 U10 A10
      have S10 : Own.Str Z h10 a10 [(97 : Int32), (99 : Int32), (116 : Int32), (105 : Int32), (118 : Int32), (101 : Int32)] := Own.Str.mk (by decide) (by decide) E10 C10 U10 A10
      refine Own.s_astore X10 at_61 rfl #[.val (.int p0), .val (.int p1), .val (.int p2), .val (.int p3), .val (.int ((p0 >>> ((1 : Int32) &&& 31)) &&& (3 : Int32))), .val (.int ((p0 >>> ((3 : Int32) &&& 31)) &&& (3 : Int32))), .val (.int (1 : Int32)), .val (.int ((p1 &&& (2147483647 : Int32)) % (6 : Int32))), .val (.int (p2 &&& (255 : Int32))), .val (.int (p3 &&& (255 : Int32))), .val (.ref a10), .unset, .unset, .unset, .unset] rfl rfl ?_
      refine Own.s_goto X10 at_63 (by decide) (pc' := 96) (by decide) ?_
      exact sg_b hw p0 p1 p2 p3 SC hzc SF hfm ((p0 >>> ((1 : Int32) &&& 31)) &&& (3 : Int32)) ((p0 >>> ((3 : Int32) &&& 31)) &&& (3 : Int32)) (1 : Int32) ((p1 &&& (2147483647 : Int32)) % (6 : Int32)) (p2 &&& (255 : Int32)) (p3 &&& (255 : Int32)) (97 : Int32) (99 : Int32) (116 : Int32) (105 : Int32) (118 : Int32) (101 : Int32) a10 (Own.Wk.mono X10 (by decide) (by decide)) S10 (Own.lat_mask _) (Own.lat_mask _) (own_p6 p1) (own_i6 p1) (own_j6 p1) (Or.inl ⟨hc56_9, rfl⟩)
    · refine Own.s_ifT X0 at_56 ((if0 _ _).trans (feq hc56_9).2) (by decide) (pc' := 66) (by decide) ?_
      refine Own.s_iload X0 at_66 rfl rfl ?_
      refine Own.s_iconst X0 at_68 (1 : Int32) (by decide) rfl ?_
      by_cases hc69_11 : ((p0 >>> ((1 : Int32) &&& 31)) &&& (3 : Int32)) = (1 : Int32)
      · refine Own.s_icmpF X0 at_69 (teq hc69_11).2 rfl ?_
        refine Own.s_ldcStr rfl X0 at_72 (tw102 hw) (wSA hw) (by decide) (vs := [(.int (99 : Int32)), (.int (108 : Int32)), (.int (111 : Int32)), (.int (115 : Int32)), (.int (101 : Int32)), (.int (100 : Int32))]) (z := (6 : Int32)) ⟨by decide, by decide⟩ (by decide) (by decide) 24 (by decide) (by decide) (by decide) (by decide) rfl ?_
        intro a12 b12 k12 vm12 T12 h12 X12 V12 E12 C12 U12 A12
        have S12 : Own.Str Z h12 a12 [(99 : Int32), (108 : Int32), (111 : Int32), (115 : Int32), (101 : Int32), (100 : Int32)] := Own.Str.mk (by decide) (by decide) E12 C12 U12 A12
        refine Own.s_astore X12 at_74 rfl #[.val (.int p0), .val (.int p1), .val (.int p2), .val (.int p3), .val (.int ((p0 >>> ((1 : Int32) &&& 31)) &&& (3 : Int32))), .val (.int ((p0 >>> ((3 : Int32) &&& 31)) &&& (3 : Int32))), .val (.int (1 : Int32)), .val (.int ((p1 &&& (2147483647 : Int32)) % (6 : Int32))), .val (.int (p2 &&& (255 : Int32))), .val (.int (p3 &&& (255 : Int32))), .val (.ref a12), .unset, .unset, .unset, .unset] rfl rfl ?_
        refine Own.s_goto X12 at_76 (by decide) (pc' := 96) (by decide) ?_
        exact sg_b hw p0 p1 p2 p3 SC hzc SF hfm ((p0 >>> ((1 : Int32) &&& 31)) &&& (3 : Int32)) ((p0 >>> ((3 : Int32) &&& 31)) &&& (3 : Int32)) (1 : Int32) ((p1 &&& (2147483647 : Int32)) % (6 : Int32)) (p2 &&& (255 : Int32)) (p3 &&& (255 : Int32)) (99 : Int32) (108 : Int32) (111 : Int32) (115 : Int32) (101 : Int32) (100 : Int32) a12 (Own.Wk.mono X12 (by decide) (by decide)) S12 (Own.lat_mask _) (Own.lat_mask _) (own_p6 p1) (own_i6 p1) (own_j6 p1) (Or.inr (Or.inl ⟨hc69_11, rfl⟩))
      · refine Own.s_icmpT X0 at_69 (feq hc69_11).2 (by decide) (pc' := 79) (by decide) ?_
        refine Own.s_iload X0 at_79 rfl rfl ?_
        refine Own.s_iconst X0 at_81 (2 : Int32) (by decide) rfl ?_
        by_cases hc82_13 : ((p0 >>> ((1 : Int32) &&& 31)) &&& (3 : Int32)) = (2 : Int32)
        · refine Own.s_icmpF X0 at_82 (teq hc82_13).2 rfl ?_
          refine Own.s_ldcStr rfl X0 at_85 (tw99 hw) (wSA hw) (by decide) (vs := [(.int (99 : Int32)), (.int (97 : Int32)), (.int (110 : Int32)), (.int (99 : Int32)), (.int (101 : Int32)), (.int (108 : Int32))]) (z := (6 : Int32)) ⟨by decide, by decide⟩ (by decide) (by decide) 24 (by decide) (by decide) (by decide) (by decide) rfl ?_
          intro a14 b14 k14 vm14 T14 h14 X14 V14 E14 C14 U14 A14
          have S14 : Own.Str Z h14 a14 [(99 : Int32), (97 : Int32), (110 : Int32), (99 : Int32), (101 : Int32), (108 : Int32)] := Own.Str.mk (by decide) (by decide) E14 C14 U14 A14
          refine Own.s_astore X14 at_87 rfl #[.val (.int p0), .val (.int p1), .val (.int p2), .val (.int p3), .val (.int ((p0 >>> ((1 : Int32) &&& 31)) &&& (3 : Int32))), .val (.int ((p0 >>> ((3 : Int32) &&& 31)) &&& (3 : Int32))), .val (.int (1 : Int32)), .val (.int ((p1 &&& (2147483647 : Int32)) % (6 : Int32))), .val (.int (p2 &&& (255 : Int32))), .val (.int (p3 &&& (255 : Int32))), .val (.ref a14), .unset, .unset, .unset, .unset] rfl rfl ?_
          refine Own.s_goto X14 at_89 (by decide) (pc' := 96) (by decide) ?_
          exact sg_b hw p0 p1 p2 p3 SC hzc SF hfm ((p0 >>> ((1 : Int32) &&& 31)) &&& (3 : Int32)) ((p0 >>> ((3 : Int32) &&& 31)) &&& (3 : Int32)) (1 : Int32) ((p1 &&& (2147483647 : Int32)) % (6 : Int32)) (p2 &&& (255 : Int32)) (p3 &&& (255 : Int32)) (99 : Int32) (97 : Int32) (110 : Int32) (99 : Int32) (101 : Int32) (108 : Int32) a14 (Own.Wk.mono X14 (by decide) (by decide)) S14 (Own.lat_mask _) (Own.lat_mask _) (own_p6 p1) (own_i6 p1) (own_j6 p1) (Or.inr (Or.inr ⟨hc56_9, hc69_11, Or.inl rfl⟩))
        · refine Own.s_icmpT X0 at_82 (feq hc82_13).2 (by decide) (pc' := 92) (by decide) ?_
          refine Own.s_ldcStr rfl X0 at_92 (tw101 hw) (wSA hw) (by decide) (vs := [(.int (65 : Int32)), (.int (67 : Int32)), (.int (84 : Int32)), (.int (73 : Int32)), (.int (86 : Int32)), (.int (69 : Int32))]) (z := (6 : Int32)) ⟨by decide, by decide⟩ (by decide) (by decide) 24 (by decide) (by decide) (by decide) (by decide) rfl ?_
          intro a15 b15 k15 vm15 T15 h15 X15 V15 E15 C15 U15 A15
          have S15 : Own.Str Z h15 a15 [(65 : Int32), (67 : Int32), (84 : Int32), (73 : Int32), (86 : Int32), (69 : Int32)] := Own.Str.mk (by decide) (by decide) E15 C15 U15 A15
          refine Own.s_astore X15 at_94 rfl #[.val (.int p0), .val (.int p1), .val (.int p2), .val (.int p3), .val (.int ((p0 >>> ((1 : Int32) &&& 31)) &&& (3 : Int32))), .val (.int ((p0 >>> ((3 : Int32) &&& 31)) &&& (3 : Int32))), .val (.int (1 : Int32)), .val (.int ((p1 &&& (2147483647 : Int32)) % (6 : Int32))), .val (.int (p2 &&& (255 : Int32))), .val (.int (p3 &&& (255 : Int32))), .val (.ref a15), .unset, .unset, .unset, .unset] rfl rfl ?_
          exact sg_b hw p0 p1 p2 p3 SC hzc SF hfm ((p0 >>> ((1 : Int32) &&& 31)) &&& (3 : Int32)) ((p0 >>> ((3 : Int32) &&& 31)) &&& (3 : Int32)) (1 : Int32) ((p1 &&& (2147483647 : Int32)) % (6 : Int32)) (p2 &&& (255 : Int32)) (p3 &&& (255 : Int32)) (65 : Int32) (67 : Int32) (84 : Int32) (73 : Int32) (86 : Int32) (69 : Int32) a15 (Own.Wk.mono X15 (by decide) (by decide)) S15 (Own.lat_mask _) (Own.lat_mask _) (own_p6 p1) (own_i6 p1) (own_j6 p1) (Or.inr (Or.inr ⟨hc56_9, hc69_11, Or.inr rfl⟩))
set_option maxRecDepth 65536 in
set_option maxHeartbeats 40000000 in
theorem comes_1 {Post : Tables → Env → Array Value → State → Outcome → State → Prop} (hpost : ∀ tb e args s v u, (limb_1_1.after args s (.returned v) u = true ∧ limb_1_2.after args s (.returned v) u = true ∧ True) → ReturnedEndW s (.returned v) u (Jvm.fieldLocs frame_1_writes args s ++ Jvm.arrayLocs frame_1_arrays args s ++ Jvm.staticLocs frame_1_statics s) 40 9408 → Post tb e args s (.returned v) u) :
    ArmFor flags0 classFile x code maxLocals ret World_1 tables_1 room_1 Calls_1 rest_1 Pre_1 Post := by
  intro l hfl _ _ p e ha hc hk s m args below hf hA hF happ hP
  obtain ⟨hcalls, hrest, hpre⟩ := hP
  obtain ⟨-, -, -, hnamed, -, -, -, hat⟩ := (Spec.applies_iff hf).mp happ
  obtain ⟨hg, hn⟩ := and_e (Cond.before_iff.mp (show (Jvm.Cond.and given_1 narrow_1).before args s = true from hpre))
  obtain ⟨hcount, r0⟩ := and_e hg
  obtain ⟨q0, r1⟩ := and_e r0
  obtain ⟨q1, r2⟩ := and_e r1
  obtain ⟨q2, r3⟩ := and_e r2
  have q3 := r3
  obtain ⟨w0, w1, w2, w3, rfl⟩ : ∃ w0 w1 w2 w3 : Value, args = #[w0, w1, w2, w3] := by
    have hs : args.size = 4 := by simpa [Cond.value, given_1] using hcount
    obtain ⟨L⟩ := args
    match L, hs with
    | [w0, w1, w2, w3], _ => exact ⟨w0, w1, w2, w3, rfl⟩
  have hw := fun d (hd : d ∈ tables_1) => atoms_spec (ws := Jvm.Cond.code x code maxLocals ret :: tables_1) hat d (List.mem_cons_of_mem _ hd)
  obtain ⟨hsets, hown0⟩ := atoms_of _ (rest_1_c_eq ▸ (show rest_1_c.before _ s = true from hrest))
  obtain ⟨i0, e0⟩ := is_v q0
  obtain rfl : w0 = (.int i0) := Option.some.inj e0
  obtain ⟨i1, e1⟩ := is_v q1
  obtain rfl : w1 = (.int i1) := Option.some.inj e1
  obtain ⟨i2, e2⟩ := is_v q2
  obtain rfl : w2 = (.int i2) := Option.some.inj e2
  obtain ⟨i3, e3⟩ := is_v q3
  obtain rfl : w3 = (.int i3) := Option.some.inj e3
  have nC := not_v (Cond.before_iff.mp (hsets _ (List.mem_of_getElem? (i := 2) rfl)))
  obtain ⟨zc, eC⟩ := is_v (Cond.before_iff.mp (hsets _ (List.mem_of_getElem? (i := 1) rfl)))
  have SC : Sta s s.heap "java/lang/String" "COMPACT_STRINGS" "Z" (.int zc) := Sta.start eC (Or.inl (hsets _ (List.mem_of_getElem? (i := 0) rfl)))
  have hzc : ¬ (zc = (0 : Int32)) := gotF (Cond.eq_ints eC (Term.int_eval (0))) nC
  obtain ⟨fm, eF, hfm⟩ := isR_v (Cond.before_iff.mp (hsets _ (List.mem_of_getElem? (i := 8) rfl)))
  have SF : Sta s s.heap "jdk/internal/util/Preconditions" "SIOOBE_FORMATTER" "Ljava/util/function/BiFunction;" fm := Sta.start eF (Or.inl (hsets _ (List.mem_of_getElem? (i := 7) rfl)))
  have hCH : CHv s EL s.vm s.heap := CHv.start (ewEL hw) (fun p hp => hcalls.1 p hp) (a0 := _) (hsets _ (List.mem_of_getElem? (i := 2) rfl)) (tw4 hw) (tw3 hw)
  obtain ⟨n, o, g1, g2, g3, v, rfl, L, ⟨N, -, rfl⟩, -, hRW, hFE⟩ := rm_law hw i0 i1 i2 i3 SC hzc SF hfm s.heap (Own.Ext.rfl' _) tables_1 p e ha hc hk s m _ below hf ((Spec.applies_iff_loose hf).mp happ).1 ⟨rfl, State.Warmed39.refl s, rfl, fun _ => ⟨hCH, fun _ q => nomatch q⟩⟩ trivial
  have hq := hRW
  refine ⟨n, _, g1, g2, g3, hpost _ _ _ _ _ _ ⟨Cond.after_iff.mpr rfl, Cond.after_iff.mpr (eq_i res_at (Term.int_eval (1)) rfl), trivial⟩ ⟨hq.1, hq.2.1, hq.2.2.1, (hq.2.2.2.sift fun y hy => Or.inr (N y hy)).mono (by decide) (by decide)⟩⟩
theorem main_1_1 : Claimed_1_1 := comes_1 fun _ _ _ _ _ _ h hF => ⟨h.1, hF⟩
theorem main_1_2 : Claimed_1_2 := comes_1 fun _ _ _ _ _ _ h hF => ⟨h.2.1, hF⟩
end Jvm.Pilot.@@N@@
namespace Jvm.Pilot.@@N@@
open Jvm Jvm.ClassFile Sem Op Lib Jvm.Free Jvm.Stand Jvm.Pilot.@@N@@.Jvm.D
/-! MADE BY PROGRAM (witnessworld.py) out of the Statement's table words and the real class files: 21 classes; the members and pool entries that the words name. The judged class is class 1, her method 1. -/
namespace start1
open Jvm.ClassFile
def u (s : String) : CpInfo := .utf8 (stringToUtf16 s)
/-- a pool by its gaps: so many unusable entries, then the entry; so many at the end -/
def gap : Nat → List CpInfo → List CpInfo
  | 0, r => r
  | n + 1, r => .unusable :: gap n r
def poolList (es : List (Nat × CpInfo)) (last : Nat) : List CpInfo := es.foldr (fun e r => gap e.1 (e.2 :: r)) (gap last [])
def pool (es : List (Nat × CpInfo)) (last : Nat) : Array CpInfo := ⟨poolList es last⟩
def fileOf (pool : Array CpInfo) (this : Nat) (attrs : Array Attribute := #[]) (ms : Array MethodInfo := #[]) (fl : Nat := 33) (sup : Nat := 0) (ifs : Array Nat := #[]) (fds : Array FieldInfo := #[]) : ClassFile where
  minorVersion := 0
  majorVersion := 65
  constantPool := pool
  accessFlags := fl
  thisClass := this
  superClass := sup
  interfaces := ifs
  fields := fds
  methods := ms
  attributes := attrs
def plain (name : String) (sup : Option ClassId) : Class where
  name := name
  kind := .ordinary
  loader := none
  accessFlags := 33
  super := sup
  interfaces := #[]
  cf := none
  fields := #[]
  methods := #[]
  instanceTypes := #[]
  staticTypes := #[]
  resolved := #[]
  callSites := []
  init := .initialized
  statics := none
  mirror := none

def pool0 : Array CpInfo := pool [(5, u "<init>"), (0, u "()V"), (1, .class_ 10), (1, u "java/lang/Object")] 113

def k0c0 : Code := { maxStack := 0, maxLocals := 1, code := object_method_1_code, exceptionTable := #[], attributes := #[] }
def k0m0 : Method := { name := "<init>", desc := "()V", sig := { parameters := [], returnType := none }, accessFlags := 1, code := some k0c0 }
/-- java/lang/Object -/
def k0 : Class := { plain "java/lang/Object" none with
  accessFlags := 33
  interfaces := #[]
  cf := some (fileOf pool0 8 #[] #[{ accessFlags := 1, nameIndex := 5, descriptorIndex := 6, attributes := #[] }] 33 0 #[] #[])
  fields := #[]
  methods := #[k0m0]
  instanceTypes := #[]
  staticTypes := #[]
  resolved := Array.replicate 124 none
  statics := none }

def pool1 : Array CpInfo := pool [(2, .class_ 4), (1, u "java/lang/Object"), (0, u "<init>"), (0, u "()V"), (0, .integer 2147483647), (0, .string 9), (0, u "active"), (0, .string 11), (0, u "closed"), (0, .string 13), (0, u "cancel"), (0, .string 15), (0, u "ACTIVE"), (0, .methodref 17 18), (0, .class_ 19), (0, .nameAndType 20 21), (0, u "java/lang/String"), (0, u "charAt"), (0, u "(I)C"), (0, .methodref 17 23), (0, .nameAndType 5 24), (0, u "([C)V"), (0, .class_ 26), (0, u "com/example/carelane/carelane/registry/Episode"), (0, .string 28), (0, u "e1"), (0, .string 30), (0, u "p1"), (0, .string 32), (0, u "o1"), (0, .methodref 25 34), (0, .nameAndType 5 35), (0, u "(Ljava/lang/String;Ljava/lang/String;Ljava/lang/String;Ljava/lang/String;)V"), (0, .methodref 25 37), (0, .nameAndType 38 39), (0, u "isActiveOrClosed"), (0, u "()Z"), (0, .class_ 41), (0, u "com/example/carelane/carelane/registry/EpisodeIsActiveOrClosedPinLaw"), (2, u "law"), (0, u "(IIII)Z")] 5

def k1m0 : Method := { name := "<init>", desc := "()V", sig := { parameters := [], returnType := none }, accessFlags := 1, code := none }
def k1c1 : Code := { maxStack := 7, maxLocals := 15, code := code, exceptionTable := #[], attributes := #[] }
def k1m1 : Method := { name := "law", desc := "(IIII)Z", sig := { parameters := [.int, .int, .int, .int], returnType := some .boolean }, accessFlags := 9, code := some k1c1 }
/-- com/example/carelane/carelane/registry/EpisodeIsActiveOrClosedPinLaw -/
def k1 : Class := { plain "com/example/carelane/carelane/registry/EpisodeIsActiveOrClosedPinLaw" (some 0) with
  accessFlags := 49
  interfaces := #[]
  cf := some (fileOf pool1 40 #[] #[{ accessFlags := 1, nameIndex := 5, descriptorIndex := 6, attributes := #[] }, { accessFlags := 9, nameIndex := 44, descriptorIndex := 45, attributes := #[] }] 49 2 #[] #[])
  fields := #[]
  methods := #[k1m0, k1m1]
  instanceTypes := #[]
  staticTypes := #[]
  resolved := Array.replicate 51 none
  statics := none }

def pool2 : Array CpInfo := pool [(1, .class_ 2), (0, u "java/io/Serializable"), (0, .class_ 4), (0, u "java/lang/Object")] 2

/-- java/io/Serializable -/
def k2 : Class := { plain "java/io/Serializable" (some 0) with
  accessFlags := 1537
  interfaces := #[]
  cf := some (fileOf pool2 1 #[] #[] 1537 3 #[] #[])
  fields := #[]
  methods := #[]
  instanceTypes := #[]
  staticTypes := #[]
  resolved := Array.replicate 7 none
  statics := none }

def pool3 : Array CpInfo := pool [(1, .class_ 2), (0, u "java/lang/Comparable"), (0, .class_ 4), (0, u "java/lang/Object")] 7

/-- java/lang/Comparable -/
def k3 : Class := { plain "java/lang/Comparable" (some 0) with
  accessFlags := 1537
  interfaces := #[]
  cf := some (fileOf pool3 1 #[] #[] 1537 3 #[] #[])
  fields := #[]
  methods := #[]
  instanceTypes := #[]
  staticTypes := #[]
  resolved := Array.replicate 12 none
  statics := none }

def pool4 : Array CpInfo := pool [(2, .class_ 4), (1, u "java/lang/CharSequence"), (42, .class_ 48), (0, u "java/lang/CharSequence$1CodePointIterator"), (10, .class_ 60), (0, u "java/lang/CharSequence$1CharIterator"), (5, .class_ 67), (0, u "java/lang/Object")] 63

/-- java/lang/CharSequence -/
def k4 : Class := { plain "java/lang/CharSequence" (some 0) with
  accessFlags := 1537
  interfaces := #[]
  cf := some (fileOf pool4 2 #[.nestMembers #[47, 59]] #[] 1537 66 #[] #[])
  fields := #[]
  methods := #[]
  instanceTypes := #[]
  staticTypes := #[]
  resolved := Array.replicate 131 none
  statics := none }

def pool5 : Array CpInfo := pool [(1, .class_ 2), (0, u "java/lang/constant/Constable"), (0, .class_ 4), (0, u "java/lang/Object")] 6

/-- java/lang/constant/Constable -/
def k5 : Class := { plain "java/lang/constant/Constable" (some 0) with
  accessFlags := 1537
  interfaces := #[]
  cf := some (fileOf pool5 1 #[] #[] 1537 3 #[] #[])
  fields := #[]
  methods := #[]
  instanceTypes := #[]
  staticTypes := #[]
  resolved := Array.replicate 11 none
  statics := none }

def pool6 : Array CpInfo := pool [(1, .class_ 2), (0, u "java/lang/constant/ConstantDesc"), (0, .class_ 4), (0, u "java/lang/Object")] 32

/-- java/lang/constant/ConstantDesc -/
def k6 : Class := { plain "java/lang/constant/ConstantDesc" (some 0) with
  accessFlags := 1537
  interfaces := #[]
  cf := some (fileOf pool6 1 #[] #[] 1537 3 #[] #[])
  fields := #[]
  methods := #[]
  instanceTypes := #[]
  staticTypes := #[]
  resolved := Array.replicate 37 none
  statics := none }

def pool7 : Array CpInfo := pool [(1, .methodref 2 3), (0, .class_ 4), (0, .nameAndType 5 6), (0, u "java/lang/Object"), (0, u "<init>"), (0, u "()V"), (2, .fieldref 10 11), (0, .class_ 12), (0, .nameAndType 13 14), (0, u "java/lang/String"), (0, u "value"), (0, u "[B"), (0, .fieldref 10 16), (0, .nameAndType 17 18), (0, u "coder"), (0, u "B"), (2, u "hash"), (0, u "I"), (2, u "hashIsZero"), (0, u "Z"), (0, .methodref 10 28), (0, .nameAndType 5 29), (0, u "([CIILjava/lang/Void;)V"), (8, .fieldref 10 39), (0, .nameAndType 40 26), (0, u "COMPACT_STRINGS"), (1, .class_ 44), (1, u "java/lang/StringUTF16"), (0, u "compress"), (1, .methodref 42 48), (0, .nameAndType 49 50), (0, u "coderFromArrayLen"), (0, u "([BI)B"), (56, .class_ 109), (1, u "java/lang/StringLatin1"), (32, u "()Z"), (34, .methodref 42 178), (0, .nameAndType 45 179), (0, u "([CII)[B"), (183, u "([BI)C"), (27, u "(II)V"), (35, u "(I)C"), (64, .methodref 10 493), (0, .nameAndType 494 142), (0, u "isLatin1"), (0, .methodref 107 496), (0, .nameAndType 497 363), (0, u "charAt"), (3, u "checkIndex"), (39, .methodref 107 542), (0, .nameAndType 543 544), (0, u "equals"), (0, u "([B[B)Z"), (28, u "(Ljava/lang/Object;)Z"), (1, .class_ 576), (0, u "java/lang/CharSequence"), (22, u "CASE_INSENSITIVE_ORDER"), (0, u "Ljava/util/Comparator;"), (409, u "([C)V"), (42, .fieldref 1054 1055), (0, .class_ 1056), (0, .nameAndType 1057 1058), (0, u "jdk/internal/util/Preconditions"), (0, u "SIOOBE_FORMATTER"), (0, u "Ljava/util/function/BiFunction;"), (0, .methodref 1054 1060), (0, .nameAndType 501 1061), (0, u "(IILjava/util/function/BiFunction;)I"), (39, u "serialPersistentFields"), (0, u "[Ljava/io/ObjectStreamField;"), (0, .class_ 1104), (0, u "java/lang/String$CaseInsensitiveComparator"), (1, .class_ 1107), (0, u "java/io/Serializable"), (0, .class_ 1109), (0, u "java/lang/Comparable"), (0, .class_ 1111), (0, u "java/lang/constant/Constable"), (0, .class_ 1113), (0, u "java/lang/constant/ConstantDesc"), (2, u "serialVersionUID"), (0, u "J"), (3, u "REPL"), (0, u "C"), (2, u "LATIN1"), (1, u "UTF16")] 323

def k7m0 : Method := { name := "<init>", desc := "()V", sig := { parameters := [], returnType := none }, accessFlags := 1, code := none }
def k7c1 : Code := { maxStack := 5, maxLocals := 2, code := jdk_42_method_3_code, exceptionTable := #[], attributes := #[] }
def k7m1 : Method := { name := "<init>", desc := "([C)V", sig := { parameters := [(.array .char)], returnType := none }, accessFlags := 1, code := some k7c1 }
def k7c2 : Code := { maxStack := 2, maxLocals := 2, code := jdk_42_method_56_code, exceptionTable := #[], attributes := #[] }
def k7m2 : Method := { name := "charAt", desc := "(I)C", sig := { parameters := [.int], returnType := some .char }, accessFlags := 1, code := some k7c2 }
def k7c3 : Code := { maxStack := 2, maxLocals := 3, code := jdk_42_method_66_code, exceptionTable := #[], attributes := #[] }
def k7m3 : Method := { name := "equals", desc := "(Ljava/lang/Object;)Z", sig := { parameters := [(.object "java/lang/Object")], returnType := some .boolean }, accessFlags := 1, code := some k7c3 }
def k7c4 : Code := { maxStack := 4, maxLocals := 6, code := jdk_42_method_149_code, exceptionTable := #[], attributes := #[] }
def k7m4 : Method := { name := "<init>", desc := "([CIILjava/lang/Void;)V", sig := { parameters := [(.array .char), .int, .int, (.object "java/lang/Void")], returnType := none }, accessFlags := 2, code := some k7c4 }
def k7c5 : Code := { maxStack := 1, maxLocals := 1, code := jdk_42_method_154_code, exceptionTable := #[], attributes := #[] }
def k7m5 : Method := { name := "isLatin1", desc := "()Z", sig := { parameters := [], returnType := some .boolean }, accessFlags := 0, code := some k7c5 }
def k7c6 : Code := { maxStack := 3, maxLocals := 2, code := jdk_42_method_155_code, exceptionTable := #[], attributes := #[] }
def k7m6 : Method := { name := "checkIndex", desc := "(II)V", sig := { parameters := [.int, .int], returnType := none }, accessFlags := 8, code := some k7c6 }
/-- java/lang/String -/
def k7 : Class := { plain "java/lang/String" (some 0) with
  accessFlags := 49
  interfaces := #[2, 3, 4, 5, 6]
  cf := some (fileOf pool7 10 #[.nestMembers #[1103]] #[{ accessFlags := 1, nameIndex := 5, descriptorIndex := 6, attributes := #[] }, { accessFlags := 1, nameIndex := 5, descriptorIndex := 1010, attributes := #[] }, { accessFlags := 1, nameIndex := 497, descriptorIndex := 427, attributes := #[] }, { accessFlags := 1, nameIndex := 543, descriptorIndex := 573, attributes := #[] }, { accessFlags := 2, nameIndex := 5, descriptorIndex := 29, attributes := #[] }, { accessFlags := 0, nameIndex := 494, descriptorIndex := 142, attributes := #[] }, { accessFlags := 8, nameIndex := 501, descriptorIndex := 391, attributes := #[] }] 49 2 #[1106, 1108, 575, 1110, 1112] #[{ accessFlags := 18, nameIndex := 13, descriptorIndex := 14, attributes := #[] }, { accessFlags := 18, nameIndex := 17, descriptorIndex := 18, attributes := #[] }, { accessFlags := 2, nameIndex := 21, descriptorIndex := 22, attributes := #[] }, { accessFlags := 2, nameIndex := 25, descriptorIndex := 26, attributes := #[] }, { accessFlags := 26, nameIndex := 1116, descriptorIndex := 1117, attributes := #[] }, { accessFlags := 24, nameIndex := 40, descriptorIndex := 26, attributes := #[] }, { accessFlags := 26, nameIndex := 1101, descriptorIndex := 1102, attributes := #[] }, { accessFlags := 26, nameIndex := 1121, descriptorIndex := 1122, attributes := #[] }, { accessFlags := 25, nameIndex := 599, descriptorIndex := 600, attributes := #[] }, { accessFlags := 24, nameIndex := 1125, descriptorIndex := 18, attributes := #[] }, { accessFlags := 24, nameIndex := 1127, descriptorIndex := 18, attributes := #[] }])
  fields := #[{ name := "value", type := (.array .byte), accessFlags := 18, slot := 0, constantValue := 0 }, { name := "coder", type := .byte, accessFlags := 18, slot := 1, constantValue := 0 }, { name := "hash", type := .int, accessFlags := 2, slot := 2, constantValue := 0 }, { name := "hashIsZero", type := .boolean, accessFlags := 2, slot := 3, constantValue := 0 }, { name := "serialVersionUID", type := .long, accessFlags := 26, slot := 0, constantValue := 0 }, { name := "COMPACT_STRINGS", type := .boolean, accessFlags := 24, slot := 1, constantValue := 0 }, { name := "serialPersistentFields", type := (.array (.object "java/io/ObjectStreamField")), accessFlags := 26, slot := 2, constantValue := 0 }, { name := "REPL", type := .char, accessFlags := 26, slot := 3, constantValue := 0 }, { name := "CASE_INSENSITIVE_ORDER", type := (.object "java/util/Comparator"), accessFlags := 25, slot := 4, constantValue := 0 }, { name := "LATIN1", type := .byte, accessFlags := 24, slot := 5, constantValue := 0 }, { name := "UTF16", type := .byte, accessFlags := 24, slot := 6, constantValue := 0 }]
  methods := #[k7m0, k7m1, k7m2, k7m3, k7m4, k7m5, k7m6]
  instanceTypes := #[(.array .byte), .byte, .int, .boolean]
  staticTypes := #[.long, .boolean, (.array (.object "java/io/ObjectStreamField")), .char, (.object "java/util/Comparator"), .byte, .byte]
  resolved := Array.replicate 1451 none
  statics := some 0 }

def pool8 : Array CpInfo := pool [(1, .class_ 2), (0, u "java/lang/String"), (1, .class_ 6), (1, u "java/lang/Object"), (0, u "<init>"), (0, u "()V"), (0, .methodref 1 10), (0, .nameAndType 11 12), (0, u "checkIndex"), (0, u "(II)V"), (1, .class_ 16), (1, u "java/lang/StringLatin1"), (36, u "([BI)C"), (67, u "$assertionsDisabled"), (0, u "Z"), (98, .class_ 223), (1, u "java/lang/StringLatin1$LinesSpliterator"), (28, u "charAt"), (28, u "equals"), (0, u "([B[B)Z"), (107, .class_ 391), (0, u "java/lang/StringLatin1$CharsSpliterator")] 3

def k8m0 : Method := { name := "<init>", desc := "()V", sig := { parameters := [], returnType := none }, accessFlags := 0, code := none }
def k8c1 : Code := { maxStack := 2, maxLocals := 2, code := jdk_43_method_2_code, exceptionTable := #[], attributes := #[] }
def k8m1 : Method := { name := "charAt", desc := "([BI)C", sig := { parameters := [(.array .byte), .int], returnType := some .char }, accessFlags := 9, code := some k8c1 }
def k8c2 : Code := { maxStack := 3, maxLocals := 3, code := jdk_43_method_13_code, exceptionTable := #[], attributes := #[] }
def k8m2 : Method := { name := "equals", desc := "([B[B)Z", sig := { parameters := [(.array .byte), (.array .byte)], returnType := some .boolean }, accessFlags := 9, code := some k8c2 }
/-- java/lang/StringLatin1 -/
def k8 : Class := { plain "java/lang/StringLatin1" (some 0) with
  accessFlags := 48
  interfaces := #[]
  cf := some (fileOf pool8 14 #[.nestMembers #[390, 221]] #[{ accessFlags := 0, nameIndex := 7, descriptorIndex := 8, attributes := #[] }, { accessFlags := 9, nameIndex := 252, descriptorIndex := 53, attributes := #[] }, { accessFlags := 9, nameIndex := 281, descriptorIndex := 282, attributes := #[] }] 48 4 #[] #[{ accessFlags := 4120, nameIndex := 121, descriptorIndex := 122, attributes := #[] }])
  fields := #[{ name := "$assertionsDisabled", type := .boolean, accessFlags := 4120, slot := 0, constantValue := 0 }]
  methods := #[k8m0, k8m1, k8m2]
  instanceTypes := #[]
  staticTypes := #[.boolean]
  resolved := Array.replicate 395 none
  statics := none }

def pool9 : Array CpInfo := pool [(2, .class_ 4), (1, u "java/lang/Object"), (0, u "<init>"), (0, u "()V"), (17, .class_ 26), (1, u "jdk/internal/util/Preconditions"), (6, u "checkIndex"), (21, .class_ 56), (0, u "jdk/internal/util/Preconditions$4"), (57, .class_ 115), (0, u "jdk/internal/util/Preconditions$1"), (7, u "SIOOBE_FORMATTER"), (0, u "Ljava/util/function/BiFunction;"), (0, .class_ 126), (0, u "jdk/internal/util/Preconditions$2"), (3, u "AIOOBE_FORMATTER"), (0, .class_ 132), (0, u "jdk/internal/util/Preconditions$3"), (3, u "IOOBE_FORMATTER"), (41, u "(IILjava/util/function/BiFunction;)I")] 15

def k9m0 : Method := { name := "<init>", desc := "()V", sig := { parameters := [], returnType := none }, accessFlags := 1, code := none }
def k9c1 : Code := { maxStack := 3, maxLocals := 3, code := jdk_41_method_11_code, exceptionTable := #[], attributes := #[] }
def k9m1 : Method := { name := "checkIndex", desc := "(IILjava/util/function/BiFunction;)I", sig := { parameters := [.int, .int, (.object "java/util/function/BiFunction")], returnType := some .int }, accessFlags := 9, code := some k9c1 }
/-- jdk/internal/util/Preconditions -/
def k9 : Class := { plain "jdk/internal/util/Preconditions" (some 0) with
  accessFlags := 33
  interfaces := #[]
  cf := some (fileOf pool9 24 #[.nestMembers #[55, 131, 125, 114]] #[{ accessFlags := 1, nameIndex := 5, descriptorIndex := 6, attributes := #[] }, { accessFlags := 9, nameIndex := 33, descriptorIndex := 178, attributes := #[] }] 33 2 #[] #[{ accessFlags := 25, nameIndex := 123, descriptorIndex := 124, attributes := #[] }, { accessFlags := 25, nameIndex := 130, descriptorIndex := 124, attributes := #[] }, { accessFlags := 25, nameIndex := 136, descriptorIndex := 124, attributes := #[] }])
  fields := #[{ name := "SIOOBE_FORMATTER", type := (.object "java/util/function/BiFunction"), accessFlags := 25, slot := 0, constantValue := 0 }, { name := "AIOOBE_FORMATTER", type := (.object "java/util/function/BiFunction"), accessFlags := 25, slot := 1, constantValue := 0 }, { name := "IOOBE_FORMATTER", type := (.object "java/util/function/BiFunction"), accessFlags := 25, slot := 2, constantValue := 0 }]
  methods := #[k9m0, k9m1]
  instanceTypes := #[]
  staticTypes := #[(.object "java/util/function/BiFunction"), (.object "java/util/function/BiFunction"), (.object "java/util/function/BiFunction")]
  resolved := Array.replicate 194 none
  statics := some 1 }

def pool10 : Array CpInfo := pool [(6, .class_ 8), (1, u "java/lang/Object"), (0, u "<init>"), (0, u "()V"), (1, .class_ 14), (1, u "java/lang/StringUTF16"), (31, u "$assertionsDisabled"), (0, u "Z"), (13, u "HI_BYTE_SHIFT"), (0, u "I"), (2, u "LO_BYTE_SHIFT"), (49, .methodref 12 116), (0, .nameAndType 117 118), (0, u "compress"), (0, u "([CI[BII)I"), (3, u "([CII)[B"), (138, u "coderFromArrayLen"), (0, u "([BI)B"), (106, .class_ 371), (1, u "java/lang/StringUTF16$LinesSpliterator"), (58, u "MAX_LENGTH"), (196, .class_ 628), (0, u "java/lang/StringUTF16$CodePointsSpliterator"), (0, .class_ 630), (0, u "java/lang/StringUTF16$CharsSpliterator")] 4

def k10m0 : Method := { name := "<init>", desc := "()V", sig := { parameters := [], returnType := none }, accessFlags := 0, code := none }
def k10c1 : Code := { maxStack := 2, maxLocals := 2, code := jdk_52_method_15_code, exceptionTable := #[], attributes := #[] }
def k10m1 : Method := { name := "coderFromArrayLen", desc := "([BI)B", sig := { parameters := [(.array .byte), .int], returnType := some .byte }, accessFlags := 8, code := some k10c1 }
def k10c2 : Code := { maxStack := 5, maxLocals := 6, code := jdk_52_method_16_code, exceptionTable := #[], attributes := #[] }
def k10m2 : Method := { name := "compress", desc := "([CII)[B", sig := { parameters := [(.array .char), .int, .int], returnType := some (.array .byte) }, accessFlags := 9, code := some k10c2 }
def k10c3 : Code := { maxStack := 3, maxLocals := 7, code := jdk_52_method_21_code, exceptionTable := #[], attributes := #[] }
def k10m3 : Method := { name := "compress", desc := "([CI[BII)I", sig := { parameters := [(.array .char), .int, (.array .byte), .int, .int], returnType := some .int }, accessFlags := 9, code := some k10c3 }
/-- java/lang/StringUTF16 -/
def k10 : Class := { plain "java/lang/StringUTF16" (some 0) with
  accessFlags := 48
  interfaces := #[]
  cf := some (fileOf pool10 12 #[.nestMembers #[627, 629, 369]] #[{ accessFlags := 0, nameIndex := 9, descriptorIndex := 10, attributes := #[] }, { accessFlags := 8, nameIndex := 261, descriptorIndex := 262, attributes := #[] }, { accessFlags := 9, nameIndex := 117, descriptorIndex := 122, attributes := #[] }, { accessFlags := 9, nameIndex := 117, descriptorIndex := 118, attributes := #[] }] 48 6 #[] #[{ accessFlags := 26, nameIndex := 61, descriptorIndex := 62, attributes := #[] }, { accessFlags := 26, nameIndex := 65, descriptorIndex := 62, attributes := #[] }, { accessFlags := 24, nameIndex := 430, descriptorIndex := 62, attributes := #[] }, { accessFlags := 4120, nameIndex := 46, descriptorIndex := 47, attributes := #[] }])
  fields := #[{ name := "HI_BYTE_SHIFT", type := .int, accessFlags := 26, slot := 0, constantValue := 0 }, { name := "LO_BYTE_SHIFT", type := .int, accessFlags := 26, slot := 1, constantValue := 0 }, { name := "MAX_LENGTH", type := .int, accessFlags := 24, slot := 2, constantValue := 0 }, { name := "$assertionsDisabled", type := .boolean, accessFlags := 4120, slot := 3, constantValue := 0 }]
  methods := #[k10m0, k10m1, k10m2, k10m3]
  instanceTypes := #[]
  staticTypes := #[.int, .int, .int, .boolean]
  resolved := Array.replicate 635 none
  statics := none }

def pool11 : Array CpInfo := pool [(1, .methodref 2 3), (0, .class_ 4), (0, .nameAndType 5 6), (0, u "java/lang/Object"), (0, u "<init>"), (0, u "()V"), (0, .class_ 8), (0, u "java/lang/Record")] 13

def k11c0 : Code := { maxStack := 1, maxLocals := 1, code := jdk_30_method_1_code, exceptionTable := #[], attributes := #[] }
def k11m0 : Method := { name := "<init>", desc := "()V", sig := { parameters := [], returnType := none }, accessFlags := 4, code := some k11c0 }
/-- java/lang/Record -/
def k11 : Class := { plain "java/lang/Record" (some 0) with
  accessFlags := 1057
  interfaces := #[]
  cf := some (fileOf pool11 7 #[] #[{ accessFlags := 4, nameIndex := 5, descriptorIndex := 6, attributes := #[] }] 1057 2 #[] #[])
  fields := #[]
  methods := #[k11m0]
  instanceTypes := #[]
  staticTypes := #[]
  resolved := Array.replicate 22 none
  statics := none }

def pool12 : Array CpInfo := pool [(1, .methodref 2 3), (0, .class_ 4), (0, .nameAndType 5 6), (0, u "java/lang/Record"), (0, u "<init>"), (0, u "()V"), (0, .fieldref 8 9), (0, .class_ 10), (0, .nameAndType 11 12), (0, u "com/example/carelane/carelane/registry/Episode"), (0, u "id"), (0, u "Ljava/lang/String;"), (0, .fieldref 8 14), (0, .nameAndType 15 12), (0, u "personId"), (0, .fieldref 8 17), (0, .nameAndType 18 12), (0, u "status"), (0, .fieldref 8 20), (0, .nameAndType 21 12), (0, u "managingOrganizationId"), (0, .string 23), (0, u "active"), (0, .methodref 25 26), (0, .class_ 27), (0, .nameAndType 28 29), (0, u "java/lang/String"), (0, u "equals"), (0, u "(Ljava/lang/Object;)Z"), (0, .methodref 8 31), (0, .nameAndType 32 33), (0, u "isActive"), (0, u "()Z"), (0, .string 35), (0, u "closed"), (11, u "ACTIVE"), (1, u "CLOSED"), (0, u "(Ljava/lang/String;Ljava/lang/String;Ljava/lang/String;Ljava/lang/String;)V"), (3, u "isActiveOrClosed")] 26

def k12c0 : Code := { maxStack := 2, maxLocals := 5, code := prog_22_method_1_code, exceptionTable := #[], attributes := #[] }
def k12m0 : Method := { name := "<init>", desc := "(Ljava/lang/String;Ljava/lang/String;Ljava/lang/String;Ljava/lang/String;)V", sig := { parameters := [(.object "java/lang/String"), (.object "java/lang/String"), (.object "java/lang/String"), (.object "java/lang/String")], returnType := none }, accessFlags := 1, code := some k12c0 }
def k12c1 : Code := { maxStack := 2, maxLocals := 1, code := prog_22_method_2_code, exceptionTable := #[], attributes := #[] }
def k12m1 : Method := { name := "isActive", desc := "()Z", sig := { parameters := [], returnType := some .boolean }, accessFlags := 1, code := some k12c1 }
def k12c2 : Code := { maxStack := 2, maxLocals := 1, code := prog_22_method_3_code, exceptionTable := #[], attributes := #[] }
def k12m2 : Method := { name := "isActiveOrClosed", desc := "()Z", sig := { parameters := [], returnType := some .boolean }, accessFlags := 1, code := some k12c2 }
/-- com/example/carelane/carelane/registry/Episode -/
def k12 : Class := { plain "com/example/carelane/carelane/registry/Episode" (some 11) with
  accessFlags := 49
  interfaces := #[]
  cf := some (fileOf pool12 8 #[] #[{ accessFlags := 1, nameIndex := 5, descriptorIndex := 50, attributes := #[] }, { accessFlags := 1, nameIndex := 32, descriptorIndex := 33, attributes := #[] }, { accessFlags := 1, nameIndex := 54, descriptorIndex := 33, attributes := #[] }] 49 2 #[] #[{ accessFlags := 18, nameIndex := 11, descriptorIndex := 12, attributes := #[] }, { accessFlags := 18, nameIndex := 15, descriptorIndex := 12, attributes := #[] }, { accessFlags := 18, nameIndex := 18, descriptorIndex := 12, attributes := #[] }, { accessFlags := 18, nameIndex := 21, descriptorIndex := 12, attributes := #[] }, { accessFlags := 25, nameIndex := 47, descriptorIndex := 12, attributes := #[] }, { accessFlags := 25, nameIndex := 49, descriptorIndex := 12, attributes := #[] }])
  fields := #[{ name := "id", type := (.object "java/lang/String"), accessFlags := 18, slot := 0, constantValue := 0 }, { name := "personId", type := (.object "java/lang/String"), accessFlags := 18, slot := 1, constantValue := 0 }, { name := "status", type := (.object "java/lang/String"), accessFlags := 18, slot := 2, constantValue := 0 }, { name := "managingOrganizationId", type := (.object "java/lang/String"), accessFlags := 18, slot := 3, constantValue := 0 }, { name := "ACTIVE", type := (.object "java/lang/String"), accessFlags := 25, slot := 0, constantValue := 0 }, { name := "CLOSED", type := (.object "java/lang/String"), accessFlags := 25, slot := 1, constantValue := 0 }]
  methods := #[k12m0, k12m1, k12m2]
  instanceTypes := #[(.object "java/lang/String"), (.object "java/lang/String"), (.object "java/lang/String"), (.object "java/lang/String")]
  staticTypes := #[(.object "java/lang/String"), (.object "java/lang/String")]
  resolved := Array.replicate 81 none
  statics := none }

def pool13 : Array CpInfo := pool [(9, u "<init>"), (6, .class_ 18), (1, u "java/lang/Object"), (0, u "()V"), (1, .class_ 23), (1, u "jdk/internal/util/ArraysSupport"), (0, u "LOG2_ARRAY_LONG_INDEX_SCALE"), (0, u "I"), (2, u "U"), (0, u "Ljdk/internal/misc/Unsafe;"), (8, u "BIG_ENDIAN"), (0, u "Z"), (8, u "LOG2_BYTE_BIT_SIZE"), (4, u "LOG2_ARRAY_INT_INDEX_SCALE"), (54, u "JLA"), (0, u "Ljdk/internal/access/JavaLangAccess;"), (11, u "LOG2_ARRAY_BOOLEAN_INDEX_SCALE"), (9, u "LOG2_ARRAY_BYTE_INDEX_SCALE"), (5, u "LOG2_ARRAY_CHAR_INDEX_SCALE"), (5, u "LOG2_ARRAY_SHORT_INDEX_SCALE"), (18, u "LOG2_ARRAY_FLOAT_INDEX_SCALE"), (24, u "LOG2_ARRAY_DOUBLE_INDEX_SCALE"), (89, u "T_BOOLEAN"), (2, u "T_CHAR"), (1, u "T_FLOAT"), (1, u "T_DOUBLE"), (1, u "T_BYTE"), (1, u "T_SHORT"), (1, u "T_INT"), (1, u "T_LONG"), (1, u "SOFT_MAX_ARRAY_LENGTH")] 83

def k13m0 : Method := { name := "<init>", desc := "()V", sig := { parameters := [], returnType := none }, accessFlags := 2, code := none }
/-- jdk/internal/util/ArraysSupport -/
def k13 : Class := { plain "jdk/internal/util/ArraysSupport" (some 0) with
  accessFlags := 33
  interfaces := #[]
  cf := some (fileOf pool13 21 #[] #[{ accessFlags := 2, nameIndex := 9, descriptorIndex := 19, attributes := #[] }] 33 16 #[] #[{ accessFlags := 24, nameIndex := 28, descriptorIndex := 29, attributes := #[] }, { accessFlags := 26, nameIndex := 38, descriptorIndex := 39, attributes := #[] }, { accessFlags := 25, nameIndex := 121, descriptorIndex := 25, attributes := #[] }, { accessFlags := 25, nameIndex := 131, descriptorIndex := 25, attributes := #[] }, { accessFlags := 25, nameIndex := 137, descriptorIndex := 25, attributes := #[] }, { accessFlags := 25, nameIndex := 143, descriptorIndex := 25, attributes := #[] }, { accessFlags := 25, nameIndex := 53, descriptorIndex := 25, attributes := #[] }, { accessFlags := 25, nameIndex := 24, descriptorIndex := 25, attributes := #[] }, { accessFlags := 25, nameIndex := 162, descriptorIndex := 25, attributes := #[] }, { accessFlags := 25, nameIndex := 187, descriptorIndex := 25, attributes := #[] }, { accessFlags := 26, nameIndex := 48, descriptorIndex := 25, attributes := #[] }, { accessFlags := 25, nameIndex := 277, descriptorIndex := 25, attributes := #[] }, { accessFlags := 25, nameIndex := 280, descriptorIndex := 25, attributes := #[] }, { accessFlags := 25, nameIndex := 282, descriptorIndex := 25, attributes := #[] }, { accessFlags := 25, nameIndex := 284, descriptorIndex := 25, attributes := #[] }, { accessFlags := 25, nameIndex := 286, descriptorIndex := 25, attributes := #[] }, { accessFlags := 25, nameIndex := 288, descriptorIndex := 25, attributes := #[] }, { accessFlags := 25, nameIndex := 290, descriptorIndex := 25, attributes := #[] }, { accessFlags := 25, nameIndex := 292, descriptorIndex := 25, attributes := #[] }, { accessFlags := 26, nameIndex := 108, descriptorIndex := 109, attributes := #[] }, { accessFlags := 25, nameIndex := 294, descriptorIndex := 25, attributes := #[] }])
  fields := #[{ name := "U", type := (.object "jdk/internal/misc/Unsafe"), accessFlags := 24, slot := 0, constantValue := 0 }, { name := "BIG_ENDIAN", type := .boolean, accessFlags := 26, slot := 1, constantValue := 0 }, { name := "LOG2_ARRAY_BOOLEAN_INDEX_SCALE", type := .int, accessFlags := 25, slot := 2, constantValue := 0 }, { name := "LOG2_ARRAY_BYTE_INDEX_SCALE", type := .int, accessFlags := 25, slot := 3, constantValue := 0 }, { name := "LOG2_ARRAY_CHAR_INDEX_SCALE", type := .int, accessFlags := 25, slot := 4, constantValue := 0 }, { name := "LOG2_ARRAY_SHORT_INDEX_SCALE", type := .int, accessFlags := 25, slot := 5, constantValue := 0 }, { name := "LOG2_ARRAY_INT_INDEX_SCALE", type := .int, accessFlags := 25, slot := 6, constantValue := 0 }, { name := "LOG2_ARRAY_LONG_INDEX_SCALE", type := .int, accessFlags := 25, slot := 7, constantValue := 0 }, { name := "LOG2_ARRAY_FLOAT_INDEX_SCALE", type := .int, accessFlags := 25, slot := 8, constantValue := 0 }, { name := "LOG2_ARRAY_DOUBLE_INDEX_SCALE", type := .int, accessFlags := 25, slot := 9, constantValue := 0 }, { name := "LOG2_BYTE_BIT_SIZE", type := .int, accessFlags := 26, slot := 10, constantValue := 0 }, { name := "T_BOOLEAN", type := .int, accessFlags := 25, slot := 11, constantValue := 0 }, { name := "T_CHAR", type := .int, accessFlags := 25, slot := 12, constantValue := 0 }, { name := "T_FLOAT", type := .int, accessFlags := 25, slot := 13, constantValue := 0 }, { name := "T_DOUBLE", type := .int, accessFlags := 25, slot := 14, constantValue := 0 }, { name := "T_BYTE", type := .int, accessFlags := 25, slot := 15, constantValue := 0 }, { name := "T_SHORT", type := .int, accessFlags := 25, slot := 16, constantValue := 0 }, { name := "T_INT", type := .int, accessFlags := 25, slot := 17, constantValue := 0 }, { name := "T_LONG", type := .int, accessFlags := 25, slot := 18, constantValue := 0 }, { name := "JLA", type := (.object "jdk/internal/access/JavaLangAccess"), accessFlags := 26, slot := 19, constantValue := 0 }, { name := "SOFT_MAX_ARRAY_LENGTH", type := .int, accessFlags := 25, slot := 20, constantValue := 0 }]
  methods := #[k13m0]
  instanceTypes := #[]
  staticTypes := #[(.object "jdk/internal/misc/Unsafe"), .boolean, .int, .int, .int, .int, .int, .int, .int, .int, .int, .int, .int, .int, .int, .int, .int, .int, .int, (.object "jdk/internal/access/JavaLangAccess"), .int]
  resolved := Array.replicate 378 none
  statics := none }

def pool14 : Array CpInfo := pool [(1, u "java/lang/Cloneable"), (0, .class_ 1), (0, u "java/lang/Object"), (0, .class_ 3)] 3

/-- java/lang/Cloneable -/
def k14 : Class := { plain "java/lang/Cloneable" (some 0) with
  accessFlags := 1537
  interfaces := #[]
  cf := some (fileOf pool14 2 #[] #[] 1537 4 #[] #[])
  fields := #[]
  methods := #[]
  instanceTypes := #[]
  staticTypes := #[]
  resolved := Array.replicate 8 none
  statics := none }

/-- the primitive byte -/
def k15 : Class := { plain "byte" none with kind := .primitive 'B', accessFlags := 0x411 }
/-- [B -/
def k16 : Class := { plain "[B" (some 0) with kind := .array 15 .byte, interfaces := #[14, 2], accessFlags := 1041 }

/-- the primitive char -/
def k17 : Class := { plain "char" none with kind := .primitive 'C', accessFlags := 0x411 }
/-- [C -/
def k18 : Class := { plain "[C" (some 0) with kind := .array 17 .char, interfaces := #[14, 2], accessFlags := 1041 }

/-- the primitive int -/
def k19 : Class := { plain "int" none with kind := .primitive 'I', accessFlags := 0x411 }
/-- [I -/
def k20 : Class := { plain "[I" (some 0) with kind := .array 19 .int, interfaces := #[14, 2], accessFlags := 1041 }

def heap : Heap := #[{ cls := 7, slots := #[.long 0, .int 1, .null, .int 0, .null, .int 0, .int 0], vm := .statics 7 },
  { cls := 9, slots := #[.null, .null, .null], vm := .statics 9 }]
def classes : Array Class := #[k0, k1, k2, k3, k4, k5, k6, k7, k8, k9, k10, k11, k12, k13, k14, k15, k16, k17, k18, k19, k20]
def interned : List (Array UInt16 × Addr) := []
def slotsUsed : Nat := 10
def theMethod : MethodId := ⟨1, 1⟩
def args0 : Array Value := #[.int 5, .int 5, .int 5, .int 5]
def aboutOver (below : List Frame) : State where
  vm := { classes := classes, interned := interned.toArray }
  heap := heap
  slotsUsed := slotsUsed
  threads := #[{ frames := .invoking theMethod args0 :: below }]
def below0 : List Frame := [.native { method := ⟨0, 0⟩, args := #[] }]
def about1 : State := aboutOver below0
def p0 : Program := .bare "" "" ""
def e0 : Env := launch0.env 0 0 0
theorem w_frames : about1.frames = Frame.invoking theMethod args0 :: below0 := rfl
set_option maxRecDepth 65536 in
theorem w_args : argsFit about1.vm theMethod args0 = true := by decide +kernel
set_option maxRecDepth 65536 in
theorem w_heap : heapFits about1 = true := by decide +kernel
set_option maxRecDepth 65536 in
theorem w_runnable : about1.curStatus? = some .runnable := by decide +kernel
set_option maxRecDepth 65536 in
theorem w_alone : about1.alone = true := by decide +kernel
set_option maxRecDepth 65536 in
theorem w_named : about1.methodNamed? x = some theMethod := by decide +kernel
set_option maxRecDepth 65536 in
theorem w_hears : about1.hears theMethod below0 = true := by decide +kernel
set_option maxRecDepth 65536 in
theorem w_ripe : about1.ripe theMethod args0 below0 = true := by decide +kernel
theorem w_running : about1.status = .running := rfl
set_option maxRecDepth 65536 in
theorem w_room : about1.hasRoom e0.platform room_1 = true :=
  launch0.hasRoom_least _ room_1 (by decide +kernel) (by decide +kernel) (by decide +kernel) (by decide +kernel) (by decide +kernel) (by decide +kernel)
theorem allAtoms_all (ts : List Jvm.Cond) (a : Array Jvm.Value) (st : Jvm.State) : (allAtoms ts).before a st = ts.all (fun c => c.before a st) := by
  induction ts with
  | nil => rfl
  | cons c t ih =>
    show (Jvm.Cond.and c (allAtoms t)).before a st = _
    rw [Jvm.Cond.before_and, ih, List.all_cons]
def words1 : List Jvm.Cond := Jvm.Cond.code x code maxLocals ret :: tables_1
/-- a 'code' word, met by the world's own term for the bytes: nothing is compared byte by byte -/
theorem code_word {y : MethodName} {bytes : ByteArray} {mx : Nat} {rt : Option FieldType} {a : Array Value} {s : State} {m : MethodId} {meth : Method} {c : Code} (h1 : s.methodNamed? y = some m) (h2 : s.vm.method? m = some meth) (h3 : meth.code = some c) (h4 : c.code = bytes)
    (h5 : (c.maxLocals == mx && c.exceptionTable.isEmpty && decide (c.maxStack ≤ mostOperands) && decide (meth.sig.returnType = rt) && !meth.locks && decide (parseMethodDescriptor y.desc = some meth.sig)) = true) : (Jvm.Cond.code y bytes mx rt).before a s = true := by
  simp only [Bool.and_eq_true, beq_iff_eq, Bool.not_eq_true', decide_eq_true_eq] at h5
  obtain ⟨⟨⟨⟨⟨g1, g2⟩, g3⟩, g4⟩, g5⟩, g6⟩ := h5
  simp [Cond.before, Cond.holds, Cond.value, h1, h2, h3, h4, g1, g2, g3, g4, g5, g6]
def isCode : Jvm.Cond → Bool
  | .code _ _ _ _ => true
  | _ => false
theorem all_split {L : List Jvm.Cond} {P : Jvm.Cond → Bool} (h1 : L.all (fun c => isCode c || P c) = true) (h2 : ∀ c ∈ L.filter isCode, P c = true) : L.all P = true := by
  refine List.all_eq_true.mpr fun c hc => ?_
  have h := List.all_eq_true.mp h1 c hc
  rcases Bool.eq_false_or_eq_true (isCode c) with hi | hi
  · exact h2 c (List.mem_filter.mpr ⟨hc, hi⟩)
  · simpa [hi] using h
set_option maxRecDepth 65536 in
theorem w_c0 : (Jvm.Cond.code x code maxLocals ret).before args0 about1 = true := code_word (m := ⟨1, 1⟩) (meth := k1m1) (c := k1c1) (by decide +kernel) rfl rfl rfl (by decide +kernel)
set_option maxRecDepth 65536 in
theorem w_c1 : (Jvm.Cond.code ({ cls := "java/lang/String", name := "charAt", desc := "(I)C" } : Jvm.MethodName) jdk_42_method_56_code (2 : Nat) (Option.some Jvm.ClassFile.FieldType.char)).before args0 about1 = true := code_word (m := ⟨7, 2⟩) (meth := k7m2) (c := k7c2) (by decide +kernel) rfl rfl rfl (by decide +kernel)
set_option maxRecDepth 65536 in
theorem w_c2 : (Jvm.Cond.code ({ cls := "java/lang/String", name := "isLatin1", desc := "()Z" } : Jvm.MethodName) jdk_42_method_154_code (1 : Nat) (Option.some Jvm.ClassFile.FieldType.boolean)).before args0 about1 = true := code_word (m := ⟨7, 5⟩) (meth := k7m5) (c := k7c5) (by decide +kernel) rfl rfl rfl (by decide +kernel)
set_option maxRecDepth 65536 in
theorem w_c3 : (Jvm.Cond.code ({ cls := "java/lang/StringLatin1", name := "charAt", desc := "([BI)C" } : Jvm.MethodName) jdk_43_method_2_code (2 : Nat) (Option.some Jvm.ClassFile.FieldType.char)).before args0 about1 = true := code_word (m := ⟨8, 1⟩) (meth := k8m1) (c := k8c1) (by decide +kernel) rfl rfl rfl (by decide +kernel)
set_option maxRecDepth 65536 in
theorem w_c4 : (Jvm.Cond.code ({ cls := "java/lang/String", name := "checkIndex", desc := "(II)V" } : Jvm.MethodName) jdk_42_method_155_code (2 : Nat) (Option.none : Option Jvm.ClassFile.FieldType)).before args0 about1 = true := code_word (m := ⟨7, 6⟩) (meth := k7m6) (c := k7c6) (by decide +kernel) rfl rfl rfl (by decide +kernel)
set_option maxRecDepth 65536 in
theorem w_c5 : (Jvm.Cond.code ({ cls := "jdk/internal/util/Preconditions", name := "checkIndex", desc := "(IILjava/util/function/BiFunction;)I" } : Jvm.MethodName) jdk_41_method_11_code (3 : Nat) (Option.some Jvm.ClassFile.FieldType.int)).before args0 about1 = true := code_word (m := ⟨9, 1⟩) (meth := k9m1) (c := k9c1) (by decide +kernel) rfl rfl rfl (by decide +kernel)
set_option maxRecDepth 65536 in
theorem w_c6 : (Jvm.Cond.code ({ cls := "java/lang/String", name := "<init>", desc := "([C)V" } : Jvm.MethodName) jdk_42_method_3_code (2 : Nat) (Option.none : Option Jvm.ClassFile.FieldType)).before args0 about1 = true := code_word (m := ⟨7, 1⟩) (meth := k7m1) (c := k7c1) (by decide +kernel) rfl rfl rfl (by decide +kernel)
set_option maxRecDepth 65536 in
theorem w_c7 : (Jvm.Cond.code ({ cls := "java/lang/String", name := "<init>", desc := "([CIILjava/lang/Void;)V" } : Jvm.MethodName) jdk_42_method_149_code (6 : Nat) (Option.none : Option Jvm.ClassFile.FieldType)).before args0 about1 = true := code_word (m := ⟨7, 4⟩) (meth := k7m4) (c := k7c4) (by decide +kernel) rfl rfl rfl (by decide +kernel)
set_option maxRecDepth 65536 in
theorem w_c8 : (Jvm.Cond.code ({ cls := "java/lang/Object", name := "<init>", desc := "()V" } : Jvm.MethodName) object_method_1_code (1 : Nat) (Option.none : Option Jvm.ClassFile.FieldType)).before args0 about1 = true := code_word (m := ⟨0, 0⟩) (meth := k0m0) (c := k0c0) (by decide +kernel) rfl rfl rfl (by decide +kernel)
set_option maxRecDepth 65536 in
theorem w_c9 : (Jvm.Cond.code ({ cls := "java/lang/StringUTF16", name := "compress", desc := "([CII)[B" } : Jvm.MethodName) jdk_52_method_16_code (6 : Nat) (Option.some (Jvm.ClassFile.FieldType.array Jvm.ClassFile.FieldType.byte))).before args0 about1 = true := code_word (m := ⟨10, 2⟩) (meth := k10m2) (c := k10c2) (by decide +kernel) rfl rfl rfl (by decide +kernel)
set_option maxRecDepth 65536 in
theorem w_c10 : (Jvm.Cond.code ({ cls := "java/lang/StringUTF16", name := "compress", desc := "([CI[BII)I" } : Jvm.MethodName) jdk_52_method_21_code (7 : Nat) (Option.some Jvm.ClassFile.FieldType.int)).before args0 about1 = true := code_word (m := ⟨10, 3⟩) (meth := k10m3) (c := k10c3) (by decide +kernel) rfl rfl rfl (by decide +kernel)
set_option maxRecDepth 65536 in
theorem w_c11 : (Jvm.Cond.code ({ cls := "java/lang/StringUTF16", name := "coderFromArrayLen", desc := "([BI)B" } : Jvm.MethodName) jdk_52_method_15_code (2 : Nat) (Option.some Jvm.ClassFile.FieldType.byte)).before args0 about1 = true := code_word (m := ⟨10, 1⟩) (meth := k10m1) (c := k10c1) (by decide +kernel) rfl rfl rfl (by decide +kernel)
set_option maxRecDepth 65536 in
theorem w_c12 : (Jvm.Cond.code ({ cls := "com/example/carelane/carelane/registry/Episode", name := "<init>", desc := "(Ljava/lang/String;Ljava/lang/String;Ljava/lang/String;Ljava/lang/String;)V" } : Jvm.MethodName) prog_22_method_1_code (5 : Nat) (Option.none : Option Jvm.ClassFile.FieldType)).before args0 about1 = true := code_word (m := ⟨12, 0⟩) (meth := k12m0) (c := k12c0) (by decide +kernel) rfl rfl rfl (by decide +kernel)
set_option maxRecDepth 65536 in
theorem w_c13 : (Jvm.Cond.code ({ cls := "java/lang/Record", name := "<init>", desc := "()V" } : Jvm.MethodName) jdk_30_method_1_code (1 : Nat) (Option.none : Option Jvm.ClassFile.FieldType)).before args0 about1 = true := code_word (m := ⟨11, 0⟩) (meth := k11m0) (c := k11c0) (by decide +kernel) rfl rfl rfl (by decide +kernel)
set_option maxRecDepth 65536 in
theorem w_c14 : (Jvm.Cond.code ({ cls := "com/example/carelane/carelane/registry/Episode", name := "isActiveOrClosed", desc := "()Z" } : Jvm.MethodName) prog_22_method_3_code (1 : Nat) (Option.some Jvm.ClassFile.FieldType.boolean)).before args0 about1 = true := code_word (m := ⟨12, 2⟩) (meth := k12m2) (c := k12c2) (by decide +kernel) rfl rfl rfl (by decide +kernel)
set_option maxRecDepth 65536 in
theorem w_c15 : (Jvm.Cond.code ({ cls := "com/example/carelane/carelane/registry/Episode", name := "isActive", desc := "()Z" } : Jvm.MethodName) prog_22_method_2_code (1 : Nat) (Option.some Jvm.ClassFile.FieldType.boolean)).before args0 about1 = true := code_word (m := ⟨12, 1⟩) (meth := k12m1) (c := k12c1) (by decide +kernel) rfl rfl rfl (by decide +kernel)
set_option maxRecDepth 65536 in
theorem w_c16 : (Jvm.Cond.code ({ cls := "java/lang/String", name := "equals", desc := "(Ljava/lang/Object;)Z" } : Jvm.MethodName) jdk_42_method_66_code (3 : Nat) (Option.some Jvm.ClassFile.FieldType.boolean)).before args0 about1 = true := code_word (m := ⟨7, 3⟩) (meth := k7m3) (c := k7c3) (by decide +kernel) rfl rfl rfl (by decide +kernel)
set_option maxRecDepth 65536 in
theorem w_c17 : (Jvm.Cond.code ({ cls := "java/lang/StringLatin1", name := "equals", desc := "([B[B)Z" } : Jvm.MethodName) jdk_43_method_13_code (3 : Nat) (Option.some Jvm.ClassFile.FieldType.boolean)).before args0 about1 = true := code_word (m := ⟨8, 2⟩) (meth := k8m2) (c := k8c2) (by decide +kernel) rfl rfl rfl (by decide +kernel)
def codes1 : List Jvm.Cond := [Jvm.Cond.code x code maxLocals ret, Jvm.Cond.code ({ cls := "java/lang/String", name := "charAt", desc := "(I)C" } : Jvm.MethodName) jdk_42_method_56_code (2 : Nat) (Option.some Jvm.ClassFile.FieldType.char), Jvm.Cond.code ({ cls := "java/lang/String", name := "isLatin1", desc := "()Z" } : Jvm.MethodName) jdk_42_method_154_code (1 : Nat) (Option.some Jvm.ClassFile.FieldType.boolean), Jvm.Cond.code ({ cls := "java/lang/StringLatin1", name := "charAt", desc := "([BI)C" } : Jvm.MethodName) jdk_43_method_2_code (2 : Nat) (Option.some Jvm.ClassFile.FieldType.char), Jvm.Cond.code ({ cls := "java/lang/String", name := "checkIndex", desc := "(II)V" } : Jvm.MethodName) jdk_42_method_155_code (2 : Nat) (Option.none : Option Jvm.ClassFile.FieldType), Jvm.Cond.code ({ cls := "jdk/internal/util/Preconditions", name := "checkIndex", desc := "(IILjava/util/function/BiFunction;)I" } : Jvm.MethodName) jdk_41_method_11_code (3 : Nat) (Option.some Jvm.ClassFile.FieldType.int), Jvm.Cond.code ({ cls := "java/lang/String", name := "<init>", desc := "([C)V" } : Jvm.MethodName) jdk_42_method_3_code (2 : Nat) (Option.none : Option Jvm.ClassFile.FieldType), Jvm.Cond.code ({ cls := "java/lang/String", name := "<init>", desc := "([CIILjava/lang/Void;)V" } : Jvm.MethodName) jdk_42_method_149_code (6 : Nat) (Option.none : Option Jvm.ClassFile.FieldType), Jvm.Cond.code ({ cls := "java/lang/Object", name := "<init>", desc := "()V" } : Jvm.MethodName) object_method_1_code (1 : Nat) (Option.none : Option Jvm.ClassFile.FieldType), Jvm.Cond.code ({ cls := "java/lang/StringUTF16", name := "compress", desc := "([CII)[B" } : Jvm.MethodName) jdk_52_method_16_code (6 : Nat) (Option.some (Jvm.ClassFile.FieldType.array Jvm.ClassFile.FieldType.byte)), Jvm.Cond.code ({ cls := "java/lang/StringUTF16", name := "compress", desc := "([CI[BII)I" } : Jvm.MethodName) jdk_52_method_21_code (7 : Nat) (Option.some Jvm.ClassFile.FieldType.int), Jvm.Cond.code ({ cls := "java/lang/StringUTF16", name := "coderFromArrayLen", desc := "([BI)B" } : Jvm.MethodName) jdk_52_method_15_code (2 : Nat) (Option.some Jvm.ClassFile.FieldType.byte), Jvm.Cond.code ({ cls := "com/example/carelane/carelane/registry/Episode", name := "<init>", desc := "(Ljava/lang/String;Ljava/lang/String;Ljava/lang/String;Ljava/lang/String;)V" } : Jvm.MethodName) prog_22_method_1_code (5 : Nat) (Option.none : Option Jvm.ClassFile.FieldType), Jvm.Cond.code ({ cls := "java/lang/Record", name := "<init>", desc := "()V" } : Jvm.MethodName) jdk_30_method_1_code (1 : Nat) (Option.none : Option Jvm.ClassFile.FieldType), Jvm.Cond.code ({ cls := "com/example/carelane/carelane/registry/Episode", name := "isActiveOrClosed", desc := "()Z" } : Jvm.MethodName) prog_22_method_3_code (1 : Nat) (Option.some Jvm.ClassFile.FieldType.boolean), Jvm.Cond.code ({ cls := "com/example/carelane/carelane/registry/Episode", name := "isActive", desc := "()Z" } : Jvm.MethodName) prog_22_method_2_code (1 : Nat) (Option.some Jvm.ClassFile.FieldType.boolean), Jvm.Cond.code ({ cls := "java/lang/String", name := "equals", desc := "(Ljava/lang/Object;)Z" } : Jvm.MethodName) jdk_42_method_66_code (3 : Nat) (Option.some Jvm.ClassFile.FieldType.boolean), Jvm.Cond.code ({ cls := "java/lang/StringLatin1", name := "equals", desc := "([B[B)Z" } : Jvm.MethodName) jdk_43_method_13_code (3 : Nat) (Option.some Jvm.ClassFile.FieldType.boolean)]
set_option maxRecDepth 65536 in
theorem codes_eq : words1.filter isCode = codes1 := rfl
theorem w_codes : ∀ c ∈ words1.filter isCode, c.before args0 about1 = true := by
  rw [codes_eq]
  intro c hc
  simp only [codes1, List.mem_cons, List.not_mem_nil, or_false] at hc
  rcases hc with rfl | rfl | rfl | rfl | rfl | rfl | rfl | rfl | rfl | rfl | rfl | rfl | rfl | rfl | rfl | rfl | rfl | rfl
  · exact w_c0
  · exact w_c1
  · exact w_c2
  · exact w_c3
  · exact w_c4
  · exact w_c5
  · exact w_c6
  · exact w_c7
  · exact w_c8
  · exact w_c9
  · exact w_c10
  · exact w_c11
  · exact w_c12
  · exact w_c13
  · exact w_c14
  · exact w_c15
  · exact w_c16
  · exact w_c17
set_option maxRecDepth 65536 in
theorem w_t1 : (words1.take 24).all (fun c => isCode c || c.before args0 about1) = true := by decide +kernel
set_option maxRecDepth 65536 in
theorem w_t2 : ((words1.drop 24).take 24).all (fun c => isCode c || c.before args0 about1) = true := by decide +kernel
set_option maxRecDepth 65536 in
theorem w_t3 : (((words1.drop 24).drop 24).take 24).all (fun c => isCode c || c.before args0 about1) = true := by decide +kernel
set_option maxRecDepth 65536 in
theorem w_t4 : ((((words1.drop 24).drop 24).drop 24).take 24).all (fun c => isCode c || c.before args0 about1) = true := by decide +kernel
set_option maxRecDepth 65536 in
theorem w_t5 : ((((words1.drop 24).drop 24).drop 24).drop 24).all (fun c => isCode c || c.before args0 about1) = true := by decide +kernel
theorem w_tables : (allAtoms (Jvm.Cond.code x code maxLocals ret :: tables_1)).before args0 about1 = true := by
  rw [allAtoms_all]
  show words1.all (fun c => c.before args0 about1) = true
  refine all_split ?_ w_codes
  rw [← List.take_append_drop 24 words1, List.all_append, w_t1, ← List.take_append_drop 24 (words1.drop 24), List.all_append, w_t2, ← List.take_append_drop 24 ((words1.drop 24).drop 24), List.all_append, w_t3, ← List.take_append_drop 24 (((words1.drop 24).drop 24).drop 24), List.all_append, w_t4, w_t5]
  rfl
set_option maxRecDepth 65536 in
theorem w_rest : rest_1_c.before args0 about1 = true := by decide +kernel
set_option maxRecDepth 65536 in
theorem w_case : (Jvm.Cond.and given_1 narrow_1).before args0 about1 = true := by decide +kernel
set_option maxRecDepth 65536 in
theorem w_consts : constsHeld consts_1 about1 := Jvm.Lit.constsHeldB_iff.mp (by decide +kernel)
theorem w_applies : (headSpec (Jvm.Cond.code x code maxLocals ret :: tables_1) room_1).applies x e0.platform about1 = true :=
  (Spec.applies_iff w_frames).mpr ⟨w_running, w_runnable, w_alone, w_named, w_hears, w_ripe, w_room, w_tables⟩
theorem atStart : AtStart classFile x code maxLocals ret World_1 tables_1 room_1 Calls_1 rest_1 Pre_1 launch0 p0 e0 about1 theMethod args0 below0 :=
  ⟨lists_1, trivial, launch0.admits_env _ _ _, launch0.least_env, fairChoices_fair.cas, fairChoices_fair.clock, w_frames, w_args, w_heap, w_applies, ⟨w_consts, trivial⟩, w_rest, w_case⟩
end start1
theorem witness_1 : WitnessClaimed_1 := ⟨start1.p0, start1.e0, start1.about1, start1.theMethod, start1.args0, start1.below0, start1.atStart⟩
end Jvm.Pilot.@@N@@
