import JvmDerived
import JvmDerived.Pilot.@@N@@Statement
import JvmDerived.Pilot.@@N@@Code
set_option linter.unusedVariables false
set_option linter.unusedSimpArgs false
/- laws to paste: Road.backV (cut by pick.py; bodies as the Statement names them) -/
namespace Jvm.Pilot.@@N@@
namespace StrChars
open Jvm Sem ClassFile Op Lib Jvm.Stand Jvm.Free.XT Jvm.Free.ALB Jvm.Free.JM Jvm.Free
open Jvm.Lib.Cold (StaticIs)
/-- a char array whose places are chars -/
def Ch (a : Addr) (A : Cell) (U : State) : Prop := Arr .char a A U ∧ Typed .char A
theorem Ch.mv {a : Addr} {A : Cell} {U U' : State} (h : Ch a A U) (hal : U.vm.Alike U'.vm) (hh : U'.heap = U.heap) : Ch a A U' := ⟨h.1.mv hal hh, h.2⟩
theorem Ch.keep {a : Addr} {A : Cell} {U U' : State} (h : Ch a A U) (hal : U.vm.Alike U'.vm) (hk : U'.heap[a]? = some A) : Ch a A U' := ⟨h.1.keep hal hk, h.2⟩
/-- what place i of a char[]'s cell holds -/
def cv (A : Cell) (i : Nat) : Int32 := match A.slots[i]? with | some (.int x) => x | _ => 0
theorem Ch.get {a : Addr} {A : Cell} {U : State} (h : Ch a A U) {i : Nat} (hi : i < A.slots.size) : A.slots[i]? = some (.int (cv A i)) := by
  have e := Array.getElem?_eq_getElem hi
  have f := h.2 i _ e
  unfold cv; rw [e]
  generalize A.slots[i] = v at f
  cases v <;> simp [fits] at f ⊢
/-- the byte that i2b leaves of a char -/
def lo8 (x : Int32) : Int32 := x.toInt8.toInt32
theorem fits_lo8 (y : Int32) : fits .byte (.int (lo8 y)) = true := by
  have h1 := y.toInt8.le_toInt
  have h2 := y.toInt8.toInt_lt
  simp only [lo8, fits, Bool.and_eq_true, decide_eq_true_eq, Int32.le_iff_toInt_le, Int8.toInt_toInt32, show (-128 : Int32).toInt = -128 from by decide, show (127 : Int32).toInt = 127 from by decide]
  omega
/-- A' is A but that each place j of lo .. hi - 1 holds f j -/
def Laid (A A' : Cell) (lo hi : Nat) (f : Nat → Value) : Prop := A'.cls = A.cls ∧ A'.vm = A.vm ∧ A'.slots.size = A.slots.size ∧ ∀ i, A'.slots[i]? = if lo ≤ i ∧ i < hi then some (f i) else A.slots[i]?
theorem Laid.zero (A : Cell) (lo : Nat) (f : Nat → Value) : Laid A A lo (lo + 0) f := ⟨rfl, rfl, rfl, fun i => by rw [if_neg (by omega)]⟩
theorem Laid.step {A Ak : Cell} {lo k : Nat} {f : Nat → Value} {v : Value} (h : Laid A Ak lo k f) (hlo : lo ≤ k) (hk : k < Ak.slots.size) (hv : v = f k) : Laid A (Ak.setSlot k v) lo (k + 1) f := by
  refine ⟨h.1, h.2.1, by simpa [Cell.setSlot] using h.2.2.1, fun i => ?_⟩
  by_cases e : k = i
  · subst e; rw [Cell.slots_setSlot_self v hk, if_pos (by omega), hv]
  · rw [Cell.slots_setSlot_ne v e, h.2.2.2 i]
    by_cases q : lo ≤ i ∧ i < k
    · rw [if_pos q, if_pos (by omega)]
    · rw [if_neg q, if_neg (by omega)]
def U16 : String := "java/lang/StringUTF16"
namespace Cmp5
def yN : MethodName := ⟨"java/lang/StringUTF16", "compress", "([CI[BII)I"⟩
abbrev yB : ByteArray := jdk_52_method_21_code
theorem d0 : decode yB 0 = .ok (.iconst 0, 1) := by decide +kernel
theorem d1 : decode yB 1 = .ok (.istore 5, 2) := by decide +kernel
theorem d3 : decode yB 3 = .ok (.iload 5, 2) := by decide +kernel
theorem d5 : decode yB 5 = .ok (.iload 4, 2) := by decide +kernel
theorem d7 : decode yB 7 = .ok (.if_icmp (.ge) 37, 3) := by decide +kernel
theorem d10 : decode yB 10 = .ok (.aload_n 0, 1) := by decide +kernel
theorem d11 : decode yB 11 = .ok (.iload_n 1, 1) := by decide +kernel
theorem d12 : decode yB 12 = .ok (.caload, 1) := by decide +kernel
theorem d13 : decode yB 13 = .ok (.istore 6, 2) := by decide +kernel
theorem d15 : decode yB 15 = .ok (.iload 6, 2) := by decide +kernel
theorem d17 : decode yB 17 = .ok (.sipush 255, 3) := by decide +kernel
theorem d20 : decode yB 20 = .ok (.if_icmp (.le) 6, 3) := by decide +kernel
theorem d26 : decode yB 26 = .ok (.aload_n 2, 1) := by decide +kernel
theorem d27 : decode yB 27 = .ok (.iload_n 3, 1) := by decide +kernel
theorem d28 : decode yB 28 = .ok (.iload 6, 2) := by decide +kernel
theorem d30 : decode yB 30 = .ok (.i2b, 1) := by decide +kernel
theorem d31 : decode yB 31 = .ok (.bastore, 1) := by decide +kernel
theorem d32 : decode yB 32 = .ok (.iinc 1 1, 3) := by decide +kernel
theorem d35 : decode yB 35 = .ok (.iinc 3 1, 3) := by decide +kernel
theorem d38 : decode yB 38 = .ok (.iinc 5 1, 3) := by decide +kernel
theorem d41 : decode yB 41 = .ok (.goto (-38), 3) := by decide +kernel
theorem d44 : decode yB 44 = .ok (.iload 4, 2) := by decide +kernel
theorem d46 : decode yB 46 = .ok (.ireturn, 1) := by decide +kernel
def site : List Cond := []
def tab : Cond := tabOf yN yB 7 (some .int) site
def P (b : Addr) (A : Cell) (d : Addr) (B : Cell) (o q len : Nat) (args : Array Value) (s : State) : Prop := args = #[.ref b, .int (Int32.ofNat o), .ref d, .int (Int32.ofNat q), .int (Int32.ofNat len)] ∧ Ch b A s ∧ Arr .byte d B s ∧ b ≠ d ∧ o + len ≤ A.slots.size ∧ q + len ≤ B.slots.size ∧ ∀ i, i < len → ¬ 255 < cv A (o + i)
def E (b : Addr) (A : Cell) (d : Addr) (B : Cell) (o q len : Nat) (r : Option Value) (s u : State) : Prop := r = some (.int (Int32.ofNat len)) ∧ ∃ B', Put d B' s u ∧ Laid B B' q (q + len) (fun j => Value.int (lo8 (cv A (o + (j - q)))))
/-- no char of the range above 255: len; the places written hold each char's low byte -/
theorem law (l : Launch) (b : Addr) (A : Cell) (d : Addr) (B : Cell) (o q len : Nat) : Law l yN 5 5 0 0 yB 7 (some .int) site (P b A d B o q len) (E b A d B o q len) (copyLocs d q len) 0 0 := by
  refine Law.of_walk (plainFor_of_name (by decide +kernel)) (by decide +kernel) (by decide +kernel) (by decide) (fun _ _ h => by rw [h.1]; rfl) (fun _ U U' hal hh h => ⟨h.1, h.2.1.mv hal hh, h.2.2.1.mv hal hh, h.2.2.2⟩) (fun r U U' V V' h1 hal h2 h => ⟨h.1, h.2.elim fun B' q => ⟨B', q.1.mv h1 h2, q.2⟩⟩) ?_
  intro p e s m args below meth c s₁ X0 hexec hbytes hml hret hlk hnm hown hh0 W hP
  obtain ⟨rfl, hA, hB, hne, l1, l2, hp⟩ := hP
  have c1 : Steps p.tables e below (s₁.setTop (entryFrame m #[.ref b, .int (Int32.ofNat o), .ref d, .int (Int32.ofNat q), .int (Int32.ofNat len)] 7)) (s₁.setTop (mkF m 0 #[.val (.ref b), .val (.int (Int32.ofNat o)), .val (.ref d), .val (.int (Int32.ofNat q)), .val (.int (Int32.ofNat len)), .unset, .unset] [])) := entry rfl
  have hA0 := hA.1.mv X0.warmed.alike hh0
  have hB0 := hB.mv X0.warmed.alike hh0
  have a31 := hA.1.2.2.2
  have c2 : Steps p.tables e below (s₁.setTop (entryFrame m #[.ref b, .int (Int32.ofNat o), .ref d, .int (Int32.ofNat q), .int (Int32.ofNat len)] 7)) (s₁.setTop (mkF m 3 #[.val (.ref b), .val (.int (Int32.ofNat o)), .val (.ref d), .val (.int (Int32.ofNat q)), .val (.int (Int32.ofNat len)), .val (.int 0), .unset] [])) := c1.trans (by
    refine iconstV X0.here hexec rfl 0 (hb hbytes d0) (by decide) ?_
    refine XS.istore X0.here hexec rfl (hb hbytes d1) rfl rfl ?_
    exact Steps.refl _)
  have loop : ∀ (r i : Nat), i + r = len → ∀ (z : Slot), (z = .unset ∨ ∃ w, z = .val w ∧ w.category = 1) → ∀ (Tl : State) (Bk : Cell), Stand p l e { frames := 0, locals := 0, cells := 0, slots := 0 } s m #[.ref b, .int (Int32.ofNat o), .ref d, .int (Int32.ofNat q), .int (Int32.ofNat len)] below meth c Tl ([] ++ copyLocs d q i) 0 0 → Put d Bk s₁ Tl → Laid B Bk q (q + i) (fun j => Value.int (lo8 (cv A (o + (j - q))))) →
      Steps p.tables e below (s₁.setTop (entryFrame m #[.ref b, .int (Int32.ofNat o), .ref d, .int (Int32.ofNat q), .int (Int32.ofNat len)] 7)) (Tl.setTop (mkF m 3 #[.val (.ref b), .val (.int (Int32.ofNat (o + i))), .val (.ref d), .val (.int (Int32.ofNat (q + i))), .val (.int (Int32.ofNat len)), .val (.int (Int32.ofNat i)), z] [])) → ∃ (T' : State) (B' : Cell) (z' : Slot), Stand p l e { frames := 0, locals := 0, cells := 0, slots := 0 } s m #[.ref b, .int (Int32.ofNat o), .ref d, .int (Int32.ofNat q), .int (Int32.ofNat len)] below meth c T' ([] ++ copyLocs d q len) 0 0 ∧ Put d B' s₁ T' ∧ Laid B B' q (q + len) (fun j => Value.int (lo8 (cv A (o + (j - q))))) ∧
      Steps p.tables e below (s₁.setTop (entryFrame m #[.ref b, .int (Int32.ofNat o), .ref d, .int (Int32.ofNat q), .int (Int32.ofNat len)] 7)) (T'.setTop (mkF m 3 #[.val (.ref b), .val (.int (Int32.ofNat (o + len))), .val (.ref d), .val (.int (Int32.ofNat (q + len))), .val (.int (Int32.ofNat len)), .val (.int (Int32.ofNat len)), z'] [])) := by
    intro r
    induction r with
    | zero =>
      intro i hi z hz Tl Bk Xl pl fl cl
      have hil : i = len := by omega
      rw [hil] at Xl fl cl
      exact ⟨Tl, Bk, z, Xl, pl, fl, cl⟩
    | succ r ih =>
      intro i hi z hz Tl Bk Xl pl fl cl
      have all := X0.warmed.alike.symm.trans Xl.warmed.alike
      have hAl := hA0.keep all (pl.other hne hA0.1)
      have hBk := hB0.like all pl.1 fl.1 fl.2.1 fl.2.2.1
      have hlt : q + i < Bk.slots.size := by rw [fl.2.2.1]; omega
      have c3 : Steps p.tables e below (s₁.setTop (entryFrame m #[.ref b, .int (Int32.ofNat o), .ref d, .int (Int32.ofNat q), .int (Int32.ofNat len)] 7)) (Tl.setTop (mkF m 12 #[.val (.ref b), .val (.int (Int32.ofNat (o + i))), .val (.ref d), .val (.int (Int32.ofNat (q + i))), .val (.int (Int32.ofNat len)), .val (.int (Int32.ofNat i)), z] [.int (Int32.ofNat (o + i)), .ref b])) := cl.trans (by
        refine XS.iload Xl.here hexec rfl (hb hbytes d3) rfl ?_
        refine XS.iload Xl.here hexec rfl (hb hbytes d5) rfl ?_
        refine XS.icmpNo Xl.here hexec rfl (hb hbytes d7) rfl (ii_ge_f (lt32 (by omega) (by omega))) ?_
        refine XS.aloadN Xl.here hexec rfl (hb hbytes d10) rfl rfl ?_
        refine XS.iloadN Xl.here hexec rfl (hb hbytes d11) rfl ?_
        exact Steps.refl _)
      have c4 : Steps p.tables e below (s₁.setTop (entryFrame m #[.ref b, .int (Int32.ofNat o), .ref d, .int (Int32.ofNat q), .int (Int32.ofNat len)] 7)) (Tl.setTop (mkF m 13 #[.val (.ref b), .val (.int (Int32.ofNat (o + i))), .val (.ref d), .val (.int (Int32.ofNat (q + i))), .val (.int (Int32.ofNat len)), .val (.int (Int32.ofNat i)), z] [.int (cv A (o + i))])) := c3.trans (by
        refine Xl.aget hexec hAl rfl (hA.get (i := o + i) (by omega)) rfl rfl (hb hbytes d12) ?_
        exact Steps.refl _)
      have c5 : Steps p.tables e below (s₁.setTop (entryFrame m #[.ref b, .int (Int32.ofNat o), .ref d, .int (Int32.ofNat q), .int (Int32.ofNat len)] 7)) (Tl.setTop (mkF m 15 #[.val (.ref b), .val (.int (Int32.ofNat (o + i))), .val (.ref d), .val (.int (Int32.ofNat (q + i))), .val (.int (Int32.ofNat len)), .val (.int (Int32.ofNat i)), .val (.int (cv A (o + i)))] [])) := c4.trans (by
        refine XS.istoreS Xl.here hexec rfl (hb hbytes d13) rfl rfl hz ?_
        exact Steps.refl _)
      have c6 : Steps p.tables e below (s₁.setTop (entryFrame m #[.ref b, .int (Int32.ofNat o), .ref d, .int (Int32.ofNat q), .int (Int32.ofNat len)] 7)) (Tl.setTop (mkF m 31 #[.val (.ref b), .val (.int (Int32.ofNat (o + i))), .val (.ref d), .val (.int (Int32.ofNat (q + i))), .val (.int (Int32.ofNat len)), .val (.int (Int32.ofNat i)), .val (.int (cv A (o + i)))] [.int (lo8 (cv A (o + i))), .int (Int32.ofNat (q + i)), .ref d])) := c5.trans (by
        refine XS.iload Xl.here hexec rfl (hb hbytes d15) rfl ?_
        refine sipushV Xl.here hexec rfl 255 (hb hbytes d17) (by decide) ?_
        refine XS.icmpYes Xl.here hexec rfl (pc0 := 20) rfl (hb hbytes d20) rfl (ii_le_t (hp i (by omega))) (by decide) rfl ?_
        refine XS.aloadN Xl.here hexec rfl (hb hbytes d26) rfl rfl ?_
        refine XS.iloadN Xl.here hexec rfl (hb hbytes d27) rfl ?_
        refine XS.iload Xl.here hexec rfl (hb hbytes d28) rfl ?_
        refine i2b Xl.here hexec rfl (hb hbytes d30) rfl ?_
        exact Steps.refl _)
      obtain ⟨T7, X7, p7, st7⟩ := Xl.aput hexec hBk rfl hlt rfl (fits_lo8 (cv A (o + i))) (g := (mkF m 31 #[.val (.ref b), .val (.int (Int32.ofNat (o + i))), .val (.ref d), .val (.int (Int32.ofNat (q + i))), .val (.int (Int32.ofNat len)), .val (.int (Int32.ofNat i)), .val (.int (cv A (o + i)))] [.int (lo8 (cv A (o + i))), .int (Int32.ofNat (q + i)), .ref d])) rfl (rest := []) rfl (hb hbytes d31)
      have c8 : Steps p.tables e below (s₁.setTop (entryFrame m #[.ref b, .int (Int32.ofNat o), .ref d, .int (Int32.ofNat q), .int (Int32.ofNat len)] 7)) (T7.setTop (mkF m 32 #[.val (.ref b), .val (.int (Int32.ofNat (o + i))), .val (.ref d), .val (.int (Int32.ofNat (q + i))), .val (.int (Int32.ofNat len)), .val (.int (Int32.ofNat i)), .val (.int (cv A (o + i)))] [])) := c6.trans (st7 _ (Steps.refl _))
      have c9 : Steps p.tables e below (s₁.setTop (entryFrame m #[.ref b, .int (Int32.ofNat o), .ref d, .int (Int32.ofNat q), .int (Int32.ofNat len)] 7)) (T7.setTop (mkF m 3 #[.val (.ref b), .val (.int (Int32.ofNat (o + i) + 1)), .val (.ref d), .val (.int (Int32.ofNat (q + i) + 1)), .val (.int (Int32.ofNat len)), .val (.int (Int32.ofNat i + 1)), .val (.int (cv A (o + i)))] [])) := c8.trans (by
        refine iincV X7.here hexec rfl 1 (hb hbytes d32) (by decide) rfl rfl ?_
        refine iincV X7.here hexec rfl 1 (hb hbytes d35) (by decide) rfl rfl ?_
        refine iincV X7.here hexec rfl 1 (hb hbytes d38) (by decide) rfl rfl ?_
        refine XS.goto X7.here hexec rfl (pc0 := 41) rfl (hb hbytes d41) (by decide) rfl ?_
        exact Steps.refl _)
      have c10 : Steps p.tables e below (s₁.setTop (entryFrame m #[.ref b, .int (Int32.ofNat o), .ref d, .int (Int32.ofNat q), .int (Int32.ofNat len)] 7)) (T7.setTop (mkF m 3 #[.val (.ref b), .val (.int (Int32.ofNat (o + (i + 1)))), .val (.ref d), .val (.int (Int32.ofNat (q + (i + 1)))), .val (.int (Int32.ofNat len)), .val (.int (Int32.ofNat (i + 1))), .val (.int (cv A (o + i)))] [])) := by
        have := c9
        rw [succ32, succ32, succ32] at this
        exact this
      exact ih (i + 1) (by omega) _ (Or.inr ⟨_, rfl, rfl⟩) T7 _ (by rw [copyLocs_step, ← List.append_assoc]; exact X7) (pl.trans p7) (fl.step (by omega) hlt (by simp)) c10
  obtain ⟨T9, B9, z9, X9, p9, f9, g9⟩ := loop len 0 (by omega) .unset (Or.inl rfl) s₁ B (by simpa [copyLocs] using X0) ⟨hB0.1, fun _ _ => rfl, rfl⟩ (Laid.zero _ _ _) c2
  have c11 : Steps p.tables e below (s₁.setTop (entryFrame m #[.ref b, .int (Int32.ofNat o), .ref d, .int (Int32.ofNat q), .int (Int32.ofNat len)] 7)) (T9.setTop (mkF m 46 #[.val (.ref b), .val (.int (Int32.ofNat (o + len))), .val (.ref d), .val (.int (Int32.ofNat (q + len))), .val (.int (Int32.ofNat len)), .val (.int (Int32.ofNat len)), z9] [.int (Int32.ofNat len)])) := g9.trans (by
    refine XS.iload X9.here hexec rfl (hb hbytes d3) rfl ?_
    refine XS.iload X9.here hexec rfl (hb hbytes d5) rfl ?_
    refine XS.icmpYes X9.here hexec rfl (pc0 := 7) rfl (hb hbytes d7) rfl (ii_ge_t (nlt32 (by omega) (Nat.le_refl _))) (by decide) rfl ?_
    refine XS.iload X9.here hexec rfl (hb hbytes d44) rfl ?_
    exact Steps.refl _)
  exact ⟨T9, some (.int (Int32.ofNat len)), _, _, _, X9, by simp, rfl, rfl, (fun h => by cases h), ⟨rfl, B9, p9.from hh0, f9⟩, fun fs hl => c11.trans (X9.ireturnOut hexec hret rfl (Or.inl rfl) (hb hbytes d46) hl)⟩
end Cmp5
namespace Cmp3
def yN : MethodName := ⟨"java/lang/StringUTF16", "compress", "([CII)[B"⟩
abbrev yB : ByteArray := jdk_52_method_16_code
theorem d0 : decode yB 0 = .ok (.iload_n 2, 1) := by decide +kernel
theorem d1 : decode yB 1 = .ok (.newarray .byte, 2) := by decide +kernel
theorem d3 : decode yB 3 = .ok (.astore_n 3, 1) := by decide +kernel
theorem d4 : decode yB 4 = .ok (.aload_n 0, 1) := by decide +kernel
theorem d5 : decode yB 5 = .ok (.iload_n 1, 1) := by decide +kernel
theorem d6 : decode yB 6 = .ok (.aload_n 3, 1) := by decide +kernel
theorem d7 : decode yB 7 = .ok (.iconst 0, 1) := by decide +kernel
theorem d8 : decode yB 8 = .ok (.iload_n 2, 1) := by decide +kernel
theorem d9 : decode yB 9 = .ok (.invokestatic 115, 3) := by decide +kernel
theorem d12 : decode yB 12 = .ok (.istore 4, 2) := by decide +kernel
theorem d14 : decode yB 14 = .ok (.iload 4, 2) := by decide +kernel
theorem d16 : decode yB 16 = .ok (.iload_n 2, 1) := by decide +kernel
theorem d17 : decode yB 17 = .ok (.if_icmp (.eq) 40, 3) := by decide +kernel
theorem d57 : decode yB 57 = .ok (.aload_n 3, 1) := by decide +kernel
theorem d58 : decode yB 58 = .ok (.areturn, 1) := by decide +kernel
def site : List Cond := [.arrayClass .byte, Cmp5.tab] ++ staticW U16 115 Cmp5.yN
def tab : Cond := tabOf yN yB 6 (some (.array .byte)) site
def P (b : Addr) (A : Cell) (o len : Nat) (args : Array Value) (s : State) : Prop := args = #[.ref b, .int (Int32.ofNat o), .int (Int32.ofNat len)] ∧ Ch b A s ∧ o + len ≤ A.slots.size ∧ len ≤ 536870912 ∧ ∀ i, i < len → ¬ 255 < cv A (o + i)
def E (b : Addr) (A : Cell) (o len : Nat) (r : Option Value) (s u : State) : Prop := NewArr .byte "[B" len (fun j => .int (lo8 (cv A (o + j)))) r s u ∧ u.heap.size = s.heap.size + 1
/-- no char of the range above 255: a new byte[] of their low bytes -/
theorem law (l : Launch) (b : Addr) (A : Cell) (o len : Nat) : Law l yN 3 3 1 18 yB 6 (some (.array .byte)) site (P b A o len) (E b A o len) [] 1 len := by
  refine Law.of_walk (plainFor_of_name (by decide +kernel)) (by decide +kernel) (by decide +kernel) (by decide) (fun _ _ h => by rw [h.1]; rfl) (fun _ U U' hal hh h => ⟨h.1, h.2.1.mv hal hh, h.2.2⟩) (fun r U U' V V' h1 hal h2 h => ⟨NewArr.mv r U U' V V' h1 hal h2 h.1, by rw [h1, h2]; exact h.2⟩) ?_
  intro p e s m args below meth c s₁ X0 hexec hbytes hml hret hlk hnm hown hh0 W hP
  obtain ⟨rfl, hA, l1, l2, hp⟩ := hP
  have a31 := hA.1.2.2.2
  have c1 : Steps p.tables e below (s₁.setTop (entryFrame m #[.ref b, .int (Int32.ofNat o), .int (Int32.ofNat len)] 6)) (s₁.setTop (mkF m 0 #[.val (.ref b), .val (.int (Int32.ofNat o)), .val (.int (Int32.ofNat len)), .unset, .unset, .unset] [])) := entry rfl
  have c2 : Steps p.tables e below (s₁.setTop (entryFrame m #[.ref b, .int (Int32.ofNat o), .int (Int32.ofNat len)] 6)) (s₁.setTop (mkF m 1 #[.val (.ref b), .val (.int (Int32.ofNat o)), .val (.int (Int32.ofNat len)), .unset, .unset, .unset] [.int (Int32.ofNat len)])) := c1.trans (by
    refine XS.iloadN X0.here hexec rfl (hb hbytes d0) rfl ?_
    exact Steps.refl _)
  obtain ⟨T3, B3, X3, ba3, bs3, bv3, bh3, bf3, st3⟩ := X0.anew hexec (atype := .byte) (wk W (.arrayClass .byte)) rfl (by show len * 1 ≤ _; omega) (by omega) (g := (mkF m 1 #[.val (.ref b), .val (.int (Int32.ofNat o)), .val (.int (Int32.ofNat len)), .unset, .unset, .unset] [.int (Int32.ofNat len)])) rfl (hb hbytes d1) (rest := []) rfl (Nat.le_refl _) (by show 0 + len ≤ len; omega)
  rw [hh0] at ba3 st3
  have kp3 : XT.Kept s T3 := (XT.Kept.of_eq hh0).push bh3
  have hA3 := hA.keep X3.warmed.alike (kp3 _ _ hA.1.1)
  have hne : b ≠ s.heap.size := hA.1.ne
  have c4 : Steps p.tables e below (s₁.setTop (entryFrame m #[.ref b, .int (Int32.ofNat o), .int (Int32.ofNat len)] 6)) (T3.setTop (mkF m 3 #[.val (.ref b), .val (.int (Int32.ofNat o)), .val (.int (Int32.ofNat len)), .unset, .unset, .unset] [.ref s.heap.size])) := c2.trans (st3 _ (Steps.refl _))
  have c5 : Steps p.tables e below (s₁.setTop (entryFrame m #[.ref b, .int (Int32.ofNat o), .int (Int32.ofNat len)] 6)) (T3.setTop (mkF m 9 #[.val (.ref b), .val (.int (Int32.ofNat o)), .val (.int (Int32.ofNat len)), .val (.ref s.heap.size), .unset, .unset] [.int (Int32.ofNat len), .int 0, .ref s.heap.size, .int (Int32.ofNat o), .ref b])) := c4.trans (by
    refine XS.astoreN X3.here hexec rfl (hb hbytes d3) rfl rfl rfl ?_
    refine XS.aloadN X3.here hexec rfl (hb hbytes d4) rfl rfl ?_
    refine XS.iloadN X3.here hexec rfl (hb hbytes d5) rfl ?_
    refine XS.aloadN X3.here hexec rfl (hb hbytes d6) rfl rfl ?_
    refine iconstV X3.here hexec rfl 0 (hb hbytes d7) (by decide) ?_
    refine XS.iloadN X3.here hexec rfl (hb hbytes d8) rfl ?_
    exact Steps.refl _)
  obtain ⟨v6, T6, X6, E6, g6⟩ := X3.callS hexec (Cmp5.law l b A s.heap.size B3 o 0 len) hown (wks W (staticW U16 115 Cmp5.yN)) (wk W Cmp5.tab) (W := 0) (Nat.le_of_ble_eq_true rfl) (Nat.le_of_ble_eq_true rfl) (Nat.le_refl _) (by show 0 + len + 0 ≤ len; omega) (g := (mkF m 9 #[.val (.ref b), .val (.int (Int32.ofNat o)), .val (.int (Int32.ofNat len)), .val (.ref s.heap.size), .unset, .unset] [.int (Int32.ofNat len), .int (Int32.ofNat 0), .ref s.heap.size, .int (Int32.ofNat o), .ref b])) rfl (by rw [hml]; rfl) c5 (argsL := [.ref b, .int (Int32.ofNat o), .ref s.heap.size, .int (Int32.ofNat 0), .int (Int32.ofNat len)]) (rest := []) rfl rfl (by show 2 * 0 + 0 ≤ _; decide) (hb hbytes d9) (⟨rfl, hA3, ba3, hne, l1, by rw [bs3]; simp, hp⟩)
  obtain ⟨rfl, B6, p6, f6⟩ := E6
  have c7 : Steps p.tables e below (s₁.setTop (entryFrame m #[.ref b, .int (Int32.ofNat o), .int (Int32.ofNat len)] 6)) (T6.setTop (mkF m 12 #[.val (.ref b), .val (.int (Int32.ofNat o)), .val (.int (Int32.ofNat len)), .val (.ref s.heap.size), .unset, .unset] [.int (Int32.ofNat len)])) := g6
  have c8 : Steps p.tables e below (s₁.setTop (entryFrame m #[.ref b, .int (Int32.ofNat o), .int (Int32.ofNat len)] 6)) (T6.setTop (mkF m 58 #[.val (.ref b), .val (.int (Int32.ofNat o)), .val (.int (Int32.ofNat len)), .val (.ref s.heap.size), .val (.int (Int32.ofNat len)), .unset] [.ref s.heap.size])) := c7.trans (by
    refine XS.istore X6.here hexec rfl (hb hbytes d12) rfl rfl ?_
    refine XS.iload X6.here hexec rfl (hb hbytes d14) rfl ?_
    refine XS.iloadN X6.here hexec rfl (hb hbytes d16) rfl ?_
    refine XS.icmpYes X6.here hexec rfl (pc0 := 17) rfl (hb hbytes d17) rfl (ii_eq_t rfl) (by decide) rfl ?_
    refine XS.aloadN X6.here hexec rfl (hb hbytes d57) rfl rfl ?_
    exact Steps.refl _)
  have X8 := X6.wide (L' := []) (cells' := 1) (slots' := len) (fun x hx hlt => by
    simp only [List.nil_append, copyLocs, List.mem_map, List.mem_range] at hx
    obtain ⟨i, -, rfl⟩ := hx
    exact absurd hlt (Nat.lt_irrefl _)) (Nat.le_refl _) (by omega)
  exact ⟨T6, some (.ref s.heap.size), _, _, _, X8, rfl, rfl, rfl, (fun h => by cases h), ⟨⟨rfl, B6, ba3.like (X3.warmed.alike.symm.trans X6.warmed.alike) p6.1 f6.1 f6.2.1 f6.2.2.1, f6.2.1.trans bv3, by rw [X6.warmed.alike.findClass, f6.1]; exact bf3, by rw [f6.2.2.1, bs3]; simp, fun j hj => by rw [f6.2.2.2 j, if_pos (by omega)]; rfl, kp3.put p6 (Nat.le_refl _)⟩, by rw [p6.2.2, bh3, hh0]; simp⟩, fun fs hl => c8.trans (X8.areturnOut hexec rfl hret rfl (hb hbytes d58) hl)⟩
end Cmp3
namespace CodL
def yN : MethodName := ⟨"java/lang/StringUTF16", "coderFromArrayLen", "([BI)B"⟩
abbrev yB : ByteArray := jdk_52_method_15_code
theorem d0 : decode yB 0 = .ok (.iload_n 1, 1) := by decide +kernel
theorem d1 : decode yB 1 = .ok (.aload_n 0, 1) := by decide +kernel
theorem d2 : decode yB 2 = .ok (.arraylength, 1) := by decide +kernel
theorem d3 : decode yB 3 = .ok (.isub, 1) := by decide +kernel
theorem d4 : decode yB 4 = .ok (.bipush 31, 2) := by decide +kernel
theorem d6 : decode yB 6 = .ok (.iushr, 1) := by decide +kernel
theorem d7 : decode yB 7 = .ok (.i2b, 1) := by decide +kernel
theorem d8 : decode yB 8 = .ok (.ireturn, 1) := by decide +kernel
def site : List Cond := []
def tab : Cond := tabOf yN yB 2 (some .byte) site
def P (d : Addr) (B : Cell) (args : Array Value) (s : State) : Prop := args = #[.ref d, .int (Int32.ofNat B.slots.size)] ∧ Arr .byte d B s
def E (r : Option Value) (s u : State) : Prop := XT.PureE (some (.int 0)) r s u
/-- an array as long as the number of chars: LATIN1 -/
theorem law (l : Launch) (d : Addr) (B : Cell) : Law l yN 2 2 0 0 yB 2 (some .byte) site (P d B) E [] 0 0 := by
  refine Law.of_walk (plainFor_of_name (by decide +kernel)) (by decide +kernel) (by decide +kernel) (by decide) (fun _ _ h => by rw [h.1]; rfl) (fun _ U U' hal hh h => ⟨h.1, h.2.mv hal hh⟩) (fun r U U' V V' h1 hal h2 h => XT.PureE.mv r U U' V V' h1 hal h2 h) ?_
  intro p e s m args below meth c s₁ X0 hexec hbytes hml hret hlk hnm hown hh0 W hP
  obtain ⟨rfl, hB⟩ := hP
  have hB0 := hB.mv X0.warmed.alike hh0
  have c1 : Steps p.tables e below (s₁.setTop (entryFrame m #[.ref d, .int (Int32.ofNat B.slots.size)] 2)) (s₁.setTop (mkF m 0 #[.val (.ref d), .val (.int (Int32.ofNat B.slots.size))] [])) := entry rfl
  have c2 : Steps p.tables e below (s₁.setTop (entryFrame m #[.ref d, .int (Int32.ofNat B.slots.size)] 2)) (s₁.setTop (mkF m 2 #[.val (.ref d), .val (.int (Int32.ofNat B.slots.size))] [.ref d, .int (Int32.ofNat B.slots.size)])) := c1.trans (by
    refine XS.iloadN X0.here hexec rfl (hb hbytes d0) rfl ?_
    refine XS.aloadN X0.here hexec rfl (hb hbytes d1) rfl rfl ?_
    exact Steps.refl _)
  have c3 : Steps p.tables e below (s₁.setTop (entryFrame m #[.ref d, .int (Int32.ofNat B.slots.size)] 2)) (s₁.setTop (mkF m 8 #[.val (.ref d), .val (.int (Int32.ofNat B.slots.size))] [.int (lo8 (ushr (Int32.ofNat B.slots.size - Int32.ofNat B.slots.size) 31))])) := c2.trans (by
    refine X0.alen hexec hB0 rfl rfl (hb hbytes d2) ?_
    refine XS.isub X0.here hexec rfl (hb hbytes d3) rfl ?_
    refine bipushV X0.here hexec rfl 31 (hb hbytes d4) (by decide) ?_
    refine iushr X0.here hexec rfl (hb hbytes d6) rfl ?_
    refine i2b X0.here hexec rfl (hb hbytes d7) rfl ?_
    exact Steps.refl _)
  have e0 : lo8 (ushr (Int32.ofNat B.slots.size - Int32.ofNat B.slots.size) 31) = 0 := by rw [Int32.sub_self]; decide
  rw [e0] at c3
  exact ⟨s₁, some (.int 0), _, _, _, X0, rfl, rfl, rfl, (fun h => by cases h), ⟨rfl, hh0⟩, fun fs hl => c3.trans (X0.ireturnOut hexec hret rfl (Or.inr (Or.inr (Or.inl rfl))) (hb hbytes d8) hl)⟩
end CodL
/-- the String at a is Latin-1 over a new byte[] (the heap's one new cell): the low bytes of the len chars of A from o on; every cell but a is kept -/
def Got (a : Addr) (D : Cell) (fV fC : Field) (A : Cell) (o len : Nat) (r : Option Value) (s u : State) : Prop := r = none ∧ ∃ D' V : Cell, Blank "java/lang/String" a D' u ∧ Same D D' [fV.slot, fC.slot] ∧ D'.slots[fV.slot]? = some (.ref s.heap.size) ∧ D'.slots[fC.slot]? = some (.int 0) ∧ Arr .byte s.heap.size V u ∧ V.vm = .none ∧ u.vm.findClass "[B" = some V.cls ∧ V.slots.size = len ∧ (∀ j, j < len → V.slots[j]? = some (.int (lo8 (cv A (o + j))))) ∧ (∀ (y : Addr) (c : Cell), y ≠ a → s.heap[y]? = some c → u.heap[y]? = some c) ∧ u.heap.size = s.heap.size + 1
theorem Got.mv {a : Addr} {D A : Cell} {fV fC : Field} {o len : Nat} : ∀ r (U U' V V' : State), U'.heap = U.heap → V.vm.Alike V'.vm → V'.heap = V.heap → Got a D fV fC A o len r U V → Got a D fV fC A o len r U' V' :=
  fun r U U' V V' h1 hal h2 ⟨e0, D', X, a1, a2, a3, a4, a5, a6, a7, a8, a9, a10, a11⟩ => ⟨e0, D', X, a1.mv hal h2, a2, by rw [h1]; exact a3, a4, by rw [h1]; exact a5.mv hal h2, a6, by rw [hal.findClass]; exact a7, a8, a9, by rw [h1, h2]; exact a10, by rw [h1, h2]; exact a11⟩
namespace New4
def yN : MethodName := ⟨"java/lang/String", "<init>", "([CIILjava/lang/Void;)V"⟩
abbrev yB : ByteArray := jdk_42_method_149_code
theorem d0 : decode yB 0 = .ok (.aload_n 0, 1) := by decide +kernel
theorem d1 : decode yB 1 = .ok (.invokespecial 1, 3) := by decide +kernel
theorem d4 : decode yB 4 = .ok (.iload_n 3, 1) := by decide +kernel
theorem d5 : decode yB 5 = .ok (.ifCond (.ne) 22, 3) := by decide +kernel
theorem d27 : decode yB 27 = .ok (.getstatic 38, 3) := by decide +kernel
theorem d30 : decode yB 30 = .ok (.ifCond (.eq) 28, 3) := by decide +kernel
theorem d33 : decode yB 33 = .ok (.aload_n 1, 1) := by decide +kernel
theorem d34 : decode yB 34 = .ok (.iload_n 2, 1) := by decide +kernel
theorem d35 : decode yB 35 = .ok (.iload_n 3, 1) := by decide +kernel
theorem d36 : decode yB 36 = .ok (.invokestatic 177, 3) := by decide +kernel
theorem d39 : decode yB 39 = .ok (.astore 5, 2) := by decide +kernel
theorem d41 : decode yB 41 = .ok (.aload_n 0, 1) := by decide +kernel
theorem d42 : decode yB 42 = .ok (.aload 5, 2) := by decide +kernel
theorem d44 : decode yB 44 = .ok (.iload_n 3, 1) := by decide +kernel
theorem d45 : decode yB 45 = .ok (.invokestatic 47, 3) := by decide +kernel
theorem d48 : decode yB 48 = .ok (.putfield 15, 3) := by decide +kernel
theorem d51 : decode yB 51 = .ok (.aload_n 0, 1) := by decide +kernel
theorem d52 : decode yB 52 = .ok (.aload 5, 2) := by decide +kernel
theorem d54 : decode yB 54 = .ok (.putfield 9, 3) := by decide +kernel
theorem d57 : decode yB 57 = .ok (.return_, 1) := by decide +kernel
def site : List Cond := [.fieldLink "java/lang/String" 38 "java/lang/String" "COMPACT_STRINGS" "Z", Cmp3.tab, CodL.tab, .laysFinal "java/lang/String" "java/lang/String" "value" "[B", .fieldLink "java/lang/String" 9 "java/lang/String" "value" "[B", .laysFinal "java/lang/String" "java/lang/String" "coder" "B", .fieldLink "java/lang/String" 15 "java/lang/String" "coder" "B"] ++ objW "java/lang/String" 1 ++ staticW "java/lang/String" 177 Cmp3.yN ++ staticW "java/lang/String" 47 CodL.yN
def tab : Cond := tabOf yN yB 6 none site
def P (a : Addr) (D : Cell) (fV fC : Field) (b : Addr) (A : Cell) (z : Int32) (o len : Nat) (args : Array Value) (s : State) : Prop := args = #[.ref a, .ref b, .int (Int32.ofNat o), .int (Int32.ofNat len), .null] ∧ Blank "java/lang/String" a D s ∧ Found "java/lang/String" "value" "[B" fV s ∧ Found "java/lang/String" "coder" "B" fC s ∧ Ch b A s ∧ StaticIs s "java/lang/String" "COMPACT_STRINGS" "Z" (.int z) ∧ ¬ z = 0 ∧ 0 < len ∧ o + len ≤ A.slots.size ∧ len ≤ 536870912 ∧ ∀ i, i < len → ¬ 255 < cv A (o + i)
def E (a : Addr) (D : Cell) (fV fC : Field) (A : Cell) (o len : Nat) (r : Option Value) (s u : State) : Prop := Got a D fV fC A o len r s u
/-- len > 0, no char of the range above 255: a Latin-1 String of their low bytes -/
theorem law (l : Launch) (a : Addr) (D : Cell) (fV fC : Field) (b : Addr) (A : Cell) (z : Int32) (o len : Nat) : Law l yN 5 4 2 35 yB 6 none site (P a D fV fC b A z o len) (E a D fV fC A o len) [⟨a, fC.slot⟩, ⟨a, fV.slot⟩] 1 len := by
  refine Law.of_walk (plainFor_of_name (by decide +kernel)) (by decide +kernel) (by decide +kernel) (by decide) (fun _ _ h => by rw [h.1]; rfl) (fun _ U U' hal hh h => ⟨h.1, h.2.1.mv hal hh, h.2.2.1.al hal, h.2.2.2.1.al hal, h.2.2.2.2.1.mv hal hh, h.2.2.2.2.2.1.there hal hh, h.2.2.2.2.2.2⟩) (fun r U U' V V' h1 hal h2 h => Got.mv r U U' V V' h1 hal h2 h) ?_
  intro p e s m args below meth c s₁ X0 hexec hbytes hml hret hlk hnm hown hh0 W hP
  obtain ⟨rfl, hB, f1, f2, hA, s1, hz, l0, l1, l2, hp⟩ := hP
  have a31 := hA.1.2.2.2
  have c1 : Steps p.tables e below (s₁.setTop (entryFrame m #[.ref a, .ref b, .int (Int32.ofNat o), .int (Int32.ofNat len), .null] 6)) (s₁.setTop (mkF m 0 #[.val (.ref a), .val (.ref b), .val (.int (Int32.ofNat o)), .val (.int (Int32.ofNat len)), .val .null, .unset] [])) := entry rfl
  have c2 : Steps p.tables e below (s₁.setTop (entryFrame m #[.ref a, .ref b, .int (Int32.ofNat o), .int (Int32.ofNat len), .null] 6)) (s₁.setTop (mkF m 1 #[.val (.ref a), .val (.ref b), .val (.int (Int32.ofNat o)), .val (.int (Int32.ofNat len)), .val .null, .unset] [.ref a])) := c1.trans (by
    refine XS.aloadN X0.here hexec rfl (hb hbytes d0) rfl rfl ?_
    exact Steps.refl _)
  obtain ⟨T3, X3, q3, st3⟩ := X0.oinit hexec hown (wks W (objW "java/lang/String" 1)) (g := (mkF m 1 #[.val (.ref a), .val (.ref b), .val (.int (Int32.ofNat o)), .val (.int (Int32.ofNat len)), .val .null, .unset] [.ref a])) rfl (by rw [hml]; rfl) (rest := []) rfl (hb hbytes d1) (W := 0) (by show 2 * 0 + 0 ≤ _; decide) (Nat.le_of_ble_eq_true rfl) (Nat.le_of_ble_eq_true rfl)
  have hh3 := q3.trans hh0
  have c4 : Steps p.tables e below (s₁.setTop (entryFrame m #[.ref a, .ref b, .int (Int32.ofNat o), .int (Int32.ofNat len), .null] 6)) (T3.setTop (mkF m 27 #[.val (.ref a), .val (.ref b), .val (.int (Int32.ofNat o)), .val (.int (Int32.ofNat len)), .val .null, .unset] [])) := (c2.trans (st3 _ (Steps.refl _))).trans (by
    refine XS.iloadN X3.here hexec rfl (hb hbytes d4) rfl ?_
    refine XS.ifYes X3.here hexec rfl (pc0 := 5) rfl (hb hbytes d5) rfl (i0_ne_t (nz32 (by omega) l0)) (by decide) rfl ?_
    exact Steps.refl _)
  obtain ⟨T5, X5, q5, st5⟩ := X3.sget hexec hown (wk W (.fieldLink "java/lang/String" 38 "java/lang/String" "COMPACT_STRINGS" "Z")) s1 (fun _ _ h => by rw [hh3]; exact h) (g := (mkF m 27 #[.val (.ref a), .val (.ref b), .val (.int (Int32.ofNat o)), .val (.int (Int32.ofNat len)), .val .null, .unset] [])) rfl (hb hbytes d27)
  have hh5 := q5.trans hh3
  have c6 : Steps p.tables e below (s₁.setTop (entryFrame m #[.ref a, .ref b, .int (Int32.ofNat o), .int (Int32.ofNat len), .null] 6)) (T5.setTop (mkF m 30 #[.val (.ref a), .val (.ref b), .val (.int (Int32.ofNat o)), .val (.int (Int32.ofNat len)), .val .null, .unset] [.int z])) := c4.trans (st5 _ (Steps.refl _))
  have c7 : Steps p.tables e below (s₁.setTop (entryFrame m #[.ref a, .ref b, .int (Int32.ofNat o), .int (Int32.ofNat len), .null] 6)) (T5.setTop (mkF m 36 #[.val (.ref a), .val (.ref b), .val (.int (Int32.ofNat o)), .val (.int (Int32.ofNat len)), .val .null, .unset] [.int (Int32.ofNat len), .int (Int32.ofNat o), .ref b])) := c6.trans (by
    refine XS.ifNo X5.here hexec rfl (hb hbytes d30) rfl (i0_eq_f hz) ?_
    refine XS.aloadN X5.here hexec rfl (hb hbytes d33) rfl rfl ?_
    refine XS.iloadN X5.here hexec rfl (hb hbytes d34) rfl ?_
    refine XS.iloadN X5.here hexec rfl (hb hbytes d35) rfl ?_
    exact Steps.refl _)
  obtain ⟨v8, T8, X8, E8, g8⟩ := X5.callS hexec (Cmp3.law l b A o len) hown (wks W (staticW "java/lang/String" 177 Cmp3.yN)) (wk W Cmp3.tab) (W := 0) (Nat.le_of_ble_eq_true rfl) (Nat.le_of_ble_eq_true rfl) (Nat.le_refl _) (by show 0 + len ≤ len; omega) (g := (mkF m 36 #[.val (.ref a), .val (.ref b), .val (.int (Int32.ofNat o)), .val (.int (Int32.ofNat len)), .val .null, .unset] [.int (Int32.ofNat len), .int (Int32.ofNat o), .ref b])) rfl (by rw [hml]; rfl) c7 (argsL := [.ref b, .int (Int32.ofNat o), .int (Int32.ofNat len)]) (rest := []) rfl rfl (by show 2 * 0 + 0 ≤ _; decide) (hb hbytes d36) (⟨rfl, hA.mv X5.warmed.alike hh5, l1, l2, hp⟩)
  obtain ⟨e8, z8⟩ := E8
  obtain ⟨rfl, N, n1, n2, n3, n4, n5, n6⟩ := NewArr.mv _ T5 s _ _ hh5.symm (Vm.Alike.refl _) rfl e8
  rw [hh5] at z8
  have hB1 := hB.keep X8.warmed.alike (n6 _ _ hB.1)
  have hne : s.heap.size ≠ a := (Nat.ne_of_lt (Array.getElem?_eq_some_iff.mp hB.1).1).symm
  have c9 : Steps p.tables e below (s₁.setTop (entryFrame m #[.ref a, .ref b, .int (Int32.ofNat o), .int (Int32.ofNat len), .null] 6)) (T8.setTop (mkF m 39 #[.val (.ref a), .val (.ref b), .val (.int (Int32.ofNat o)), .val (.int (Int32.ofNat len)), .val .null, .unset] [.ref s.heap.size])) := g8
  have c10 : Steps p.tables e below (s₁.setTop (entryFrame m #[.ref a, .ref b, .int (Int32.ofNat o), .int (Int32.ofNat len), .null] 6)) (T8.setTop (mkF m 45 #[.val (.ref a), .val (.ref b), .val (.int (Int32.ofNat o)), .val (.int (Int32.ofNat len)), .val .null, .val (.ref s.heap.size)] [.int (Int32.ofNat N.slots.size), .ref s.heap.size, .ref a])) := by
    have hc : Steps p.tables e below (s₁.setTop (entryFrame m #[.ref a, .ref b, .int (Int32.ofNat o), .int (Int32.ofNat len), .null] 6)) (T8.setTop (mkF m 45 #[.val (.ref a), .val (.ref b), .val (.int (Int32.ofNat o)), .val (.int (Int32.ofNat len)), .val .null, .val (.ref s.heap.size)] [.int (Int32.ofNat len), .ref s.heap.size, .ref a])) := c9.trans (by
      refine XS.astore X8.here hexec rfl (hb hbytes d39) rfl rfl rfl ?_
      refine XS.aloadN X8.here hexec rfl (hb hbytes d41) rfl rfl ?_
      refine XS.aload X8.here hexec rfl (hb hbytes d42) rfl rfl ?_
      refine XS.iloadN X8.here hexec rfl (hb hbytes d44) rfl ?_
      exact Steps.refl _)
    rw [n4]; exact hc
  obtain ⟨v11, T11, X11, E11, g11⟩ := X8.callS hexec (CodL.law l s.heap.size N) hown (wks W (staticW "java/lang/String" 47 CodL.yN)) (wk W CodL.tab) (W := 1) (Nat.le_of_ble_eq_true rfl) (Nat.le_of_ble_eq_true rfl) (Nat.le_refl _) (by show 0 + len + 0 ≤ len; omega) (g := (mkF m 45 #[.val (.ref a), .val (.ref b), .val (.int (Int32.ofNat o)), .val (.int (Int32.ofNat len)), .val .null, .val (.ref s.heap.size)] [.int (Int32.ofNat N.slots.size), .ref s.heap.size, .ref a])) rfl (by rw [hml]; rfl) c10 (argsL := [.ref s.heap.size, .int (Int32.ofNat N.slots.size)]) (rest := [.ref a]) rfl rfl (by show 2 * 0 + (1 + 0) ≤ _; decide) (hb hbytes d45) (⟨rfl, n1⟩)
  obtain ⟨rfl, q11⟩ := E11
  have hB11 := hB1.mv (X8.warmed.alike.symm.trans X11.warmed.alike) q11
  have c12 : Steps p.tables e below (s₁.setTop (entryFrame m #[.ref a, .ref b, .int (Int32.ofNat o), .int (Int32.ofNat len), .null] 6)) (T11.setTop (mkF m 48 #[.val (.ref a), .val (.ref b), .val (.int (Int32.ofNat o)), .val (.int (Int32.ofNat len)), .val .null, .val (.ref s.heap.size)] [.int 0, .ref a])) := g11
  obtain ⟨T13, X13, p13, bl13, sl13, st13⟩ := X11.finit hexec hown (wk W (.fieldLink "java/lang/String" 15 "java/lang/String" "coder" "B")) (Or.inr ⟨_, (wk W (.laysFinal "java/lang/String" "java/lang/String" "coder" "B"))⟩) (Or.inl ⟨rfl, hnm⟩) f2 (Or.inl rfl) hB11 (t := .byte) (by decide +kernel) rfl (g := (mkF m 48 #[.val (.ref a), .val (.ref b), .val (.int (Int32.ofNat o)), .val (.int (Int32.ofNat len)), .val .null, .val (.ref s.heap.size)] [.int 0, .ref a])) rfl (rest := []) rfl (hb hbytes d48)
  have c14 : Steps p.tables e below (s₁.setTop (entryFrame m #[.ref a, .ref b, .int (Int32.ofNat o), .int (Int32.ofNat len), .null] 6)) (T13.setTop (mkF m 54 #[.val (.ref a), .val (.ref b), .val (.int (Int32.ofNat o)), .val (.int (Int32.ofNat len)), .val .null, .val (.ref s.heap.size)] [.ref s.heap.size, .ref a])) := (c12.trans (st13 _ (Steps.refl _))).trans (by
    refine XS.aloadN X13.here hexec rfl (hb hbytes d51) rfl rfl ?_
    refine XS.aload X13.here hexec rfl (hb hbytes d52) rfl rfl ?_
    exact Steps.refl _)
  obtain ⟨T15, X15, p15, bl15, sl15, st15⟩ := X13.finit hexec hown (wk W (.fieldLink "java/lang/String" 9 "java/lang/String" "value" "[B")) (Or.inr ⟨_, (wk W (.laysFinal "java/lang/String" "java/lang/String" "value" "[B"))⟩) (Or.inl ⟨rfl, hnm⟩) f1 (Or.inl rfl) bl13 (t := (.array .byte)) (by decide +kernel) rfl (g := (mkF m 54 #[.val (.ref a), .val (.ref b), .val (.int (Int32.ofNat o)), .val (.int (Int32.ofNat len)), .val .null, .val (.ref s.heap.size)] [.ref s.heap.size, .ref a])) rfl (rest := []) rfl (hb hbytes d54)
  have c16 : Steps p.tables e below (s₁.setTop (entryFrame m #[.ref a, .ref b, .int (Int32.ofNat o), .int (Int32.ofNat len), .null] 6)) (T15.setTop (mkF m 57 #[.val (.ref a), .val (.ref b), .val (.int (Int32.ofNat o)), .val (.int (Int32.ofNat len)), .val .null, .val (.ref s.heap.size)] [])) := c14.trans (st15 _ (Steps.refl _))
  have ap := apart (Or.inr ⟨_, (wk W (.laysFinal "java/lang/String" "java/lang/String" "value" "[B"))⟩) (Or.inr ⟨_, (wk W (.laysFinal "java/lang/String" "java/lang/String" "coder" "B"))⟩) f1 f2 (t₁ := .array .byte) (t₂ := .byte) (by decide +kernel) (by decide +kernel) (by decide)
  have al := X8.warmed.alike.symm.trans X15.warmed.alike
  have n7 : T11.heap[s.heap.size]? = some N := by rw [q11]; exact n1.1
  exact ⟨T15, none, _, _, _, X15, by simp, rfl, by omega, (fun _ => rfl), ⟨rfl, _, N, bl15, ((Same.refl D _).set _ (by simp)).set _ (by simp), sl15, (Cell.slots_setSlot_ne _ ap).trans sl13, n1.keep al (p15.other hne (p13.other hne n7)), n2, by rw [al.findClass]; exact n3, n4, n5, fun y c h1 h2 => p15.other h1 (p13.other h1 (by rw [q11]; exact n6 y c h2)), by rw [p15.2.2, p13.2.2, q11]; exact z8⟩, fun fs hl => c16.trans (X15.returnOut hexec hret (hb hbytes d57) hl)⟩
end New4
namespace New1
def yN : MethodName := ⟨"java/lang/String", "<init>", "([C)V"⟩
abbrev yB : ByteArray := jdk_42_method_3_code
theorem d0 : decode yB 0 = .ok (.aload_n 0, 1) := by decide +kernel
theorem d1 : decode yB 1 = .ok (.aload_n 1, 1) := by decide +kernel
theorem d2 : decode yB 2 = .ok (.iconst 0, 1) := by decide +kernel
theorem d3 : decode yB 3 = .ok (.aload_n 1, 1) := by decide +kernel
theorem d4 : decode yB 4 = .ok (.arraylength, 1) := by decide +kernel
theorem d5 : decode yB 5 = .ok (.aconst_null, 1) := by decide +kernel
theorem d6 : decode yB 6 = .ok (.invokespecial 27, 3) := by decide +kernel
theorem d9 : decode yB 9 = .ok (.return_, 1) := by decide +kernel
def site : List Cond := [New4.tab] ++ initW "java/lang/String" 27 New4.yN
def tab : Cond := tabOf yN yB 2 none site
def P (a : Addr) (D : Cell) (fV fC : Field) (b : Addr) (A : Cell) (z : Int32) (args : Array Value) (s : State) : Prop := args = #[.ref a, .ref b] ∧ Blank "java/lang/String" a D s ∧ Found "java/lang/String" "value" "[B" fV s ∧ Found "java/lang/String" "coder" "B" fC s ∧ Ch b A s ∧ StaticIs s "java/lang/String" "COMPACT_STRINGS" "Z" (.int z) ∧ ¬ z = 0 ∧ 0 < A.slots.size ∧ A.slots.size ≤ 536870912 ∧ ∀ i, i < A.slots.size → ¬ 255 < cv A i
def E (a : Addr) (D : Cell) (fV fC : Field) (A : Cell) (r : Option Value) (s u : State) : Prop := Got a D fV fC A 0 A.slots.size r s u
/-- new String(chars), not empty, no char above 255: a Latin-1 String of their low bytes -/
theorem law (l : Launch) (a : Addr) (D : Cell) (fV fC : Field) (b : Addr) (A : Cell) (z : Int32) : Law l yN 2 1 3 52 yB 2 none site (P a D fV fC b A z) (E a D fV fC A) [⟨a, fC.slot⟩, ⟨a, fV.slot⟩] 1 A.slots.size := by
  refine Law.of_walk (plainFor_of_name (by decide +kernel)) (by decide +kernel) (by decide +kernel) (by decide) (fun _ _ h => by rw [h.1]; rfl) (fun _ U U' hal hh h => ⟨h.1, h.2.1.mv hal hh, h.2.2.1.al hal, h.2.2.2.1.al hal, h.2.2.2.2.1.mv hal hh, h.2.2.2.2.2.1.there hal hh, h.2.2.2.2.2.2⟩) (fun r U U' V V' h1 hal h2 h => Got.mv r U U' V V' h1 hal h2 h) ?_
  intro p e s m args below meth c s₁ X0 hexec hbytes hml hret hlk hnm hown hh0 W hP
  obtain ⟨rfl, hB, f1, f2, hA, s1, hz, l0, l2, hp⟩ := hP
  have c1 : Steps p.tables e below (s₁.setTop (entryFrame m #[.ref a, .ref b] 2)) (s₁.setTop (mkF m 0 #[.val (.ref a), .val (.ref b)] [])) := entry rfl
  have c2 : Steps p.tables e below (s₁.setTop (entryFrame m #[.ref a, .ref b] 2)) (s₁.setTop (mkF m 6 #[.val (.ref a), .val (.ref b)] [.null, .int (Int32.ofNat A.slots.size), .int 0, .ref b, .ref a])) := c1.trans (by
    refine XS.aloadN X0.here hexec rfl (hb hbytes d0) rfl rfl ?_
    refine XS.aloadN X0.here hexec rfl (hb hbytes d1) rfl rfl ?_
    refine iconstV X0.here hexec rfl 0 (hb hbytes d2) (by decide) ?_
    refine XS.aloadN X0.here hexec rfl (hb hbytes d3) rfl rfl ?_
    refine X0.alen hexec (hA.1.mv X0.warmed.alike hh0) rfl rfl (hb hbytes d4) ?_
    refine XS.aconstNull X0.here hexec rfl (hb hbytes d5) ?_
    exact Steps.refl _)
  obtain ⟨v3, T3, X3, E3, g3⟩ := X0.callN hexec (New4.law l a D fV fC b A z 0 A.slots.size) rfl hown (wks W (initW "java/lang/String" 27 New4.yN)) (W New4.tab (by simp only [site, List.mem_cons, List.mem_append, true_or, or_true])) (W := 0) (Nat.le_of_ble_eq_true rfl) (Nat.le_of_ble_eq_true rfl) (Nat.le_refl _) (by show 0 + A.slots.size ≤ A.slots.size; omega) (g := (mkF m 6 #[.val (.ref a), .val (.ref b)] [.null, .int (Int32.ofNat A.slots.size), .int (Int32.ofNat 0), .ref b, .ref a])) rfl (by rw [hml]; rfl) c2 (argsL := [.ref b, .int (Int32.ofNat 0), .int (Int32.ofNat A.slots.size), .null]) (rest := []) rfl rfl (by show 2 * 0 + 0 ≤ _; decide) (hb hbytes d6) (⟨rfl, hB.mv X0.warmed.alike hh0, f1.al X0.warmed.alike, f2.al X0.warmed.alike, hA.mv X0.warmed.alike hh0, s1.there X0.warmed.alike hh0, hz, l0, by omega, l2, fun i hi => by rw [Nat.zero_add]; exact hp i hi⟩)
  have e0 := Got.mv _ s₁ s _ _ hh0.symm (Vm.Alike.refl _) rfl E3
  obtain rfl := e0.1
  have c4 : Steps p.tables e below (s₁.setTop (entryFrame m #[.ref a, .ref b] 2)) (T3.setTop (mkF m 9 #[.val (.ref a), .val (.ref b)] [])) := g3
  exact ⟨T3, none, _, _, _, X3, by simp, rfl, by omega, (fun _ => rfl), e0, fun fs hl => c4.trans (X3.returnOut hexec hret (hb hbytes d9) hl)⟩
theorem pays {l : Launch} {R : Room} {p : Program} {e : Env} {below : List Frame} {s : State} {sargs : Array Value} {len W : Nat} (a : Addr) (D : Cell) (fV fC : Field) (b : Addr) (A : Cell) (z : Int32) (htab : tab.before sargs s = true) (hfr : 4 ≤ R.frames) (hlo : W + 65 ≤ R.locals) :
    Back l R p e below s sargs yN len W (fun A₁ a₁ => A₁.cells + 1 ≤ R.cells ∧ A₁.slots + A.slots.size ≤ R.slots ∧ P a D fV fC b A z a₁ A₁.U) (fun A₁ _ v₁ B₁ => E a D fV fC A v₁ A₁.U B₁.U ∧ B₁.locs = A₁.locs ++ [⟨a, fC.slot⟩, ⟨a, fV.slot⟩] ∧ B₁.cells = A₁.cells + 1 ∧ B₁.slots = A₁.slots + A.slots.size) :=
  (law l a D fV fC b A z).pays htab hfr (by omega)
end New1
end StrChars
namespace StrChars.Road
open Jvm Sem ClassFile Op Lib Jvm.Stand Jvm.Free Jvm.Free.XT
open Jvm.Lib.Cold (StaticIs)
abbrev ST : String := "java/lang/String"
/-- every table word that New1's law asks, flat -/
abbrev words : List Jvm.Cond := [.code New1.yN New1.yB 2 none, .initialized ST, .methodLink ST 27 New4.yN, .instanceMethod New4.yN,
  .code New4.yN New4.yB 6 none, .fieldLink ST 38 ST "COMPACT_STRINGS" "Z", .laysFinal ST ST "value" "[B", .fieldLink ST 9 ST "value" "[B", .laysFinal ST ST "coder" "B", .fieldLink ST 15 ST "coder" "B",
  .methodLink ST 1 Lib.objectInit, .instanceMethod Lib.objectInit, .code Lib.objectInit ⟨#[0xb1]⟩ 1 none, .methodLink ST 177 Cmp3.yN, .static Cmp3.yN, .methodLink ST 47 CodL.yN, .static CodL.yN,
  .code Cmp3.yN Cmp3.yB 6 (some (.array .byte)), .initialized U16, .arrayClass .byte, .methodLink U16 115 Cmp5.yN, .static Cmp5.yN, .code Cmp5.yN Cmp5.yB 7 (some .int), .code CodL.yN CodL.yB 2 (some .byte)]
theorem tab_of {a : Array Value} {s : State} (h : ∀ w ∈ words, w.before a s = true) : New1.tab.before a s = true := by
  have h5 : Cmp5.tab.before a s = true := unparts (wk h (.code Cmp5.yN Cmp5.yB 7 (some .int))) (wks h (.initialized Cmp5.yN.cls :: Cmp5.site))
  have hc : CodL.tab.before a s = true := unparts (wk h (.code CodL.yN CodL.yB 2 (some .byte))) (wks h (.initialized CodL.yN.cls :: CodL.site))
  have q5 : ∀ w ∈ Cmp5.tab :: words, w.before a s = true := fun w hw => (List.mem_cons.mp hw).elim (fun e => e ▸ h5) (h w)
  have h3 : Cmp3.tab.before a s = true := unparts (wk q5 (.code Cmp3.yN Cmp3.yB 6 (some (.array .byte)))) (wks q5 (.initialized Cmp3.yN.cls :: Cmp3.site))
  have q3 : ∀ w ∈ Cmp3.tab :: CodL.tab :: words, w.before a s = true := fun w hw => (List.mem_cons.mp hw).elim (fun e => e ▸ h3) fun hw => (List.mem_cons.mp hw).elim (fun e => e ▸ hc) (h w)
  have h4 : New4.tab.before a s = true := unparts (wk q3 (.code New4.yN New4.yB 6 none)) (wks q3 (.initialized New4.yN.cls :: New4.site))
  have q4 : ∀ w ∈ New4.tab :: words, w.before a s = true := fun w hw => (List.mem_cons.mp hw).elim (fun e => e ▸ h4) (h w)
  exact unparts (wk q4 (.code New1.yN New1.yB 2 none)) (wks q4 (.initialized New1.yN.cls :: New1.site))
/-- the words ride from the start Z to the walk's own state -/
theorem moved {Z s : State} {a0 args : Array Value} (hZ : Z.Warmed39 s.vm) (hw : ∀ d ∈ words, d.before a0 Z = true) : ∀ d ∈ words, d.before args s = true := fun d hd => by
  have q := hw d hd
  have t : ∀ d ∈ words, d = .arrayClass .byte ∨ (d.onTables && d.keepsFace) = true := by decide +kernel
  rcases t d hd with rfl | t
  · exact RoadKit.mvA hZ q
  · exact RoadKit.mv hZ q t
/-- WHAT COMES BACK, over the tables of the start Z: h the heap at the call, h' behind it -/
def Q (Z : State) (x : Addr) (A : Cell) (h : Heap) (v : Option Value) (h' : Heap) (L : List Loc) : Prop := v = none ∧ (∀ y ∈ L, y.base = x) ∧ RoadKit.Keep h h' [x] ∧ h'.size = h.size + 1 ∧ RoadKit.Exa Z h' x ST ∧ RoadKit.Fld Z h' x ST "value" "[B" (.ref h.size) ∧ RoadKit.Fld Z h' x ST "coder" "B" (.int 0) ∧
  (∃ V : Cell, RoadKit.Arr Z h' h.size V .byte ∧ V.vm = .none ∧ Z.vm.findClass "[B" = some V.cls ∧ V.slots.size = A.slots.size ∧ ∀ j, j < A.slots.size → V.slots[j]? = some (.int (lo8 (cv A j)))) ∧
  ∀ (O n d : String) (w : Value), RoadKit.Fld Z h x O n d w → RoadKit.slotOf Z O n d ≠ RoadKit.slotOf Z ST "value" "[B" → RoadKit.slotOf Z O n d ≠ RoadKit.slotOf Z ST "coder" "B" → RoadKit.Fld Z h' x O n d w
/-- **new String(chars) AT A CALL, IN THE ROAD'S FORM**: for specialBack behind newO: x the fresh String, b the char[] with the cell A -/
theorem back {p : Program} {l : Launch} {e : Env} {R : Room} {s : State} {args : Array Value} {below : List Frame} {len W : Nat} {Z : State} {a0 : Array Value} {h : Heap} (hZ : Z.Warmed39 s.vm) (hw : ∀ d ∈ words, d.before a0 Z = true) {kI : Nat} (wi : (Jvm.Cond.instantiable ST kI).before a0 Z = true)
    {x b : Addr} {A : Cell} {z : Int32} {v0 c0 : Value} (E : RoadKit.Exa Z h x ST) (V : RoadKit.Fld Z h x ST "value" "[B" v0) (C : RoadKit.Fld Z h x ST "coder" "B" c0) (K : RoadKit.Arr Z h b A .char) (hty : Typed .char A) (S : RoadKit.Sta Z h ST "COMPACT_STRINGS" "Z" (.int z)) (hz : ¬ z = 0)
    (l0 : 0 < A.slots.size) (l2 : A.slots.size ≤ 536870912) (hp : ∀ i, i < A.slots.size → ¬ 255 < cv A i) (hfr : 4 ≤ R.frames) (hlo : W + 65 ≤ R.locals) :
    Back l R p e below s args New1.yN len W (fun P a => a = #[.ref x, .ref b] ∧ P.U.heap = h ∧ P.cells + 1 ≤ R.cells ∧ P.slots + A.slots.size ≤ R.slots)
      (fun P _ v B => ∃ L, Q Z x A h v B.U.heap L ∧ B.locs = P.locs ++ L ∧ B.cells = P.cells + 1 ∧ B.slots = P.slots + A.slots.size) := by
  intro m meth c P g ig mk a X hg hsize hdg hW hn hp'
  obtain ⟨rfl, rfl, r1, r2⟩ := hp'
  have al : Z.vm.Alike P.U.vm := hZ.alike.trans X.warmed.alike
  obtain ⟨D, cfV, kV, iV, fV, hD, gV, stV, knV, obV, asV, slV⟩ := id V
  obtain ⟨D', cfC, kC, iC, fC, hD', gC, stC, -, -, asC, slC⟩ := id C
  cases hD.symm.trans hD'
  obtain ⟨D2, kD, e1, e2, e3, e4, e5⟩ := id E
  cases hD.symm.trans e1
  obtain ⟨c2, k2, i1, i2, i3, -⟩ := Cond.instantiable_spec wi
  cases e2.symm.trans i1
  cases e3.symm.trans i2
  obtain ⟨kU, u1, u2⟩ := al.2.2 _ _ e3
  have hB : Blank ST x D P.U := ⟨hD, ⟨knV, fun q hq => by rw [hq] at obV; cases obV⟩, by rw [al.findClass]; exact e2, kU, u1, by rw [u2]; exact i3, by rw [u2]; exact e5 i3⟩
  have F1 : Found ST "value" "[B" fV P.U := ⟨SBG.found_only al ⟨cfV, kV, iV, gV⟩, stV⟩
  have F2 : Found ST "coder" "B" fC P.U := ⟨SBG.found_only al ⟨cfC, kC, iC, gC⟩, stC⟩
  have hA : Ch b A P.U := ⟨⟨K.1, State.isArrayOf_alike al K.2.1, K.2.2, by omega⟩, hty⟩
  have hS : StaticIs P.U ST "COMPACT_STRINGS" "Z" (.int z) := by
    obtain ⟨cfS, iS, kS, fS, st, cS, t1, t2, t3, t4, t5, t6, t7⟩ := S
    exact StaticIs.there (s := { Z with heap := P.U.heap }) ⟨cfS, iS, kS, fS, st, cS, t1, t2, t3, t4, t5, (fun q => by rw [q] at t6; cases t6), t7⟩ al rfl
  obtain ⟨v, B, X', ⟨⟨hv, E', V', q1, q2, q3, q4, q5, q6, q7, q8, q9, q10, q11⟩, hl, hc, hs⟩, st⟩ := New1.pays x D fV fC b A z (tab_of (moved hZ hw)) hfr hlo m meth c P g ig mk _ X hg hsize hdg hW hn ⟨r1, r2, rfl, hB, F1, F2, hA, hS, hz, l0, l2, hp⟩
  have al' : Z.vm.Alike B.U.vm := hZ.alike.trans X'.warmed.alike
  have hsz : E'.slots.size = D.slots.size := by
    obtain ⟨-, -, -, kB, w1, w2, w3⟩ := q1
    obtain ⟨kB', y1, y2⟩ := al'.2.2 _ _ e3
    rw [q2.2.1] at w1
    cases w1.symm.trans y1
    rw [w3, e5 i3, y2]
  refine ⟨v, B, X', ⟨_, ⟨hv, ?_, ⟨by omega, fun y cy hy hn' => q10 y cy (by simpa using hn') hy, fun y cy hy => ?_⟩, q11, ⟨E', _, q1.1, by rw [q2.2.1]; exact e2, by rw [q2.2.1]; exact e3, by rw [q2.1]; exact obV, fun _ => by rw [hsz]; exact e5 i3⟩,
    ⟨E', cfV, kV, iV, fV, q1.1, gV, stV, by rw [q2.1]; exact knV, by rw [q2.1]; exact obV, by rw [q2.2.1]; exact asV, q3⟩, ⟨E', cfC, kC, iC, fC, q1.1, gC, stC, by rw [q2.1]; exact knV, by rw [q2.1]; exact obV, by rw [q2.2.1]; exact asC, q4⟩,
    ⟨V', ⟨q5.1, State.isArrayOf_alike al'.symm q5.2.1, q5.2.2.1⟩, q6, by rw [← al'.findClass]; exact q7, q8, fun j hj => by have := q9 j hj; rwa [Nat.zero_add] at this⟩, fun O n d w F n1 n2 => ?_⟩, hl, hc, hs⟩, st⟩
  · intro y hy
    simp only [List.mem_cons, List.not_mem_nil, or_false] at hy
    rcases hy with rfl | rfl <;> rfl
  · by_cases q : y = x
    · subst q
      cases hD.symm.trans hy
      exact ⟨E', q1.1, q2.2.1, q2.1, hsz⟩
    · exact ⟨cy, q10 y cy q hy, rfl, rfl, rfl⟩
  · obtain ⟨D3, cf, k, i, f, g1, g2, g3, g4, g5, g6, g7⟩ := F
    cases hD.symm.trans g1
    simp only [RoadKit.slotOf, g2, gV, gC, Option.map_some, Option.getD_some] at n1 n2
    exact ⟨E', cf, k, i, f, q1.1, g2, g3, by rw [q2.1]; exact g4, by rw [q2.1]; exact g5, by rw [q2.2.1]; exact g6, by rw [q2.2.2 f.slot (by simp [n1, n2])]; exact g7⟩
end StrChars.Road
namespace StrChars.Road
open Jvm Sem ClassFile Op Lib Jvm.Stand Jvm.Free Jvm.Free.XT
/-- WHAT COMES BACK, the byte[] as a list of values -/
def QA (Z : State) (x : Addr) (zn : Int32) (cs : List Int32) (h : Heap) (v : Option Value) (h' : Heap) (L : List Loc) : Prop := v = none ∧ (∀ y ∈ L, y.base = x) ∧ RoadKit.Keep h h' [x] ∧ h'.size = h.size + 1 ∧ RoadKit.Exa Z h' x ST ∧ RoadKit.Fld Z h' x ST "value" "[B" (.ref h.size) ∧ RoadKit.Fld Z h' x ST "coder" "B" (.int 0) ∧
  (∃ kb, Z.vm.findClass "[B" = some kb ∧ RoadKit.Arv Z h' h.size kb .byte zn (cs.map fun c => .int (lo8 c)) (.int 0)) ∧
  ∀ (O n d : String) (w : Value), RoadKit.Fld Z h x O n d w → RoadKit.slotOf Z O n d ≠ RoadKit.slotOf Z ST "value" "[B" → RoadKit.slotOf Z O n d ≠ RoadKit.slotOf Z ST "coder" "B" → RoadKit.Fld Z h' x O n d w
/-- **new String(chars) AT A CALL, THE ARRAYS AS LISTS**: the char[] at b holds cs, not empty, no char above 255 -/
theorem backArv {p : Program} {l : Launch} {e : Env} {R : Room} {s : State} {args : Array Value} {below : List Frame} {len W : Nat} {Z : State} {a0 : Array Value} {h : Heap} (hZ : Z.Warmed39 s.vm) (hw : ∀ d ∈ words, d.before a0 Z = true) {kI : Nat} (wi : (Jvm.Cond.instantiable ST kI).before a0 Z = true)
    {x b : Addr} {k : ClassId} {zn z : Int32} {cs : List Int32} {dv v0 c0 : Value} (E : RoadKit.Exa Z h x ST) (V : RoadKit.Fld Z h x ST "value" "[B" v0) (C : RoadKit.Fld Z h x ST "coder" "B" c0) (K : RoadKit.Arv Z h b k .char zn (cs.map Value.int) dv) (S : RoadKit.Sta Z h ST "COMPACT_STRINGS" "Z" (.int z)) (hz : ¬ z = 0)
    (hlen : zn.toNatClampNeg = cs.length) (h0 : 0 < cs.length) (hbig : cs.length ≤ 536870912) (hall : ∀ c ∈ cs, ¬ 255 < c) (hfr : 4 ≤ R.frames) (hlo : W + 65 ≤ R.locals) :
    Back l R p e below s args New1.yN len W (fun P a => a = #[.ref x, .ref b] ∧ P.U.heap = h ∧ P.cells + 1 ≤ R.cells ∧ P.slots + cs.length ≤ R.slots)
      (fun P _ v B => ∃ L, QA Z x zn cs h v B.U.heap L ∧ B.locs = P.locs ++ L ∧ B.cells = P.cells + 1 ∧ B.slots = P.slots + cs.length) := by
  obtain ⟨A, K1, K2, K3, K4, K5, K6⟩ := K
  have e : A.slots.size = cs.length := K3.trans hlen
  have hat : ∀ (i : Nat) (hi : i < cs.length), A.slots[i]? = some (.int cs[i]) := fun i hi => by rw [K5 i (by omega)]; simp [List.getD_eq_getElem?_getD, hi]
  have hcv : ∀ (i : Nat) (hi : i < cs.length), cv A i = cs[i] := fun i hi => by unfold cv; rw [hat i hi]
  have hty : Typed .char A := fun i v hv => by
    have hi : i < A.slots.size := (Array.getElem?_eq_some_iff.mp hv).1
    have q := K5 i hi
    rw [hv] at q
    rw [Option.some.inj q]
    exact K6 i hi
  refine Back.mono (back hZ hw wi E V C K1 hty S hz (by omega) (by omega) (fun i hi => by rw [hcv i (by omega)]; exact hall _ (List.getElem_mem _)) hfr hlo) (fun P a hp => ⟨hp.1, hp.2.1, hp.2.2.1, by rw [e]; exact hp.2.2.2⟩) (fun P a v B hp hq => ?_)
  obtain ⟨L, ⟨q1, q2, q3, q4, q5, q6, q7, ⟨V', v1, v2, v3, v4, v5⟩, q9⟩, hl, hc, hs⟩ := hq
  refine ⟨L, ⟨q1, q2, q3, q4, q5, q6, q7, ⟨V'.cls, v3, V', v1, rfl, by rw [v4, e, hlen], K4, fun i hi => ?_, fun i hi => ?_⟩, q9⟩, hl, hc, by rw [hs, e]⟩
  · have hi' : i < cs.length := by omega
    rw [v5 i (by omega), hcv i hi']; simp [List.getD_eq_getElem?_getD, hi']
  · have hi' : i < cs.length := by omega
    simp only [List.getD_eq_getElem?_getD, List.getElem?_map, List.getElem?_eq_getElem hi', Option.map_some, Option.getD_some]
    exact fits_lo8 _
end StrChars.Road
namespace StrChars.Road
open Jvm Sem ClassFile Op Lib Jvm.Stand Jvm.Free Jvm.Free.XT
/-- WHAT COMES BACK, in the writer's own shape -/
def QV (Z : State) (x : Addr) (N : Int32) (bs : List Int32) (h : Heap) (n0 : Nat) (v : Option Value) (h' : Heap) (L : List Loc) : Prop := v = none ∧ RoadKit.Fr n0 L ∧ RoadKit.Keep h h' [x] ∧ RoadKit.Exa Z h' x ST ∧ RoadKit.Fld Z h' x ST "coder" "B" (.int 0) ∧
  ∃ (t : Addr) (kb : ClassId), n0 ≤ t ∧ h.size ≤ t ∧ ¬ t = x ∧ RoadKit.Fld Z h' x ST "value" "[B" (.ref t) ∧ RoadKit.Arv Z h' t kb .byte N (bs.map Value.int) (.int 0)
/-- **new String(chars) AT A CALL, FOR THE WRITER**: a char[] of n known ints, each 0 to 255 -/
theorem backV {p : Program} {l : Launch} {e : Env} {R : Room} {s : State} {args : Array Value} {below : List Frame} {len W : Nat} {Z : State} {a0 : Array Value} {h : Heap} (hZ : Z.Warmed39 s.vm) (hw : ∀ d ∈ words, d.before a0 Z = true) {kI : Nat} (wi : (Jvm.Cond.instantiable ST kI).before a0 Z = true)
    {x b : Addr} {kC : ClassId} {cs bs : List Int32} {d v0 c0 : Value} {z N : Int32} {n n0 : Nat} (hx0 : n0 ≤ x) (hh0 : n0 ≤ h.size) (E : RoadKit.Exa Z h x ST) (V : RoadKit.Fld Z h x ST "value" "[B" v0) (C : RoadKit.Fld Z h x ST "coder" "B" c0) (K : RoadKit.Arv Z h b kC .char N (cs.map Value.int) d) (S : RoadKit.Sta Z h ST "COMPACT_STRINGS" "Z" (.int z)) (hz : ¬ z = 0)
    (hn : cs.length = n) (hN : N = Int32.ofNat n) (l0 : 0 < n) (l2 : n ≤ 4000) (hp : ∀ c ∈ cs, ¬ c < 0 ∧ ¬ (255 : Int32) < c) (hb : bs = cs.map (fun c => c.toInt8.toInt32)) (hfr : 4 ≤ R.frames) (hlo : W + 65 ≤ R.locals) :
    Back l R p e below s args (⟨"java/lang/String", "<init>", "([C)V"⟩ : MethodName) len W (fun P a => a = #[.ref x, .ref b] ∧ P.U.heap = h ∧ P.cells + 1 ≤ R.cells ∧ P.slots + n ≤ R.slots)
      (fun P _ v B => ∃ L, QV Z x N bs h n0 v B.U.heap L ∧ B.locs = P.locs ++ L ∧ B.cells = P.cells + 1 ∧ B.slots = P.slots + n) := by
  subst hn hN hb
  refine Back.mono (backArv hZ hw wi E V C K S hz (n32 (by omega)) l0 (by omega) (fun c hc => (hp c hc).2) hfr hlo) (fun P a hp => hp) (fun P a v B hp hq => ?_)
  obtain ⟨L, ⟨q1, q2, q3, q4, q5, q6, q7, ⟨kb, v1, v2⟩, q9⟩, hl, hc, hs⟩ := hq
  exact ⟨L, ⟨q1, fun y hy => by rw [q2 y hy]; exact hx0, q3, q5, q7, h.size, kb, hh0, Nat.le_refl _, Nat.ne_of_gt E.lt, q6, by rw [List.map_map]; exact v2⟩, hl, hc, hs⟩
end StrChars.Road
end Jvm.Pilot.@@N@@

namespace Jvm.Pilot.@@N@@
open Jvm Jvm.ClassFile Sem Op Lib Jvm.Free Jvm.Stand Jvm.LawKit Jvm.RoadKit Bundle Jvm.Pilot.@@N@@.Jvm.D
namespace Own
section Own
variable {p : Program} {l : Launch} {e : Env} {R : Room} {s : State} {m : MethodId} {args : Array Value} {below : List Frame} {meth : Method} {c : Code} {Z : State} {a0 : Array Value} {EL : List (String × Nat)} {y : MethodName} {bytes : ByteArray} {ml : Nat} {ret : Option FieldType} {w : Bool} {h0 : Heap} {ws ws' : List Addr} {vm0 vm1 : Vm} {T T' : State} {h h' h1 : Heap} {locs locs' : List Loc} {cells slots cells' slots' : Nat} {F : State → Option Value → Prop} {pc pc' : Nat} {Ls Ls' : Array Slot} {rest : List Value} {a b x : Addr}
/-- what is left of a walk: from here it comes to a return of which F is true -/
def Go (p : Program) (e : Env) (below : List Frame) (F : State → Option Value → Prop) (T : State) (g : JFrame) : Prop :=
  ∃ t v, Steps p.tables e below (T.setTop g) t ∧ t.status = .running ∧ Ended t below (.returned v) ∧ F t v
theorem Go.by {g g' : JFrame} (k : Go p e below F T' g') (st : ∀ t, Steps p.tables e below (T'.setTop g') t → Steps p.tables e below (T.setTop g) t) : Go p e below F T g := by
  obtain ⟨t, v, a, b⟩ := k; exact ⟨t, v, st t a, b⟩
theorem Go.imp {g : JFrame} {F' : State → Option Value → Prop} (k : Go p e below F T g) (f : ∀ t v, F t v → F' t v) : Go p e below F' T g := by
  obtain ⟨t, v, a, b, c, d⟩ := k; exact ⟨t, v, a, b, c, f t v d⟩
theorem extK (E : Ext h0 h) (K : Keep h h' ws) (q : ∀ x ∈ ws, h0.size ≤ x) : Ext h0 h' :=
  ⟨Nat.le_trans E.1 K.1, fun a c r => K.2.1 a c (E.2 a c r) fun z => absurd (Array.getElem?_eq_some_iff.mp r).1 (Nat.not_lt.mpr (q a z))⟩
theorem Ext.rfl' (h : Heap) : Ext h h := ⟨Nat.le_refl _, fun _ _ q => q⟩
theorem Ext.tr (E : Ext h h') (E' : Ext h' h1) : Ext h h1 := ⟨Nat.le_trans E.1 E'.1, fun a c q => E'.2 a c (E.2 a c q)⟩
theorem extN (K : Keep h h' []) : Ext h h' := ⟨K.1, fun a c q => K.2.1 a c q nin0⟩
/-- one step of the heap: what is kept; in a walk that may intern, the constants as well -/
def Ev (w : Bool) (Z : State) (EL : List (String × Nat)) (vm0 : Vm) (h : Heap) (vm1 : Vm) (h' : Heap) (ws : List Addr) : Prop := Keep h h' ws ∧ (w = true → CHr Z EL vm0 h vm1 h')
/-- the cell at x may be written -/
def Ok (w : Bool) (Z : State) (EL : List (String × Nat)) (h0 : Heap) (ws : List Addr) (vm0 : Vm) (h : Heap) (x : Addr) : Prop := x < h.size ∧ Z.heap.size ≤ x ∧ (x ∈ ws ∨ h0.size ≤ x) ∧ (w = true → Safe Z EL vm0 h x)
theorem Ok.ev (O : Ok w Z EL h0 ws vm0 h x) (V : Ev w Z EL vm0 h vm1 h' ws') : Ok w Z EL h0 ws vm1 h' x := ⟨Nat.lt_of_lt_of_le O.1 V.1.1, O.2.1, O.2.2.1, fun q => (V.2 q).safe O.1 (O.2.2.2 q)⟩
/-- where a walk stands -/
def Wk (p : Program) (l : Launch) (e : Env) (R : Room) (s : State) (m : MethodId) (args : Array Value) (below : List Frame) (meth : Method) (c : Code) (Z : State) (a0 : Array Value) (EL : List (String × Nat)) (y : MethodName) (bytes : ByteArray) (ml : Nat) (ret : Option FieldType) (w : Bool) (h0 : Heap) (ws : List Addr) (vm0 : Vm) (T : State) (h : Heap) (locs : List Loc) (cells slots : Nat) : Prop :=
  (p.tables.exec = Jvm.exec ∧ c.code = bytes ∧ c.maxLocals = ml ∧ meth.sig.returnType = ret ∧ meth.locks = false ∧ meth.name = y.name ∧ EW Z a0 EL) ∧
  Stand p l e R (s.setVm vm0) m args below meth c T locs cells slots ∧ Z.Warmed39 vm0 ∧ vm0.findClass y.cls = some m.cls ∧ T.heap = h ∧ (∃ k0, s.Since vm0 k0 ∧ k0 ≤ h.size) ∧ (w = false → vm0 = s.vm) ∧ Fr Z.heap.size locs ∧ Ext Z.heap h ∧ Keep h0 h ws ∧ (w = true → CHr Z EL s.vm h0 vm0 h)
theorem Wk.hx (X : Wk p l e R s m args below meth c Z a0 EL y bytes ml ret w h0 ws vm0 T h locs cells slots) : p.tables.exec = Jvm.exec := X.1.1
theorem Wk.hby (X : Wk p l e R s m args below meth c Z a0 EL y bytes ml ret w h0 ws vm0 T h locs cells slots) : c.code = bytes := X.1.2.1
theorem Wk.hml (X : Wk p l e R s m args below meth c Z a0 EL y bytes ml ret w h0 ws vm0 T h locs cells slots) : c.maxLocals = ml := X.1.2.2.1
theorem Wk.hret (X : Wk p l e R s m args below meth c Z a0 EL y bytes ml ret w h0 ws vm0 T h locs cells slots) : meth.sig.returnType = ret := X.1.2.2.2.1
theorem Wk.hlk (X : Wk p l e R s m args below meth c Z a0 EL y bytes ml ret w h0 ws vm0 T h locs cells slots) : meth.locks = false := X.1.2.2.2.2.1
theorem Wk.hnm (X : Wk p l e R s m args below meth c Z a0 EL y bytes ml ret w h0 ws vm0 T h locs cells slots) : meth.name = y.name := X.1.2.2.2.2.2.1
theorem Wk.hEW (X : Wk p l e R s m args below meth c Z a0 EL y bytes ml ret w h0 ws vm0 T h locs cells slots) : EW Z a0 EL := X.1.2.2.2.2.2.2
theorem Wk.st (X : Wk p l e R s m args below meth c Z a0 EL y bytes ml ret w h0 ws vm0 T h locs cells slots) : Stand p l e R (s.setVm vm0) m args below meth c T locs cells slots := X.2.1
theorem Wk.hZ (X : Wk p l e R s m args below meth c Z a0 EL y bytes ml ret w h0 ws vm0 T h locs cells slots) : Z.Warmed39 (s.setVm vm0).vm := X.2.2.1
theorem Wk.hown (X : Wk p l e R s m args below meth c Z a0 EL y bytes ml ret w h0 ws vm0 T h locs cells slots) : (s.setVm vm0).vm.findClass y.cls = some m.cls := X.2.2.2.1
theorem Wk.hT (X : Wk p l e R s m args below meth c Z a0 EL y bytes ml ret w h0 ws vm0 T h locs cells slots) : T.heap = h := X.2.2.2.2.1
theorem Wk.hS (X : Wk p l e R s m args below meth c Z a0 EL y bytes ml ret w h0 ws vm0 T h locs cells slots) : ∃ k0, s.Since vm0 k0 ∧ k0 ≤ h.size := X.2.2.2.2.2.1
theorem Wk.hv (X : Wk p l e R s m args below meth c Z a0 EL y bytes ml ret w h0 ws vm0 T h locs cells slots) : w = false → vm0 = s.vm := X.2.2.2.2.2.2.1
theorem Wk.hN (X : Wk p l e R s m args below meth c Z a0 EL y bytes ml ret w h0 ws vm0 T h locs cells slots) : Fr Z.heap.size locs := X.2.2.2.2.2.2.2.1
theorem Wk.hE (X : Wk p l e R s m args below meth c Z a0 EL y bytes ml ret w h0 ws vm0 T h locs cells slots) : Ext Z.heap h := X.2.2.2.2.2.2.2.2.1
theorem Wk.hK (X : Wk p l e R s m args below meth c Z a0 EL y bytes ml ret w h0 ws vm0 T h locs cells slots) : Keep h0 h ws := X.2.2.2.2.2.2.2.2.2.1
theorem Wk.hC (X : Wk p l e R s m args below meth c Z a0 EL y bytes ml ret w h0 ws vm0 T h locs cells slots) : w = true → CHr Z EL s.vm h0 vm0 h := X.2.2.2.2.2.2.2.2.2.2
theorem Wk.chv (X : Wk p l e R s m args below meth c Z a0 EL y bytes ml ret w h0 ws vm0 T h locs cells slots) (q : w = true) : CHv Z EL vm0 h := (X.hC q).1
theorem Wk.move (X : Wk p l e R s m args below meth c Z a0 EL y bytes ml ret w h0 ws vm0 T h locs cells slots) (St : Stand p l e R (s.setVm vm1) m args below meth c T' locs' cells' slots') (hZ : Z.Warmed39 vm1) (ho : vm1.findClass y.cls = some m.cls) (hT : T'.heap = h') (hS : ∃ k0, s.Since vm1 k0 ∧ k0 ≤ h'.size) (hv : w = false → vm1 = s.vm) (N : Fr Z.heap.size locs') (V : Ev w Z EL vm0 h vm1 h' ws') (q : ∀ x ∈ ws', Z.heap.size ≤ x ∧ (x ∈ ws ∨ h0.size ≤ x)) :
    Wk p l e R s m args below meth c Z a0 EL y bytes ml ret w h0 ws vm1 T' h' locs' cells' slots' :=
  ⟨X.1, St, hZ, ho, hT, hS, hv, N, extK X.hE V.1 fun x hx => (q x hx).1, X.hK.trans V.1 fun x hx => (q x hx).2, fun r => (X.hC r).trans (V.2 r)⟩
theorem Wk.since (X : Wk p l e R s m args below meth c Z a0 EL y bytes ml ret w h0 ws vm0 T h locs cells slots) (hg : h.size ≤ h'.size) : ∃ k0, s.Since vm0 k0 ∧ k0 ≤ h'.size := by obtain ⟨k, a, b⟩ := X.hS; exact ⟨k, a, Nat.le_trans b hg⟩
theorem Wk.same (X : Wk p l e R s m args below meth c Z a0 EL y bytes ml ret w h0 ws vm0 T h locs cells slots) (St : Stand p l e R (s.setVm vm0) m args below meth c T' locs' cells' slots') (hT : T'.heap = h') (N : Fr Z.heap.size locs') (V : Ev w Z EL vm0 h vm0 h' ws') (q : ∀ x ∈ ws', Z.heap.size ≤ x ∧ (x ∈ ws ∨ h0.size ≤ x)) :
    Wk p l e R s m args below meth c Z a0 EL y bytes ml ret w h0 ws vm0 T' h' locs' cells' slots' := X.move St X.hZ X.hown hT (X.since V.1.1) X.hv N V q
theorem Wk.evR (X : Wk p l e R s m args below meth c Z a0 EL y bytes ml ret w h0 ws vm0 T h locs cells slots) : Ev w Z EL vm0 h vm0 h [] := ⟨Keep.refl _ _, fun q => CHr.refl (X.chv q)⟩
theorem Wk.evE (X : Wk p l e R s m args below meth c Z a0 EL y bytes ml ret w h0 ws vm0 T h locs cells slots) (E : Ext h h') : Ev w Z EL vm0 h vm0 h' [] := ⟨(Keep.refl _ _).ext E, fun q => CHr.ext E (X.chv q)⟩
theorem Wk.evW {sl : Nat} {v : Value} (X : Wk p l e R s m args below meth c Z a0 EL y bytes ml ret w h0 ws vm0 T h locs cells slots) (W : Wr h h' a sl v) (O : Ok w Z EL h0 ws vm0 h a) : Ev w Z EL vm0 h vm0 h' [a] := ⟨Keep.of_wr W, fun q => CHr.wr W (O.2.2.2 q) (X.chv q)⟩
theorem Wk.evK (X : Wk p l e R s m args below meth c Z a0 EL y bytes ml ret w h0 ws vm0 T h locs cells slots) (K : Keep h h' ws') (q : ∀ x ∈ ws', Ok w Z EL h0 ws vm0 h x) : Ev w Z EL vm0 h vm0 h' ws' := ⟨K, fun r => CHr.keep K (fun x hx => (q x hx).2.2.2 r) (X.chv r)⟩
theorem Ok.two (q : ∀ x ∈ ws', Ok w Z EL h0 ws vm0 h x) : ∀ x ∈ ws', Z.heap.size ≤ x ∧ (x ∈ ws ∨ h0.size ≤ x) := fun x hx => ⟨(q x hx).2.1, (q x hx).2.2.1⟩
theorem Ok.one (O : Ok w Z EL h0 ws vm0 h a) : ∀ x ∈ [a], Ok w Z EL h0 ws vm0 h x := fun x hx => by cases List.mem_singleton.mp hx; exact O
theorem Ok.nil : ∀ x ∈ ([] : List Addr), Ok w Z EL h0 ws vm0 h x := fun _ q => nomatch q
theorem two0 : ∀ x ∈ ([] : List Addr), Z.heap.size ≤ x ∧ (x ∈ ws ∨ h0.size ≤ x) := fun _ q => nomatch q
theorem Wk.mono (X : Wk p l e R s m args below meth c Z a0 EL y bytes ml ret w h0 ws vm0 T h locs cells slots) (hc : cells ≤ cells') (hs : slots ≤ slots') : Wk p l e R s m args below meth c Z a0 EL y bytes ml ret w h0 ws vm0 T h locs cells' slots' :=
  ⟨X.1, X.st.more hc hs, X.2.2⟩
/-- the new cell at the heap's end may be written -/
theorem Wk.okNew (X : Wk p l e R s m args below meth c Z a0 EL y bytes ml ret w h0 ws vm0 T h locs cells slots) (E : Ext h h') (hlt : h.size < h'.size) : Ok w Z EL h0 ws vm0 h' h.size := ⟨hlt, X.hE.1, Or.inr X.hK.1, fun q => Safe.ext E (X.chv q) (Safe.new (Nat.le_refl _))⟩
/-! returns -/
def Done (w : Bool) (Z : State) (EL : List (String × Nat)) (rm : Room) (s : State) (h0 : Heap) (ws : List Addr) (P : Option Value → Heap → Prop) (t : State) (v : Option Value) : Prop :=
  ∃ L, (Fr Z.heap.size L ∧ Keep h0 t.heap ws ∧ P v t.heap) ∧ (w = true → CHr Z EL s.vm h0 t.vm t.heap) ∧ ReturnedEndW s (.returned v) t L rm.cells rm.slots ∧ (w = false → FrameEnd s (.returned v) t L rm.cells rm.slots)
theorem r_end {rm : Room} {P : Option Value → Heap → Prop} {g : JFrame} (X : Wk p l e R s m args below meth c Z a0 EL y bytes ml ret w h0 ws vm0 T h locs cells slots) (v : Option Value) (hv : ret = none → v = none) (hc : cells ≤ rm.cells) (hs : slots ≤ rm.slots) (hP : P v h)
    (st : ∀ fs, (∀ (f : JFrame) (acts : List Action), f.method = m → f.locked = none → f.entered = [] → (doReturn e (T.setTop f) acts v).1 = T.setFrames fs) → Steps p.tables e below (T.setTop g) (T.setFrames fs)) :
    Go p e below (Done w Z EL rm s h0 ws P) T g := by
  have hT := X.hT
  have hlk := X.hlk
  have hv' : meth.sig.returnType = none → v = none := fun q => hv (X.hret.symm.trans q)
  have hC : w = true → CHr Z EL s.vm h0 T.vm h := fun q => (X.hC q).trans (CHv.at X.st X.hZ X.hEW (X.chv q))
  cases w with
  | false =>
    have e0 := X.hv rfl
    subst e0
    have X1 : Stand p l e R s m args below meth c T locs cells slots := X.st
    obtain ⟨fs, h1, h2, h3, h4, h5⟩ := X1.leave (v := v) hv'
    refine ⟨T.setFrames fs, v, st fs h1, h2, h3, locs, ⟨X.hN, ?_, ?_⟩, nofun, ReturnedEndW.of_narrow ⟨v, rfl⟩ h4 (h5.mono hc hs), fun _ => ⟨⟨v, rfl⟩, h4, h5.mono hc hs⟩⟩
    · show Keep h0 T.heap ws; rw [hT]; exact X.hK
    · show P v T.heap; rw [hT]; exact hP
  | true =>
    obtain ⟨k0, k1, k2⟩ := X.hS
    obtain ⟨fs, h1, h2, h3, h4, h5, h6, h7⟩ := X.st.leaveW k1 (by rw [hT]; exact k2) (v := v) hv'
    refine ⟨T.setFrames fs, v, st fs h1, h2, h3, locs, ⟨X.hN, ?_, ?_⟩, fun q => ?_, ⟨h4, h5, h6, h7.mono hc hs⟩, nofun⟩
    · show Keep h0 T.heap ws; rw [hT]; exact X.hK
    · show P v T.heap; rw [hT]; exact hP
    · show CHr Z EL s.vm h0 T.vm T.heap; rw [hT]; exact hC q
theorem r_void {rm : Room} {P : Option Value → Heap → Prop} (X : Wk p l e R s m args below meth c Z a0 EL y bytes ml ret w h0 ws vm0 T h locs cells slots) (hr : ret = none) (hd : decode bytes pc = .ok (.return_, 1)) (hc : cells ≤ rm.cells) (hs : slots ≤ rm.slots) (hP : P none h) : Go p e below (Done w Z EL rm s h0 ws P) T (mkF m pc Ls []) :=
  r_end X none (fun _ => rfl) hc hs hP fun fs hl => X.st.returnOut X.hx (X.hret.trans hr) (hb X.hby hd) hl
theorem r_int {rm : Room} {P : Option Value → Heap → Prop} {z : Int32} (X : Wk p l e R s m args below meth c Z a0 EL y bytes ml ret w h0 ws vm0 T h locs cells slots) (hr : ret = some .int) (hd : decode bytes pc = .ok (.ireturn, 1)) (hc : cells ≤ rm.cells) (hs : slots ≤ rm.slots) (hP : P (some (.int z)) h) : Go p e below (Done w Z EL rm s h0 ws P) T (mkF m pc Ls (.int z :: rest)) :=
  r_end X (some (.int z)) (fun q => by rw [hr] at q; cases q) hc hs hP fun fs hl => retOut X.st X.hx (X.hret.trans hr) rfl (Or.inl ⟨rfl, Or.inl rfl, z, rfl⟩) (hb X.hby hd) hl
theorem r_nar {rm : Room} {P : Option Value → Heap → Prop} {z : Int32} {t : FieldType} (X : Wk p l e R s m args below meth c Z a0 EL y bytes ml ret w h0 ws vm0 T h locs cells slots) (hr : ret = some t) (ht : t = .boolean ∨ t = .byte ∨ t = .char ∨ t = .short) (hd : decode bytes pc = .ok (.ireturn, 1)) (hc : cells ≤ rm.cells) (hs : slots ≤ rm.slots) (hP : P (some (.int (nar t z))) h) : Go p e below (Done w Z EL rm s h0 ws P) T (mkF m pc Ls (.int z :: rest)) :=
  r_end X (some (.int (nar t z))) (fun q => by rw [hr] at q; cases q) hc hs hP fun fs hl => retN X.st X.hx (X.hret.trans hr) ht (hb X.hby hd) hl
theorem r_ref {rm : Room} {P : Option Value → Heap → Prop} {v : Value} {t : FieldType} (X : Wk p l e R s m args below meth c Z a0 EL y bytes ml ret w h0 ws vm0 T h locs cells slots) (hr : ret = some t) (ht : t.isReference = true) (hv : v.isRef = true) (hd : decode bytes pc = .ok (.areturn, 1)) (hc : cells ≤ rm.cells) (hs : slots ≤ rm.slots) (hP : P (some v) h) : Go p e below (Done w Z EL rm s h0 ws P) T (mkF m pc Ls (v :: rest)) :=
  r_end X (some v) (fun q => by rw [hr] at q; cases q) hc hs hP fun fs hl => retOut X.st X.hx (X.hret.trans hr) (by cases t <;> first | rfl | cases ht) (Or.inr (Or.inr (Or.inr (Or.inr ⟨rfl, ht, hv⟩)))) (hb X.hby hd) hl
/-! contracts -/
def Ctr (w : Bool) (l : Launch) (Z : State) (a0 : Array Value) (EL : List (String × Nat)) (y : MethodName) (bytes : ByteArray) (ml : Nat) (ret : Option FieldType) (rm : Room) (as : Array Value) (h0 : Heap) (ws : List Addr) (P : Option Value → Heap → Prop) : Prop :=
  ∀ cs : List Jvm.Cond, MetFree l y (head1 (Jvm.Cond.code y bytes ml ret :: cs) rm) (fun a U => a = as ∧ Z.Warmed39 U.vm ∧ U.heap = h0 ∧ (w = true → CHv Z EL U.vm h0 ∧ ∀ x ∈ ws, Safe Z EL U.vm h0 x)) (fun _ _ _ _ _ => True) (fun _ U o U' => ∃ v, o = .returned v ∧ Done w Z EL rm U h0 ws P U' v)
theorem Ctr.of {rm : Room} {as : Array Value} {P : Option Value → Heap → Prop} (hpn : plainFor y = true) (ef : ∀ m, entryFrame m as ml = mkF m 0 Ls []) (hE : Ext Z.heap h0) (hEW : EW Z a0 EL)
    (body : ∀ (p : Program) (e : Env) (s : State) (m : MethodId) (below : List Frame) (meth : Method) (c : Code) (T : State), Wk p l e rm s m as below meth c Z a0 EL y bytes ml ret w h0 ws s.vm T h0 [] 0 0 → (w = true → ∀ x ∈ ws, Safe Z EL s.vm h0 x) → Go p e below (Done w Z EL rm s h0 ws P) T (mkF m 0 Ls [])) :
    Ctr w l Z a0 EL y bytes ml ret rm as h0 ws P := by
  intro cs
  refine MetFree.of_bodySF hpn hisR ?_
  intro p e s m args below meth c s₁ Bd hml hP hK
  obtain ⟨rfl, hZ, hh, hC⟩ := hP
  have e0 : s₁.heap = h0 := by rw [← hh, Bd.state]; rfl
  have hS : s.Since s.vm s.heap.size := (State.WarmedH.refl s).since _
  obtain ⟨t, v, st, r1, r2, q⟩ := body p e s m below meth c s₁ ⟨⟨Bd.exec, Bd.bytes, hml, Bd.returns, Bd.notSynchronized, (name_of_methodNamed Bd.named Bd.method).1, hEW⟩, Stand.of_body Bd, hZ, findClass_of_methodNamed Bd.named, e0, ⟨_, hS, by rw [hh]; exact Nat.le_refl _⟩, fun _ => rfl, Fr.nil _, hE, Keep.refl _ _, fun q => CHr.refl (hC q).1⟩ (fun q => (hC q).2)
  exact ⟨t, .returned v, castTop (ef m) st, r1, r2, v, rfl, q⟩
theorem Ctr.back {w' : Bool} {y' : MethodName} {bytes' : ByteArray} {ml' : Nat} {ret' : Option FieldType} {rm : Room} {as : Array Value} {P : Option Value → Heap → Prop} {len W : Nat} (hw : w' = false) (H : Ctr w' l Z a0 EL y' bytes' ml' ret' rm as h ws' P) (hZ : Z.Warmed39 s.vm) (wc : (Jvm.Cond.code y' bytes' ml' ret').before a0 Z = true) (wz : (Jvm.Cond.initialized y'.cls).before a0 Z = true) (hf : rm.frames + 1 ≤ R.frames) (hl : W + (ml' + 11) + rm.locals ≤ R.locals) :
    Back l R p e below s args y' len W (fun A a => a = as ∧ A.U.heap = h ∧ A.cells + rm.cells ≤ R.cells ∧ A.slots + rm.slots ≤ R.slots) (fun A _ v B => ∃ L, (Fr Z.heap.size L ∧ Keep h B.U.heap ws' ∧ P v B.U.heap) ∧ B.locs = A.locs ++ L ∧ B.cells = A.cells + rm.cells ∧ B.slots = A.slots + rm.slots) := by
  subst hw
  refine backOf (Q := fun v h' L => Fr Z.heap.size L ∧ Keep h h' ws' ∧ P v h') (fun p e ha hc hk s m args below hf happ hP hK => ?_) hZ wc wz hf hl
  obtain ⟨n, o, r1, r2, r3, v, rfl, L, q1, -, -, q4⟩ := H [] p e ha hc hk s m args below hf happ ⟨hP.1, hP.2.1, hP.2.2, nofun⟩ hK
  exact ⟨n, _, r1, r2, r3, v, L, rfl, q1, q4 rfl⟩
theorem Ctr.backS {w' : Bool} {y' : MethodName} {bytes' : ByteArray} {ml' : Nat} {ret' : Option FieldType} {rm : Room} {as : Array Value} {P : Option Value → Heap → Prop} {len W : Nat} (hw : w' = true) (H : Ctr w' l Z a0 EL y' bytes' ml' ret' rm as h ws' P) (hZ : Z.Warmed39 vm0) (wc : (Jvm.Cond.code y' bytes' ml' ret').before a0 Z = true) (wz : (Jvm.Cond.initialized y'.cls).before a0 Z = true) (hf : rm.frames + 1 ≤ R.frames) (hl : W + (ml' + 11) + rm.locals ≤ R.locals) (hEL : EW Z a0 EL) (hC : CHv Z EL vm0 h) (hs : ∀ x ∈ ws', x < h.size ∧ Safe Z EL vm0 h x) :
    BackS l R p e below (s.setVm vm0) args y' len W (fun A a => a = as ∧ A.U.heap = h ∧ A.cells + rm.cells ≤ R.cells ∧ A.slots + rm.slots ≤ R.slots) (fun A _ v B => ∃ L, (Fr Z.heap.size L ∧ Keep h B.U.heap ws' ∧ P v B.U.heap ∧ CHr Z EL vm0 h B.U.vm B.U.heap) ∧ B.locs = A.locs ++ L ∧ B.cells = A.cells + rm.cells ∧ B.slots = A.slots + rm.slots) := by
  subst hw
  refine BackS.of_freeW (bytes := bytes') (maxL := ml') (ret := ret') (E := fun _ first o t L k n => k = rm.cells ∧ n = rm.slots ∧ (∃ v, o = .returned v ∧ Fr Z.heap.size L ∧ Keep h t.heap ws' ∧ P v t.heap) ∧ CHr Z EL first.vm h t.vm t.heap) (H []) hf hl ?_ ?_ (fun _ _ _ _ _ _ _ _ _ => trivial) ?_ ?_
  · intro m meth c A a Y hp
    have hU : Z.Warmed39 A.U.vm := wtrans (s := s.setVm vm0) hZ Y.warmed
    exact ⟨by show (Cond.and _ .tt).before a A.U = true; rw [Cond.before_and, mv hU wc]; rfl, mv hU wc, mv hU wz, hp.2.2.1, hp.2.2.2⟩
  · intro m meth c A a g mk Y hp
    have q := CHv.at Y hZ hEL hC
    exact ⟨hp.1, wtrans (s := s.setVm vm0) hZ Y.warmed, hp.2.1, fun _ => ⟨q.1, fun x hx => q.safe (hs x hx).1 (hs x hx).2⟩⟩
  · intro a first o t hq
    obtain ⟨v, rfl, L, q1, q2, q3, -⟩ := hq
    exact ⟨L, _, _, q3, rfl, rfl, ⟨v, rfl, q1⟩, q2 rfl⟩
  · intro m meth c A a g mk v t L k n Y hp _ _ hE
    obtain ⟨e1, e2, ⟨v', e3, e4⟩, e5⟩ := hE
    cases e3; subst e1 e2
    exact ⟨L, ⟨e4.1, e4.2.1, e4.2.2, (CHv.at Y hZ hEL hC).trans e5⟩, rfl, rfl, rfl⟩
/-! behind a call -/
theorem goB {G : Option Value → JFrame} {g : JFrame} {v : Option Value} {B : Pt} {Q : Option Value → Heap → List Loc → Prop} {P : Option Value → Heap → Prop} {cc ss : Nat} (X : Wk p l e R s m args below meth c Z a0 EL y bytes ml ret w h0 ws vm0 T h locs cells slots) (X' : Stand p l e R (s.setVm vm0) m args below meth c B.U B.locs B.cells B.slots)
    (hq : ∃ L, Q v B.U.heap L ∧ B.locs = locs ++ L ∧ B.cells = cells + cc ∧ B.slots = slots + ss) (st : Steps p.tables e below (T.setTop g) (B.U.setTop (G v))) (hQ : ∀ v h' L, Q v h' L → Fr Z.heap.size L ∧ Keep h h' ws' ∧ P v h') (hok : ∀ x ∈ ws', Ok w Z EL h0 ws vm0 h x)
    (k : ∀ v vm1 T' h' L, Wk p l e R s m args below meth c Z a0 EL y bytes ml ret w h0 ws vm1 T' h' (locs ++ L) (cells + cc) (slots + ss) → Ev w Z EL vm0 h vm1 h' ws' → P v h' → Go p e below F T' (G v)) : Go p e below F T g := by
  obtain ⟨L, q, e1, e2, e3⟩ := hq
  obtain ⟨n, K, hP⟩ := hQ _ _ _ q
  rw [e1, e2, e3] at X'
  have V := X.evK K hok
  exact (k v vm0 B.U B.U.heap L (X.same X' rfl (X.hN.app n) V (Ok.two hok)) V hP).by fun t r => st.trans r
theorem goS {G : Option Value → JFrame} {g : JFrame} {v : Option Value} {B : Pt} {P : Option Value → Heap → Prop} {cc ss : Nat} (hw : w = true) (X : Wk p l e R s m args below meth c Z a0 EL y bytes ml ret w h0 ws vm0 T h locs cells slots) (X' : Stand p l e R ((s.setVm vm0).setVm B.U.vm) m args below meth c B.U B.locs B.cells B.slots) (hS : (s.setVm vm0).Since B.U.vm B.U.heap.size) (hg : T.heap.size ≤ B.U.heap.size)
    (hq : ∃ L, (Fr Z.heap.size L ∧ Keep h B.U.heap ws' ∧ P v B.U.heap ∧ CHr Z EL vm0 h B.U.vm B.U.heap) ∧ B.locs = locs ++ L ∧ B.cells = cells + cc ∧ B.slots = slots + ss) (st : Steps p.tables e below (T.setTop g) (B.U.setTop (G v))) (hok : ∀ x ∈ ws', Ok w Z EL h0 ws vm0 h x)
    (k : ∀ v vm1 T' h' L, Wk p l e R s m args below meth c Z a0 EL y bytes ml ret w h0 ws vm1 T' h' (locs ++ L) (cells + cc) (slots + ss) → Ev w Z EL vm0 h vm1 h' ws' → P v h' → Go p e below F T' (G v)) : Go p e below F T g := by
  obtain ⟨L, ⟨n, K, hP, hC⟩, e1, e2, e3⟩ := hq
  rw [e1, e2, e3] at X'
  have V : Ev w Z EL vm0 h B.U.vm B.U.heap ws' := ⟨K, fun _ => hC⟩
  obtain ⟨k0, k1, k2⟩ := X.hS
  rw [X.hT] at hg
  have hZ : Z.Warmed39 B.U.vm := State.Warmed39.trans (t := s.setVm vm0) X.hZ hS.1
  refine (k v B.U.vm B.U B.U.heap L (X.move X' hZ ?_ rfl ⟨_, k1.trans hS (Nat.le_trans k2 hg), Nat.le_refl _⟩ (fun q => by rw [hw] at q; cases q) (X.hN.app n) V (Ok.two hok)) V hP).by fun t r => st.trans r
  rw [hS.1.alike.findClass]; exact X.hown
/-- never MethodHandle or VarHandle -/
abbrev Pl (y : MethodName) : Prop := y.cls ≠ "java/lang/invoke/MethodHandle" ∧ y.cls ≠ "java/lang/invoke/VarHandle"
section Calls
variable {y' z' : MethodName} {bytes' : ByteArray} {ml' idx W : Nat} {ret' : Option FieldType} {rm : Room} {P : Option Value → Heap → Prop} {w' : Bool} {S argsL : List Value} {Q : Option Value → Heap → List Loc → Prop} {cc ss : Nat} {C : String}
/-! calls paid by a Back -/
theorem b_static (X : Wk p l e R s m args below meth c Z a0 EL y bytes ml ret w h0 ws vm0 T h locs cells slots) (hd : decode bytes pc = .ok (.invokestatic idx, 3)) (w1 : (Jvm.Cond.methodLink y.cls idx y').before a0 Z = true) (w2 : (Jvm.Cond.static y').before a0 Z = true) (w3 : (Jvm.Cond.initialized y'.cls).before a0 Z = true) (w4 : (Jvm.Cond.code y' bytes' ml' ret').before a0 Z = true) (hy : Pl y')
    (argsL rest : List Value) (B : Back l R p e below (s.setVm vm0) args y' 3 W (fun A a => a = argsL.toArray ∧ A.U.heap = h ∧ A.cells + cc ≤ R.cells ∧ A.slots + ss ≤ R.slots) (fun A _ v B => ∃ L, Q v B.U.heap L ∧ B.locs = A.locs ++ L ∧ B.cells = A.cells + cc ∧ B.slots = A.slots + ss))
    (hQ : ∀ v h' L, Q v h' L → Fr Z.heap.size L ∧ Keep h h' ws' ∧ P v h') (hok : ∀ x ∈ ws', Ok w Z EL h0 ws vm0 h x) (hlen : ∀ sig, parseMethodDescriptor y'.desc = some sig → argsL.length = sig.parameters.length) (hS : S = argsL.reverse ++ rest) (hW : (rest.map fun v => v.category).sum ≤ W) (hc : cells + cc ≤ R.cells) (hs : slots + ss ≤ R.slots) (hsz : Ls.size = ml) (hp : pc + 3 = pc')
    (k : ∀ v vm1 T' h' L, Wk p l e R s m args below meth c Z a0 EL y bytes ml ret w h0 ws vm1 T' h' (locs ++ L) (cells + cc) (slots + ss) → Ev w Z EL vm0 h vm1 h' ws' → P v h' → Go p e below F T' (mkF m pc' Ls (v.toList ++ rest))) : Go p e below F T (mkF m pc Ls S) := by
  subst hp hS
  obtain ⟨v, vm, B, -, X', hq, st⟩ := Jvm.LawKit.callS X.st X.hx X.hown (mvT X.hZ w1) (mvT X.hZ w2) (mvT X.hZ w3) (mvT X.hZ w4) hy B (g := mkF m pc Ls (argsL.reverse ++ rest)) rfl (hsz.trans X.hml.symm) hlen rfl (by show 2 * 0 + _ ≤ _; omega) (hb X.hby hd) (fun _ _ => ⟨rfl, X.hT, hc, hs⟩)
  exact goB X X' hq (st _ (Steps.refl _)) hQ hok k
theorem b_special (X : Wk p l e R s m args below meth c Z a0 EL y bytes ml ret w h0 ws vm0 T h locs cells slots) (hd : decode bytes pc = .ok (.invokespecial idx, 3)) (hn : y'.name = "<init>") (w1 : (Jvm.Cond.methodLink y.cls idx y').before a0 Z = true) (w2 : (Jvm.Cond.instanceMethod y').before a0 Z = true) (w4 : (Jvm.Cond.code y' bytes' ml' none).before a0 Z = true) (hy : Pl y')
    (a : Addr) (argsL rest : List Value) (B : Back l R p e below (s.setVm vm0) args y' 3 W (fun A a' => a' = (.ref a :: argsL).toArray ∧ A.U.heap = h ∧ A.cells + cc ≤ R.cells ∧ A.slots + ss ≤ R.slots) (fun A _ v B => ∃ L, Q v B.U.heap L ∧ B.locs = A.locs ++ L ∧ B.cells = A.cells + cc ∧ B.slots = A.slots + ss))
    (hQ : ∀ v h' L, Q v h' L → Fr Z.heap.size L ∧ Keep h h' ws' ∧ P v h') (hok : ∀ x ∈ ws', Ok w Z EL h0 ws vm0 h x) (hlen : ∀ sig, parseMethodDescriptor y'.desc = some sig → argsL.length = sig.parameters.length) (hS : S = argsL.reverse ++ .ref a :: rest) (hW : (rest.map fun v => v.category).sum ≤ W) (hc : cells + cc ≤ R.cells) (hs : slots + ss ≤ R.slots) (hsz : Ls.size = ml) (hp : pc + 3 = pc')
    (k : ∀ v vm1 T' h' L, Wk p l e R s m args below meth c Z a0 EL y bytes ml ret w h0 ws vm1 T' h' (locs ++ L) (cells + cc) (slots + ss) → Ev w Z EL vm0 h vm1 h' ws' → P v h' → Go p e below F T' (mkF m pc' Ls (v.toList ++ rest))) : Go p e below F T (mkF m pc Ls S) := by
  subst hp hS
  obtain ⟨v, vm, B, -, X', hq, st⟩ := X.st.specialBack X.hx hn X.hown (mvT X.hZ w1) (mvT X.hZ w2) (mvT X.hZ w4) hy B (g := mkF m pc Ls (argsL.reverse ++ .ref a :: rest)) rfl (hsz.trans X.hml.symm) (Steps.refl _) hlen rfl (by show 2 * 0 + _ ≤ _; omega) (hb X.hby hd) (fun _ _ => ⟨rfl, X.hT, hc, hs⟩)
  exact goB X X' hq st hQ hok k
theorem b_virtual (X : Wk p l e R s m args below meth c Z a0 EL y bytes ml ret w h0 ws vm0 T h locs cells slots) (hd : decode bytes pc = .ok (.invokevirtual idx, 3)) (w1 : (Jvm.Cond.methodLink y.cls idx y').before a0 Z = true) (w2 : (Jvm.Cond.declares y').before a0 Z = true) (hnf : NotFace (s.setVm vm0) y') (w3 : (Jvm.Cond.selects C y' z').before a0 Z = true) (w4 : (Jvm.Cond.instanceMethod z').before a0 Z = true) (hy : Pl y')
    (a : Addr) (argsL rest : List Value) (E : Exa Z h a C) (B : Back l R p e below (s.setVm vm0) args z' 3 W (fun A a' => a' = (.ref a :: argsL).toArray ∧ A.U.heap = h ∧ A.cells + cc ≤ R.cells ∧ A.slots + ss ≤ R.slots) (fun A _ v B => ∃ L, Q v B.U.heap L ∧ B.locs = A.locs ++ L ∧ B.cells = A.cells + cc ∧ B.slots = A.slots + ss))
    (hQ : ∀ v h' L, Q v h' L → Fr Z.heap.size L ∧ Keep h h' ws' ∧ P v h') (hok : ∀ x ∈ ws', Ok w Z EL h0 ws vm0 h x) (hlen : ∀ sig, parseMethodDescriptor y'.desc = some sig → argsL.length = sig.parameters.length) (hS : S = argsL.reverse ++ .ref a :: rest) (hW : (rest.map fun v => v.category).sum ≤ W) (hc : cells + cc ≤ R.cells) (hs : slots + ss ≤ R.slots) (hsz : Ls.size = ml) (hp : pc + 3 = pc')
    (k : ∀ v vm1 T' h' L, Wk p l e R s m args below meth c Z a0 EL y bytes ml ret w h0 ws vm1 T' h' (locs ++ L) (cells + cc) (slots + ss) → Ev w Z EL vm0 h vm1 h' ws' → P v h' → Go p e below F T' (mkF m pc' Ls (v.toList ++ rest))) : Go p e below F T (mkF m pc Ls S) := by
  subst hp hS
  obtain ⟨cq, kq, qa, qb, qc⟩ := isOf (s := s.setVm vm0) X.hZ X.hT E
  obtain ⟨v, vm, B, -, X', hq, st⟩ := X.st.virtualBack X.hx X.hown (mvT X.hZ w1) (mvT X.hZ w2) hnf (mvT X.hZ w3) (mvT X.hZ w4) hy B qa qc (g := mkF m pc Ls (argsL.reverse ++ .ref a :: rest)) rfl (hsz.trans X.hml.symm) (Steps.refl _) hlen rfl (by show 2 * 0 + _ ≤ _; omega) (hb X.hby hd) (fun _ _ => ⟨rfl, X.hT, hc, hs⟩)
  exact goB X X' hq st hQ hok k
/-! calls paid by a contract -/
theorem c_static (X : Wk p l e R s m args below meth c Z a0 EL y bytes ml ret w h0 ws vm0 T h locs cells slots) (hd : decode bytes pc = .ok (.invokestatic idx, 3)) (w1 : (Jvm.Cond.methodLink y.cls idx y').before a0 Z = true) (w2 : (Jvm.Cond.static y').before a0 Z = true) (w3 : (Jvm.Cond.initialized y'.cls).before a0 Z = true) (w4 : (Jvm.Cond.code y' bytes' ml' ret').before a0 Z = true) (hy : Pl y')
    (argsL rest : List Value) (W : Nat) (H : Ctr w' l Z a0 EL y' bytes' ml' ret' rm argsL.toArray h ws' P) (hww : w' = true → w = true) (hok : ∀ x ∈ ws', Ok w Z EL h0 ws vm0 h x) (hlen : ∀ sig, parseMethodDescriptor y'.desc = some sig → argsL.length = sig.parameters.length) (hS : S = argsL.reverse ++ rest) (hW : (rest.map fun v => v.category).sum ≤ W) (hf : rm.frames + 1 ≤ R.frames) (hl : W + (ml' + 11) + rm.locals ≤ R.locals) (hc : cells + rm.cells ≤ R.cells) (hs : slots + rm.slots ≤ R.slots) (hsz : Ls.size = ml) (hp : pc + 3 = pc')
    (k : ∀ v vm1 T' h' L, Wk p l e R s m args below meth c Z a0 EL y bytes ml ret w h0 ws vm1 T' h' (locs ++ L) (cells + rm.cells) (slots + rm.slots) → Ev w Z EL vm0 h vm1 h' ws' → P v h' → Go p e below F T' (mkF m pc' Ls (v.toList ++ rest))) : Go p e below F T (mkF m pc Ls S) := by
  cases hw' : w' with
  | false => exact b_static X hd w1 w2 w3 w4 hy argsL rest (Ctr.back hw' H X.hZ w4 w3 hf hl) (fun v h' L q => q) hok hlen hS hW hc hs hsz hp k
  | true =>
    subst hp hS
    have hw := hww hw'
    obtain ⟨v, vm, B, -, X', hsi, hg, hq, st⟩ := callSS X.st X.hx X.hown (mvT X.hZ w1) (mvT X.hZ w2) (mvT X.hZ w3) (mvT X.hZ w4) hy (Ctr.backS hw' H X.hZ w4 w3 hf hl X.hEW (X.chv hw) fun x hx => ⟨(hok x hx).1, (hok x hx).2.2.2 hw⟩) (g := mkF m pc Ls (argsL.reverse ++ rest)) rfl (hsz.trans X.hml.symm) hlen rfl (by show 2 * 0 + _ ≤ _; omega) (hb X.hby hd) (fun _ _ => ⟨rfl, X.hT, hc, hs⟩)
    exact goS hw X X' hsi hg hq st hok k
theorem c_special (X : Wk p l e R s m args below meth c Z a0 EL y bytes ml ret w h0 ws vm0 T h locs cells slots) (hd : decode bytes pc = .ok (.invokespecial idx, 3)) (hn : y'.name = "<init>") (w1 : (Jvm.Cond.methodLink y.cls idx y').before a0 Z = true) (w2 : (Jvm.Cond.instanceMethod y').before a0 Z = true) (w3 : (Jvm.Cond.initialized y'.cls).before a0 Z = true) (w4 : (Jvm.Cond.code y' bytes' ml' none).before a0 Z = true) (hy : Pl y')
    (a : Addr) (argsL rest : List Value) (W : Nat) (H : Ctr w' l Z a0 EL y' bytes' ml' none rm (.ref a :: argsL).toArray h ws' P) (hww : w' = true → w = true) (hok : ∀ x ∈ ws', Ok w Z EL h0 ws vm0 h x) (hlen : ∀ sig, parseMethodDescriptor y'.desc = some sig → argsL.length = sig.parameters.length) (hS : S = argsL.reverse ++ .ref a :: rest) (hW : (rest.map fun v => v.category).sum ≤ W) (hf : rm.frames + 1 ≤ R.frames) (hl : W + (ml' + 11) + rm.locals ≤ R.locals) (hc : cells + rm.cells ≤ R.cells) (hs : slots + rm.slots ≤ R.slots) (hsz : Ls.size = ml) (hp : pc + 3 = pc')
    (k : ∀ v vm1 T' h' L, Wk p l e R s m args below meth c Z a0 EL y bytes ml ret w h0 ws vm1 T' h' (locs ++ L) (cells + rm.cells) (slots + rm.slots) → Ev w Z EL vm0 h vm1 h' ws' → P v h' → Go p e below F T' (mkF m pc' Ls (v.toList ++ rest))) : Go p e below F T (mkF m pc Ls S) := by
  cases hw' : w' with
  | false => exact b_special X hd hn w1 w2 w4 hy a argsL rest (Ctr.back hw' H X.hZ w4 w3 hf hl) (fun v h' L q => q) hok hlen hS hW hc hs hsz hp k
  | true =>
    subst hp hS
    have hw := hww hw'
    obtain ⟨v, vm, B, -, X', hsi, hg, hq, st⟩ := X.st.specialBackS X.hx hn X.hown (mvT X.hZ w1) (mvT X.hZ w2) (mvT X.hZ w4) hy (Ctr.backS hw' H X.hZ w4 w3 hf hl X.hEW (X.chv hw) fun x hx => ⟨(hok x hx).1, (hok x hx).2.2.2 hw⟩) (g := mkF m pc Ls (argsL.reverse ++ .ref a :: rest)) rfl (hsz.trans X.hml.symm) (Steps.refl _) hlen rfl (by show 2 * 0 + _ ≤ _; omega) (hb X.hby hd) (fun _ _ => ⟨rfl, X.hT, hc, hs⟩)
    exact goS hw X X' hsi hg hq st hok k
theorem c_virtual (X : Wk p l e R s m args below meth c Z a0 EL y bytes ml ret w h0 ws vm0 T h locs cells slots) (hd : decode bytes pc = .ok (.invokevirtual idx, 3)) (w1 : (Jvm.Cond.methodLink y.cls idx y').before a0 Z = true) (w2 : (Jvm.Cond.declares y').before a0 Z = true) (hnf : NotFace (s.setVm vm0) y') (w3 : (Jvm.Cond.selects C y' z').before a0 Z = true) (w4 : (Jvm.Cond.instanceMethod z').before a0 Z = true) (w5 : (Jvm.Cond.initialized z'.cls).before a0 Z = true) (w6 : (Jvm.Cond.code z' bytes' ml' ret').before a0 Z = true) (hy : Pl y')
    (a : Addr) (argsL rest : List Value) (W : Nat) (E : Exa Z h a C) (H : Ctr w' l Z a0 EL z' bytes' ml' ret' rm (.ref a :: argsL).toArray h ws' P) (hww : w' = true → w = true) (hok : ∀ x ∈ ws', Ok w Z EL h0 ws vm0 h x) (hlen : ∀ sig, parseMethodDescriptor y'.desc = some sig → argsL.length = sig.parameters.length) (hS : S = argsL.reverse ++ .ref a :: rest) (hW : (rest.map fun v => v.category).sum ≤ W) (hf : rm.frames + 1 ≤ R.frames) (hl : W + (ml' + 11) + rm.locals ≤ R.locals) (hc : cells + rm.cells ≤ R.cells) (hs : slots + rm.slots ≤ R.slots) (hsz : Ls.size = ml) (hp : pc + 3 = pc')
    (k : ∀ v vm1 T' h' L, Wk p l e R s m args below meth c Z a0 EL y bytes ml ret w h0 ws vm1 T' h' (locs ++ L) (cells + rm.cells) (slots + rm.slots) → Ev w Z EL vm0 h vm1 h' ws' → P v h' → Go p e below F T' (mkF m pc' Ls (v.toList ++ rest))) : Go p e below F T (mkF m pc Ls S) := by
  cases hw' : w' with
  | false => exact b_virtual X hd w1 w2 hnf w3 w4 hy a argsL rest E (Ctr.back hw' H X.hZ w6 w5 hf hl) (fun v h' L q => q) hok hlen hS hW hc hs hsz hp k
  | true =>
    subst hp hS
    have hw := hww hw'
    obtain ⟨cq, kq, qa, qb, qc⟩ := isOf (s := s.setVm vm0) X.hZ X.hT E
    obtain ⟨v, vm, B, -, X', hsi, hg, hq, st⟩ := X.st.virtualBackS X.hx X.hown (mvT X.hZ w1) (mvT X.hZ w2) hnf (mvT X.hZ w3) (mvT X.hZ w4) hy (Ctr.backS hw' H X.hZ w6 w5 hf hl X.hEW (X.chv hw) fun x hx => ⟨(hok x hx).1, (hok x hx).2.2.2 hw⟩) qa qc (g := mkF m pc Ls (argsL.reverse ++ .ref a :: rest)) rfl (hsz.trans X.hml.symm) (Steps.refl _) hlen rfl (by show 2 * 0 + _ ≤ _; omega) (hb X.hby hd) (fun _ _ => ⟨rfl, X.hT, hc, hs⟩)
    exact goS hw X X' hsi hg hq st hok k
theorem b_interface {count : Nat} (X : Wk p l e R s m args below meth c Z a0 EL y bytes ml ret w h0 ws vm0 T h locs cells slots) (hd : decode bytes pc = .ok (.invokeinterface idx count, 5)) (w1 : (Jvm.Cond.methodLink y.cls idx y').before a0 Z = true) (w2 : (Jvm.Cond.declares y').before a0 Z = true) (w3 : (Jvm.Cond.interfaceMethod y'.cls y'.cls y'.name y'.desc).before a0 Z = true) (hfc : ((Jvm.Cond.interfaceMethod y'.cls y'.cls y'.name y'.desc).onTables && (Jvm.Cond.interfaceMethod y'.cls y'.cls y'.name y'.desc).keepsFace) = true) (w4 : (Jvm.Cond.selects C y' z').before a0 Z = true) (w5 : (Jvm.Cond.instanceMethod z').before a0 Z = true) (w6 : (Jvm.Cond.publicMethod z').before a0 Z = true) (w7 : (Jvm.Cond.unhidden C y'.name y'.desc).before a0 Z = true) (w8 : (Jvm.Cond.castable C y'.cls).before a0 Z = true) (hy : Pl y')
    (a : Addr) (argsL rest : List Value) (E : Exa Z h a C) (B : Back l R p e below (s.setVm vm0) args z' 5 W (fun A a' => a' = (.ref a :: argsL).toArray ∧ A.U.heap = h ∧ A.cells + cc ≤ R.cells ∧ A.slots + ss ≤ R.slots) (fun A _ v B => ∃ L, Q v B.U.heap L ∧ B.locs = A.locs ++ L ∧ B.cells = A.cells + cc ∧ B.slots = A.slots + ss))
    (hQ : ∀ v h' L, Q v h' L → Fr Z.heap.size L ∧ Keep h h' ws' ∧ P v h') (hok : ∀ x ∈ ws', Ok w Z EL h0 ws vm0 h x) (hlen : ∀ sig, parseMethodDescriptor y'.desc = some sig → argsL.length = sig.parameters.length) (hS : S = argsL.reverse ++ .ref a :: rest) (hW : (rest.map fun v => v.category).sum ≤ W) (hc : cells + cc ≤ R.cells) (hs : slots + ss ≤ R.slots) (hsz : Ls.size = ml) (hp : pc + 5 = pc')
    (k : ∀ v vm1 T' h' L, Wk p l e R s m args below meth c Z a0 EL y bytes ml ret w h0 ws vm1 T' h' (locs ++ L) (cells + cc) (slots + ss) → Ev w Z EL vm0 h vm1 h' ws' → P v h' → Go p e below F T' (mkF m pc' Ls (v.toList ++ rest))) : Go p e below F T (mkF m pc Ls S) := by
  subst hp hS
  obtain ⟨cq, kq, qa, qb, qc⟩ := isOf (s := s.setVm vm0) X.hZ X.hT E
  obtain ⟨v, vm, B, -, X', hq, st⟩ := X.st.interfaceBack X.hx X.hown (mvT X.hZ w1) (mvT X.hZ w2) (mvT X.hZ w3 hfc) (mvT X.hZ w4) (mvT X.hZ w5) (mvT X.hZ w6) (mvT X.hZ w7) (mvT X.hZ w8) hy B qa qb qc (g := mkF m pc Ls (argsL.reverse ++ .ref a :: rest)) rfl (hsz.trans X.hml.symm) (Steps.refl _) hlen rfl (by show 2 * 0 + _ ≤ _; omega) (hb X.hby hd) (fun _ _ => ⟨rfl, X.hT, hc, hs⟩)
  exact goB X X' hq st hQ hok k
theorem c_interface {count : Nat} (X : Wk p l e R s m args below meth c Z a0 EL y bytes ml ret w h0 ws vm0 T h locs cells slots) (hd : decode bytes pc = .ok (.invokeinterface idx count, 5)) (w1 : (Jvm.Cond.methodLink y.cls idx y').before a0 Z = true) (w2 : (Jvm.Cond.declares y').before a0 Z = true) (w3 : (Jvm.Cond.interfaceMethod y'.cls y'.cls y'.name y'.desc).before a0 Z = true) (hfc : ((Jvm.Cond.interfaceMethod y'.cls y'.cls y'.name y'.desc).onTables && (Jvm.Cond.interfaceMethod y'.cls y'.cls y'.name y'.desc).keepsFace) = true) (w4 : (Jvm.Cond.selects C y' z').before a0 Z = true) (w5 : (Jvm.Cond.instanceMethod z').before a0 Z = true) (w6 : (Jvm.Cond.publicMethod z').before a0 Z = true) (w7 : (Jvm.Cond.unhidden C y'.name y'.desc).before a0 Z = true) (w8 : (Jvm.Cond.castable C y'.cls).before a0 Z = true) (wz : (Jvm.Cond.initialized z'.cls).before a0 Z = true) (wc : (Jvm.Cond.code z' bytes' ml' ret').before a0 Z = true) (hy : Pl y')
    (a : Addr) (argsL rest : List Value) (W : Nat) (E : Exa Z h a C) (H : Ctr w' l Z a0 EL z' bytes' ml' ret' rm (.ref a :: argsL).toArray h ws' P) (hww : w' = true → w = true) (hok : ∀ x ∈ ws', Ok w Z EL h0 ws vm0 h x) (hlen : ∀ sig, parseMethodDescriptor y'.desc = some sig → argsL.length = sig.parameters.length) (hS : S = argsL.reverse ++ .ref a :: rest) (hW : (rest.map fun v => v.category).sum ≤ W) (hf : rm.frames + 1 ≤ R.frames) (hl : W + (ml' + 11) + rm.locals ≤ R.locals) (hc : cells + rm.cells ≤ R.cells) (hs : slots + rm.slots ≤ R.slots) (hsz : Ls.size = ml) (hp : pc + 5 = pc')
    (k : ∀ v vm1 T' h' L, Wk p l e R s m args below meth c Z a0 EL y bytes ml ret w h0 ws vm1 T' h' (locs ++ L) (cells + rm.cells) (slots + rm.slots) → Ev w Z EL vm0 h vm1 h' ws' → P v h' → Go p e below F T' (mkF m pc' Ls (v.toList ++ rest))) : Go p e below F T (mkF m pc Ls S) := by
  cases hw' : w' with
  | false => exact b_interface X hd w1 w2 w3 hfc w4 w5 w6 w7 w8 hy a argsL rest E (Ctr.back hw' H X.hZ wc wz hf hl) (fun v h' L q => q) hok hlen hS hW hc hs hsz hp k
  | true =>
    subst hp hS
    have hw := hww hw'
    obtain ⟨cq, kq, qa, qb, qc⟩ := isOf (s := s.setVm vm0) X.hZ X.hT E
    obtain ⟨v, vm, B, -, X', hsi, hg, hq, st⟩ := X.st.interfaceBackS X.hx X.hown (mvT X.hZ w1) (mvT X.hZ w2) (mvT X.hZ w3 hfc) (mvT X.hZ w4) (mvT X.hZ w5) (mvT X.hZ w6) (mvT X.hZ w7) (mvT X.hZ w8) hy (Ctr.backS hw' H X.hZ wc wz hf hl X.hEW (X.chv hw) fun x hx => ⟨(hok x hx).1, (hok x hx).2.2.2 hw⟩) qa qb qc (g := mkF m pc Ls (argsL.reverse ++ .ref a :: rest)) rfl (hsz.trans X.hml.symm) (Steps.refl _) hlen rfl (by show 2 * 0 + _ ≤ _; omega) (hb X.hby hd) (fun _ _ => ⟨rfl, X.hT, hc, hs⟩)
    exact goS hw X X' hsi hg hq st hok k
end Calls
/-! steps that make or write -/
theorem s_initO {idx : Nat} (X : Wk p l e R s m args below meth c Z a0 EL y bytes ml ret w h0 ws vm0 T h locs cells slots) (hd : decode bytes pc = .ok (.invokespecial idx, 3)) (w1 : (Jvm.Cond.methodLink y.cls idx Lib.objectInit).before a0 Z = true) (w2 : (Jvm.Cond.instanceMethod Lib.objectInit).before a0 Z = true) (w3 : (Jvm.Cond.code Lib.objectInit ⟨#[0xb1]⟩ 1 none).before a0 Z = true) (W : Nat) (hW : (rest.map fun v => v.category).sum ≤ W) (hf : 1 ≤ R.frames) (hl : W + 12 ≤ R.locals) (hsz : Ls.size = ml) (hp : pc + 3 = pc')
    (k : ∀ T', Wk p l e R s m args below meth c Z a0 EL y bytes ml ret w h0 ws vm0 T' h locs cells slots → Go p e below F T' (mkF m pc' Ls rest)) : Go p e below F T (mkF m pc Ls (.ref a :: rest)) := by
  subst hp
  obtain ⟨T', X', e', st⟩ := initO X.st X.hx X.hZ X.hown w1 w2 w3 X.hT (g := mkF m pc Ls (.ref a :: rest)) rfl (hsz.trans X.hml.symm) rfl (hb X.hby hd) hf (W := W) (by show 2 * 0 + _ ≤ _; omega) hl
  exact (k T' (X.same X' e' X.hN X.evR two0)).by fun t r => st t r
theorem s_new {idx n : Nat} {C : String} (X : Wk p l e R s m args below meth c Z a0 EL y bytes ml ret w h0 ws vm0 T h locs cells slots) (hd : decode bytes pc = .ok (.new idx, 3)) (w1 : (Jvm.Cond.classLink y.cls idx C).before a0 Z = true) (w2 : (Jvm.Cond.instantiable C n).before a0 Z = true) (w3 : (Jvm.Cond.initialized C).before a0 Z = true) (hc : cells + 1 ≤ R.cells) (hs : slots + n ≤ R.slots) (hp : pc + 3 = pc')
    (k : ∀ a T' h', Wk p l e R s m args below meth c Z a0 EL y bytes ml ret w h0 ws vm0 T' h' locs (cells + 1) (slots + n) → Ev w Z EL vm0 h vm0 h' [] → h.size ≤ a → Exa Z h' a C → Ok w Z EL h0 ws vm0 h' a → (∀ {O nm d : String} {ty : FieldType}, Laid Z a0 C O nm d → parseFieldDescriptor d = some ty → Fld Z h' a O nm d (defaultValue ty)) → Go p e below F T' (mkF m pc' Ls (.ref a :: rest))) : Go p e below F T (mkF m pc Ls rest) := by
  subst hp
  obtain ⟨T', h', X', e', E, A, D, -, st⟩ := newO X.st X.hx X.hZ X.hown w1 w2 w3 X.hT (g := mkF m pc Ls rest) rfl (hb X.hby hd) hc hs
  have V := X.evE E
  exact (k h.size T' h' (X.same X' e' X.hN V two0) V (Nat.le_refl _) A (X.okNew E A.lt) D).by fun t r => st t r
theorem s_newarray {aty : ArrayType} {n : Int32} (X : Wk p l e R s m args below meth c Z a0 EL y bytes ml ret w h0 ws vm0 T h locs cells slots) (hd : decode bytes pc = .ok (.newarray aty, 2)) (w1 : (Jvm.Cond.arrayClass (newarray.typeOf aty)).before a0 Z = true) (hn : ¬ n < 0) (cap : Nat) (hcap : n.toNatClampNeg ≤ cap) (hbg : cap * 8 ≤ 536870912) (hc : cells + 1 ≤ R.cells) (hs : slots + cap ≤ R.slots) (hp : pc + 2 = pc')
    (k : ∀ a T' h' kc, Wk p l e R s m args below meth c Z a0 EL y bytes ml ret w h0 ws vm0 T' h' locs (cells + 1) (slots + cap) → Ev w Z EL vm0 h vm0 h' [] → h.size ≤ a → Arv Z h' a kc (newarray.typeOf aty) n [] (defaultValue (newarray.typeOf aty)) → Ok w Z EL h0 ws vm0 h' a → Go p e below F T' (mkF m pc' Ls (.ref a :: rest))) : Go p e below F T (mkF m pc Ls (.int n :: rest)) := by
  subst hp
  obtain ⟨T', h', kc, X', e', E, A, st⟩ := newP X.st X.hx X.hZ w1 X.hT (g := mkF m pc Ls (.int n :: rest)) rfl (hb X.hby hd) rfl hn hcap hbg hc hs
  have V := X.evE E
  exact (k h.size T' h' kc (X.same X' e' X.hN V two0) V (Nat.le_refl _) (Arv.new A hn) (X.okNew E A.lt)).by fun t r => st t r
theorem s_putfield {idx kk : Nat} {O nm d C : String} {old v : Value} {ty : FieldType} (X : Wk p l e R s m args below meth c Z a0 EL y bytes ml ret w h0 ws vm0 T h locs cells slots) (hd : decode bytes pc = .ok (.putfield idx, 3)) (w1 : (Jvm.Cond.fieldLink y.cls idx O nm d).before a0 Z = true) (Fo : Fld Z h a O nm d old) (E : Exa Z h a C) (L : (Jvm.Cond.lays C O nm d).before a0 Z = true ∨ ((Jvm.Cond.laysFinal C O nm d).before a0 Z = true ∧ y.cls = O ∧ y.name = "<init>")) (wi : (Jvm.Cond.instantiable C kk).before a0 Z = true) (hty : parseFieldDescriptor d = some ty) (hn : narrow ty v = v) (hf : fits ty v = true) (Oa : Ok w Z EL h0 ws vm0 h a) (hp : pc + 3 = pc')
    (k : ∀ T' h', Wk p l e R s m args below meth c Z a0 EL y bytes ml ret w h0 ws vm0 T' h' (locs ++ [⟨a, Jvm.RoadKit.slotOf Z O nm d⟩]) cells slots → Ev w Z EL vm0 h vm0 h' [a] → Wr h h' a (Jvm.RoadKit.slotOf Z O nm d) v → Go p e below F T' (mkF m pc' Ls rest)) : Go p e below F T (mkF m pc Ls (v :: .ref a :: rest)) := by
  subst hp
  obtain ⟨T', h', X', e', W, st⟩ := putF X.st X.hx X.hZ X.hown (host := "") (Or.inl w1) Via.refl X.hT Fo E (L.imp id fun q => ⟨q.1, q.2.1, X.hnm.trans q.2.2⟩) wi hty hn hf (g := mkF m pc Ls (v :: .ref a :: rest)) rfl rfl (hb X.hby hd)
  have V := X.evW W Oa
  exact (k T' h' (X.same X' e' (Fr.snoc X' X.hN Oa.2.1) V (Ok.two Oa.one)) V W).by fun t r => st t r
theorem s_putfieldN {idx kk : Nat} {O nm d C : String} {old v v' : Value} {ty : FieldType} (X : Wk p l e R s m args below meth c Z a0 EL y bytes ml ret w h0 ws vm0 T h locs cells slots) (hd : decode bytes pc = .ok (.putfield idx, 3)) (w1 : (Jvm.Cond.fieldLink y.cls idx O nm d).before a0 Z = true) (Fo : Fld Z h a O nm d old) (E : Exa Z h a C) (L : (Jvm.Cond.lays C O nm d).before a0 Z = true ∨ ((Jvm.Cond.laysFinal C O nm d).before a0 Z = true ∧ y.cls = O ∧ y.name = "<init>")) (wi : (Jvm.Cond.instantiable C kk).before a0 Z = true) (hty : parseFieldDescriptor d = some ty) (hn : narrow ty v = v') (hf : fits ty v' = true) (Oa : Ok w Z EL h0 ws vm0 h a) (hp : pc + 3 = pc')
    (k : ∀ T' h', Wk p l e R s m args below meth c Z a0 EL y bytes ml ret w h0 ws vm0 T' h' (locs ++ [⟨a, Jvm.RoadKit.slotOf Z O nm d⟩]) cells slots → Ev w Z EL vm0 h vm0 h' [a] → Wr h h' a (Jvm.RoadKit.slotOf Z O nm d) v' → Go p e below F T' (mkF m pc' Ls rest)) : Go p e below F T (mkF m pc Ls (v :: .ref a :: rest)) := by
  subst hp
  obtain ⟨T', h', X', e', W, st⟩ := putFN X.st X.hx X.hZ X.hown w1 Via.refl X.hT Fo E (L.imp id fun q => ⟨q.1, q.2.1, X.hnm.trans q.2.2⟩) wi hty hn hf (g := mkF m pc Ls (v :: .ref a :: rest)) rfl rfl (hb X.hby hd)
  have V := X.evW W Oa
  exact (k T' h' (X.same X' e' (Fr.snoc X' X.hN Oa.2.1) V (Ok.two Oa.one)) V W).by fun t r => st t r
theorem s_getfield {idx : Nat} {O nm d : String} {v : Value} (X : Wk p l e R s m args below meth c Z a0 EL y bytes ml ret w h0 ws vm0 T h locs cells slots) (hd : decode bytes pc = .ok (.getfield idx, 3)) (w1 : (Jvm.Cond.fieldLink y.cls idx O nm d).before a0 Z = true) (Fo : Fld Z h a O nm d v) (hp : pc + 3 = pc')
    (k : ∀ T', Wk p l e R s m args below meth c Z a0 EL y bytes ml ret w h0 ws vm0 T' h locs cells slots → Go p e below F T' (mkF m pc' Ls (v :: rest))) : Go p e below F T (mkF m pc Ls (.ref a :: rest)) := by
  subst hp
  obtain ⟨T', X', e', st⟩ := getF X.st X.hx X.hZ X.hown (host := "") (Or.inl w1) Via.refl X.hT Fo (g := mkF m pc Ls (.ref a :: rest)) rfl rfl (hb X.hby hd)
  exact (k T' (X.same X' e' X.hN X.evR two0)).by fun t r => st t r
theorem s_getstatic {idx : Nat} {O nm d : String} {v : Value} (X : Wk p l e R s m args below meth c Z a0 EL y bytes ml ret w h0 ws vm0 T h locs cells slots) (hd : decode bytes pc = .ok (.getstatic idx, 3)) (w1 : (Jvm.Cond.fieldLink y.cls idx O nm d).before a0 Z = true) (Fo : Sta Z h O nm d v) (hp : pc + 3 = pc')
    (k : ∀ T', Wk p l e R s m args below meth c Z a0 EL y bytes ml ret w h0 ws vm0 T' h locs cells slots → Go p e below F T' (mkF m pc' Ls (v :: rest))) : Go p e below F T (mkF m pc Ls rest) := by
  subst hp
  obtain ⟨T', X', e', st⟩ := getS2 X.st X.hx X.hZ X.hown (host := "") (Or.inl w1) Via.refl X.hT Fo (g := mkF m pc Ls rest) rfl (hb X.hby hd)
  exact (k T' (X.same X' e' X.hN X.evR two0)).by fun t r => st t r
theorem s_getstaticN {idx : Nat} {O nm d host : String} {v : Value} (X : Wk p l e R s m args below meth c Z a0 EL y bytes ml ret w h0 ws vm0 T h locs cells slots) (hd : decode bytes pc = .ok (.getstatic idx, 3)) (w1 : (Jvm.Cond.fieldLinkNest y.cls idx O nm d host).before a0 Z = true) (Fo : Sta Z h O nm d v) (hp : pc + 3 = pc')
    (k : ∀ T', Wk p l e R s m args below meth c Z a0 EL y bytes ml ret w h0 ws vm0 T' h locs cells slots → Go p e below F T' (mkF m pc' Ls (v :: rest))) : Go p e below F T (mkF m pc Ls rest) := by
  subst hp
  obtain ⟨T', X', e', st⟩ := getS2 X.st X.hx X.hZ X.hown (host := host) (Or.inr w1) Via.refl X.hT Fo (g := mkF m pc Ls rest) rfl (hb X.hby hd)
  exact (k T' (X.same X' e' X.hN X.evR two0)).by fun t r => st t r
theorem s_castore {j z n : Int32} {kc : ClassId} {vs : List Value} {dv : Value} (X : Wk p l e R s m args below meth c Z a0 EL y bytes ml ret w h0 ws vm0 T h locs cells slots) (hd : decode bytes pc = .ok (.castore, 1)) (A : Arv Z h a kc .char n vs dv) (hj : ¬ j < 0 ∧ j < n) (i : Nat) (hi : j.toNatClampNeg = i) (hlt : i < vs.length) (Oa : Ok w Z EL h0 ws vm0 h a) (hp : pc + 1 = pc')
    (k : ∀ T' h', Wk p l e R s m args below meth c Z a0 EL y bytes ml ret w h0 ws vm0 T' h' (locs ++ [⟨a, j.toNatClampNeg⟩]) cells slots → Ev w Z EL vm0 h vm0 h' [a] → Arv Z h' a kc .char n (vs.set i (.int (nar .char z))) dv → Go p e below F T' (mkF m pc' Ls rest)) : Go p e below F T (mkF m pc Ls (.int z :: .int j :: .ref a :: rest)) := by
  subst hp
  obtain ⟨cl, Ar, q1, S, q3, H, G⟩ := A
  obtain ⟨T', h', X', e', W, st⟩ := stC X.st X.hx X.hZ X.hT Ar (inb_of S hj) (g := mkF m pc Ls (.int z :: .int j :: .ref a :: rest)) rfl rfl (hb X.hby hd)
  have V := X.evW W Oa
  exact (k T' h' (X.same X' e' (Fr.snoc X' X.hN Oa.2.1) V (Ok.two Oa.one)) V (Arv.set Ar q1 S q3 H G (fits_nar_char z) W i hi hlt)).by fun t r => st t r
theorem s_bastore {j z n : Int32} {kc : ClassId} {vs : List Value} {dv : Value} (X : Wk p l e R s m args below meth c Z a0 EL y bytes ml ret w h0 ws vm0 T h locs cells slots) (hd : decode bytes pc = .ok (.bastore, 1)) (A : Arv Z h a kc .byte n vs dv) (hj : ¬ j < 0 ∧ j < n) (i : Nat) (hi : j.toNatClampNeg = i) (hlt : i < vs.length) (Oa : Ok w Z EL h0 ws vm0 h a) (hp : pc + 1 = pc')
    (k : ∀ T' h', Wk p l e R s m args below meth c Z a0 EL y bytes ml ret w h0 ws vm0 T' h' (locs ++ [⟨a, j.toNatClampNeg⟩]) cells slots → Ev w Z EL vm0 h vm0 h' [a] → Arv Z h' a kc .byte n (vs.set i (.int z.toInt8.toInt32)) dv → Go p e below F T' (mkF m pc' Ls rest)) : Go p e below F T (mkF m pc Ls (.int z :: .int j :: .ref a :: rest)) := by
  subst hp
  obtain ⟨cl, Ar, q1, S, q3, H, G⟩ := A
  obtain ⟨T', h', X', e', W, st⟩ := stB X.st X.hx X.hZ X.hT Ar (inb_of S hj) (g := mkF m pc Ls (.int z :: .int j :: .ref a :: rest)) rfl rfl (hb X.hby hd)
  have V := X.evW W Oa
  exact (k T' h' (X.same X' e' (Fr.snoc X' X.hN Oa.2.1) V (Ok.two Oa.one)) V (Arv.set Ar q1 S q3 H G (fits_nar_byte z) W i hi hlt)).by fun t r => st t r
theorem s_caload {j n z : Int32} {kc : ClassId} {vs : List Value} {dv : Value} (X : Wk p l e R s m args below meth c Z a0 EL y bytes ml ret w h0 ws vm0 T h locs cells slots) (hd : decode bytes pc = .ok (.caload, 1)) (A : Arv Z h a kc .char n vs dv) (hj : ¬ j < 0 ∧ j < n) (hz : vs.getD j.toNatClampNeg dv = .int z) (hp : pc + 1 = pc')
    (k : Go p e below F T (mkF m pc' Ls (.int z :: rest))) : Go p e below F T (mkF m pc Ls (.int j :: .ref a :: rest)) := by
  subst hp
  obtain ⟨cl, Ar, q1, S, q3, H, G⟩ := A
  exact k.by fun t r => X.st.caload X.hx (j := j) (v := .int z) (by rw [X.hT]; exact Ar.1) (State.isArrayOf_alike X.hZ.alike Ar.2.1) Ar.2.2 (inb_of S hj) (H.at (inb_of S hj) hz) (g := mkF m pc Ls (.int j :: .ref a :: rest)) rfl rfl (hb X.hby hd) t r
theorem s_baload {j n z : Int32} {kc : ClassId} {vs : List Value} {dv : Value} (X : Wk p l e R s m args below meth c Z a0 EL y bytes ml ret w h0 ws vm0 T h locs cells slots) (hd : decode bytes pc = .ok (.baload, 1)) (A : Arv Z h a kc .byte n vs dv) (hj : ¬ j < 0 ∧ j < n) (hz : vs.getD j.toNatClampNeg dv = .int z) (hp : pc + 1 = pc')
    (k : Go p e below F T (mkF m pc' Ls (.int z :: rest))) : Go p e below F T (mkF m pc Ls (.int j :: .ref a :: rest)) := by
  subst hp
  obtain ⟨cl, Ar, q1, S, q3, H, G⟩ := A
  exact k.by fun t r => X.st.baloadBytes X.hx (j := j) (v := .int z) (by rw [X.hT]; exact Ar.1) (State.isArrayOf_alike X.hZ.alike Ar.2.1) Ar.2.2 (inb_of S hj) (H.at (inb_of S hj) hz) (g := mkF m pc Ls (.int j :: .ref a :: rest)) rfl rfl (hb X.hby hd) t r
theorem s_arraylength {n : Int32} {kc : ClassId} {ty : FieldType} {vs : List Value} {dv : Value} (X : Wk p l e R s m args below meth c Z a0 EL y bytes ml ret w h0 ws vm0 T h locs cells slots) (hd : decode bytes pc = .ok (.arraylength, 1)) (A : Arv Z h a kc ty n vs dv) (hp : pc + 1 = pc')
    (k : Go p e below F T (mkF m pc' Ls (.int n :: rest))) : Go p e below F T (mkF m pc Ls (.ref a :: rest)) := by
  subst hp
  obtain ⟨cl, Ar, q1, S, q3, H, G⟩ := A
  refine k.by fun t r => X.st.arraylength X.hx (by rw [X.hT]; exact Ar.1) (State.isArrayOf_alike X.hZ.alike Ar.2.1) (g := mkF m pc Ls (.ref a :: rest)) rfl rfl (hb X.hby hd) t ?_
  rw [len_of S q3]; exact r
theorem s_castY {idx : Nat} {K : String} (X : Wk p l e R s m args below meth c Z a0 EL y bytes ml ret w h0 ws vm0 T h locs cells slots) (hd : decode bytes pc = .ok (.checkcast idx, 3)) (w1 : (Jvm.Cond.classLink y.cls idx K).before a0 Z = true) (I : Ins Z h a K true) (hp : pc + 3 = pc')
    (k : ∀ T', Wk p l e R s m args below meth c Z a0 EL y bytes ml ret w h0 ws vm0 T' h locs cells slots → Go p e below F T' (mkF m pc' Ls (.ref a :: rest))) : Go p e below F T (mkF m pc Ls (.ref a :: rest)) := by
  subst hp
  obtain ⟨T', X', e', st⟩ := castY X.st X.hx X.hZ X.hown w1 X.hT I (g := mkF m pc Ls (.ref a :: rest)) rfl rfl (hb X.hby hd)
  exact (k T' (X.same X' e' X.hN X.evR two0)).by fun t r => st t r
theorem s_castNull {idx : Nat} (X : Wk p l e R s m args below meth c Z a0 EL y bytes ml ret w h0 ws vm0 T h locs cells slots) (hd : decode bytes pc = .ok (.checkcast idx, 3)) (hp : pc + 3 = pc') (k : Go p e below F T (mkF m pc' Ls (.null :: rest))) : Go p e below F T (mkF m pc Ls (.null :: rest)) := by
  subst hp
  exact k.by fun t r => X.st.checkcastNull X.hx (g := mkF m pc Ls (.null :: rest)) rfl rfl (hb X.hby hd) t r
theorem s_instY {idx : Nat} {K : String} (X : Wk p l e R s m args below meth c Z a0 EL y bytes ml ret w h0 ws vm0 T h locs cells slots) (hd : decode bytes pc = .ok (.instanceof idx, 3)) (w1 : (Jvm.Cond.classLink y.cls idx K).before a0 Z = true) (I : Ins Z h a K true) (hp : pc + 3 = pc')
    (k : ∀ T', Wk p l e R s m args below meth c Z a0 EL y bytes ml ret w h0 ws vm0 T' h locs cells slots → Go p e below F T' (mkF m pc' Ls (.int 1 :: rest))) : Go p e below F T (mkF m pc Ls (.ref a :: rest)) := by
  subst hp
  obtain ⟨T', X', e', st⟩ := instY X.st X.hx X.hZ X.hown w1 X.hT I (g := mkF m pc Ls (.ref a :: rest)) rfl rfl (hb X.hby hd)
  exact (k T' (X.same X' e' X.hN X.evR two0)).by fun t r => st t r
theorem s_instNull {idx : Nat} (X : Wk p l e R s m args below meth c Z a0 EL y bytes ml ret w h0 ws vm0 T h locs cells slots) (hd : decode bytes pc = .ok (.instanceof idx, 3)) (hp : pc + 3 = pc') (k : Go p e below F T (mkF m pc' Ls (.int 0 :: rest))) : Go p e below F T (mkF m pc Ls (.null :: rest)) := by
  subst hp
  exact k.by fun t r => X.st.instanceofNull X.hx (g := mkF m pc Ls (.null :: rest)) rfl rfl (hb X.hby hd) t r
theorem s_ldcI {idx : Nat} {v : Int32} (X : Wk p l e R s m args below meth c Z a0 EL y bytes ml ret w h0 ws vm0 T h locs cells slots) (hd : decode bytes pc = .ok (.ldc idx, 2)) (w1 : (Jvm.Cond.constant y.cls idx v).before a0 Z = true) (hp : pc + 2 = pc') (k : Go p e below F T (mkF m pc' Ls (.int v :: rest))) : Go p e below F T (mkF m pc Ls rest) := by
  subst hp
  exact k.by fun t r => X.st.ldcI X.hx X.hown (mvT X.hZ w1) (g := mkF m pc Ls rest) rfl (hb X.hby hd) r
theorem s_ldcStr {idx : Nat} {text : String} {vs : List Value} {z : Int32} (hw : w = true) (X : Wk p l e R s m args below meth c Z a0 EL y bytes ml ret w h0 ws vm0 T h locs cells slots) (hd : decode bytes pc = .ok (.ldc idx, 2)) (w1 : (Jvm.Cond.stringLink y.cls idx text).before a0 Z = true) (wS : ∀ a ∈ Bundle.stringAtoms, a.before a0 Z = true) (hmem : (y.cls, idx) ∈ EL)
    (ht : (∀ c ∈ text.toList, c.toNat < 256) ∧ text.toList.map (fun c => Value.int (Jvm.Lit.byteI c.toNat.toUInt16)) = vs) (hz : ¬ z < 0) (hl : z.toNatClampNeg = vs.length) (n : Nat) (hn : 4 * text.toList.length ≤ n) (hbig : n ≤ 536870912) (hc : cells + 2 ≤ R.cells) (hs : slots + (n + 4) ≤ R.slots) (hp : pc + 2 = pc')
    (k : ∀ a b kc vm1 T' h', Wk p l e R s m args below meth c Z a0 EL y bytes ml ret w h0 ws vm1 T' h' locs (cells + 2) (slots + (n + 4)) → Ev w Z EL vm0 h vm1 h' [] → Exa Z h' a "java/lang/String" → Fld Z h' a "java/lang/String" "coder" "B" (.int 0) → Fld Z h' a "java/lang/String" "value" "[B" (.ref b) → Arv Z h' b kc .byte z vs (.int 0) → Go p e below F T' (mkF m pc' Ls (.ref a :: rest))) : Go p e below F T (mkF m pc Ls rest) := by
  subst hp
  obtain ⟨k0, k1, k2⟩ := X.hS
  obtain ⟨a, T', h', kk, b, kc, X', e', E, hS, hk, hZ, ho, q1, q2, q3, q4, -, -, hC, -, -, st⟩ := ldcCH X.st X.hx X.hZ X.hown w1 wS X.hT k1 k2 X.hEW hmem (X.chv hw) ht hz hl (g := mkF m pc Ls rest) rfl (hb X.hby hd) hn hbig hc hs
  have V : Ev w Z EL vm0 h T'.vm h' [] := ⟨(Keep.refl _ _).ext E, fun _ => hC⟩
  exact (k a b kc T'.vm T' h' (X.move X' hZ ho e' ⟨_, hS, hk⟩ (fun q => by rw [hw] at q; cases q) X.hN V two0) V q1 q2 q3 q4).by fun t r => st t r
theorem s_ldcOpaque {idx : Nat} {text : String} (hw : w = true) (X : Wk p l e R s m args below meth c Z a0 EL y bytes ml ret w h0 ws vm0 T h locs cells slots) (hd : decode bytes pc = .ok (.ldc idx, 2)) (w1 : (Jvm.Cond.stringLink y.cls idx text).before a0 Z = true) (wS : ∀ a ∈ Bundle.stringAtoms, a.before a0 Z = true)
    (n : Nat) (hn : 4 * text.toList.length ≤ n) (hbig : n ≤ 536870912) (hc : cells + 2 ≤ R.cells) (hs : slots + (n + 4) ≤ R.slots) (hp : pc + 2 = pc')
    (k : ∀ a vm1 T' h', Wk p l e R s m args below meth c Z a0 EL y bytes ml ret w h0 ws vm1 T' h' locs (cells + 2) (slots + (n + 4)) → Ev w Z EL vm0 h vm1 h' [] → Go p e below F T' (mkF m pc' Ls (.ref a :: rest))) : Go p e below F T (mkF m pc Ls rest) := by
  subst hp
  obtain ⟨k0, k1, k2⟩ := X.hS
  obtain ⟨a, T', h', kk, X', e', E, hS, hk, hZ, ho, hC, -, st⟩ := ldcOH X.st X.hx X.hZ X.hown w1 wS X.hT k1 k2 X.hEW (X.chv hw) (g := mkF m pc Ls rest) rfl (hb X.hby hd) hn hbig hc hs
  have V : Ev w Z EL vm0 h T'.vm h' [] := ⟨(Keep.refl _ _).ext E, fun _ => hC⟩
  exact (k a T'.vm T' h' (X.move X' hZ ho e' ⟨_, hS, hk⟩ (fun q => by rw [hw] at q; cases q) X.hN V two0) V).by fun t r => st t r
/-! plain steps -/
theorem s_aload {k : Nat} {v : Value} (X : Wk p l e R s m args below meth c Z a0 EL y bytes ml ret w h0 ws vm0 T h locs cells slots) (hd : decode bytes pc = .ok (.aload k, 2)) (hl : Ls[k]? = some (.val v)) (hv : v.isRef = true) (hp : pc + 2 = pc') (k : Go p e below F T (mkF m pc' Ls (v :: rest))) : Go p e below F T (mkF m pc Ls (rest)) := by
  subst hp
  exact k.by fun t r => XS.aload X.st.here X.hx rfl (hb X.hby hd) hl hv r
theorem s_iload {k : Nat} {v : Int32} (X : Wk p l e R s m args below meth c Z a0 EL y bytes ml ret w h0 ws vm0 T h locs cells slots) (hd : decode bytes pc = .ok (.iload k, 2)) (hl : Ls[k]? = some (.val (.int v))) (hp : pc + 2 = pc') (k : Go p e below F T (mkF m pc' Ls (.int v :: rest))) : Go p e below F T (mkF m pc Ls (rest)) := by
  subst hp
  exact k.by fun t r => XS.iload X.st.here X.hx rfl (hb X.hby hd) hl r
theorem s_lload {k : Nat} {v : Int64} (X : Wk p l e R s m args below meth c Z a0 EL y bytes ml ret w h0 ws vm0 T h locs cells slots) (hd : decode bytes pc = .ok (.lload k, 2)) (hl : Ls[k]? = some (.val (.long v))) (hp : pc + 2 = pc') (k : Go p e below F T (mkF m pc' Ls (.long v :: rest))) : Go p e below F T (mkF m pc Ls (rest)) := by
  subst hp
  exact k.by fun t r => XT.lload X.st.here X.hx rfl (hb X.hby hd) hl r
theorem s_astore {k : Nat} {v : Value} (X : Wk p l e R s m args below meth c Z a0 EL y bytes ml ret w h0 ws vm0 T h locs cells slots) (hd : decode bytes pc = .ok (.astore k, 2)) (hv : v.isRef = true) (Ls' : Array Slot) (hl : storeLocals Ls k v = some Ls') (hp : pc + 2 = pc') (k : Go p e below F T (mkF m pc' Ls' (rest))) : Go p e below F T (mkF m pc Ls (v :: rest)) := by
  subst hp
  exact k.by fun t r => XS.astore X.st.here X.hx rfl (hb X.hby hd) rfl hv hl r
theorem s_istore {k : Nat} {v : Int32} (X : Wk p l e R s m args below meth c Z a0 EL y bytes ml ret w h0 ws vm0 T h locs cells slots) (hd : decode bytes pc = .ok (.istore k, 2)) (Ls' : Array Slot) (hl : storeLocals Ls k (.int v) = some Ls') (hp : pc + 2 = pc') (k : Go p e below F T (mkF m pc' Ls' (rest))) : Go p e below F T (mkF m pc Ls (.int v :: rest)) := by
  subst hp
  exact k.by fun t r => XS.istore X.st.here X.hx rfl (hb X.hby hd) rfl hl r
theorem s_lstore {k : Nat} {v : Int64} (X : Wk p l e R s m args below meth c Z a0 EL y bytes ml ret w h0 ws vm0 T h locs cells slots) (hd : decode bytes pc = .ok (.lstore k, 2)) (Ls' : Array Slot) (hl : storeLocals Ls k (.long v) = some Ls') (hp : pc + 2 = pc') (k : Go p e below F T (mkF m pc' Ls' (rest))) : Go p e below F T (mkF m pc Ls (.long v :: rest)) := by
  subst hp
  exact k.by fun t r => XT.lstore X.st.here X.hx rfl (hb X.hby hd) rfl hl r
theorem s_aloadN {k : Fin 4} {v : Value} (X : Wk p l e R s m args below meth c Z a0 EL y bytes ml ret w h0 ws vm0 T h locs cells slots) (hd : decode bytes pc = .ok (.aload_n k, 1)) (hl : Ls[k.val]? = some (.val v)) (hv : v.isRef = true) (hp : pc + 1 = pc') (k : Go p e below F T (mkF m pc' Ls (v :: rest))) : Go p e below F T (mkF m pc Ls (rest)) := by
  subst hp
  exact k.by fun t r => XS.aloadN X.st.here X.hx rfl (hb X.hby hd) hl hv r
theorem s_iloadN {k : Fin 4} {v : Int32} (X : Wk p l e R s m args below meth c Z a0 EL y bytes ml ret w h0 ws vm0 T h locs cells slots) (hd : decode bytes pc = .ok (.iload_n k, 1)) (hl : Ls[k.val]? = some (.val (.int v))) (hp : pc + 1 = pc') (k : Go p e below F T (mkF m pc' Ls (.int v :: rest))) : Go p e below F T (mkF m pc Ls (rest)) := by
  subst hp
  exact k.by fun t r => XS.iloadN X.st.here X.hx rfl (hb X.hby hd) hl r
theorem s_lloadN {k : Fin 4} {v : Int64} (X : Wk p l e R s m args below meth c Z a0 EL y bytes ml ret w h0 ws vm0 T h locs cells slots) (hd : decode bytes pc = .ok (.lload_n k, 1)) (hl : Ls[k.val]? = some (.val (.long v))) (hp : pc + 1 = pc') (k : Go p e below F T (mkF m pc' Ls (.long v :: rest))) : Go p e below F T (mkF m pc Ls (rest)) := by
  subst hp
  exact k.by fun t r => XT.lloadN X.st.here X.hx rfl (hb X.hby hd) hl r
theorem s_astoreN {k : Fin 4} {v : Value} (X : Wk p l e R s m args below meth c Z a0 EL y bytes ml ret w h0 ws vm0 T h locs cells slots) (hd : decode bytes pc = .ok (.astore_n k, 1)) (hv : v.isRef = true) (Ls' : Array Slot) (hl : storeLocals Ls k.val v = some Ls') (hp : pc + 1 = pc') (k : Go p e below F T (mkF m pc' Ls' (rest))) : Go p e below F T (mkF m pc Ls (v :: rest)) := by
  subst hp
  exact k.by fun t r => XS.astoreN X.st.here X.hx rfl (hb X.hby hd) rfl hv hl r
theorem s_istoreN {k : Fin 4} {v : Int32} (X : Wk p l e R s m args below meth c Z a0 EL y bytes ml ret w h0 ws vm0 T h locs cells slots) (hd : decode bytes pc = .ok (.istore_n k, 1)) (Ls' : Array Slot) (hl : storeLocals Ls k.val (.int v) = some Ls') (hp : pc + 1 = pc') (k : Go p e below F T (mkF m pc' Ls' (rest))) : Go p e below F T (mkF m pc Ls (.int v :: rest)) := by
  subst hp
  exact k.by fun t r => XS.istoreN X.st.here X.hx rfl (hb X.hby hd) rfl hl r
theorem s_lstoreN {k : Fin 4} {v : Int64} (X : Wk p l e R s m args below meth c Z a0 EL y bytes ml ret w h0 ws vm0 T h locs cells slots) (hd : decode bytes pc = .ok (.lstore_n k, 1)) (Ls' : Array Slot) (hl : storeLocals Ls k.val (.long v) = some Ls') (hp : pc + 1 = pc') (k : Go p e below F T (mkF m pc' Ls' (rest))) : Go p e below F T (mkF m pc Ls (.long v :: rest)) := by
  subst hp
  exact k.by fun t r => XT.lstoreN X.st.here X.hx rfl (hb X.hby hd) rfl hl r
theorem s_iconst {i : Int} (X : Wk p l e R s m args below meth c Z a0 EL y bytes ml ret w h0 ws vm0 T h locs cells slots) (hd : decode bytes pc = .ok (.iconst i, 1)) (v : Int32) (hv : Int32.ofInt i = v) (hp : pc + 1 = pc') (k : Go p e below F T (mkF m pc' Ls (.int v :: rest))) : Go p e below F T (mkF m pc Ls (rest)) := by
  subst hp
  exact k.by fun t r => XT.iconstV X.st.here X.hx rfl v (hb X.hby hd) hv r
theorem s_bipush {i : Int} (X : Wk p l e R s m args below meth c Z a0 EL y bytes ml ret w h0 ws vm0 T h locs cells slots) (hd : decode bytes pc = .ok (.bipush i, 2)) (v : Int32) (hv : (Int8.ofInt i).toInt32 = v) (hp : pc + 2 = pc') (k : Go p e below F T (mkF m pc' Ls (.int v :: rest))) : Go p e below F T (mkF m pc Ls (rest)) := by
  subst hp
  exact k.by fun t r => XT.bipushV X.st.here X.hx rfl v (hb X.hby hd) hv r
theorem s_sipush {i : Int} (X : Wk p l e R s m args below meth c Z a0 EL y bytes ml ret w h0 ws vm0 T h locs cells slots) (hd : decode bytes pc = .ok (.sipush i, 3)) (v : Int32) (hv : (Int16.ofInt i).toInt32 = v) (hp : pc + 3 = pc') (k : Go p e below F T (mkF m pc' Ls (.int v :: rest))) : Go p e below F T (mkF m pc Ls (rest)) := by
  subst hp
  exact k.by fun t r => XT.sipushV X.st.here X.hx rfl v (hb X.hby hd) hv r
theorem s_lconst {k : Fin 2} (X : Wk p l e R s m args below meth c Z a0 EL y bytes ml ret w h0 ws vm0 T h locs cells slots) (hd : decode bytes pc = .ok (.lconst k, 1)) (v : Int64) (hv : Int64.ofNat k = v) (hp : pc + 1 = pc') (k : Go p e below F T (mkF m pc' Ls (.long v :: rest))) : Go p e below F T (mkF m pc Ls (rest)) := by
  subst hp
  exact k.by fun t r => XT.lconstV X.st.here X.hx rfl v (hb X.hby hd) hv r
theorem s_aconst_null (X : Wk p l e R s m args below meth c Z a0 EL y bytes ml ret w h0 ws vm0 T h locs cells slots) (hd : decode bytes pc = .ok (.aconst_null, 1)) (hp : pc + 1 = pc') (k : Go p e below F T (mkF m pc' Ls (.null :: rest))) : Go p e below F T (mkF m pc Ls (rest)) := by
  subst hp
  exact k.by fun t r => XS.aconstNull X.st.here X.hx rfl (hb X.hby hd) r
theorem s_iadd {u v : Int32} (X : Wk p l e R s m args below meth c Z a0 EL y bytes ml ret w h0 ws vm0 T h locs cells slots) (hd : decode bytes pc = .ok (.iadd, 1)) (hp : pc + 1 = pc') (k : Go p e below F T (mkF m pc' Ls (.int (u + v) :: rest))) : Go p e below F T (mkF m pc Ls (.int v :: .int u :: rest)) := by
  subst hp
  exact k.by fun t r => XS.iadd X.st.here X.hx rfl (hb X.hby hd) rfl r
theorem s_isub {u v : Int32} (X : Wk p l e R s m args below meth c Z a0 EL y bytes ml ret w h0 ws vm0 T h locs cells slots) (hd : decode bytes pc = .ok (.isub, 1)) (hp : pc + 1 = pc') (k : Go p e below F T (mkF m pc' Ls (.int (u - v) :: rest))) : Go p e below F T (mkF m pc Ls (.int v :: .int u :: rest)) := by
  subst hp
  exact k.by fun t r => XS.isub X.st.here X.hx rfl (hb X.hby hd) rfl r
theorem s_imul {u v : Int32} (X : Wk p l e R s m args below meth c Z a0 EL y bytes ml ret w h0 ws vm0 T h locs cells slots) (hd : decode bytes pc = .ok (.imul, 1)) (hp : pc + 1 = pc') (k : Go p e below F T (mkF m pc' Ls (.int (u * v) :: rest))) : Go p e below F T (mkF m pc Ls (.int v :: .int u :: rest)) := by
  subst hp
  exact k.by fun t r => XS.imul X.st.here X.hx rfl (hb X.hby hd) rfl r
theorem s_iand {u v : Int32} (X : Wk p l e R s m args below meth c Z a0 EL y bytes ml ret w h0 ws vm0 T h locs cells slots) (hd : decode bytes pc = .ok (.iand, 1)) (hp : pc + 1 = pc') (k : Go p e below F T (mkF m pc' Ls (.int (u &&& v) :: rest))) : Go p e below F T (mkF m pc Ls (.int v :: .int u :: rest)) := by
  subst hp
  exact k.by fun t r => XS.iand X.st.here X.hx rfl (hb X.hby hd) rfl r
theorem s_ior {u v : Int32} (X : Wk p l e R s m args below meth c Z a0 EL y bytes ml ret w h0 ws vm0 T h locs cells slots) (hd : decode bytes pc = .ok (.ior, 1)) (hp : pc + 1 = pc') (k : Go p e below F T (mkF m pc' Ls (.int (u ||| v) :: rest))) : Go p e below F T (mkF m pc Ls (.int v :: .int u :: rest)) := by
  subst hp
  exact k.by fun t r => XT.ior X.st.here X.hx rfl (hb X.hby hd) rfl r
theorem s_ixor {u v : Int32} (X : Wk p l e R s m args below meth c Z a0 EL y bytes ml ret w h0 ws vm0 T h locs cells slots) (hd : decode bytes pc = .ok (.ixor, 1)) (hp : pc + 1 = pc') (k : Go p e below F T (mkF m pc' Ls (.int (u ^^^ v) :: rest))) : Go p e below F T (mkF m pc Ls (.int v :: .int u :: rest)) := by
  subst hp
  exact k.by fun t r => XT.ixor X.st.here X.hx rfl (hb X.hby hd) rfl r
theorem s_ishl {u v : Int32} (X : Wk p l e R s m args below meth c Z a0 EL y bytes ml ret w h0 ws vm0 T h locs cells slots) (hd : decode bytes pc = .ok (.ishl, 1)) (hp : pc + 1 = pc') (k : Go p e below F T (mkF m pc' Ls (.int (u <<< (v &&& 31)) :: rest))) : Go p e below F T (mkF m pc Ls (.int v :: .int u :: rest)) := by
  subst hp
  exact k.by fun t r => XT.ishl X.st.here X.hx rfl (hb X.hby hd) rfl r
theorem s_ishr {u v : Int32} (X : Wk p l e R s m args below meth c Z a0 EL y bytes ml ret w h0 ws vm0 T h locs cells slots) (hd : decode bytes pc = .ok (.ishr, 1)) (hp : pc + 1 = pc') (k : Go p e below F T (mkF m pc' Ls (.int (u >>> (v &&& 31)) :: rest))) : Go p e below F T (mkF m pc Ls (.int v :: .int u :: rest)) := by
  subst hp
  exact k.by fun t r => XT.ishr X.st.here X.hx rfl (hb X.hby hd) rfl r
theorem s_iushr {u v : Int32} (X : Wk p l e R s m args below meth c Z a0 EL y bytes ml ret w h0 ws vm0 T h locs cells slots) (hd : decode bytes pc = .ok (.iushr, 1)) (hp : pc + 1 = pc') (k : Go p e below F T (mkF m pc' Ls (.int (XT.ushr u v) :: rest))) : Go p e below F T (mkF m pc Ls (.int v :: .int u :: rest)) := by
  subst hp
  exact k.by fun t r => XT.iushr X.st.here X.hx rfl (hb X.hby hd) rfl r
theorem s_idiv {u v : Int32} (X : Wk p l e R s m args below meth c Z a0 EL y bytes ml ret w h0 ws vm0 T h locs cells slots) (hd : decode bytes pc = .ok (.idiv, 1)) (hy : v ≠ 0) (hp : pc + 1 = pc') (k : Go p e below F T (mkF m pc' Ls (.int (u / v) :: rest))) : Go p e below F T (mkF m pc Ls (.int v :: .int u :: rest)) := by
  subst hp
  exact k.by fun t r => XS.idiv X.st.here X.hx rfl (hb X.hby hd) rfl hy r
theorem s_irem {u v : Int32} (X : Wk p l e R s m args below meth c Z a0 EL y bytes ml ret w h0 ws vm0 T h locs cells slots) (hd : decode bytes pc = .ok (.irem, 1)) (hy : v ≠ 0) (hp : pc + 1 = pc') (k : Go p e below F T (mkF m pc' Ls (.int (u % v) :: rest))) : Go p e below F T (mkF m pc Ls (.int v :: .int u :: rest)) := by
  subst hp
  exact k.by fun t r => iremM X.st X.hx (g := mkF m pc Ls (.int v :: .int u :: rest)) rfl (hb X.hby hd) rfl hy r
theorem s_ladd {u v : Int64} (X : Wk p l e R s m args below meth c Z a0 EL y bytes ml ret w h0 ws vm0 T h locs cells slots) (hd : decode bytes pc = .ok (.ladd, 1)) (hp : pc + 1 = pc') (k : Go p e below F T (mkF m pc' Ls (.long (u + v) :: rest))) : Go p e below F T (mkF m pc Ls (.long v :: .long u :: rest)) := by
  subst hp
  exact k.by fun t r => XT.ladd X.st.here X.hx rfl (hb X.hby hd) rfl r
theorem s_lsub {u v : Int64} (X : Wk p l e R s m args below meth c Z a0 EL y bytes ml ret w h0 ws vm0 T h locs cells slots) (hd : decode bytes pc = .ok (.lsub, 1)) (hp : pc + 1 = pc') (k : Go p e below F T (mkF m pc' Ls (.long (u - v) :: rest))) : Go p e below F T (mkF m pc Ls (.long v :: .long u :: rest)) := by
  subst hp
  exact k.by fun t r => XT.lsub X.st.here X.hx rfl (hb X.hby hd) rfl r
theorem s_lmul {u v : Int64} (X : Wk p l e R s m args below meth c Z a0 EL y bytes ml ret w h0 ws vm0 T h locs cells slots) (hd : decode bytes pc = .ok (.lmul, 1)) (hp : pc + 1 = pc') (k : Go p e below F T (mkF m pc' Ls (.long (u * v) :: rest))) : Go p e below F T (mkF m pc Ls (.long v :: .long u :: rest)) := by
  subst hp
  exact k.by fun t r => XT.lmul X.st.here X.hx rfl (hb X.hby hd) rfl r
theorem s_land {u v : Int64} (X : Wk p l e R s m args below meth c Z a0 EL y bytes ml ret w h0 ws vm0 T h locs cells slots) (hd : decode bytes pc = .ok (.land, 1)) (hp : pc + 1 = pc') (k : Go p e below F T (mkF m pc' Ls (.long (u &&& v) :: rest))) : Go p e below F T (mkF m pc Ls (.long v :: .long u :: rest)) := by
  subst hp
  exact k.by fun t r => XT.land X.st.here X.hx rfl (hb X.hby hd) rfl r
theorem s_lor {u v : Int64} (X : Wk p l e R s m args below meth c Z a0 EL y bytes ml ret w h0 ws vm0 T h locs cells slots) (hd : decode bytes pc = .ok (.lor, 1)) (hp : pc + 1 = pc') (k : Go p e below F T (mkF m pc' Ls (.long (u ||| v) :: rest))) : Go p e below F T (mkF m pc Ls (.long v :: .long u :: rest)) := by
  subst hp
  exact k.by fun t r => XT.lor X.st.here X.hx rfl (hb X.hby hd) rfl r
theorem s_lxor {u v : Int64} (X : Wk p l e R s m args below meth c Z a0 EL y bytes ml ret w h0 ws vm0 T h locs cells slots) (hd : decode bytes pc = .ok (.lxor, 1)) (hp : pc + 1 = pc') (k : Go p e below F T (mkF m pc' Ls (.long (u ^^^ v) :: rest))) : Go p e below F T (mkF m pc Ls (.long v :: .long u :: rest)) := by
  subst hp
  exact k.by fun t r => XT.lxor X.st.here X.hx rfl (hb X.hby hd) rfl r
theorem s_lrem {u v : Int64} (X : Wk p l e R s m args below meth c Z a0 EL y bytes ml ret w h0 ws vm0 T h locs cells slots) (hd : decode bytes pc = .ok (.lrem, 1)) (hy : v ≠ 0) (hp : pc + 1 = pc') (k : Go p e below F T (mkF m pc' Ls (.long (u - (u / v) * v) :: rest))) : Go p e below F T (mkF m pc Ls (.long v :: .long u :: rest)) := by
  subst hp
  exact k.by fun t r => XT.lrem X.st.here X.hx rfl (hb X.hby hd) rfl hy r
theorem s_lushr {u : Int64} {v : Int32} (X : Wk p l e R s m args below meth c Z a0 EL y bytes ml ret w h0 ws vm0 T h locs cells slots) (hd : decode bytes pc = .ok (.lushr, 1)) (hp : pc + 1 = pc') (k : Go p e below F T (mkF m pc' Ls (.long (XT.ushrL u v) :: rest))) : Go p e below F T (mkF m pc Ls (.int v :: .long u :: rest)) := by
  subst hp
  exact k.by fun t r => XT.lushr X.st.here X.hx rfl (hb X.hby hd) rfl r
theorem s_ineg {u : Int32} (X : Wk p l e R s m args below meth c Z a0 EL y bytes ml ret w h0 ws vm0 T h locs cells slots) (hd : decode bytes pc = .ok (.ineg, 1)) (hp : pc + 1 = pc') (k : Go p e below F T (mkF m pc' Ls (.int (-u) :: rest))) : Go p e below F T (mkF m pc Ls (.int u :: rest)) := by
  subst hp
  exact k.by fun t r => XS.ineg X.st.here X.hx rfl (hb X.hby hd) rfl r
theorem s_i2l {u : Int32} (X : Wk p l e R s m args below meth c Z a0 EL y bytes ml ret w h0 ws vm0 T h locs cells slots) (hd : decode bytes pc = .ok (.i2l, 1)) (hp : pc + 1 = pc') (k : Go p e below F T (mkF m pc' Ls (.long (u.toInt64) :: rest))) : Go p e below F T (mkF m pc Ls (.int u :: rest)) := by
  subst hp
  exact k.by fun t r => XT.i2l X.st.here X.hx rfl (hb X.hby hd) rfl r
theorem s_l2i {u : Int64} (X : Wk p l e R s m args below meth c Z a0 EL y bytes ml ret w h0 ws vm0 T h locs cells slots) (hd : decode bytes pc = .ok (.l2i, 1)) (hp : pc + 1 = pc') (k : Go p e below F T (mkF m pc' Ls (.int (u.toInt32) :: rest))) : Go p e below F T (mkF m pc Ls (.long u :: rest)) := by
  subst hp
  exact k.by fun t r => XT.l2i X.st.here X.hx rfl (hb X.hby hd) rfl r
theorem s_i2b {u : Int32} (X : Wk p l e R s m args below meth c Z a0 EL y bytes ml ret w h0 ws vm0 T h locs cells slots) (hd : decode bytes pc = .ok (.i2b, 1)) (hp : pc + 1 = pc') (k : Go p e below F T (mkF m pc' Ls (.int (u.toInt8.toInt32) :: rest))) : Go p e below F T (mkF m pc Ls (.int u :: rest)) := by
  subst hp
  exact k.by fun t r => XT.i2b X.st.here X.hx rfl (hb X.hby hd) rfl r
theorem s_i2s {u : Int32} (X : Wk p l e R s m args below meth c Z a0 EL y bytes ml ret w h0 ws vm0 T h locs cells slots) (hd : decode bytes pc = .ok (.i2s, 1)) (hp : pc + 1 = pc') (k : Go p e below F T (mkF m pc' Ls (.int (u.toInt16.toInt32) :: rest))) : Go p e below F T (mkF m pc Ls (.int u :: rest)) := by
  subst hp
  exact k.by fun t r => XT.i2s X.st.here X.hx rfl (hb X.hby hd) rfl r
theorem s_i2c {u : Int32} (X : Wk p l e R s m args below meth c Z a0 EL y bytes ml ret w h0 ws vm0 T h locs cells slots) (hd : decode bytes pc = .ok (.i2c, 1)) (hp : pc + 1 = pc') (k : Go p e below F T (mkF m pc' Ls (.int (u.toUInt32.toUInt16.toUInt32.toInt32) :: rest))) : Go p e below F T (mkF m pc Ls (.int u :: rest)) := by
  subst hp
  exact k.by fun t r => XT.i2c X.st.here X.hx rfl (hb X.hby hd) rfl r
theorem s_dup {v : Value} (X : Wk p l e R s m args below meth c Z a0 EL y bytes ml ret w h0 ws vm0 T h locs cells slots) (hd : decode bytes pc = .ok (.dup, 1)) (hc : v.category = 1) (hp : pc + 1 = pc') (k : Go p e below F T (mkF m pc' Ls (v :: v :: rest))) : Go p e below F T (mkF m pc Ls (v :: rest)) := by
  subst hp
  exact k.by fun t r => XS.dup X.st.here X.hx rfl (hb X.hby hd) rfl hc r
theorem s_pop {v : Value} (X : Wk p l e R s m args below meth c Z a0 EL y bytes ml ret w h0 ws vm0 T h locs cells slots) (hd : decode bytes pc = .ok (.pop, 1)) (hc : v.category = 1) (hp : pc + 1 = pc') (k : Go p e below F T (mkF m pc' Ls (rest))) : Go p e below F T (mkF m pc Ls (v :: rest)) := by
  subst hp
  exact k.by fun t r => XT.pop X.st.here X.hx rfl (hb X.hby hd) rfl hc r
theorem s_dup_x1 {u v : Value} (X : Wk p l e R s m args below meth c Z a0 EL y bytes ml ret w h0 ws vm0 T h locs cells slots) (hd : decode bytes pc = .ok (.dup_x1, 1)) (hc : u.category = 1) (hc' : v.category = 1) (hp : pc + 1 = pc') (k : Go p e below F T (mkF m pc' Ls (u :: v :: u :: rest))) : Go p e below F T (mkF m pc Ls (u :: v :: rest)) := by
  subst hp
  exact k.by fun t r => XT.dupX1 X.st.here X.hx rfl (hb X.hby hd) rfl hc hc' r
theorem s_iinc {k : Nat} {cst : Int} {u : Int32} (X : Wk p l e R s m args below meth c Z a0 EL y bytes ml ret w h0 ws vm0 T h locs cells slots) (hd : decode bytes pc = .ok (.iinc k cst, 3)) (v : Int32) (hv : Int32.ofInt cst = v) (hl : Ls[k]? = some (.val (.int u))) (Ls' : Array Slot) (hl' : storeLocals Ls k (.int (u + v)) = some Ls') (hp : pc + 3 = pc') (k : Go p e below F T (mkF m pc' Ls' (rest))) : Go p e below F T (mkF m pc Ls (rest)) := by
  subst hp
  exact k.by fun t r => XT.iincV X.st.here X.hx rfl v (hb X.hby hd) hv hl hl' r
theorem s_goto {o : Int} (X : Wk p l e R s m args below meth c Z a0 EL y bytes ml ret w h0 ws vm0 T h locs cells slots) (hd : decode bytes pc = .ok (.goto o, 3)) (ho : 0 ≤ (pc : Int) + o) (hp : ((pc : Int) + o).toNat = pc') (k : Go p e below F T (mkF m pc' Ls rest)) : Go p e below F T (mkF m pc Ls (rest)) :=
  k.by fun t r => XS.goto X.st.here X.hx rfl (pc0 := pc) rfl (hb X.hby hd) ho hp r
theorem s_ifT {cd : ClassFile.Cond} {u : Int32} {o : Int} (X : Wk p l e R s m args below meth c Z a0 EL y bytes ml ret w h0 ws vm0 T h locs cells slots) (hd : decode bytes pc = .ok (.ifCond cd o, 3)) (hc : ifCond.holds cd u = true) (ho : 0 ≤ (pc : Int) + o) (hp : ((pc : Int) + o).toNat = pc') (k : Go p e below F T (mkF m pc' Ls rest)) : Go p e below F T (mkF m pc Ls (.int u :: rest)) :=
  k.by fun t r => XS.ifYes X.st.here X.hx rfl (pc0 := pc) rfl (hb X.hby hd) rfl hc ho hp r
theorem s_ifF {cd : ClassFile.Cond} {u : Int32} {o : Int} (X : Wk p l e R s m args below meth c Z a0 EL y bytes ml ret w h0 ws vm0 T h locs cells slots) (hd : decode bytes pc = .ok (.ifCond cd o, 3)) (hc : ifCond.holds cd u = false) (hp : pc + 3 = pc') (k : Go p e below F T (mkF m pc' Ls rest)) : Go p e below F T (mkF m pc Ls (.int u :: rest)) := by
  subst hp
  exact k.by fun t r => XS.ifNo X.st.here X.hx rfl (hb X.hby hd) rfl hc r
theorem s_icmpT {cd : ClassFile.Cond} {u v : Int32} {o : Int} (X : Wk p l e R s m args below meth c Z a0 EL y bytes ml ret w h0 ws vm0 T h locs cells slots) (hd : decode bytes pc = .ok (.if_icmp cd o, 3)) (hc : if_icmp.holds cd u v = true) (ho : 0 ≤ (pc : Int) + o) (hp : ((pc : Int) + o).toNat = pc') (k : Go p e below F T (mkF m pc' Ls rest)) : Go p e below F T (mkF m pc Ls (.int v :: .int u :: rest)) :=
  k.by fun t r => XS.icmpYes X.st.here X.hx rfl (pc0 := pc) rfl (hb X.hby hd) rfl hc ho hp r
theorem s_icmpF {cd : ClassFile.Cond} {u v : Int32} {o : Int} (X : Wk p l e R s m args below meth c Z a0 EL y bytes ml ret w h0 ws vm0 T h locs cells slots) (hd : decode bytes pc = .ok (.if_icmp cd o, 3)) (hc : if_icmp.holds cd u v = false) (hp : pc + 3 = pc') (k : Go p e below F T (mkF m pc' Ls rest)) : Go p e below F T (mkF m pc Ls (.int v :: .int u :: rest)) := by
  subst hp
  exact k.by fun t r => XS.icmpNo X.st.here X.hx rfl (hb X.hby hd) rfl hc r
theorem s_ifnullT {o : Int} (X : Wk p l e R s m args below meth c Z a0 EL y bytes ml ret w h0 ws vm0 T h locs cells slots) (hd : decode bytes pc = .ok (.ifnull o, 3)) (ho : 0 ≤ (pc : Int) + o) (hp : ((pc : Int) + o).toNat = pc') (k : Go p e below F T (mkF m pc' Ls rest)) : Go p e below F T (mkF m pc Ls (.null :: rest)) :=
  k.by fun t r => XS.ifnullYes X.st.here X.hx rfl (pc0 := pc) rfl (hb X.hby hd) rfl ho hp r
theorem s_ifnullF {o : Int} (X : Wk p l e R s m args below meth c Z a0 EL y bytes ml ret w h0 ws vm0 T h locs cells slots) (hd : decode bytes pc = .ok (.ifnull o, 3)) (hp : pc + 3 = pc') (k : Go p e below F T (mkF m pc' Ls rest)) : Go p e below F T (mkF m pc Ls (.ref a :: rest)) := by
  subst hp
  exact k.by fun t r => XS.ifnullNo X.st.here X.hx rfl (hb X.hby hd) rfl r
theorem s_ifnonnullT {o : Int} (X : Wk p l e R s m args below meth c Z a0 EL y bytes ml ret w h0 ws vm0 T h locs cells slots) (hd : decode bytes pc = .ok (.ifnonnull o, 3)) (ho : 0 ≤ (pc : Int) + o) (hp : ((pc : Int) + o).toNat = pc') (k : Go p e below F T (mkF m pc' Ls rest)) : Go p e below F T (mkF m pc Ls (.ref a :: rest)) :=
  k.by fun t r => XT.ifnonnullYes X.st.here X.hx rfl (pc0 := pc) rfl (hb X.hby hd) rfl ho hp r
theorem s_ifnonnullF {o : Int} (X : Wk p l e R s m args below meth c Z a0 EL y bytes ml ret w h0 ws vm0 T h locs cells slots) (hd : decode bytes pc = .ok (.ifnonnull o, 3)) (hp : pc + 3 = pc') (k : Go p e below F T (mkF m pc' Ls rest)) : Go p e below F T (mkF m pc Ls (.null :: rest)) := by
  subst hp
  exact k.by fun t r => XT.ifnonnullNo X.st.here X.hx rfl (hb X.hby hd) rfl r
theorem s_acmpT {cd : ClassFile.ACond} {u v : Value} {o : Int} (X : Wk p l e R s m args below meth c Z a0 EL y bytes ml ret w h0 ws vm0 T h locs cells slots) (hd : decode bytes pc = .ok (.if_acmp cd o, 3)) (hu : u.isRef = true) (hv : v.isRef = true) (hc : XT.acmp cd u v = true) (ho : 0 ≤ (pc : Int) + o) (hp : ((pc : Int) + o).toNat = pc') (k : Go p e below F T (mkF m pc' Ls rest)) : Go p e below F T (mkF m pc Ls (v :: u :: rest)) :=
  k.by fun t r => XT.acmpYes X.st.here X.hx rfl (pc0 := pc) rfl (hb X.hby hd) rfl hu hv hc ho hp r
theorem s_acmpF {cd : ClassFile.ACond} {u v : Value} {o : Int} (X : Wk p l e R s m args below meth c Z a0 EL y bytes ml ret w h0 ws vm0 T h locs cells slots) (hd : decode bytes pc = .ok (.if_acmp cd o, 3)) (hu : u.isRef = true) (hv : v.isRef = true) (hc : XT.acmp cd u v = false) (hp : pc + 3 = pc') (k : Go p e below F T (mkF m pc' Ls rest)) : Go p e below F T (mkF m pc Ls (v :: u :: rest)) := by
  subst hp
  exact k.by fun t r => XT.acmpNo X.st.here X.hx rfl (hb X.hby hd) rfl hu hv hc r
end Own
end Own
namespace Own
theorem narR {t : FieldType} (ht : t.isReference = true) (v : Value) : narrow t v = v := by cases t <;> first | rfl | cases ht
theorem fitR {t : FieldType} (ht : t.isReference = true) {v : Value} (hv : v.isRef = true) : fits t v = true := by
  rcases ref_cases hv with rfl | ⟨a, rfl⟩ <;> cases t <;> first | rfl | cases ht
end Own

namespace Own
section Str0
variable {p : Program} {l : Launch} {e : Env} {R : Room} {s : State} {m : MethodId} {args : Array Value} {below : List Frame} {meth : Method} {c : Code} {Z : State} {a0 : Array Value} {EL : List (String × Nat)} {y : MethodName} {bytes : ByteArray} {ml : Nat} {ret : Option FieldType} {w : Bool} {h0 : Heap} {ws ws' : List Addr} {vm0 vm1 : Vm} {T T' : State} {h h' h1 : Heap} {locs locs' : List Loc} {cells slots cells' slots' : Nat} {F : State → Option Value → Prop} {pc pc' : Nat} {Ls Ls' : Array Slot} {rest : List Value} {a b x : Addr}
/-- a char that Latin-1 holds -/
def Lat (z : Int32) : Prop := ¬ z < 0 ∧ ¬ (255 : Int32) < z
def lo (z : Int32) : Int32 := z.toInt8.toInt32
theorem lat_mask (x : Int32) : Lat (x &&& (255 : Int32)) := by
  have q := c_and x 255 (by decide)
  have e2 : (255 : Int32).toInt = 255 := by decide
  refine ⟨fun r => ?_, fun r => ?_⟩
  · rw [Int32.lt_iff_toInt_lt] at r; have e1 : (0 : Int32).toInt = 0 := by decide
    omega
  · rw [Int32.lt_iff_toInt_lt] at r; omega
theorem nar_mask (x : Int32) : nar .char (x &&& (255 : Int32)) = (x &&& (255 : Int32)) := i2c_mask x
theorem lat_eq {z : Int32} (q : Lat z) : z &&& 255 = z := by
  have h1 := c_mask z 255 8 (by decide) (by decide)
  have e1 : (0 : Int32).toInt = 0 := by decide
  have e2 : (255 : Int32).toInt = 255 := by decide
  have q1 := q.1; have q2 := q.2
  rw [Int32.lt_iff_toInt_lt] at q1 q2
  apply Int32.toInt_inj.mp
  rw [h1]; omega
theorem nar_chr {z : Int32} (q : Lat z) : nar .char z = z := by
  have e := lat_eq q
  have r := nar_mask z
  rw [e] at r; exact r
theorem i2c_chr {z : Int32} (q : Lat z) : z.toUInt32.toUInt16.toUInt32.toInt32 = z := nar_chr q
theorem s_i2cM {u : Int32} (X : Wk p l e R s m args below meth c Z a0 EL y bytes ml ret w h0 ws vm0 T h locs cells slots) (hd : decode bytes pc = .ok (.i2c, 1)) (hp : pc + 1 = pc') (k : Go p e below F T (mkF m pc' Ls (.int (u &&& (255 : Int32)) :: rest))) : Go p e below F T (mkF m pc Ls (.int (u &&& (255 : Int32)) :: rest)) :=
  s_i2c X hd hp (by rw [i2c_mask]; exact k)
theorem s_i2cR {u : Int32} (X : Wk p l e R s m args below meth c Z a0 EL y bytes ml ret w h0 ws vm0 T h locs cells slots) (hd : decode bytes pc = .ok (.i2c, 1)) (q : Lat u) (hp : pc + 1 = pc') (k : Go p e below F T (mkF m pc' Ls (.int u :: rest))) : Go p e below F T (mkF m pc Ls (.int u :: rest)) :=
  s_i2c X hd hp (by rw [i2c_chr q]; exact k)
theorem s_castoreR {j z n : Int32} {kc : ClassId} {vs : List Value} {dv : Value} (X : Wk p l e R s m args below meth c Z a0 EL y bytes ml ret w h0 ws vm0 T h locs cells slots) (hd : decode bytes pc = .ok (.castore, 1)) (A : Arv Z h a kc .char n vs dv) (hj : ¬ j < 0 ∧ j < n) (i : Nat) (hi : j.toNatClampNeg = i) (hlt : i < vs.length) (hz : nar .char z = z) (Oa : Ok w Z EL h0 ws vm0 h a) (hp : pc + 1 = pc')
    (k : ∀ T' h', Wk p l e R s m args below meth c Z a0 EL y bytes ml ret w h0 ws vm0 T' h' (locs ++ [⟨a, j.toNatClampNeg⟩]) cells slots → Ev w Z EL vm0 h vm0 h' [a] → Arv Z h' a kc .char n (vs.set i (.int z)) dv → Go p e below F T' (mkF m pc' Ls rest)) : Go p e below F T (mkF m pc Ls (.int z :: .int j :: .ref a :: rest)) :=
  s_castore X hd A hj i hi hlt Oa hp (by rw [hz]; exact k)
/-- a String of Latin-1 chars -/
def Str (Z : State) (h : Heap) (a : Addr) (cs : List Int32) : Prop := (∀ c ∈ cs, Lat c) ∧ cs.length ≤ 4000 ∧ Exa Z h a "java/lang/String" ∧ Fld Z h a "java/lang/String" "coder" "B" (.int 0) ∧ ∃ (t : Addr) (kb : ClassId), Fld Z h a "java/lang/String" "value" "[B" (.ref t) ∧ Arv Z h t kb .byte (Int32.ofNat cs.length) ((cs.map lo).map Value.int) (.int 0)
theorem Str.ext {cs : List Int32} (S : Str Z h a cs) (E : Ext h h') : Str Z h' a cs := by
  obtain ⟨h1, h2, h3, h4, t, kb, h5, h6⟩ := S; exact ⟨h1, h2, h3.ext E, h4.ext E, t, kb, h5.ext E, h6.ext E⟩
theorem Str.exa {cs : List Int32} (S : Str Z h a cs) : Exa Z h a "java/lang/String" := S.2.2.1
theorem Str.lt {cs : List Int32} (S : Str Z h a cs) : a < h.size := S.exa.lt
theorem Str.mk {cs : List Int32} {t : Addr} {kb : ClassId} {z : Int32} {vs : List Value} (h1 : (∀ c ∈ cs, Lat c) ∧ (cs.map lo).map Value.int = vs) (h2 : cs.length ≤ 4000 ∧ z = Int32.ofNat cs.length) (E : Exa Z h a "java/lang/String") (C : Fld Z h a "java/lang/String" "coder" "B" (.int 0)) (V : Fld Z h a "java/lang/String" "value" "[B" (.ref t)) (A : Arv Z h t kb .byte z vs (.int 0)) : Str Z h a cs := by
  obtain ⟨q1, rfl⟩ := h1
  obtain ⟨q2, rfl⟩ := h2
  exact ⟨q1, q2, E, C, t, kb, V, A⟩
instance (z : Int32) : Decidable (Lat z) := inferInstanceAs (Decidable (_ ∧ _))
theorem up65 {cs : List Int32} (hq : ∀ c ∈ cs, Lat c) : ∀ c ∈ cs, ¬ c < 0 ∧ ¬ (65535 : Int32) < c := fun c hc => ⟨(hq c hc).1, fun q => (hq c hc).2 (by rw [Int32.lt_iff_toInt_lt] at q ⊢; have e1 : (65535 : Int32).toInt = 65535 := rfl; have e2 : (255 : Int32).toInt = 255 := rfl; omega)⟩
theorem lolo (z : Int32) : z.toInt8.toInt32.toInt8.toInt32 = lo z := by simp [lo]
/-- a String of one char, by its byte -/
theorem str1 {z : Int32} {t : Addr} {kb : ClassId} (hz : Lat z) (E : Exa Z h a "java/lang/String") (C : Fld Z h a "java/lang/String" "coder" "B" (.int 0)) (V : Fld Z h a "java/lang/String" "value" "[B" (.ref t)) (A : Arv Z h t kb .byte (1 : Int32) [(.int z.toInt8.toInt32.toInt8.toInt32)] (.int (0 : Int32))) : Str Z h a [z] := by
  rw [lolo] at A
  exact ⟨fun c hc => by cases List.mem_singleton.mp hc; exact hz, Nat.le_of_ble_eq_true rfl, E, C, t, kb, V, A⟩
/-- an object of another class is written: the String stands as it stood -/
theorem Str.keepE {cs : List Int32} {C : String} {n : Nat} (S : Str Z h a cs) (K : Keep h h' [x]) (E : Exa Z h x C) (hC : C ≠ "java/lang/String") (wi : (Jvm.Cond.instantiable C n).before a0 Z = true) : Str Z h' a cs := by
  obtain ⟨h1, h2, h3, h4, t, kb, h5, h6⟩ := S
  have n1 : a ∉ [x] := ninS (Ne.symm (Exa.ne E h3 hC)) nin0
  have n2 : t ∉ [x] := ninS (Ne.symm (Exa.neArv E h6 wi)) nin0
  exact ⟨h1, h2, h3.keep K, h4.keep K n1, t, kb, h5.keep K n1, h6.keep K n2⟩
/-- a value that is null, or a String of these chars -/
def NStr (Z : State) (h : Heap) (u : Value) : Option (List Int32) → Prop
  | none => u = .null
  | some cs => ∃ r, u = .ref r ∧ Str Z h r cs
theorem NStr.ext {u : Value} {o : Option (List Int32)} (S : NStr Z h u o) (E : Ext h h') : NStr Z h' u o := by
  cases o with
  | none => exact S
  | some cs => obtain ⟨r, e, q⟩ := S; exact ⟨r, e, q.ext E⟩
theorem NStr.keepE {u : Value} {o : Option (List Int32)} {C : String} {n : Nat} (S : NStr Z h u o) (K : Keep h h' [x]) (E : Exa Z h x C) (hC : C ≠ "java/lang/String") (wi : (Jvm.Cond.instantiable C n).before a0 Z = true) : NStr Z h' u o := by
  cases o with
  | none => exact S
  | some cs => obtain ⟨r, e, q⟩ := S; exact ⟨r, e, q.keepE K E hC wi⟩
theorem NStr.isRef {u : Value} {o : Option (List Int32)} (S : NStr Z h u o) : u.isRef = true := by
  cases o with
  | none => cases S; rfl
  | some cs => obtain ⟨r, rfl, q⟩ := S; rfl
theorem NStr.cases {u : Value} {o : Option (List Int32)} (S : NStr Z h u o) : (u = .null ∧ o = none) ∨ ∃ r cs, u = .ref r ∧ o = some cs ∧ Str Z h r cs := by
  cases o with
  | none => exact Or.inl ⟨S, rfl⟩
  | some cs => obtain ⟨r, e, q⟩ := S; exact Or.inr ⟨r, cs, e, rfl, q⟩
end Str0
end Own
namespace Own
section Own2
variable {p : Program} {l : Launch} {e : Env} {R : Room} {s : State} {m : MethodId} {args : Array Value} {below : List Frame} {meth : Method} {c : Code} {Z : State} {a0 : Array Value} {EL : List (String × Nat)} {y : MethodName} {bytes : ByteArray} {ml : Nat} {ret : Option FieldType} {w : Bool} {h0 : Heap} {ws ws' : List Addr} {vm0 vm1 : Vm} {T T' : State} {h h' h1 : Heap} {locs locs' : List Loc} {cells slots cells' slots' : Nat} {F : State → Option Value → Prop} {pc pc' : Nat} {Ls Ls' : Array Slot} {rest : List Value} {a b x : Addr}
/-- System.arraycopy between two arrays of one plain kind -/
theorem s_arraycopy {idx : Nat} {k k' : ClassId} {ty : FieldType} {z z' sp dp nn : Int32} {vs vd us vd' : List Value} {dv dd : Value} (X : Wk p l e R s m args below meth c Z a0 EL y bytes ml ret w h0 ws vm0 T h locs cells slots) (hd : decode bytes pc = .ok (.invokestatic idx, 3)) (w1 : (Jvm.Cond.methodLink y.cls idx Jvm.Stand.acN).before a0 Z = true) (w2 : (Jvm.Cond.native Jvm.Stand.acN).before a0 Z = true) (w3 : (Jvm.Cond.static Jvm.Stand.acN).before a0 Z = true) (w4 : (Jvm.Cond.initialized "java/lang/System").before a0 Z = true)
    (A : Arv Z h a k ty z vs dv) (B : Arv Z h b k' ty z' vd dd) (hty : refKind ty = false) (h1 : ¬ sp < 0) (h2 : ¬ dp < 0) (h3 : ¬ nn < 0) (h4 : sp.toNatClampNeg + nn.toNatClampNeg ≤ z.toNatClampNeg) (h5 : dp.toNatClampNeg + nn.toNatClampNeg ≤ z'.toNatClampNeg)
    (hus : us = (List.range nn.toNatClampNeg).map fun i => vs.getD (sp.toNatClampNeg + i) dv) (hl : dp.toNatClampNeg + nn.toNatClampNeg ≤ vd.length) (hvd : vd.take dp.toNatClampNeg ++ us ++ vd.drop (dp.toNatClampNeg + nn.toNatClampNeg) = vd') (Ob : Ok w Z EL h0 ws vm0 h b)
    (hsz : Ls.size = ml) (W : Nat) (hW : (rest.map fun v => v.category).sum ≤ W) (hf : 1 ≤ R.frames) (hlo : W + (nativeFrameWords "java/lang/System" "arraycopy" 5 + 11) ≤ R.locals) (hp : pc + 3 = pc')
    (kk : ∀ T' h' L, Wk p l e R s m args below meth c Z a0 EL y bytes ml ret w h0 ws vm0 T' h' L cells slots → Ev w Z EL vm0 h vm0 h' [b] → Arv Z h' b k' ty z' vd' dd → Go p e below F T' (mkF m pc' Ls rest)) : Go p e below F T (mkF m pc Ls (.int nn :: .int dp :: .ref b :: .int sp :: .ref a :: rest)) := by
  subst hp hvd
  obtain ⟨T', h', L, X', e', N, K, A', st⟩ := cpA X.st X.hx X.hZ X.hown w1 w2 w3 w4 X.hT A B (Or.inl ⟨rfl, hty⟩) h1 h2 h3 h4 h5 hus hl X.hN Ob.2.1 (g := mkF m pc Ls (.int nn :: .int dp :: .ref b :: .int sp :: .ref a :: rest)) rfl (hsz.trans X.hml.symm) rfl (hb X.hby hd) hf (W := W) (by show 2 * 0 + _ ≤ _; omega) hlo
  have V := X.evK K Ob.one
  exact (kk T' h' L (X.same X' e' N V (Ok.two Ob.one)) V A').by fun t r => st t r
theorem lo_inj {u v : Int32} (hu : Lat u) (hv : Lat v) (h : lo u = lo v) : u = v := by
  have e : ∀ {z : Int32}, Lat z → (lo z).toInt % 256 = z.toInt := fun {z} q => by
    have h1 := (c_i2b z).1
    have q1 := q.1; have q2 := q.2
    rw [Int32.lt_iff_toInt_lt] at q1 q2
    have e1 : (0 : Int32).toInt = 0 := by decide
    have e2 : (255 : Int32).toInt = 255 := by decide
    simp only [lo]
    omega
  apply Int32.toInt_inj.mp
  rw [← e hu, ← e hv, h]
/-- what stands before the first ch -/
def tw : List Int32 → Int32 → List Int32
  | [], _ => []
  | c :: r, ch => if c = ch then [] else c :: tw r ch
theorem tw_nil (ch : Int32) : tw [] ch = [] := rfl
theorem tw_hit {c ch : Int32} {r : List Int32} (h : c = ch) : tw (c :: r) ch = [] := by simp [tw, h]
theorem tw_miss {c ch : Int32} {r : List Int32} (h : ¬ c = ch) : tw (c :: r) ch = c :: tw r ch := by simp [tw, h]
theorem ofNat_toNat {n : Nat} (h : n < 2147483648) : (Int32.ofNat n).toNatClampNeg = n := by
  have hz : (Int32.size : Int) = 4294967296 := by decide
  have h1 : (Int32.ofNat n).toInt = n := by
    rw [Int32.toInt_ofNat']; exact Int.bmod_eq_of_le (by omega) (by omega)
  simp only [Int32.toNatClampNeg, h1]; omega
theorem ofNat_toInt {n : Nat} (h : n < 2147483648) : (Int32.ofNat n).toInt = n := by
  have hz : (Int32.size : Int) = 4294967296 := by decide
  rw [Int32.toInt_ofNat']; exact Int.bmod_eq_of_le (by omega) (by omega)
theorem ofNat_lt {i n : Nat} (hi : i < 2147483648) (hn : n < 2147483648) : Int32.ofNat i < Int32.ofNat n ↔ i < n := by
  rw [Int32.lt_iff_toInt_lt, ofNat_toInt hi, ofNat_toInt hn]; omega
theorem ofNat_nneg {n : Nat} (h : n < 2147483648) : ¬ Int32.ofNat n < 0 := by
  rw [Int32.lt_iff_toInt_lt, ofNat_toInt h]; have e1 : (0 : Int32).toInt = 0 := by decide
  omega
theorem ofNat_succ (n : Nat) : Int32.ofNat n + 1 = Int32.ofNat (n + 1) := by
  apply Int32.toInt_inj.mp
  rw [Int32.toInt_add, Int32.toInt_ofNat', Int32.toInt_ofNat']
  have e1 : (1 : Int32).toInt = 1 := by decide
  rw [e1]
  simp
end Own2
end Own

namespace Own
theorem latN : ∀ c ∈ ([] : List Int32), Lat c := fun _ q => nomatch q
theorem latL {z : Int32} {L : List Int32} (q : Lat z) (r : ∀ c ∈ L, Lat c) : ∀ c ∈ z :: L, Lat c := fun c hc => (List.mem_cons.mp hc).elim (fun e => e ▸ q) (r c)
end Own
namespace Own
section Str1
variable {p : Program} {l : Launch} {e : Env} {R : Room} {s : State} {args : Array Value} {below : List Frame} {Z : State} {a0 : Array Value} {h h' h1 : Heap} {rest : List Value} {a b x : Addr} {len W : Nat} {cs ds : List Int32}
/-- new String(chars) -/
theorem strNew {kC : ClassId} {d v0 c0 : Value} {z N : Int32} {n : Nat} (hZ : Z.Warmed39 s.vm) (hws : ∀ d ∈ StrChars.Road.words, d.before a0 Z = true) (wi : (Jvm.Cond.instantiable "java/lang/String" 4).before a0 Z = true) (hx0 : Z.heap.size ≤ x) (hh0 : Z.heap.size ≤ h.size) (E : Exa Z h x "java/lang/String") (V : Fld Z h x "java/lang/String" "value" "[B" v0) (C : Fld Z h x "java/lang/String" "coder" "B" c0) (K : Arv Z h b kC .char N (cs.map Value.int) d) (S : Sta Z h "java/lang/String" "COMPACT_STRINGS" "Z" (.int z)) (hz : ¬ z = 0)
    (hn : cs.length = n) (hN : N = Int32.ofNat n) (l0 : 0 < n) (l2 : n ≤ 4000) (hp : ∀ c ∈ cs, Lat c) (hfr : 4 ≤ R.frames) (hlo : W + 65 ≤ R.locals) :
    Back l R p e below s args (⟨"java/lang/String", "<init>", "([C)V"⟩ : MethodName) len W (fun P a => a = #[.ref x, .ref b] ∧ P.U.heap = h ∧ P.cells + 1 ≤ R.cells ∧ P.slots + n ≤ R.slots)
      (fun P _ v B => ∃ L, StrChars.Road.QV Z x N (cs.map fun c => c.toInt8.toInt32) h Z.heap.size v B.U.heap L ∧ B.locs = P.locs ++ L ∧ B.cells = P.cells + 1 ∧ B.slots = P.slots + n) :=
  StrChars.Road.backV hZ hws wi hx0 hh0 E V C K S hz hn hN l0 l2 hp rfl hfr hlo
theorem strNewQ {N : Int32} {n : Nat} {v : Option Value} {L : List Loc} (hn : cs.length = n) (hN : N = Int32.ofNat n) (l2 : n ≤ 4000) (hp : ∀ c ∈ cs, Lat c) (q : StrChars.Road.QV Z x N (cs.map fun c => c.toInt8.toInt32) h Z.heap.size v h' L) : Fr Z.heap.size L ∧ Keep h h' [x] ∧ (v = none ∧ Str Z h' x cs) := by
  obtain ⟨q1, q2, q3, q4, q5, t, kb, -, -, -, q6, q7⟩ := q
  subst hn hN
  exact ⟨q2, q3, q1, hp, l2, q4, q5, t, kb, q6, q7⟩
end Str1
end Own

theorem tw0 {Z : State} {a0 : Array Value} (hw : ∀ d ∈ tables_1, d.before a0 Z = true) : (Jvm.Cond.methodLink "com/example/chiron/chiron/query/IsAPatternSlotsPinLaw" (7 : Nat) ({ cls := "com/example/chiron/chiron/query/IsAPatternSlotsPinLaw", name := "slot", desc := "(II)Lcom/example/chiron/chiron/query/GraphQuery$Slot;" } : Jvm.MethodName)).before a0 Z = true := hw _ (List.mem_of_getElem? (i := 0) rfl)
theorem tw1 {Z : State} {a0 : Array Value} (hw : ∀ d ∈ tables_1, d.before a0 Z = true) : (Jvm.Cond.static ({ cls := "com/example/chiron/chiron/query/IsAPatternSlotsPinLaw", name := "slot", desc := "(II)Lcom/example/chiron/chiron/query/GraphQuery$Slot;" } : Jvm.MethodName)).before a0 Z = true := hw _ (List.mem_of_getElem? (i := 1) rfl)
theorem tw2 {Z : State} {a0 : Array Value} (hw : ∀ d ∈ tables_1, d.before a0 Z = true) : (Jvm.Cond.initialized "com/example/chiron/chiron/query/IsAPatternSlotsPinLaw").before a0 Z = true := hw _ (List.mem_of_getElem? (i := 2) rfl)
theorem tw3 {Z : State} {a0 : Array Value} (hw : ∀ d ∈ tables_1, d.before a0 Z = true) : (Jvm.Cond.code ({ cls := "com/example/chiron/chiron/query/IsAPatternSlotsPinLaw", name := "slot", desc := "(II)Lcom/example/chiron/chiron/query/GraphQuery$Slot;" } : Jvm.MethodName) method_3_code (4 : Nat) (Option.some (Jvm.ClassFile.FieldType.object "com/example/chiron/chiron/query/GraphQuery$Slot"))).before a0 Z = true := hw _ (List.mem_of_getElem? (i := 3) rfl)
theorem tw4 {Z : State} {a0 : Array Value} (hw : ∀ d ∈ tables_1, d.before a0 Z = true) : (Jvm.Cond.arrayClass Jvm.ClassFile.FieldType.char).before a0 Z = true := hw _ (List.mem_of_getElem? (i := 4) rfl)
theorem tw5 {Z : State} {a0 : Array Value} (hw : ∀ d ∈ tables_1, d.before a0 Z = true) : (Jvm.Cond.classLink "com/example/chiron/chiron/query/IsAPatternSlotsPinLaw" (32 : Nat) "java/lang/String").before a0 Z = true := hw _ (List.mem_of_getElem? (i := 5) rfl)
theorem tw6 {Z : State} {a0 : Array Value} (hw : ∀ d ∈ tables_1, d.before a0 Z = true) : (Jvm.Cond.instantiable "java/lang/String" (4 : Nat)).before a0 Z = true := hw _ (List.mem_of_getElem? (i := 6) rfl)
theorem tw7 {Z : State} {a0 : Array Value} (hw : ∀ d ∈ tables_1, d.before a0 Z = true) : (Jvm.Cond.initialized "java/lang/String").before a0 Z = true := hw _ (List.mem_of_getElem? (i := 7) rfl)
theorem tw8 {Z : State} {a0 : Array Value} (hw : ∀ d ∈ tables_1, d.before a0 Z = true) : (Jvm.Cond.methodLink "com/example/chiron/chiron/query/IsAPatternSlotsPinLaw" (34 : Nat) ({ cls := "java/lang/String", name := "<init>", desc := "([C)V" } : Jvm.MethodName)).before a0 Z = true := hw _ (List.mem_of_getElem? (i := 8) rfl)
theorem tw9 {Z : State} {a0 : Array Value} (hw : ∀ d ∈ tables_1, d.before a0 Z = true) : (Jvm.Cond.instanceMethod ({ cls := "java/lang/String", name := "<init>", desc := "([C)V" } : Jvm.MethodName)).before a0 Z = true := hw _ (List.mem_of_getElem? (i := 9) rfl)
theorem tw10 {Z : State} {a0 : Array Value} (hw : ∀ d ∈ tables_1, d.before a0 Z = true) : (Jvm.Cond.code ({ cls := "java/lang/String", name := "<init>", desc := "([C)V" } : Jvm.MethodName) jdk_42_method_3_code (2 : Nat) (Option.none : Option Jvm.ClassFile.FieldType)).before a0 Z = true := hw _ (List.mem_of_getElem? (i := 10) rfl)
theorem tw16 {Z : State} {a0 : Array Value} (hw : ∀ d ∈ tables_1, d.before a0 Z = true) : (Jvm.Cond.instanceMethod ({ cls := "java/lang/Object", name := "<init>", desc := "()V" } : Jvm.MethodName)).before a0 Z = true := hw _ (List.mem_of_getElem? (i := 16) rfl)
theorem tw17 {Z : State} {a0 : Array Value} (hw : ∀ d ∈ tables_1, d.before a0 Z = true) : (Jvm.Cond.code ({ cls := "java/lang/Object", name := "<init>", desc := "()V" } : Jvm.MethodName) object_method_1_code (1 : Nat) (Option.none : Option Jvm.ClassFile.FieldType)).before a0 Z = true := hw _ (List.mem_of_getElem? (i := 17) rfl)
theorem tw18 {Z : State} {a0 : Array Value} (hw : ∀ d ∈ tables_1, d.before a0 Z = true) : (Jvm.Cond.fieldLink "java/lang/String" (38 : Nat) "java/lang/String" "COMPACT_STRINGS" "Z").before a0 Z = true := hw _ (List.mem_of_getElem? (i := 18) rfl)
theorem tw23 {Z : State} {a0 : Array Value} (hw : ∀ d ∈ tables_1, d.before a0 Z = true) : (Jvm.Cond.arrayClass Jvm.ClassFile.FieldType.byte).before a0 Z = true := hw _ (List.mem_of_getElem? (i := 23) rfl)
theorem tw30 {Z : State} {a0 : Array Value} (hw : ∀ d ∈ tables_1, d.before a0 Z = true) : (Jvm.Cond.fieldLink "java/lang/String" (15 : Nat) "java/lang/String" "coder" "B").before a0 Z = true := hw _ (List.mem_of_getElem? (i := 30) rfl)
theorem tw31 {Z : State} {a0 : Array Value} (hw : ∀ d ∈ tables_1, d.before a0 Z = true) : (Jvm.Cond.laysFinal "java/lang/String" "java/lang/String" "coder" "B").before a0 Z = true := hw _ (List.mem_of_getElem? (i := 31) rfl)
theorem tw32 {Z : State} {a0 : Array Value} (hw : ∀ d ∈ tables_1, d.before a0 Z = true) : (Jvm.Cond.fieldLink "java/lang/String" (9 : Nat) "java/lang/String" "value" "[B").before a0 Z = true := hw _ (List.mem_of_getElem? (i := 32) rfl)
theorem tw33 {Z : State} {a0 : Array Value} (hw : ∀ d ∈ tables_1, d.before a0 Z = true) : (Jvm.Cond.laysFinal "java/lang/String" "java/lang/String" "value" "[B").before a0 Z = true := hw _ (List.mem_of_getElem? (i := 33) rfl)
theorem tw34 {Z : State} {a0 : Array Value} (hw : ∀ d ∈ tables_1, d.before a0 Z = true) : (Jvm.Cond.methodLink "com/example/chiron/chiron/query/IsAPatternSlotsPinLaw" (53 : Nat) ({ cls := "com/example/chiron/chiron/graph/Term", name := "blank", desc := "(Ljava/lang/String;)Lcom/example/chiron/chiron/graph/Term;" } : Jvm.MethodName)).before a0 Z = true := hw _ (List.mem_of_getElem? (i := 34) rfl)
theorem tw35 {Z : State} {a0 : Array Value} (hw : ∀ d ∈ tables_1, d.before a0 Z = true) : (Jvm.Cond.static ({ cls := "com/example/chiron/chiron/graph/Term", name := "blank", desc := "(Ljava/lang/String;)Lcom/example/chiron/chiron/graph/Term;" } : Jvm.MethodName)).before a0 Z = true := hw _ (List.mem_of_getElem? (i := 35) rfl)
theorem tw36 {Z : State} {a0 : Array Value} (hw : ∀ d ∈ tables_1, d.before a0 Z = true) : (Jvm.Cond.initialized "com/example/chiron/chiron/graph/Term").before a0 Z = true := hw _ (List.mem_of_getElem? (i := 36) rfl)
theorem tw37 {Z : State} {a0 : Array Value} (hw : ∀ d ∈ tables_1, d.before a0 Z = true) : (Jvm.Cond.code ({ cls := "com/example/chiron/chiron/graph/Term", name := "blank", desc := "(Ljava/lang/String;)Lcom/example/chiron/chiron/graph/Term;" } : Jvm.MethodName) prog_7_method_3_code (1 : Nat) (Option.some (Jvm.ClassFile.FieldType.object "com/example/chiron/chiron/graph/Term"))).before a0 Z = true := hw _ (List.mem_of_getElem? (i := 37) rfl)
theorem tw38 {Z : State} {a0 : Array Value} (hw : ∀ d ∈ tables_1, d.before a0 Z = true) : (Jvm.Cond.classLink "com/example/chiron/chiron/graph/Term" (27 : Nat) "com/example/chiron/chiron/graph/Term").before a0 Z = true := hw _ (List.mem_of_getElem? (i := 38) rfl)
theorem tw39 {Z : State} {a0 : Array Value} (hw : ∀ d ∈ tables_1, d.before a0 Z = true) : (Jvm.Cond.instantiable "com/example/chiron/chiron/graph/Term" (4 : Nat)).before a0 Z = true := hw _ (List.mem_of_getElem? (i := 39) rfl)
theorem tw40 {Z : State} {a0 : Array Value} (hw : ∀ d ∈ tables_1, d.before a0 Z = true) : (Jvm.Cond.fieldLink "com/example/chiron/chiron/graph/Term" (52 : Nat) "com/example/chiron/chiron/graph/Term$Kind" "BLANK" "Lcom/example/chiron/chiron/graph/Term$Kind;").before a0 Z = true := hw _ (List.mem_of_getElem? (i := 40) rfl)
theorem tw41 {Z : State} {a0 : Array Value} (hw : ∀ d ∈ tables_1, d.before a0 Z = true) : (Jvm.Cond.initialized "com/example/chiron/chiron/graph/Term$Kind").before a0 Z = true := hw _ (List.mem_of_getElem? (i := 41) rfl)
theorem tw42 {Z : State} {a0 : Array Value} (hw : ∀ d ∈ tables_1, d.before a0 Z = true) : (Jvm.Cond.laysStatic "com/example/chiron/chiron/graph/Term$Kind" "BLANK" "Lcom/example/chiron/chiron/graph/Term$Kind;").before a0 Z = true := hw _ (List.mem_of_getElem? (i := 42) rfl)
theorem tw43 {Z : State} {a0 : Array Value} (hw : ∀ d ∈ tables_1, d.before a0 Z = true) : (Jvm.Cond.stringLink "com/example/chiron/chiron/graph/Term" (47 : Nat) "").before a0 Z = true := hw _ (List.mem_of_getElem? (i := 43) rfl)
theorem tw46 {Z : State} {a0 : Array Value} (hw : ∀ d ∈ tables_1, d.before a0 Z = true) : (Jvm.Cond.methodLink "com/example/chiron/chiron/graph/Term" (49 : Nat) ({ cls := "com/example/chiron/chiron/graph/Term", name := "<init>", desc := "(Lcom/example/chiron/chiron/graph/Term$Kind;Ljava/lang/String;Ljava/lang/String;Ljava/lang/String;)V" } : Jvm.MethodName)).before a0 Z = true := hw _ (List.mem_of_getElem? (i := 46) rfl)
theorem tw47 {Z : State} {a0 : Array Value} (hw : ∀ d ∈ tables_1, d.before a0 Z = true) : (Jvm.Cond.instanceMethod ({ cls := "com/example/chiron/chiron/graph/Term", name := "<init>", desc := "(Lcom/example/chiron/chiron/graph/Term$Kind;Ljava/lang/String;Ljava/lang/String;Ljava/lang/String;)V" } : Jvm.MethodName)).before a0 Z = true := hw _ (List.mem_of_getElem? (i := 47) rfl)
theorem tw48 {Z : State} {a0 : Array Value} (hw : ∀ d ∈ tables_1, d.before a0 Z = true) : (Jvm.Cond.code ({ cls := "com/example/chiron/chiron/graph/Term", name := "<init>", desc := "(Lcom/example/chiron/chiron/graph/Term$Kind;Ljava/lang/String;Ljava/lang/String;Ljava/lang/String;)V" } : Jvm.MethodName) prog_7_method_1_code (5 : Nat) (Option.none : Option Jvm.ClassFile.FieldType)).before a0 Z = true := hw _ (List.mem_of_getElem? (i := 48) rfl)
theorem tw49 {Z : State} {a0 : Array Value} (hw : ∀ d ∈ tables_1, d.before a0 Z = true) : (Jvm.Cond.methodLink "com/example/chiron/chiron/graph/Term" (1 : Nat) ({ cls := "java/lang/Record", name := "<init>", desc := "()V" } : Jvm.MethodName)).before a0 Z = true := hw _ (List.mem_of_getElem? (i := 49) rfl)
theorem tw50 {Z : State} {a0 : Array Value} (hw : ∀ d ∈ tables_1, d.before a0 Z = true) : (Jvm.Cond.instanceMethod ({ cls := "java/lang/Record", name := "<init>", desc := "()V" } : Jvm.MethodName)).before a0 Z = true := hw _ (List.mem_of_getElem? (i := 50) rfl)
theorem tw52 {Z : State} {a0 : Array Value} (hw : ∀ d ∈ tables_1, d.before a0 Z = true) : (Jvm.Cond.initialized "java/lang/Record").before a0 Z = true := hw _ (List.mem_of_getElem? (i := 52) rfl)
theorem tw53 {Z : State} {a0 : Array Value} (hw : ∀ d ∈ tables_1, d.before a0 Z = true) : (Jvm.Cond.code ({ cls := "java/lang/Record", name := "<init>", desc := "()V" } : Jvm.MethodName) jdk_30_method_1_code (1 : Nat) (Option.none : Option Jvm.ClassFile.FieldType)).before a0 Z = true := hw _ (List.mem_of_getElem? (i := 53) rfl)
theorem tw54 {Z : State} {a0 : Array Value} (hw : ∀ d ∈ tables_1, d.before a0 Z = true) : (Jvm.Cond.methodLink "java/lang/Record" (1 : Nat) ({ cls := "java/lang/Object", name := "<init>", desc := "()V" } : Jvm.MethodName)).before a0 Z = true := hw _ (List.mem_of_getElem? (i := 54) rfl)
theorem tw55 {Z : State} {a0 : Array Value} (hw : ∀ d ∈ tables_1, d.before a0 Z = true) : (Jvm.Cond.fieldLink "com/example/chiron/chiron/graph/Term" (14 : Nat) "java/util/Locale" "ROOT" "Ljava/util/Locale;").before a0 Z = true := hw _ (List.mem_of_getElem? (i := 55) rfl)
theorem tw57 {Z : State} {a0 : Array Value} (hw : ∀ d ∈ tables_1, d.before a0 Z = true) : (Jvm.Cond.methodLink "com/example/chiron/chiron/graph/Term" (20 : Nat) ({ cls := "java/lang/String", name := "toLowerCase", desc := "(Ljava/util/Locale;)Ljava/lang/String;" } : Jvm.MethodName)).before a0 Z = true := hw _ (List.mem_of_getElem? (i := 57) rfl)
theorem tw58 {Z : State} {a0 : Array Value} (hw : ∀ d ∈ tables_1, d.before a0 Z = true) : (Jvm.Cond.declares ({ cls := "java/lang/String", name := "toLowerCase", desc := "(Ljava/util/Locale;)Ljava/lang/String;" } : Jvm.MethodName)).before a0 Z = true := hw _ (List.mem_of_getElem? (i := 58) rfl)
theorem tw59 {Z : State} {a0 : Array Value} (hw : ∀ d ∈ tables_1, d.before a0 Z = true) : (Jvm.Cond.instanceMethod ({ cls := "java/lang/String", name := "toLowerCase", desc := "(Ljava/util/Locale;)Ljava/lang/String;" } : Jvm.MethodName)).before a0 Z = true := hw _ (List.mem_of_getElem? (i := 59) rfl)
theorem tw60 {Z : State} {a0 : Array Value} (hw : ∀ d ∈ tables_1, d.before a0 Z = true) : (Jvm.Cond.selects "java/lang/String" ({ cls := "java/lang/String", name := "toLowerCase", desc := "(Ljava/util/Locale;)Ljava/lang/String;" } : Jvm.MethodName) ({ cls := "java/lang/String", name := "toLowerCase", desc := "(Ljava/util/Locale;)Ljava/lang/String;" } : Jvm.MethodName)).before a0 Z = true := hw _ (List.mem_of_getElem? (i := 60) rfl)
theorem tw61 {Z : State} {a0 : Array Value} (hw : ∀ d ∈ tables_1, d.before a0 Z = true) : (Jvm.Cond.code ({ cls := "java/lang/String", name := "toLowerCase", desc := "(Ljava/util/Locale;)Ljava/lang/String;" } : Jvm.MethodName) jdk_42_method_109_code (2 : Nat) (Option.some (Jvm.ClassFile.FieldType.object "java/lang/String"))).before a0 Z = true := hw _ (List.mem_of_getElem? (i := 61) rfl)
theorem tw62 {Z : State} {a0 : Array Value} (hw : ∀ d ∈ tables_1, d.before a0 Z = true) : (Jvm.Cond.methodLink "java/lang/String" (492 : Nat) ({ cls := "java/lang/String", name := "isLatin1", desc := "()Z" } : Jvm.MethodName)).before a0 Z = true := hw _ (List.mem_of_getElem? (i := 62) rfl)
theorem tw63 {Z : State} {a0 : Array Value} (hw : ∀ d ∈ tables_1, d.before a0 Z = true) : (Jvm.Cond.declares ({ cls := "java/lang/String", name := "isLatin1", desc := "()Z" } : Jvm.MethodName)).before a0 Z = true := hw _ (List.mem_of_getElem? (i := 63) rfl)
theorem tw64 {Z : State} {a0 : Array Value} (hw : ∀ d ∈ tables_1, d.before a0 Z = true) : (Jvm.Cond.instanceMethod ({ cls := "java/lang/String", name := "isLatin1", desc := "()Z" } : Jvm.MethodName)).before a0 Z = true := hw _ (List.mem_of_getElem? (i := 64) rfl)
theorem tw65 {Z : State} {a0 : Array Value} (hw : ∀ d ∈ tables_1, d.before a0 Z = true) : (Jvm.Cond.selects "java/lang/String" ({ cls := "java/lang/String", name := "isLatin1", desc := "()Z" } : Jvm.MethodName) ({ cls := "java/lang/String", name := "isLatin1", desc := "()Z" } : Jvm.MethodName)).before a0 Z = true := hw _ (List.mem_of_getElem? (i := 65) rfl)
theorem tw66 {Z : State} {a0 : Array Value} (hw : ∀ d ∈ tables_1, d.before a0 Z = true) : (Jvm.Cond.code ({ cls := "java/lang/String", name := "isLatin1", desc := "()Z" } : Jvm.MethodName) jdk_42_method_154_code (1 : Nat) (Option.some Jvm.ClassFile.FieldType.boolean)).before a0 Z = true := hw _ (List.mem_of_getElem? (i := 66) rfl)
theorem tw67 {Z : State} {a0 : Array Value} (hw : ∀ d ∈ tables_1, d.before a0 Z = true) : (Jvm.Cond.methodLink "java/lang/String" (839 : Nat) ({ cls := "java/lang/StringLatin1", name := "toLowerCase", desc := "(Ljava/lang/String;[BLjava/util/Locale;)Ljava/lang/String;" } : Jvm.MethodName)).before a0 Z = true := hw _ (List.mem_of_getElem? (i := 67) rfl)
theorem tw68 {Z : State} {a0 : Array Value} (hw : ∀ d ∈ tables_1, d.before a0 Z = true) : (Jvm.Cond.static ({ cls := "java/lang/StringLatin1", name := "toLowerCase", desc := "(Ljava/lang/String;[BLjava/util/Locale;)Ljava/lang/String;" } : Jvm.MethodName)).before a0 Z = true := hw _ (List.mem_of_getElem? (i := 68) rfl)
theorem tw69 {Z : State} {a0 : Array Value} (hw : ∀ d ∈ tables_1, d.before a0 Z = true) : (Jvm.Cond.initialized "java/lang/StringLatin1").before a0 Z = true := hw _ (List.mem_of_getElem? (i := 69) rfl)
theorem tw70 {Z : State} {a0 : Array Value} (hw : ∀ d ∈ tables_1, d.before a0 Z = true) : (Jvm.Cond.code ({ cls := "java/lang/StringLatin1", name := "toLowerCase", desc := "(Ljava/lang/String;[BLjava/util/Locale;)Ljava/lang/String;" } : Jvm.MethodName) jdk_43_method_32_code (9 : Nat) (Option.some (Jvm.ClassFile.FieldType.object "java/lang/String"))).before a0 Z = true := hw _ (List.mem_of_getElem? (i := 70) rfl)
theorem tw71 {Z : State} {a0 : Array Value} (hw : ∀ d ∈ tables_1, d.before a0 Z = true) : (Jvm.Cond.fieldLink "com/example/chiron/chiron/graph/Term" (26 : Nat) "com/example/chiron/chiron/graph/Term" "kind" "Lcom/example/chiron/chiron/graph/Term$Kind;").before a0 Z = true := hw _ (List.mem_of_getElem? (i := 71) rfl)
theorem tw72 {Z : State} {a0 : Array Value} (hw : ∀ d ∈ tables_1, d.before a0 Z = true) : (Jvm.Cond.laysFinal "com/example/chiron/chiron/graph/Term" "com/example/chiron/chiron/graph/Term" "kind" "Lcom/example/chiron/chiron/graph/Term$Kind;").before a0 Z = true := hw _ (List.mem_of_getElem? (i := 72) rfl)
theorem tw73 {Z : State} {a0 : Array Value} (hw : ∀ d ∈ tables_1, d.before a0 Z = true) : (Jvm.Cond.fieldLink "com/example/chiron/chiron/graph/Term" (32 : Nat) "com/example/chiron/chiron/graph/Term" "value" "Ljava/lang/String;").before a0 Z = true := hw _ (List.mem_of_getElem? (i := 73) rfl)
theorem tw74 {Z : State} {a0 : Array Value} (hw : ∀ d ∈ tables_1, d.before a0 Z = true) : (Jvm.Cond.laysFinal "com/example/chiron/chiron/graph/Term" "com/example/chiron/chiron/graph/Term" "value" "Ljava/lang/String;").before a0 Z = true := hw _ (List.mem_of_getElem? (i := 74) rfl)
theorem tw75 {Z : State} {a0 : Array Value} (hw : ∀ d ∈ tables_1, d.before a0 Z = true) : (Jvm.Cond.fieldLink "com/example/chiron/chiron/graph/Term" (36 : Nat) "com/example/chiron/chiron/graph/Term" "language" "Ljava/lang/String;").before a0 Z = true := hw _ (List.mem_of_getElem? (i := 75) rfl)
theorem tw76 {Z : State} {a0 : Array Value} (hw : ∀ d ∈ tables_1, d.before a0 Z = true) : (Jvm.Cond.laysFinal "com/example/chiron/chiron/graph/Term" "com/example/chiron/chiron/graph/Term" "language" "Ljava/lang/String;").before a0 Z = true := hw _ (List.mem_of_getElem? (i := 76) rfl)
theorem tw77 {Z : State} {a0 : Array Value} (hw : ∀ d ∈ tables_1, d.before a0 Z = true) : (Jvm.Cond.fieldLink "com/example/chiron/chiron/graph/Term" (39 : Nat) "com/example/chiron/chiron/graph/Term" "datatype" "Ljava/lang/String;").before a0 Z = true := hw _ (List.mem_of_getElem? (i := 77) rfl)
theorem tw78 {Z : State} {a0 : Array Value} (hw : ∀ d ∈ tables_1, d.before a0 Z = true) : (Jvm.Cond.laysFinal "com/example/chiron/chiron/graph/Term" "com/example/chiron/chiron/graph/Term" "datatype" "Ljava/lang/String;").before a0 Z = true := hw _ (List.mem_of_getElem? (i := 78) rfl)
theorem tw79 {Z : State} {a0 : Array Value} (hw : ∀ d ∈ tables_1, d.before a0 Z = true) : (Jvm.Cond.methodLink "com/example/chiron/chiron/query/IsAPatternSlotsPinLaw" (49 : Nat) ({ cls := "com/example/chiron/chiron/query/GraphQuery$Slot", name := "ofConstant", desc := "(Lcom/example/chiron/chiron/graph/Term;)Lcom/example/chiron/chiron/query/GraphQuery$Slot;" } : Jvm.MethodName)).before a0 Z = true := hw _ (List.mem_of_getElem? (i := 79) rfl)
theorem tw80 {Z : State} {a0 : Array Value} (hw : ∀ d ∈ tables_1, d.before a0 Z = true) : (Jvm.Cond.static ({ cls := "com/example/chiron/chiron/query/GraphQuery$Slot", name := "ofConstant", desc := "(Lcom/example/chiron/chiron/graph/Term;)Lcom/example/chiron/chiron/query/GraphQuery$Slot;" } : Jvm.MethodName)).before a0 Z = true := hw _ (List.mem_of_getElem? (i := 80) rfl)
theorem tw81 {Z : State} {a0 : Array Value} (hw : ∀ d ∈ tables_1, d.before a0 Z = true) : (Jvm.Cond.initialized "com/example/chiron/chiron/query/GraphQuery$Slot").before a0 Z = true := hw _ (List.mem_of_getElem? (i := 81) rfl)
theorem tw82 {Z : State} {a0 : Array Value} (hw : ∀ d ∈ tables_1, d.before a0 Z = true) : (Jvm.Cond.code ({ cls := "com/example/chiron/chiron/query/GraphQuery$Slot", name := "ofConstant", desc := "(Lcom/example/chiron/chiron/graph/Term;)Lcom/example/chiron/chiron/query/GraphQuery$Slot;" } : Jvm.MethodName) prog_28_method_3_code (1 : Nat) (Option.some (Jvm.ClassFile.FieldType.object "com/example/chiron/chiron/query/GraphQuery$Slot"))).before a0 Z = true := hw _ (List.mem_of_getElem? (i := 82) rfl)
theorem tw83 {Z : State} {a0 : Array Value} (hw : ∀ d ∈ tables_1, d.before a0 Z = true) : (Jvm.Cond.classLink "com/example/chiron/chiron/query/GraphQuery$Slot" (15 : Nat) "com/example/chiron/chiron/query/GraphQuery$Slot").before a0 Z = true := hw _ (List.mem_of_getElem? (i := 83) rfl)
theorem tw84 {Z : State} {a0 : Array Value} (hw : ∀ d ∈ tables_1, d.before a0 Z = true) : (Jvm.Cond.instantiable "com/example/chiron/chiron/query/GraphQuery$Slot" (2 : Nat)).before a0 Z = true := hw _ (List.mem_of_getElem? (i := 84) rfl)
theorem tw85 {Z : State} {a0 : Array Value} (hw : ∀ d ∈ tables_1, d.before a0 Z = true) : (Jvm.Cond.methodLink "com/example/chiron/chiron/query/GraphQuery$Slot" (24 : Nat) ({ cls := "com/example/chiron/chiron/query/GraphQuery$Slot", name := "<init>", desc := "(Ljava/lang/String;Lcom/example/chiron/chiron/graph/Term;)V" } : Jvm.MethodName)).before a0 Z = true := hw _ (List.mem_of_getElem? (i := 85) rfl)
theorem tw86 {Z : State} {a0 : Array Value} (hw : ∀ d ∈ tables_1, d.before a0 Z = true) : (Jvm.Cond.instanceMethod ({ cls := "com/example/chiron/chiron/query/GraphQuery$Slot", name := "<init>", desc := "(Ljava/lang/String;Lcom/example/chiron/chiron/graph/Term;)V" } : Jvm.MethodName)).before a0 Z = true := hw _ (List.mem_of_getElem? (i := 86) rfl)
theorem tw87 {Z : State} {a0 : Array Value} (hw : ∀ d ∈ tables_1, d.before a0 Z = true) : (Jvm.Cond.code ({ cls := "com/example/chiron/chiron/query/GraphQuery$Slot", name := "<init>", desc := "(Ljava/lang/String;Lcom/example/chiron/chiron/graph/Term;)V" } : Jvm.MethodName) prog_28_method_1_code (3 : Nat) (Option.none : Option Jvm.ClassFile.FieldType)).before a0 Z = true := hw _ (List.mem_of_getElem? (i := 87) rfl)
theorem tw88 {Z : State} {a0 : Array Value} (hw : ∀ d ∈ tables_1, d.before a0 Z = true) : (Jvm.Cond.methodLink "com/example/chiron/chiron/query/GraphQuery$Slot" (1 : Nat) ({ cls := "java/lang/Record", name := "<init>", desc := "()V" } : Jvm.MethodName)).before a0 Z = true := hw _ (List.mem_of_getElem? (i := 88) rfl)
theorem tw89 {Z : State} {a0 : Array Value} (hw : ∀ d ∈ tables_1, d.before a0 Z = true) : (Jvm.Cond.fieldLink "com/example/chiron/chiron/query/GraphQuery$Slot" (14 : Nat) "com/example/chiron/chiron/query/GraphQuery$Slot" "variable" "Ljava/lang/String;").before a0 Z = true := hw _ (List.mem_of_getElem? (i := 89) rfl)
theorem tw90 {Z : State} {a0 : Array Value} (hw : ∀ d ∈ tables_1, d.before a0 Z = true) : (Jvm.Cond.laysFinal "com/example/chiron/chiron/query/GraphQuery$Slot" "com/example/chiron/chiron/query/GraphQuery$Slot" "variable" "Ljava/lang/String;").before a0 Z = true := hw _ (List.mem_of_getElem? (i := 90) rfl)
theorem tw91 {Z : State} {a0 : Array Value} (hw : ∀ d ∈ tables_1, d.before a0 Z = true) : (Jvm.Cond.fieldLink "com/example/chiron/chiron/query/GraphQuery$Slot" (20 : Nat) "com/example/chiron/chiron/query/GraphQuery$Slot" "constant" "Lcom/example/chiron/chiron/graph/Term;").before a0 Z = true := hw _ (List.mem_of_getElem? (i := 91) rfl)
theorem tw92 {Z : State} {a0 : Array Value} (hw : ∀ d ∈ tables_1, d.before a0 Z = true) : (Jvm.Cond.laysFinal "com/example/chiron/chiron/query/GraphQuery$Slot" "com/example/chiron/chiron/query/GraphQuery$Slot" "constant" "Lcom/example/chiron/chiron/graph/Term;").before a0 Z = true := hw _ (List.mem_of_getElem? (i := 92) rfl)
theorem tw93 {Z : State} {a0 : Array Value} (hw : ∀ d ∈ tables_1, d.before a0 Z = true) : (Jvm.Cond.methodLink "com/example/chiron/chiron/query/IsAPatternSlotsPinLaw" (43 : Nat) ({ cls := "com/example/chiron/chiron/graph/Term", name := "iri", desc := "(Ljava/lang/String;)Lcom/example/chiron/chiron/graph/Term;" } : Jvm.MethodName)).before a0 Z = true := hw _ (List.mem_of_getElem? (i := 93) rfl)
theorem tw94 {Z : State} {a0 : Array Value} (hw : ∀ d ∈ tables_1, d.before a0 Z = true) : (Jvm.Cond.static ({ cls := "com/example/chiron/chiron/graph/Term", name := "iri", desc := "(Ljava/lang/String;)Lcom/example/chiron/chiron/graph/Term;" } : Jvm.MethodName)).before a0 Z = true := hw _ (List.mem_of_getElem? (i := 94) rfl)
theorem tw95 {Z : State} {a0 : Array Value} (hw : ∀ d ∈ tables_1, d.before a0 Z = true) : (Jvm.Cond.code ({ cls := "com/example/chiron/chiron/graph/Term", name := "iri", desc := "(Ljava/lang/String;)Lcom/example/chiron/chiron/graph/Term;" } : Jvm.MethodName) prog_7_method_2_code (1 : Nat) (Option.some (Jvm.ClassFile.FieldType.object "com/example/chiron/chiron/graph/Term"))).before a0 Z = true := hw _ (List.mem_of_getElem? (i := 95) rfl)
theorem tw96 {Z : State} {a0 : Array Value} (hw : ∀ d ∈ tables_1, d.before a0 Z = true) : (Jvm.Cond.fieldLink "com/example/chiron/chiron/graph/Term" (42 : Nat) "com/example/chiron/chiron/graph/Term$Kind" "IRI" "Lcom/example/chiron/chiron/graph/Term$Kind;").before a0 Z = true := hw _ (List.mem_of_getElem? (i := 96) rfl)
theorem tw97 {Z : State} {a0 : Array Value} (hw : ∀ d ∈ tables_1, d.before a0 Z = true) : (Jvm.Cond.laysStatic "com/example/chiron/chiron/graph/Term$Kind" "IRI" "Lcom/example/chiron/chiron/graph/Term$Kind;").before a0 Z = true := hw _ (List.mem_of_getElem? (i := 97) rfl)
theorem tw98 {Z : State} {a0 : Array Value} (hw : ∀ d ∈ tables_1, d.before a0 Z = true) : (Jvm.Cond.classLink "com/example/chiron/chiron/query/IsAPatternSlotsPinLaw" (13 : Nat) "com/example/chiron/chiron/query/GraphQuery$IsAPattern").before a0 Z = true := hw _ (List.mem_of_getElem? (i := 98) rfl)
theorem tw99 {Z : State} {a0 : Array Value} (hw : ∀ d ∈ tables_1, d.before a0 Z = true) : (Jvm.Cond.instantiable "com/example/chiron/chiron/query/GraphQuery$IsAPattern" (2 : Nat)).before a0 Z = true := hw _ (List.mem_of_getElem? (i := 99) rfl)
theorem tw100 {Z : State} {a0 : Array Value} (hw : ∀ d ∈ tables_1, d.before a0 Z = true) : (Jvm.Cond.initialized "com/example/chiron/chiron/query/GraphQuery$IsAPattern").before a0 Z = true := hw _ (List.mem_of_getElem? (i := 100) rfl)
theorem tw101 {Z : State} {a0 : Array Value} (hw : ∀ d ∈ tables_1, d.before a0 Z = true) : (Jvm.Cond.methodLink "com/example/chiron/chiron/query/IsAPatternSlotsPinLaw" (15 : Nat) ({ cls := "com/example/chiron/chiron/query/GraphQuery$IsAPattern", name := "<init>", desc := "(Lcom/example/chiron/chiron/query/GraphQuery$Slot;Lcom/example/chiron/chiron/query/GraphQuery$Slot;)V" } : Jvm.MethodName)).before a0 Z = true := hw _ (List.mem_of_getElem? (i := 101) rfl)
theorem tw102 {Z : State} {a0 : Array Value} (hw : ∀ d ∈ tables_1, d.before a0 Z = true) : (Jvm.Cond.instanceMethod ({ cls := "com/example/chiron/chiron/query/GraphQuery$IsAPattern", name := "<init>", desc := "(Lcom/example/chiron/chiron/query/GraphQuery$Slot;Lcom/example/chiron/chiron/query/GraphQuery$Slot;)V" } : Jvm.MethodName)).before a0 Z = true := hw _ (List.mem_of_getElem? (i := 102) rfl)
theorem tw103 {Z : State} {a0 : Array Value} (hw : ∀ d ∈ tables_1, d.before a0 Z = true) : (Jvm.Cond.code ({ cls := "com/example/chiron/chiron/query/GraphQuery$IsAPattern", name := "<init>", desc := "(Lcom/example/chiron/chiron/query/GraphQuery$Slot;Lcom/example/chiron/chiron/query/GraphQuery$Slot;)V" } : Jvm.MethodName) prog_26_method_1_code (3 : Nat) (Option.none : Option Jvm.ClassFile.FieldType)).before a0 Z = true := hw _ (List.mem_of_getElem? (i := 103) rfl)
theorem tw104 {Z : State} {a0 : Array Value} (hw : ∀ d ∈ tables_1, d.before a0 Z = true) : (Jvm.Cond.methodLink "com/example/chiron/chiron/query/GraphQuery$IsAPattern" (1 : Nat) ({ cls := "java/lang/Record", name := "<init>", desc := "()V" } : Jvm.MethodName)).before a0 Z = true := hw _ (List.mem_of_getElem? (i := 104) rfl)
theorem tw105 {Z : State} {a0 : Array Value} (hw : ∀ d ∈ tables_1, d.before a0 Z = true) : (Jvm.Cond.fieldLink "com/example/chiron/chiron/query/GraphQuery$IsAPattern" (7 : Nat) "com/example/chiron/chiron/query/GraphQuery$IsAPattern" "entity" "Lcom/example/chiron/chiron/query/GraphQuery$Slot;").before a0 Z = true := hw _ (List.mem_of_getElem? (i := 105) rfl)
theorem tw106 {Z : State} {a0 : Array Value} (hw : ∀ d ∈ tables_1, d.before a0 Z = true) : (Jvm.Cond.laysFinal "com/example/chiron/chiron/query/GraphQuery$IsAPattern" "com/example/chiron/chiron/query/GraphQuery$IsAPattern" "entity" "Lcom/example/chiron/chiron/query/GraphQuery$Slot;").before a0 Z = true := hw _ (List.mem_of_getElem? (i := 106) rfl)
theorem tw107 {Z : State} {a0 : Array Value} (hw : ∀ d ∈ tables_1, d.before a0 Z = true) : (Jvm.Cond.fieldLink "com/example/chiron/chiron/query/GraphQuery$IsAPattern" (13 : Nat) "com/example/chiron/chiron/query/GraphQuery$IsAPattern" "type" "Lcom/example/chiron/chiron/query/GraphQuery$Slot;").before a0 Z = true := hw _ (List.mem_of_getElem? (i := 107) rfl)
theorem tw108 {Z : State} {a0 : Array Value} (hw : ∀ d ∈ tables_1, d.before a0 Z = true) : (Jvm.Cond.laysFinal "com/example/chiron/chiron/query/GraphQuery$IsAPattern" "com/example/chiron/chiron/query/GraphQuery$IsAPattern" "type" "Lcom/example/chiron/chiron/query/GraphQuery$Slot;").before a0 Z = true := hw _ (List.mem_of_getElem? (i := 108) rfl)
theorem tw109 {Z : State} {a0 : Array Value} (hw : ∀ d ∈ tables_1, d.before a0 Z = true) : (Jvm.Cond.methodLink "com/example/chiron/chiron/query/IsAPatternSlotsPinLaw" (18 : Nat) ({ cls := "com/example/chiron/chiron/query/GraphQuery$IsAPattern", name := "slots", desc := "()Ljava/util/List;" } : Jvm.MethodName)).before a0 Z = true := hw _ (List.mem_of_getElem? (i := 109) rfl)
theorem tw110 {Z : State} {a0 : Array Value} (hw : ∀ d ∈ tables_1, d.before a0 Z = true) : (Jvm.Cond.declares ({ cls := "com/example/chiron/chiron/query/GraphQuery$IsAPattern", name := "slots", desc := "()Ljava/util/List;" } : Jvm.MethodName)).before a0 Z = true := hw _ (List.mem_of_getElem? (i := 110) rfl)
theorem tw111 {Z : State} {a0 : Array Value} (hw : ∀ d ∈ tables_1, d.before a0 Z = true) : (Jvm.Cond.instanceMethod ({ cls := "com/example/chiron/chiron/query/GraphQuery$IsAPattern", name := "slots", desc := "()Ljava/util/List;" } : Jvm.MethodName)).before a0 Z = true := hw _ (List.mem_of_getElem? (i := 111) rfl)
theorem tw112 {Z : State} {a0 : Array Value} (hw : ∀ d ∈ tables_1, d.before a0 Z = true) : (Jvm.Cond.selects "com/example/chiron/chiron/query/GraphQuery$IsAPattern" ({ cls := "com/example/chiron/chiron/query/GraphQuery$IsAPattern", name := "slots", desc := "()Ljava/util/List;" } : Jvm.MethodName) ({ cls := "com/example/chiron/chiron/query/GraphQuery$IsAPattern", name := "slots", desc := "()Ljava/util/List;" } : Jvm.MethodName)).before a0 Z = true := hw _ (List.mem_of_getElem? (i := 112) rfl)
theorem tw113 {Z : State} {a0 : Array Value} (hw : ∀ d ∈ tables_1, d.before a0 Z = true) : (Jvm.Cond.code ({ cls := "com/example/chiron/chiron/query/GraphQuery$IsAPattern", name := "slots", desc := "()Ljava/util/List;" } : Jvm.MethodName) prog_26_method_2_code (1 : Nat) (Option.some (Jvm.ClassFile.FieldType.object "java/util/List"))).before a0 Z = true := hw _ (List.mem_of_getElem? (i := 113) rfl)
theorem tw114 {Z : State} {a0 : Array Value} (hw : ∀ d ∈ tables_1, d.before a0 Z = true) : (Jvm.Cond.methodLink "com/example/chiron/chiron/query/GraphQuery$IsAPattern" (16 : Nat) ({ cls := "java/util/List", name := "of", desc := "(Ljava/lang/Object;Ljava/lang/Object;)Ljava/util/List;" } : Jvm.MethodName)).before a0 Z = true := hw _ (List.mem_of_getElem? (i := 114) rfl)
theorem tw115 {Z : State} {a0 : Array Value} (hw : ∀ d ∈ tables_1, d.before a0 Z = true) : (Jvm.Cond.static ({ cls := "java/util/List", name := "of", desc := "(Ljava/lang/Object;Ljava/lang/Object;)Ljava/util/List;" } : Jvm.MethodName)).before a0 Z = true := hw _ (List.mem_of_getElem? (i := 115) rfl)
theorem tw116 {Z : State} {a0 : Array Value} (hw : ∀ d ∈ tables_1, d.before a0 Z = true) : (Jvm.Cond.initialized "java/util/List").before a0 Z = true := hw _ (List.mem_of_getElem? (i := 116) rfl)
theorem tw117 {Z : State} {a0 : Array Value} (hw : ∀ d ∈ tables_1, d.before a0 Z = true) : (Jvm.Cond.code ({ cls := "java/util/List", name := "of", desc := "(Ljava/lang/Object;Ljava/lang/Object;)Ljava/util/List;" } : Jvm.MethodName) jdk_40_method_38_code (2 : Nat) (Option.some (Jvm.ClassFile.FieldType.object "java/util/List"))).before a0 Z = true := hw _ (List.mem_of_getElem? (i := 117) rfl)
theorem tw118 {Z : State} {a0 : Array Value} (hw : ∀ d ∈ tables_1, d.before a0 Z = true) : (Jvm.Cond.classLink "java/util/List" (96 : Nat) "java/util/ImmutableCollections$List12").before a0 Z = true := hw _ (List.mem_of_getElem? (i := 118) rfl)
theorem tw119 {Z : State} {a0 : Array Value} (hw : ∀ d ∈ tables_1, d.before a0 Z = true) : (Jvm.Cond.instantiable "java/util/ImmutableCollections$List12" (2 : Nat)).before a0 Z = true := hw _ (List.mem_of_getElem? (i := 119) rfl)
theorem tw120 {Z : State} {a0 : Array Value} (hw : ∀ d ∈ tables_1, d.before a0 Z = true) : (Jvm.Cond.initialized "java/util/ImmutableCollections$List12").before a0 Z = true := hw _ (List.mem_of_getElem? (i := 120) rfl)
theorem tw121 {Z : State} {a0 : Array Value} (hw : ∀ d ∈ tables_1, d.before a0 Z = true) : (Jvm.Cond.methodLink "java/util/List" (100 : Nat) ({ cls := "java/util/ImmutableCollections$List12", name := "<init>", desc := "(Ljava/lang/Object;Ljava/lang/Object;)V" } : Jvm.MethodName)).before a0 Z = true := hw _ (List.mem_of_getElem? (i := 121) rfl)
theorem tw122 {Z : State} {a0 : Array Value} (hw : ∀ d ∈ tables_1, d.before a0 Z = true) : (Jvm.Cond.instanceMethod ({ cls := "java/util/ImmutableCollections$List12", name := "<init>", desc := "(Ljava/lang/Object;Ljava/lang/Object;)V" } : Jvm.MethodName)).before a0 Z = true := hw _ (List.mem_of_getElem? (i := 122) rfl)
theorem tw124 {Z : State} {a0 : Array Value} (hw : ∀ d ∈ tables_1, d.before a0 Z = true) : (Jvm.Cond.code ({ cls := "java/util/ImmutableCollections$List12", name := "<init>", desc := "(Ljava/lang/Object;Ljava/lang/Object;)V" } : Jvm.MethodName) jdk_44_method_2_code (3 : Nat) (Option.none : Option Jvm.ClassFile.FieldType)).before a0 Z = true := hw _ (List.mem_of_getElem? (i := 124) rfl)
theorem tw125 {Z : State} {a0 : Array Value} (hw : ∀ d ∈ tables_1, d.before a0 Z = true) : (Jvm.Cond.methodLink "java/util/ImmutableCollections$List12" (1 : Nat) ({ cls := "java/util/ImmutableCollections$AbstractImmutableList", name := "<init>", desc := "()V" } : Jvm.MethodName)).before a0 Z = true := hw _ (List.mem_of_getElem? (i := 125) rfl)
theorem tw126 {Z : State} {a0 : Array Value} (hw : ∀ d ∈ tables_1, d.before a0 Z = true) : (Jvm.Cond.instanceMethod ({ cls := "java/util/ImmutableCollections$AbstractImmutableList", name := "<init>", desc := "()V" } : Jvm.MethodName)).before a0 Z = true := hw _ (List.mem_of_getElem? (i := 126) rfl)
theorem tw129 {Z : State} {a0 : Array Value} (hw : ∀ d ∈ tables_1, d.before a0 Z = true) : (Jvm.Cond.initialized "java/util/ImmutableCollections$AbstractImmutableList").before a0 Z = true := hw _ (List.mem_of_getElem? (i := 129) rfl)
theorem tw130 {Z : State} {a0 : Array Value} (hw : ∀ d ∈ tables_1, d.before a0 Z = true) : (Jvm.Cond.code ({ cls := "java/util/ImmutableCollections$AbstractImmutableList", name := "<init>", desc := "()V" } : Jvm.MethodName) jdk_46_method_1_code (1 : Nat) (Option.none : Option Jvm.ClassFile.FieldType)).before a0 Z = true := hw _ (List.mem_of_getElem? (i := 130) rfl)
theorem tw131 {Z : State} {a0 : Array Value} (hw : ∀ d ∈ tables_1, d.before a0 Z = true) : (Jvm.Cond.methodLink "java/util/ImmutableCollections$AbstractImmutableList" (1 : Nat) ({ cls := "java/util/ImmutableCollections$AbstractImmutableCollection", name := "<init>", desc := "()V" } : Jvm.MethodName)).before a0 Z = true := hw _ (List.mem_of_getElem? (i := 131) rfl)
theorem tw132 {Z : State} {a0 : Array Value} (hw : ∀ d ∈ tables_1, d.before a0 Z = true) : (Jvm.Cond.instanceMethod ({ cls := "java/util/ImmutableCollections$AbstractImmutableCollection", name := "<init>", desc := "()V" } : Jvm.MethodName)).before a0 Z = true := hw _ (List.mem_of_getElem? (i := 132) rfl)
theorem tw135 {Z : State} {a0 : Array Value} (hw : ∀ d ∈ tables_1, d.before a0 Z = true) : (Jvm.Cond.initialized "java/util/ImmutableCollections$AbstractImmutableCollection").before a0 Z = true := hw _ (List.mem_of_getElem? (i := 135) rfl)
theorem tw136 {Z : State} {a0 : Array Value} (hw : ∀ d ∈ tables_1, d.before a0 Z = true) : (Jvm.Cond.code ({ cls := "java/util/ImmutableCollections$AbstractImmutableCollection", name := "<init>", desc := "()V" } : Jvm.MethodName) jdk_47_method_1_code (1 : Nat) (Option.none : Option Jvm.ClassFile.FieldType)).before a0 Z = true := hw _ (List.mem_of_getElem? (i := 136) rfl)
theorem tw137 {Z : State} {a0 : Array Value} (hw : ∀ d ∈ tables_1, d.before a0 Z = true) : (Jvm.Cond.methodLink "java/util/ImmutableCollections$AbstractImmutableCollection" (1 : Nat) ({ cls := "java/util/AbstractCollection", name := "<init>", desc := "()V" } : Jvm.MethodName)).before a0 Z = true := hw _ (List.mem_of_getElem? (i := 137) rfl)
theorem tw138 {Z : State} {a0 : Array Value} (hw : ∀ d ∈ tables_1, d.before a0 Z = true) : (Jvm.Cond.instanceMethod ({ cls := "java/util/AbstractCollection", name := "<init>", desc := "()V" } : Jvm.MethodName)).before a0 Z = true := hw _ (List.mem_of_getElem? (i := 138) rfl)
theorem tw141 {Z : State} {a0 : Array Value} (hw : ∀ d ∈ tables_1, d.before a0 Z = true) : (Jvm.Cond.initialized "java/util/AbstractCollection").before a0 Z = true := hw _ (List.mem_of_getElem? (i := 141) rfl)
theorem tw142 {Z : State} {a0 : Array Value} (hw : ∀ d ∈ tables_1, d.before a0 Z = true) : (Jvm.Cond.code ({ cls := "java/util/AbstractCollection", name := "<init>", desc := "()V" } : Jvm.MethodName) jdk_22_method_1_code (1 : Nat) (Option.none : Option Jvm.ClassFile.FieldType)).before a0 Z = true := hw _ (List.mem_of_getElem? (i := 142) rfl)
theorem tw143 {Z : State} {a0 : Array Value} (hw : ∀ d ∈ tables_1, d.before a0 Z = true) : (Jvm.Cond.methodLink "java/util/AbstractCollection" (1 : Nat) ({ cls := "java/lang/Object", name := "<init>", desc := "()V" } : Jvm.MethodName)).before a0 Z = true := hw _ (List.mem_of_getElem? (i := 143) rfl)
theorem tw144 {Z : State} {a0 : Array Value} (hw : ∀ d ∈ tables_1, d.before a0 Z = true) : (Jvm.Cond.methodLink "java/util/ImmutableCollections$List12" (7 : Nat) ({ cls := "java/util/Objects", name := "requireNonNull", desc := "(Ljava/lang/Object;)Ljava/lang/Object;" } : Jvm.MethodName)).before a0 Z = true := hw _ (List.mem_of_getElem? (i := 144) rfl)
theorem tw145 {Z : State} {a0 : Array Value} (hw : ∀ d ∈ tables_1, d.before a0 Z = true) : (Jvm.Cond.static ({ cls := "java/util/Objects", name := "requireNonNull", desc := "(Ljava/lang/Object;)Ljava/lang/Object;" } : Jvm.MethodName)).before a0 Z = true := hw _ (List.mem_of_getElem? (i := 145) rfl)
theorem tw146 {Z : State} {a0 : Array Value} (hw : ∀ d ∈ tables_1, d.before a0 Z = true) : (Jvm.Cond.initialized "java/util/Objects").before a0 Z = true := hw _ (List.mem_of_getElem? (i := 146) rfl)
theorem tw147 {Z : State} {a0 : Array Value} (hw : ∀ d ∈ tables_1, d.before a0 Z = true) : (Jvm.Cond.code ({ cls := "java/util/Objects", name := "requireNonNull", desc := "(Ljava/lang/Object;)Ljava/lang/Object;" } : Jvm.MethodName) jdk_31_method_10_code (1 : Nat) (Option.some (Jvm.ClassFile.FieldType.object "java/lang/Object"))).before a0 Z = true := hw _ (List.mem_of_getElem? (i := 147) rfl)
theorem tw148 {Z : State} {a0 : Array Value} (hw : ∀ d ∈ tables_1, d.before a0 Z = true) : (Jvm.Cond.fieldLink "java/util/ImmutableCollections$List12" (13 : Nat) "java/util/ImmutableCollections$List12" "e0" "Ljava/lang/Object;").before a0 Z = true := hw _ (List.mem_of_getElem? (i := 148) rfl)
theorem tw149 {Z : State} {a0 : Array Value} (hw : ∀ d ∈ tables_1, d.before a0 Z = true) : (Jvm.Cond.laysFinal "java/util/ImmutableCollections$List12" "java/util/ImmutableCollections$List12" "e0" "Ljava/lang/Object;").before a0 Z = true := hw _ (List.mem_of_getElem? (i := 149) rfl)
theorem tw150 {Z : State} {a0 : Array Value} (hw : ∀ d ∈ tables_1, d.before a0 Z = true) : (Jvm.Cond.fieldLink "java/util/ImmutableCollections$List12" (24 : Nat) "java/util/ImmutableCollections$List12" "e1" "Ljava/lang/Object;").before a0 Z = true := hw _ (List.mem_of_getElem? (i := 150) rfl)
theorem tw151 {Z : State} {a0 : Array Value} (hw : ∀ d ∈ tables_1, d.before a0 Z = true) : (Jvm.Cond.laysFinal "java/util/ImmutableCollections$List12" "java/util/ImmutableCollections$List12" "e1" "Ljava/lang/Object;").before a0 Z = true := hw _ (List.mem_of_getElem? (i := 151) rfl)
theorem tw152 {Z : State} {a0 : Array Value} (hw : ∀ d ∈ tables_1, d.before a0 Z = true) : (Jvm.Cond.methodLink "com/example/chiron/chiron/query/IsAPatternSlotsPinLaw" (22 : Nat) ({ cls := "java/util/List", name := "size", desc := "()I" } : Jvm.MethodName)).before a0 Z = true := hw _ (List.mem_of_getElem? (i := 152) rfl)
theorem tw153 {Z : State} {a0 : Array Value} (hw : ∀ d ∈ tables_1, d.before a0 Z = true) : (Jvm.Cond.declares ({ cls := "java/util/List", name := "size", desc := "()I" } : Jvm.MethodName)).before a0 Z = true := hw _ (List.mem_of_getElem? (i := 153) rfl)
theorem tw154 {Z : State} {a0 : Array Value} (hw : ∀ d ∈ tables_1, d.before a0 Z = true) : (Jvm.Cond.interfaceMethod "java/util/List" "java/util/List" "size" "()I").before a0 Z = true := hw _ (List.mem_of_getElem? (i := 154) rfl)
theorem tw155 {Z : State} {a0 : Array Value} (hw : ∀ d ∈ tables_1, d.before a0 Z = true) : (Jvm.Cond.selects "java/util/ImmutableCollections$List12" ({ cls := "java/util/List", name := "size", desc := "()I" } : Jvm.MethodName) ({ cls := "java/util/ImmutableCollections$List12", name := "size", desc := "()I" } : Jvm.MethodName)).before a0 Z = true := hw _ (List.mem_of_getElem? (i := 155) rfl)
theorem tw156 {Z : State} {a0 : Array Value} (hw : ∀ d ∈ tables_1, d.before a0 Z = true) : (Jvm.Cond.instanceMethod ({ cls := "java/util/ImmutableCollections$List12", name := "size", desc := "()I" } : Jvm.MethodName)).before a0 Z = true := hw _ (List.mem_of_getElem? (i := 156) rfl)
theorem tw157 {Z : State} {a0 : Array Value} (hw : ∀ d ∈ tables_1, d.before a0 Z = true) : (Jvm.Cond.publicMethod ({ cls := "java/util/ImmutableCollections$List12", name := "size", desc := "()I" } : Jvm.MethodName)).before a0 Z = true := hw _ (List.mem_of_getElem? (i := 157) rfl)
theorem tw158 {Z : State} {a0 : Array Value} (hw : ∀ d ∈ tables_1, d.before a0 Z = true) : (Jvm.Cond.unhidden "java/util/ImmutableCollections$List12" "size" "()I").before a0 Z = true := hw _ (List.mem_of_getElem? (i := 158) rfl)
theorem tw159 {Z : State} {a0 : Array Value} (hw : ∀ d ∈ tables_1, d.before a0 Z = true) : (Jvm.Cond.castable "java/util/ImmutableCollections$List12" "java/util/List").before a0 Z = true := hw _ (List.mem_of_getElem? (i := 159) rfl)
theorem tw160 {Z : State} {a0 : Array Value} (hw : ∀ d ∈ tables_1, d.before a0 Z = true) : (Jvm.Cond.code ({ cls := "java/util/ImmutableCollections$List12", name := "size", desc := "()I" } : Jvm.MethodName) jdk_44_method_3_code (1 : Nat) (Option.some Jvm.ClassFile.FieldType.int)).before a0 Z = true := hw _ (List.mem_of_getElem? (i := 160) rfl)
theorem tw161 {Z : State} {a0 : Array Value} (hw : ∀ d ∈ tables_1, d.before a0 Z = true) : (Jvm.Cond.fieldLinkNest "java/util/ImmutableCollections$List12" (19 : Nat) "java/util/ImmutableCollections" "EMPTY" "Ljava/lang/Object;" "java/util/ImmutableCollections").before a0 Z = true := hw _ (List.mem_of_getElem? (i := 161) rfl)
theorem tw163 {Z : State} {a0 : Array Value} (hw : ∀ d ∈ tables_1, d.before a0 Z = true) : (Jvm.Cond.methodLink "com/example/chiron/chiron/query/IsAPatternSlotsPinLaw" (28 : Nat) ({ cls := "java/util/List", name := "get", desc := "(I)Ljava/lang/Object;" } : Jvm.MethodName)).before a0 Z = true := hw _ (List.mem_of_getElem? (i := 163) rfl)
theorem tw164 {Z : State} {a0 : Array Value} (hw : ∀ d ∈ tables_1, d.before a0 Z = true) : (Jvm.Cond.declares ({ cls := "java/util/List", name := "get", desc := "(I)Ljava/lang/Object;" } : Jvm.MethodName)).before a0 Z = true := hw _ (List.mem_of_getElem? (i := 164) rfl)
theorem tw165 {Z : State} {a0 : Array Value} (hw : ∀ d ∈ tables_1, d.before a0 Z = true) : (Jvm.Cond.interfaceMethod "java/util/List" "java/util/List" "get" "(I)Ljava/lang/Object;").before a0 Z = true := hw _ (List.mem_of_getElem? (i := 165) rfl)
theorem tw166 {Z : State} {a0 : Array Value} (hw : ∀ d ∈ tables_1, d.before a0 Z = true) : (Jvm.Cond.selects "java/util/ImmutableCollections$List12" ({ cls := "java/util/List", name := "get", desc := "(I)Ljava/lang/Object;" } : Jvm.MethodName) ({ cls := "java/util/ImmutableCollections$List12", name := "get", desc := "(I)Ljava/lang/Object;" } : Jvm.MethodName)).before a0 Z = true := hw _ (List.mem_of_getElem? (i := 166) rfl)
theorem tw167 {Z : State} {a0 : Array Value} (hw : ∀ d ∈ tables_1, d.before a0 Z = true) : (Jvm.Cond.instanceMethod ({ cls := "java/util/ImmutableCollections$List12", name := "get", desc := "(I)Ljava/lang/Object;" } : Jvm.MethodName)).before a0 Z = true := hw _ (List.mem_of_getElem? (i := 167) rfl)
theorem tw168 {Z : State} {a0 : Array Value} (hw : ∀ d ∈ tables_1, d.before a0 Z = true) : (Jvm.Cond.publicMethod ({ cls := "java/util/ImmutableCollections$List12", name := "get", desc := "(I)Ljava/lang/Object;" } : Jvm.MethodName)).before a0 Z = true := hw _ (List.mem_of_getElem? (i := 168) rfl)
theorem tw169 {Z : State} {a0 : Array Value} (hw : ∀ d ∈ tables_1, d.before a0 Z = true) : (Jvm.Cond.unhidden "java/util/ImmutableCollections$List12" "get" "(I)Ljava/lang/Object;").before a0 Z = true := hw _ (List.mem_of_getElem? (i := 169) rfl)
theorem tw170 {Z : State} {a0 : Array Value} (hw : ∀ d ∈ tables_1, d.before a0 Z = true) : (Jvm.Cond.code ({ cls := "java/util/ImmutableCollections$List12", name := "get", desc := "(I)Ljava/lang/Object;" } : Jvm.MethodName) jdk_44_method_5_code (2 : Nat) (Option.some (Jvm.ClassFile.FieldType.object "java/lang/Object"))).before a0 Z = true := hw _ (List.mem_of_getElem? (i := 170) rfl)
theorem tw171 {Z : State} {a0 : Array Value} (hw : ∀ d ∈ tables_1, d.before a0 Z = true) : (Jvm.Cond.methodLink "com/example/chiron/chiron/query/IsAPatternSlotsPinLaw" (37 : Nat) ({ cls := "com/example/chiron/chiron/query/GraphQuery$Slot", name := "ofVariable", desc := "(Ljava/lang/String;)Lcom/example/chiron/chiron/query/GraphQuery$Slot;" } : Jvm.MethodName)).before a0 Z = true := hw _ (List.mem_of_getElem? (i := 171) rfl)
theorem tw172 {Z : State} {a0 : Array Value} (hw : ∀ d ∈ tables_1, d.before a0 Z = true) : (Jvm.Cond.static ({ cls := "com/example/chiron/chiron/query/GraphQuery$Slot", name := "ofVariable", desc := "(Ljava/lang/String;)Lcom/example/chiron/chiron/query/GraphQuery$Slot;" } : Jvm.MethodName)).before a0 Z = true := hw _ (List.mem_of_getElem? (i := 172) rfl)
theorem tw173 {Z : State} {a0 : Array Value} (hw : ∀ d ∈ tables_1, d.before a0 Z = true) : (Jvm.Cond.code ({ cls := "com/example/chiron/chiron/query/GraphQuery$Slot", name := "ofVariable", desc := "(Ljava/lang/String;)Lcom/example/chiron/chiron/query/GraphQuery$Slot;" } : Jvm.MethodName) prog_28_method_2_code (1 : Nat) (Option.some (Jvm.ClassFile.FieldType.object "com/example/chiron/chiron/query/GraphQuery$Slot"))).before a0 Z = true := hw _ (List.mem_of_getElem? (i := 173) rfl)
theorem dc_jdk_30_method_1_0 : decode jdk_30_method_1_code 0 = .ok (.aload_n 0, 1) := by decide +kernel
theorem dc_jdk_30_method_1_1 : decode jdk_30_method_1_code 1 = .ok (.invokespecial 1, 3) := by decide +kernel
theorem dc_jdk_30_method_1_4 : decode jdk_30_method_1_code 4 = .ok (.return_, 1) := by decide +kernel
theorem dc_jdk_42_method_154_0 : decode jdk_42_method_154_code 0 = .ok (.getstatic 38, 3) := by decide +kernel
theorem dc_jdk_42_method_154_3 : decode jdk_42_method_154_code 3 = .ok (.ifCond .eq 14, 3) := by decide +kernel
theorem dc_jdk_42_method_154_6 : decode jdk_42_method_154_code 6 = .ok (.aload_n 0, 1) := by decide +kernel
theorem dc_jdk_42_method_154_7 : decode jdk_42_method_154_code 7 = .ok (.getfield 15, 3) := by decide +kernel
theorem dc_jdk_42_method_154_10 : decode jdk_42_method_154_code 10 = .ok (.ifCond .ne 7, 3) := by decide +kernel
theorem dc_jdk_42_method_154_13 : decode jdk_42_method_154_code 13 = .ok (.iconst 1, 1) := by decide +kernel
theorem dc_jdk_42_method_154_14 : decode jdk_42_method_154_code 14 = .ok (.goto 4, 3) := by decide +kernel
theorem dc_jdk_42_method_154_18 : decode jdk_42_method_154_code 18 = .ok (.ireturn, 1) := by decide +kernel
theorem dc_jdk_43_method_32_0 : decode jdk_43_method_32_code 0 = .ok (.aload_n 2, 1) := by decide +kernel
theorem dc_jdk_43_method_32_1 : decode jdk_43_method_32_code 1 = .ok (.ifnonnull 11, 3) := by decide +kernel
theorem dc_jdk_43_method_32_12 : decode jdk_43_method_32_code 12 = .ok (.aload_n 1, 1) := by decide +kernel
theorem dc_jdk_43_method_32_13 : decode jdk_43_method_32_code 13 = .ok (.arraylength, 1) := by decide +kernel
theorem dc_jdk_43_method_32_14 : decode jdk_43_method_32_code 14 = .ok (.istore 4, 2) := by decide +kernel
theorem dc_jdk_43_method_32_16 : decode jdk_43_method_32_code 16 = .ok (.iconst 0, 1) := by decide +kernel
theorem dc_jdk_43_method_32_17 : decode jdk_43_method_32_code 17 = .ok (.istore_n 3, 1) := by decide +kernel
theorem dc_jdk_43_method_32_18 : decode jdk_43_method_32_code 18 = .ok (.iload_n 3, 1) := by decide +kernel
theorem dc_jdk_43_method_32_19 : decode jdk_43_method_32_code 19 = .ok (.iload 4, 2) := by decide +kernel
theorem dc_jdk_43_method_32_21 : decode jdk_43_method_32_code 21 = .ok (.if_icmp .ge 34, 3) := by decide +kernel
theorem dc_jdk_43_method_32_55 : decode jdk_43_method_32_code 55 = .ok (.iload_n 3, 1) := by decide +kernel
theorem dc_jdk_43_method_32_56 : decode jdk_43_method_32_code 56 = .ok (.iload 4, 2) := by decide +kernel
theorem dc_jdk_43_method_32_58 : decode jdk_43_method_32_code 58 = .ok (.if_icmp .ne 5, 3) := by decide +kernel
theorem dc_jdk_43_method_32_61 : decode jdk_43_method_32_code 61 = .ok (.aload_n 0, 1) := by decide +kernel
theorem dc_jdk_43_method_32_62 : decode jdk_43_method_32_code 62 = .ok (.areturn, 1) := by decide +kernel
theorem dc_jdk_42_method_109_0 : decode jdk_42_method_109_code 0 = .ok (.aload_n 0, 1) := by decide +kernel
theorem dc_jdk_42_method_109_1 : decode jdk_42_method_109_code 1 = .ok (.invokevirtual 492, 3) := by decide +kernel
theorem dc_jdk_42_method_109_4 : decode jdk_42_method_109_code 4 = .ok (.ifCond .eq 15, 3) := by decide +kernel
theorem dc_jdk_42_method_109_7 : decode jdk_42_method_109_code 7 = .ok (.aload_n 0, 1) := by decide +kernel
theorem dc_jdk_42_method_109_8 : decode jdk_42_method_109_code 8 = .ok (.aload_n 0, 1) := by decide +kernel
theorem dc_jdk_42_method_109_9 : decode jdk_42_method_109_code 9 = .ok (.getfield 9, 3) := by decide +kernel
theorem dc_jdk_42_method_109_12 : decode jdk_42_method_109_code 12 = .ok (.aload_n 1, 1) := by decide +kernel
theorem dc_jdk_42_method_109_13 : decode jdk_42_method_109_code 13 = .ok (.invokestatic 839, 3) := by decide +kernel
theorem dc_jdk_42_method_109_16 : decode jdk_42_method_109_code 16 = .ok (.goto 12, 3) := by decide +kernel
theorem dc_jdk_42_method_109_28 : decode jdk_42_method_109_code 28 = .ok (.areturn, 1) := by decide +kernel
theorem dc_prog_7_method_1_0 : decode prog_7_method_1_code 0 = .ok (.aload_n 0, 1) := by decide +kernel
theorem dc_prog_7_method_1_1 : decode prog_7_method_1_code 1 = .ok (.invokespecial 1, 3) := by decide +kernel
theorem dc_prog_7_method_1_4 : decode prog_7_method_1_code 4 = .ok (.aload_n 1, 1) := by decide +kernel
theorem dc_prog_7_method_1_5 : decode prog_7_method_1_code 5 = .ok (.ifnull 16, 3) := by decide +kernel
theorem dc_prog_7_method_1_8 : decode prog_7_method_1_code 8 = .ok (.aload_n 2, 1) := by decide +kernel
theorem dc_prog_7_method_1_9 : decode prog_7_method_1_code 9 = .ok (.ifnull 12, 3) := by decide +kernel
theorem dc_prog_7_method_1_12 : decode prog_7_method_1_code 12 = .ok (.aload_n 3, 1) := by decide +kernel
theorem dc_prog_7_method_1_13 : decode prog_7_method_1_code 13 = .ok (.ifnull 8, 3) := by decide +kernel
theorem dc_prog_7_method_1_16 : decode prog_7_method_1_code 16 = .ok (.aload 4, 2) := by decide +kernel
theorem dc_prog_7_method_1_18 : decode prog_7_method_1_code 18 = .ok (.ifnonnull 13, 3) := by decide +kernel
theorem dc_prog_7_method_1_31 : decode prog_7_method_1_code 31 = .ok (.aload_n 3, 1) := by decide +kernel
theorem dc_prog_7_method_1_32 : decode prog_7_method_1_code 32 = .ok (.getstatic 14, 3) := by decide +kernel
theorem dc_prog_7_method_1_35 : decode prog_7_method_1_code 35 = .ok (.invokevirtual 20, 3) := by decide +kernel
theorem dc_prog_7_method_1_38 : decode prog_7_method_1_code 38 = .ok (.astore_n 3, 1) := by decide +kernel
theorem dc_prog_7_method_1_39 : decode prog_7_method_1_code 39 = .ok (.aload_n 0, 1) := by decide +kernel
theorem dc_prog_7_method_1_40 : decode prog_7_method_1_code 40 = .ok (.aload_n 1, 1) := by decide +kernel
theorem dc_prog_7_method_1_41 : decode prog_7_method_1_code 41 = .ok (.putfield 26, 3) := by decide +kernel
theorem dc_prog_7_method_1_44 : decode prog_7_method_1_code 44 = .ok (.aload_n 0, 1) := by decide +kernel
theorem dc_prog_7_method_1_45 : decode prog_7_method_1_code 45 = .ok (.aload_n 2, 1) := by decide +kernel
theorem dc_prog_7_method_1_46 : decode prog_7_method_1_code 46 = .ok (.putfield 32, 3) := by decide +kernel
theorem dc_prog_7_method_1_49 : decode prog_7_method_1_code 49 = .ok (.aload_n 0, 1) := by decide +kernel
theorem dc_prog_7_method_1_50 : decode prog_7_method_1_code 50 = .ok (.aload_n 3, 1) := by decide +kernel
theorem dc_prog_7_method_1_51 : decode prog_7_method_1_code 51 = .ok (.putfield 36, 3) := by decide +kernel
theorem dc_prog_7_method_1_54 : decode prog_7_method_1_code 54 = .ok (.aload_n 0, 1) := by decide +kernel
theorem dc_prog_7_method_1_55 : decode prog_7_method_1_code 55 = .ok (.aload 4, 2) := by decide +kernel
theorem dc_prog_7_method_1_57 : decode prog_7_method_1_code 57 = .ok (.putfield 39, 3) := by decide +kernel
theorem dc_prog_7_method_1_60 : decode prog_7_method_1_code 60 = .ok (.return_, 1) := by decide +kernel
theorem dc_prog_7_method_2_0 : decode prog_7_method_2_code 0 = .ok (.new 27, 3) := by decide +kernel
theorem dc_prog_7_method_2_3 : decode prog_7_method_2_code 3 = .ok (.dup, 1) := by decide +kernel
theorem dc_prog_7_method_2_4 : decode prog_7_method_2_code 4 = .ok (.getstatic 42, 3) := by decide +kernel
theorem dc_prog_7_method_2_7 : decode prog_7_method_2_code 7 = .ok (.aload_n 0, 1) := by decide +kernel
theorem dc_prog_7_method_2_8 : decode prog_7_method_2_code 8 = .ok (.ldc 47, 2) := by decide +kernel
theorem dc_prog_7_method_2_10 : decode prog_7_method_2_code 10 = .ok (.ldc 47, 2) := by decide +kernel
theorem dc_prog_7_method_2_12 : decode prog_7_method_2_code 12 = .ok (.invokespecial 49, 3) := by decide +kernel
theorem dc_prog_7_method_2_15 : decode prog_7_method_2_code 15 = .ok (.areturn, 1) := by decide +kernel
theorem dc_prog_7_method_3_0 : decode prog_7_method_3_code 0 = .ok (.new 27, 3) := by decide +kernel
theorem dc_prog_7_method_3_3 : decode prog_7_method_3_code 3 = .ok (.dup, 1) := by decide +kernel
theorem dc_prog_7_method_3_4 : decode prog_7_method_3_code 4 = .ok (.getstatic 52, 3) := by decide +kernel
theorem dc_prog_7_method_3_7 : decode prog_7_method_3_code 7 = .ok (.aload_n 0, 1) := by decide +kernel
theorem dc_prog_7_method_3_8 : decode prog_7_method_3_code 8 = .ok (.ldc 47, 2) := by decide +kernel
theorem dc_prog_7_method_3_10 : decode prog_7_method_3_code 10 = .ok (.ldc 47, 2) := by decide +kernel
theorem dc_prog_7_method_3_12 : decode prog_7_method_3_code 12 = .ok (.invokespecial 49, 3) := by decide +kernel
theorem dc_prog_7_method_3_15 : decode prog_7_method_3_code 15 = .ok (.areturn, 1) := by decide +kernel
theorem dc_prog_28_method_1_0 : decode prog_28_method_1_code 0 = .ok (.aload_n 0, 1) := by decide +kernel
theorem dc_prog_28_method_1_1 : decode prog_28_method_1_code 1 = .ok (.invokespecial 1, 3) := by decide +kernel
theorem dc_prog_28_method_1_4 : decode prog_28_method_1_code 4 = .ok (.aload_n 1, 1) := by decide +kernel
theorem dc_prog_28_method_1_5 : decode prog_28_method_1_code 5 = .ok (.ifnonnull 7, 3) := by decide +kernel
theorem dc_prog_28_method_1_12 : decode prog_28_method_1_code 12 = .ok (.iconst 0, 1) := by decide +kernel
theorem dc_prog_28_method_1_13 : decode prog_28_method_1_code 13 = .ok (.aload_n 2, 1) := by decide +kernel
theorem dc_prog_28_method_1_14 : decode prog_28_method_1_code 14 = .ok (.ifnonnull 7, 3) := by decide +kernel
theorem dc_prog_28_method_1_17 : decode prog_28_method_1_code 17 = .ok (.iconst 1, 1) := by decide +kernel
theorem dc_prog_28_method_1_18 : decode prog_28_method_1_code 18 = .ok (.goto 4, 3) := by decide +kernel
theorem dc_prog_28_method_1_22 : decode prog_28_method_1_code 22 = .ok (.if_icmp .ne 13, 3) := by decide +kernel
theorem dc_prog_28_method_1_35 : decode prog_28_method_1_code 35 = .ok (.aload_n 0, 1) := by decide +kernel
theorem dc_prog_28_method_1_36 : decode prog_28_method_1_code 36 = .ok (.aload_n 1, 1) := by decide +kernel
theorem dc_prog_28_method_1_37 : decode prog_28_method_1_code 37 = .ok (.putfield 14, 3) := by decide +kernel
theorem dc_prog_28_method_1_40 : decode prog_28_method_1_code 40 = .ok (.aload_n 0, 1) := by decide +kernel
theorem dc_prog_28_method_1_41 : decode prog_28_method_1_code 41 = .ok (.aload_n 2, 1) := by decide +kernel
theorem dc_prog_28_method_1_42 : decode prog_28_method_1_code 42 = .ok (.putfield 20, 3) := by decide +kernel
theorem dc_prog_28_method_1_45 : decode prog_28_method_1_code 45 = .ok (.return_, 1) := by decide +kernel
theorem dc_prog_28_method_1_8 : decode prog_28_method_1_code 8 = .ok (.iconst 1, 1) := by decide +kernel
theorem dc_prog_28_method_1_9 : decode prog_28_method_1_code 9 = .ok (.goto 4, 3) := by decide +kernel
theorem dc_prog_28_method_1_21 : decode prog_28_method_1_code 21 = .ok (.iconst 0, 1) := by decide +kernel
theorem dc_prog_28_method_2_0 : decode prog_28_method_2_code 0 = .ok (.new 15, 3) := by decide +kernel
theorem dc_prog_28_method_2_3 : decode prog_28_method_2_code 3 = .ok (.dup, 1) := by decide +kernel
theorem dc_prog_28_method_2_4 : decode prog_28_method_2_code 4 = .ok (.aload_n 0, 1) := by decide +kernel
theorem dc_prog_28_method_2_5 : decode prog_28_method_2_code 5 = .ok (.aconst_null, 1) := by decide +kernel
theorem dc_prog_28_method_2_6 : decode prog_28_method_2_code 6 = .ok (.invokespecial 24, 3) := by decide +kernel
theorem dc_prog_28_method_2_9 : decode prog_28_method_2_code 9 = .ok (.areturn, 1) := by decide +kernel
theorem dc_prog_28_method_3_0 : decode prog_28_method_3_code 0 = .ok (.new 15, 3) := by decide +kernel
theorem dc_prog_28_method_3_3 : decode prog_28_method_3_code 3 = .ok (.dup, 1) := by decide +kernel
theorem dc_prog_28_method_3_4 : decode prog_28_method_3_code 4 = .ok (.aconst_null, 1) := by decide +kernel
theorem dc_prog_28_method_3_5 : decode prog_28_method_3_code 5 = .ok (.aload_n 0, 1) := by decide +kernel
theorem dc_prog_28_method_3_6 : decode prog_28_method_3_code 6 = .ok (.invokespecial 24, 3) := by decide +kernel
theorem dc_prog_28_method_3_9 : decode prog_28_method_3_code 9 = .ok (.areturn, 1) := by decide +kernel
theorem dc_method_3_0 : decode method_3_code 0 = .ok (.iconst 2, 1) := by decide +kernel
theorem dc_method_3_1 : decode method_3_code 1 = .ok (.newarray .char, 2) := by decide +kernel
theorem dc_method_3_3 : decode method_3_code 3 = .ok (.dup, 1) := by decide +kernel
theorem dc_method_3_4 : decode method_3_code 4 = .ok (.iconst 0, 1) := by decide +kernel
theorem dc_method_3_5 : decode method_3_code 5 = .ok (.iload_n 1, 1) := by decide +kernel
theorem dc_method_3_6 : decode method_3_code 6 = .ok (.sipush 255, 3) := by decide +kernel
theorem dc_method_3_9 : decode method_3_code 9 = .ok (.iand, 1) := by decide +kernel
theorem dc_method_3_10 : decode method_3_code 10 = .ok (.i2c, 1) := by decide +kernel
theorem dc_method_3_11 : decode method_3_code 11 = .ok (.castore, 1) := by decide +kernel
theorem dc_method_3_12 : decode method_3_code 12 = .ok (.dup, 1) := by decide +kernel
theorem dc_method_3_13 : decode method_3_code 13 = .ok (.iconst 1, 1) := by decide +kernel
theorem dc_method_3_14 : decode method_3_code 14 = .ok (.iload_n 1, 1) := by decide +kernel
theorem dc_method_3_15 : decode method_3_code 15 = .ok (.bipush 8, 2) := by decide +kernel
theorem dc_method_3_17 : decode method_3_code 17 = .ok (.iushr, 1) := by decide +kernel
theorem dc_method_3_18 : decode method_3_code 18 = .ok (.sipush 255, 3) := by decide +kernel
theorem dc_method_3_21 : decode method_3_code 21 = .ok (.iand, 1) := by decide +kernel
theorem dc_method_3_22 : decode method_3_code 22 = .ok (.i2c, 1) := by decide +kernel
theorem dc_method_3_23 : decode method_3_code 23 = .ok (.castore, 1) := by decide +kernel
theorem dc_method_3_24 : decode method_3_code 24 = .ok (.astore_n 2, 1) := by decide +kernel
theorem dc_method_3_25 : decode method_3_code 25 = .ok (.new 32, 3) := by decide +kernel
theorem dc_method_3_28 : decode method_3_code 28 = .ok (.dup, 1) := by decide +kernel
theorem dc_method_3_29 : decode method_3_code 29 = .ok (.aload_n 2, 1) := by decide +kernel
theorem dc_method_3_30 : decode method_3_code 30 = .ok (.invokespecial 34, 3) := by decide +kernel
theorem dc_method_3_33 : decode method_3_code 33 = .ok (.astore_n 3, 1) := by decide +kernel
theorem dc_method_3_34 : decode method_3_code 34 = .ok (.iload_n 0, 1) := by decide +kernel
theorem dc_method_3_35 : decode method_3_code 35 = .ok (.iconst 1, 1) := by decide +kernel
theorem dc_method_3_36 : decode method_3_code 36 = .ok (.iand, 1) := by decide +kernel
theorem dc_method_3_37 : decode method_3_code 37 = .ok (.ifCond .eq 8, 3) := by decide +kernel
theorem dc_method_3_45 : decode method_3_code 45 = .ok (.iload_n 0, 1) := by decide +kernel
theorem dc_method_3_46 : decode method_3_code 46 = .ok (.iconst 2, 1) := by decide +kernel
theorem dc_method_3_47 : decode method_3_code 47 = .ok (.iand, 1) := by decide +kernel
theorem dc_method_3_48 : decode method_3_code 48 = .ok (.ifCond .eq 11, 3) := by decide +kernel
theorem dc_method_3_59 : decode method_3_code 59 = .ok (.aload_n 3, 1) := by decide +kernel
theorem dc_method_3_60 : decode method_3_code 60 = .ok (.invokestatic 53, 3) := by decide +kernel
theorem dc_method_3_63 : decode method_3_code 63 = .ok (.invokestatic 49, 3) := by decide +kernel
theorem dc_method_3_66 : decode method_3_code 66 = .ok (.areturn, 1) := by decide +kernel
theorem dc_method_3_51 : decode method_3_code 51 = .ok (.aload_n 3, 1) := by decide +kernel
theorem dc_method_3_52 : decode method_3_code 52 = .ok (.invokestatic 43, 3) := by decide +kernel
theorem dc_method_3_55 : decode method_3_code 55 = .ok (.invokestatic 49, 3) := by decide +kernel
theorem dc_method_3_58 : decode method_3_code 58 = .ok (.areturn, 1) := by decide +kernel
theorem dc_method_3_40 : decode method_3_code 40 = .ok (.aload_n 3, 1) := by decide +kernel
theorem dc_method_3_41 : decode method_3_code 41 = .ok (.invokestatic 37, 3) := by decide +kernel
theorem dc_method_3_44 : decode method_3_code 44 = .ok (.areturn, 1) := by decide +kernel
theorem dc_jdk_22_method_1_0 : decode jdk_22_method_1_code 0 = .ok (.aload_n 0, 1) := by decide +kernel
theorem dc_jdk_22_method_1_1 : decode jdk_22_method_1_code 1 = .ok (.invokespecial 1, 3) := by decide +kernel
theorem dc_jdk_22_method_1_4 : decode jdk_22_method_1_code 4 = .ok (.return_, 1) := by decide +kernel
theorem dc_jdk_47_method_1_0 : decode jdk_47_method_1_code 0 = .ok (.aload_n 0, 1) := by decide +kernel
theorem dc_jdk_47_method_1_1 : decode jdk_47_method_1_code 1 = .ok (.invokespecial 1, 3) := by decide +kernel
theorem dc_jdk_47_method_1_4 : decode jdk_47_method_1_code 4 = .ok (.return_, 1) := by decide +kernel
theorem dc_jdk_46_method_1_0 : decode jdk_46_method_1_code 0 = .ok (.aload_n 0, 1) := by decide +kernel
theorem dc_jdk_46_method_1_1 : decode jdk_46_method_1_code 1 = .ok (.invokespecial 1, 3) := by decide +kernel
theorem dc_jdk_46_method_1_4 : decode jdk_46_method_1_code 4 = .ok (.return_, 1) := by decide +kernel
theorem dc_jdk_31_method_10_0 : decode jdk_31_method_10_code 0 = .ok (.aload_n 0, 1) := by decide +kernel
theorem dc_jdk_31_method_10_1 : decode jdk_31_method_10_code 1 = .ok (.ifnonnull 11, 3) := by decide +kernel
theorem dc_jdk_31_method_10_12 : decode jdk_31_method_10_code 12 = .ok (.aload_n 0, 1) := by decide +kernel
theorem dc_jdk_31_method_10_13 : decode jdk_31_method_10_code 13 = .ok (.areturn, 1) := by decide +kernel
theorem dc_jdk_44_method_2_0 : decode jdk_44_method_2_code 0 = .ok (.aload_n 0, 1) := by decide +kernel
theorem dc_jdk_44_method_2_1 : decode jdk_44_method_2_code 1 = .ok (.invokespecial 1, 3) := by decide +kernel
theorem dc_jdk_44_method_2_4 : decode jdk_44_method_2_code 4 = .ok (.aload_n 0, 1) := by decide +kernel
theorem dc_jdk_44_method_2_5 : decode jdk_44_method_2_code 5 = .ok (.aload_n 1, 1) := by decide +kernel
theorem dc_jdk_44_method_2_6 : decode jdk_44_method_2_code 6 = .ok (.invokestatic 7, 3) := by decide +kernel
theorem dc_jdk_44_method_2_9 : decode jdk_44_method_2_code 9 = .ok (.putfield 13, 3) := by decide +kernel
theorem dc_jdk_44_method_2_12 : decode jdk_44_method_2_code 12 = .ok (.aload_n 0, 1) := by decide +kernel
theorem dc_jdk_44_method_2_13 : decode jdk_44_method_2_code 13 = .ok (.aload_n 2, 1) := by decide +kernel
theorem dc_jdk_44_method_2_14 : decode jdk_44_method_2_code 14 = .ok (.invokestatic 7, 3) := by decide +kernel
theorem dc_jdk_44_method_2_17 : decode jdk_44_method_2_code 17 = .ok (.putfield 24, 3) := by decide +kernel
theorem dc_jdk_44_method_2_20 : decode jdk_44_method_2_code 20 = .ok (.return_, 1) := by decide +kernel
theorem dc_jdk_40_method_38_0 : decode jdk_40_method_38_code 0 = .ok (.new 96, 3) := by decide +kernel
theorem dc_jdk_40_method_38_3 : decode jdk_40_method_38_code 3 = .ok (.dup, 1) := by decide +kernel
theorem dc_jdk_40_method_38_4 : decode jdk_40_method_38_code 4 = .ok (.aload_n 0, 1) := by decide +kernel
theorem dc_jdk_40_method_38_5 : decode jdk_40_method_38_code 5 = .ok (.aload_n 1, 1) := by decide +kernel
theorem dc_jdk_40_method_38_6 : decode jdk_40_method_38_code 6 = .ok (.invokespecial 100, 3) := by decide +kernel
theorem dc_jdk_40_method_38_9 : decode jdk_40_method_38_code 9 = .ok (.areturn, 1) := by decide +kernel
theorem dc_prog_26_method_2_0 : decode prog_26_method_2_code 0 = .ok (.aload_n 0, 1) := by decide +kernel
theorem dc_prog_26_method_2_1 : decode prog_26_method_2_code 1 = .ok (.getfield 7, 3) := by decide +kernel
theorem dc_prog_26_method_2_4 : decode prog_26_method_2_code 4 = .ok (.aload_n 0, 1) := by decide +kernel
theorem dc_prog_26_method_2_5 : decode prog_26_method_2_code 5 = .ok (.getfield 13, 3) := by decide +kernel
theorem dc_prog_26_method_2_8 : decode prog_26_method_2_code 8 = .ok (.invokestatic 16, 3) := by decide +kernel
theorem dc_prog_26_method_2_11 : decode prog_26_method_2_code 11 = .ok (.areturn, 1) := by decide +kernel
theorem dc_prog_26_method_1_0 : decode prog_26_method_1_code 0 = .ok (.aload_n 0, 1) := by decide +kernel
theorem dc_prog_26_method_1_1 : decode prog_26_method_1_code 1 = .ok (.invokespecial 1, 3) := by decide +kernel
theorem dc_prog_26_method_1_4 : decode prog_26_method_1_code 4 = .ok (.aload_n 0, 1) := by decide +kernel
theorem dc_prog_26_method_1_5 : decode prog_26_method_1_code 5 = .ok (.aload_n 1, 1) := by decide +kernel
theorem dc_prog_26_method_1_6 : decode prog_26_method_1_code 6 = .ok (.putfield 7, 3) := by decide +kernel
theorem dc_prog_26_method_1_9 : decode prog_26_method_1_code 9 = .ok (.aload_n 0, 1) := by decide +kernel
theorem dc_prog_26_method_1_10 : decode prog_26_method_1_code 10 = .ok (.aload_n 2, 1) := by decide +kernel
theorem dc_prog_26_method_1_11 : decode prog_26_method_1_code 11 = .ok (.putfield 13, 3) := by decide +kernel
theorem dc_prog_26_method_1_14 : decode prog_26_method_1_code 14 = .ok (.return_, 1) := by decide +kernel
theorem dc_jdk_44_method_3_0 : decode jdk_44_method_3_code 0 = .ok (.aload_n 0, 1) := by decide +kernel
theorem dc_jdk_44_method_3_1 : decode jdk_44_method_3_code 1 = .ok (.getfield 24, 3) := by decide +kernel
theorem dc_jdk_44_method_3_4 : decode jdk_44_method_3_code 4 = .ok (.getstatic 19, 3) := by decide +kernel
theorem dc_jdk_44_method_3_7 : decode jdk_44_method_3_code 7 = .ok (.if_acmp .eq 7, 3) := by decide +kernel
theorem dc_jdk_44_method_3_10 : decode jdk_44_method_3_code 10 = .ok (.iconst 2, 1) := by decide +kernel
theorem dc_jdk_44_method_3_11 : decode jdk_44_method_3_code 11 = .ok (.goto 4, 3) := by decide +kernel
theorem dc_jdk_44_method_3_15 : decode jdk_44_method_3_code 15 = .ok (.ireturn, 1) := by decide +kernel
theorem dc_jdk_44_method_5_0 : decode jdk_44_method_5_code 0 = .ok (.iload_n 1, 1) := by decide +kernel
theorem dc_jdk_44_method_5_1 : decode jdk_44_method_5_code 1 = .ok (.ifCond .ne 8, 3) := by decide +kernel
theorem dc_jdk_44_method_5_4 : decode jdk_44_method_5_code 4 = .ok (.aload_n 0, 1) := by decide +kernel
theorem dc_jdk_44_method_5_5 : decode jdk_44_method_5_code 5 = .ok (.getfield 13, 3) := by decide +kernel
theorem dc_jdk_44_method_5_8 : decode jdk_44_method_5_code 8 = .ok (.areturn, 1) := by decide +kernel
theorem dc_jdk_44_method_5_9 : decode jdk_44_method_5_code 9 = .ok (.iload_n 1, 1) := by decide +kernel
theorem dc_jdk_44_method_5_10 : decode jdk_44_method_5_code 10 = .ok (.iconst 1, 1) := by decide +kernel
theorem dc_jdk_44_method_5_11 : decode jdk_44_method_5_code 11 = .ok (.if_icmp .ne 18, 3) := by decide +kernel
theorem dc_jdk_44_method_5_14 : decode jdk_44_method_5_code 14 = .ok (.aload_n 0, 1) := by decide +kernel
theorem dc_jdk_44_method_5_15 : decode jdk_44_method_5_code 15 = .ok (.getfield 24, 3) := by decide +kernel
theorem dc_jdk_44_method_5_18 : decode jdk_44_method_5_code 18 = .ok (.getstatic 19, 3) := by decide +kernel
theorem dc_jdk_44_method_5_21 : decode jdk_44_method_5_code 21 = .ok (.if_acmp .eq 8, 3) := by decide +kernel
theorem dc_jdk_44_method_5_24 : decode jdk_44_method_5_code 24 = .ok (.aload_n 0, 1) := by decide +kernel
theorem dc_jdk_44_method_5_25 : decode jdk_44_method_5_code 25 = .ok (.getfield 24, 3) := by decide +kernel
theorem dc_jdk_44_method_5_28 : decode jdk_44_method_5_code 28 = .ok (.areturn, 1) := by decide +kernel
theorem pd_0 : parseMethodDescriptor "()Z" = some ⟨[], some .boolean⟩ := by decide +kernel
theorem pd_1 : parseMethodDescriptor "(Ljava/lang/String;[BLjava/util/Locale;)Ljava/lang/String;" = some ⟨[(.object "java/lang/String"), (.array .byte), (.object "java/util/Locale")], some (.object "java/lang/String")⟩ := by decide +kernel
theorem pd_2 : parseMethodDescriptor "()V" = some ⟨[], none⟩ := by decide +kernel
theorem pd_3 : parseMethodDescriptor "(Ljava/util/Locale;)Ljava/lang/String;" = some ⟨[(.object "java/util/Locale")], some (.object "java/lang/String")⟩ := by decide +kernel
theorem pd_4 : parseMethodDescriptor "(Lcom/example/chiron/chiron/graph/Term$Kind;Ljava/lang/String;Ljava/lang/String;Ljava/lang/String;)V" = some ⟨[(.object "com/example/chiron/chiron/graph/Term$Kind"), (.object "java/lang/String"), (.object "java/lang/String"), (.object "java/lang/String")], none⟩ := by decide +kernel
theorem pd_5 : parseMethodDescriptor "(Ljava/lang/String;Lcom/example/chiron/chiron/graph/Term;)V" = some ⟨[(.object "java/lang/String"), (.object "com/example/chiron/chiron/graph/Term")], none⟩ := by decide +kernel
theorem pd_6 : parseMethodDescriptor "([C)V" = some ⟨[(.array .char)], none⟩ := by decide +kernel
theorem pd_7 : parseMethodDescriptor "(Ljava/lang/String;)Lcom/example/chiron/chiron/graph/Term;" = some ⟨[(.object "java/lang/String")], some (.object "com/example/chiron/chiron/graph/Term")⟩ := by decide +kernel
theorem pd_8 : parseMethodDescriptor "(Lcom/example/chiron/chiron/graph/Term;)Lcom/example/chiron/chiron/query/GraphQuery$Slot;" = some ⟨[(.object "com/example/chiron/chiron/graph/Term")], some (.object "com/example/chiron/chiron/query/GraphQuery$Slot")⟩ := by decide +kernel
theorem pd_9 : parseMethodDescriptor "(Ljava/lang/String;)Lcom/example/chiron/chiron/query/GraphQuery$Slot;" = some ⟨[(.object "java/lang/String")], some (.object "com/example/chiron/chiron/query/GraphQuery$Slot")⟩ := by decide +kernel
theorem pd_10 : parseMethodDescriptor "(Ljava/lang/Object;)Ljava/lang/Object;" = some ⟨[(.object "java/lang/Object")], some (.object "java/lang/Object")⟩ := by decide +kernel
theorem pd_11 : parseMethodDescriptor "(Ljava/lang/Object;Ljava/lang/Object;)V" = some ⟨[(.object "java/lang/Object"), (.object "java/lang/Object")], none⟩ := by decide +kernel
theorem pd_12 : parseMethodDescriptor "(Ljava/lang/Object;Ljava/lang/Object;)Ljava/util/List;" = some ⟨[(.object "java/lang/Object"), (.object "java/lang/Object")], some (.object "java/util/List")⟩ := by decide +kernel
theorem pd_13 : parseMethodDescriptor "(II)Lcom/example/chiron/chiron/query/GraphQuery$Slot;" = some ⟨[.int, .int], some (.object "com/example/chiron/chiron/query/GraphQuery$Slot")⟩ := by decide +kernel
theorem pd_14 : parseMethodDescriptor "(Lcom/example/chiron/chiron/query/GraphQuery$Slot;Lcom/example/chiron/chiron/query/GraphQuery$Slot;)V" = some ⟨[(.object "com/example/chiron/chiron/query/GraphQuery$Slot"), (.object "com/example/chiron/chiron/query/GraphQuery$Slot")], none⟩ := by decide +kernel
theorem pd_15 : parseMethodDescriptor "()Ljava/util/List;" = some ⟨[], some (.object "java/util/List")⟩ := by decide +kernel
theorem pd_16 : parseMethodDescriptor "()I" = some ⟨[], some .int⟩ := by decide +kernel
theorem pd_17 : parseMethodDescriptor "(I)Ljava/lang/Object;" = some ⟨[.int], some (.object "java/lang/Object")⟩ := by decide +kernel
theorem pn_0 : plainFor (⟨"java/lang/Record", "<init>", "()V"⟩ : MethodName) = true := plainFor_of_name (by first | (simp [plainName, overriddenIn]; done) | decide +kernel)
theorem pn_1 : plainFor (⟨"java/lang/String", "isLatin1", "()Z"⟩ : MethodName) = true := plainFor_of_name (by first | (simp [plainName, overriddenIn]; done) | decide +kernel)
theorem pn_2 : plainFor (⟨"java/lang/StringLatin1", "toLowerCase", "(Ljava/lang/String;[BLjava/util/Locale;)Ljava/lang/String;"⟩ : MethodName) = true := plainFor_of_name (by first | (simp [plainName, overriddenIn]; done) | decide +kernel)
theorem pn_3 : plainFor (⟨"java/lang/String", "toLowerCase", "(Ljava/util/Locale;)Ljava/lang/String;"⟩ : MethodName) = true := plainFor_of_name (by first | (simp [plainName, overriddenIn]; done) | decide +kernel)
theorem pn_4 : plainFor (⟨"com/example/chiron/chiron/graph/Term", "<init>", "(Lcom/example/chiron/chiron/graph/Term$Kind;Ljava/lang/String;Ljava/lang/String;Ljava/lang/String;)V"⟩ : MethodName) = true := plainFor_of_name (by first | (simp [plainName, overriddenIn]; done) | decide +kernel)
theorem pn_5 : plainFor (⟨"com/example/chiron/chiron/graph/Term", "iri", "(Ljava/lang/String;)Lcom/example/chiron/chiron/graph/Term;"⟩ : MethodName) = true := plainFor_of_name (by first | (simp [plainName, overriddenIn]; done) | decide +kernel)
theorem pn_6 : plainFor (⟨"com/example/chiron/chiron/graph/Term", "blank", "(Ljava/lang/String;)Lcom/example/chiron/chiron/graph/Term;"⟩ : MethodName) = true := plainFor_of_name (by first | (simp [plainName, overriddenIn]; done) | decide +kernel)
theorem pn_7 : plainFor (⟨"com/example/chiron/chiron/query/GraphQuery$Slot", "<init>", "(Ljava/lang/String;Lcom/example/chiron/chiron/graph/Term;)V"⟩ : MethodName) = true := plainFor_of_name (by first | (simp [plainName, overriddenIn]; done) | decide +kernel)
theorem pn_8 : plainFor (⟨"com/example/chiron/chiron/query/GraphQuery$Slot", "ofVariable", "(Ljava/lang/String;)Lcom/example/chiron/chiron/query/GraphQuery$Slot;"⟩ : MethodName) = true := plainFor_of_name (by first | (simp [plainName, overriddenIn]; done) | decide +kernel)
theorem pn_9 : plainFor (⟨"com/example/chiron/chiron/query/GraphQuery$Slot", "ofConstant", "(Lcom/example/chiron/chiron/graph/Term;)Lcom/example/chiron/chiron/query/GraphQuery$Slot;"⟩ : MethodName) = true := plainFor_of_name (by first | (simp [plainName, overriddenIn]; done) | decide +kernel)
theorem pn_10 : plainFor (⟨"com/example/chiron/chiron/query/IsAPatternSlotsPinLaw", "slot", "(II)Lcom/example/chiron/chiron/query/GraphQuery$Slot;"⟩ : MethodName) = true := plainFor_of_name (by first | (simp [plainName, overriddenIn]; done) | decide +kernel)
theorem pn_11 : plainFor (⟨"java/util/AbstractCollection", "<init>", "()V"⟩ : MethodName) = true := plainFor_of_name (by first | (simp [plainName, overriddenIn]; done) | decide +kernel)
theorem pn_12 : plainFor (⟨"java/util/ImmutableCollections$AbstractImmutableCollection", "<init>", "()V"⟩ : MethodName) = true := plainFor_of_name (by first | (simp [plainName, overriddenIn]; done) | decide +kernel)
theorem pn_13 : plainFor (⟨"java/util/ImmutableCollections$AbstractImmutableList", "<init>", "()V"⟩ : MethodName) = true := plainFor_of_name (by first | (simp [plainName, overriddenIn]; done) | decide +kernel)
theorem pn_14 : plainFor (⟨"java/util/Objects", "requireNonNull", "(Ljava/lang/Object;)Ljava/lang/Object;"⟩ : MethodName) = true := plainFor_of_name (by first | (simp [plainName, overriddenIn]; done) | decide +kernel)
theorem pn_15 : plainFor (⟨"java/util/ImmutableCollections$List12", "<init>", "(Ljava/lang/Object;Ljava/lang/Object;)V"⟩ : MethodName) = true := plainFor_of_name (by first | (simp [plainName, overriddenIn]; done) | decide +kernel)
theorem pn_16 : plainFor (⟨"java/util/List", "of", "(Ljava/lang/Object;Ljava/lang/Object;)Ljava/util/List;"⟩ : MethodName) = true := plainFor_of_name (by first | (simp [plainName, overriddenIn]; done) | decide +kernel)
theorem pn_17 : plainFor (⟨"com/example/chiron/chiron/query/GraphQuery$IsAPattern", "slots", "()Ljava/util/List;"⟩ : MethodName) = true := plainFor_of_name (by first | (simp [plainName, overriddenIn]; done) | decide +kernel)
theorem pn_18 : plainFor (⟨"com/example/chiron/chiron/query/GraphQuery$IsAPattern", "<init>", "(Lcom/example/chiron/chiron/query/GraphQuery$Slot;Lcom/example/chiron/chiron/query/GraphQuery$Slot;)V"⟩ : MethodName) = true := plainFor_of_name (by first | (simp [plainName, overriddenIn]; done) | decide +kernel)
theorem pn_19 : plainFor (⟨"java/util/ImmutableCollections$List12", "size", "()I"⟩ : MethodName) = true := plainFor_of_name (by first | (simp [plainName, overriddenIn]; done) | decide +kernel)
theorem pn_20 : plainFor (⟨"java/util/ImmutableCollections$List12", "get", "(I)Ljava/lang/Object;"⟩ : MethodName) = true := plainFor_of_name (by first | (simp [plainName, overriddenIn]; done) | decide +kernel)
theorem pn_21 : plainFor x = true := plainFor_of_name (by first | (simp [plainName, overriddenIn]; done) | decide +kernel)
theorem ef_0 (x0 : Addr) (m : MethodId) : entryFrame m #[(.ref x0)] 1 = mkF m 0 #[.val (.ref x0)] [] := by first | (simp [entryFrame, mkF, argsToLocals, Value.category]; done) | rfl
theorem ef_1 (x0 : Addr) (x1 : Addr) (x2 : Addr) (m : MethodId) : entryFrame m #[(.ref x0), (.ref x1), (.ref x2)] 9 = mkF m 0 #[.val (.ref x0), .val (.ref x1), .val (.ref x2), .unset, .unset, .unset, .unset, .unset, .unset] [] := by first | (simp [entryFrame, mkF, argsToLocals, Value.category]; done) | rfl
theorem ef_2 (x0 : Addr) (x1 : Addr) (m : MethodId) : entryFrame m #[(.ref x0), (.ref x1)] 2 = mkF m 0 #[.val (.ref x0), .val (.ref x1)] [] := by first | (simp [entryFrame, mkF, argsToLocals, Value.category]; done) | rfl
theorem ef_3 (x0 : Addr) (x1 : Addr) (x2 : Addr) (x3 : Addr) (x4 : Addr) (m : MethodId) : entryFrame m #[(.ref x0), (.ref x1), (.ref x2), (.ref x3), (.ref x4)] 5 = mkF m 0 #[.val (.ref x0), .val (.ref x1), .val (.ref x2), .val (.ref x3), .val (.ref x4)] [] := by first | (simp [entryFrame, mkF, argsToLocals, Value.category]; done) | rfl
theorem ef_4 (x0 : Addr) (x1 : Addr) (m : MethodId) : entryFrame m #[(.ref x0), (.ref x1), .null] 3 = mkF m 0 #[.val (.ref x0), .val (.ref x1), .val .null] [] := by first | (simp [entryFrame, mkF, argsToLocals, Value.category]; done) | rfl
theorem ef_5 (x0 : Addr) (x2 : Addr) (m : MethodId) : entryFrame m #[(.ref x0), .null, (.ref x2)] 3 = mkF m 0 #[.val (.ref x0), .val .null, .val (.ref x2)] [] := by first | (simp [entryFrame, mkF, argsToLocals, Value.category]; done) | rfl
theorem ef_6 (x0 : Int32) (x1 : Int32) (m : MethodId) : entryFrame m #[(.int x0), (.int x1)] 4 = mkF m 0 #[.val (.int x0), .val (.int x1), .unset, .unset] [] := by first | (simp [entryFrame, mkF, argsToLocals, Value.category]; done) | rfl
theorem ef_7 (x0 : Addr) (x1 : Addr) (x2 : Addr) (m : MethodId) : entryFrame m #[(.ref x0), (.ref x1), (.ref x2)] 3 = mkF m 0 #[.val (.ref x0), .val (.ref x1), .val (.ref x2)] [] := by first | (simp [entryFrame, mkF, argsToLocals, Value.category]; done) | rfl
theorem ef_8 (x0 : Addr) (x1 : Int32) (m : MethodId) : entryFrame m #[(.ref x0), (.int x1)] 2 = mkF m 0 #[.val (.ref x0), .val (.int x1)] [] := by first | (simp [entryFrame, mkF, argsToLocals, Value.category]; done) | rfl
theorem ef_9 (x0 : Int32) (x1 : Int32) (x2 : Int32) (m : MethodId) : entryFrame m #[(.int x0), (.int x1), (.int x2)] maxLocals = mkF m 0 #[.val (.int x0), .val (.int x1), .val (.int x2), .unset, .unset, .unset, .unset] [] := by first | (simp [entryFrame, mkF, argsToLocals, Value.category, maxLocals]; done) | rfl
def EL : List (String × Nat) := consts_1
theorem ewEL {Z : State} {a0 : Array Value} (hw : ∀ d ∈ tables_1, d.before a0 Z = true) : EW Z a0 EL := (EW.cons (tw43 hw) (by decide) EW.nil)
theorem wSA {Z : State} {a0 : Array Value} (hw : ∀ d ∈ tables_1, d.before a0 Z = true) : ∀ a ∈ Bundle.stringAtoms, a.before a0 Z = true := fun d hd => hw d ((by decide +kernel : ∀ d ∈ Bundle.stringAtoms, d ∈ tables_1) d hd)
theorem wNew {Z : State} {a0 : Array Value} (hw : ∀ d ∈ tables_1, d.before a0 Z = true) : ∀ d ∈ StrChars.Road.words, d.before a0 Z = true := fun d hd => hw d ((by decide +kernel : ∀ d ∈ StrChars.Road.words, d ∈ tables_1) d hd)
set_option maxRecDepth 65536 in
set_option maxHeartbeats 40000000 in
theorem rm_record {l : Launch} {Z : State} {a0 : Array Value} (hw : ∀ d ∈ tables_1, d.before a0 Z = true) (a : Addr) (h0 : Heap) (hE : Ext Z.heap h0)  :
    Own.Ctr false l Z a0 EL (⟨"java/lang/Record", "<init>", "()V"⟩ : MethodName) jdk_30_method_1_code 1 (Option.none : Option Jvm.ClassFile.FieldType) ({ frames := 1, cells := 0, slots := 0, locals := 12 } : Room) #[(.ref a)] h0 [] (fun v h => v = none) := by
  refine Own.Ctr.of pn_0 (ef_0 a) hE (ewEL hw) ?_
  intro p e s m below meth c T0 X0 hsafe
  refine Own.s_aloadN X0 dc_jdk_30_method_1_0 rfl rfl rfl ?_
  refine Own.s_initO X0 dc_jdk_30_method_1_1 (tw54 hw) (tw16 hw) (tw17 hw) 0 (Nat.le_of_eq rfl) (by decide) (by decide) rfl rfl ?_
  intro T1 X1
  exact Own.r_void X1 rfl dc_jdk_30_method_1_4 (by decide) (by decide) (rfl)
set_option maxRecDepth 65536 in
set_option maxHeartbeats 40000000 in
theorem rm_isLat {l : Launch} {Z : State} {a0 : Array Value} (hw : ∀ d ∈ tables_1, d.before a0 Z = true) (a : Addr) {zc : Int32} (SC : Sta Z Z.heap "java/lang/String" "COMPACT_STRINGS" "Z" (.int zc)) (hzc : ¬ zc = 0) {fm : Value} (SF : Sta Z Z.heap "jdk/internal/util/Preconditions" "SIOOBE_FORMATTER" "Ljava/util/function/BiFunction;" fm) (hfm : fm.isRef = true) (h0 : Heap) (hE : Ext Z.heap h0) (E : Exa Z h0 a "java/lang/String") (Fc : Fld Z h0 a "java/lang/String" "coder" "B" (.int (0 : Int32))) :
    Own.Ctr false l Z a0 EL (⟨"java/lang/String", "isLatin1", "()Z"⟩ : MethodName) jdk_42_method_154_code 1 (Option.some Jvm.ClassFile.FieldType.boolean) ({ frames := 0, cells := 0, slots := 0, locals := 0 } : Room) #[(.ref a)] h0 [] (fun v h => v = some (.int (1 : Int32))) := by
  refine Own.Ctr.of pn_1 (ef_0 a) hE (ewEL hw) ?_
  intro p e s m below meth c T0 X0 hsafe
  have SC0 := Sta.ext hE SC
  have SF0 := Sta.ext hE SF
  refine Own.s_getstatic X0 dc_jdk_42_method_154_0 (tw18 hw) SC0 rfl ?_
  intro T1 X1
  refine Own.s_ifF X1 dc_jdk_42_method_154_3 ((if0 _ _).trans (feq hzc).1) rfl ?_
  refine Own.s_aloadN X1 dc_jdk_42_method_154_6 rfl rfl rfl ?_
  refine Own.s_getfield X1 dc_jdk_42_method_154_7 (tw30 hw) Fc rfl ?_
  intro T2 X2
  refine Own.s_ifF X2 dc_jdk_42_method_154_10 ((if0 _ _).trans (teq (show (0 : Int32) = (0 : Int32) by decide)).2) rfl ?_
  refine Own.s_iconst X2 dc_jdk_42_method_154_13 (1 : Int32) (by decide) rfl ?_
  refine Own.s_goto X2 dc_jdk_42_method_154_14 (by decide) (pc' := 18) (by decide) ?_
  exact Own.r_nar X2 rfl (Or.inl rfl) dc_jdk_42_method_154_18 (by decide) (by decide) (by decide)
set_option maxRecDepth 65536 in
set_option maxHeartbeats 40000000 in
theorem rm_low1 {l : Launch} {Z : State} {a0 : Array Value} (hw : ∀ d ∈ tables_1, d.before a0 Z = true) (a t r : Addr) (kb : ClassId) (h0 : Heap) (hE : Ext Z.heap h0) (A : Arv Z h0 t kb .byte (0 : Int32) [] (.int (0 : Int32))) :
    Own.Ctr false l Z a0 EL (⟨"java/lang/StringLatin1", "toLowerCase", "(Ljava/lang/String;[BLjava/util/Locale;)Ljava/lang/String;"⟩ : MethodName) jdk_43_method_32_code 9 (Option.some (Jvm.ClassFile.FieldType.object "java/lang/String")) ({ frames := 0, cells := 0, slots := 0, locals := 0 } : Room) #[(.ref a), (.ref t), (.ref r)] h0 [] (fun v h => v = some (.ref a)) := by
  refine Own.Ctr.of pn_2 (ef_1 a t r) hE (ewEL hw) ?_
  intro p e s m below meth c T0 X0 hsafe
  refine Own.s_aloadN X0 dc_jdk_43_method_32_0 rfl rfl rfl ?_
  refine Own.s_ifnonnullT X0 dc_jdk_43_method_32_1 (by decide) (pc' := 12) (by decide) ?_
  refine Own.s_aloadN X0 dc_jdk_43_method_32_12 rfl rfl rfl ?_
  refine Own.s_arraylength X0 dc_jdk_43_method_32_13 A rfl ?_
  refine Own.s_istore X0 dc_jdk_43_method_32_14 #[.val (.ref a), .val (.ref t), .val (.ref r), .unset, .val (.int (0 : Int32)), .unset, .unset, .unset, .unset] rfl rfl ?_
  refine Own.s_iconst X0 dc_jdk_43_method_32_16 (0 : Int32) (by decide) rfl ?_
  refine Own.s_istoreN X0 dc_jdk_43_method_32_17 #[.val (.ref a), .val (.ref t), .val (.ref r), .val (.int (0 : Int32)), .val (.int (0 : Int32)), .unset, .unset, .unset, .unset] rfl rfl ?_
  refine Own.s_iloadN X0 dc_jdk_43_method_32_18 rfl rfl ?_
  refine Own.s_iload X0 dc_jdk_43_method_32_19 rfl rfl ?_
  refine Own.s_icmpT X0 dc_jdk_43_method_32_21 (flt (show ¬ (0 : Int32) < (0 : Int32) by decide)).2.1 (by decide) (pc' := 55) (by decide) ?_
  refine Own.s_iloadN X0 dc_jdk_43_method_32_55 rfl rfl ?_
  refine Own.s_iload X0 dc_jdk_43_method_32_56 rfl rfl ?_
  refine Own.s_icmpF X0 dc_jdk_43_method_32_58 (teq (show (0 : Int32) = (0 : Int32) by decide)).2 rfl ?_
  refine Own.s_aloadN X0 dc_jdk_43_method_32_61 rfl rfl rfl ?_
  exact Own.r_ref X0 rfl rfl rfl dc_jdk_43_method_32_62 (by decide) (by decide) (rfl)
set_option maxRecDepth 65536 in
set_option maxHeartbeats 40000000 in
theorem rm_low {l : Launch} {Z : State} {a0 : Array Value} (hw : ∀ d ∈ tables_1, d.before a0 Z = true) (a r : Addr) {zc : Int32} (SC : Sta Z Z.heap "java/lang/String" "COMPACT_STRINGS" "Z" (.int zc)) (hzc : ¬ zc = 0) {fm : Value} (SF : Sta Z Z.heap "jdk/internal/util/Preconditions" "SIOOBE_FORMATTER" "Ljava/util/function/BiFunction;" fm) (hfm : fm.isRef = true) (h0 : Heap) (hE : Ext Z.heap h0) (S : Own.Str Z h0 a []) :
    Own.Ctr false l Z a0 EL (⟨"java/lang/String", "toLowerCase", "(Ljava/util/Locale;)Ljava/lang/String;"⟩ : MethodName) jdk_42_method_109_code 2 (Option.some (Jvm.ClassFile.FieldType.object "java/lang/String")) ({ frames := 1, cells := 0, slots := 0, locals := 20 } : Room) #[(.ref a), (.ref r)] h0 [] (fun v h => v = some (.ref a)) := by
  refine Own.Ctr.of pn_3 (ef_2 a r) hE (ewEL hw) ?_
  intro p e s m below meth c T0 X0 hsafe
  have SC0 := Sta.ext hE SC
  have SF0 := Sta.ext hE SF
  obtain ⟨-, -, E, Fc, t, kb, Fv, A⟩ := S
  refine Own.s_aloadN X0 dc_jdk_42_method_109_0 rfl rfl rfl ?_
  refine Own.c_virtual X0 dc_jdk_42_method_109_1 (tw62 hw) (tw63 hw) (notFace_of_selects (args := #[]) (mvT X0.hZ (tw65 hw))) (tw65 hw) (tw64 hw) (tw7 hw) (tw66 hw) (by decide) a [] [] 0 E (rm_isLat hw a SC hzc SF hfm h0 X0.hE E Fc) (fun q => nomatch q) Own.Ok.nil (lenOf pd_0 rfl) rfl (Nat.le_of_eq rfl) (by decide) (by decide) (by decide) (by decide) rfl rfl ?_
  intro v1 vm1 T1 h1 L1 X1 V1 Q1
  obtain rfl := Q1
  refine Own.s_ifF X1 dc_jdk_42_method_109_4 ((if0 _ _).trans (feq (show ¬ (1 : Int32) = (0 : Int32) by decide)).1) rfl ?_
  refine Own.s_aloadN X1 dc_jdk_42_method_109_7 rfl rfl rfl ?_
  refine Own.s_aloadN X1 dc_jdk_42_method_109_8 rfl rfl rfl ?_
  have ex2 : Ext h0 h1 := Own.extK (Own.Ext.rfl' h0) V1.1 all0
  have F_3 := Fld.ext ex2 Fv
  refine Own.s_getfield X1 dc_jdk_42_method_109_9 (tw32 hw) F_3 rfl ?_
  intro T4 X4
  refine Own.s_aloadN X4 dc_jdk_42_method_109_12 rfl rfl rfl ?_
  have A_5 := Arv.ext A ex2
  refine Own.c_static X4 dc_jdk_42_method_109_13 (tw67 hw) (tw68 hw) (tw69 hw) (tw70 hw) (by decide) [(.ref a), (.ref t), (.ref r)] [] 0 (rm_low1 hw a t r _ h1 X4.hE A_5) (fun q => nomatch q) Own.Ok.nil (lenOf pd_1 rfl) rfl (Nat.le_of_eq rfl) (by decide) (by decide) (by decide) (by decide) rfl rfl ?_
  intro v6 vm6 T6 h6 L6 X6 V6 Q6
  obtain rfl := Q6
  refine Own.s_goto X6 dc_jdk_42_method_109_16 (by decide) (pc' := 28) (by decide) ?_
  exact Own.r_ref X6 rfl rfl rfl dc_jdk_42_method_109_28 (by decide) (by decide) (rfl)
set_option maxRecDepth 65536 in
set_option maxHeartbeats 40000000 in
theorem rm_term {l : Launch} {Z : State} {a0 : Array Value} (hw : ∀ d ∈ tables_1, d.before a0 Z = true) (a : Addr) (kd : Addr) (vl : Addr) (lg : Addr) (dt : Addr) {zc : Int32} (SC : Sta Z Z.heap "java/lang/String" "COMPACT_STRINGS" "Z" (.int zc)) (hzc : ¬ zc = 0) {fm : Value} (SF : Sta Z Z.heap "jdk/internal/util/Preconditions" "SIOOBE_FORMATTER" "Ljava/util/function/BiFunction;" fm) (hfm : fm.isRef = true) {kr : Addr} (Skr : Sta Z Z.heap "java/util/Locale" "ROOT" "Ljava/util/Locale;" (.ref kr)) (h0 : Heap) (hE : Ext Z.heap h0) (ga : Z.heap.size ≤ a) (E : Exa Z h0 a "com/example/chiron/chiron/graph/Term") (F_kind : Fld Z h0 a "com/example/chiron/chiron/graph/Term" "kind" "Lcom/example/chiron/chiron/graph/Term$Kind;" .null) (F_value : Fld Z h0 a "com/example/chiron/chiron/graph/Term" "value" "Ljava/lang/String;" .null) (F_language : Fld Z h0 a "com/example/chiron/chiron/graph/Term" "language" "Ljava/lang/String;" .null) (F_datatype : Fld Z h0 a "com/example/chiron/chiron/graph/Term" "datatype" "Ljava/lang/String;" .null) (Sl : Own.Str Z h0 lg []) :
    Own.Ctr false l Z a0 EL (⟨"com/example/chiron/chiron/graph/Term", "<init>", "(Lcom/example/chiron/chiron/graph/Term$Kind;Ljava/lang/String;Ljava/lang/String;Ljava/lang/String;)V"⟩ : MethodName) prog_7_method_1_code 5 (Option.none : Option Jvm.ClassFile.FieldType) ({ frames := 2, cells := 0, slots := 0, locals := 33 } : Room) #[(.ref a), (.ref kd), (.ref vl), (.ref lg), (.ref dt)] h0 [a] (fun v h => v = none ∧ Exa Z h a "com/example/chiron/chiron/graph/Term" ∧ Fld Z h a "com/example/chiron/chiron/graph/Term" "kind" "Lcom/example/chiron/chiron/graph/Term$Kind;" (.ref kd) ∧ Fld Z h a "com/example/chiron/chiron/graph/Term" "value" "Ljava/lang/String;" (.ref vl) ∧ Fld Z h a "com/example/chiron/chiron/graph/Term" "language" "Ljava/lang/String;" (.ref lg) ∧ Fld Z h a "com/example/chiron/chiron/graph/Term" "datatype" "Ljava/lang/String;" (.ref dt)) := by
  refine Own.Ctr.of pn_4 (ef_3 a kd vl lg dt) hE (ewEL hw) ?_
  intro p e s m below meth c T0 X0 hsafe
  have O0 : Own.Ok false Z EL h0 [a] s.vm h0 a := ⟨E.lt, ga, Or.inl (List.mem_singleton.mpr rfl), fun q => hsafe q _ (List.mem_singleton.mpr rfl)⟩
  have SC0 := Sta.ext hE SC
  have SF0 := Sta.ext hE SF
  have Skr0 := Sta.ext hE Skr
  refine Own.s_aloadN X0 dc_prog_7_method_1_0 rfl rfl rfl ?_
  refine Own.c_special X0 dc_prog_7_method_1_1 rfl (tw49 hw) (tw50 hw) (tw52 hw) (tw53 hw) (by decide) a [] [] 0 (rm_record hw a h0 X0.hE) (fun q => nomatch q) Own.Ok.nil (lenOf pd_2 rfl) rfl (Nat.le_of_eq rfl) (by decide) (by decide) (by decide) (by decide) rfl rfl ?_
  intro v1 vm1 T1 h1 L1 X1 V1 Q1
  obtain rfl := Q1
  refine Own.s_aloadN X1 dc_prog_7_method_1_4 rfl rfl rfl ?_
  refine Own.s_ifnullF X1 dc_prog_7_method_1_5 rfl ?_
  refine Own.s_aloadN X1 dc_prog_7_method_1_8 rfl rfl rfl ?_
  refine Own.s_ifnullF X1 dc_prog_7_method_1_9 rfl ?_
  refine Own.s_aloadN X1 dc_prog_7_method_1_12 rfl rfl rfl ?_
  refine Own.s_ifnullF X1 dc_prog_7_method_1_13 rfl ?_
  refine Own.s_aload X1 dc_prog_7_method_1_16 rfl rfl rfl ?_
  refine Own.s_ifnonnullT X1 dc_prog_7_method_1_18 (by decide) (pc' := 31) (by decide) ?_
  refine Own.s_aloadN X1 dc_prog_7_method_1_31 rfl rfl rfl ?_
  have ex2 : Ext h0 h1 := Own.extK (Own.Ext.rfl' h0) V1.1 all0
  have Z_3 := Sta.ext ex2 Skr0
  refine Own.s_getstatic X1 dc_prog_7_method_1_32 (tw55 hw) Z_3 rfl ?_
  intro T4 X4
  have S_5 := Own.Str.ext Sl ex2
  refine Own.c_virtual X4 dc_prog_7_method_1_35 (tw57 hw) (tw58 hw) (notFace_of_selects (args := #[]) (mvT X4.hZ (tw60 hw))) (tw60 hw) (tw59 hw) (tw7 hw) (tw61 hw) (by decide) lg [(.ref kr)] [] 0 S_5.exa (rm_low hw lg kr SC hzc SF hfm h1 X4.hE S_5) (fun q => nomatch q) Own.Ok.nil (lenOf pd_3 rfl) rfl (Nat.le_of_eq rfl) (by decide) (by decide) (by decide) (by decide) rfl rfl ?_
  intro v6 vm6 T6 h6 L6 X6 V6 Q6
  obtain rfl := Q6
  refine Own.s_astoreN X6 dc_prog_7_method_1_38 rfl #[.val (.ref a), .val (.ref kd), .val (.ref vl), .val (.ref lg), .val (.ref dt)] rfl rfl ?_
  refine Own.s_aloadN X6 dc_prog_7_method_1_39 rfl rfl rfl ?_
  refine Own.s_aloadN X6 dc_prog_7_method_1_40 rfl rfl rfl ?_
  have ex8 : Ext h0 h6 := Own.extK ex2 V6.1 all0
  have F_9 := Fld.ext ex8 F_kind
  have E_10 := Exa.ext ex8 E
  have O11 := ((O0.ev V1).ev V6)
  refine Own.s_putfield X6 dc_prog_7_method_1_41 (tw71 hw) F_9 E_10 (Or.inr ⟨(tw72 hw), rfl, rfl⟩) (tw39 hw) (ty := (.object "com/example/chiron/chiron/graph/Term$Kind")) (by decide) rfl rfl O11 rfl ?_
  intro T7 h7 X7 V7 W7
  have F7 := Fld.same W7 F_9
  refine Own.s_aloadN X7 dc_prog_7_method_1_44 rfl rfl rfl ?_
  refine Own.s_aloadN X7 dc_prog_7_method_1_45 rfl rfl rfl ?_
  have F_13 := (Fld.other W7 (Fld.ext (Own.extN V6.1) (Fld.ext (Own.extN V1.1) F_value)) (Or.inr (slot_ne (Or.inr (tw74 hw)) (Or.inr (tw72 hw)) (by decide) (t := (.object "java/lang/String")) (t' := (.object "com/example/chiron/chiron/graph/Term$Kind")) (by decide) (by decide))))
  have E_14 := (Exa.keep E_10 V7.1)
  have O15 := (O11.ev V7)
  refine Own.s_putfield X7 dc_prog_7_method_1_46 (tw73 hw) F_13 E_14 (Or.inr ⟨(tw74 hw), rfl, rfl⟩) (tw39 hw) (ty := (.object "java/lang/String")) (by decide) rfl rfl O15 rfl ?_
  intro T12 h12 X12 V12 W12
  have F12 := Fld.same W12 F_13
  refine Own.s_aloadN X12 dc_prog_7_method_1_49 rfl rfl rfl ?_
  refine Own.s_aloadN X12 dc_prog_7_method_1_50 rfl rfl rfl ?_
  have F_17 := (Fld.other W12 (Fld.other W7 (Fld.ext (Own.extN V6.1) (Fld.ext (Own.extN V1.1) F_language)) (Or.inr (slot_ne (Or.inr (tw76 hw)) (Or.inr (tw72 hw)) (by decide) (t := (.object "java/lang/String")) (t' := (.object "com/example/chiron/chiron/graph/Term$Kind")) (by decide) (by decide)))) (Or.inr (slot_ne (Or.inr (tw76 hw)) (Or.inr (tw74 hw)) (by decide) (t := (.object "java/lang/String")) (t' := (.object "java/lang/String")) (by decide) (by decide))))
  have E_18 := (Exa.keep E_14 V12.1)
  have O19 := (O15.ev V12)
  refine Own.s_putfield X12 dc_prog_7_method_1_51 (tw75 hw) F_17 E_18 (Or.inr ⟨(tw76 hw), rfl, rfl⟩) (tw39 hw) (ty := (.object "java/lang/String")) (by decide) rfl rfl O19 rfl ?_
  intro T16 h16 X16 V16 W16
  have F16 := Fld.same W16 F_17
  refine Own.s_aloadN X16 dc_prog_7_method_1_54 rfl rfl rfl ?_
  refine Own.s_aload X16 dc_prog_7_method_1_55 rfl rfl rfl ?_
  have F_21 := (Fld.other W16 (Fld.other W12 (Fld.other W7 (Fld.ext (Own.extN V6.1) (Fld.ext (Own.extN V1.1) F_datatype)) (Or.inr (slot_ne (Or.inr (tw78 hw)) (Or.inr (tw72 hw)) (by decide) (t := (.object "java/lang/String")) (t' := (.object "com/example/chiron/chiron/graph/Term$Kind")) (by decide) (by decide)))) (Or.inr (slot_ne (Or.inr (tw78 hw)) (Or.inr (tw74 hw)) (by decide) (t := (.object "java/lang/String")) (t' := (.object "java/lang/String")) (by decide) (by decide)))) (Or.inr (slot_ne (Or.inr (tw78 hw)) (Or.inr (tw76 hw)) (by decide) (t := (.object "java/lang/String")) (t' := (.object "java/lang/String")) (by decide) (by decide))))
  have E_22 := (Exa.keep E_18 V16.1)
  have O23 := (O19.ev V16)
  refine Own.s_putfield X16 dc_prog_7_method_1_57 (tw77 hw) F_21 E_22 (Or.inr ⟨(tw78 hw), rfl, rfl⟩) (tw39 hw) (ty := (.object "java/lang/String")) (by decide) rfl rfl O23 rfl ?_
  intro T20 h20 X20 V20 W20
  have F20 := Fld.same W20 F_21
  have E_24 := (Exa.keep E_22 V20.1)
  have F_25 := (Fld.other W20 (Fld.other W16 (Fld.other W12 F7 (Or.inr (slot_ne (Or.inr (tw72 hw)) (Or.inr (tw74 hw)) (by decide) (t := (.object "com/example/chiron/chiron/graph/Term$Kind")) (t' := (.object "java/lang/String")) (by decide) (by decide)))) (Or.inr (slot_ne (Or.inr (tw72 hw)) (Or.inr (tw76 hw)) (by decide) (t := (.object "com/example/chiron/chiron/graph/Term$Kind")) (t' := (.object "java/lang/String")) (by decide) (by decide)))) (Or.inr (slot_ne (Or.inr (tw72 hw)) (Or.inr (tw78 hw)) (by decide) (t := (.object "com/example/chiron/chiron/graph/Term$Kind")) (t' := (.object "java/lang/String")) (by decide) (by decide))))
  have F_26 := (Fld.other W20 (Fld.other W16 F12 (Or.inr (slot_ne (Or.inr (tw74 hw)) (Or.inr (tw76 hw)) (by decide) (t := (.object "java/lang/String")) (t' := (.object "java/lang/String")) (by decide) (by decide)))) (Or.inr (slot_ne (Or.inr (tw74 hw)) (Or.inr (tw78 hw)) (by decide) (t := (.object "java/lang/String")) (t' := (.object "java/lang/String")) (by decide) (by decide))))
  have F_27 := (Fld.other W20 F16 (Or.inr (slot_ne (Or.inr (tw76 hw)) (Or.inr (tw78 hw)) (by decide) (t := (.object "java/lang/String")) (t' := (.object "java/lang/String")) (by decide) (by decide))))
  exact Own.r_void X20 rfl dc_prog_7_method_1_60 (by decide) (by decide) (⟨rfl, E_24, F_25, F_26, F_27, F20⟩)
set_option maxRecDepth 65536 in
set_option maxHeartbeats 40000000 in
theorem rm_iri {l : Launch} {Z : State} {a0 : Array Value} (hw : ∀ d ∈ tables_1, d.before a0 Z = true) (tx : Addr) {zc : Int32} (SC : Sta Z Z.heap "java/lang/String" "COMPACT_STRINGS" "Z" (.int zc)) (hzc : ¬ zc = 0) {fm : Value} (SF : Sta Z Z.heap "jdk/internal/util/Preconditions" "SIOOBE_FORMATTER" "Ljava/util/function/BiFunction;" fm) (hfm : fm.isRef = true) {kr : Addr} (Skr : Sta Z Z.heap "java/util/Locale" "ROOT" "Ljava/util/Locale;" (.ref kr)) {kI : Addr} (SkI : Sta Z Z.heap "com/example/chiron/chiron/graph/Term$Kind" "IRI" "Lcom/example/chiron/chiron/graph/Term$Kind;" (.ref kI)) (h0 : Heap) (hE : Ext Z.heap h0)  :
    Own.Ctr true l Z a0 EL (⟨"com/example/chiron/chiron/graph/Term", "iri", "(Ljava/lang/String;)Lcom/example/chiron/chiron/graph/Term;"⟩ : MethodName) prog_7_method_2_code 1 (Option.some (Jvm.ClassFile.FieldType.object "com/example/chiron/chiron/graph/Term")) ({ frames := 3, cells := 5, slots := 12, locals := 50 } : Room) #[(.ref tx)] h0 [] (fun v h => ∃ r, v = some (.ref r) ∧ h0.size ≤ r ∧ Exa Z h r "com/example/chiron/chiron/graph/Term") := by
  refine Own.Ctr.of pn_5 (ef_0 tx) hE (ewEL hw) ?_
  intro p e s m below meth c T0 X0 hsafe
  have SC0 := Sta.ext hE SC
  have SF0 := Sta.ext hE SF
  have Skr0 := Sta.ext hE Skr
  have SkI0 := Sta.ext hE SkI
  refine Own.s_new X0 dc_prog_7_method_2_0 (tw38 hw) (tw39 hw) (tw36 hw) (by decide) (by decide) rfl ?_
  intro b1 T1 h1 X1 V1 g1 E1 O1 D1
  have F1_kind : Fld Z h1 b1 "com/example/chiron/chiron/graph/Term" "kind" "Lcom/example/chiron/chiron/graph/Term$Kind;" (.null) := D1 (Or.inr (tw72 hw)) (ty := (.object "com/example/chiron/chiron/graph/Term$Kind")) (by decide)
  have F1_value : Fld Z h1 b1 "com/example/chiron/chiron/graph/Term" "value" "Ljava/lang/String;" (.null) := D1 (Or.inr (tw74 hw)) (ty := (.object "java/lang/String")) (by decide)
  have F1_language : Fld Z h1 b1 "com/example/chiron/chiron/graph/Term" "language" "Ljava/lang/String;" (.null) := D1 (Or.inr (tw76 hw)) (ty := (.object "java/lang/String")) (by decide)
  have F1_datatype : Fld Z h1 b1 "com/example/chiron/chiron/graph/Term" "datatype" "Ljava/lang/String;" (.null) := D1 (Or.inr (tw78 hw)) (ty := (.object "java/lang/String")) (by decide)
  refine Own.s_dup X1 dc_prog_7_method_2_3 rfl rfl ?_
  have ex2 : Ext h0 h1 := Own.extK (Own.Ext.rfl' h0) V1.1 all0
  have Z_3 := Sta.ext ex2 SkI0
  refine Own.s_getstatic X1 dc_prog_7_method_2_4 (tw96 hw) Z_3 rfl ?_
  intro T4 X4
  refine Own.s_aloadN X4 dc_prog_7_method_2_7 rfl rfl rfl ?_
  refine Own.s_ldcStr rfl X4 dc_prog_7_method_2_8 (tw43 hw) (wSA hw) (by decide) (vs := []) (z := (0 : Int32)) ⟨by decide, by decide⟩ (by decide) (by decide) 0 (by decide) (by decide) (by decide) (by decide) rfl ?_
  intro a5 b5 k5 vm5 T5 h5 X5 V5 E5 C5 U5 A5
  have S5 : Own.Str Z h5 a5 [] := Own.Str.mk (by decide) (by decide) E5 C5 U5 A5
  refine Own.s_ldcStr rfl X5 dc_prog_7_method_2_10 (tw43 hw) (wSA hw) (by decide) (vs := []) (z := (0 : Int32)) ⟨by decide, by decide⟩ (by decide) (by decide) 0 (by decide) (by decide) (by decide) (by decide) rfl ?_
  intro a6 b6 k6 vm6 T6 h6 X6 V6 E6 C6 U6 A6
  have S6 : Own.Str Z h6 a6 [] := Own.Str.mk (by decide) (by decide) E6 C6 U6 A6
  have ex7 : Ext h1 h5 := Own.extK (Own.Ext.rfl' h1) V5.1 all0
  have ex8 : Ext h1 h6 := Own.extK ex7 V6.1 all0
  have F_9 := Fld.ext ex8 F1_kind
  have F_10 := Fld.ext ex8 F1_value
  have F_11 := Fld.ext ex8 F1_language
  have F_12 := Fld.ext ex8 F1_datatype
  have E_13 := Exa.ext ex8 E1
  have O14 := ((O1.ev V5).ev V6)
  have ex15 : Ext h5 h6 := Own.extK (Own.Ext.rfl' h5) V6.1 all0
  have S_16 := Own.Str.ext S5 ex15
  refine Own.c_special X6 dc_prog_7_method_2_12 rfl (tw46 hw) (tw47 hw) (tw36 hw) (tw48 hw) (by decide) b1 [(.ref kI), (.ref tx), (.ref a5), (.ref a6)] [(.ref b1)] 1 (rm_term hw b1 kI tx a5 a6 SC hzc SF hfm Skr h6 X6.hE O14.2.1 E_13 F_9 F_10 F_11 F_12 S_16) (fun q => nomatch q) (Own.Ok.one O14) (lenOf pd_4 rfl) rfl (Nat.le_of_eq rfl) (by decide) (by decide) (by decide) (by decide) rfl rfl ?_
  intro v17 vm17 T17 h17 L17 X17 V17 Q17
  obtain ⟨rfl, E17, F17_0, F17_1, F17_2, F17_3⟩ := Q17
  exact Own.r_ref X17 rfl rfl rfl dc_prog_7_method_2_15 (by decide) (by decide) (⟨b1, rfl, g1, E17⟩)
set_option maxRecDepth 65536 in
set_option maxHeartbeats 40000000 in
theorem rm_blank {l : Launch} {Z : State} {a0 : Array Value} (hw : ∀ d ∈ tables_1, d.before a0 Z = true) (tx : Addr) {zc : Int32} (SC : Sta Z Z.heap "java/lang/String" "COMPACT_STRINGS" "Z" (.int zc)) (hzc : ¬ zc = 0) {fm : Value} (SF : Sta Z Z.heap "jdk/internal/util/Preconditions" "SIOOBE_FORMATTER" "Ljava/util/function/BiFunction;" fm) (hfm : fm.isRef = true) {kr : Addr} (Skr : Sta Z Z.heap "java/util/Locale" "ROOT" "Ljava/util/Locale;" (.ref kr)) {kB : Addr} (SkB : Sta Z Z.heap "com/example/chiron/chiron/graph/Term$Kind" "BLANK" "Lcom/example/chiron/chiron/graph/Term$Kind;" (.ref kB)) (h0 : Heap) (hE : Ext Z.heap h0)  :
    Own.Ctr true l Z a0 EL (⟨"com/example/chiron/chiron/graph/Term", "blank", "(Ljava/lang/String;)Lcom/example/chiron/chiron/graph/Term;"⟩ : MethodName) prog_7_method_3_code 1 (Option.some (Jvm.ClassFile.FieldType.object "com/example/chiron/chiron/graph/Term")) ({ frames := 3, cells := 5, slots := 12, locals := 50 } : Room) #[(.ref tx)] h0 [] (fun v h => ∃ r, v = some (.ref r) ∧ h0.size ≤ r ∧ Exa Z h r "com/example/chiron/chiron/graph/Term") := by
  refine Own.Ctr.of pn_6 (ef_0 tx) hE (ewEL hw) ?_
  intro p e s m below meth c T0 X0 hsafe
  have SC0 := Sta.ext hE SC
  have SF0 := Sta.ext hE SF
  have Skr0 := Sta.ext hE Skr
  have SkB0 := Sta.ext hE SkB
  refine Own.s_new X0 dc_prog_7_method_3_0 (tw38 hw) (tw39 hw) (tw36 hw) (by decide) (by decide) rfl ?_
  intro b1 T1 h1 X1 V1 g1 E1 O1 D1
  have F1_kind : Fld Z h1 b1 "com/example/chiron/chiron/graph/Term" "kind" "Lcom/example/chiron/chiron/graph/Term$Kind;" (.null) := D1 (Or.inr (tw72 hw)) (ty := (.object "com/example/chiron/chiron/graph/Term$Kind")) (by decide)
  have F1_value : Fld Z h1 b1 "com/example/chiron/chiron/graph/Term" "value" "Ljava/lang/String;" (.null) := D1 (Or.inr (tw74 hw)) (ty := (.object "java/lang/String")) (by decide)
  have F1_language : Fld Z h1 b1 "com/example/chiron/chiron/graph/Term" "language" "Ljava/lang/String;" (.null) := D1 (Or.inr (tw76 hw)) (ty := (.object "java/lang/String")) (by decide)
  have F1_datatype : Fld Z h1 b1 "com/example/chiron/chiron/graph/Term" "datatype" "Ljava/lang/String;" (.null) := D1 (Or.inr (tw78 hw)) (ty := (.object "java/lang/String")) (by decide)
  refine Own.s_dup X1 dc_prog_7_method_3_3 rfl rfl ?_
  have ex2 : Ext h0 h1 := Own.extK (Own.Ext.rfl' h0) V1.1 all0
  have Z_3 := Sta.ext ex2 SkB0
  refine Own.s_getstatic X1 dc_prog_7_method_3_4 (tw40 hw) Z_3 rfl ?_
  intro T4 X4
  refine Own.s_aloadN X4 dc_prog_7_method_3_7 rfl rfl rfl ?_
  refine Own.s_ldcStr rfl X4 dc_prog_7_method_3_8 (tw43 hw) (wSA hw) (by decide) (vs := []) (z := (0 : Int32)) ⟨by decide, by decide⟩ (by decide) (by decide) 0 (by decide) (by decide) (by decide) (by decide) rfl ?_
  intro a5 b5 k5 vm5 T5 h5 X5 V5 E5 C5 U5 A5
  have S5 : Own.Str Z h5 a5 [] := Own.Str.mk (by decide) (by decide) E5 C5 U5 A5
  refine Own.s_ldcStr rfl X5 dc_prog_7_method_3_10 (tw43 hw) (wSA hw) (by decide) (vs := []) (z := (0 : Int32)) ⟨by decide, by decide⟩ (by decide) (by decide) 0 (by decide) (by decide) (by decide) (by decide) rfl ?_
  intro a6 b6 k6 vm6 T6 h6 X6 V6 E6 C6 U6 A6
  have S6 : Own.Str Z h6 a6 [] := Own.Str.mk (by decide) (by decide) E6 C6 U6 A6
  have ex7 : Ext h1 h5 := Own.extK (Own.Ext.rfl' h1) V5.1 all0
  have ex8 : Ext h1 h6 := Own.extK ex7 V6.1 all0
  have F_9 := Fld.ext ex8 F1_kind
  have F_10 := Fld.ext ex8 F1_value
  have F_11 := Fld.ext ex8 F1_language
  have F_12 := Fld.ext ex8 F1_datatype
  have E_13 := Exa.ext ex8 E1
  have O14 := ((O1.ev V5).ev V6)
  have ex15 : Ext h5 h6 := Own.extK (Own.Ext.rfl' h5) V6.1 all0
  have S_16 := Own.Str.ext S5 ex15
  refine Own.c_special X6 dc_prog_7_method_3_12 rfl (tw46 hw) (tw47 hw) (tw36 hw) (tw48 hw) (by decide) b1 [(.ref kB), (.ref tx), (.ref a5), (.ref a6)] [(.ref b1)] 1 (rm_term hw b1 kB tx a5 a6 SC hzc SF hfm Skr h6 X6.hE O14.2.1 E_13 F_9 F_10 F_11 F_12 S_16) (fun q => nomatch q) (Own.Ok.one O14) (lenOf pd_4 rfl) rfl (Nat.le_of_eq rfl) (by decide) (by decide) (by decide) (by decide) rfl rfl ?_
  intro v17 vm17 T17 h17 L17 X17 V17 Q17
  obtain ⟨rfl, E17, F17_0, F17_1, F17_2, F17_3⟩ := Q17
  exact Own.r_ref X17 rfl rfl rfl dc_prog_7_method_3_15 (by decide) (by decide) (⟨b1, rfl, g1, E17⟩)
set_option maxRecDepth 65536 in
set_option maxHeartbeats 40000000 in
theorem rm_slv {l : Launch} {Z : State} {a0 : Array Value} (hw : ∀ d ∈ tables_1, d.before a0 Z = true) (a : Addr) (k : Addr)  (h0 : Heap) (hE : Ext Z.heap h0) (ga : Z.heap.size ≤ a) (E : Exa Z h0 a "com/example/chiron/chiron/query/GraphQuery$Slot") (F_variable : Fld Z h0 a "com/example/chiron/chiron/query/GraphQuery$Slot" "variable" "Ljava/lang/String;" .null) (F_constant : Fld Z h0 a "com/example/chiron/chiron/query/GraphQuery$Slot" "constant" "Lcom/example/chiron/chiron/graph/Term;" .null)  :
    Own.Ctr false l Z a0 EL (⟨"com/example/chiron/chiron/query/GraphQuery$Slot", "<init>", "(Ljava/lang/String;Lcom/example/chiron/chiron/graph/Term;)V"⟩ : MethodName) prog_28_method_1_code 3 (Option.none : Option Jvm.ClassFile.FieldType) ({ frames := 2, cells := 0, slots := 0, locals := 24 } : Room) #[(.ref a), (.ref k), .null] h0 [a] (fun v h => v = none ∧ Exa Z h a "com/example/chiron/chiron/query/GraphQuery$Slot" ∧ Fld Z h a "com/example/chiron/chiron/query/GraphQuery$Slot" "variable" "Ljava/lang/String;" (.ref k) ∧ Fld Z h a "com/example/chiron/chiron/query/GraphQuery$Slot" "constant" "Lcom/example/chiron/chiron/graph/Term;" .null) := by
  refine Own.Ctr.of pn_7 (ef_4 a k) hE (ewEL hw) ?_
  intro p e s m below meth c T0 X0 hsafe
  have O0 : Own.Ok false Z EL h0 [a] s.vm h0 a := ⟨E.lt, ga, Or.inl (List.mem_singleton.mpr rfl), fun q => hsafe q _ (List.mem_singleton.mpr rfl)⟩
  refine Own.s_aloadN X0 dc_prog_28_method_1_0 rfl rfl rfl ?_
  refine Own.c_special X0 dc_prog_28_method_1_1 rfl (tw88 hw) (tw50 hw) (tw52 hw) (tw53 hw) (by decide) a [] [] 0 (rm_record hw a h0 X0.hE) (fun q => nomatch q) Own.Ok.nil (lenOf pd_2 rfl) rfl (Nat.le_of_eq rfl) (by decide) (by decide) (by decide) (by decide) rfl rfl ?_
  intro v1 vm1 T1 h1 L1 X1 V1 Q1
  obtain rfl := Q1
  refine Own.s_aloadN X1 dc_prog_28_method_1_4 rfl rfl rfl ?_
  refine Own.s_ifnonnullT X1 dc_prog_28_method_1_5 (by decide) (pc' := 12) (by decide) ?_
  refine Own.s_iconst X1 dc_prog_28_method_1_12 (0 : Int32) (by decide) rfl ?_
  refine Own.s_aloadN X1 dc_prog_28_method_1_13 rfl rfl rfl ?_
  refine Own.s_ifnonnullF X1 dc_prog_28_method_1_14 rfl ?_
  refine Own.s_iconst X1 dc_prog_28_method_1_17 (1 : Int32) (by decide) rfl ?_
  refine Own.s_goto X1 dc_prog_28_method_1_18 (by decide) (pc' := 22) (by decide) ?_
  refine Own.s_icmpT X1 dc_prog_28_method_1_22 (feq (show ¬ (0 : Int32) = (1 : Int32) by decide)).2 (by decide) (pc' := 35) (by decide) ?_
  refine Own.s_aloadN X1 dc_prog_28_method_1_35 rfl rfl rfl ?_
  refine Own.s_aloadN X1 dc_prog_28_method_1_36 rfl rfl rfl ?_
  have ex3 : Ext h0 h1 := Own.extK (Own.Ext.rfl' h0) V1.1 all0
  have F_4 := Fld.ext ex3 F_variable
  have E_5 := Exa.ext ex3 E
  have O6 := (O0.ev V1)
  refine Own.s_putfield X1 dc_prog_28_method_1_37 (tw89 hw) F_4 E_5 (Or.inr ⟨(tw90 hw), rfl, rfl⟩) (tw84 hw) (ty := (.object "java/lang/String")) (by decide) rfl rfl O6 rfl ?_
  intro T2 h2 X2 V2 W2
  have F2 := Fld.same W2 F_4
  refine Own.s_aloadN X2 dc_prog_28_method_1_40 rfl rfl rfl ?_
  refine Own.s_aloadN X2 dc_prog_28_method_1_41 rfl rfl rfl ?_
  have F_8 := (Fld.other W2 (Fld.ext (Own.extN V1.1) F_constant) (Or.inr (slot_ne (Or.inr (tw92 hw)) (Or.inr (tw90 hw)) (by decide) (t := (.object "com/example/chiron/chiron/graph/Term")) (t' := (.object "java/lang/String")) (by decide) (by decide))))
  have E_9 := (Exa.keep E_5 V2.1)
  have O10 := (O6.ev V2)
  refine Own.s_putfield X2 dc_prog_28_method_1_42 (tw91 hw) F_8 E_9 (Or.inr ⟨(tw92 hw), rfl, rfl⟩) (tw84 hw) (ty := (.object "com/example/chiron/chiron/graph/Term")) (by decide) rfl rfl O10 rfl ?_
  intro T7 h7 X7 V7 W7
  have F7 := Fld.same W7 F_8
  have E_11 := (Exa.keep E_9 V7.1)
  have F_12 := (Fld.other W7 F2 (Or.inr (slot_ne (Or.inr (tw90 hw)) (Or.inr (tw92 hw)) (by decide) (t := (.object "java/lang/String")) (t' := (.object "com/example/chiron/chiron/graph/Term")) (by decide) (by decide))))
  exact Own.r_void X7 rfl dc_prog_28_method_1_45 (by decide) (by decide) (⟨rfl, E_11, F_12, F7⟩)
set_option maxRecDepth 65536 in
set_option maxHeartbeats 40000000 in
theorem rm_slc {l : Launch} {Z : State} {a0 : Array Value} (hw : ∀ d ∈ tables_1, d.before a0 Z = true) (a : Addr) (k : Addr)  (h0 : Heap) (hE : Ext Z.heap h0) (ga : Z.heap.size ≤ a) (E : Exa Z h0 a "com/example/chiron/chiron/query/GraphQuery$Slot") (F_variable : Fld Z h0 a "com/example/chiron/chiron/query/GraphQuery$Slot" "variable" "Ljava/lang/String;" .null) (F_constant : Fld Z h0 a "com/example/chiron/chiron/query/GraphQuery$Slot" "constant" "Lcom/example/chiron/chiron/graph/Term;" .null)  :
    Own.Ctr false l Z a0 EL (⟨"com/example/chiron/chiron/query/GraphQuery$Slot", "<init>", "(Ljava/lang/String;Lcom/example/chiron/chiron/graph/Term;)V"⟩ : MethodName) prog_28_method_1_code 3 (Option.none : Option Jvm.ClassFile.FieldType) ({ frames := 2, cells := 0, slots := 0, locals := 24 } : Room) #[(.ref a), .null, (.ref k)] h0 [a] (fun v h => v = none ∧ Exa Z h a "com/example/chiron/chiron/query/GraphQuery$Slot" ∧ Fld Z h a "com/example/chiron/chiron/query/GraphQuery$Slot" "variable" "Ljava/lang/String;" .null ∧ Fld Z h a "com/example/chiron/chiron/query/GraphQuery$Slot" "constant" "Lcom/example/chiron/chiron/graph/Term;" (.ref k)) := by
  refine Own.Ctr.of pn_7 (ef_5 a k) hE (ewEL hw) ?_
  intro p e s m below meth c T0 X0 hsafe
  have O0 : Own.Ok false Z EL h0 [a] s.vm h0 a := ⟨E.lt, ga, Or.inl (List.mem_singleton.mpr rfl), fun q => hsafe q _ (List.mem_singleton.mpr rfl)⟩
  refine Own.s_aloadN X0 dc_prog_28_method_1_0 rfl rfl rfl ?_
  refine Own.c_special X0 dc_prog_28_method_1_1 rfl (tw88 hw) (tw50 hw) (tw52 hw) (tw53 hw) (by decide) a [] [] 0 (rm_record hw a h0 X0.hE) (fun q => nomatch q) Own.Ok.nil (lenOf pd_2 rfl) rfl (Nat.le_of_eq rfl) (by decide) (by decide) (by decide) (by decide) rfl rfl ?_
  intro v1 vm1 T1 h1 L1 X1 V1 Q1
  obtain rfl := Q1
  refine Own.s_aloadN X1 dc_prog_28_method_1_4 rfl rfl rfl ?_
  refine Own.s_ifnonnullF X1 dc_prog_28_method_1_5 rfl ?_
  refine Own.s_iconst X1 dc_prog_28_method_1_8 (1 : Int32) (by decide) rfl ?_
  refine Own.s_goto X1 dc_prog_28_method_1_9 (by decide) (pc' := 13) (by decide) ?_
  refine Own.s_aloadN X1 dc_prog_28_method_1_13 rfl rfl rfl ?_
  refine Own.s_ifnonnullT X1 dc_prog_28_method_1_14 (by decide) (pc' := 21) (by decide) ?_
  refine Own.s_iconst X1 dc_prog_28_method_1_21 (0 : Int32) (by decide) rfl ?_
  refine Own.s_icmpT X1 dc_prog_28_method_1_22 (feq (show ¬ (1 : Int32) = (0 : Int32) by decide)).2 (by decide) (pc' := 35) (by decide) ?_
  refine Own.s_aloadN X1 dc_prog_28_method_1_35 rfl rfl rfl ?_
  refine Own.s_aloadN X1 dc_prog_28_method_1_36 rfl rfl rfl ?_
  have ex3 : Ext h0 h1 := Own.extK (Own.Ext.rfl' h0) V1.1 all0
  have F_4 := Fld.ext ex3 F_variable
  have E_5 := Exa.ext ex3 E
  have O6 := (O0.ev V1)
  refine Own.s_putfield X1 dc_prog_28_method_1_37 (tw89 hw) F_4 E_5 (Or.inr ⟨(tw90 hw), rfl, rfl⟩) (tw84 hw) (ty := (.object "java/lang/String")) (by decide) rfl rfl O6 rfl ?_
  intro T2 h2 X2 V2 W2
  have F2 := Fld.same W2 F_4
  refine Own.s_aloadN X2 dc_prog_28_method_1_40 rfl rfl rfl ?_
  refine Own.s_aloadN X2 dc_prog_28_method_1_41 rfl rfl rfl ?_
  have F_8 := (Fld.other W2 (Fld.ext (Own.extN V1.1) F_constant) (Or.inr (slot_ne (Or.inr (tw92 hw)) (Or.inr (tw90 hw)) (by decide) (t := (.object "com/example/chiron/chiron/graph/Term")) (t' := (.object "java/lang/String")) (by decide) (by decide))))
  have E_9 := (Exa.keep E_5 V2.1)
  have O10 := (O6.ev V2)
  refine Own.s_putfield X2 dc_prog_28_method_1_42 (tw91 hw) F_8 E_9 (Or.inr ⟨(tw92 hw), rfl, rfl⟩) (tw84 hw) (ty := (.object "com/example/chiron/chiron/graph/Term")) (by decide) rfl rfl O10 rfl ?_
  intro T7 h7 X7 V7 W7
  have F7 := Fld.same W7 F_8
  have E_11 := (Exa.keep E_9 V7.1)
  have F_12 := (Fld.other W7 F2 (Or.inr (slot_ne (Or.inr (tw90 hw)) (Or.inr (tw92 hw)) (by decide) (t := (.object "java/lang/String")) (t' := (.object "com/example/chiron/chiron/graph/Term")) (by decide) (by decide))))
  exact Own.r_void X7 rfl dc_prog_28_method_1_45 (by decide) (by decide) (⟨rfl, E_11, F_12, F7⟩)
set_option maxRecDepth 65536 in
set_option maxHeartbeats 40000000 in
theorem rm_ofv {l : Launch} {Z : State} {a0 : Array Value} (hw : ∀ d ∈ tables_1, d.before a0 Z = true) (tx : Addr) (h0 : Heap) (hE : Ext Z.heap h0)  :
    Own.Ctr false l Z a0 EL (⟨"com/example/chiron/chiron/query/GraphQuery$Slot", "ofVariable", "(Ljava/lang/String;)Lcom/example/chiron/chiron/query/GraphQuery$Slot;"⟩ : MethodName) prog_28_method_2_code 1 (Option.some (Jvm.ClassFile.FieldType.object "com/example/chiron/chiron/query/GraphQuery$Slot")) ({ frames := 3, cells := 1, slots := 2, locals := 39 } : Room) #[(.ref tx)] h0 [] (fun v h => ∃ r, v = some (.ref r) ∧ h0.size ≤ r ∧ Exa Z h r "com/example/chiron/chiron/query/GraphQuery$Slot") := by
  refine Own.Ctr.of pn_8 (ef_0 tx) hE (ewEL hw) ?_
  intro p e s m below meth c T0 X0 hsafe
  refine Own.s_new X0 dc_prog_28_method_2_0 (tw83 hw) (tw84 hw) (tw81 hw) (by decide) (by decide) rfl ?_
  intro b1 T1 h1 X1 V1 g1 E1 O1 D1
  have F1_variable : Fld Z h1 b1 "com/example/chiron/chiron/query/GraphQuery$Slot" "variable" "Ljava/lang/String;" (.null) := D1 (Or.inr (tw90 hw)) (ty := (.object "java/lang/String")) (by decide)
  have F1_constant : Fld Z h1 b1 "com/example/chiron/chiron/query/GraphQuery$Slot" "constant" "Lcom/example/chiron/chiron/graph/Term;" (.null) := D1 (Or.inr (tw92 hw)) (ty := (.object "com/example/chiron/chiron/graph/Term")) (by decide)
  refine Own.s_dup X1 dc_prog_28_method_2_3 rfl rfl ?_
  refine Own.s_aloadN X1 dc_prog_28_method_2_4 rfl rfl rfl ?_
  refine Own.s_aconst_null X1 dc_prog_28_method_2_5 rfl ?_
  refine Own.c_special X1 dc_prog_28_method_2_6 rfl (tw85 hw) (tw86 hw) (tw81 hw) (tw87 hw) (by decide) b1 [(.ref tx), .null] [(.ref b1)] 1 (rm_slv hw b1 tx  h1 X1.hE O1.2.1 E1 F1_variable F1_constant ) (fun q => nomatch q) (Own.Ok.one O1) (lenOf pd_5 rfl) rfl (Nat.le_of_eq rfl) (by decide) (by decide) (by decide) (by decide) rfl rfl ?_
  intro v2 vm2 T2 h2 L2 X2 V2 Q2
  obtain ⟨rfl, E2, F2_0, F2_1⟩ := Q2
  exact Own.r_ref X2 rfl rfl rfl dc_prog_28_method_2_9 (by decide) (by decide) (⟨b1, rfl, g1, E2⟩)
set_option maxRecDepth 65536 in
set_option maxHeartbeats 40000000 in
theorem rm_ofc {l : Launch} {Z : State} {a0 : Array Value} (hw : ∀ d ∈ tables_1, d.before a0 Z = true) (tx : Addr) (h0 : Heap) (hE : Ext Z.heap h0)  :
    Own.Ctr false l Z a0 EL (⟨"com/example/chiron/chiron/query/GraphQuery$Slot", "ofConstant", "(Lcom/example/chiron/chiron/graph/Term;)Lcom/example/chiron/chiron/query/GraphQuery$Slot;"⟩ : MethodName) prog_28_method_3_code 1 (Option.some (Jvm.ClassFile.FieldType.object "com/example/chiron/chiron/query/GraphQuery$Slot")) ({ frames := 3, cells := 1, slots := 2, locals := 39 } : Room) #[(.ref tx)] h0 [] (fun v h => ∃ r, v = some (.ref r) ∧ h0.size ≤ r ∧ Exa Z h r "com/example/chiron/chiron/query/GraphQuery$Slot") := by
  refine Own.Ctr.of pn_9 (ef_0 tx) hE (ewEL hw) ?_
  intro p e s m below meth c T0 X0 hsafe
  refine Own.s_new X0 dc_prog_28_method_3_0 (tw83 hw) (tw84 hw) (tw81 hw) (by decide) (by decide) rfl ?_
  intro b1 T1 h1 X1 V1 g1 E1 O1 D1
  have F1_variable : Fld Z h1 b1 "com/example/chiron/chiron/query/GraphQuery$Slot" "variable" "Ljava/lang/String;" (.null) := D1 (Or.inr (tw90 hw)) (ty := (.object "java/lang/String")) (by decide)
  have F1_constant : Fld Z h1 b1 "com/example/chiron/chiron/query/GraphQuery$Slot" "constant" "Lcom/example/chiron/chiron/graph/Term;" (.null) := D1 (Or.inr (tw92 hw)) (ty := (.object "com/example/chiron/chiron/graph/Term")) (by decide)
  refine Own.s_dup X1 dc_prog_28_method_3_3 rfl rfl ?_
  refine Own.s_aconst_null X1 dc_prog_28_method_3_4 rfl ?_
  refine Own.s_aloadN X1 dc_prog_28_method_3_5 rfl rfl rfl ?_
  refine Own.c_special X1 dc_prog_28_method_3_6 rfl (tw85 hw) (tw86 hw) (tw81 hw) (tw87 hw) (by decide) b1 [.null, (.ref tx)] [(.ref b1)] 1 (rm_slc hw b1 tx  h1 X1.hE O1.2.1 E1 F1_variable F1_constant ) (fun q => nomatch q) (Own.Ok.one O1) (lenOf pd_5 rfl) rfl (Nat.le_of_eq rfl) (by decide) (by decide) (by decide) (by decide) rfl rfl ?_
  intro v2 vm2 T2 h2 L2 X2 V2 Q2
  obtain ⟨rfl, E2, F2_0, F2_1⟩ := Q2
  exact Own.r_ref X2 rfl rfl rfl dc_prog_28_method_3_9 (by decide) (by decide) (⟨b1, rfl, g1, E2⟩)
set_option maxRecDepth 65536 in
set_option maxHeartbeats 40000000 in
theorem rm_slot {l : Launch} {Z : State} {a0 : Array Value} (hw : ∀ d ∈ tables_1, d.before a0 Z = true) (q0 q1 : Int32) {zc : Int32} (SC : Sta Z Z.heap "java/lang/String" "COMPACT_STRINGS" "Z" (.int zc)) (hzc : ¬ zc = 0) {fm : Value} (SF : Sta Z Z.heap "jdk/internal/util/Preconditions" "SIOOBE_FORMATTER" "Ljava/util/function/BiFunction;" fm) (hfm : fm.isRef = true) {kr : Addr} (Skr : Sta Z Z.heap "java/util/Locale" "ROOT" "Ljava/util/Locale;" (.ref kr)) {kB : Addr} (SkB : Sta Z Z.heap "com/example/chiron/chiron/graph/Term$Kind" "BLANK" "Lcom/example/chiron/chiron/graph/Term$Kind;" (.ref kB)) {kI : Addr} (SkI : Sta Z Z.heap "com/example/chiron/chiron/graph/Term$Kind" "IRI" "Lcom/example/chiron/chiron/graph/Term$Kind;" (.ref kI)) (h0 : Heap) (hE : Ext Z.heap h0)  :
    Own.Ctr true l Z a0 EL (⟨"com/example/chiron/chiron/query/IsAPatternSlotsPinLaw", "slot", "(II)Lcom/example/chiron/chiron/query/GraphQuery$Slot;"⟩ : MethodName) method_3_code 4 (Option.some (Jvm.ClassFile.FieldType.object "com/example/chiron/chiron/query/GraphQuery$Slot")) ({ frames := 4, cells := 9, slots := 22, locals := 66 } : Room) #[(.int q0), (.int q1)] h0 [] (fun v h => ∃ r, v = some (.ref r) ∧ h0.size ≤ r ∧ Exa Z h r "com/example/chiron/chiron/query/GraphQuery$Slot") := by
  refine Own.Ctr.of pn_10 (ef_6 q0 q1) hE (ewEL hw) ?_
  intro p e s m below meth c T0 X0 hsafe
  have SC0 := Sta.ext hE SC
  have SF0 := Sta.ext hE SF
  have Skr0 := Sta.ext hE Skr
  have SkB0 := Sta.ext hE SkB
  have SkI0 := Sta.ext hE SkI
  refine Own.s_iconst X0 dc_method_3_0 (2 : Int32) (by decide) rfl ?_
  refine Own.s_newarray X0 dc_method_3_1 (tw4 hw) (by decide) 2 (by decide) (by decide) (by decide) (by decide) rfl ?_
  intro b1 T1 h1 k1 X1 V1 g1 A1 O1
  have B1 : Arv Z h1 b1 k1 .char (2 : Int32) [(.int (0 : Int32)), (.int (0 : Int32))] (.int (0 : Int32)) := A1.pad (pad_rep [] (.int (0 : Int32)) 2)
  refine Own.s_dup X1 dc_method_3_3 rfl rfl ?_
  refine Own.s_iconst X1 dc_method_3_4 (0 : Int32) (by decide) rfl ?_
  refine Own.s_iloadN X1 dc_method_3_5 rfl rfl ?_
  refine Own.s_sipush X1 dc_method_3_6 (255 : Int32) (by decide) rfl ?_
  refine Own.s_iand X1 dc_method_3_9 rfl ?_
  refine Own.s_i2cM X1 dc_method_3_10 rfl ?_
  refine Own.s_castoreR X1 dc_method_3_11 B1 ⟨by decide, by decide⟩ 0 (by decide) (Nat.le_of_ble_eq_true rfl) (Own.nar_mask _) O1 rfl ?_
  intro T2 h2 X2 V2 A2
  have B2 : Arv Z h2 b1 k1 .char (2 : Int32) [(.int (q1 &&& (255 : Int32))), (.int (0 : Int32))] (.int (0 : Int32)) := A2
  refine Own.s_dup X2 dc_method_3_12 rfl rfl ?_
  refine Own.s_iconst X2 dc_method_3_13 (1 : Int32) (by decide) rfl ?_
  refine Own.s_iloadN X2 dc_method_3_14 rfl rfl ?_
  refine Own.s_bipush X2 dc_method_3_15 (8 : Int32) (by decide) rfl ?_
  refine Own.s_iushr X2 dc_method_3_17 rfl ?_
  refine Own.s_sipush X2 dc_method_3_18 (255 : Int32) (by decide) rfl ?_
  refine Own.s_iand X2 dc_method_3_21 rfl ?_
  refine Own.s_i2cM X2 dc_method_3_22 rfl ?_
  have O4 := (O1.ev V2)
  refine Own.s_castoreR X2 dc_method_3_23 B2 ⟨by decide, by decide⟩ 1 (by decide) (Nat.le_of_ble_eq_true rfl) (Own.nar_mask _) O4 rfl ?_
  intro T3 h3 X3 V3 A3
  have B3 : Arv Z h3 b1 k1 .char (2 : Int32) [(.int (q1 &&& (255 : Int32))), (.int ((XT.ushr q1 (8 : Int32)) &&& (255 : Int32)))] (.int (0 : Int32)) := A3
  refine Own.s_astoreN X3 dc_method_3_24 rfl #[.val (.int q0), .val (.int q1), .val (.ref b1), .unset] rfl rfl ?_
  refine Own.s_new X3 dc_method_3_25 (tw5 hw) (tw6 hw) (tw7 hw) (by decide) (by decide) rfl ?_
  intro b5 T5 h5 X5 V5 g5 E5 O5 D5
  have F5_coder : Fld Z h5 b5 "java/lang/String" "coder" "B" (.int 0) := D5 (Or.inr (tw31 hw)) (ty := .byte) (by decide)
  have F5_value : Fld Z h5 b5 "java/lang/String" "value" "[B" (.null) := D5 (Or.inr (tw33 hw)) (ty := (.array .byte)) (by decide)
  refine Own.s_dup X5 dc_method_3_28 rfl rfl ?_
  refine Own.s_aloadN X5 dc_method_3_29 rfl rfl rfl ?_
  have ex6 : Ext h0 h1 := Own.extK (Own.Ext.rfl' h0) V1.1 all0
  have ex7 : Ext h0 h2 := Own.extK ex6 V2.1 (allS g1 all0)
  have ex8 : Ext h0 h3 := Own.extK ex7 V3.1 (allS g1 all0)
  have ex9 : Ext h0 h5 := Own.extK ex8 V5.1 all0
  have Z_10 := Sta.ext ex9 SC0
  have ex11 : Ext h3 h5 := Own.extK (Own.Ext.rfl' h3) V5.1 all0
  have A_12 := Arv.ext B3 ex11
  have lat13 : ∀ c ∈ [(q1 &&& (255 : Int32)), ((XT.ushr q1 (8 : Int32)) &&& (255 : Int32))], Own.Lat c := (Own.latL (Own.lat_mask _) (Own.latL (Own.lat_mask _) Own.latN))
  refine Own.b_special X5 dc_method_3_30 rfl (tw8 hw) (tw9 hw) (tw10 hw) (by decide) b5 [(.ref b1)] [(.ref b5)] (Own.strNew (W := 1) (cs := [(q1 &&& (255 : Int32)), ((XT.ushr q1 (8 : Int32)) &&& (255 : Int32))]) (n := 2) X5.hZ (wNew hw) (tw6 hw) O5.2.1 X5.hE.1 E5 F5_value F5_coder A_12 Z_10 hzc rfl (by decide) (by decide) (by decide) lat13 (by decide) (by decide)) (fun v h' L q => Own.strNewQ (n := 2) rfl (by decide) (by decide) lat13 q) (Own.Ok.one O5) (lenOf pd_6 rfl) rfl (Nat.le_of_eq rfl) (by decide) (by decide) rfl rfl ?_
  intro v14 vm14 T14 h14 L14 X14 V14 Q14
  obtain ⟨rfl, S14⟩ := Q14
  refine Own.s_astoreN X14 dc_method_3_33 rfl #[.val (.int q0), .val (.int q1), .val (.ref b1), .val (.ref b5)] rfl rfl ?_
  refine Own.s_iloadN X14 dc_method_3_34 rfl rfl ?_
  refine Own.s_iconst X14 dc_method_3_35 (1 : Int32) (by decide) rfl ?_
  refine Own.s_iand X14 dc_method_3_36 rfl ?_
  by_cases hc37_15 : (q0 &&& (1 : Int32)) = (0 : Int32)
  · refine Own.s_ifT X14 dc_method_3_37 ((if0 _ _).trans (teq hc37_15).1) (by decide) (pc' := 45) (by decide) ?_
    refine Own.s_iloadN X14 dc_method_3_45 rfl rfl ?_
    refine Own.s_iconst X14 dc_method_3_46 (2 : Int32) (by decide) rfl ?_
    refine Own.s_iand X14 dc_method_3_47 rfl ?_
    by_cases hc48_16 : (q0 &&& (2 : Int32)) = (0 : Int32)
    · refine Own.s_ifT X14 dc_method_3_48 ((if0 _ _).trans (teq hc48_16).1) (by decide) (pc' := 59) (by decide) ?_
      refine Own.s_aloadN X14 dc_method_3_59 rfl rfl rfl ?_
      refine Own.c_static X14 dc_method_3_60 (tw34 hw) (tw35 hw) (tw36 hw) (tw37 hw) (by decide) [(.ref b5)] [] 0 (rm_blank hw b5 SC hzc SF hfm Skr SkB h14 X14.hE) (fun _ => rfl) Own.Ok.nil (lenOf pd_7 rfl) rfl (Nat.le_of_eq rfl) (by decide) (by decide) (by decide) (by decide) rfl rfl ?_
      intro v17 vm17 T17 h17 L17 X17 V17 Q17
      obtain ⟨r17, rfl, g17, E17⟩ := Q17
      refine Own.c_static X17 dc_method_3_63 (tw79 hw) (tw80 hw) (tw81 hw) (tw82 hw) (by decide) [(.ref r17)] [] 0 (rm_ofc hw r17 h17 X17.hE) (fun q => nomatch q) Own.Ok.nil (lenOf pd_8 rfl) rfl (Nat.le_of_eq rfl) (by decide) (by decide) (by decide) (by decide) rfl rfl ?_
      intro v18 vm18 T18 h18 L18 X18 V18 Q18
      obtain ⟨r18, rfl, g18, E18⟩ := Q18
      have le24 : h0.size ≤ h1.size := V1.1.1
      have le23 : h0.size ≤ h2.size := Nat.le_trans le24 V2.1.1
      have le22 : h0.size ≤ h3.size := Nat.le_trans le23 V3.1.1
      have le21 : h0.size ≤ h5.size := Nat.le_trans le22 V5.1.1
      have le20 : h0.size ≤ h14.size := Nat.le_trans le21 V14.1.1
      have le19 : h0.size ≤ h17.size := Nat.le_trans le20 V17.1.1
      exact Own.r_ref X18 rfl rfl rfl dc_method_3_66 (by decide) (by decide) (⟨r18, rfl, (Nat.le_trans le19 g18), E18⟩)
    · refine Own.s_ifF X14 dc_method_3_48 ((if0 _ _).trans (feq hc48_16).1) rfl ?_
      refine Own.s_aloadN X14 dc_method_3_51 rfl rfl rfl ?_
      refine Own.c_static X14 dc_method_3_52 (tw93 hw) (tw94 hw) (tw36 hw) (tw95 hw) (by decide) [(.ref b5)] [] 0 (rm_iri hw b5 SC hzc SF hfm Skr SkI h14 X14.hE) (fun _ => rfl) Own.Ok.nil (lenOf pd_7 rfl) rfl (Nat.le_of_eq rfl) (by decide) (by decide) (by decide) (by decide) rfl rfl ?_
      intro v25 vm25 T25 h25 L25 X25 V25 Q25
      obtain ⟨r25, rfl, g25, E25⟩ := Q25
      refine Own.c_static X25 dc_method_3_55 (tw79 hw) (tw80 hw) (tw81 hw) (tw82 hw) (by decide) [(.ref r25)] [] 0 (rm_ofc hw r25 h25 X25.hE) (fun q => nomatch q) Own.Ok.nil (lenOf pd_8 rfl) rfl (Nat.le_of_eq rfl) (by decide) (by decide) (by decide) (by decide) rfl rfl ?_
      intro v26 vm26 T26 h26 L26 X26 V26 Q26
      obtain ⟨r26, rfl, g26, E26⟩ := Q26
      have le32 : h0.size ≤ h1.size := V1.1.1
      have le31 : h0.size ≤ h2.size := Nat.le_trans le32 V2.1.1
      have le30 : h0.size ≤ h3.size := Nat.le_trans le31 V3.1.1
      have le29 : h0.size ≤ h5.size := Nat.le_trans le30 V5.1.1
      have le28 : h0.size ≤ h14.size := Nat.le_trans le29 V14.1.1
      have le27 : h0.size ≤ h25.size := Nat.le_trans le28 V25.1.1
      exact Own.r_ref X26 rfl rfl rfl dc_method_3_58 (by decide) (by decide) (⟨r26, rfl, (Nat.le_trans le27 g26), E26⟩)
  · refine Own.s_ifF X14 dc_method_3_37 ((if0 _ _).trans (feq hc37_15).1) rfl ?_
    refine Own.s_aloadN X14 dc_method_3_40 rfl rfl rfl ?_
    refine Own.c_static X14 dc_method_3_41 (tw171 hw) (tw172 hw) (tw81 hw) (tw173 hw) (by decide) [(.ref b5)] [] 0 (rm_ofv hw b5 h14 X14.hE) (fun q => nomatch q) Own.Ok.nil (lenOf pd_9 rfl) rfl (Nat.le_of_eq rfl) (by decide) (by decide) (by decide) (by decide) rfl rfl ?_
    intro v33 vm33 T33 h33 L33 X33 V33 Q33
    obtain ⟨r33, rfl, g33, E33⟩ := Q33
    have le38 : h0.size ≤ h1.size := V1.1.1
    have le37 : h0.size ≤ h2.size := Nat.le_trans le38 V2.1.1
    have le36 : h0.size ≤ h3.size := Nat.le_trans le37 V3.1.1
    have le35 : h0.size ≤ h5.size := Nat.le_trans le36 V5.1.1
    have le34 : h0.size ≤ h14.size := Nat.le_trans le35 V14.1.1
    exact Own.r_ref X33 rfl rfl rfl dc_method_3_44 (by decide) (by decide) (⟨r33, rfl, (Nat.le_trans le34 g33), E33⟩)
set_option maxRecDepth 65536 in
set_option maxHeartbeats 40000000 in
theorem rm_ac {l : Launch} {Z : State} {a0 : Array Value} (hw : ∀ d ∈ tables_1, d.before a0 Z = true) (a : Addr) (h0 : Heap) (hE : Ext Z.heap h0)  :
    Own.Ctr false l Z a0 EL (⟨"java/util/AbstractCollection", "<init>", "()V"⟩ : MethodName) jdk_22_method_1_code 1 (Option.none : Option Jvm.ClassFile.FieldType) ({ frames := 1, cells := 0, slots := 0, locals := 12 } : Room) #[(.ref a)] h0 [] (fun v h => v = none) := by
  refine Own.Ctr.of pn_11 (ef_0 a) hE (ewEL hw) ?_
  intro p e s m below meth c T0 X0 hsafe
  refine Own.s_aloadN X0 dc_jdk_22_method_1_0 rfl rfl rfl ?_
  refine Own.s_initO X0 dc_jdk_22_method_1_1 (tw143 hw) (tw16 hw) (tw17 hw) 0 (Nat.le_of_eq rfl) (by decide) (by decide) rfl rfl ?_
  intro T1 X1
  exact Own.r_void X1 rfl dc_jdk_22_method_1_4 (by decide) (by decide) (rfl)
set_option maxRecDepth 65536 in
set_option maxHeartbeats 40000000 in
theorem rm_aic {l : Launch} {Z : State} {a0 : Array Value} (hw : ∀ d ∈ tables_1, d.before a0 Z = true) (a : Addr) (h0 : Heap) (hE : Ext Z.heap h0)  :
    Own.Ctr false l Z a0 EL (⟨"java/util/ImmutableCollections$AbstractImmutableCollection", "<init>", "()V"⟩ : MethodName) jdk_47_method_1_code 1 (Option.none : Option Jvm.ClassFile.FieldType) ({ frames := 2, cells := 0, slots := 0, locals := 24 } : Room) #[(.ref a)] h0 [] (fun v h => v = none) := by
  refine Own.Ctr.of pn_12 (ef_0 a) hE (ewEL hw) ?_
  intro p e s m below meth c T0 X0 hsafe
  refine Own.s_aloadN X0 dc_jdk_47_method_1_0 rfl rfl rfl ?_
  refine Own.c_special X0 dc_jdk_47_method_1_1 rfl (tw137 hw) (tw138 hw) (tw141 hw) (tw142 hw) (by decide) a [] [] 0 (rm_ac hw a h0 X0.hE) (fun q => nomatch q) Own.Ok.nil (lenOf pd_2 rfl) rfl (Nat.le_of_eq rfl) (by decide) (by decide) (by decide) (by decide) rfl rfl ?_
  intro v1 vm1 T1 h1 L1 X1 V1 Q1
  obtain rfl := Q1
  exact Own.r_void X1 rfl dc_jdk_47_method_1_4 (by decide) (by decide) (rfl)
set_option maxRecDepth 65536 in
set_option maxHeartbeats 40000000 in
theorem rm_ail {l : Launch} {Z : State} {a0 : Array Value} (hw : ∀ d ∈ tables_1, d.before a0 Z = true) (a : Addr) (h0 : Heap) (hE : Ext Z.heap h0)  :
    Own.Ctr false l Z a0 EL (⟨"java/util/ImmutableCollections$AbstractImmutableList", "<init>", "()V"⟩ : MethodName) jdk_46_method_1_code 1 (Option.none : Option Jvm.ClassFile.FieldType) ({ frames := 3, cells := 0, slots := 0, locals := 36 } : Room) #[(.ref a)] h0 [] (fun v h => v = none) := by
  refine Own.Ctr.of pn_13 (ef_0 a) hE (ewEL hw) ?_
  intro p e s m below meth c T0 X0 hsafe
  refine Own.s_aloadN X0 dc_jdk_46_method_1_0 rfl rfl rfl ?_
  refine Own.c_special X0 dc_jdk_46_method_1_1 rfl (tw131 hw) (tw132 hw) (tw135 hw) (tw136 hw) (by decide) a [] [] 0 (rm_aic hw a h0 X0.hE) (fun q => nomatch q) Own.Ok.nil (lenOf pd_2 rfl) rfl (Nat.le_of_eq rfl) (by decide) (by decide) (by decide) (by decide) rfl rfl ?_
  intro v1 vm1 T1 h1 L1 X1 V1 Q1
  obtain rfl := Q1
  exact Own.r_void X1 rfl dc_jdk_46_method_1_4 (by decide) (by decide) (rfl)
set_option maxRecDepth 65536 in
set_option maxHeartbeats 40000000 in
theorem rm_req {l : Launch} {Z : State} {a0 : Array Value} (hw : ∀ d ∈ tables_1, d.before a0 Z = true) (o : Addr) (h0 : Heap) (hE : Ext Z.heap h0)  :
    Own.Ctr false l Z a0 EL (⟨"java/util/Objects", "requireNonNull", "(Ljava/lang/Object;)Ljava/lang/Object;"⟩ : MethodName) jdk_31_method_10_code 1 (Option.some (Jvm.ClassFile.FieldType.object "java/lang/Object")) ({ frames := 0, cells := 0, slots := 0, locals := 0 } : Room) #[(.ref o)] h0 [] (fun v h => v = some (.ref o)) := by
  refine Own.Ctr.of pn_14 (ef_0 o) hE (ewEL hw) ?_
  intro p e s m below meth c T0 X0 hsafe
  refine Own.s_aloadN X0 dc_jdk_31_method_10_0 rfl rfl rfl ?_
  refine Own.s_ifnonnullT X0 dc_jdk_31_method_10_1 (by decide) (pc' := 12) (by decide) ?_
  refine Own.s_aloadN X0 dc_jdk_31_method_10_12 rfl rfl rfl ?_
  exact Own.r_ref X0 rfl rfl rfl dc_jdk_31_method_10_13 (by decide) (by decide) (rfl)
set_option maxRecDepth 65536 in
set_option maxHeartbeats 40000000 in
theorem rm_l12 {l : Launch} {Z : State} {a0 : Array Value} (hw : ∀ d ∈ tables_1, d.before a0 Z = true) (a : Addr) (o0 : Addr) (o1 : Addr)  (h0 : Heap) (hE : Ext Z.heap h0) (ga : Z.heap.size ≤ a) (E : Exa Z h0 a "java/util/ImmutableCollections$List12") (F_e0 : Fld Z h0 a "java/util/ImmutableCollections$List12" "e0" "Ljava/lang/Object;" .null) (F_e1 : Fld Z h0 a "java/util/ImmutableCollections$List12" "e1" "Ljava/lang/Object;" .null)  :
    Own.Ctr false l Z a0 EL (⟨"java/util/ImmutableCollections$List12", "<init>", "(Ljava/lang/Object;Ljava/lang/Object;)V"⟩ : MethodName) jdk_44_method_2_code 3 (Option.none : Option Jvm.ClassFile.FieldType) ({ frames := 4, cells := 0, slots := 0, locals := 48 } : Room) #[(.ref a), (.ref o0), (.ref o1)] h0 [a] (fun v h => v = none ∧ Exa Z h a "java/util/ImmutableCollections$List12" ∧ Fld Z h a "java/util/ImmutableCollections$List12" "e0" "Ljava/lang/Object;" (.ref o0) ∧ Fld Z h a "java/util/ImmutableCollections$List12" "e1" "Ljava/lang/Object;" (.ref o1)) := by
  refine Own.Ctr.of pn_15 (ef_7 a o0 o1) hE (ewEL hw) ?_
  intro p e s m below meth c T0 X0 hsafe
  have O0 : Own.Ok false Z EL h0 [a] s.vm h0 a := ⟨E.lt, ga, Or.inl (List.mem_singleton.mpr rfl), fun q => hsafe q _ (List.mem_singleton.mpr rfl)⟩
  refine Own.s_aloadN X0 dc_jdk_44_method_2_0 rfl rfl rfl ?_
  refine Own.c_special X0 dc_jdk_44_method_2_1 rfl (tw125 hw) (tw126 hw) (tw129 hw) (tw130 hw) (by decide) a [] [] 0 (rm_ail hw a h0 X0.hE) (fun q => nomatch q) Own.Ok.nil (lenOf pd_2 rfl) rfl (Nat.le_of_eq rfl) (by decide) (by decide) (by decide) (by decide) rfl rfl ?_
  intro v1 vm1 T1 h1 L1 X1 V1 Q1
  obtain rfl := Q1
  refine Own.s_aloadN X1 dc_jdk_44_method_2_4 rfl rfl rfl ?_
  refine Own.s_aloadN X1 dc_jdk_44_method_2_5 rfl rfl rfl ?_
  refine Own.c_static X1 dc_jdk_44_method_2_6 (tw144 hw) (tw145 hw) (tw146 hw) (tw147 hw) (by decide) [(.ref o0)] [(.ref a)] 1 (rm_req hw o0 h1 X1.hE) (fun q => nomatch q) Own.Ok.nil (lenOf pd_10 rfl) rfl (Nat.le_of_eq rfl) (by decide) (by decide) (by decide) (by decide) rfl rfl ?_
  intro v2 vm2 T2 h2 L2 X2 V2 Q2
  obtain rfl := Q2
  have ex4 : Ext h0 h1 := Own.extK (Own.Ext.rfl' h0) V1.1 all0
  have ex5 : Ext h0 h2 := Own.extK ex4 V2.1 all0
  have F_6 := Fld.ext ex5 F_e0
  have E_7 := Exa.ext ex5 E
  have O8 := ((O0.ev V1).ev V2)
  refine Own.s_putfield X2 dc_jdk_44_method_2_9 (tw148 hw) F_6 E_7 (Or.inr ⟨(tw149 hw), rfl, rfl⟩) (tw119 hw) (ty := (.object "java/lang/Object")) (by decide) rfl rfl O8 rfl ?_
  intro T3 h3 X3 V3 W3
  have F3 := Fld.same W3 F_6
  refine Own.s_aloadN X3 dc_jdk_44_method_2_12 rfl rfl rfl ?_
  refine Own.s_aloadN X3 dc_jdk_44_method_2_13 rfl rfl rfl ?_
  refine Own.c_static X3 dc_jdk_44_method_2_14 (tw144 hw) (tw145 hw) (tw146 hw) (tw147 hw) (by decide) [(.ref o1)] [(.ref a)] 1 (rm_req hw o1 h3 X3.hE) (fun q => nomatch q) Own.Ok.nil (lenOf pd_10 rfl) rfl (Nat.le_of_eq rfl) (by decide) (by decide) (by decide) (by decide) rfl rfl ?_
  intro v9 vm9 T9 h9 L9 X9 V9 Q9
  obtain rfl := Q9
  have F_11 := (Fld.ext (Own.extN V9.1) (Fld.other W3 (Fld.ext (Own.extN V2.1) (Fld.ext (Own.extN V1.1) F_e1)) (Or.inr (slot_ne (Or.inr (tw151 hw)) (Or.inr (tw149 hw)) (by decide) (t := (.object "java/lang/Object")) (t' := (.object "java/lang/Object")) (by decide) (by decide)))))
  have E_12 := (Exa.keep (Exa.keep E_7 V3.1) V9.1)
  have O13 := ((O8.ev V3).ev V9)
  refine Own.s_putfield X9 dc_jdk_44_method_2_17 (tw150 hw) F_11 E_12 (Or.inr ⟨(tw151 hw), rfl, rfl⟩) (tw119 hw) (ty := (.object "java/lang/Object")) (by decide) rfl rfl O13 rfl ?_
  intro T10 h10 X10 V10 W10
  have F10 := Fld.same W10 F_11
  have E_14 := (Exa.keep E_12 V10.1)
  have F_15 := (Fld.other W10 (Fld.ext (Own.extN V9.1) F3) (Or.inr (slot_ne (Or.inr (tw149 hw)) (Or.inr (tw151 hw)) (by decide) (t := (.object "java/lang/Object")) (t' := (.object "java/lang/Object")) (by decide) (by decide))))
  exact Own.r_void X10 rfl dc_jdk_44_method_2_20 (by decide) (by decide) (⟨rfl, E_14, F_15, F10⟩)
set_option maxRecDepth 65536 in
set_option maxHeartbeats 40000000 in
theorem rm_of {l : Launch} {Z : State} {a0 : Array Value} (hw : ∀ d ∈ tables_1, d.before a0 Z = true) (o0 o1 : Addr) (h0 : Heap) (hE : Ext Z.heap h0)  :
    Own.Ctr false l Z a0 EL (⟨"java/util/List", "of", "(Ljava/lang/Object;Ljava/lang/Object;)Ljava/util/List;"⟩ : MethodName) jdk_40_method_38_code 2 (Option.some (Jvm.ClassFile.FieldType.object "java/util/List")) ({ frames := 5, cells := 1, slots := 2, locals := 63 } : Room) #[(.ref o0), (.ref o1)] h0 [] (fun v h => ∃ r, v = some (.ref r) ∧ h0.size ≤ r ∧ Exa Z h r "java/util/ImmutableCollections$List12" ∧ Fld Z h r "java/util/ImmutableCollections$List12" "e0" "Ljava/lang/Object;" (.ref o0) ∧ Fld Z h r "java/util/ImmutableCollections$List12" "e1" "Ljava/lang/Object;" (.ref o1)) := by
  refine Own.Ctr.of pn_16 (ef_2 o0 o1) hE (ewEL hw) ?_
  intro p e s m below meth c T0 X0 hsafe
  refine Own.s_new X0 dc_jdk_40_method_38_0 (tw118 hw) (tw119 hw) (tw120 hw) (by decide) (by decide) rfl ?_
  intro b1 T1 h1 X1 V1 g1 E1 O1 D1
  have F1_e0 : Fld Z h1 b1 "java/util/ImmutableCollections$List12" "e0" "Ljava/lang/Object;" (.null) := D1 (Or.inr (tw149 hw)) (ty := (.object "java/lang/Object")) (by decide)
  have F1_e1 : Fld Z h1 b1 "java/util/ImmutableCollections$List12" "e1" "Ljava/lang/Object;" (.null) := D1 (Or.inr (tw151 hw)) (ty := (.object "java/lang/Object")) (by decide)
  refine Own.s_dup X1 dc_jdk_40_method_38_3 rfl rfl ?_
  refine Own.s_aloadN X1 dc_jdk_40_method_38_4 rfl rfl rfl ?_
  refine Own.s_aloadN X1 dc_jdk_40_method_38_5 rfl rfl rfl ?_
  refine Own.c_special X1 dc_jdk_40_method_38_6 rfl (tw121 hw) (tw122 hw) (tw120 hw) (tw124 hw) (by decide) b1 [(.ref o0), (.ref o1)] [(.ref b1)] 1 (rm_l12 hw b1 o0 o1  h1 X1.hE O1.2.1 E1 F1_e0 F1_e1 ) (fun q => nomatch q) (Own.Ok.one O1) (lenOf pd_11 rfl) rfl (Nat.le_of_eq rfl) (by decide) (by decide) (by decide) (by decide) rfl rfl ?_
  intro v2 vm2 T2 h2 L2 X2 V2 Q2
  obtain ⟨rfl, E2, F2_0, F2_1⟩ := Q2
  exact Own.r_ref X2 rfl rfl rfl dc_jdk_40_method_38_9 (by decide) (by decide) (⟨b1, rfl, g1, E2, F2_0, F2_1⟩)
set_option maxRecDepth 65536 in
set_option maxHeartbeats 40000000 in
theorem rm_slots {l : Launch} {Z : State} {a0 : Array Value} (hw : ∀ d ∈ tables_1, d.before a0 Z = true) (a o0 o1 : Addr) (h0 : Heap) (hE : Ext Z.heap h0) (E : Exa Z h0 a "com/example/chiron/chiron/query/GraphQuery$IsAPattern") (Fe : Fld Z h0 a "com/example/chiron/chiron/query/GraphQuery$IsAPattern" "entity" "Lcom/example/chiron/chiron/query/GraphQuery$Slot;" (.ref o0)) (Ft : Fld Z h0 a "com/example/chiron/chiron/query/GraphQuery$IsAPattern" "type" "Lcom/example/chiron/chiron/query/GraphQuery$Slot;" (.ref o1)) :
    Own.Ctr false l Z a0 EL (⟨"com/example/chiron/chiron/query/GraphQuery$IsAPattern", "slots", "()Ljava/util/List;"⟩ : MethodName) prog_26_method_2_code 1 (Option.some (Jvm.ClassFile.FieldType.object "java/util/List")) ({ frames := 6, cells := 1, slots := 2, locals := 76 } : Room) #[(.ref a)] h0 [] (fun v h => ∃ r, v = some (.ref r) ∧ h0.size ≤ r ∧ Exa Z h r "java/util/ImmutableCollections$List12" ∧ Fld Z h r "java/util/ImmutableCollections$List12" "e0" "Ljava/lang/Object;" (.ref o0) ∧ Fld Z h r "java/util/ImmutableCollections$List12" "e1" "Ljava/lang/Object;" (.ref o1)) := by
  refine Own.Ctr.of pn_17 (ef_0 a) hE (ewEL hw) ?_
  intro p e s m below meth c T0 X0 hsafe
  refine Own.s_aloadN X0 dc_prog_26_method_2_0 rfl rfl rfl ?_
  refine Own.s_getfield X0 dc_prog_26_method_2_1 (tw105 hw) Fe rfl ?_
  intro T1 X1
  refine Own.s_aloadN X1 dc_prog_26_method_2_4 rfl rfl rfl ?_
  refine Own.s_getfield X1 dc_prog_26_method_2_5 (tw107 hw) Ft rfl ?_
  intro T2 X2
  refine Own.c_static X2 dc_prog_26_method_2_8 (tw114 hw) (tw115 hw) (tw116 hw) (tw117 hw) (by decide) [(.ref o0), (.ref o1)] [] 0 (rm_of hw o0 o1 h0 X2.hE) (fun q => nomatch q) Own.Ok.nil (lenOf pd_12 rfl) rfl (Nat.le_of_eq rfl) (by decide) (by decide) (by decide) (by decide) rfl rfl ?_
  intro v3 vm3 T3 h3 L3 X3 V3 Q3
  obtain ⟨r3, rfl, g3, E3, Fa3, Fb3⟩ := Q3
  exact Own.r_ref X3 rfl rfl rfl dc_prog_26_method_2_11 (by decide) (by decide) (⟨r3, rfl, g3, E3, Fa3, Fb3⟩)
set_option maxRecDepth 65536 in
set_option maxHeartbeats 40000000 in
theorem rm_ip {l : Launch} {Z : State} {a0 : Array Value} (hw : ∀ d ∈ tables_1, d.before a0 Z = true) (a : Addr) (o0 : Addr) (o1 : Addr)  (h0 : Heap) (hE : Ext Z.heap h0) (ga : Z.heap.size ≤ a) (E : Exa Z h0 a "com/example/chiron/chiron/query/GraphQuery$IsAPattern") (F_entity : Fld Z h0 a "com/example/chiron/chiron/query/GraphQuery$IsAPattern" "entity" "Lcom/example/chiron/chiron/query/GraphQuery$Slot;" .null) (F_type : Fld Z h0 a "com/example/chiron/chiron/query/GraphQuery$IsAPattern" "type" "Lcom/example/chiron/chiron/query/GraphQuery$Slot;" .null)  :
    Own.Ctr false l Z a0 EL (⟨"com/example/chiron/chiron/query/GraphQuery$IsAPattern", "<init>", "(Lcom/example/chiron/chiron/query/GraphQuery$Slot;Lcom/example/chiron/chiron/query/GraphQuery$Slot;)V"⟩ : MethodName) prog_26_method_1_code 3 (Option.none : Option Jvm.ClassFile.FieldType) ({ frames := 2, cells := 0, slots := 0, locals := 24 } : Room) #[(.ref a), (.ref o0), (.ref o1)] h0 [a] (fun v h => v = none ∧ Exa Z h a "com/example/chiron/chiron/query/GraphQuery$IsAPattern" ∧ Fld Z h a "com/example/chiron/chiron/query/GraphQuery$IsAPattern" "entity" "Lcom/example/chiron/chiron/query/GraphQuery$Slot;" (.ref o0) ∧ Fld Z h a "com/example/chiron/chiron/query/GraphQuery$IsAPattern" "type" "Lcom/example/chiron/chiron/query/GraphQuery$Slot;" (.ref o1)) := by
  refine Own.Ctr.of pn_18 (ef_7 a o0 o1) hE (ewEL hw) ?_
  intro p e s m below meth c T0 X0 hsafe
  have O0 : Own.Ok false Z EL h0 [a] s.vm h0 a := ⟨E.lt, ga, Or.inl (List.mem_singleton.mpr rfl), fun q => hsafe q _ (List.mem_singleton.mpr rfl)⟩
  refine Own.s_aloadN X0 dc_prog_26_method_1_0 rfl rfl rfl ?_
  refine Own.c_special X0 dc_prog_26_method_1_1 rfl (tw104 hw) (tw50 hw) (tw52 hw) (tw53 hw) (by decide) a [] [] 0 (rm_record hw a h0 X0.hE) (fun q => nomatch q) Own.Ok.nil (lenOf pd_2 rfl) rfl (Nat.le_of_eq rfl) (by decide) (by decide) (by decide) (by decide) rfl rfl ?_
  intro v1 vm1 T1 h1 L1 X1 V1 Q1
  obtain rfl := Q1
  refine Own.s_aloadN X1 dc_prog_26_method_1_4 rfl rfl rfl ?_
  refine Own.s_aloadN X1 dc_prog_26_method_1_5 rfl rfl rfl ?_
  have ex3 : Ext h0 h1 := Own.extK (Own.Ext.rfl' h0) V1.1 all0
  have F_4 := Fld.ext ex3 F_entity
  have E_5 := Exa.ext ex3 E
  have O6 := (O0.ev V1)
  refine Own.s_putfield X1 dc_prog_26_method_1_6 (tw105 hw) F_4 E_5 (Or.inr ⟨(tw106 hw), rfl, rfl⟩) (tw99 hw) (ty := (.object "com/example/chiron/chiron/query/GraphQuery$Slot")) (by decide) rfl rfl O6 rfl ?_
  intro T2 h2 X2 V2 W2
  have F2 := Fld.same W2 F_4
  refine Own.s_aloadN X2 dc_prog_26_method_1_9 rfl rfl rfl ?_
  refine Own.s_aloadN X2 dc_prog_26_method_1_10 rfl rfl rfl ?_
  have F_8 := (Fld.other W2 (Fld.ext (Own.extN V1.1) F_type) (Or.inr (slot_ne (Or.inr (tw108 hw)) (Or.inr (tw106 hw)) (by decide) (t := (.object "com/example/chiron/chiron/query/GraphQuery$Slot")) (t' := (.object "com/example/chiron/chiron/query/GraphQuery$Slot")) (by decide) (by decide))))
  have E_9 := (Exa.keep E_5 V2.1)
  have O10 := (O6.ev V2)
  refine Own.s_putfield X2 dc_prog_26_method_1_11 (tw107 hw) F_8 E_9 (Or.inr ⟨(tw108 hw), rfl, rfl⟩) (tw99 hw) (ty := (.object "com/example/chiron/chiron/query/GraphQuery$Slot")) (by decide) rfl rfl O10 rfl ?_
  intro T7 h7 X7 V7 W7
  have F7 := Fld.same W7 F_8
  have E_11 := (Exa.keep E_9 V7.1)
  have F_12 := (Fld.other W7 F2 (Or.inr (slot_ne (Or.inr (tw106 hw)) (Or.inr (tw108 hw)) (by decide) (t := (.object "com/example/chiron/chiron/query/GraphQuery$Slot")) (t' := (.object "com/example/chiron/chiron/query/GraphQuery$Slot")) (by decide) (by decide))))
  exact Own.r_void X7 rfl dc_prog_26_method_1_14 (by decide) (by decide) (⟨rfl, E_11, F_12, F7⟩)
set_option maxRecDepth 65536 in
set_option maxHeartbeats 40000000 in
theorem rm_size {l : Launch} {Z : State} {a0 : Array Value} (hw : ∀ d ∈ tables_1, d.before a0 Z = true) (a o0 o1 : Addr) {em : Addr} (Sem : Sta Z Z.heap "java/util/ImmutableCollections" "EMPTY" "Ljava/lang/Object;" (.ref em)) (h0 : Heap) (hE : Ext Z.heap h0) (E : Exa Z h0 a "java/util/ImmutableCollections$List12") (F0 : Fld Z h0 a "java/util/ImmutableCollections$List12" "e0" "Ljava/lang/Object;" (.ref o0)) (F1 : Fld Z h0 a "java/util/ImmutableCollections$List12" "e1" "Ljava/lang/Object;" (.ref o1)) (hne : o1 ≠ em) :
    Own.Ctr false l Z a0 EL (⟨"java/util/ImmutableCollections$List12", "size", "()I"⟩ : MethodName) jdk_44_method_3_code 1 (Option.some Jvm.ClassFile.FieldType.int) ({ frames := 0, cells := 0, slots := 0, locals := 0 } : Room) #[(.ref a)] h0 [] (fun v h => v = some (.int (2 : Int32))) := by
  refine Own.Ctr.of pn_19 (ef_0 a) hE (ewEL hw) ?_
  intro p e s m below meth c T0 X0 hsafe
  have Sem0 := Sta.ext hE Sem
  refine Own.s_aloadN X0 dc_jdk_44_method_3_0 rfl rfl rfl ?_
  refine Own.s_getfield X0 dc_jdk_44_method_3_1 (tw150 hw) F1 rfl ?_
  intro T1 X1
  refine Own.s_getstaticN X1 dc_jdk_44_method_3_4 (tw161 hw) Sem0 rfl ?_
  intro T2 X2
  refine Own.s_acmpF X2 dc_jdk_44_method_3_7 rfl rfl (XT.aa_eq_f (fun q => hne (Value.ref.inj q))) rfl ?_
  refine Own.s_iconst X2 dc_jdk_44_method_3_10 (2 : Int32) (by decide) rfl ?_
  refine Own.s_goto X2 dc_jdk_44_method_3_11 (by decide) (pc' := 15) (by decide) ?_
  exact Own.r_int X2 rfl dc_jdk_44_method_3_15 (by decide) (by decide) (rfl)
set_option maxRecDepth 65536 in
set_option maxHeartbeats 40000000 in
theorem rm_get0 {l : Launch} {Z : State} {a0 : Array Value} (hw : ∀ d ∈ tables_1, d.before a0 Z = true) (a o0 o1 : Addr) {em : Addr} (Sem : Sta Z Z.heap "java/util/ImmutableCollections" "EMPTY" "Ljava/lang/Object;" (.ref em)) (h0 : Heap) (hE : Ext Z.heap h0) (E : Exa Z h0 a "java/util/ImmutableCollections$List12") (F0 : Fld Z h0 a "java/util/ImmutableCollections$List12" "e0" "Ljava/lang/Object;" (.ref o0)) (F1 : Fld Z h0 a "java/util/ImmutableCollections$List12" "e1" "Ljava/lang/Object;" (.ref o1)) (hne : o1 ≠ em) :
    Own.Ctr false l Z a0 EL (⟨"java/util/ImmutableCollections$List12", "get", "(I)Ljava/lang/Object;"⟩ : MethodName) jdk_44_method_5_code 2 (Option.some (Jvm.ClassFile.FieldType.object "java/lang/Object")) ({ frames := 0, cells := 0, slots := 0, locals := 0 } : Room) #[(.ref a), (.int (0 : Int32))] h0 [] (fun v h => v = some (.ref o0)) := by
  refine Own.Ctr.of pn_20 (ef_8 a (0 : Int32)) hE (ewEL hw) ?_
  intro p e s m below meth c T0 X0 hsafe
  have Sem0 := Sta.ext hE Sem
  refine Own.s_iloadN X0 dc_jdk_44_method_5_0 rfl rfl ?_
  refine Own.s_ifF X0 dc_jdk_44_method_5_1 ((if0 _ _).trans (teq (show (0 : Int32) = (0 : Int32) by decide)).2) rfl ?_
  refine Own.s_aloadN X0 dc_jdk_44_method_5_4 rfl rfl rfl ?_
  refine Own.s_getfield X0 dc_jdk_44_method_5_5 (tw148 hw) F0 rfl ?_
  intro T1 X1
  exact Own.r_ref X1 rfl rfl rfl dc_jdk_44_method_5_8 (by decide) (by decide) (rfl)
set_option maxRecDepth 65536 in
set_option maxHeartbeats 40000000 in
theorem rm_get1 {l : Launch} {Z : State} {a0 : Array Value} (hw : ∀ d ∈ tables_1, d.before a0 Z = true) (a o0 o1 : Addr) {em : Addr} (Sem : Sta Z Z.heap "java/util/ImmutableCollections" "EMPTY" "Ljava/lang/Object;" (.ref em)) (h0 : Heap) (hE : Ext Z.heap h0) (E : Exa Z h0 a "java/util/ImmutableCollections$List12") (F0 : Fld Z h0 a "java/util/ImmutableCollections$List12" "e0" "Ljava/lang/Object;" (.ref o0)) (F1 : Fld Z h0 a "java/util/ImmutableCollections$List12" "e1" "Ljava/lang/Object;" (.ref o1)) (hne : o1 ≠ em) :
    Own.Ctr false l Z a0 EL (⟨"java/util/ImmutableCollections$List12", "get", "(I)Ljava/lang/Object;"⟩ : MethodName) jdk_44_method_5_code 2 (Option.some (Jvm.ClassFile.FieldType.object "java/lang/Object")) ({ frames := 0, cells := 0, slots := 0, locals := 0 } : Room) #[(.ref a), (.int (1 : Int32))] h0 [] (fun v h => v = some (.ref o1)) := by
  refine Own.Ctr.of pn_20 (ef_8 a (1 : Int32)) hE (ewEL hw) ?_
  intro p e s m below meth c T0 X0 hsafe
  have Sem0 := Sta.ext hE Sem
  refine Own.s_iloadN X0 dc_jdk_44_method_5_0 rfl rfl ?_
  refine Own.s_ifT X0 dc_jdk_44_method_5_1 ((if0 _ _).trans (feq (show ¬ (1 : Int32) = (0 : Int32) by decide)).2) (by decide) (pc' := 9) (by decide) ?_
  refine Own.s_iloadN X0 dc_jdk_44_method_5_9 rfl rfl ?_
  refine Own.s_iconst X0 dc_jdk_44_method_5_10 (1 : Int32) (by decide) rfl ?_
  refine Own.s_icmpF X0 dc_jdk_44_method_5_11 (teq (show (1 : Int32) = (1 : Int32) by decide)).2 rfl ?_
  refine Own.s_aloadN X0 dc_jdk_44_method_5_14 rfl rfl rfl ?_
  refine Own.s_getfield X0 dc_jdk_44_method_5_15 (tw150 hw) F1 rfl ?_
  intro T1 X1
  refine Own.s_getstaticN X1 dc_jdk_44_method_5_18 (tw161 hw) Sem0 rfl ?_
  intro T2 X2
  refine Own.s_acmpF X2 dc_jdk_44_method_5_21 rfl rfl (XT.aa_eq_f (fun q => hne (Value.ref.inj q))) rfl ?_
  refine Own.s_aloadN X2 dc_jdk_44_method_5_24 rfl rfl rfl ?_
  refine Own.s_getfield X2 dc_jdk_44_method_5_25 (tw150 hw) F1 rfl ?_
  intro T3 X3
  exact Own.r_ref X3 rfl rfl rfl dc_jdk_44_method_5_28 (by decide) (by decide) (rfl)
set_option maxRecDepth 65536 in
set_option maxHeartbeats 40000000 in
theorem rm_law {l : Launch} {Z : State} {a0 : Array Value} (hw : ∀ d ∈ tables_1, d.before a0 Z = true) (p0 p1 p2 : Int32) {zc : Int32} (SC : Sta Z Z.heap "java/lang/String" "COMPACT_STRINGS" "Z" (.int zc)) (hzc : ¬ zc = 0) {fm : Value} (SF : Sta Z Z.heap "jdk/internal/util/Preconditions" "SIOOBE_FORMATTER" "Ljava/util/function/BiFunction;" fm) (hfm : fm.isRef = true) {kr : Addr} (Skr : Sta Z Z.heap "java/util/Locale" "ROOT" "Ljava/util/Locale;" (.ref kr)) {kB : Addr} (SkB : Sta Z Z.heap "com/example/chiron/chiron/graph/Term$Kind" "BLANK" "Lcom/example/chiron/chiron/graph/Term$Kind;" (.ref kB)) {kI : Addr} (SkI : Sta Z Z.heap "com/example/chiron/chiron/graph/Term$Kind" "IRI" "Lcom/example/chiron/chiron/graph/Term$Kind;" (.ref kI)) {em : Addr} (Sem : Sta Z Z.heap "java/util/ImmutableCollections" "EMPTY" "Ljava/lang/Object;" (.ref em)) (hem : em < Z.heap.size) (h0 : Heap) (hE : Ext Z.heap h0)  :
    Own.Ctr true l Z a0 EL x code maxLocals ret room_1 #[(.int p0), (.int p1), (.int p2)] h0 [] (fun v h => v = some (.int (1 : Int32))) := by
  refine Own.Ctr.of pn_21 (ef_9 p0 p1 p2) hE (ewEL hw) ?_
  intro p e s m below meth c T0 X0 hsafe
  have SC0 := Sta.ext hE SC
  have SF0 := Sta.ext hE SF
  have Skr0 := Sta.ext hE Skr
  have SkB0 := Sta.ext hE SkB
  have SkI0 := Sta.ext hE SkI
  have Sem0 := Sta.ext hE Sem
  have lem : em < h0.size := Nat.lt_of_lt_of_le hem hE.1
  refine Own.s_iloadN X0 at_0 rfl rfl ?_
  refine Own.s_iloadN X0 at_1 rfl rfl ?_
  refine Own.c_static X0 at_2 (tw0 hw) (tw1 hw) (tw2 hw) (tw3 hw) (by decide) [(.int p0), (.int p1)] [] 0 (rm_slot hw p0 p1 SC hzc SF hfm Skr SkB SkI h0 X0.hE) (fun _ => rfl) Own.Ok.nil (lenOf pd_13 rfl) rfl (Nat.le_of_eq rfl) (by decide) (by decide) (by decide) (by decide) rfl rfl ?_
  intro v1 vm1 T1 h1 L1 X1 V1 Q1
  obtain ⟨r1, rfl, g1, E1⟩ := Q1
  refine Own.s_astoreN X1 at_5 rfl #[.val (.int p0), .val (.int p1), .val (.int p2), .val (.ref r1), .unset, .unset, .unset] rfl rfl ?_
  refine Own.s_iloadN X1 at_6 rfl rfl ?_
  refine Own.s_iconst X1 at_7 (4 : Int32) (by decide) rfl ?_
  refine Own.s_iand X1 at_8 rfl ?_
  by_cases hc9_2 : (p2 &&& (4 : Int32)) = (0 : Int32)
  · refine Own.s_ifT X1 at_9 ((if0 _ _).trans (teq hc9_2).1) (by decide) (pc' := 16) (by decide) ?_
    refine Own.s_iloadN X1 at_16 rfl rfl ?_
    refine Own.s_iloadN X1 at_17 rfl rfl ?_
    refine Own.s_bipush X1 at_18 (16 : Int32) (by decide) rfl ?_
    refine Own.s_iushr X1 at_20 rfl ?_
    refine Own.c_static X1 at_21 (tw0 hw) (tw1 hw) (tw2 hw) (tw3 hw) (by decide) [(.int p2), (.int (XT.ushr p1 (16 : Int32)))] [] 0 (rm_slot hw p2 (XT.ushr p1 (16 : Int32)) SC hzc SF hfm Skr SkB SkI h1 X1.hE) (fun _ => rfl) Own.Ok.nil (lenOf pd_13 rfl) rfl (Nat.le_of_eq rfl) (by decide) (by decide) (by decide) (by decide) rfl rfl ?_
    intro v3 vm3 T3 h3 L3 X3 V3 Q3
    obtain ⟨r3, rfl, g3, E3⟩ := Q3
    refine Own.s_astore X3 at_24 rfl #[.val (.int p0), .val (.int p1), .val (.int p2), .val (.ref r1), .val (.ref r3), .unset, .unset] rfl rfl ?_
    refine Own.s_new X3 at_26 (tw98 hw) (tw99 hw) (tw100 hw) (by decide) (by decide) rfl ?_
    intro b4 T4 h4 X4 V4 g4 E4 O4 D4
    have F4_entity : Fld Z h4 b4 "com/example/chiron/chiron/query/GraphQuery$IsAPattern" "entity" "Lcom/example/chiron/chiron/query/GraphQuery$Slot;" (.null) := D4 (Or.inr (tw106 hw)) (ty := (.object "com/example/chiron/chiron/query/GraphQuery$Slot")) (by decide)
    have F4_type : Fld Z h4 b4 "com/example/chiron/chiron/query/GraphQuery$IsAPattern" "type" "Lcom/example/chiron/chiron/query/GraphQuery$Slot;" (.null) := D4 (Or.inr (tw108 hw)) (ty := (.object "com/example/chiron/chiron/query/GraphQuery$Slot")) (by decide)
    refine Own.s_dup X4 at_29 rfl rfl ?_
    refine Own.s_aloadN X4 at_30 rfl rfl rfl ?_
    refine Own.s_aload X4 at_31 rfl rfl rfl ?_
    refine Own.c_special X4 at_33 rfl (tw101 hw) (tw102 hw) (tw100 hw) (tw103 hw) (by decide) b4 [(.ref r1), (.ref r3)] [(.ref b4)] 1 (rm_ip hw b4 r1 r3  h4 X4.hE O4.2.1 E4 F4_entity F4_type ) (fun q => nomatch q) (Own.Ok.one O4) (lenOf pd_14 rfl) rfl (Nat.le_of_eq rfl) (by decide) (by decide) (by decide) (by decide) rfl rfl ?_
    intro v5 vm5 T5 h5 L5 X5 V5 Q5
    obtain ⟨rfl, E5, F5_0, F5_1⟩ := Q5
    refine Own.s_astore X5 at_36 rfl #[.val (.int p0), .val (.int p1), .val (.int p2), .val (.ref r1), .val (.ref r3), .val (.ref b4), .unset] rfl rfl ?_
    refine Own.s_aload X5 at_38 rfl rfl rfl ?_
    refine Own.c_virtual X5 at_40 (tw109 hw) (tw110 hw) (notFace_of_selects (args := #[]) (mvT X5.hZ (tw112 hw))) (tw112 hw) (tw111 hw) (tw100 hw) (tw113 hw) (by decide) b4 [] [] 0 E5 (rm_slots hw b4 r1 r3 h5 X5.hE E5 F5_0 F5_1) (fun q => nomatch q) Own.Ok.nil (lenOf pd_15 rfl) rfl (Nat.le_of_eq rfl) (by decide) (by decide) (by decide) (by decide) rfl rfl ?_
    intro v6 vm6 T6 h6 L6 X6 V6 Q6
    obtain ⟨r6, rfl, g6, E6, Fa6, Fb6⟩ := Q6
    refine Own.s_astore X6 at_43 rfl #[.val (.int p0), .val (.int p1), .val (.int p2), .val (.ref r1), .val (.ref r3), .val (.ref b4), .val (.ref r6)] rfl rfl ?_
    refine Own.s_aload X6 at_45 rfl rfl rfl ?_
    have le7 : h0.size ≤ h1.size := V1.1.1
    have ne8 : r3 ≠ em := (Nat.ne_of_gt (Nat.lt_of_lt_of_le (Nat.lt_of_lt_of_le lem le7) g3))
    refine Own.c_interface X6 at_47 (tw152 hw) (tw153 hw) (tw154 hw) rfl (tw155 hw) (tw156 hw) (tw157 hw) (tw158 hw) (tw159 hw) (tw120 hw) (tw160 hw) (by decide) r6 [] [] 0 E6 (rm_size hw r6 r1 r3 Sem h6 X6.hE E6 Fa6 Fb6 ne8) (fun q => nomatch q) Own.Ok.nil (lenOf pd_16 rfl) rfl (Nat.le_of_eq rfl) (by decide) (by decide) (by decide) (by decide) rfl rfl ?_
    intro v9 vm9 T9 h9 L9 X9 V9 Q9
    obtain rfl := Q9
    refine Own.s_iconst X9 at_52 (2 : Int32) (by decide) rfl ?_
    refine Own.s_icmpF X9 at_53 (teq (show (2 : Int32) = (2 : Int32) by decide)).2 rfl ?_
    refine Own.s_aload X9 at_56 rfl rfl rfl ?_
    refine Own.s_iconst X9 at_58 (0 : Int32) (by decide) rfl ?_
    have ex10 : Ext h6 h9 := Own.extK (Own.Ext.rfl' h6) V9.1 all0
    have E_11 := Exa.ext ex10 E6
    have F_12 := Fld.ext ex10 Fa6
    have F_13 := Fld.ext ex10 Fb6
    refine Own.c_interface X9 at_59 (tw163 hw) (tw164 hw) (tw165 hw) rfl (tw166 hw) (tw167 hw) (tw168 hw) (tw169 hw) (tw159 hw) (tw120 hw) (tw170 hw) (by decide) r6 [(.int (0 : Int32))] [] 0 E_11 (rm_get0 hw r6 r1 r3 Sem h9 X9.hE E_11 F_12 F_13 ne8) (fun q => nomatch q) Own.Ok.nil (lenOf pd_17 rfl) rfl (Nat.le_of_eq rfl) (by decide) (by decide) (by decide) (by decide) rfl rfl ?_
    intro v14 vm14 T14 h14 L14 X14 V14 Q14
    obtain rfl := Q14
    refine Own.s_aloadN X14 at_64 rfl rfl rfl ?_
    refine Own.s_acmpF X14 at_65 rfl rfl (XT.aa_ne_f rfl) rfl ?_
    refine Own.s_aload X14 at_68 rfl rfl rfl ?_
    refine Own.s_iconst X14 at_70 (1 : Int32) (by decide) rfl ?_
    have ex15 : Ext h9 h14 := Own.extK (Own.Ext.rfl' h9) V14.1 all0
    have E_16 := Exa.ext ex15 E_11
    have F_17 := Fld.ext ex15 F_12
    have F_18 := Fld.ext ex15 F_13
    refine Own.c_interface X14 at_71 (tw163 hw) (tw164 hw) (tw165 hw) rfl (tw166 hw) (tw167 hw) (tw168 hw) (tw169 hw) (tw159 hw) (tw120 hw) (tw170 hw) (by decide) r6 [(.int (1 : Int32))] [] 0 E_16 (rm_get1 hw r6 r1 r3 Sem h14 X14.hE E_16 F_17 F_18 ne8) (fun q => nomatch q) Own.Ok.nil (lenOf pd_17 rfl) rfl (Nat.le_of_eq rfl) (by decide) (by decide) (by decide) (by decide) rfl rfl ?_
    intro v19 vm19 T19 h19 L19 X19 V19 Q19
    obtain rfl := Q19
    refine Own.s_aload X19 at_76 rfl rfl rfl ?_
    refine Own.s_acmpF X19 at_78 rfl rfl (XT.aa_ne_f rfl) rfl ?_
    refine Own.s_iconst X19 at_81 (1 : Int32) (by decide) rfl ?_
    refine Own.s_goto X19 at_82 (by decide) (pc' := 86) (by decide) ?_
    exact Own.r_nar X19 rfl (Or.inl rfl) at_86 (by decide) (by decide) (by decide)
  · refine Own.s_ifF X1 at_9 ((if0 _ _).trans (feq hc9_2).1) rfl ?_
    refine Own.s_aloadN X1 at_12 rfl rfl rfl ?_
    refine Own.s_goto X1 at_13 (by decide) (pc' := 24) (by decide) ?_
    refine Own.s_astore X1 at_24 rfl #[.val (.int p0), .val (.int p1), .val (.int p2), .val (.ref r1), .val (.ref r1), .unset, .unset] rfl rfl ?_
    refine Own.s_new X1 at_26 (tw98 hw) (tw99 hw) (tw100 hw) (by decide) (by decide) rfl ?_
    intro b20 T20 h20 X20 V20 g20 E20 O20 D20
    have F20_entity : Fld Z h20 b20 "com/example/chiron/chiron/query/GraphQuery$IsAPattern" "entity" "Lcom/example/chiron/chiron/query/GraphQuery$Slot;" (.null) := D20 (Or.inr (tw106 hw)) (ty := (.object "com/example/chiron/chiron/query/GraphQuery$Slot")) (by decide)
    have F20_type : Fld Z h20 b20 "com/example/chiron/chiron/query/GraphQuery$IsAPattern" "type" "Lcom/example/chiron/chiron/query/GraphQuery$Slot;" (.null) := D20 (Or.inr (tw108 hw)) (ty := (.object "com/example/chiron/chiron/query/GraphQuery$Slot")) (by decide)
    refine Own.s_dup X20 at_29 rfl rfl ?_
    refine Own.s_aloadN X20 at_30 rfl rfl rfl ?_
    refine Own.s_aload X20 at_31 rfl rfl rfl ?_
    refine Own.c_special X20 at_33 rfl (tw101 hw) (tw102 hw) (tw100 hw) (tw103 hw) (by decide) b20 [(.ref r1), (.ref r1)] [(.ref b20)] 1 (rm_ip hw b20 r1 r1  h20 X20.hE O20.2.1 E20 F20_entity F20_type ) (fun q => nomatch q) (Own.Ok.one O20) (lenOf pd_14 rfl) rfl (Nat.le_of_eq rfl) (by decide) (by decide) (by decide) (by decide) rfl rfl ?_
    intro v21 vm21 T21 h21 L21 X21 V21 Q21
    obtain ⟨rfl, E21, F21_0, F21_1⟩ := Q21
    refine Own.s_astore X21 at_36 rfl #[.val (.int p0), .val (.int p1), .val (.int p2), .val (.ref r1), .val (.ref r1), .val (.ref b20), .unset] rfl rfl ?_
    refine Own.s_aload X21 at_38 rfl rfl rfl ?_
    refine Own.c_virtual X21 at_40 (tw109 hw) (tw110 hw) (notFace_of_selects (args := #[]) (mvT X21.hZ (tw112 hw))) (tw112 hw) (tw111 hw) (tw100 hw) (tw113 hw) (by decide) b20 [] [] 0 E21 (rm_slots hw b20 r1 r1 h21 X21.hE E21 F21_0 F21_1) (fun q => nomatch q) Own.Ok.nil (lenOf pd_15 rfl) rfl (Nat.le_of_eq rfl) (by decide) (by decide) (by decide) (by decide) rfl rfl ?_
    intro v22 vm22 T22 h22 L22 X22 V22 Q22
    obtain ⟨r22, rfl, g22, E22, Fa22, Fb22⟩ := Q22
    refine Own.s_astore X22 at_43 rfl #[.val (.int p0), .val (.int p1), .val (.int p2), .val (.ref r1), .val (.ref r1), .val (.ref b20), .val (.ref r22)] rfl rfl ?_
    refine Own.s_aload X22 at_45 rfl rfl rfl ?_
    have ne23 : r1 ≠ em := (Nat.ne_of_gt (Nat.lt_of_lt_of_le lem g1))
    refine Own.c_interface X22 at_47 (tw152 hw) (tw153 hw) (tw154 hw) rfl (tw155 hw) (tw156 hw) (tw157 hw) (tw158 hw) (tw159 hw) (tw120 hw) (tw160 hw) (by decide) r22 [] [] 0 E22 (rm_size hw r22 r1 r1 Sem h22 X22.hE E22 Fa22 Fb22 ne23) (fun q => nomatch q) Own.Ok.nil (lenOf pd_16 rfl) rfl (Nat.le_of_eq rfl) (by decide) (by decide) (by decide) (by decide) rfl rfl ?_
    intro v24 vm24 T24 h24 L24 X24 V24 Q24
    obtain rfl := Q24
    refine Own.s_iconst X24 at_52 (2 : Int32) (by decide) rfl ?_
    refine Own.s_icmpF X24 at_53 (teq (show (2 : Int32) = (2 : Int32) by decide)).2 rfl ?_
    refine Own.s_aload X24 at_56 rfl rfl rfl ?_
    refine Own.s_iconst X24 at_58 (0 : Int32) (by decide) rfl ?_
    have ex25 : Ext h22 h24 := Own.extK (Own.Ext.rfl' h22) V24.1 all0
    have E_26 := Exa.ext ex25 E22
    have F_27 := Fld.ext ex25 Fa22
    have F_28 := Fld.ext ex25 Fb22
    refine Own.c_interface X24 at_59 (tw163 hw) (tw164 hw) (tw165 hw) rfl (tw166 hw) (tw167 hw) (tw168 hw) (tw169 hw) (tw159 hw) (tw120 hw) (tw170 hw) (by decide) r22 [(.int (0 : Int32))] [] 0 E_26 (rm_get0 hw r22 r1 r1 Sem h24 X24.hE E_26 F_27 F_28 ne23) (fun q => nomatch q) Own.Ok.nil (lenOf pd_17 rfl) rfl (Nat.le_of_eq rfl) (by decide) (by decide) (by decide) (by decide) rfl rfl ?_
    intro v29 vm29 T29 h29 L29 X29 V29 Q29
    obtain rfl := Q29
    refine Own.s_aloadN X29 at_64 rfl rfl rfl ?_
    refine Own.s_acmpF X29 at_65 rfl rfl (XT.aa_ne_f rfl) rfl ?_
    refine Own.s_aload X29 at_68 rfl rfl rfl ?_
    refine Own.s_iconst X29 at_70 (1 : Int32) (by decide) rfl ?_
    have ex30 : Ext h24 h29 := Own.extK (Own.Ext.rfl' h24) V29.1 all0
    have E_31 := Exa.ext ex30 E_26
    have F_32 := Fld.ext ex30 F_27
    have F_33 := Fld.ext ex30 F_28
    refine Own.c_interface X29 at_71 (tw163 hw) (tw164 hw) (tw165 hw) rfl (tw166 hw) (tw167 hw) (tw168 hw) (tw169 hw) (tw159 hw) (tw120 hw) (tw170 hw) (by decide) r22 [(.int (1 : Int32))] [] 0 E_31 (rm_get1 hw r22 r1 r1 Sem h29 X29.hE E_31 F_32 F_33 ne23) (fun q => nomatch q) Own.Ok.nil (lenOf pd_17 rfl) rfl (Nat.le_of_eq rfl) (by decide) (by decide) (by decide) (by decide) rfl rfl ?_
    intro v34 vm34 T34 h34 L34 X34 V34 Q34
    obtain rfl := Q34
    refine Own.s_aload X34 at_76 rfl rfl rfl ?_
    refine Own.s_acmpF X34 at_78 rfl rfl (XT.aa_ne_f rfl) rfl ?_
    refine Own.s_iconst X34 at_81 (1 : Int32) (by decide) rfl ?_
    refine Own.s_goto X34 at_82 (by decide) (pc' := 86) (by decide) ?_
    exact Own.r_nar X34 rfl (Or.inl rfl) at_86 (by decide) (by decide) (by decide)
set_option maxRecDepth 65536 in
set_option maxHeartbeats 40000000 in
theorem comes_1 {Post : Tables → Env → Array Value → State → Outcome → State → Prop} (hpost : ∀ tb e args s v u, (limb_1_1.after args s (.returned v) u = true ∧ limb_1_2.after args s (.returned v) u = true ∧ True) → ReturnedEndW s (.returned v) u (Jvm.fieldLocs frame_1_writes args s ++ Jvm.arrayLocs frame_1_arrays args s ++ Jvm.staticLocs frame_1_statics s) 40 1216 → Post tb e args s (.returned v) u) :
    ArmFor flags0 classFile x code maxLocals ret World_1 tables_1 room_1 Calls_1 rest_1 Pre_1 Post := by
  intro l hfl _ _ p e ha hc hk s m args below hf hA hF happ hP
  obtain ⟨hcalls, hrest, hpre⟩ := hP
  obtain ⟨-, -, -, hnamed, -, -, -, hat⟩ := (Spec.applies_iff hf).mp happ
  obtain ⟨hg, hn⟩ := and_e (Cond.before_iff.mp (show (Jvm.Cond.and given_1 narrow_1).before args s = true from hpre))
  obtain ⟨hcount, r0⟩ := and_e hg
  obtain ⟨q0, r1⟩ := and_e r0
  obtain ⟨q1, r2⟩ := and_e r1
  have q2 := r2
  obtain ⟨w0, w1, w2, rfl⟩ : ∃ w0 w1 w2 : Value, args = #[w0, w1, w2] := by
    have hs : args.size = 3 := by simpa [Cond.value, given_1] using hcount
    obtain ⟨L⟩ := args
    match L, hs with
    | [w0, w1, w2], _ => exact ⟨w0, w1, w2, rfl⟩
  have hw := fun d (hd : d ∈ tables_1) => atoms_spec (ws := Jvm.Cond.code x code maxLocals ret :: tables_1) hat d (List.mem_cons_of_mem _ hd)
  obtain ⟨hsets, hown0⟩ := atoms_of _ (rest_1_c_eq ▸ (show rest_1_c.before _ s = true from hrest))
  obtain ⟨i0, e0⟩ := is_v q0
  obtain rfl : w0 = (.int i0) := Option.some.inj e0
  obtain ⟨i1, e1⟩ := is_v q1
  obtain rfl : w1 = (.int i1) := Option.some.inj e1
  obtain ⟨i2, e2⟩ := is_v q2
  obtain rfl : w2 = (.int i2) := Option.some.inj e2
  have nC := not_v (Cond.before_iff.mp (hsets _ (List.mem_of_getElem? (i := 2) rfl)))
  obtain ⟨zc, eC⟩ := is_v (Cond.before_iff.mp (hsets _ (List.mem_of_getElem? (i := 1) rfl)))
  have SC : Sta s s.heap "java/lang/String" "COMPACT_STRINGS" "Z" (.int zc) := Sta.start eC (Or.inl (hsets _ (List.mem_of_getElem? (i := 0) rfl)))
  have hzc : ¬ (zc = (0 : Int32)) := gotF (Cond.eq_ints eC (Term.int_eval (0))) nC
  obtain ⟨fm, eF, hfm⟩ := isR_v (Cond.before_iff.mp (hsets _ (List.mem_of_getElem? (i := 8) rfl)))
  have SF : Sta s s.heap "jdk/internal/util/Preconditions" "SIOOBE_FORMATTER" "Ljava/util/function/BiFunction;" fm := Sta.start eF (Or.inl (hsets _ (List.mem_of_getElem? (i := 7) rfl)))
  obtain ⟨m0, n0⟩ := and_e hn
  obtain ⟨kB, ekB⟩ := exa_v m0
  have SkB : Sta s s.heap "com/example/chiron/chiron/graph/Term$Kind" "BLANK" "Lcom/example/chiron/chiron/graph/Term$Kind;" (.ref kB) := Sta.start ekB (Or.inr ⟨(tw41 hw), (tw42 hw)⟩)
  obtain ⟨kI, ekI⟩ := exa_v n0
  have SkI : Sta s s.heap "com/example/chiron/chiron/graph/Term$Kind" "IRI" "Lcom/example/chiron/chiron/graph/Term$Kind;" (.ref kI) := Sta.start ekI (Or.inr ⟨(tw41 hw), (tw97 hw)⟩)
  obtain ⟨kr, ekr⟩ := exa_v (Cond.before_iff.mp (hsets _ (List.mem_of_getElem? (i := 11) rfl)))
  have Skr : Sta s s.heap "java/util/Locale" "ROOT" "Ljava/util/Locale;" (.ref kr) := Sta.start ekr (Or.inl (hsets _ (List.mem_of_getElem? (i := 10) rfl)))
  have xem := Cond.before_iff.mp (hsets _ (List.mem_of_getElem? (i := 20) rfl))
  obtain ⟨em, eem⟩ := exa_v xem
  have Sem : Sta s s.heap "java/util/ImmutableCollections" "EMPTY" "Ljava/lang/Object;" (.ref em) := Sta.start eem (Or.inl (hsets _ (List.mem_of_getElem? (i := 19) rfl)))
  have hem : em < s.heap.size := (Exa.start eem xem).lt
  have hCH : CHv s EL s.vm s.heap := CHv.start (ewEL hw) (fun p hp => hcalls.1 p hp) (a0 := _) (hsets _ (List.mem_of_getElem? (i := 2) rfl)) (tw23 hw) (tw6 hw)
  obtain ⟨n, o, g1, g2, g3, v, rfl, L, ⟨N, -, rfl⟩, -, hRW, hFE⟩ := rm_law hw i0 i1 i2 SC hzc SF hfm Skr SkB SkI Sem hem s.heap (Own.Ext.rfl' _) tables_1 p e ha hc hk s m _ below hf ((Spec.applies_iff_loose hf).mp happ).1 ⟨rfl, State.Warmed39.refl s, rfl, fun _ => ⟨hCH, fun _ q => nomatch q⟩⟩ trivial
  have hq := hRW
  refine ⟨n, _, g1, g2, g3, hpost _ _ _ _ _ _ ⟨Cond.after_iff.mpr rfl, Cond.after_iff.mpr (eq_i res_at (Term.int_eval (1)) rfl), trivial⟩ ⟨hq.1, hq.2.1, hq.2.2.1, (hq.2.2.2.sift fun y hy => Or.inr (N y hy)).mono (by decide) (by decide)⟩⟩
theorem main_1_1 : Claimed_1_1 := comes_1 fun _ _ _ _ _ _ h hF => ⟨h.1, hF⟩
theorem main_1_2 : Claimed_1_2 := comes_1 fun _ _ _ _ _ _ h hF => ⟨h.2.1, hF⟩
end Jvm.Pilot.@@N@@
namespace Jvm.Pilot.@@N@@
open Jvm Jvm.ClassFile Sem Op Lib Jvm.Free Jvm.Stand Jvm.Pilot.@@N@@.Jvm.D
/-! MADE BY PROGRAM (witnessworld.py) out of the Statement's table words and the real class files: 40 classes; the members and pool entries that the words name. The judged class is class 1, her method 1. -/
namespace start1
open Jvm.ClassFile
def u (s : String) : CpInfo := .utf8 (stringToUtf16 s)
/-- a pool by its gaps: so many unusable entries, then the entry; so many at the end -/
def gap : Nat → List CpInfo → List CpInfo
  | 0, r => r
  | n + 1, r => .unusable :: gap n r
def poolList (es : List (Nat × CpInfo)) (last : Nat) : List CpInfo := es.foldr (fun e r => gap e.1 (e.2 :: r)) (gap last [])
def pool (es : List (Nat × CpInfo)) (last : Nat) : Array CpInfo := ⟨poolList es last⟩
def fileOf (pool : Array CpInfo) (this : Nat) (attrs : Array Attribute := #[]) (ms : Array MethodInfo := #[]) (fl : Nat := 33) (sup : Nat := 0) (ifs : Array Nat := #[]) (fds : Array FieldInfo := #[]) : ClassFile where
  minorVersion := 0
  majorVersion := 65
  constantPool := pool
  accessFlags := fl
  thisClass := this
  superClass := sup
  interfaces := ifs
  fields := fds
  methods := ms
  attributes := attrs
def plain (name : String) (sup : Option ClassId) : Class where
  name := name
  kind := .ordinary
  loader := none
  accessFlags := 33
  super := sup
  interfaces := #[]
  cf := none
  fields := #[]
  methods := #[]
  instanceTypes := #[]
  staticTypes := #[]
  resolved := #[]
  callSites := []
  init := .initialized
  statics := none
  mirror := none

def pool0 : Array CpInfo := pool [(5, u "<init>"), (0, u "()V"), (1, .class_ 10), (1, u "java/lang/Object")] 113

def k0c0 : Code := { maxStack := 0, maxLocals := 1, code := object_method_1_code, exceptionTable := #[], attributes := #[] }
def k0m0 : Method := { name := "<init>", desc := "()V", sig := { parameters := [], returnType := none }, accessFlags := 1, code := some k0c0 }
/-- java/lang/Object -/
def k0 : Class := { plain "java/lang/Object" none with
  accessFlags := 33
  interfaces := #[]
  cf := some (fileOf pool0 8 #[] #[{ accessFlags := 1, nameIndex := 5, descriptorIndex := 6, attributes := #[] }] 33 0 #[] #[])
  fields := #[]
  methods := #[k0m0]
  instanceTypes := #[]
  staticTypes := #[]
  resolved := Array.replicate 124 none
  statics := none }

def pool1 : Array CpInfo := pool [(2, .class_ 4), (1, u "java/lang/Object"), (0, u "<init>"), (0, u "()V"), (0, .methodref 8 9), (0, .class_ 10), (0, .nameAndType 11 12), (0, u "com/example/chiron/chiron/query/IsAPatternSlotsPinLaw"), (0, u "slot"), (0, u "(II)Lcom/example/chiron/chiron/query/GraphQuery$Slot;"), (0, .class_ 14), (0, u "com/example/chiron/chiron/query/GraphQuery$IsAPattern"), (0, .methodref 13 16), (0, .nameAndType 5 17), (0, u "(Lcom/example/chiron/chiron/query/GraphQuery$Slot;Lcom/example/chiron/chiron/query/GraphQuery$Slot;)V"), (0, .methodref 13 19), (0, .nameAndType 20 21), (0, u "slots"), (0, u "()Ljava/util/List;"), (0, .interfaceMethodref 23 24), (0, .class_ 25), (0, .nameAndType 26 27), (0, u "java/util/List"), (0, u "size"), (0, u "()I"), (0, .interfaceMethodref 23 29), (0, .nameAndType 30 31), (0, u "get"), (0, u "(I)Ljava/lang/Object;"), (0, .class_ 33), (0, u "java/lang/String"), (0, .methodref 32 35), (0, .nameAndType 5 36), (0, u "([C)V"), (0, .methodref 38 39), (0, .class_ 40), (0, .nameAndType 41 42), (0, u "com/example/chiron/chiron/query/GraphQuery$Slot"), (0, u "ofVariable"), (0, u "(Ljava/lang/String;)Lcom/example/chiron/chiron/query/GraphQuery$Slot;"), (0, .methodref 44 45), (0, .class_ 46), (0, .nameAndType 47 48), (0, u "com/example/chiron/chiron/graph/Term"), (0, u "iri"), (0, u "(Ljava/lang/String;)Lcom/example/chiron/chiron/graph/Term;"), (0, .methodref 38 50), (0, .nameAndType 51 52), (0, u "ofConstant"), (0, u "(Lcom/example/chiron/chiron/graph/Term;)Lcom/example/chiron/chiron/query/GraphQuery$Slot;"), (0, .methodref 44 54), (0, .nameAndType 55 48), (0, u "blank"), (2, u "law"), (0, u "(III)Z")] 10

def k1m0 : Method := { name := "<init>", desc := "()V", sig := { parameters := [], returnType := none }, accessFlags := 1, code := none }
def k1c1 : Code := { maxStack := 4, maxLocals := 7, code := code, exceptionTable := #[], attributes := #[] }
def k1m1 : Method := { name := "law", desc := "(III)Z", sig := { parameters := [.int, .int, .int], returnType := some .boolean }, accessFlags := 9, code := some k1c1 }
def k1c2 : Code := { maxStack := 5, maxLocals := 4, code := method_3_code, exceptionTable := #[], attributes := #[] }
def k1m2 : Method := { name := "slot", desc := "(II)Lcom/example/chiron/chiron/query/GraphQuery$Slot;", sig := { parameters := [.int, .int], returnType := some (.object "com/example/chiron/chiron/query/GraphQuery$Slot") }, accessFlags := 10, code := some k1c2 }
/-- com/example/chiron/chiron/query/IsAPatternSlotsPinLaw -/
def k1 : Class := { plain "com/example/chiron/chiron/query/IsAPatternSlotsPinLaw" (some 0) with
  accessFlags := 49
  interfaces := #[]
  cf := some (fileOf pool1 8 #[] #[{ accessFlags := 1, nameIndex := 5, descriptorIndex := 6, attributes := #[] }, { accessFlags := 9, nameIndex := 58, descriptorIndex := 59, attributes := #[] }, { accessFlags := 10, nameIndex := 11, descriptorIndex := 12, attributes := #[] }] 49 2 #[] #[])
  fields := #[]
  methods := #[k1m0, k1m1, k1m2]
  instanceTypes := #[]
  staticTypes := #[]
  resolved := Array.replicate 70 none
  statics := none }

def pool2 : Array CpInfo := pool [(1, .class_ 2), (0, u "java/io/Serializable"), (0, .class_ 4), (0, u "java/lang/Object")] 2

/-- java/io/Serializable -/
def k2 : Class := { plain "java/io/Serializable" (some 0) with
  accessFlags := 1537
  interfaces := #[]
  cf := some (fileOf pool2 1 #[] #[] 1537 3 #[] #[])
  fields := #[]
  methods := #[]
  instanceTypes := #[]
  staticTypes := #[]
  resolved := Array.replicate 7 none
  statics := none }

def pool3 : Array CpInfo := pool [(1, .class_ 2), (0, u "java/lang/Comparable"), (0, .class_ 4), (0, u "java/lang/Object")] 7

/-- java/lang/Comparable -/
def k3 : Class := { plain "java/lang/Comparable" (some 0) with
  accessFlags := 1537
  interfaces := #[]
  cf := some (fileOf pool3 1 #[] #[] 1537 3 #[] #[])
  fields := #[]
  methods := #[]
  instanceTypes := #[]
  staticTypes := #[]
  resolved := Array.replicate 12 none
  statics := none }

def pool4 : Array CpInfo := pool [(2, .class_ 4), (1, u "java/lang/CharSequence"), (42, .class_ 48), (0, u "java/lang/CharSequence$1CodePointIterator"), (10, .class_ 60), (0, u "java/lang/CharSequence$1CharIterator"), (5, .class_ 67), (0, u "java/lang/Object")] 63

/-- java/lang/CharSequence -/
def k4 : Class := { plain "java/lang/CharSequence" (some 0) with
  accessFlags := 1537
  interfaces := #[]
  cf := some (fileOf pool4 2 #[.nestMembers #[47, 59]] #[] 1537 66 #[] #[])
  fields := #[]
  methods := #[]
  instanceTypes := #[]
  staticTypes := #[]
  resolved := Array.replicate 131 none
  statics := none }

def pool5 : Array CpInfo := pool [(1, .class_ 2), (0, u "java/lang/constant/Constable"), (0, .class_ 4), (0, u "java/lang/Object")] 6

/-- java/lang/constant/Constable -/
def k5 : Class := { plain "java/lang/constant/Constable" (some 0) with
  accessFlags := 1537
  interfaces := #[]
  cf := some (fileOf pool5 1 #[] #[] 1537 3 #[] #[])
  fields := #[]
  methods := #[]
  instanceTypes := #[]
  staticTypes := #[]
  resolved := Array.replicate 11 none
  statics := none }

def pool6 : Array CpInfo := pool [(1, .class_ 2), (0, u "java/lang/constant/ConstantDesc"), (0, .class_ 4), (0, u "java/lang/Object")] 32

/-- java/lang/constant/ConstantDesc -/
def k6 : Class := { plain "java/lang/constant/ConstantDesc" (some 0) with
  accessFlags := 1537
  interfaces := #[]
  cf := some (fileOf pool6 1 #[] #[] 1537 3 #[] #[])
  fields := #[]
  methods := #[]
  instanceTypes := #[]
  staticTypes := #[]
  resolved := Array.replicate 37 none
  statics := none }

def pool7 : Array CpInfo := pool [(1, .methodref 2 3), (0, .class_ 4), (0, .nameAndType 5 6), (0, u "java/lang/Object"), (0, u "<init>"), (0, u "()V"), (2, .fieldref 10 11), (0, .class_ 12), (0, .nameAndType 13 14), (0, u "java/lang/String"), (0, u "value"), (0, u "[B"), (0, .fieldref 10 16), (0, .nameAndType 17 18), (0, u "coder"), (0, u "B"), (2, u "hash"), (0, u "I"), (2, u "hashIsZero"), (0, u "Z"), (0, .methodref 10 28), (0, .nameAndType 5 29), (0, u "([CIILjava/lang/Void;)V"), (8, .fieldref 10 39), (0, .nameAndType 40 26), (0, u "COMPACT_STRINGS"), (1, .class_ 44), (1, u "java/lang/StringUTF16"), (0, u "compress"), (1, .methodref 42 48), (0, .nameAndType 49 50), (0, u "coderFromArrayLen"), (0, u "([BI)B"), (56, .class_ 109), (1, u "java/lang/StringLatin1"), (32, u "()Z"), (34, .methodref 42 178), (0, .nameAndType 45 179), (0, u "([CII)[B"), (312, .methodref 10 493), (0, .nameAndType 494 142), (0, u "isLatin1"), (80, .class_ 576), (0, u "java/lang/CharSequence"), (22, u "CASE_INSENSITIVE_ORDER"), (0, u "Ljava/util/Comparator;"), (238, .methodref 107 840), (0, .nameAndType 841 842), (0, u "toLowerCase"), (0, u "(Ljava/lang/String;[BLjava/util/Locale;)Ljava/lang/String;"), (9, u "(Ljava/util/Locale;)Ljava/lang/String;"), (157, u "([C)V"), (90, u "serialPersistentFields"), (0, u "[Ljava/io/ObjectStreamField;"), (0, .class_ 1104), (0, u "java/lang/String$CaseInsensitiveComparator"), (1, .class_ 1107), (0, u "java/io/Serializable"), (0, .class_ 1109), (0, u "java/lang/Comparable"), (0, .class_ 1111), (0, u "java/lang/constant/Constable"), (0, .class_ 1113), (0, u "java/lang/constant/ConstantDesc"), (2, u "serialVersionUID"), (0, u "J"), (3, u "REPL"), (0, u "C"), (2, u "LATIN1"), (1, u "UTF16")] 323

def k7m0 : Method := { name := "<init>", desc := "()V", sig := { parameters := [], returnType := none }, accessFlags := 1, code := none }
def k7c1 : Code := { maxStack := 5, maxLocals := 2, code := jdk_42_method_3_code, exceptionTable := #[], attributes := #[] }
def k7m1 : Method := { name := "<init>", desc := "([C)V", sig := { parameters := [(.array .char)], returnType := none }, accessFlags := 1, code := some k7c1 }
def k7c2 : Code := { maxStack := 3, maxLocals := 2, code := jdk_42_method_109_code, exceptionTable := #[], attributes := #[] }
def k7m2 : Method := { name := "toLowerCase", desc := "(Ljava/util/Locale;)Ljava/lang/String;", sig := { parameters := [(.object "java/util/Locale")], returnType := some (.object "java/lang/String") }, accessFlags := 1, code := some k7c2 }
def k7c3 : Code := { maxStack := 4, maxLocals := 6, code := jdk_42_method_149_code, exceptionTable := #[], attributes := #[] }
def k7m3 : Method := { name := "<init>", desc := "([CIILjava/lang/Void;)V", sig := { parameters := [(.array .char), .int, .int, (.object "java/lang/Void")], returnType := none }, accessFlags := 2, code := some k7c3 }
def k7c4 : Code := { maxStack := 1, maxLocals := 1, code := jdk_42_method_154_code, exceptionTable := #[], attributes := #[] }
def k7m4 : Method := { name := "isLatin1", desc := "()Z", sig := { parameters := [], returnType := some .boolean }, accessFlags := 0, code := some k7c4 }
/-- java/lang/String -/
def k7 : Class := { plain "java/lang/String" (some 0) with
  accessFlags := 49
  interfaces := #[2, 3, 4, 5, 6]
  cf := some (fileOf pool7 10 #[.nestMembers #[1103]] #[{ accessFlags := 1, nameIndex := 5, descriptorIndex := 6, attributes := #[] }, { accessFlags := 1, nameIndex := 5, descriptorIndex := 1010, attributes := #[] }, { accessFlags := 1, nameIndex := 841, descriptorIndex := 852, attributes := #[] }, { accessFlags := 2, nameIndex := 5, descriptorIndex := 29, attributes := #[] }, { accessFlags := 0, nameIndex := 494, descriptorIndex := 142, attributes := #[] }] 49 2 #[1106, 1108, 575, 1110, 1112] #[{ accessFlags := 18, nameIndex := 13, descriptorIndex := 14, attributes := #[] }, { accessFlags := 18, nameIndex := 17, descriptorIndex := 18, attributes := #[] }, { accessFlags := 2, nameIndex := 21, descriptorIndex := 22, attributes := #[] }, { accessFlags := 2, nameIndex := 25, descriptorIndex := 26, attributes := #[] }, { accessFlags := 26, nameIndex := 1116, descriptorIndex := 1117, attributes := #[] }, { accessFlags := 24, nameIndex := 40, descriptorIndex := 26, attributes := #[] }, { accessFlags := 26, nameIndex := 1101, descriptorIndex := 1102, attributes := #[] }, { accessFlags := 26, nameIndex := 1121, descriptorIndex := 1122, attributes := #[] }, { accessFlags := 25, nameIndex := 599, descriptorIndex := 600, attributes := #[] }, { accessFlags := 24, nameIndex := 1125, descriptorIndex := 18, attributes := #[] }, { accessFlags := 24, nameIndex := 1127, descriptorIndex := 18, attributes := #[] }])
  fields := #[{ name := "value", type := (.array .byte), accessFlags := 18, slot := 0, constantValue := 0 }, { name := "coder", type := .byte, accessFlags := 18, slot := 1, constantValue := 0 }, { name := "hash", type := .int, accessFlags := 2, slot := 2, constantValue := 0 }, { name := "hashIsZero", type := .boolean, accessFlags := 2, slot := 3, constantValue := 0 }, { name := "serialVersionUID", type := .long, accessFlags := 26, slot := 0, constantValue := 0 }, { name := "COMPACT_STRINGS", type := .boolean, accessFlags := 24, slot := 1, constantValue := 0 }, { name := "serialPersistentFields", type := (.array (.object "java/io/ObjectStreamField")), accessFlags := 26, slot := 2, constantValue := 0 }, { name := "REPL", type := .char, accessFlags := 26, slot := 3, constantValue := 0 }, { name := "CASE_INSENSITIVE_ORDER", type := (.object "java/util/Comparator"), accessFlags := 25, slot := 4, constantValue := 0 }, { name := "LATIN1", type := .byte, accessFlags := 24, slot := 5, constantValue := 0 }, { name := "UTF16", type := .byte, accessFlags := 24, slot := 6, constantValue := 0 }]
  methods := #[k7m0, k7m1, k7m2, k7m3, k7m4]
  instanceTypes := #[(.array .byte), .byte, .int, .boolean]
  staticTypes := #[.long, .boolean, (.array (.object "java/io/ObjectStreamField")), .char, (.object "java/util/Comparator"), .byte, .byte]
  resolved := Array.replicate 1451 none
  statics := some 0 }

def pool8 : Array CpInfo := pool [(6, .class_ 8), (1, u "java/lang/Object"), (0, u "<init>"), (0, u "()V"), (1, .class_ 14), (1, u "java/lang/StringUTF16"), (31, u "$assertionsDisabled"), (0, u "Z"), (13, u "HI_BYTE_SHIFT"), (0, u "I"), (2, u "LO_BYTE_SHIFT"), (49, .methodref 12 116), (0, .nameAndType 117 118), (0, u "compress"), (0, u "([CI[BII)I"), (3, u "([CII)[B"), (138, u "coderFromArrayLen"), (0, u "([BI)B"), (106, .class_ 371), (1, u "java/lang/StringUTF16$LinesSpliterator"), (58, u "MAX_LENGTH"), (196, .class_ 628), (0, u "java/lang/StringUTF16$CodePointsSpliterator"), (0, .class_ 630), (0, u "java/lang/StringUTF16$CharsSpliterator")] 4

def k8m0 : Method := { name := "<init>", desc := "()V", sig := { parameters := [], returnType := none }, accessFlags := 0, code := none }
def k8c1 : Code := { maxStack := 2, maxLocals := 2, code := jdk_52_method_15_code, exceptionTable := #[], attributes := #[] }
def k8m1 : Method := { name := "coderFromArrayLen", desc := "([BI)B", sig := { parameters := [(.array .byte), .int], returnType := some .byte }, accessFlags := 8, code := some k8c1 }
def k8c2 : Code := { maxStack := 5, maxLocals := 6, code := jdk_52_method_16_code, exceptionTable := #[], attributes := #[] }
def k8m2 : Method := { name := "compress", desc := "([CII)[B", sig := { parameters := [(.array .char), .int, .int], returnType := some (.array .byte) }, accessFlags := 9, code := some k8c2 }
def k8c3 : Code := { maxStack := 3, maxLocals := 7, code := jdk_52_method_21_code, exceptionTable := #[], attributes := #[] }
def k8m3 : Method := { name := "compress", desc := "([CI[BII)I", sig := { parameters := [(.array .char), .int, (.array .byte), .int, .int], returnType := some .int }, accessFlags := 9, code := some k8c3 }
/-- java/lang/StringUTF16 -/
def k8 : Class := { plain "java/lang/StringUTF16" (some 0) with
  accessFlags := 48
  interfaces := #[]
  cf := some (fileOf pool8 12 #[.nestMembers #[627, 629, 369]] #[{ accessFlags := 0, nameIndex := 9, descriptorIndex := 10, attributes := #[] }, { accessFlags := 8, nameIndex := 261, descriptorIndex := 262, attributes := #[] }, { accessFlags := 9, nameIndex := 117, descriptorIndex := 122, attributes := #[] }, { accessFlags := 9, nameIndex := 117, descriptorIndex := 118, attributes := #[] }] 48 6 #[] #[{ accessFlags := 26, nameIndex := 61, descriptorIndex := 62, attributes := #[] }, { accessFlags := 26, nameIndex := 65, descriptorIndex := 62, attributes := #[] }, { accessFlags := 24, nameIndex := 430, descriptorIndex := 62, attributes := #[] }, { accessFlags := 4120, nameIndex := 46, descriptorIndex := 47, attributes := #[] }])
  fields := #[{ name := "HI_BYTE_SHIFT", type := .int, accessFlags := 26, slot := 0, constantValue := 0 }, { name := "LO_BYTE_SHIFT", type := .int, accessFlags := 26, slot := 1, constantValue := 0 }, { name := "MAX_LENGTH", type := .int, accessFlags := 24, slot := 2, constantValue := 0 }, { name := "$assertionsDisabled", type := .boolean, accessFlags := 4120, slot := 3, constantValue := 0 }]
  methods := #[k8m0, k8m1, k8m2, k8m3]
  instanceTypes := #[]
  staticTypes := #[.int, .int, .int, .boolean]
  resolved := Array.replicate 635 none
  statics := none }

def pool9 : Array CpInfo := pool [(1, .methodref 2 3), (0, .class_ 4), (0, .nameAndType 5 6), (0, u "java/lang/Object"), (0, u "<init>"), (0, u "()V"), (0, .class_ 8), (0, u "java/lang/Record")] 13

def k9c0 : Code := { maxStack := 1, maxLocals := 1, code := jdk_30_method_1_code, exceptionTable := #[], attributes := #[] }
def k9m0 : Method := { name := "<init>", desc := "()V", sig := { parameters := [], returnType := none }, accessFlags := 4, code := some k9c0 }
/-- java/lang/Record -/
def k9 : Class := { plain "java/lang/Record" (some 0) with
  accessFlags := 1057
  interfaces := #[]
  cf := some (fileOf pool9 7 #[] #[{ accessFlags := 4, nameIndex := 5, descriptorIndex := 6, attributes := #[] }] 1057 2 #[] #[])
  fields := #[]
  methods := #[k9m0]
  instanceTypes := #[]
  staticTypes := #[]
  resolved := Array.replicate 22 none
  statics := none }

def pool10 : Array CpInfo := pool [(1, .methodref 2 3), (0, .class_ 4), (0, .nameAndType 5 6), (0, u "java/lang/Record"), (0, u "<init>"), (0, u "()V"), (7, .fieldref 15 16), (0, .class_ 17), (0, .nameAndType 18 19), (0, u "java/util/Locale"), (0, u "ROOT"), (0, u "Ljava/util/Locale;"), (0, .methodref 21 22), (0, .class_ 23), (0, .nameAndType 24 25), (0, u "java/lang/String"), (0, u "toLowerCase"), (0, u "(Ljava/util/Locale;)Ljava/lang/String;"), (0, .fieldref 27 28), (0, .class_ 29), (0, .nameAndType 30 31), (0, u "com/example/chiron/chiron/graph/Term"), (0, u "kind"), (0, u "Lcom/example/chiron/chiron/graph/Term$Kind;"), (0, .fieldref 27 33), (0, .nameAndType 34 35), (0, u "value"), (0, u "Ljava/lang/String;"), (0, .fieldref 27 37), (0, .nameAndType 38 35), (0, u "language"), (0, .fieldref 27 40), (0, .nameAndType 41 35), (0, u "datatype"), (0, .fieldref 43 44), (0, .class_ 45), (0, .nameAndType 46 31), (0, u "com/example/chiron/chiron/graph/Term$Kind"), (0, u "IRI"), (0, .string 48), (0, u ""), (0, .methodref 27 50), (0, .nameAndType 5 51), (0, u "(Lcom/example/chiron/chiron/graph/Term$Kind;Ljava/lang/String;Ljava/lang/String;Ljava/lang/String;)V"), (0, .fieldref 43 53), (0, .nameAndType 54 31), (0, u "BLANK"), (58, .class_ 114), (0, u "java/lang/Comparable"), (0, u "XSD_STRING"), (3, u "RDF_LANG_STRING"), (6, u "iri"), (0, u "(Ljava/lang/String;)Lcom/example/chiron/chiron/graph/Term;"), (0, u "blank")] 33

def k10c0 : Code := { maxStack := 3, maxLocals := 5, code := prog_7_method_1_code, exceptionTable := #[], attributes := #[] }
def k10m0 : Method := { name := "<init>", desc := "(Lcom/example/chiron/chiron/graph/Term$Kind;Ljava/lang/String;Ljava/lang/String;Ljava/lang/String;)V", sig := { parameters := [(.object "com/example/chiron/chiron/graph/Term$Kind"), (.object "java/lang/String"), (.object "java/lang/String"), (.object "java/lang/String")], returnType := none }, accessFlags := 1, code := some k10c0 }
def k10c1 : Code := { maxStack := 6, maxLocals := 1, code := prog_7_method_2_code, exceptionTable := #[], attributes := #[] }
def k10m1 : Method := { name := "iri", desc := "(Ljava/lang/String;)Lcom/example/chiron/chiron/graph/Term;", sig := { parameters := [(.object "java/lang/String")], returnType := some (.object "com/example/chiron/chiron/graph/Term") }, accessFlags := 9, code := some k10c1 }
def k10c2 : Code := { maxStack := 6, maxLocals := 1, code := prog_7_method_3_code, exceptionTable := #[], attributes := #[] }
def k10m2 : Method := { name := "blank", desc := "(Ljava/lang/String;)Lcom/example/chiron/chiron/graph/Term;", sig := { parameters := [(.object "java/lang/String")], returnType := some (.object "com/example/chiron/chiron/graph/Term") }, accessFlags := 9, code := some k10c2 }
/-- com/example/chiron/chiron/graph/Term -/
def k10 : Class := { plain "com/example/chiron/chiron/graph/Term" (some 9) with
  accessFlags := 49
  interfaces := #[3]
  cf := some (fileOf pool10 27 #[.nestMembers #[43]] #[{ accessFlags := 1, nameIndex := 5, descriptorIndex := 51, attributes := #[] }, { accessFlags := 9, nameIndex := 126, descriptorIndex := 127, attributes := #[] }, { accessFlags := 9, nameIndex := 128, descriptorIndex := 127, attributes := #[] }] 49 2 #[113] #[{ accessFlags := 18, nameIndex := 30, descriptorIndex := 31, attributes := #[] }, { accessFlags := 18, nameIndex := 34, descriptorIndex := 35, attributes := #[] }, { accessFlags := 18, nameIndex := 38, descriptorIndex := 35, attributes := #[] }, { accessFlags := 18, nameIndex := 41, descriptorIndex := 35, attributes := #[] }, { accessFlags := 25, nameIndex := 115, descriptorIndex := 35, attributes := #[] }, { accessFlags := 25, nameIndex := 119, descriptorIndex := 35, attributes := #[] }])
  fields := #[{ name := "kind", type := (.object "com/example/chiron/chiron/graph/Term$Kind"), accessFlags := 18, slot := 0, constantValue := 0 }, { name := "value", type := (.object "java/lang/String"), accessFlags := 18, slot := 1, constantValue := 0 }, { name := "language", type := (.object "java/lang/String"), accessFlags := 18, slot := 2, constantValue := 0 }, { name := "datatype", type := (.object "java/lang/String"), accessFlags := 18, slot := 3, constantValue := 0 }, { name := "XSD_STRING", type := (.object "java/lang/String"), accessFlags := 25, slot := 0, constantValue := 0 }, { name := "RDF_LANG_STRING", type := (.object "java/lang/String"), accessFlags := 25, slot := 1, constantValue := 0 }]
  methods := #[k10m0, k10m1, k10m2]
  instanceTypes := #[(.object "com/example/chiron/chiron/graph/Term$Kind"), (.object "java/lang/String"), (.object "java/lang/String"), (.object "java/lang/String")]
  staticTypes := #[(.object "java/lang/String"), (.object "java/lang/String")]
  resolved := Array.replicate 162 none
  statics := none }

def pool11 : Array CpInfo := pool [(2, .class_ 4), (1, u "java/lang/Enum"), (0, u "name"), (0, u "Ljava/lang/String;"), (2, u "ordinal"), (0, u "I"), (1, .class_ 14), (1, u "java/lang/Object"), (4, u "hash"), (86, .class_ 108), (1, u "java/lang/Enum$EnumDesc"), (2, .class_ 112), (0, u "java/lang/constant/Constable"), (0, .class_ 114), (0, u "java/lang/Comparable"), (0, .class_ 116), (0, u "java/io/Serializable")] 87

/-- java/lang/Enum -/
def k11 : Class := { plain "java/lang/Enum" (some 0) with
  accessFlags := 1057
  interfaces := #[5, 3, 2]
  cf := some (fileOf pool11 2 #[.nestMembers #[106]] #[] 1057 12 #[111, 113, 115] #[{ accessFlags := 18, nameIndex := 5, descriptorIndex := 6, attributes := #[] }, { accessFlags := 18, nameIndex := 9, descriptorIndex := 10, attributes := #[] }, { accessFlags := 2, nameIndex := 19, descriptorIndex := 10, attributes := #[] }])
  fields := #[{ name := "name", type := (.object "java/lang/String"), accessFlags := 18, slot := 0, constantValue := 0 }, { name := "ordinal", type := .int, accessFlags := 18, slot := 1, constantValue := 0 }, { name := "hash", type := .int, accessFlags := 2, slot := 2, constantValue := 0 }]
  methods := #[]
  instanceTypes := #[(.object "java/lang/String"), .int, .int]
  staticTypes := #[]
  resolved := Array.replicate 204 none
  statics := none }

def pool12 : Array CpInfo := pool [(1, .class_ 2), (0, u "com/example/chiron/chiron/graph/Term$Kind"), (2, u "BLANK"), (0, u "Lcom/example/chiron/chiron/graph/Term$Kind;"), (2, u "IRI"), (2, u "LITERAL"), (2, u "$VALUES"), (0, u "[Lcom/example/chiron/chiron/graph/Term$Kind;"), (6, .class_ 25), (1, u "java/lang/Enum"), (26, .class_ 53), (0, u "com/example/chiron/chiron/graph/Term")] 2

/-- com/example/chiron/chiron/graph/Term$Kind -/
def k12 : Class := { plain "com/example/chiron/chiron/graph/Term$Kind" (some 11) with
  accessFlags := 16433
  interfaces := #[]
  cf := some (fileOf pool12 1 #[.nestHost 52] #[] 16433 23 #[] #[{ accessFlags := 16409, nameIndex := 5, descriptorIndex := 6, attributes := #[] }, { accessFlags := 16409, nameIndex := 9, descriptorIndex := 6, attributes := #[] }, { accessFlags := 16409, nameIndex := 12, descriptorIndex := 6, attributes := #[] }, { accessFlags := 4122, nameIndex := 15, descriptorIndex := 16, attributes := #[] }])
  fields := #[{ name := "BLANK", type := (.object "com/example/chiron/chiron/graph/Term$Kind"), accessFlags := 16409, slot := 0, constantValue := 0 }, { name := "IRI", type := (.object "com/example/chiron/chiron/graph/Term$Kind"), accessFlags := 16409, slot := 1, constantValue := 0 }, { name := "LITERAL", type := (.object "com/example/chiron/chiron/graph/Term$Kind"), accessFlags := 16409, slot := 2, constantValue := 0 }, { name := "$VALUES", type := (.array (.object "com/example/chiron/chiron/graph/Term$Kind")), accessFlags := 4122, slot := 3, constantValue := 0 }]
  methods := #[]
  instanceTypes := #[(.object "java/lang/String"), .int, .int]
  staticTypes := #[(.object "com/example/chiron/chiron/graph/Term$Kind"), (.object "com/example/chiron/chiron/graph/Term$Kind"), (.object "com/example/chiron/chiron/graph/Term$Kind"), (.array (.object "com/example/chiron/chiron/graph/Term$Kind"))]
  resolved := Array.replicate 56 none
  statics := some 1 }

def pool13 : Array CpInfo := pool [(1, .class_ 2), (0, u "java/lang/Cloneable"), (0, .class_ 4), (0, u "java/lang/Object")] 2

/-- java/lang/Cloneable -/
def k13 : Class := { plain "java/lang/Cloneable" (some 0) with
  accessFlags := 1537
  interfaces := #[]
  cf := some (fileOf pool13 1 #[] #[] 1537 3 #[] #[])
  fields := #[]
  methods := #[]
  instanceTypes := #[]
  staticTypes := #[]
  resolved := Array.replicate 7 none
  statics := none }

def pool14 : Array CpInfo := pool [(7, .class_ 8), (0, u "java/util/Locale"), (6, u "CONSTANT_LOCALES"), (0, u "Ljava/util/Map;"), (7, .class_ 26), (1, u "java/lang/Object"), (3, u "baseLocale"), (0, u "Lsun/util/locale/BaseLocale;"), (2, u "localeExtensions"), (0, u "Lsun/util/locale/LocaleExtensions;"), (31, .class_ 69), (1, u "java/util/Locale$Cache"), (3, .class_ 74), (0, u "java/util/Locale$LocaleKey"), (3, u "defaultLocale"), (0, u "Ljava/util/Locale;"), (6, .class_ 88), (1, u "java/util/Locale$Category"), (4, u "defaultDisplayLocale"), (6, u "$assertionsDisabled"), (0, u "Z"), (12, u "defaultFormatLocale"), (12, u "Ljava/lang/String;"), (131, u "isoCountries"), (0, u "[Ljava/lang/String;"), (15, .class_ 278), (1, u "java/util/Locale$IsoCountryCode"), (4, u "isoLanguages"), (91, u "languageTag"), (114, .class_ 492), (1, u "java/util/Locale$LocaleNameGetter"), (125, u "hashCodeValue"), (0, u "I"), (29, u "ROOT"), (129, .class_ 781), (1, u "java/util/Locale$FilteringMode"), (39, u "ENGLISH"), (2, u "FRENCH"), (2, u "GERMAN"), (2, u "ITALIAN"), (2, u "JAPANESE"), (2, u "KOREAN"), (2, u "CHINESE"), (2, u "SIMPLIFIED_CHINESE"), (2, u "TRADITIONAL_CHINESE"), (2, u "FRANCE"), (2, u "GERMANY"), (2, u "ITALY"), (2, u "JAPAN"), (2, u "KOREA"), (2, u "UK"), (2, u "US"), (2, u "CANADA"), (2, u "CANADA_FRENCH"), (2, u "CHINA"), (2, u "PRC"), (2, u "TAIWAN"), (13, u "serialPersistentFields"), (0, u "[Ljava/io/ObjectStreamField;"), (0, .class_ 898), (0, u "java/lang/Cloneable"), (0, .class_ 900), (0, u "java/io/Serializable"), (2, u "PRIVATE_USE_EXTENSION"), (0, u "C"), (2, u "UNICODE_LOCALE_EXTENSION"), (1, u "serialVersionUID"), (0, u "J"), (2, u "DISPLAY_LANGUAGE"), (1, u "DISPLAY_COUNTRY"), (1, u "DISPLAY_VARIANT"), (1, u "DISPLAY_SCRIPT"), (1, u "DISPLAY_UEXT_KEY"), (1, u "DISPLAY_UEXT_TYPE"), (174, .class_ 1099), (0, u "java/util/Locale$LanguageRange"), (0, .class_ 1101), (0, u "java/util/Locale$Builder"), (0, .class_ 1103), (0, u "java/util/Locale$IsoCountryCode$3"), (0, .class_ 1105), (0, u "java/util/Locale$IsoCountryCode$2"), (0, .class_ 1107), (0, u "java/util/Locale$IsoCountryCode$1")] 46

/-- java/util/Locale -/
def k14 : Class := { plain "java/util/Locale" (some 0) with
  accessFlags := 49
  interfaces := #[13, 2]
  cf := some (fileOf pool14 7 #[.nestMembers #[1098, 779, 1100, 86, 490, 73, 67, 276, 1102, 1104, 1106]] #[] 49 24 #[897, 899] #[{ accessFlags := 25, nameIndex := 821, descriptorIndex := 79, attributes := #[] }, { accessFlags := 25, nameIndex := 824, descriptorIndex := 79, attributes := #[] }, { accessFlags := 25, nameIndex := 827, descriptorIndex := 79, attributes := #[] }, { accessFlags := 25, nameIndex := 830, descriptorIndex := 79, attributes := #[] }, { accessFlags := 25, nameIndex := 833, descriptorIndex := 79, attributes := #[] }, { accessFlags := 25, nameIndex := 836, descriptorIndex := 79, attributes := #[] }, { accessFlags := 25, nameIndex := 839, descriptorIndex := 79, attributes := #[] }, { accessFlags := 25, nameIndex := 842, descriptorIndex := 79, attributes := #[] }, { accessFlags := 25, nameIndex := 845, descriptorIndex := 79, attributes := #[] }, { accessFlags := 25, nameIndex := 848, descriptorIndex := 79, attributes := #[] }, { accessFlags := 25, nameIndex := 851, descriptorIndex := 79, attributes := #[] }, { accessFlags := 25, nameIndex := 854, descriptorIndex := 79, attributes := #[] }, { accessFlags := 25, nameIndex := 857, descriptorIndex := 79, attributes := #[] }, { accessFlags := 25, nameIndex := 860, descriptorIndex := 79, attributes := #[] }, { accessFlags := 25, nameIndex := 863, descriptorIndex := 79, attributes := #[] }, { accessFlags := 25, nameIndex := 866, descriptorIndex := 79, attributes := #[] }, { accessFlags := 25, nameIndex := 869, descriptorIndex := 79, attributes := #[] }, { accessFlags := 25, nameIndex := 872, descriptorIndex := 79, attributes := #[] }, { accessFlags := 25, nameIndex := 649, descriptorIndex := 79, attributes := #[] }, { accessFlags := 26, nameIndex := 15, descriptorIndex := 16, attributes := #[] }, { accessFlags := 25, nameIndex := 875, descriptorIndex := 79, attributes := #[] }, { accessFlags := 25, nameIndex := 878, descriptorIndex := 79, attributes := #[] }, { accessFlags := 25, nameIndex := 881, descriptorIndex := 79, attributes := #[] }, { accessFlags := 25, nameIndex := 903, descriptorIndex := 904, attributes := #[] }, { accessFlags := 25, nameIndex := 907, descriptorIndex := 904, attributes := #[] }, { accessFlags := 24, nameIndex := 909, descriptorIndex := 910, attributes := #[] }, { accessFlags := 26, nameIndex := 913, descriptorIndex := 619, attributes := #[] }, { accessFlags := 26, nameIndex := 915, descriptorIndex := 619, attributes := #[] }, { accessFlags := 26, nameIndex := 917, descriptorIndex := 619, attributes := #[] }, { accessFlags := 26, nameIndex := 919, descriptorIndex := 619, attributes := #[] }, { accessFlags := 26, nameIndex := 921, descriptorIndex := 619, attributes := #[] }, { accessFlags := 26, nameIndex := 923, descriptorIndex := 619, attributes := #[] }, { accessFlags := 130, nameIndex := 30, descriptorIndex := 31, attributes := #[] }, { accessFlags := 130, nameIndex := 34, descriptorIndex := 35, attributes := #[] }, { accessFlags := 130, nameIndex := 618, descriptorIndex := 619, attributes := #[] }, { accessFlags := 74, nameIndex := 78, descriptorIndex := 79, attributes := #[] }, { accessFlags := 74, nameIndex := 93, descriptorIndex := 79, attributes := #[] }, { accessFlags := 74, nameIndex := 114, descriptorIndex := 79, attributes := #[] }, { accessFlags := 194, nameIndex := 375, descriptorIndex := 127, attributes := #[] }, { accessFlags := 26, nameIndex := 895, descriptorIndex := 896, attributes := #[] }, { accessFlags := 74, nameIndex := 283, descriptorIndex := 260, attributes := #[] }, { accessFlags := 74, nameIndex := 259, descriptorIndex := 260, attributes := #[] }, { accessFlags := 4120, nameIndex := 100, descriptorIndex := 101, attributes := #[] }])
  fields := #[{ name := "ENGLISH", type := (.object "java/util/Locale"), accessFlags := 25, slot := 0, constantValue := 0 }, { name := "FRENCH", type := (.object "java/util/Locale"), accessFlags := 25, slot := 1, constantValue := 0 }, { name := "GERMAN", type := (.object "java/util/Locale"), accessFlags := 25, slot := 2, constantValue := 0 }, { name := "ITALIAN", type := (.object "java/util/Locale"), accessFlags := 25, slot := 3, constantValue := 0 }, { name := "JAPANESE", type := (.object "java/util/Locale"), accessFlags := 25, slot := 4, constantValue := 0 }, { name := "KOREAN", type := (.object "java/util/Locale"), accessFlags := 25, slot := 5, constantValue := 0 }, { name := "CHINESE", type := (.object "java/util/Locale"), accessFlags := 25, slot := 6, constantValue := 0 }, { name := "SIMPLIFIED_CHINESE", type := (.object "java/util/Locale"), accessFlags := 25, slot := 7, constantValue := 0 }, { name := "TRADITIONAL_CHINESE", type := (.object "java/util/Locale"), accessFlags := 25, slot := 8, constantValue := 0 }, { name := "FRANCE", type := (.object "java/util/Locale"), accessFlags := 25, slot := 9, constantValue := 0 }, { name := "GERMANY", type := (.object "java/util/Locale"), accessFlags := 25, slot := 10, constantValue := 0 }, { name := "ITALY", type := (.object "java/util/Locale"), accessFlags := 25, slot := 11, constantValue := 0 }, { name := "JAPAN", type := (.object "java/util/Locale"), accessFlags := 25, slot := 12, constantValue := 0 }, { name := "KOREA", type := (.object "java/util/Locale"), accessFlags := 25, slot := 13, constantValue := 0 }, { name := "UK", type := (.object "java/util/Locale"), accessFlags := 25, slot := 14, constantValue := 0 }, { name := "US", type := (.object "java/util/Locale"), accessFlags := 25, slot := 15, constantValue := 0 }, { name := "CANADA", type := (.object "java/util/Locale"), accessFlags := 25, slot := 16, constantValue := 0 }, { name := "CANADA_FRENCH", type := (.object "java/util/Locale"), accessFlags := 25, slot := 17, constantValue := 0 }, { name := "ROOT", type := (.object "java/util/Locale"), accessFlags := 25, slot := 18, constantValue := 0 }, { name := "CONSTANT_LOCALES", type := (.object "java/util/Map"), accessFlags := 26, slot := 19, constantValue := 0 }, { name := "CHINA", type := (.object "java/util/Locale"), accessFlags := 25, slot := 20, constantValue := 0 }, { name := "PRC", type := (.object "java/util/Locale"), accessFlags := 25, slot := 21, constantValue := 0 }, { name := "TAIWAN", type := (.object "java/util/Locale"), accessFlags := 25, slot := 22, constantValue := 0 }, { name := "PRIVATE_USE_EXTENSION", type := .char, accessFlags := 25, slot := 23, constantValue := 0 }, { name := "UNICODE_LOCALE_EXTENSION", type := .char, accessFlags := 25, slot := 24, constantValue := 0 }, { name := "serialVersionUID", type := .long, accessFlags := 24, slot := 25, constantValue := 0 }, { name := "DISPLAY_LANGUAGE", type := .int, accessFlags := 26, slot := 26, constantValue := 0 }, { name := "DISPLAY_COUNTRY", type := .int, accessFlags := 26, slot := 27, constantValue := 0 }, { name := "DISPLAY_VARIANT", type := .int, accessFlags := 26, slot := 28, constantValue := 0 }, { name := "DISPLAY_SCRIPT", type := .int, accessFlags := 26, slot := 29, constantValue := 0 }, { name := "DISPLAY_UEXT_KEY", type := .int, accessFlags := 26, slot := 30, constantValue := 0 }, { name := "DISPLAY_UEXT_TYPE", type := .int, accessFlags := 26, slot := 31, constantValue := 0 }, { name := "baseLocale", type := (.object "sun/util/locale/BaseLocale"), accessFlags := 130, slot := 0, constantValue := 0 }, { name := "localeExtensions", type := (.object "sun/util/locale/LocaleExtensions"), accessFlags := 130, slot := 1, constantValue := 0 }, { name := "hashCodeValue", type := .int, accessFlags := 130, slot := 2, constantValue := 0 }, { name := "defaultLocale", type := (.object "java/util/Locale"), accessFlags := 74, slot := 32, constantValue := 0 }, { name := "defaultDisplayLocale", type := (.object "java/util/Locale"), accessFlags := 74, slot := 33, constantValue := 0 }, { name := "defaultFormatLocale", type := (.object "java/util/Locale"), accessFlags := 74, slot := 34, constantValue := 0 }, { name := "languageTag", type := (.object "java/lang/String"), accessFlags := 194, slot := 3, constantValue := 0 }, { name := "serialPersistentFields", type := (.array (.object "java/io/ObjectStreamField")), accessFlags := 26, slot := 35, constantValue := 0 }, { name := "isoLanguages", type := (.array (.object "java/lang/String")), accessFlags := 74, slot := 36, constantValue := 0 }, { name := "isoCountries", type := (.array (.object "java/lang/String")), accessFlags := 74, slot := 37, constantValue := 0 }, { name := "$assertionsDisabled", type := .boolean, accessFlags := 4120, slot := 38, constantValue := 0 }]
  methods := #[]
  instanceTypes := #[(.object "sun/util/locale/BaseLocale"), (.object "sun/util/locale/LocaleExtensions"), .int, (.object "java/lang/String")]
  staticTypes := #[(.object "java/util/Locale"), (.object "java/util/Locale"), (.object "java/util/Locale"), (.object "java/util/Locale"), (.object "java/util/Locale"), (.object "java/util/Locale"), (.object "java/util/Locale"), (.object "java/util/Locale"), (.object "java/util/Locale"), (.object "java/util/Locale"), (.object "java/util/Locale"), (.object "java/util/Locale"), (.object "java/util/Locale"), (.object "java/util/Locale"), (.object "java/util/Locale"), (.object "java/util/Locale"), (.object "java/util/Locale"), (.object "java/util/Locale"), (.object "java/util/Locale"), (.object "java/util/Map"), (.object "java/util/Locale"), (.object "java/util/Locale"), (.object "java/util/Locale"), .char, .char, .long, .int, .int, .int, .int, .int, .int, (.object "java/util/Locale"), (.object "java/util/Locale"), (.object "java/util/Locale"), (.array (.object "java/io/ObjectStreamField")), (.array (.object "java/lang/String")), (.array (.object "java/lang/String")), .boolean]
  resolved := Array.replicate 1154 none
  statics := some 2 }

def pool15 : Array CpInfo := pool [(4, .class_ 6), (1, u "java/lang/Object"), (0, u "<init>"), (0, u "()V"), (5, .class_ 16), (1, u "java/lang/StringLatin1"), (63, u "toLowerCase"), (40, u "$assertionsDisabled"), (0, u "Z"), (98, .class_ 223), (1, u "java/lang/StringLatin1$LinesSpliterator"), (126, u "(Ljava/lang/String;[BLjava/util/Locale;)Ljava/lang/String;"), (39, .class_ 391), (0, u "java/lang/StringLatin1$CharsSpliterator")] 3

def k15m0 : Method := { name := "<init>", desc := "()V", sig := { parameters := [], returnType := none }, accessFlags := 0, code := none }
def k15c1 : Code := { maxStack := 5, maxLocals := 9, code := jdk_43_method_32_code, exceptionTable := #[], attributes := #[] }
def k15m1 : Method := { name := "toLowerCase", desc := "(Ljava/lang/String;[BLjava/util/Locale;)Ljava/lang/String;", sig := { parameters := [(.object "java/lang/String"), (.array .byte), (.object "java/util/Locale")], returnType := some (.object "java/lang/String") }, accessFlags := 9, code := some k15c1 }
/-- java/lang/StringLatin1 -/
def k15 : Class := { plain "java/lang/StringLatin1" (some 0) with
  accessFlags := 48
  interfaces := #[]
  cf := some (fileOf pool15 14 #[.nestMembers #[390, 221]] #[{ accessFlags := 0, nameIndex := 7, descriptorIndex := 8, attributes := #[] }, { accessFlags := 9, nameIndex := 80, descriptorIndex := 350, attributes := #[] }] 48 4 #[] #[{ accessFlags := 4120, nameIndex := 121, descriptorIndex := 122, attributes := #[] }])
  fields := #[{ name := "$assertionsDisabled", type := .boolean, accessFlags := 4120, slot := 0, constantValue := 0 }]
  methods := #[k15m0, k15m1]
  instanceTypes := #[]
  staticTypes := #[.boolean]
  resolved := Array.replicate 395 none
  statics := none }

def pool16 : Array CpInfo := pool [(1, .methodref 2 3), (0, .class_ 4), (0, .nameAndType 5 6), (0, u "java/lang/Record"), (0, u "<init>"), (0, u "()V"), (7, .fieldref 15 16), (0, .class_ 17), (0, .nameAndType 18 19), (0, u "com/example/chiron/chiron/query/GraphQuery$Slot"), (0, u "variable"), (0, u "Ljava/lang/String;"), (0, .fieldref 15 21), (0, .nameAndType 22 23), (0, u "constant"), (0, u "Lcom/example/chiron/chiron/graph/Term;"), (0, .methodref 15 25), (0, .nameAndType 5 26), (0, u "(Ljava/lang/String;Lcom/example/chiron/chiron/graph/Term;)V"), (20, u "ofVariable"), (0, u "(Ljava/lang/String;)Lcom/example/chiron/chiron/query/GraphQuery$Slot;"), (0, u "ofConstant"), (0, u "(Lcom/example/chiron/chiron/graph/Term;)Lcom/example/chiron/chiron/query/GraphQuery$Slot;"), (9, .class_ 61), (0, u "com/example/chiron/chiron/query/GraphQuery")] 20

def k16c0 : Code := { maxStack := 3, maxLocals := 3, code := prog_28_method_1_code, exceptionTable := #[], attributes := #[] }
def k16m0 : Method := { name := "<init>", desc := "(Ljava/lang/String;Lcom/example/chiron/chiron/graph/Term;)V", sig := { parameters := [(.object "java/lang/String"), (.object "com/example/chiron/chiron/graph/Term")], returnType := none }, accessFlags := 1, code := some k16c0 }
def k16c1 : Code := { maxStack := 4, maxLocals := 1, code := prog_28_method_2_code, exceptionTable := #[], attributes := #[] }
def k16m1 : Method := { name := "ofVariable", desc := "(Ljava/lang/String;)Lcom/example/chiron/chiron/query/GraphQuery$Slot;", sig := { parameters := [(.object "java/lang/String")], returnType := some (.object "com/example/chiron/chiron/query/GraphQuery$Slot") }, accessFlags := 9, code := some k16c1 }
def k16c2 : Code := { maxStack := 4, maxLocals := 1, code := prog_28_method_3_code, exceptionTable := #[], attributes := #[] }
def k16m2 : Method := { name := "ofConstant", desc := "(Lcom/example/chiron/chiron/graph/Term;)Lcom/example/chiron/chiron/query/GraphQuery$Slot;", sig := { parameters := [(.object "com/example/chiron/chiron/graph/Term")], returnType := some (.object "com/example/chiron/chiron/query/GraphQuery$Slot") }, accessFlags := 9, code := some k16c2 }
/-- com/example/chiron/chiron/query/GraphQuery$Slot -/
def k16 : Class := { plain "com/example/chiron/chiron/query/GraphQuery$Slot" (some 9) with
  accessFlags := 49
  interfaces := #[]
  cf := some (fileOf pool16 15 #[.nestHost 60] #[{ accessFlags := 1, nameIndex := 5, descriptorIndex := 26, attributes := #[] }, { accessFlags := 9, nameIndex := 47, descriptorIndex := 48, attributes := #[] }, { accessFlags := 9, nameIndex := 49, descriptorIndex := 50, attributes := #[] }] 49 2 #[] #[{ accessFlags := 18, nameIndex := 18, descriptorIndex := 19, attributes := #[] }, { accessFlags := 18, nameIndex := 22, descriptorIndex := 23, attributes := #[] }])
  fields := #[{ name := "variable", type := (.object "java/lang/String"), accessFlags := 18, slot := 0, constantValue := 0 }, { name := "constant", type := (.object "com/example/chiron/chiron/graph/Term"), accessFlags := 18, slot := 1, constantValue := 0 }]
  methods := #[k16m0, k16m1, k16m2]
  instanceTypes := #[(.object "java/lang/String"), (.object "com/example/chiron/chiron/graph/Term")]
  staticTypes := #[]
  resolved := Array.replicate 82 none
  statics := none }

def pool17 : Array CpInfo := pool [(1, .class_ 2), (0, u "com/example/chiron/chiron/query/GraphQuery$Pattern"), (0, .class_ 4), (0, u "java/lang/Object"), (7, .class_ 13), (0, u "com/example/chiron/chiron/query/GraphQuery")] 12

/-- com/example/chiron/chiron/query/GraphQuery$Pattern -/
def k17 : Class := { plain "com/example/chiron/chiron/query/GraphQuery$Pattern" (some 0) with
  accessFlags := 1537
  interfaces := #[]
  cf := some (fileOf pool17 1 #[.nestHost 12] #[] 1537 3 #[] #[])
  fields := #[]
  methods := #[]
  instanceTypes := #[]
  staticTypes := #[]
  resolved := Array.replicate 26 none
  statics := none }

def pool18 : Array CpInfo := pool [(1, .methodref 2 3), (0, .class_ 4), (0, .nameAndType 5 6), (0, u "java/lang/Record"), (0, u "<init>"), (0, u "()V"), (0, .fieldref 8 9), (0, .class_ 10), (0, .nameAndType 11 12), (0, u "com/example/chiron/chiron/query/GraphQuery$IsAPattern"), (0, u "entity"), (0, u "Lcom/example/chiron/chiron/query/GraphQuery$Slot;"), (0, .fieldref 8 14), (0, .nameAndType 15 12), (0, u "type"), (0, .interfaceMethodref 17 18), (0, .class_ 19), (0, .nameAndType 20 21), (0, u "java/util/List"), (0, u "of"), (0, u "(Ljava/lang/Object;Ljava/lang/Object;)Ljava/util/List;"), (12, .class_ 35), (0, u "com/example/chiron/chiron/query/GraphQuery$Pattern"), (0, u "(Lcom/example/chiron/chiron/query/GraphQuery$Slot;Lcom/example/chiron/chiron/query/GraphQuery$Slot;)V"), (3, u "slots"), (0, u "()Ljava/util/List;"), (9, .class_ 52), (0, u "com/example/chiron/chiron/query/GraphQuery")] 24

def k18c0 : Code := { maxStack := 2, maxLocals := 3, code := prog_26_method_1_code, exceptionTable := #[], attributes := #[] }
def k18m0 : Method := { name := "<init>", desc := "(Lcom/example/chiron/chiron/query/GraphQuery$Slot;Lcom/example/chiron/chiron/query/GraphQuery$Slot;)V", sig := { parameters := [(.object "com/example/chiron/chiron/query/GraphQuery$Slot"), (.object "com/example/chiron/chiron/query/GraphQuery$Slot")], returnType := none }, accessFlags := 1, code := some k18c0 }
def k18c1 : Code := { maxStack := 2, maxLocals := 1, code := prog_26_method_2_code, exceptionTable := #[], attributes := #[] }
def k18m1 : Method := { name := "slots", desc := "()Ljava/util/List;", sig := { parameters := [], returnType := some (.object "java/util/List") }, accessFlags := 1, code := some k18c1 }
/-- com/example/chiron/chiron/query/GraphQuery$IsAPattern -/
def k18 : Class := { plain "com/example/chiron/chiron/query/GraphQuery$IsAPattern" (some 9) with
  accessFlags := 49
  interfaces := #[17]
  cf := some (fileOf pool18 8 #[.nestHost 51] #[{ accessFlags := 1, nameIndex := 5, descriptorIndex := 36, attributes := #[] }, { accessFlags := 1, nameIndex := 40, descriptorIndex := 41, attributes := #[] }] 49 2 #[34] #[{ accessFlags := 18, nameIndex := 11, descriptorIndex := 12, attributes := #[] }, { accessFlags := 18, nameIndex := 15, descriptorIndex := 12, attributes := #[] }])
  fields := #[{ name := "entity", type := (.object "com/example/chiron/chiron/query/GraphQuery$Slot"), accessFlags := 18, slot := 0, constantValue := 0 }, { name := "type", type := (.object "com/example/chiron/chiron/query/GraphQuery$Slot"), accessFlags := 18, slot := 1, constantValue := 0 }]
  methods := #[k18m0, k18m1]
  instanceTypes := #[(.object "com/example/chiron/chiron/query/GraphQuery$Slot"), (.object "com/example/chiron/chiron/query/GraphQuery$Slot")]
  staticTypes := #[]
  resolved := Array.replicate 77 none
  statics := none }

def pool19 : Array CpInfo := pool [(8, .class_ 10), (1, u "java/lang/Iterable"), (24, .class_ 36), (0, u "java/lang/Object")] 25

/-- java/lang/Iterable -/
def k19 : Class := { plain "java/lang/Iterable" (some 0) with
  accessFlags := 1537
  interfaces := #[]
  cf := some (fileOf pool19 8 #[] #[] 1537 35 #[] #[])
  fields := #[]
  methods := #[]
  instanceTypes := #[]
  staticTypes := #[]
  resolved := Array.replicate 62 none
  statics := none }

def pool20 : Array CpInfo := pool [(10, .class_ 12), (1, u "java/util/Collection"), (47, .class_ 61), (0, u "java/lang/Object"), (0, .class_ 63), (0, u "java/lang/Iterable")] 51

/-- java/util/Collection -/
def k20 : Class := { plain "java/util/Collection" (some 0) with
  accessFlags := 1537
  interfaces := #[19]
  cf := some (fileOf pool20 10 #[] #[] 1537 60 #[62] #[])
  fields := #[]
  methods := #[]
  instanceTypes := #[]
  staticTypes := #[]
  resolved := Array.replicate 115 none
  statics := none }

def pool21 : Array CpInfo := pool [(8, .class_ 10), (1, u "java/util/SequencedCollection"), (15, .class_ 27), (0, u "java/lang/Object"), (0, .class_ 29), (0, u "java/util/Collection")] 27

/-- java/util/SequencedCollection -/
def k21 : Class := { plain "java/util/SequencedCollection" (some 0) with
  accessFlags := 1537
  interfaces := #[20]
  cf := some (fileOf pool21 8 #[] #[] 1537 26 #[28] #[])
  fields := #[]
  methods := #[]
  instanceTypes := #[]
  staticTypes := #[]
  resolved := Array.replicate 57 none
  statics := none }

def pool22 : Array CpInfo := pool [(8, .class_ 10), (1, u "java/util/List"), (37, u "<init>"), (26, u "get"), (0, u "(I)Ljava/lang/Object;"), (2, u "size"), (0, u "()I"), (7, u "of"), (7, .class_ 97), (0, u "java/util/ImmutableCollections$List12"), (2, .methodref 96 101), (0, .nameAndType 48 102), (0, u "(Ljava/lang/Object;Ljava/lang/Object;)V"), (0, .class_ 104), (0, u "java/lang/Object"), (15, .class_ 121), (0, u "java/util/SequencedCollection"), (79, u "(Ljava/lang/Object;Ljava/lang/Object;)Ljava/util/List;")] 49

def k22m0 : Method := { name := "size", desc := "()I", sig := { parameters := [], returnType := some .int }, accessFlags := 1025, code := none }
def k22m1 : Method := { name := "get", desc := "(I)Ljava/lang/Object;", sig := { parameters := [.int], returnType := some (.object "java/lang/Object") }, accessFlags := 1025, code := none }
def k22c2 : Code := { maxStack := 4, maxLocals := 2, code := jdk_40_method_38_code, exceptionTable := #[], attributes := #[] }
def k22m2 : Method := { name := "of", desc := "(Ljava/lang/Object;Ljava/lang/Object;)Ljava/util/List;", sig := { parameters := [(.object "java/lang/Object"), (.object "java/lang/Object")], returnType := some (.object "java/util/List") }, accessFlags := 9, code := some k22c2 }
/-- java/util/List -/
def k22 : Class := { plain "java/util/List" (some 0) with
  accessFlags := 1537
  interfaces := #[21]
  cf := some (fileOf pool22 8 #[] #[{ accessFlags := 1025, nameIndex := 79, descriptorIndex := 80, attributes := #[] }, { accessFlags := 1025, nameIndex := 75, descriptorIndex := 76, attributes := #[] }, { accessFlags := 9, nameIndex := 88, descriptorIndex := 201, attributes := #[] }] 1537 103 #[120] #[])
  fields := #[]
  methods := #[k22m0, k22m1, k22m2]
  instanceTypes := #[]
  staticTypes := #[]
  resolved := Array.replicate 251 none
  statics := none }

def pool23 : Array CpInfo := pool [(1, .methodref 2 3), (0, .class_ 4), (0, .nameAndType 5 6), (0, u "java/lang/Object"), (0, u "<init>"), (0, u "()V"), (1, .class_ 10), (1, u "java/util/AbstractCollection"), (66, .class_ 78), (0, u "java/util/Collection")] 81

def k23c0 : Code := { maxStack := 1, maxLocals := 1, code := jdk_22_method_1_code, exceptionTable := #[], attributes := #[] }
def k23m0 : Method := { name := "<init>", desc := "()V", sig := { parameters := [], returnType := none }, accessFlags := 4, code := some k23c0 }
/-- java/util/AbstractCollection -/
def k23 : Class := { plain "java/util/AbstractCollection" (some 0) with
  accessFlags := 1057
  interfaces := #[20]
  cf := some (fileOf pool23 8 #[] #[{ accessFlags := 4, nameIndex := 5, descriptorIndex := 6, attributes := #[] }] 1057 2 #[77] #[])
  fields := #[]
  methods := #[k23m0]
  instanceTypes := #[]
  staticTypes := #[]
  resolved := Array.replicate 160 none
  statics := none }

def pool24 : Array CpInfo := pool [(1, .methodref 2 3), (0, .class_ 4), (0, .nameAndType 5 6), (0, u "java/util/AbstractCollection"), (0, u "<init>"), (0, u "()V"), (1, .class_ 10), (1, u "java/util/ImmutableCollections"), (2, .class_ 14), (0, u "java/util/ImmutableCollections$AbstractImmutableCollection")] 41

def k24c0 : Code := { maxStack := 1, maxLocals := 1, code := jdk_47_method_1_code, exceptionTable := #[], attributes := #[] }
def k24m0 : Method := { name := "<init>", desc := "()V", sig := { parameters := [], returnType := none }, accessFlags := 0, code := some k24c0 }
/-- java/util/ImmutableCollections$AbstractImmutableCollection -/
def k24 : Class := { plain "java/util/ImmutableCollections$AbstractImmutableCollection" (some 23) with
  accessFlags := 1056
  interfaces := #[]
  cf := some (fileOf pool24 13 #[.nestHost 8] #[{ accessFlags := 0, nameIndex := 5, descriptorIndex := 6, attributes := #[] }] 1056 2 #[] #[])
  fields := #[]
  methods := #[k24m0]
  instanceTypes := #[]
  staticTypes := #[]
  resolved := Array.replicate 56 none
  statics := none }

def pool25 : Array CpInfo := pool [(1, .class_ 2), (0, u "java/util/RandomAccess"), (0, .class_ 4), (0, u "java/lang/Object")] 2

/-- java/util/RandomAccess -/
def k25 : Class := { plain "java/util/RandomAccess" (some 0) with
  accessFlags := 1537
  interfaces := #[]
  cf := some (fileOf pool25 1 #[] #[] 1537 3 #[] #[])
  fields := #[]
  methods := #[]
  instanceTypes := #[]
  staticTypes := #[]
  resolved := Array.replicate 7 none
  statics := none }

def pool26 : Array CpInfo := pool [(1, .methodref 2 3), (0, .class_ 4), (0, .nameAndType 5 6), (0, u "java/util/ImmutableCollections$AbstractImmutableCollection"), (0, u "<init>"), (0, u "()V"), (1, .class_ 10), (1, u "java/util/ImmutableCollections"), (3, .class_ 16), (1, u "java/util/ImmutableCollections$AbstractImmutableList"), (60, .class_ 78), (0, u "java/util/List"), (45, .class_ 125), (0, u "java/util/RandomAccess")] 70

def k26c0 : Code := { maxStack := 1, maxLocals := 1, code := jdk_46_method_1_code, exceptionTable := #[], attributes := #[] }
def k26m0 : Method := { name := "<init>", desc := "()V", sig := { parameters := [], returnType := none }, accessFlags := 0, code := some k26c0 }
/-- java/util/ImmutableCollections$AbstractImmutableList -/
def k26 : Class := { plain "java/util/ImmutableCollections$AbstractImmutableList" (some 24) with
  accessFlags := 1056
  interfaces := #[22, 25]
  cf := some (fileOf pool26 14 #[.nestHost 8] #[{ accessFlags := 0, nameIndex := 5, descriptorIndex := 6, attributes := #[] }] 1056 2 #[77, 124] #[])
  fields := #[]
  methods := #[k26m0]
  instanceTypes := #[]
  staticTypes := #[]
  resolved := Array.replicate 196 none
  statics := none }

def pool27 : Array CpInfo := pool [(1, .methodref 2 3), (0, .class_ 4), (0, .nameAndType 5 6), (0, u "java/util/ImmutableCollections$AbstractImmutableList"), (0, u "<init>"), (0, u "()V"), (0, .methodref 8 9), (0, .class_ 10), (0, .nameAndType 11 12), (0, u "java/util/Objects"), (0, u "requireNonNull"), (0, u "(Ljava/lang/Object;)Ljava/lang/Object;"), (0, .fieldref 14 15), (0, .class_ 16), (0, .nameAndType 17 18), (0, u "java/util/ImmutableCollections$List12"), (0, u "e0"), (0, u "Ljava/lang/Object;"), (0, .fieldref 20 21), (0, .class_ 22), (0, .nameAndType 23 18), (0, u "java/util/ImmutableCollections"), (0, u "EMPTY"), (0, .fieldref 14 25), (0, .nameAndType 26 18), (0, u "e1"), (24, u "size"), (0, u "()I"), (17, .class_ 71), (0, u "java/io/Serializable"), (13, u "(Ljava/lang/Object;Ljava/lang/Object;)V"), (4, u "get"), (0, u "(I)Ljava/lang/Object;")] 33

def k27c0 : Code := { maxStack := 2, maxLocals := 3, code := jdk_44_method_2_code, exceptionTable := #[], attributes := #[] }
def k27m0 : Method := { name := "<init>", desc := "(Ljava/lang/Object;Ljava/lang/Object;)V", sig := { parameters := [(.object "java/lang/Object"), (.object "java/lang/Object")], returnType := none }, accessFlags := 0, code := some k27c0 }
def k27c1 : Code := { maxStack := 2, maxLocals := 1, code := jdk_44_method_3_code, exceptionTable := #[], attributes := #[] }
def k27m1 : Method := { name := "size", desc := "()I", sig := { parameters := [], returnType := some .int }, accessFlags := 1, code := some k27c1 }
def k27c2 : Code := { maxStack := 2, maxLocals := 2, code := jdk_44_method_5_code, exceptionTable := #[], attributes := #[] }
def k27m2 : Method := { name := "get", desc := "(I)Ljava/lang/Object;", sig := { parameters := [.int], returnType := some (.object "java/lang/Object") }, accessFlags := 1, code := some k27c2 }
/-- java/util/ImmutableCollections$List12 -/
def k27 : Class := { plain "java/util/ImmutableCollections$List12" (some 26) with
  accessFlags := 48
  interfaces := #[2]
  cf := some (fileOf pool27 14 #[.nestHost 20] #[{ accessFlags := 0, nameIndex := 5, descriptorIndex := 85, attributes := #[] }, { accessFlags := 1, nameIndex := 51, descriptorIndex := 52, attributes := #[] }, { accessFlags := 1, nameIndex := 90, descriptorIndex := 91, attributes := #[] }] 48 2 #[70] #[{ accessFlags := 18, nameIndex := 17, descriptorIndex := 18, attributes := #[] }, { accessFlags := 18, nameIndex := 26, descriptorIndex := 18, attributes := #[] }])
  fields := #[{ name := "e0", type := (.object "java/lang/Object"), accessFlags := 18, slot := 0, constantValue := 0 }, { name := "e1", type := (.object "java/lang/Object"), accessFlags := 18, slot := 1, constantValue := 0 }]
  methods := #[k27m0, k27m1, k27m2]
  instanceTypes := #[(.object "java/lang/Object"), (.object "java/lang/Object")]
  staticTypes := #[]
  resolved := Array.replicate 125 none
  statics := none }

def pool28 : Array CpInfo := pool [(2, .class_ 4), (1, u "java/lang/Object"), (0, u "<init>"), (0, u "()V"), (35, .class_ 44), (1, u "java/util/Objects"), (0, u "requireNonNull"), (0, u "(Ljava/lang/Object;)Ljava/lang/Object;")] 137

def k28m0 : Method := { name := "<init>", desc := "()V", sig := { parameters := [], returnType := none }, accessFlags := 2, code := none }
def k28c1 : Code := { maxStack := 2, maxLocals := 1, code := jdk_31_method_10_code, exceptionTable := #[], attributes := #[] }
def k28m1 : Method := { name := "requireNonNull", desc := "(Ljava/lang/Object;)Ljava/lang/Object;", sig := { parameters := [(.object "java/lang/Object")], returnType := some (.object "java/lang/Object") }, accessFlags := 9, code := some k28c1 }
/-- java/util/Objects -/
def k28 : Class := { plain "java/util/Objects" (some 0) with
  accessFlags := 49
  interfaces := #[]
  cf := some (fileOf pool28 42 #[] #[{ accessFlags := 2, nameIndex := 5, descriptorIndex := 6, attributes := #[] }, { accessFlags := 9, nameIndex := 45, descriptorIndex := 46, attributes := #[] }] 49 2 #[] #[])
  fields := #[]
  methods := #[k28m0, k28m1]
  instanceTypes := #[]
  staticTypes := #[]
  resolved := Array.replicate 184 none
  statics := none }

def pool29 : Array CpInfo := pool [(2, .class_ 4), (1, u "java/lang/Object"), (0, u "<init>"), (0, u "()V"), (3, .class_ 11), (0, u "java/util/ImmutableCollections$List12"), (0, .class_ 13), (0, u "java/util/ImmutableCollections$ListN"), (3, u "Z"), (29, .class_ 49), (1, u "java/util/ImmutableCollections"), (0, u "$assertionsDisabled"), (5, u "[Ljava/lang/Object;"), (5, u "EMPTY_LIST"), (0, u "Ljava/util/ImmutableCollections$ListN;"), (8, u "EMPTY_LIST_NULLS"), (22, u "SALT32L"), (0, u "J"), (2, u "REVERSE"), (6, u "archivedObjects"), (2, u "EMPTY"), (0, u "Ljava/lang/Object;"), (0, .class_ 112), (0, u "java/util/ImmutableCollections$SetN"), (5, u "EMPTY_SET"), (0, u "Ljava/util/ImmutableCollections$SetN;"), (0, .class_ 121), (0, u "java/util/ImmutableCollections$MapN"), (3, u "EMPTY_MAP"), (0, u "Ljava/util/ImmutableCollections$MapN;"), (4, u "EXPAND_FACTOR"), (0, u "I"), (36, .class_ 170), (0, u "java/util/ImmutableCollections$MapN$MapNIterator"), (0, .class_ 172), (0, u "java/util/ImmutableCollections$MapN$1"), (0, .class_ 174), (0, u "java/util/ImmutableCollections$Map1"), (0, .class_ 176), (0, u "java/util/ImmutableCollections$AbstractImmutableMap"), (0, .class_ 178), (0, u "java/util/ImmutableCollections$SetN$SetNIterator"), (0, .class_ 180), (0, u "java/util/ImmutableCollections$Set12"), (0, .class_ 182), (0, u "java/util/ImmutableCollections$Set12$1"), (0, .class_ 184), (0, u "java/util/ImmutableCollections$AbstractImmutableSet"), (0, .class_ 186), (0, u "java/util/ImmutableCollections$SubList"), (0, .class_ 188), (0, u "java/util/ImmutableCollections$ListItr"), (0, .class_ 190), (0, u "java/util/ImmutableCollections$AbstractImmutableList"), (0, .class_ 192), (0, u "java/util/ImmutableCollections$AbstractImmutableCollection"), (0, .class_ 194), (0, u "java/util/ImmutableCollections$Access"), (0, .class_ 196), (0, u "java/util/ImmutableCollections$Access$1")] 16

def k29m0 : Method := { name := "<init>", desc := "()V", sig := { parameters := [], returnType := none }, accessFlags := 2, code := none }
/-- java/util/ImmutableCollections -/
def k29 : Class := { plain "java/util/ImmutableCollections" (some 0) with
  accessFlags := 32
  interfaces := #[]
  cf := some (fileOf pool29 47 #[.nestMembers #[120, 169, 171, 173, 175, 111, 177, 179, 181, 183, 12, 10, 185, 187, 189, 191, 193, 195]] #[{ accessFlags := 2, nameIndex := 5, descriptorIndex := 6, attributes := #[] }] 32 2 #[] #[{ accessFlags := 26, nameIndex := 95, descriptorIndex := 96, attributes := #[] }, { accessFlags := 26, nameIndex := 99, descriptorIndex := 17, attributes := #[] }, { accessFlags := 10, nameIndex := 106, descriptorIndex := 56, attributes := #[] }, { accessFlags := 26, nameIndex := 109, descriptorIndex := 110, attributes := #[] }, { accessFlags := 24, nameIndex := 62, descriptorIndex := 63, attributes := #[] }, { accessFlags := 24, nameIndex := 72, descriptorIndex := 63, attributes := #[] }, { accessFlags := 24, nameIndex := 118, descriptorIndex := 119, attributes := #[] }, { accessFlags := 24, nameIndex := 125, descriptorIndex := 126, attributes := #[] }, { accessFlags := 24, nameIndex := 131, descriptorIndex := 132, attributes := #[] }, { accessFlags := 4120, nameIndex := 50, descriptorIndex := 17, attributes := #[] }])
  fields := #[{ name := "SALT32L", type := .long, accessFlags := 26, slot := 0, constantValue := 0 }, { name := "REVERSE", type := .boolean, accessFlags := 26, slot := 1, constantValue := 0 }, { name := "archivedObjects", type := (.array (.object "java/lang/Object")), accessFlags := 10, slot := 2, constantValue := 0 }, { name := "EMPTY", type := (.object "java/lang/Object"), accessFlags := 26, slot := 3, constantValue := 0 }, { name := "EMPTY_LIST", type := (.object "java/util/ImmutableCollections$ListN"), accessFlags := 24, slot := 4, constantValue := 0 }, { name := "EMPTY_LIST_NULLS", type := (.object "java/util/ImmutableCollections$ListN"), accessFlags := 24, slot := 5, constantValue := 0 }, { name := "EMPTY_SET", type := (.object "java/util/ImmutableCollections$SetN"), accessFlags := 24, slot := 6, constantValue := 0 }, { name := "EMPTY_MAP", type := (.object "java/util/ImmutableCollections$MapN"), accessFlags := 24, slot := 7, constantValue := 0 }, { name := "EXPAND_FACTOR", type := .int, accessFlags := 24, slot := 8, constantValue := 0 }, { name := "$assertionsDisabled", type := .boolean, accessFlags := 4120, slot := 9, constantValue := 0 }]
  methods := #[k29m0]
  instanceTypes := #[]
  staticTypes := #[.long, .boolean, (.array (.object "java/lang/Object")), (.object "java/lang/Object"), (.object "java/util/ImmutableCollections$ListN"), (.object "java/util/ImmutableCollections$ListN"), (.object "java/util/ImmutableCollections$SetN"), (.object "java/util/ImmutableCollections$MapN"), .int, .boolean]
  resolved := Array.replicate 213 none
  statics := some 3 }

def pool30 : Array CpInfo := pool [(2, .class_ 4), (1, u "java/lang/Object"), (0, u "<init>"), (0, u "()V"), (17, .class_ 26), (1, u "jdk/internal/util/Preconditions"), (28, .class_ 56), (0, u "jdk/internal/util/Preconditions$4"), (57, .class_ 115), (0, u "jdk/internal/util/Preconditions$1"), (7, u "SIOOBE_FORMATTER"), (0, u "Ljava/util/function/BiFunction;"), (0, .class_ 126), (0, u "jdk/internal/util/Preconditions$2"), (3, u "AIOOBE_FORMATTER"), (0, .class_ 132), (0, u "jdk/internal/util/Preconditions$3"), (3, u "IOOBE_FORMATTER")] 57

def k30m0 : Method := { name := "<init>", desc := "()V", sig := { parameters := [], returnType := none }, accessFlags := 1, code := none }
/-- jdk/internal/util/Preconditions -/
def k30 : Class := { plain "jdk/internal/util/Preconditions" (some 0) with
  accessFlags := 33
  interfaces := #[]
  cf := some (fileOf pool30 24 #[.nestMembers #[55, 131, 125, 114]] #[{ accessFlags := 1, nameIndex := 5, descriptorIndex := 6, attributes := #[] }] 33 2 #[] #[{ accessFlags := 25, nameIndex := 123, descriptorIndex := 124, attributes := #[] }, { accessFlags := 25, nameIndex := 130, descriptorIndex := 124, attributes := #[] }, { accessFlags := 25, nameIndex := 136, descriptorIndex := 124, attributes := #[] }])
  fields := #[{ name := "SIOOBE_FORMATTER", type := (.object "java/util/function/BiFunction"), accessFlags := 25, slot := 0, constantValue := 0 }, { name := "AIOOBE_FORMATTER", type := (.object "java/util/function/BiFunction"), accessFlags := 25, slot := 1, constantValue := 0 }, { name := "IOOBE_FORMATTER", type := (.object "java/util/function/BiFunction"), accessFlags := 25, slot := 2, constantValue := 0 }]
  methods := #[k30m0]
  instanceTypes := #[]
  staticTypes := #[(.object "java/util/function/BiFunction"), (.object "java/util/function/BiFunction"), (.object "java/util/function/BiFunction")]
  resolved := Array.replicate 194 none
  statics := some 4 }

def pool31 : Array CpInfo := pool [(9, u "<init>"), (6, .class_ 18), (1, u "java/lang/Object"), (0, u "()V"), (1, .class_ 23), (1, u "jdk/internal/util/ArraysSupport"), (0, u "LOG2_ARRAY_LONG_INDEX_SCALE"), (0, u "I"), (2, u "U"), (0, u "Ljdk/internal/misc/Unsafe;"), (8, u "BIG_ENDIAN"), (0, u "Z"), (8, u "LOG2_BYTE_BIT_SIZE"), (4, u "LOG2_ARRAY_INT_INDEX_SCALE"), (54, u "JLA"), (0, u "Ljdk/internal/access/JavaLangAccess;"), (11, u "LOG2_ARRAY_BOOLEAN_INDEX_SCALE"), (9, u "LOG2_ARRAY_BYTE_INDEX_SCALE"), (5, u "LOG2_ARRAY_CHAR_INDEX_SCALE"), (5, u "LOG2_ARRAY_SHORT_INDEX_SCALE"), (18, u "LOG2_ARRAY_FLOAT_INDEX_SCALE"), (24, u "LOG2_ARRAY_DOUBLE_INDEX_SCALE"), (89, u "T_BOOLEAN"), (2, u "T_CHAR"), (1, u "T_FLOAT"), (1, u "T_DOUBLE"), (1, u "T_BYTE"), (1, u "T_SHORT"), (1, u "T_INT"), (1, u "T_LONG"), (1, u "SOFT_MAX_ARRAY_LENGTH")] 83

def k31m0 : Method := { name := "<init>", desc := "()V", sig := { parameters := [], returnType := none }, accessFlags := 2, code := none }
/-- jdk/internal/util/ArraysSupport -/
def k31 : Class := { plain "jdk/internal/util/ArraysSupport" (some 0) with
  accessFlags := 33
  interfaces := #[]
  cf := some (fileOf pool31 21 #[] #[{ accessFlags := 2, nameIndex := 9, descriptorIndex := 19, attributes := #[] }] 33 16 #[] #[{ accessFlags := 24, nameIndex := 28, descriptorIndex := 29, attributes := #[] }, { accessFlags := 26, nameIndex := 38, descriptorIndex := 39, attributes := #[] }, { accessFlags := 25, nameIndex := 121, descriptorIndex := 25, attributes := #[] }, { accessFlags := 25, nameIndex := 131, descriptorIndex := 25, attributes := #[] }, { accessFlags := 25, nameIndex := 137, descriptorIndex := 25, attributes := #[] }, { accessFlags := 25, nameIndex := 143, descriptorIndex := 25, attributes := #[] }, { accessFlags := 25, nameIndex := 53, descriptorIndex := 25, attributes := #[] }, { accessFlags := 25, nameIndex := 24, descriptorIndex := 25, attributes := #[] }, { accessFlags := 25, nameIndex := 162, descriptorIndex := 25, attributes := #[] }, { accessFlags := 25, nameIndex := 187, descriptorIndex := 25, attributes := #[] }, { accessFlags := 26, nameIndex := 48, descriptorIndex := 25, attributes := #[] }, { accessFlags := 25, nameIndex := 277, descriptorIndex := 25, attributes := #[] }, { accessFlags := 25, nameIndex := 280, descriptorIndex := 25, attributes := #[] }, { accessFlags := 25, nameIndex := 282, descriptorIndex := 25, attributes := #[] }, { accessFlags := 25, nameIndex := 284, descriptorIndex := 25, attributes := #[] }, { accessFlags := 25, nameIndex := 286, descriptorIndex := 25, attributes := #[] }, { accessFlags := 25, nameIndex := 288, descriptorIndex := 25, attributes := #[] }, { accessFlags := 25, nameIndex := 290, descriptorIndex := 25, attributes := #[] }, { accessFlags := 25, nameIndex := 292, descriptorIndex := 25, attributes := #[] }, { accessFlags := 26, nameIndex := 108, descriptorIndex := 109, attributes := #[] }, { accessFlags := 25, nameIndex := 294, descriptorIndex := 25, attributes := #[] }])
  fields := #[{ name := "U", type := (.object "jdk/internal/misc/Unsafe"), accessFlags := 24, slot := 0, constantValue := 0 }, { name := "BIG_ENDIAN", type := .boolean, accessFlags := 26, slot := 1, constantValue := 0 }, { name := "LOG2_ARRAY_BOOLEAN_INDEX_SCALE", type := .int, accessFlags := 25, slot := 2, constantValue := 0 }, { name := "LOG2_ARRAY_BYTE_INDEX_SCALE", type := .int, accessFlags := 25, slot := 3, constantValue := 0 }, { name := "LOG2_ARRAY_CHAR_INDEX_SCALE", type := .int, accessFlags := 25, slot := 4, constantValue := 0 }, { name := "LOG2_ARRAY_SHORT_INDEX_SCALE", type := .int, accessFlags := 25, slot := 5, constantValue := 0 }, { name := "LOG2_ARRAY_INT_INDEX_SCALE", type := .int, accessFlags := 25, slot := 6, constantValue := 0 }, { name := "LOG2_ARRAY_LONG_INDEX_SCALE", type := .int, accessFlags := 25, slot := 7, constantValue := 0 }, { name := "LOG2_ARRAY_FLOAT_INDEX_SCALE", type := .int, accessFlags := 25, slot := 8, constantValue := 0 }, { name := "LOG2_ARRAY_DOUBLE_INDEX_SCALE", type := .int, accessFlags := 25, slot := 9, constantValue := 0 }, { name := "LOG2_BYTE_BIT_SIZE", type := .int, accessFlags := 26, slot := 10, constantValue := 0 }, { name := "T_BOOLEAN", type := .int, accessFlags := 25, slot := 11, constantValue := 0 }, { name := "T_CHAR", type := .int, accessFlags := 25, slot := 12, constantValue := 0 }, { name := "T_FLOAT", type := .int, accessFlags := 25, slot := 13, constantValue := 0 }, { name := "T_DOUBLE", type := .int, accessFlags := 25, slot := 14, constantValue := 0 }, { name := "T_BYTE", type := .int, accessFlags := 25, slot := 15, constantValue := 0 }, { name := "T_SHORT", type := .int, accessFlags := 25, slot := 16, constantValue := 0 }, { name := "T_INT", type := .int, accessFlags := 25, slot := 17, constantValue := 0 }, { name := "T_LONG", type := .int, accessFlags := 25, slot := 18, constantValue := 0 }, { name := "JLA", type := (.object "jdk/internal/access/JavaLangAccess"), accessFlags := 26, slot := 19, constantValue := 0 }, { name := "SOFT_MAX_ARRAY_LENGTH", type := .int, accessFlags := 25, slot := 20, constantValue := 0 }]
  methods := #[k31m0]
  instanceTypes := #[]
  staticTypes := #[(.object "jdk/internal/misc/Unsafe"), .boolean, .int, .int, .int, .int, .int, .int, .int, .int, .int, .int, .int, .int, .int, .int, .int, .int, .int, (.object "jdk/internal/access/JavaLangAccess"), .int]
  resolved := Array.replicate 378 none
  statics := none }

def pool32 : Array CpInfo := pool [(2, .class_ 4), (1, u "java/lang/Object"), (15, .class_ 22), (1, u "sun/util/locale/BaseLocale"), (0, u "language"), (0, u "Ljava/lang/String;"), (5, u "script"), (5, u "region"), (2, u "variant"), (11, u "constantBaseLocales"), (0, u "[Lsun/util/locale/BaseLocale;"), (13, .class_ 67), (0, u "sun/util/locale/BaseLocale$Key"), (2, .class_ 72), (1, u "sun/util/locale/BaseLocale$Cache"), (24, u "OLD_ISO_CODES"), (0, u "Z"), (32, u "hash"), (0, u "I"), (41, u "US"), (15, u "ENGLISH"), (0, u "B"), (2, u "FRENCH"), (1, u "GERMAN"), (1, u "ITALIAN"), (1, u "JAPANESE"), (1, u "KOREAN"), (1, u "CHINESE"), (1, u "SIMPLIFIED_CHINESE"), (1, u "TRADITIONAL_CHINESE"), (1, u "FRANCE"), (1, u "GERMANY"), (1, u "ITALY"), (1, u "JAPAN"), (1, u "KOREA"), (1, u "UK"), (2, u "CANADA"), (1, u "CANADA_FRENCH"), (1, u "ROOT"), (1, u "NUM_CONSTANTS"), (1, u "SEP")] 31

/-- sun/util/locale/BaseLocale -/
def k32 : Class := { plain "sun/util/locale/BaseLocale" (some 0) with
  accessFlags := 49
  interfaces := #[]
  cf := some (fileOf pool32 20 #[.nestMembers #[70, 66]] #[] 49 2 #[] #[{ accessFlags := 9, nameIndex := 51, descriptorIndex := 52, attributes := #[] }, { accessFlags := 25, nameIndex := 190, descriptorIndex := 191, attributes := #[] }, { accessFlags := 25, nameIndex := 194, descriptorIndex := 191, attributes := #[] }, { accessFlags := 25, nameIndex := 196, descriptorIndex := 191, attributes := #[] }, { accessFlags := 25, nameIndex := 198, descriptorIndex := 191, attributes := #[] }, { accessFlags := 25, nameIndex := 200, descriptorIndex := 191, attributes := #[] }, { accessFlags := 25, nameIndex := 202, descriptorIndex := 191, attributes := #[] }, { accessFlags := 25, nameIndex := 204, descriptorIndex := 191, attributes := #[] }, { accessFlags := 25, nameIndex := 206, descriptorIndex := 191, attributes := #[] }, { accessFlags := 25, nameIndex := 208, descriptorIndex := 191, attributes := #[] }, { accessFlags := 25, nameIndex := 210, descriptorIndex := 191, attributes := #[] }, { accessFlags := 25, nameIndex := 212, descriptorIndex := 191, attributes := #[] }, { accessFlags := 25, nameIndex := 214, descriptorIndex := 191, attributes := #[] }, { accessFlags := 25, nameIndex := 216, descriptorIndex := 191, attributes := #[] }, { accessFlags := 25, nameIndex := 218, descriptorIndex := 191, attributes := #[] }, { accessFlags := 25, nameIndex := 220, descriptorIndex := 191, attributes := #[] }, { accessFlags := 25, nameIndex := 174, descriptorIndex := 191, attributes := #[] }, { accessFlags := 25, nameIndex := 223, descriptorIndex := 191, attributes := #[] }, { accessFlags := 25, nameIndex := 225, descriptorIndex := 191, attributes := #[] }, { accessFlags := 25, nameIndex := 227, descriptorIndex := 191, attributes := #[] }, { accessFlags := 25, nameIndex := 229, descriptorIndex := 191, attributes := #[] }, { accessFlags := 25, nameIndex := 231, descriptorIndex := 24, attributes := #[] }, { accessFlags := 18, nameIndex := 23, descriptorIndex := 24, attributes := #[] }, { accessFlags := 18, nameIndex := 30, descriptorIndex := 24, attributes := #[] }, { accessFlags := 18, nameIndex := 36, descriptorIndex := 24, attributes := #[] }, { accessFlags := 18, nameIndex := 39, descriptorIndex := 24, attributes := #[] }, { accessFlags := 2, nameIndex := 131, descriptorIndex := 132, attributes := #[] }, { accessFlags := 26, nameIndex := 97, descriptorIndex := 98, attributes := #[] }])
  fields := #[{ name := "constantBaseLocales", type := (.array (.object "sun/util/locale/BaseLocale")), accessFlags := 9, slot := 0, constantValue := 0 }, { name := "ENGLISH", type := .byte, accessFlags := 25, slot := 1, constantValue := 0 }, { name := "FRENCH", type := .byte, accessFlags := 25, slot := 2, constantValue := 0 }, { name := "GERMAN", type := .byte, accessFlags := 25, slot := 3, constantValue := 0 }, { name := "ITALIAN", type := .byte, accessFlags := 25, slot := 4, constantValue := 0 }, { name := "JAPANESE", type := .byte, accessFlags := 25, slot := 5, constantValue := 0 }, { name := "KOREAN", type := .byte, accessFlags := 25, slot := 6, constantValue := 0 }, { name := "CHINESE", type := .byte, accessFlags := 25, slot := 7, constantValue := 0 }, { name := "SIMPLIFIED_CHINESE", type := .byte, accessFlags := 25, slot := 8, constantValue := 0 }, { name := "TRADITIONAL_CHINESE", type := .byte, accessFlags := 25, slot := 9, constantValue := 0 }, { name := "FRANCE", type := .byte, accessFlags := 25, slot := 10, constantValue := 0 }, { name := "GERMANY", type := .byte, accessFlags := 25, slot := 11, constantValue := 0 }, { name := "ITALY", type := .byte, accessFlags := 25, slot := 12, constantValue := 0 }, { name := "JAPAN", type := .byte, accessFlags := 25, slot := 13, constantValue := 0 }, { name := "KOREA", type := .byte, accessFlags := 25, slot := 14, constantValue := 0 }, { name := "UK", type := .byte, accessFlags := 25, slot := 15, constantValue := 0 }, { name := "US", type := .byte, accessFlags := 25, slot := 16, constantValue := 0 }, { name := "CANADA", type := .byte, accessFlags := 25, slot := 17, constantValue := 0 }, { name := "CANADA_FRENCH", type := .byte, accessFlags := 25, slot := 18, constantValue := 0 }, { name := "ROOT", type := .byte, accessFlags := 25, slot := 19, constantValue := 0 }, { name := "NUM_CONSTANTS", type := .byte, accessFlags := 25, slot := 20, constantValue := 0 }, { name := "SEP", type := (.object "java/lang/String"), accessFlags := 25, slot := 21, constantValue := 0 }, { name := "language", type := (.object "java/lang/String"), accessFlags := 18, slot := 0, constantValue := 0 }, { name := "script", type := (.object "java/lang/String"), accessFlags := 18, slot := 1, constantValue := 0 }, { name := "region", type := (.object "java/lang/String"), accessFlags := 18, slot := 2, constantValue := 0 }, { name := "variant", type := (.object "java/lang/String"), accessFlags := 18, slot := 3, constantValue := 0 }, { name := "hash", type := .int, accessFlags := 2, slot := 4, constantValue := 0 }, { name := "OLD_ISO_CODES", type := .boolean, accessFlags := 26, slot := 22, constantValue := 0 }]
  methods := #[]
  instanceTypes := #[(.object "java/lang/String"), (.object "java/lang/String"), (.object "java/lang/String"), (.object "java/lang/String"), .int]
  staticTypes := #[(.array (.object "sun/util/locale/BaseLocale")), .byte, .byte, .byte, .byte, .byte, .byte, .byte, .byte, .byte, .byte, .byte, .byte, .byte, .byte, .byte, .byte, .byte, .byte, .byte, .byte, (.object "java/lang/String"), .boolean]
  resolved := Array.replicate 263 none
  statics := none }

def pool33 : Array CpInfo := pool [(2, .class_ 4), (1, u "java/util/ImmutableCollections$AbstractImmutableList"), (3, .class_ 10), (1, u "java/util/ImmutableCollections$ListN"), (0, u "elements"), (0, u "[Ljava/lang/Object;"), (2, u "allowNulls"), (0, u "Z"), (42, .class_ 60), (0, u "java/io/Serializable"), (53, .class_ 115), (0, u "java/util/ImmutableCollections")] 3

/-- java/util/ImmutableCollections$ListN -/
def k33 : Class := { plain "java/util/ImmutableCollections$ListN" (some 26) with
  accessFlags := 48
  interfaces := #[2]
  cf := some (fileOf pool33 8 #[.nestHost 114] #[] 48 2 #[59] #[{ accessFlags := 18, nameIndex := 11, descriptorIndex := 12, attributes := #[] }, { accessFlags := 18, nameIndex := 15, descriptorIndex := 16, attributes := #[] }])
  fields := #[{ name := "elements", type := (.array (.object "java/lang/Object")), accessFlags := 18, slot := 0, constantValue := 0 }, { name := "allowNulls", type := .boolean, accessFlags := 18, slot := 1, constantValue := 0 }]
  methods := #[]
  instanceTypes := #[(.array (.object "java/lang/Object")), .boolean]
  staticTypes := #[]
  resolved := Array.replicate 119 none
  statics := none }

/-- the primitive byte -/
def k34 : Class := { plain "byte" none with kind := .primitive 'B', accessFlags := 0x411 }
/-- [B -/
def k35 : Class := { plain "[B" (some 0) with kind := .array 34 .byte, interfaces := #[13, 2], accessFlags := 1041 }

/-- the primitive char -/
def k36 : Class := { plain "char" none with kind := .primitive 'C', accessFlags := 0x411 }
/-- [C -/
def k37 : Class := { plain "[C" (some 0) with kind := .array 36 .char, interfaces := #[13, 2], accessFlags := 1041 }

/-- the primitive int -/
def k38 : Class := { plain "int" none with kind := .primitive 'I', accessFlags := 0x411 }
/-- [I -/
def k39 : Class := { plain "[I" (some 0) with kind := .array 38 .int, interfaces := #[13, 2], accessFlags := 1041 }

def heap : Heap := #[{ cls := 7, slots := #[.long 0, .int 1, .null, .int 0, .null, .int 0, .int 0], vm := .statics 7 },
  { cls := 12, slots := #[.ref 5, .ref 6, .null, .null], vm := .statics 12 },
  { cls := 14, slots := #[.null, .null, .null, .null, .null, .null, .null, .null, .null, .null, .null, .null, .null, .null, .null, .null, .null, .null, .ref 10, .null, .null, .null, .null, .int 0, .int 0, .long 0, .int 0, .int 0, .int 0, .int 0, .int 0, .int 0, .null, .null, .null, .null, .null, .null, .int 0], vm := .statics 14 },
  { cls := 29, slots := #[.long 0, .int 0, .null, .ref 11, .ref 12, .null, .null, .null, .int 0, .int 1], vm := .statics 29 },
  { cls := 30, slots := #[.null, .null, .null], vm := .statics 30 },
  { cls := 12, slots := #[.null, .int 0, .int 0], vm := .none },
  { cls := 12, slots := #[.null, .int 1, .int 0], vm := .none },
  { cls := 35, slots := #[], vm := .none },
  { cls := 7, slots := #[.ref 7, .int 0, .int 0, .int 0], vm := .none },
  { cls := 32, slots := #[.ref 8, .null, .null, .null, .int 0], vm := .none },
  { cls := 14, slots := #[.ref 9, .null, .int 0, .null], vm := .none },
  { cls := 0, slots := #[], vm := .none },
  { cls := 33, slots := #[.null, .int 0], vm := .none }]
def classes : Array Class := #[k0, k1, k2, k3, k4, k5, k6, k7, k8, k9, k10, k11, k12, k13, k14, k15, k16, k17, k18, k19, k20, k21, k22, k23, k24, k25, k26, k27, k28, k29, k30, k31, k32, k33, k34, k35, k36, k37, k38, k39]
def interned : List (Array UInt16 × Addr) := []
def slotsUsed : Nat := 84
def theMethod : MethodId := ⟨1, 1⟩
def args0 : Array Value := #[.int 5, .int 5, .int 5]
def aboutOver (below : List Frame) : State where
  vm := { classes := classes, interned := interned.toArray }
  heap := heap
  slotsUsed := slotsUsed
  threads := #[{ frames := .invoking theMethod args0 :: below }]
def below0 : List Frame := [.native { method := ⟨0, 0⟩, args := #[] }]
def about1 : State := aboutOver below0
def p0 : Program := .bare "" "" ""
def e0 : Env := launch0.env 0 0 0
theorem w_frames : about1.frames = Frame.invoking theMethod args0 :: below0 := rfl
set_option maxRecDepth 65536 in
theorem w_args : argsFit about1.vm theMethod args0 = true := by decide +kernel
set_option maxRecDepth 65536 in
theorem w_heap : heapFits about1 = true := by decide +kernel
set_option maxRecDepth 65536 in
theorem w_runnable : about1.curStatus? = some .runnable := by decide +kernel
set_option maxRecDepth 65536 in
theorem w_alone : about1.alone = true := by decide +kernel
set_option maxRecDepth 65536 in
theorem w_named : about1.methodNamed? x = some theMethod := by decide +kernel
set_option maxRecDepth 65536 in
theorem w_hears : about1.hears theMethod below0 = true := by decide +kernel
set_option maxRecDepth 65536 in
theorem w_ripe : about1.ripe theMethod args0 below0 = true := by decide +kernel
theorem w_running : about1.status = .running := rfl
set_option maxRecDepth 65536 in
theorem w_room : about1.hasRoom e0.platform room_1 = true :=
  launch0.hasRoom_least _ room_1 (by decide +kernel) (by decide +kernel) (by decide +kernel) (by decide +kernel) (by decide +kernel) (by decide +kernel)
theorem allAtoms_all (ts : List Jvm.Cond) (a : Array Jvm.Value) (st : Jvm.State) : (allAtoms ts).before a st = ts.all (fun c => c.before a st) := by
  induction ts with
  | nil => rfl
  | cons c t ih =>
    show (Jvm.Cond.and c (allAtoms t)).before a st = _
    rw [Jvm.Cond.before_and, ih, List.all_cons]
def words1 : List Jvm.Cond := Jvm.Cond.code x code maxLocals ret :: tables_1
/-- a 'code' word, met by the world's own term for the bytes: nothing is compared byte by byte -/
theorem code_word {y : MethodName} {bytes : ByteArray} {mx : Nat} {rt : Option FieldType} {a : Array Value} {s : State} {m : MethodId} {meth : Method} {c : Code} (h1 : s.methodNamed? y = some m) (h2 : s.vm.method? m = some meth) (h3 : meth.code = some c) (h4 : c.code = bytes)
    (h5 : (c.maxLocals == mx && c.exceptionTable.isEmpty && decide (c.maxStack ≤ mostOperands) && decide (meth.sig.returnType = rt) && !meth.locks && decide (parseMethodDescriptor y.desc = some meth.sig)) = true) : (Jvm.Cond.code y bytes mx rt).before a s = true := by
  simp only [Bool.and_eq_true, beq_iff_eq, Bool.not_eq_true', decide_eq_true_eq] at h5
  obtain ⟨⟨⟨⟨⟨g1, g2⟩, g3⟩, g4⟩, g5⟩, g6⟩ := h5
  simp [Cond.before, Cond.holds, Cond.value, h1, h2, h3, h4, g1, g2, g3, g4, g5, g6]
def isCode : Jvm.Cond → Bool
  | .code _ _ _ _ => true
  | _ => false
theorem all_split {L : List Jvm.Cond} {P : Jvm.Cond → Bool} (h1 : L.all (fun c => isCode c || P c) = true) (h2 : ∀ c ∈ L.filter isCode, P c = true) : L.all P = true := by
  refine List.all_eq_true.mpr fun c hc => ?_
  have h := List.all_eq_true.mp h1 c hc
  rcases Bool.eq_false_or_eq_true (isCode c) with hi | hi
  · exact h2 c (List.mem_filter.mpr ⟨hc, hi⟩)
  · simpa [hi] using h
set_option maxRecDepth 65536 in
theorem w_c0 : (Jvm.Cond.code x code maxLocals ret).before args0 about1 = true := code_word (m := ⟨1, 1⟩) (meth := k1m1) (c := k1c1) (by decide +kernel) rfl rfl rfl (by decide +kernel)
set_option maxRecDepth 65536 in
theorem w_c1 : (Jvm.Cond.code ({ cls := "com/example/chiron/chiron/query/IsAPatternSlotsPinLaw", name := "slot", desc := "(II)Lcom/example/chiron/chiron/query/GraphQuery$Slot;" } : Jvm.MethodName) method_3_code (4 : Nat) (Option.some (Jvm.ClassFile.FieldType.object "com/example/chiron/chiron/query/GraphQuery$Slot"))).before args0 about1 = true := code_word (m := ⟨1, 2⟩) (meth := k1m2) (c := k1c2) (by decide +kernel) rfl rfl rfl (by decide +kernel)
set_option maxRecDepth 65536 in
theorem w_c2 : (Jvm.Cond.code ({ cls := "java/lang/String", name := "<init>", desc := "([C)V" } : Jvm.MethodName) jdk_42_method_3_code (2 : Nat) (Option.none : Option Jvm.ClassFile.FieldType)).before args0 about1 = true := code_word (m := ⟨7, 1⟩) (meth := k7m1) (c := k7c1) (by decide +kernel) rfl rfl rfl (by decide +kernel)
set_option maxRecDepth 65536 in
theorem w_c3 : (Jvm.Cond.code ({ cls := "java/lang/String", name := "<init>", desc := "([CIILjava/lang/Void;)V" } : Jvm.MethodName) jdk_42_method_149_code (6 : Nat) (Option.none : Option Jvm.ClassFile.FieldType)).before args0 about1 = true := code_word (m := ⟨7, 3⟩) (meth := k7m3) (c := k7c3) (by decide +kernel) rfl rfl rfl (by decide +kernel)
set_option maxRecDepth 65536 in
theorem w_c4 : (Jvm.Cond.code ({ cls := "java/lang/Object", name := "<init>", desc := "()V" } : Jvm.MethodName) object_method_1_code (1 : Nat) (Option.none : Option Jvm.ClassFile.FieldType)).before args0 about1 = true := code_word (m := ⟨0, 0⟩) (meth := k0m0) (c := k0c0) (by decide +kernel) rfl rfl rfl (by decide +kernel)
set_option maxRecDepth 65536 in
theorem w_c5 : (Jvm.Cond.code ({ cls := "java/lang/StringUTF16", name := "compress", desc := "([CII)[B" } : Jvm.MethodName) jdk_52_method_16_code (6 : Nat) (Option.some (Jvm.ClassFile.FieldType.array Jvm.ClassFile.FieldType.byte))).before args0 about1 = true := code_word (m := ⟨8, 2⟩) (meth := k8m2) (c := k8c2) (by decide +kernel) rfl rfl rfl (by decide +kernel)
set_option maxRecDepth 65536 in
theorem w_c6 : (Jvm.Cond.code ({ cls := "java/lang/StringUTF16", name := "compress", desc := "([CI[BII)I" } : Jvm.MethodName) jdk_52_method_21_code (7 : Nat) (Option.some Jvm.ClassFile.FieldType.int)).before args0 about1 = true := code_word (m := ⟨8, 3⟩) (meth := k8m3) (c := k8c3) (by decide +kernel) rfl rfl rfl (by decide +kernel)
set_option maxRecDepth 65536 in
theorem w_c7 : (Jvm.Cond.code ({ cls := "java/lang/StringUTF16", name := "coderFromArrayLen", desc := "([BI)B" } : Jvm.MethodName) jdk_52_method_15_code (2 : Nat) (Option.some Jvm.ClassFile.FieldType.byte)).before args0 about1 = true := code_word (m := ⟨8, 1⟩) (meth := k8m1) (c := k8c1) (by decide +kernel) rfl rfl rfl (by decide +kernel)
set_option maxRecDepth 65536 in
theorem w_c8 : (Jvm.Cond.code ({ cls := "com/example/chiron/chiron/graph/Term", name := "blank", desc := "(Ljava/lang/String;)Lcom/example/chiron/chiron/graph/Term;" } : Jvm.MethodName) prog_7_method_3_code (1 : Nat) (Option.some (Jvm.ClassFile.FieldType.object "com/example/chiron/chiron/graph/Term"))).before args0 about1 = true := code_word (m := ⟨10, 2⟩) (meth := k10m2) (c := k10c2) (by decide +kernel) rfl rfl rfl (by decide +kernel)
set_option maxRecDepth 65536 in
theorem w_c9 : (Jvm.Cond.code ({ cls := "com/example/chiron/chiron/graph/Term", name := "<init>", desc := "(Lcom/example/chiron/chiron/graph/Term$Kind;Ljava/lang/String;Ljava/lang/String;Ljava/lang/String;)V" } : Jvm.MethodName) prog_7_method_1_code (5 : Nat) (Option.none : Option Jvm.ClassFile.FieldType)).before args0 about1 = true := code_word (m := ⟨10, 0⟩) (meth := k10m0) (c := k10c0) (by decide +kernel) rfl rfl rfl (by decide +kernel)
set_option maxRecDepth 65536 in
theorem w_c10 : (Jvm.Cond.code ({ cls := "java/lang/Record", name := "<init>", desc := "()V" } : Jvm.MethodName) jdk_30_method_1_code (1 : Nat) (Option.none : Option Jvm.ClassFile.FieldType)).before args0 about1 = true := code_word (m := ⟨9, 0⟩) (meth := k9m0) (c := k9c0) (by decide +kernel) rfl rfl rfl (by decide +kernel)
set_option maxRecDepth 65536 in
theorem w_c11 : (Jvm.Cond.code ({ cls := "java/lang/String", name := "toLowerCase", desc := "(Ljava/util/Locale;)Ljava/lang/String;" } : Jvm.MethodName) jdk_42_method_109_code (2 : Nat) (Option.some (Jvm.ClassFile.FieldType.object "java/lang/String"))).before args0 about1 = true := code_word (m := ⟨7, 2⟩) (meth := k7m2) (c := k7c2) (by decide +kernel) rfl rfl rfl (by decide +kernel)
set_option maxRecDepth 65536 in
theorem w_c12 : (Jvm.Cond.code ({ cls := "java/lang/String", name := "isLatin1", desc := "()Z" } : Jvm.MethodName) jdk_42_method_154_code (1 : Nat) (Option.some Jvm.ClassFile.FieldType.boolean)).before args0 about1 = true := code_word (m := ⟨7, 4⟩) (meth := k7m4) (c := k7c4) (by decide +kernel) rfl rfl rfl (by decide +kernel)
set_option maxRecDepth 65536 in
theorem w_c13 : (Jvm.Cond.code ({ cls := "java/lang/StringLatin1", name := "toLowerCase", desc := "(Ljava/lang/String;[BLjava/util/Locale;)Ljava/lang/String;" } : Jvm.MethodName) jdk_43_method_32_code (9 : Nat) (Option.some (Jvm.ClassFile.FieldType.object "java/lang/String"))).before args0 about1 = true := code_word (m := ⟨15, 1⟩) (meth := k15m1) (c := k15c1) (by decide +kernel) rfl rfl rfl (by decide +kernel)
set_option maxRecDepth 65536 in
theorem w_c14 : (Jvm.Cond.code ({ cls := "com/example/chiron/chiron/query/GraphQuery$Slot", name := "ofConstant", desc := "(Lcom/example/chiron/chiron/graph/Term;)Lcom/example/chiron/chiron/query/GraphQuery$Slot;" } : Jvm.MethodName) prog_28_method_3_code (1 : Nat) (Option.some (Jvm.ClassFile.FieldType.object "com/example/chiron/chiron/query/GraphQuery$Slot"))).before args0 about1 = true := code_word (m := ⟨16, 2⟩) (meth := k16m2) (c := k16c2) (by decide +kernel) rfl rfl rfl (by decide +kernel)
set_option maxRecDepth 65536 in
theorem w_c15 : (Jvm.Cond.code ({ cls := "com/example/chiron/chiron/query/GraphQuery$Slot", name := "<init>", desc := "(Ljava/lang/String;Lcom/example/chiron/chiron/graph/Term;)V" } : Jvm.MethodName) prog_28_method_1_code (3 : Nat) (Option.none : Option Jvm.ClassFile.FieldType)).before args0 about1 = true := code_word (m := ⟨16, 0⟩) (meth := k16m0) (c := k16c0) (by decide +kernel) rfl rfl rfl (by decide +kernel)
set_option maxRecDepth 65536 in
theorem w_c16 : (Jvm.Cond.code ({ cls := "com/example/chiron/chiron/graph/Term", name := "iri", desc := "(Ljava/lang/String;)Lcom/example/chiron/chiron/graph/Term;" } : Jvm.MethodName) prog_7_method_2_code (1 : Nat) (Option.some (Jvm.ClassFile.FieldType.object "com/example/chiron/chiron/graph/Term"))).before args0 about1 = true := code_word (m := ⟨10, 1⟩) (meth := k10m1) (c := k10c1) (by decide +kernel) rfl rfl rfl (by decide +kernel)
set_option maxRecDepth 65536 in
theorem w_c17 : (Jvm.Cond.code ({ cls := "com/example/chiron/chiron/query/GraphQuery$IsAPattern", name := "<init>", desc := "(Lcom/example/chiron/chiron/query/GraphQuery$Slot;Lcom/example/chiron/chiron/query/GraphQuery$Slot;)V" } : Jvm.MethodName) prog_26_method_1_code (3 : Nat) (Option.none : Option Jvm.ClassFile.FieldType)).before args0 about1 = true := code_word (m := ⟨18, 0⟩) (meth := k18m0) (c := k18c0) (by decide +kernel) rfl rfl rfl (by decide +kernel)
set_option maxRecDepth 65536 in
theorem w_c18 : (Jvm.Cond.code ({ cls := "com/example/chiron/chiron/query/GraphQuery$IsAPattern", name := "slots", desc := "()Ljava/util/List;" } : Jvm.MethodName) prog_26_method_2_code (1 : Nat) (Option.some (Jvm.ClassFile.FieldType.object "java/util/List"))).before args0 about1 = true := code_word (m := ⟨18, 1⟩) (meth := k18m1) (c := k18c1) (by decide +kernel) rfl rfl rfl (by decide +kernel)
set_option maxRecDepth 65536 in
theorem w_c19 : (Jvm.Cond.code ({ cls := "java/util/List", name := "of", desc := "(Ljava/lang/Object;Ljava/lang/Object;)Ljava/util/List;" } : Jvm.MethodName) jdk_40_method_38_code (2 : Nat) (Option.some (Jvm.ClassFile.FieldType.object "java/util/List"))).before args0 about1 = true := code_word (m := ⟨22, 2⟩) (meth := k22m2) (c := k22c2) (by decide +kernel) rfl rfl rfl (by decide +kernel)
set_option maxRecDepth 65536 in
theorem w_c20 : (Jvm.Cond.code ({ cls := "java/util/ImmutableCollections$List12", name := "<init>", desc := "(Ljava/lang/Object;Ljava/lang/Object;)V" } : Jvm.MethodName) jdk_44_method_2_code (3 : Nat) (Option.none : Option Jvm.ClassFile.FieldType)).before args0 about1 = true := code_word (m := ⟨27, 0⟩) (meth := k27m0) (c := k27c0) (by decide +kernel) rfl rfl rfl (by decide +kernel)
set_option maxRecDepth 65536 in
theorem w_c21 : (Jvm.Cond.code ({ cls := "java/util/ImmutableCollections$AbstractImmutableList", name := "<init>", desc := "()V" } : Jvm.MethodName) jdk_46_method_1_code (1 : Nat) (Option.none : Option Jvm.ClassFile.FieldType)).before args0 about1 = true := code_word (m := ⟨26, 0⟩) (meth := k26m0) (c := k26c0) (by decide +kernel) rfl rfl rfl (by decide +kernel)
set_option maxRecDepth 65536 in
theorem w_c22 : (Jvm.Cond.code ({ cls := "java/util/ImmutableCollections$AbstractImmutableCollection", name := "<init>", desc := "()V" } : Jvm.MethodName) jdk_47_method_1_code (1 : Nat) (Option.none : Option Jvm.ClassFile.FieldType)).before args0 about1 = true := code_word (m := ⟨24, 0⟩) (meth := k24m0) (c := k24c0) (by decide +kernel) rfl rfl rfl (by decide +kernel)
set_option maxRecDepth 65536 in
theorem w_c23 : (Jvm.Cond.code ({ cls := "java/util/AbstractCollection", name := "<init>", desc := "()V" } : Jvm.MethodName) jdk_22_method_1_code (1 : Nat) (Option.none : Option Jvm.ClassFile.FieldType)).before args0 about1 = true := code_word (m := ⟨23, 0⟩) (meth := k23m0) (c := k23c0) (by decide +kernel) rfl rfl rfl (by decide +kernel)
set_option maxRecDepth 65536 in
theorem w_c24 : (Jvm.Cond.code ({ cls := "java/util/Objects", name := "requireNonNull", desc := "(Ljava/lang/Object;)Ljava/lang/Object;" } : Jvm.MethodName) jdk_31_method_10_code (1 : Nat) (Option.some (Jvm.ClassFile.FieldType.object "java/lang/Object"))).before args0 about1 = true := code_word (m := ⟨28, 1⟩) (meth := k28m1) (c := k28c1) (by decide +kernel) rfl rfl rfl (by decide +kernel)
set_option maxRecDepth 65536 in
theorem w_c25 : (Jvm.Cond.code ({ cls := "java/util/ImmutableCollections$List12", name := "size", desc := "()I" } : Jvm.MethodName) jdk_44_method_3_code (1 : Nat) (Option.some Jvm.ClassFile.FieldType.int)).before args0 about1 = true := code_word (m := ⟨27, 1⟩) (meth := k27m1) (c := k27c1) (by decide +kernel) rfl rfl rfl (by decide +kernel)
set_option maxRecDepth 65536 in
theorem w_c26 : (Jvm.Cond.code ({ cls := "java/util/ImmutableCollections$List12", name := "get", desc := "(I)Ljava/lang/Object;" } : Jvm.MethodName) jdk_44_method_5_code (2 : Nat) (Option.some (Jvm.ClassFile.FieldType.object "java/lang/Object"))).before args0 about1 = true := code_word (m := ⟨27, 2⟩) (meth := k27m2) (c := k27c2) (by decide +kernel) rfl rfl rfl (by decide +kernel)
set_option maxRecDepth 65536 in
theorem w_c27 : (Jvm.Cond.code ({ cls := "com/example/chiron/chiron/query/GraphQuery$Slot", name := "ofVariable", desc := "(Ljava/lang/String;)Lcom/example/chiron/chiron/query/GraphQuery$Slot;" } : Jvm.MethodName) prog_28_method_2_code (1 : Nat) (Option.some (Jvm.ClassFile.FieldType.object "com/example/chiron/chiron/query/GraphQuery$Slot"))).before args0 about1 = true := code_word (m := ⟨16, 1⟩) (meth := k16m1) (c := k16c1) (by decide +kernel) rfl rfl rfl (by decide +kernel)
def codes1 : List Jvm.Cond := [Jvm.Cond.code x code maxLocals ret, Jvm.Cond.code ({ cls := "com/example/chiron/chiron/query/IsAPatternSlotsPinLaw", name := "slot", desc := "(II)Lcom/example/chiron/chiron/query/GraphQuery$Slot;" } : Jvm.MethodName) method_3_code (4 : Nat) (Option.some (Jvm.ClassFile.FieldType.object "com/example/chiron/chiron/query/GraphQuery$Slot")), Jvm.Cond.code ({ cls := "java/lang/String", name := "<init>", desc := "([C)V" } : Jvm.MethodName) jdk_42_method_3_code (2 : Nat) (Option.none : Option Jvm.ClassFile.FieldType), Jvm.Cond.code ({ cls := "java/lang/String", name := "<init>", desc := "([CIILjava/lang/Void;)V" } : Jvm.MethodName) jdk_42_method_149_code (6 : Nat) (Option.none : Option Jvm.ClassFile.FieldType), Jvm.Cond.code ({ cls := "java/lang/Object", name := "<init>", desc := "()V" } : Jvm.MethodName) object_method_1_code (1 : Nat) (Option.none : Option Jvm.ClassFile.FieldType), Jvm.Cond.code ({ cls := "java/lang/StringUTF16", name := "compress", desc := "([CII)[B" } : Jvm.MethodName) jdk_52_method_16_code (6 : Nat) (Option.some (Jvm.ClassFile.FieldType.array Jvm.ClassFile.FieldType.byte)), Jvm.Cond.code ({ cls := "java/lang/StringUTF16", name := "compress", desc := "([CI[BII)I" } : Jvm.MethodName) jdk_52_method_21_code (7 : Nat) (Option.some Jvm.ClassFile.FieldType.int), Jvm.Cond.code ({ cls := "java/lang/StringUTF16", name := "coderFromArrayLen", desc := "([BI)B" } : Jvm.MethodName) jdk_52_method_15_code (2 : Nat) (Option.some Jvm.ClassFile.FieldType.byte), Jvm.Cond.code ({ cls := "com/example/chiron/chiron/graph/Term", name := "blank", desc := "(Ljava/lang/String;)Lcom/example/chiron/chiron/graph/Term;" } : Jvm.MethodName) prog_7_method_3_code (1 : Nat) (Option.some (Jvm.ClassFile.FieldType.object "com/example/chiron/chiron/graph/Term")), Jvm.Cond.code ({ cls := "com/example/chiron/chiron/graph/Term", name := "<init>", desc := "(Lcom/example/chiron/chiron/graph/Term$Kind;Ljava/lang/String;Ljava/lang/String;Ljava/lang/String;)V" } : Jvm.MethodName) prog_7_method_1_code (5 : Nat) (Option.none : Option Jvm.ClassFile.FieldType), Jvm.Cond.code ({ cls := "java/lang/Record", name := "<init>", desc := "()V" } : Jvm.MethodName) jdk_30_method_1_code (1 : Nat) (Option.none : Option Jvm.ClassFile.FieldType), Jvm.Cond.code ({ cls := "java/lang/String", name := "toLowerCase", desc := "(Ljava/util/Locale;)Ljava/lang/String;" } : Jvm.MethodName) jdk_42_method_109_code (2 : Nat) (Option.some (Jvm.ClassFile.FieldType.object "java/lang/String")), Jvm.Cond.code ({ cls := "java/lang/String", name := "isLatin1", desc := "()Z" } : Jvm.MethodName) jdk_42_method_154_code (1 : Nat) (Option.some Jvm.ClassFile.FieldType.boolean), Jvm.Cond.code ({ cls := "java/lang/StringLatin1", name := "toLowerCase", desc := "(Ljava/lang/String;[BLjava/util/Locale;)Ljava/lang/String;" } : Jvm.MethodName) jdk_43_method_32_code (9 : Nat) (Option.some (Jvm.ClassFile.FieldType.object "java/lang/String")), Jvm.Cond.code ({ cls := "com/example/chiron/chiron/query/GraphQuery$Slot", name := "ofConstant", desc := "(Lcom/example/chiron/chiron/graph/Term;)Lcom/example/chiron/chiron/query/GraphQuery$Slot;" } : Jvm.MethodName) prog_28_method_3_code (1 : Nat) (Option.some (Jvm.ClassFile.FieldType.object "com/example/chiron/chiron/query/GraphQuery$Slot")), Jvm.Cond.code ({ cls := "com/example/chiron/chiron/query/GraphQuery$Slot", name := "<init>", desc := "(Ljava/lang/String;Lcom/example/chiron/chiron/graph/Term;)V" } : Jvm.MethodName) prog_28_method_1_code (3 : Nat) (Option.none : Option Jvm.ClassFile.FieldType), Jvm.Cond.code ({ cls := "com/example/chiron/chiron/graph/Term", name := "iri", desc := "(Ljava/lang/String;)Lcom/example/chiron/chiron/graph/Term;" } : Jvm.MethodName) prog_7_method_2_code (1 : Nat) (Option.some (Jvm.ClassFile.FieldType.object "com/example/chiron/chiron/graph/Term")), Jvm.Cond.code ({ cls := "com/example/chiron/chiron/query/GraphQuery$IsAPattern", name := "<init>", desc := "(Lcom/example/chiron/chiron/query/GraphQuery$Slot;Lcom/example/chiron/chiron/query/GraphQuery$Slot;)V" } : Jvm.MethodName) prog_26_method_1_code (3 : Nat) (Option.none : Option Jvm.ClassFile.FieldType), Jvm.Cond.code ({ cls := "com/example/chiron/chiron/query/GraphQuery$IsAPattern", name := "slots", desc := "()Ljava/util/List;" } : Jvm.MethodName) prog_26_method_2_code (1 : Nat) (Option.some (Jvm.ClassFile.FieldType.object "java/util/List")), Jvm.Cond.code ({ cls := "java/util/List", name := "of", desc := "(Ljava/lang/Object;Ljava/lang/Object;)Ljava/util/List;" } : Jvm.MethodName) jdk_40_method_38_code (2 : Nat) (Option.some (Jvm.ClassFile.FieldType.object "java/util/List")), Jvm.Cond.code ({ cls := "java/util/ImmutableCollections$List12", name := "<init>", desc := "(Ljava/lang/Object;Ljava/lang/Object;)V" } : Jvm.MethodName) jdk_44_method_2_code (3 : Nat) (Option.none : Option Jvm.ClassFile.FieldType), Jvm.Cond.code ({ cls := "java/util/ImmutableCollections$AbstractImmutableList", name := "<init>", desc := "()V" } : Jvm.MethodName) jdk_46_method_1_code (1 : Nat) (Option.none : Option Jvm.ClassFile.FieldType), Jvm.Cond.code ({ cls := "java/util/ImmutableCollections$AbstractImmutableCollection", name := "<init>", desc := "()V" } : Jvm.MethodName) jdk_47_method_1_code (1 : Nat) (Option.none : Option Jvm.ClassFile.FieldType), Jvm.Cond.code ({ cls := "java/util/AbstractCollection", name := "<init>", desc := "()V" } : Jvm.MethodName) jdk_22_method_1_code (1 : Nat) (Option.none : Option Jvm.ClassFile.FieldType), Jvm.Cond.code ({ cls := "java/util/Objects", name := "requireNonNull", desc := "(Ljava/lang/Object;)Ljava/lang/Object;" } : Jvm.MethodName) jdk_31_method_10_code (1 : Nat) (Option.some (Jvm.ClassFile.FieldType.object "java/lang/Object")), Jvm.Cond.code ({ cls := "java/util/ImmutableCollections$List12", name := "size", desc := "()I" } : Jvm.MethodName) jdk_44_method_3_code (1 : Nat) (Option.some Jvm.ClassFile.FieldType.int), Jvm.Cond.code ({ cls := "java/util/ImmutableCollections$List12", name := "get", desc := "(I)Ljava/lang/Object;" } : Jvm.MethodName) jdk_44_method_5_code (2 : Nat) (Option.some (Jvm.ClassFile.FieldType.object "java/lang/Object")), Jvm.Cond.code ({ cls := "com/example/chiron/chiron/query/GraphQuery$Slot", name := "ofVariable", desc := "(Ljava/lang/String;)Lcom/example/chiron/chiron/query/GraphQuery$Slot;" } : Jvm.MethodName) prog_28_method_2_code (1 : Nat) (Option.some (Jvm.ClassFile.FieldType.object "com/example/chiron/chiron/query/GraphQuery$Slot"))]
set_option maxRecDepth 65536 in
theorem codes_eq : words1.filter isCode = codes1 := rfl
theorem w_codes : ∀ c ∈ words1.filter isCode, c.before args0 about1 = true := by
  rw [codes_eq]
  intro c hc
  simp only [codes1, List.mem_cons, List.not_mem_nil, or_false] at hc
  rcases hc with rfl | rfl | rfl | rfl | rfl | rfl | rfl | rfl | rfl | rfl | rfl | rfl | rfl | rfl | rfl | rfl | rfl | rfl | rfl | rfl | rfl | rfl | rfl | rfl | rfl | rfl | rfl | rfl
  · exact w_c0
  · exact w_c1
  · exact w_c2
  · exact w_c3
  · exact w_c4
  · exact w_c5
  · exact w_c6
  · exact w_c7
  · exact w_c8
  · exact w_c9
  · exact w_c10
  · exact w_c11
  · exact w_c12
  · exact w_c13
  · exact w_c14
  · exact w_c15
  · exact w_c16
  · exact w_c17
  · exact w_c18
  · exact w_c19
  · exact w_c20
  · exact w_c21
  · exact w_c22
  · exact w_c23
  · exact w_c24
  · exact w_c25
  · exact w_c26
  · exact w_c27
set_option maxRecDepth 65536 in
theorem w_t1 : (words1.take 24).all (fun c => isCode c || c.before args0 about1) = true := by decide +kernel
set_option maxRecDepth 65536 in
theorem w_t2 : ((words1.drop 24).take 24).all (fun c => isCode c || c.before args0 about1) = true := by decide +kernel
set_option maxRecDepth 65536 in
theorem w_t3 : (((words1.drop 24).drop 24).take 24).all (fun c => isCode c || c.before args0 about1) = true := by decide +kernel
set_option maxRecDepth 65536 in
theorem w_t4 : ((((words1.drop 24).drop 24).drop 24).take 24).all (fun c => isCode c || c.before args0 about1) = true := by decide +kernel
set_option maxRecDepth 65536 in
theorem w_t5 : (((((words1.drop 24).drop 24).drop 24).drop 24).take 24).all (fun c => isCode c || c.before args0 about1) = true := by decide +kernel
set_option maxRecDepth 65536 in
theorem w_t6 : ((((((words1.drop 24).drop 24).drop 24).drop 24).drop 24).take 24).all (fun c => isCode c || c.before args0 about1) = true := by decide +kernel
set_option maxRecDepth 65536 in
theorem w_t7 : (((((((words1.drop 24).drop 24).drop 24).drop 24).drop 24).drop 24).take 24).all (fun c => isCode c || c.before args0 about1) = true := by decide +kernel
set_option maxRecDepth 65536 in
theorem w_t8 : (((((((words1.drop 24).drop 24).drop 24).drop 24).drop 24).drop 24).drop 24).all (fun c => isCode c || c.before args0 about1) = true := by decide +kernel
theorem w_tables : (allAtoms (Jvm.Cond.code x code maxLocals ret :: tables_1)).before args0 about1 = true := by
  rw [allAtoms_all]
  show words1.all (fun c => c.before args0 about1) = true
  refine all_split ?_ w_codes
  rw [← List.take_append_drop 24 words1, List.all_append, w_t1, ← List.take_append_drop 24 (words1.drop 24), List.all_append, w_t2, ← List.take_append_drop 24 ((words1.drop 24).drop 24), List.all_append, w_t3, ← List.take_append_drop 24 (((words1.drop 24).drop 24).drop 24), List.all_append, w_t4, ← List.take_append_drop 24 ((((words1.drop 24).drop 24).drop 24).drop 24), List.all_append, w_t5, ← List.take_append_drop 24 (((((words1.drop 24).drop 24).drop 24).drop 24).drop 24), List.all_append, w_t6, ← List.take_append_drop 24 ((((((words1.drop 24).drop 24).drop 24).drop 24).drop 24).drop 24), List.all_append, w_t7, w_t8]
  rfl
set_option maxRecDepth 65536 in
theorem w_rest : rest_1_c.before args0 about1 = true := by decide +kernel
set_option maxRecDepth 65536 in
theorem w_case : (Jvm.Cond.and given_1 narrow_1).before args0 about1 = true := by decide +kernel
set_option maxRecDepth 65536 in
theorem w_consts : constsHeld consts_1 about1 := Jvm.Lit.constsHeldB_iff.mp (by decide +kernel)
theorem w_applies : (headSpec (Jvm.Cond.code x code maxLocals ret :: tables_1) room_1).applies x e0.platform about1 = true :=
  (Spec.applies_iff w_frames).mpr ⟨w_running, w_runnable, w_alone, w_named, w_hears, w_ripe, w_room, w_tables⟩
theorem atStart : AtStart classFile x code maxLocals ret World_1 tables_1 room_1 Calls_1 rest_1 Pre_1 launch0 p0 e0 about1 theMethod args0 below0 :=
  ⟨lists_1, trivial, launch0.admits_env _ _ _, launch0.least_env, fairChoices_fair.cas, fairChoices_fair.clock, w_frames, w_args, w_heap, w_applies, ⟨w_consts, trivial⟩, w_rest, w_case⟩
end start1
theorem witness_1 : WitnessClaimed_1 := ⟨start1.p0, start1.e0, start1.about1, start1.theMethod, start1.args0, start1.below0, start1.atStart⟩
end Jvm.Pilot.@@N@@
