import JvmDerived
import JvmDerived.Pilot.@@N@@Statement
import JvmDerived.Pilot.@@N@@Code
set_option linter.unusedVariables false
set_option linter.unusedSimpArgs false
/- laws to paste: Road.backV, Road.lenW, Road.chN, Road.codOf (cut by pick.py; bodies as the Statement names them) -/
namespace Jvm.Pilot.@@N@@
namespace StrChars
open Jvm Sem ClassFile Op Lib Jvm.Stand Jvm.Free.XT Jvm.Free.ALB Jvm.Free.JM Jvm.Free
open Jvm.Lib.Cold (StaticIs)
/-- a char array whose places are chars -/
def Ch (a : Addr) (A : Cell) (U : State) : Prop := Arr .char a A U ∧ Typed .char A
theorem Ch.mv {a : Addr} {A : Cell} {U U' : State} (h : Ch a A U) (hal : U.vm.Alike U'.vm) (hh : U'.heap = U.heap) : Ch a A U' := ⟨h.1.mv hal hh, h.2⟩
theorem Ch.keep {a : Addr} {A : Cell} {U U' : State} (h : Ch a A U) (hal : U.vm.Alike U'.vm) (hk : U'.heap[a]? = some A) : Ch a A U' := ⟨h.1.keep hal hk, h.2⟩
/-- what place i of a char[]'s cell holds -/
def cv (A : Cell) (i : Nat) : Int32 := match A.slots[i]? with | some (.int x) => x | _ => 0
theorem Ch.get {a : Addr} {A : Cell} {U : State} (h : Ch a A U) {i : Nat} (hi : i < A.slots.size) : A.slots[i]? = some (.int (cv A i)) := by
  have e := Array.getElem?_eq_getElem hi
  have f := h.2 i _ e
  unfold cv; rw [e]
  generalize A.slots[i] = v at f
  cases v <;> simp [fits] at f ⊢
/-- the byte that i2b leaves of a char -/
def lo8 (x : Int32) : Int32 := x.toInt8.toInt32
theorem fits_lo8 (y : Int32) : fits .byte (.int (lo8 y)) = true := by
  have h1 := y.toInt8.le_toInt
  have h2 := y.toInt8.toInt_lt
  simp only [lo8, fits, Bool.and_eq_true, decide_eq_true_eq, Int32.le_iff_toInt_le, Int8.toInt_toInt32, show (-128 : Int32).toInt = -128 from by decide, show (127 : Int32).toInt = 127 from by decide]
  omega
/-- A' is A but that each place j of lo .. hi - 1 holds f j -/
def Laid (A A' : Cell) (lo hi : Nat) (f : Nat → Value) : Prop := A'.cls = A.cls ∧ A'.vm = A.vm ∧ A'.slots.size = A.slots.size ∧ ∀ i, A'.slots[i]? = if lo ≤ i ∧ i < hi then some (f i) else A.slots[i]?
theorem Laid.zero (A : Cell) (lo : Nat) (f : Nat → Value) : Laid A A lo (lo + 0) f := ⟨rfl, rfl, rfl, fun i => by rw [if_neg (by omega)]⟩
theorem Laid.step {A Ak : Cell} {lo k : Nat} {f : Nat → Value} {v : Value} (h : Laid A Ak lo k f) (hlo : lo ≤ k) (hk : k < Ak.slots.size) (hv : v = f k) : Laid A (Ak.setSlot k v) lo (k + 1) f := by
  refine ⟨h.1, h.2.1, by simpa [Cell.setSlot] using h.2.2.1, fun i => ?_⟩
  by_cases e : k = i
  · subst e; rw [Cell.slots_setSlot_self v hk, if_pos (by omega), hv]
  · rw [Cell.slots_setSlot_ne v e, h.2.2.2 i]
    by_cases q : lo ≤ i ∧ i < k
    · rw [if_pos q, if_pos (by omega)]
    · rw [if_neg q, if_neg (by omega)]
def U16 : String := "java/lang/StringUTF16"
namespace Cmp5
def yN : MethodName := ⟨"java/lang/StringUTF16", "compress", "([CI[BII)I"⟩
abbrev yB : ByteArray := jdk_52_method_21_code
theorem d0 : decode yB 0 = .ok (.iconst 0, 1) := by decide +kernel
theorem d1 : decode yB 1 = .ok (.istore 5, 2) := by decide +kernel
theorem d3 : decode yB 3 = .ok (.iload 5, 2) := by decide +kernel
theorem d5 : decode yB 5 = .ok (.iload 4, 2) := by decide +kernel
theorem d7 : decode yB 7 = .ok (.if_icmp (.ge) 37, 3) := by decide +kernel
theorem d10 : decode yB 10 = .ok (.aload_n 0, 1) := by decide +kernel
theorem d11 : decode yB 11 = .ok (.iload_n 1, 1) := by decide +kernel
theorem d12 : decode yB 12 = .ok (.caload, 1) := by decide +kernel
theorem d13 : decode yB 13 = .ok (.istore 6, 2) := by decide +kernel
theorem d15 : decode yB 15 = .ok (.iload 6, 2) := by decide +kernel
theorem d17 : decode yB 17 = .ok (.sipush 255, 3) := by decide +kernel
theorem d20 : decode yB 20 = .ok (.if_icmp (.le) 6, 3) := by decide +kernel
theorem d26 : decode yB 26 = .ok (.aload_n 2, 1) := by decide +kernel
theorem d27 : decode yB 27 = .ok (.iload_n 3, 1) := by decide +kernel
theorem d28 : decode yB 28 = .ok (.iload 6, 2) := by decide +kernel
theorem d30 : decode yB 30 = .ok (.i2b, 1) := by decide +kernel
theorem d31 : decode yB 31 = .ok (.bastore, 1) := by decide +kernel
theorem d32 : decode yB 32 = .ok (.iinc 1 1, 3) := by decide +kernel
theorem d35 : decode yB 35 = .ok (.iinc 3 1, 3) := by decide +kernel
theorem d38 : decode yB 38 = .ok (.iinc 5 1, 3) := by decide +kernel
theorem d41 : decode yB 41 = .ok (.goto (-38), 3) := by decide +kernel
theorem d44 : decode yB 44 = .ok (.iload 4, 2) := by decide +kernel
theorem d46 : decode yB 46 = .ok (.ireturn, 1) := by decide +kernel
def site : List Cond := []
def tab : Cond := tabOf yN yB 7 (some .int) site
def P (b : Addr) (A : Cell) (d : Addr) (B : Cell) (o q len : Nat) (args : Array Value) (s : State) : Prop := args = #[.ref b, .int (Int32.ofNat o), .ref d, .int (Int32.ofNat q), .int (Int32.ofNat len)] ∧ Ch b A s ∧ Arr .byte d B s ∧ b ≠ d ∧ o + len ≤ A.slots.size ∧ q + len ≤ B.slots.size ∧ ∀ i, i < len → ¬ 255 < cv A (o + i)
def E (b : Addr) (A : Cell) (d : Addr) (B : Cell) (o q len : Nat) (r : Option Value) (s u : State) : Prop := r = some (.int (Int32.ofNat len)) ∧ ∃ B', Put d B' s u ∧ Laid B B' q (q + len) (fun j => Value.int (lo8 (cv A (o + (j - q)))))
/-- no char of the range above 255: len; the places written hold each char's low byte -/
theorem law (l : Launch) (b : Addr) (A : Cell) (d : Addr) (B : Cell) (o q len : Nat) : Law l yN 5 5 0 0 yB 7 (some .int) site (P b A d B o q len) (E b A d B o q len) (copyLocs d q len) 0 0 := by
  refine Law.of_walk (plainFor_of_name (by decide +kernel)) (by decide +kernel) (by decide +kernel) (by decide) (fun _ _ h => by rw [h.1]; rfl) (fun _ U U' hal hh h => ⟨h.1, h.2.1.mv hal hh, h.2.2.1.mv hal hh, h.2.2.2⟩) (fun r U U' V V' h1 hal h2 h => ⟨h.1, h.2.elim fun B' q => ⟨B', q.1.mv h1 h2, q.2⟩⟩) ?_
  intro p e s m args below meth c s₁ X0 hexec hbytes hml hret hlk hnm hown hh0 W hP
  obtain ⟨rfl, hA, hB, hne, l1, l2, hp⟩ := hP
  have c1 : Steps p.tables e below (s₁.setTop (entryFrame m #[.ref b, .int (Int32.ofNat o), .ref d, .int (Int32.ofNat q), .int (Int32.ofNat len)] 7)) (s₁.setTop (mkF m 0 #[.val (.ref b), .val (.int (Int32.ofNat o)), .val (.ref d), .val (.int (Int32.ofNat q)), .val (.int (Int32.ofNat len)), .unset, .unset] [])) := entry rfl
  have hA0 := hA.1.mv X0.warmed.alike hh0
  have hB0 := hB.mv X0.warmed.alike hh0
  have a31 := hA.1.2.2.2
  have c2 : Steps p.tables e below (s₁.setTop (entryFrame m #[.ref b, .int (Int32.ofNat o), .ref d, .int (Int32.ofNat q), .int (Int32.ofNat len)] 7)) (s₁.setTop (mkF m 3 #[.val (.ref b), .val (.int (Int32.ofNat o)), .val (.ref d), .val (.int (Int32.ofNat q)), .val (.int (Int32.ofNat len)), .val (.int 0), .unset] [])) := c1.trans (by
    refine iconstV X0.here hexec rfl 0 (hb hbytes d0) (by decide) ?_
    refine XS.istore X0.here hexec rfl (hb hbytes d1) rfl rfl ?_
    exact Steps.refl _)
  have loop : ∀ (r i : Nat), i + r = len → ∀ (z : Slot), (z = .unset ∨ ∃ w, z = .val w ∧ w.category = 1) → ∀ (Tl : State) (Bk : Cell), Stand p l e { frames := 0, locals := 0, cells := 0, slots := 0 } s m #[.ref b, .int (Int32.ofNat o), .ref d, .int (Int32.ofNat q), .int (Int32.ofNat len)] below meth c Tl ([] ++ copyLocs d q i) 0 0 → Put d Bk s₁ Tl → Laid B Bk q (q + i) (fun j => Value.int (lo8 (cv A (o + (j - q))))) →
      Steps p.tables e below (s₁.setTop (entryFrame m #[.ref b, .int (Int32.ofNat o), .ref d, .int (Int32.ofNat q), .int (Int32.ofNat len)] 7)) (Tl.setTop (mkF m 3 #[.val (.ref b), .val (.int (Int32.ofNat (o + i))), .val (.ref d), .val (.int (Int32.ofNat (q + i))), .val (.int (Int32.ofNat len)), .val (.int (Int32.ofNat i)), z] [])) → ∃ (T' : State) (B' : Cell) (z' : Slot), Stand p l e { frames := 0, locals := 0, cells := 0, slots := 0 } s m #[.ref b, .int (Int32.ofNat o), .ref d, .int (Int32.ofNat q), .int (Int32.ofNat len)] below meth c T' ([] ++ copyLocs d q len) 0 0 ∧ Put d B' s₁ T' ∧ Laid B B' q (q + len) (fun j => Value.int (lo8 (cv A (o + (j - q))))) ∧
      Steps p.tables e below (s₁.setTop (entryFrame m #[.ref b, .int (Int32.ofNat o), .ref d, .int (Int32.ofNat q), .int (Int32.ofNat len)] 7)) (T'.setTop (mkF m 3 #[.val (.ref b), .val (.int (Int32.ofNat (o + len))), .val (.ref d), .val (.int (Int32.ofNat (q + len))), .val (.int (Int32.ofNat len)), .val (.int (Int32.ofNat len)), z'] [])) := by
    intro r
    induction r with
    | zero =>
      intro i hi z hz Tl Bk Xl pl fl cl
      have hil : i = len := by omega
      rw [hil] at Xl fl cl
      exact ⟨Tl, Bk, z, Xl, pl, fl, cl⟩
    | succ r ih =>
      intro i hi z hz Tl Bk Xl pl fl cl
      have all := X0.warmed.alike.symm.trans Xl.warmed.alike
      have hAl := hA0.keep all (pl.other hne hA0.1)
      have hBk := hB0.like all pl.1 fl.1 fl.2.1 fl.2.2.1
      have hlt : q + i < Bk.slots.size := by rw [fl.2.2.1]; omega
      have c3 : Steps p.tables e below (s₁.setTop (entryFrame m #[.ref b, .int (Int32.ofNat o), .ref d, .int (Int32.ofNat q), .int (Int32.ofNat len)] 7)) (Tl.setTop (mkF m 12 #[.val (.ref b), .val (.int (Int32.ofNat (o + i))), .val (.ref d), .val (.int (Int32.ofNat (q + i))), .val (.int (Int32.ofNat len)), .val (.int (Int32.ofNat i)), z] [.int (Int32.ofNat (o + i)), .ref b])) := cl.trans (by
        refine XS.iload Xl.here hexec rfl (hb hbytes d3) rfl ?_
        refine XS.iload Xl.here hexec rfl (hb hbytes d5) rfl ?_
        refine XS.icmpNo Xl.here hexec rfl (hb hbytes d7) rfl (ii_ge_f (lt32 (by omega) (by omega))) ?_
        refine XS.aloadN Xl.here hexec rfl (hb hbytes d10) rfl rfl ?_
        refine XS.iloadN Xl.here hexec rfl (hb hbytes d11) rfl ?_
        exact Steps.refl _)
      have c4 : Steps p.tables e below (s₁.setTop (entryFrame m #[.ref b, .int (Int32.ofNat o), .ref d, .int (Int32.ofNat q), .int (Int32.ofNat len)] 7)) (Tl.setTop (mkF m 13 #[.val (.ref b), .val (.int (Int32.ofNat (o + i))), .val (.ref d), .val (.int (Int32.ofNat (q + i))), .val (.int (Int32.ofNat len)), .val (.int (Int32.ofNat i)), z] [.int (cv A (o + i))])) := c3.trans (by
        refine Xl.aget hexec hAl rfl (hA.get (i := o + i) (by omega)) rfl rfl (hb hbytes d12) ?_
        exact Steps.refl _)
      have c5 : Steps p.tables e below (s₁.setTop (entryFrame m #[.ref b, .int (Int32.ofNat o), .ref d, .int (Int32.ofNat q), .int (Int32.ofNat len)] 7)) (Tl.setTop (mkF m 15 #[.val (.ref b), .val (.int (Int32.ofNat (o + i))), .val (.ref d), .val (.int (Int32.ofNat (q + i))), .val (.int (Int32.ofNat len)), .val (.int (Int32.ofNat i)), .val (.int (cv A (o + i)))] [])) := c4.trans (by
        refine XS.istoreS Xl.here hexec rfl (hb hbytes d13) rfl rfl hz ?_
        exact Steps.refl _)
      have c6 : Steps p.tables e below (s₁.setTop (entryFrame m #[.ref b, .int (Int32.ofNat o), .ref d, .int (Int32.ofNat q), .int (Int32.ofNat len)] 7)) (Tl.setTop (mkF m 31 #[.val (.ref b), .val (.int (Int32.ofNat (o + i))), .val (.ref d), .val (.int (Int32.ofNat (q + i))), .val (.int (Int32.ofNat len)), .val (.int (Int32.ofNat i)), .val (.int (cv A (o + i)))] [.int (lo8 (cv A (o + i))), .int (Int32.ofNat (q + i)), .ref d])) := c5.trans (by
        refine XS.iload Xl.here hexec rfl (hb hbytes d15) rfl ?_
        refine sipushV Xl.here hexec rfl 255 (hb hbytes d17) (by decide) ?_
        refine XS.icmpYes Xl.here hexec rfl (pc0 := 20) rfl (hb hbytes d20) rfl (ii_le_t (hp i (by omega))) (by decide) rfl ?_
        refine XS.aloadN Xl.here hexec rfl (hb hbytes d26) rfl rfl ?_
        refine XS.iloadN Xl.here hexec rfl (hb hbytes d27) rfl ?_
        refine XS.iload Xl.here hexec rfl (hb hbytes d28) rfl ?_
        refine i2b Xl.here hexec rfl (hb hbytes d30) rfl ?_
        exact Steps.refl _)
      obtain ⟨T7, X7, p7, st7⟩ := Xl.aput hexec hBk rfl hlt rfl (fits_lo8 (cv A (o + i))) (g := (mkF m 31 #[.val (.ref b), .val (.int (Int32.ofNat (o + i))), .val (.ref d), .val (.int (Int32.ofNat (q + i))), .val (.int (Int32.ofNat len)), .val (.int (Int32.ofNat i)), .val (.int (cv A (o + i)))] [.int (lo8 (cv A (o + i))), .int (Int32.ofNat (q + i)), .ref d])) rfl (rest := []) rfl (hb hbytes d31)
      have c8 : Steps p.tables e below (s₁.setTop (entryFrame m #[.ref b, .int (Int32.ofNat o), .ref d, .int (Int32.ofNat q), .int (Int32.ofNat len)] 7)) (T7.setTop (mkF m 32 #[.val (.ref b), .val (.int (Int32.ofNat (o + i))), .val (.ref d), .val (.int (Int32.ofNat (q + i))), .val (.int (Int32.ofNat len)), .val (.int (Int32.ofNat i)), .val (.int (cv A (o + i)))] [])) := c6.trans (st7 _ (Steps.refl _))
      have c9 : Steps p.tables e below (s₁.setTop (entryFrame m #[.ref b, .int (Int32.ofNat o), .ref d, .int (Int32.ofNat q), .int (Int32.ofNat len)] 7)) (T7.setTop (mkF m 3 #[.val (.ref b), .val (.int (Int32.ofNat (o + i) + 1)), .val (.ref d), .val (.int (Int32.ofNat (q + i) + 1)), .val (.int (Int32.ofNat len)), .val (.int (Int32.ofNat i + 1)), .val (.int (cv A (o + i)))] [])) := c8.trans (by
        refine iincV X7.here hexec rfl 1 (hb hbytes d32) (by decide) rfl rfl ?_
        refine iincV X7.here hexec rfl 1 (hb hbytes d35) (by decide) rfl rfl ?_
        refine iincV X7.here hexec rfl 1 (hb hbytes d38) (by decide) rfl rfl ?_
        refine XS.goto X7.here hexec rfl (pc0 := 41) rfl (hb hbytes d41) (by decide) rfl ?_
        exact Steps.refl _)
      have c10 : Steps p.tables e below (s₁.setTop (entryFrame m #[.ref b, .int (Int32.ofNat o), .ref d, .int (Int32.ofNat q), .int (Int32.ofNat len)] 7)) (T7.setTop (mkF m 3 #[.val (.ref b), .val (.int (Int32.ofNat (o + (i + 1)))), .val (.ref d), .val (.int (Int32.ofNat (q + (i + 1)))), .val (.int (Int32.ofNat len)), .val (.int (Int32.ofNat (i + 1))), .val (.int (cv A (o + i)))] [])) := by
        have := c9
        rw [succ32, succ32, succ32] at this
        exact this
      exact ih (i + 1) (by omega) _ (Or.inr ⟨_, rfl, rfl⟩) T7 _ (by rw [copyLocs_step, ← List.append_assoc]; exact X7) (pl.trans p7) (fl.step (by omega) hlt (by simp)) c10
  obtain ⟨T9, B9, z9, X9, p9, f9, g9⟩ := loop len 0 (by omega) .unset (Or.inl rfl) s₁ B (by simpa [copyLocs] using X0) ⟨hB0.1, fun _ _ => rfl, rfl⟩ (Laid.zero _ _ _) c2
  have c11 : Steps p.tables e below (s₁.setTop (entryFrame m #[.ref b, .int (Int32.ofNat o), .ref d, .int (Int32.ofNat q), .int (Int32.ofNat len)] 7)) (T9.setTop (mkF m 46 #[.val (.ref b), .val (.int (Int32.ofNat (o + len))), .val (.ref d), .val (.int (Int32.ofNat (q + len))), .val (.int (Int32.ofNat len)), .val (.int (Int32.ofNat len)), z9] [.int (Int32.ofNat len)])) := g9.trans (by
    refine XS.iload X9.here hexec rfl (hb hbytes d3) rfl ?_
    refine XS.iload X9.here hexec rfl (hb hbytes d5) rfl ?_
    refine XS.icmpYes X9.here hexec rfl (pc0 := 7) rfl (hb hbytes d7) rfl (ii_ge_t (nlt32 (by omega) (Nat.le_refl _))) (by decide) rfl ?_
    refine XS.iload X9.here hexec rfl (hb hbytes d44) rfl ?_
    exact Steps.refl _)
  exact ⟨T9, some (.int (Int32.ofNat len)), _, _, _, X9, by simp, rfl, rfl, (fun h => by cases h), ⟨rfl, B9, p9.from hh0, f9⟩, fun fs hl => c11.trans (X9.ireturnOut hexec hret rfl (Or.inl rfl) (hb hbytes d46) hl)⟩
end Cmp5
namespace Cmp3
def yN : MethodName := ⟨"java/lang/StringUTF16", "compress", "([CII)[B"⟩
abbrev yB : ByteArray := jdk_52_method_16_code
theorem d0 : decode yB 0 = .ok (.iload_n 2, 1) := by decide +kernel
theorem d1 : decode yB 1 = .ok (.newarray .byte, 2) := by decide +kernel
theorem d3 : decode yB 3 = .ok (.astore_n 3, 1) := by decide +kernel
theorem d4 : decode yB 4 = .ok (.aload_n 0, 1) := by decide +kernel
theorem d5 : decode yB 5 = .ok (.iload_n 1, 1) := by decide +kernel
theorem d6 : decode yB 6 = .ok (.aload_n 3, 1) := by decide +kernel
theorem d7 : decode yB 7 = .ok (.iconst 0, 1) := by decide +kernel
theorem d8 : decode yB 8 = .ok (.iload_n 2, 1) := by decide +kernel
theorem d9 : decode yB 9 = .ok (.invokestatic 115, 3) := by decide +kernel
theorem d12 : decode yB 12 = .ok (.istore 4, 2) := by decide +kernel
theorem d14 : decode yB 14 = .ok (.iload 4, 2) := by decide +kernel
theorem d16 : decode yB 16 = .ok (.iload_n 2, 1) := by decide +kernel
theorem d17 : decode yB 17 = .ok (.if_icmp (.eq) 40, 3) := by decide +kernel
theorem d57 : decode yB 57 = .ok (.aload_n 3, 1) := by decide +kernel
theorem d58 : decode yB 58 = .ok (.areturn, 1) := by decide +kernel
def site : List Cond := [.arrayClass .byte, Cmp5.tab] ++ staticW U16 115 Cmp5.yN
def tab : Cond := tabOf yN yB 6 (some (.array .byte)) site
def P (b : Addr) (A : Cell) (o len : Nat) (args : Array Value) (s : State) : Prop := args = #[.ref b, .int (Int32.ofNat o), .int (Int32.ofNat len)] ∧ Ch b A s ∧ o + len ≤ A.slots.size ∧ len ≤ 536870912 ∧ ∀ i, i < len → ¬ 255 < cv A (o + i)
def E (b : Addr) (A : Cell) (o len : Nat) (r : Option Value) (s u : State) : Prop := NewArr .byte "[B" len (fun j => .int (lo8 (cv A (o + j)))) r s u ∧ u.heap.size = s.heap.size + 1
/-- no char of the range above 255: a new byte[] of their low bytes -/
theorem law (l : Launch) (b : Addr) (A : Cell) (o len : Nat) : Law l yN 3 3 1 18 yB 6 (some (.array .byte)) site (P b A o len) (E b A o len) [] 1 len := by
  refine Law.of_walk (plainFor_of_name (by decide +kernel)) (by decide +kernel) (by decide +kernel) (by decide) (fun _ _ h => by rw [h.1]; rfl) (fun _ U U' hal hh h => ⟨h.1, h.2.1.mv hal hh, h.2.2⟩) (fun r U U' V V' h1 hal h2 h => ⟨NewArr.mv r U U' V V' h1 hal h2 h.1, by rw [h1, h2]; exact h.2⟩) ?_
  intro p e s m args below meth c s₁ X0 hexec hbytes hml hret hlk hnm hown hh0 W hP
  obtain ⟨rfl, hA, l1, l2, hp⟩ := hP
  have a31 := hA.1.2.2.2
  have c1 : Steps p.tables e below (s₁.setTop (entryFrame m #[.ref b, .int (Int32.ofNat o), .int (Int32.ofNat len)] 6)) (s₁.setTop (mkF m 0 #[.val (.ref b), .val (.int (Int32.ofNat o)), .val (.int (Int32.ofNat len)), .unset, .unset, .unset] [])) := entry rfl
  have c2 : Steps p.tables e below (s₁.setTop (entryFrame m #[.ref b, .int (Int32.ofNat o), .int (Int32.ofNat len)] 6)) (s₁.setTop (mkF m 1 #[.val (.ref b), .val (.int (Int32.ofNat o)), .val (.int (Int32.ofNat len)), .unset, .unset, .unset] [.int (Int32.ofNat len)])) := c1.trans (by
    refine XS.iloadN X0.here hexec rfl (hb hbytes d0) rfl ?_
    exact Steps.refl _)
  obtain ⟨T3, B3, X3, ba3, bs3, bv3, bh3, bf3, st3⟩ := X0.anew hexec (atype := .byte) (wk W (.arrayClass .byte)) rfl (by show len * 1 ≤ _; omega) (by omega) (g := (mkF m 1 #[.val (.ref b), .val (.int (Int32.ofNat o)), .val (.int (Int32.ofNat len)), .unset, .unset, .unset] [.int (Int32.ofNat len)])) rfl (hb hbytes d1) (rest := []) rfl (Nat.le_refl _) (by show 0 + len ≤ len; omega)
  rw [hh0] at ba3 st3
  have kp3 : XT.Kept s T3 := (XT.Kept.of_eq hh0).push bh3
  have hA3 := hA.keep X3.warmed.alike (kp3 _ _ hA.1.1)
  have hne : b ≠ s.heap.size := hA.1.ne
  have c4 : Steps p.tables e below (s₁.setTop (entryFrame m #[.ref b, .int (Int32.ofNat o), .int (Int32.ofNat len)] 6)) (T3.setTop (mkF m 3 #[.val (.ref b), .val (.int (Int32.ofNat o)), .val (.int (Int32.ofNat len)), .unset, .unset, .unset] [.ref s.heap.size])) := c2.trans (st3 _ (Steps.refl _))
  have c5 : Steps p.tables e below (s₁.setTop (entryFrame m #[.ref b, .int (Int32.ofNat o), .int (Int32.ofNat len)] 6)) (T3.setTop (mkF m 9 #[.val (.ref b), .val (.int (Int32.ofNat o)), .val (.int (Int32.ofNat len)), .val (.ref s.heap.size), .unset, .unset] [.int (Int32.ofNat len), .int 0, .ref s.heap.size, .int (Int32.ofNat o), .ref b])) := c4.trans (by
    refine XS.astoreN X3.here hexec rfl (hb hbytes d3) rfl rfl rfl ?_
    refine XS.aloadN X3.here hexec rfl (hb hbytes d4) rfl rfl ?_
    refine XS.iloadN X3.here hexec rfl (hb hbytes d5) rfl ?_
    refine XS.aloadN X3.here hexec rfl (hb hbytes d6) rfl rfl ?_
    refine iconstV X3.here hexec rfl 0 (hb hbytes d7) (by decide) ?_
    refine XS.iloadN X3.here hexec rfl (hb hbytes d8) rfl ?_
    exact Steps.refl _)
  obtain ⟨v6, T6, X6, E6, g6⟩ := X3.callS hexec (Cmp5.law l b A s.heap.size B3 o 0 len) hown (wks W (staticW U16 115 Cmp5.yN)) (wk W Cmp5.tab) (W := 0) (Nat.le_of_ble_eq_true rfl) (Nat.le_of_ble_eq_true rfl) (Nat.le_refl _) (by show 0 + len + 0 ≤ len; omega) (g := (mkF m 9 #[.val (.ref b), .val (.int (Int32.ofNat o)), .val (.int (Int32.ofNat len)), .val (.ref s.heap.size), .unset, .unset] [.int (Int32.ofNat len), .int (Int32.ofNat 0), .ref s.heap.size, .int (Int32.ofNat o), .ref b])) rfl (by rw [hml]; rfl) c5 (argsL := [.ref b, .int (Int32.ofNat o), .ref s.heap.size, .int (Int32.ofNat 0), .int (Int32.ofNat len)]) (rest := []) rfl rfl (by show 2 * 0 + 0 ≤ _; decide) (hb hbytes d9) (⟨rfl, hA3, ba3, hne, l1, by rw [bs3]; simp, hp⟩)
  obtain ⟨rfl, B6, p6, f6⟩ := E6
  have c7 : Steps p.tables e below (s₁.setTop (entryFrame m #[.ref b, .int (Int32.ofNat o), .int (Int32.ofNat len)] 6)) (T6.setTop (mkF m 12 #[.val (.ref b), .val (.int (Int32.ofNat o)), .val (.int (Int32.ofNat len)), .val (.ref s.heap.size), .unset, .unset] [.int (Int32.ofNat len)])) := g6
  have c8 : Steps p.tables e below (s₁.setTop (entryFrame m #[.ref b, .int (Int32.ofNat o), .int (Int32.ofNat len)] 6)) (T6.setTop (mkF m 58 #[.val (.ref b), .val (.int (Int32.ofNat o)), .val (.int (Int32.ofNat len)), .val (.ref s.heap.size), .val (.int (Int32.ofNat len)), .unset] [.ref s.heap.size])) := c7.trans (by
    refine XS.istore X6.here hexec rfl (hb hbytes d12) rfl rfl ?_
    refine XS.iload X6.here hexec rfl (hb hbytes d14) rfl ?_
    refine XS.iloadN X6.here hexec rfl (hb hbytes d16) rfl ?_
    refine XS.icmpYes X6.here hexec rfl (pc0 := 17) rfl (hb hbytes d17) rfl (ii_eq_t rfl) (by decide) rfl ?_
    refine XS.aloadN X6.here hexec rfl (hb hbytes d57) rfl rfl ?_
    exact Steps.refl _)
  have X8 := X6.wide (L' := []) (cells' := 1) (slots' := len) (fun x hx hlt => by
    simp only [List.nil_append, copyLocs, List.mem_map, List.mem_range] at hx
    obtain ⟨i, -, rfl⟩ := hx
    exact absurd hlt (Nat.lt_irrefl _)) (Nat.le_refl _) (by omega)
  exact ⟨T6, some (.ref s.heap.size), _, _, _, X8, rfl, rfl, rfl, (fun h => by cases h), ⟨⟨rfl, B6, ba3.like (X3.warmed.alike.symm.trans X6.warmed.alike) p6.1 f6.1 f6.2.1 f6.2.2.1, f6.2.1.trans bv3, by rw [X6.warmed.alike.findClass, f6.1]; exact bf3, by rw [f6.2.2.1, bs3]; simp, fun j hj => by rw [f6.2.2.2 j, if_pos (by omega)]; rfl, kp3.put p6 (Nat.le_refl _)⟩, by rw [p6.2.2, bh3, hh0]; simp⟩, fun fs hl => c8.trans (X8.areturnOut hexec rfl hret rfl (hb hbytes d58) hl)⟩
end Cmp3
namespace CodL
def yN : MethodName := ⟨"java/lang/StringUTF16", "coderFromArrayLen", "([BI)B"⟩
abbrev yB : ByteArray := jdk_52_method_15_code
theorem d0 : decode yB 0 = .ok (.iload_n 1, 1) := by decide +kernel
theorem d1 : decode yB 1 = .ok (.aload_n 0, 1) := by decide +kernel
theorem d2 : decode yB 2 = .ok (.arraylength, 1) := by decide +kernel
theorem d3 : decode yB 3 = .ok (.isub, 1) := by decide +kernel
theorem d4 : decode yB 4 = .ok (.bipush 31, 2) := by decide +kernel
theorem d6 : decode yB 6 = .ok (.iushr, 1) := by decide +kernel
theorem d7 : decode yB 7 = .ok (.i2b, 1) := by decide +kernel
theorem d8 : decode yB 8 = .ok (.ireturn, 1) := by decide +kernel
def site : List Cond := []
def tab : Cond := tabOf yN yB 2 (some .byte) site
def P (d : Addr) (B : Cell) (args : Array Value) (s : State) : Prop := args = #[.ref d, .int (Int32.ofNat B.slots.size)] ∧ Arr .byte d B s
def E (r : Option Value) (s u : State) : Prop := XT.PureE (some (.int 0)) r s u
/-- an array as long as the number of chars: LATIN1 -/
theorem law (l : Launch) (d : Addr) (B : Cell) : Law l yN 2 2 0 0 yB 2 (some .byte) site (P d B) E [] 0 0 := by
  refine Law.of_walk (plainFor_of_name (by decide +kernel)) (by decide +kernel) (by decide +kernel) (by decide) (fun _ _ h => by rw [h.1]; rfl) (fun _ U U' hal hh h => ⟨h.1, h.2.mv hal hh⟩) (fun r U U' V V' h1 hal h2 h => XT.PureE.mv r U U' V V' h1 hal h2 h) ?_
  intro p e s m args below meth c s₁ X0 hexec hbytes hml hret hlk hnm hown hh0 W hP
  obtain ⟨rfl, hB⟩ := hP
  have hB0 := hB.mv X0.warmed.alike hh0
  have c1 : Steps p.tables e below (s₁.setTop (entryFrame m #[.ref d, .int (Int32.ofNat B.slots.size)] 2)) (s₁.setTop (mkF m 0 #[.val (.ref d), .val (.int (Int32.ofNat B.slots.size))] [])) := entry rfl
  have c2 : Steps p.tables e below (s₁.setTop (entryFrame m #[.ref d, .int (Int32.ofNat B.slots.size)] 2)) (s₁.setTop (mkF m 2 #[.val (.ref d), .val (.int (Int32.ofNat B.slots.size))] [.ref d, .int (Int32.ofNat B.slots.size)])) := c1.trans (by
    refine XS.iloadN X0.here hexec rfl (hb hbytes d0) rfl ?_
    refine XS.aloadN X0.here hexec rfl (hb hbytes d1) rfl rfl ?_
    exact Steps.refl _)
  have c3 : Steps p.tables e below (s₁.setTop (entryFrame m #[.ref d, .int (Int32.ofNat B.slots.size)] 2)) (s₁.setTop (mkF m 8 #[.val (.ref d), .val (.int (Int32.ofNat B.slots.size))] [.int (lo8 (ushr (Int32.ofNat B.slots.size - Int32.ofNat B.slots.size) 31))])) := c2.trans (by
    refine X0.alen hexec hB0 rfl rfl (hb hbytes d2) ?_
    refine XS.isub X0.here hexec rfl (hb hbytes d3) rfl ?_
    refine bipushV X0.here hexec rfl 31 (hb hbytes d4) (by decide) ?_
    refine iushr X0.here hexec rfl (hb hbytes d6) rfl ?_
    refine i2b X0.here hexec rfl (hb hbytes d7) rfl ?_
    exact Steps.refl _)
  have e0 : lo8 (ushr (Int32.ofNat B.slots.size - Int32.ofNat B.slots.size) 31) = 0 := by rw [Int32.sub_self]; decide
  rw [e0] at c3
  exact ⟨s₁, some (.int 0), _, _, _, X0, rfl, rfl, rfl, (fun h => by cases h), ⟨rfl, hh0⟩, fun fs hl => c3.trans (X0.ireturnOut hexec hret rfl (Or.inr (Or.inr (Or.inl rfl))) (hb hbytes d8) hl)⟩
end CodL
/-- the String at a is Latin-1 over a new byte[] (the heap's one new cell): the low bytes of the len chars of A from o on; every cell but a is kept -/
def Got (a : Addr) (D : Cell) (fV fC : Field) (A : Cell) (o len : Nat) (r : Option Value) (s u : State) : Prop := r = none ∧ ∃ D' V : Cell, Blank "java/lang/String" a D' u ∧ Same D D' [fV.slot, fC.slot] ∧ D'.slots[fV.slot]? = some (.ref s.heap.size) ∧ D'.slots[fC.slot]? = some (.int 0) ∧ Arr .byte s.heap.size V u ∧ V.vm = .none ∧ u.vm.findClass "[B" = some V.cls ∧ V.slots.size = len ∧ (∀ j, j < len → V.slots[j]? = some (.int (lo8 (cv A (o + j))))) ∧ (∀ (y : Addr) (c : Cell), y ≠ a → s.heap[y]? = some c → u.heap[y]? = some c) ∧ u.heap.size = s.heap.size + 1
theorem Got.mv {a : Addr} {D A : Cell} {fV fC : Field} {o len : Nat} : ∀ r (U U' V V' : State), U'.heap = U.heap → V.vm.Alike V'.vm → V'.heap = V.heap → Got a D fV fC A o len r U V → Got a D fV fC A o len r U' V' :=
  fun r U U' V V' h1 hal h2 ⟨e0, D', X, a1, a2, a3, a4, a5, a6, a7, a8, a9, a10, a11⟩ => ⟨e0, D', X, a1.mv hal h2, a2, by rw [h1]; exact a3, a4, by rw [h1]; exact a5.mv hal h2, a6, by rw [hal.findClass]; exact a7, a8, a9, by rw [h1, h2]; exact a10, by rw [h1, h2]; exact a11⟩
namespace New4
def yN : MethodName := ⟨"java/lang/String", "<init>", "([CIILjava/lang/Void;)V"⟩
abbrev yB : ByteArray := jdk_42_method_149_code
theorem d0 : decode yB 0 = .ok (.aload_n 0, 1) := by decide +kernel
theorem d1 : decode yB 1 = .ok (.invokespecial 1, 3) := by decide +kernel
theorem d4 : decode yB 4 = .ok (.iload_n 3, 1) := by decide +kernel
theorem d5 : decode yB 5 = .ok (.ifCond (.ne) 22, 3) := by decide +kernel
theorem d27 : decode yB 27 = .ok (.getstatic 38, 3) := by decide +kernel
theorem d30 : decode yB 30 = .ok (.ifCond (.eq) 28, 3) := by decide +kernel
theorem d33 : decode yB 33 = .ok (.aload_n 1, 1) := by decide +kernel
theorem d34 : decode yB 34 = .ok (.iload_n 2, 1) := by decide +kernel
theorem d35 : decode yB 35 = .ok (.iload_n 3, 1) := by decide +kernel
theorem d36 : decode yB 36 = .ok (.invokestatic 177, 3) := by decide +kernel
theorem d39 : decode yB 39 = .ok (.astore 5, 2) := by decide +kernel
theorem d41 : decode yB 41 = .ok (.aload_n 0, 1) := by decide +kernel
theorem d42 : decode yB 42 = .ok (.aload 5, 2) := by decide +kernel
theorem d44 : decode yB 44 = .ok (.iload_n 3, 1) := by decide +kernel
theorem d45 : decode yB 45 = .ok (.invokestatic 47, 3) := by decide +kernel
theorem d48 : decode yB 48 = .ok (.putfield 15, 3) := by decide +kernel
theorem d51 : decode yB 51 = .ok (.aload_n 0, 1) := by decide +kernel
theorem d52 : decode yB 52 = .ok (.aload 5, 2) := by decide +kernel
theorem d54 : decode yB 54 = .ok (.putfield 9, 3) := by decide +kernel
theorem d57 : decode yB 57 = .ok (.return_, 1) := by decide +kernel
def site : List Cond := [.fieldLink "java/lang/String" 38 "java/lang/String" "COMPACT_STRINGS" "Z", Cmp3.tab, CodL.tab, .laysFinal "java/lang/String" "java/lang/String" "value" "[B", .fieldLink "java/lang/String" 9 "java/lang/String" "value" "[B", .laysFinal "java/lang/String" "java/lang/String" "coder" "B", .fieldLink "java/lang/String" 15 "java/lang/String" "coder" "B"] ++ objW "java/lang/String" 1 ++ staticW "java/lang/String" 177 Cmp3.yN ++ staticW "java/lang/String" 47 CodL.yN
def tab : Cond := tabOf yN yB 6 none site
def P (a : Addr) (D : Cell) (fV fC : Field) (b : Addr) (A : Cell) (z : Int32) (o len : Nat) (args : Array Value) (s : State) : Prop := args = #[.ref a, .ref b, .int (Int32.ofNat o), .int (Int32.ofNat len), .null] ∧ Blank "java/lang/String" a D s ∧ Found "java/lang/String" "value" "[B" fV s ∧ Found "java/lang/String" "coder" "B" fC s ∧ Ch b A s ∧ StaticIs s "java/lang/String" "COMPACT_STRINGS" "Z" (.int z) ∧ ¬ z = 0 ∧ 0 < len ∧ o + len ≤ A.slots.size ∧ len ≤ 536870912 ∧ ∀ i, i < len → ¬ 255 < cv A (o + i)
def E (a : Addr) (D : Cell) (fV fC : Field) (A : Cell) (o len : Nat) (r : Option Value) (s u : State) : Prop := Got a D fV fC A o len r s u
/-- len > 0, no char of the range above 255: a Latin-1 String of their low bytes -/
theorem law (l : Launch) (a : Addr) (D : Cell) (fV fC : Field) (b : Addr) (A : Cell) (z : Int32) (o len : Nat) : Law l yN 5 4 2 35 yB 6 none site (P a D fV fC b A z o len) (E a D fV fC A o len) [⟨a, fC.slot⟩, ⟨a, fV.slot⟩] 1 len := by
  refine Law.of_walk (plainFor_of_name (by decide +kernel)) (by decide +kernel) (by decide +kernel) (by decide) (fun _ _ h => by rw [h.1]; rfl) (fun _ U U' hal hh h => ⟨h.1, h.2.1.mv hal hh, h.2.2.1.al hal, h.2.2.2.1.al hal, h.2.2.2.2.1.mv hal hh, h.2.2.2.2.2.1.there hal hh, h.2.2.2.2.2.2⟩) (fun r U U' V V' h1 hal h2 h => Got.mv r U U' V V' h1 hal h2 h) ?_
  intro p e s m args below meth c s₁ X0 hexec hbytes hml hret hlk hnm hown hh0 W hP
  obtain ⟨rfl, hB, f1, f2, hA, s1, hz, l0, l1, l2, hp⟩ := hP
  have a31 := hA.1.2.2.2
  have c1 : Steps p.tables e below (s₁.setTop (entryFrame m #[.ref a, .ref b, .int (Int32.ofNat o), .int (Int32.ofNat len), .null] 6)) (s₁.setTop (mkF m 0 #[.val (.ref a), .val (.ref b), .val (.int (Int32.ofNat o)), .val (.int (Int32.ofNat len)), .val .null, .unset] [])) := entry rfl
  have c2 : Steps p.tables e below (s₁.setTop (entryFrame m #[.ref a, .ref b, .int (Int32.ofNat o), .int (Int32.ofNat len), .null] 6)) (s₁.setTop (mkF m 1 #[.val (.ref a), .val (.ref b), .val (.int (Int32.ofNat o)), .val (.int (Int32.ofNat len)), .val .null, .unset] [.ref a])) := c1.trans (by
    refine XS.aloadN X0.here hexec rfl (hb hbytes d0) rfl rfl ?_
    exact Steps.refl _)
  obtain ⟨T3, X3, q3, st3⟩ := X0.oinit hexec hown (wks W (objW "java/lang/String" 1)) (g := (mkF m 1 #[.val (.ref a), .val (.ref b), .val (.int (Int32.ofNat o)), .val (.int (Int32.ofNat len)), .val .null, .unset] [.ref a])) rfl (by rw [hml]; rfl) (rest := []) rfl (hb hbytes d1) (W := 0) (by show 2 * 0 + 0 ≤ _; decide) (Nat.le_of_ble_eq_true rfl) (Nat.le_of_ble_eq_true rfl)
  have hh3 := q3.trans hh0
  have c4 : Steps p.tables e below (s₁.setTop (entryFrame m #[.ref a, .ref b, .int (Int32.ofNat o), .int (Int32.ofNat len), .null] 6)) (T3.setTop (mkF m 27 #[.val (.ref a), .val (.ref b), .val (.int (Int32.ofNat o)), .val (.int (Int32.ofNat len)), .val .null, .unset] [])) := (c2.trans (st3 _ (Steps.refl _))).trans (by
    refine XS.iloadN X3.here hexec rfl (hb hbytes d4) rfl ?_
    refine XS.ifYes X3.here hexec rfl (pc0 := 5) rfl (hb hbytes d5) rfl (i0_ne_t (nz32 (by omega) l0)) (by decide) rfl ?_
    exact Steps.refl _)
  obtain ⟨T5, X5, q5, st5⟩ := X3.sget hexec hown (wk W (.fieldLink "java/lang/String" 38 "java/lang/String" "COMPACT_STRINGS" "Z")) s1 (fun _ _ h => by rw [hh3]; exact h) (g := (mkF m 27 #[.val (.ref a), .val (.ref b), .val (.int (Int32.ofNat o)), .val (.int (Int32.ofNat len)), .val .null, .unset] [])) rfl (hb hbytes d27)
  have hh5 := q5.trans hh3
  have c6 : Steps p.tables e below (s₁.setTop (entryFrame m #[.ref a, .ref b, .int (Int32.ofNat o), .int (Int32.ofNat len), .null] 6)) (T5.setTop (mkF m 30 #[.val (.ref a), .val (.ref b), .val (.int (Int32.ofNat o)), .val (.int (Int32.ofNat len)), .val .null, .unset] [.int z])) := c4.trans (st5 _ (Steps.refl _))
  have c7 : Steps p.tables e below (s₁.setTop (entryFrame m #[.ref a, .ref b, .int (Int32.ofNat o), .int (Int32.ofNat len), .null] 6)) (T5.setTop (mkF m 36 #[.val (.ref a), .val (.ref b), .val (.int (Int32.ofNat o)), .val (.int (Int32.ofNat len)), .val .null, .unset] [.int (Int32.ofNat len), .int (Int32.ofNat o), .ref b])) := c6.trans (by
    refine XS.ifNo X5.here hexec rfl (hb hbytes d30) rfl (i0_eq_f hz) ?_
    refine XS.aloadN X5.here hexec rfl (hb hbytes d33) rfl rfl ?_
    refine XS.iloadN X5.here hexec rfl (hb hbytes d34) rfl ?_
    refine XS.iloadN X5.here hexec rfl (hb hbytes d35) rfl ?_
    exact Steps.refl _)
  obtain ⟨v8, T8, X8, E8, g8⟩ := X5.callS hexec (Cmp3.law l b A o len) hown (wks W (staticW "java/lang/String" 177 Cmp3.yN)) (wk W Cmp3.tab) (W := 0) (Nat.le_of_ble_eq_true rfl) (Nat.le_of_ble_eq_true rfl) (Nat.le_refl _) (by show 0 + len ≤ len; omega) (g := (mkF m 36 #[.val (.ref a), .val (.ref b), .val (.int (Int32.ofNat o)), .val (.int (Int32.ofNat len)), .val .null, .unset] [.int (Int32.ofNat len), .int (Int32.ofNat o), .ref b])) rfl (by rw [hml]; rfl) c7 (argsL := [.ref b, .int (Int32.ofNat o), .int (Int32.ofNat len)]) (rest := []) rfl rfl (by show 2 * 0 + 0 ≤ _; decide) (hb hbytes d36) (⟨rfl, hA.mv X5.warmed.alike hh5, l1, l2, hp⟩)
  obtain ⟨e8, z8⟩ := E8
  obtain ⟨rfl, N, n1, n2, n3, n4, n5, n6⟩ := NewArr.mv _ T5 s _ _ hh5.symm (Vm.Alike.refl _) rfl e8
  rw [hh5] at z8
  have hB1 := hB.keep X8.warmed.alike (n6 _ _ hB.1)
  have hne : s.heap.size ≠ a := (Nat.ne_of_lt (Array.getElem?_eq_some_iff.mp hB.1).1).symm
  have c9 : Steps p.tables e below (s₁.setTop (entryFrame m #[.ref a, .ref b, .int (Int32.ofNat o), .int (Int32.ofNat len), .null] 6)) (T8.setTop (mkF m 39 #[.val (.ref a), .val (.ref b), .val (.int (Int32.ofNat o)), .val (.int (Int32.ofNat len)), .val .null, .unset] [.ref s.heap.size])) := g8
  have c10 : Steps p.tables e below (s₁.setTop (entryFrame m #[.ref a, .ref b, .int (Int32.ofNat o), .int (Int32.ofNat len), .null] 6)) (T8.setTop (mkF m 45 #[.val (.ref a), .val (.ref b), .val (.int (Int32.ofNat o)), .val (.int (Int32.ofNat len)), .val .null, .val (.ref s.heap.size)] [.int (Int32.ofNat N.slots.size), .ref s.heap.size, .ref a])) := by
    have hc : Steps p.tables e below (s₁.setTop (entryFrame m #[.ref a, .ref b, .int (Int32.ofNat o), .int (Int32.ofNat len), .null] 6)) (T8.setTop (mkF m 45 #[.val (.ref a), .val (.ref b), .val (.int (Int32.ofNat o)), .val (.int (Int32.ofNat len)), .val .null, .val (.ref s.heap.size)] [.int (Int32.ofNat len), .ref s.heap.size, .ref a])) := c9.trans (by
      refine XS.astore X8.here hexec rfl (hb hbytes d39) rfl rfl rfl ?_
      refine XS.aloadN X8.here hexec rfl (hb hbytes d41) rfl rfl ?_
      refine XS.aload X8.here hexec rfl (hb hbytes d42) rfl rfl ?_
      refine XS.iloadN X8.here hexec rfl (hb hbytes d44) rfl ?_
      exact Steps.refl _)
    rw [n4]; exact hc
  obtain ⟨v11, T11, X11, E11, g11⟩ := X8.callS hexec (CodL.law l s.heap.size N) hown (wks W (staticW "java/lang/String" 47 CodL.yN)) (wk W CodL.tab) (W := 1) (Nat.le_of_ble_eq_true rfl) (Nat.le_of_ble_eq_true rfl) (Nat.le_refl _) (by show 0 + len + 0 ≤ len; omega) (g := (mkF m 45 #[.val (.ref a), .val (.ref b), .val (.int (Int32.ofNat o)), .val (.int (Int32.ofNat len)), .val .null, .val (.ref s.heap.size)] [.int (Int32.ofNat N.slots.size), .ref s.heap.size, .ref a])) rfl (by rw [hml]; rfl) c10 (argsL := [.ref s.heap.size, .int (Int32.ofNat N.slots.size)]) (rest := [.ref a]) rfl rfl (by show 2 * 0 + (1 + 0) ≤ _; decide) (hb hbytes d45) (⟨rfl, n1⟩)
  obtain ⟨rfl, q11⟩ := E11
  have hB11 := hB1.mv (X8.warmed.alike.symm.trans X11.warmed.alike) q11
  have c12 : Steps p.tables e below (s₁.setTop (entryFrame m #[.ref a, .ref b, .int (Int32.ofNat o), .int (Int32.ofNat len), .null] 6)) (T11.setTop (mkF m 48 #[.val (.ref a), .val (.ref b), .val (.int (Int32.ofNat o)), .val (.int (Int32.ofNat len)), .val .null, .val (.ref s.heap.size)] [.int 0, .ref a])) := g11
  obtain ⟨T13, X13, p13, bl13, sl13, st13⟩ := X11.finit hexec hown (wk W (.fieldLink "java/lang/String" 15 "java/lang/String" "coder" "B")) (Or.inr ⟨_, (wk W (.laysFinal "java/lang/String" "java/lang/String" "coder" "B"))⟩) (Or.inl ⟨rfl, hnm⟩) f2 (Or.inl rfl) hB11 (t := .byte) (by decide +kernel) rfl (g := (mkF m 48 #[.val (.ref a), .val (.ref b), .val (.int (Int32.ofNat o)), .val (.int (Int32.ofNat len)), .val .null, .val (.ref s.heap.size)] [.int 0, .ref a])) rfl (rest := []) rfl (hb hbytes d48)
  have c14 : Steps p.tables e below (s₁.setTop (entryFrame m #[.ref a, .ref b, .int (Int32.ofNat o), .int (Int32.ofNat len), .null] 6)) (T13.setTop (mkF m 54 #[.val (.ref a), .val (.ref b), .val (.int (Int32.ofNat o)), .val (.int (Int32.ofNat len)), .val .null, .val (.ref s.heap.size)] [.ref s.heap.size, .ref a])) := (c12.trans (st13 _ (Steps.refl _))).trans (by
    refine XS.aloadN X13.here hexec rfl (hb hbytes d51) rfl rfl ?_
    refine XS.aload X13.here hexec rfl (hb hbytes d52) rfl rfl ?_
    exact Steps.refl _)
  obtain ⟨T15, X15, p15, bl15, sl15, st15⟩ := X13.finit hexec hown (wk W (.fieldLink "java/lang/String" 9 "java/lang/String" "value" "[B")) (Or.inr ⟨_, (wk W (.laysFinal "java/lang/String" "java/lang/String" "value" "[B"))⟩) (Or.inl ⟨rfl, hnm⟩) f1 (Or.inl rfl) bl13 (t := (.array .byte)) (by decide +kernel) rfl (g := (mkF m 54 #[.val (.ref a), .val (.ref b), .val (.int (Int32.ofNat o)), .val (.int (Int32.ofNat len)), .val .null, .val (.ref s.heap.size)] [.ref s.heap.size, .ref a])) rfl (rest := []) rfl (hb hbytes d54)
  have c16 : Steps p.tables e below (s₁.setTop (entryFrame m #[.ref a, .ref b, .int (Int32.ofNat o), .int (Int32.ofNat len), .null] 6)) (T15.setTop (mkF m 57 #[.val (.ref a), .val (.ref b), .val (.int (Int32.ofNat o)), .val (.int (Int32.ofNat len)), .val .null, .val (.ref s.heap.size)] [])) := c14.trans (st15 _ (Steps.refl _))
  have ap := apart (Or.inr ⟨_, (wk W (.laysFinal "java/lang/String" "java/lang/String" "value" "[B"))⟩) (Or.inr ⟨_, (wk W (.laysFinal "java/lang/String" "java/lang/String" "coder" "B"))⟩) f1 f2 (t₁ := .array .byte) (t₂ := .byte) (by decide +kernel) (by decide +kernel) (by decide)
  have al := X8.warmed.alike.symm.trans X15.warmed.alike
  have n7 : T11.heap[s.heap.size]? = some N := by rw [q11]; exact n1.1
  exact ⟨T15, none, _, _, _, X15, by simp, rfl, by omega, (fun _ => rfl), ⟨rfl, _, N, bl15, ((Same.refl D _).set _ (by simp)).set _ (by simp), sl15, (Cell.slots_setSlot_ne _ ap).trans sl13, n1.keep al (p15.other hne (p13.other hne n7)), n2, by rw [al.findClass]; exact n3, n4, n5, fun y c h1 h2 => p15.other h1 (p13.other h1 (by rw [q11]; exact n6 y c h2)), by rw [p15.2.2, p13.2.2, q11]; exact z8⟩, fun fs hl => c16.trans (X15.returnOut hexec hret (hb hbytes d57) hl)⟩
end New4
namespace New1
def yN : MethodName := ⟨"java/lang/String", "<init>", "([C)V"⟩
abbrev yB : ByteArray := jdk_42_method_3_code
theorem d0 : decode yB 0 = .ok (.aload_n 0, 1) := by decide +kernel
theorem d1 : decode yB 1 = .ok (.aload_n 1, 1) := by decide +kernel
theorem d2 : decode yB 2 = .ok (.iconst 0, 1) := by decide +kernel
theorem d3 : decode yB 3 = .ok (.aload_n 1, 1) := by decide +kernel
theorem d4 : decode yB 4 = .ok (.arraylength, 1) := by decide +kernel
theorem d5 : decode yB 5 = .ok (.aconst_null, 1) := by decide +kernel
theorem d6 : decode yB 6 = .ok (.invokespecial 27, 3) := by decide +kernel
theorem d9 : decode yB 9 = .ok (.return_, 1) := by decide +kernel
def site : List Cond := [New4.tab] ++ initW "java/lang/String" 27 New4.yN
def tab : Cond := tabOf yN yB 2 none site
def P (a : Addr) (D : Cell) (fV fC : Field) (b : Addr) (A : Cell) (z : Int32) (args : Array Value) (s : State) : Prop := args = #[.ref a, .ref b] ∧ Blank "java/lang/String" a D s ∧ Found "java/lang/String" "value" "[B" fV s ∧ Found "java/lang/String" "coder" "B" fC s ∧ Ch b A s ∧ StaticIs s "java/lang/String" "COMPACT_STRINGS" "Z" (.int z) ∧ ¬ z = 0 ∧ 0 < A.slots.size ∧ A.slots.size ≤ 536870912 ∧ ∀ i, i < A.slots.size → ¬ 255 < cv A i
def E (a : Addr) (D : Cell) (fV fC : Field) (A : Cell) (r : Option Value) (s u : State) : Prop := Got a D fV fC A 0 A.slots.size r s u
/-- new String(chars), not empty, no char above 255: a Latin-1 String of their low bytes -/
theorem law (l : Launch) (a : Addr) (D : Cell) (fV fC : Field) (b : Addr) (A : Cell) (z : Int32) : Law l yN 2 1 3 52 yB 2 none site (P a D fV fC b A z) (E a D fV fC A) [⟨a, fC.slot⟩, ⟨a, fV.slot⟩] 1 A.slots.size := by
  refine Law.of_walk (plainFor_of_name (by decide +kernel)) (by decide +kernel) (by decide +kernel) (by decide) (fun _ _ h => by rw [h.1]; rfl) (fun _ U U' hal hh h => ⟨h.1, h.2.1.mv hal hh, h.2.2.1.al hal, h.2.2.2.1.al hal, h.2.2.2.2.1.mv hal hh, h.2.2.2.2.2.1.there hal hh, h.2.2.2.2.2.2⟩) (fun r U U' V V' h1 hal h2 h => Got.mv r U U' V V' h1 hal h2 h) ?_
  intro p e s m args below meth c s₁ X0 hexec hbytes hml hret hlk hnm hown hh0 W hP
  obtain ⟨rfl, hB, f1, f2, hA, s1, hz, l0, l2, hp⟩ := hP
  have c1 : Steps p.tables e below (s₁.setTop (entryFrame m #[.ref a, .ref b] 2)) (s₁.setTop (mkF m 0 #[.val (.ref a), .val (.ref b)] [])) := entry rfl
  have c2 : Steps p.tables e below (s₁.setTop (entryFrame m #[.ref a, .ref b] 2)) (s₁.setTop (mkF m 6 #[.val (.ref a), .val (.ref b)] [.null, .int (Int32.ofNat A.slots.size), .int 0, .ref b, .ref a])) := c1.trans (by
    refine XS.aloadN X0.here hexec rfl (hb hbytes d0) rfl rfl ?_
    refine XS.aloadN X0.here hexec rfl (hb hbytes d1) rfl rfl ?_
    refine iconstV X0.here hexec rfl 0 (hb hbytes d2) (by decide) ?_
    refine XS.aloadN X0.here hexec rfl (hb hbytes d3) rfl rfl ?_
    refine X0.alen hexec (hA.1.mv X0.warmed.alike hh0) rfl rfl (hb hbytes d4) ?_
    refine XS.aconstNull X0.here hexec rfl (hb hbytes d5) ?_
    exact Steps.refl _)
  obtain ⟨v3, T3, X3, E3, g3⟩ := X0.callN hexec (New4.law l a D fV fC b A z 0 A.slots.size) rfl hown (wks W (initW "java/lang/String" 27 New4.yN)) (W New4.tab (by simp only [site, List.mem_cons, List.mem_append, true_or, or_true])) (W := 0) (Nat.le_of_ble_eq_true rfl) (Nat.le_of_ble_eq_true rfl) (Nat.le_refl _) (by show 0 + A.slots.size ≤ A.slots.size; omega) (g := (mkF m 6 #[.val (.ref a), .val (.ref b)] [.null, .int (Int32.ofNat A.slots.size), .int (Int32.ofNat 0), .ref b, .ref a])) rfl (by rw [hml]; rfl) c2 (argsL := [.ref b, .int (Int32.ofNat 0), .int (Int32.ofNat A.slots.size), .null]) (rest := []) rfl rfl (by show 2 * 0 + 0 ≤ _; decide) (hb hbytes d6) (⟨rfl, hB.mv X0.warmed.alike hh0, f1.al X0.warmed.alike, f2.al X0.warmed.alike, hA.mv X0.warmed.alike hh0, s1.there X0.warmed.alike hh0, hz, l0, by omega, l2, fun i hi => by rw [Nat.zero_add]; exact hp i hi⟩)
  have e0 := Got.mv _ s₁ s _ _ hh0.symm (Vm.Alike.refl _) rfl E3
  obtain rfl := e0.1
  have c4 : Steps p.tables e below (s₁.setTop (entryFrame m #[.ref a, .ref b] 2)) (T3.setTop (mkF m 9 #[.val (.ref a), .val (.ref b)] [])) := g3
  exact ⟨T3, none, _, _, _, X3, by simp, rfl, by omega, (fun _ => rfl), e0, fun fs hl => c4.trans (X3.returnOut hexec hret (hb hbytes d9) hl)⟩
theorem pays {l : Launch} {R : Room} {p : Program} {e : Env} {below : List Frame} {s : State} {sargs : Array Value} {len W : Nat} (a : Addr) (D : Cell) (fV fC : Field) (b : Addr) (A : Cell) (z : Int32) (htab : tab.before sargs s = true) (hfr : 4 ≤ R.frames) (hlo : W + 65 ≤ R.locals) :
    Back l R p e below s sargs yN len W (fun A₁ a₁ => A₁.cells + 1 ≤ R.cells ∧ A₁.slots + A.slots.size ≤ R.slots ∧ P a D fV fC b A z a₁ A₁.U) (fun A₁ _ v₁ B₁ => E a D fV fC A v₁ A₁.U B₁.U ∧ B₁.locs = A₁.locs ++ [⟨a, fC.slot⟩, ⟨a, fV.slot⟩] ∧ B₁.cells = A₁.cells + 1 ∧ B₁.slots = A₁.slots + A.slots.size) :=
  (law l a D fV fC b A z).pays htab hfr (by omega)
end New1
/-- the byte, read back as charAt reads it, is the char -/
theorem lo8_mask {x : Int32} (h0 : ¬ x < 0) (h1 : ¬ 255 < x) : lo8 x &&& 255 = x := by
  have t : ∀ k : Fin 256, lo8 (Int32.ofNat k.val) &&& 255 = Int32.ofNat k.val := by decide +kernel
  rw [Int32.lt_iff_toInt_lt] at h0 h1
  have e0 : (0 : Int32).toInt = 0 := rfl
  have e1 : (255 : Int32).toInt = 255 := rfl
  obtain ⟨k, hk⟩ : ∃ k : Nat, x.toInt = k := ⟨x.toInt.toNat, by omega⟩
  have hx : x = Int32.ofNat k := Int32.toInt_inj.mp (by rw [hk, Int32.toInt_ofNat_small (by omega)])
  rw [hx]
  exact t ⟨k, by omega⟩
end StrChars
namespace StrChars.Road
open Jvm Sem ClassFile Op Lib Jvm.Stand Jvm.Free Jvm.Free.XT
open Jvm.Lib.Cold (StaticIs)
abbrev ST : String := "java/lang/String"
/-- every table word that New1's law asks, flat -/
abbrev words : List Jvm.Cond := [.code New1.yN New1.yB 2 none, .initialized ST, .methodLink ST 27 New4.yN, .instanceMethod New4.yN,
  .code New4.yN New4.yB 6 none, .fieldLink ST 38 ST "COMPACT_STRINGS" "Z", .laysFinal ST ST "value" "[B", .fieldLink ST 9 ST "value" "[B", .laysFinal ST ST "coder" "B", .fieldLink ST 15 ST "coder" "B",
  .methodLink ST 1 Lib.objectInit, .instanceMethod Lib.objectInit, .code Lib.objectInit ⟨#[0xb1]⟩ 1 none, .methodLink ST 177 Cmp3.yN, .static Cmp3.yN, .methodLink ST 47 CodL.yN, .static CodL.yN,
  .code Cmp3.yN Cmp3.yB 6 (some (.array .byte)), .initialized U16, .arrayClass .byte, .methodLink U16 115 Cmp5.yN, .static Cmp5.yN, .code Cmp5.yN Cmp5.yB 7 (some .int), .code CodL.yN CodL.yB 2 (some .byte)]
theorem tab_of {a : Array Value} {s : State} (h : ∀ w ∈ words, w.before a s = true) : New1.tab.before a s = true := by
  have h5 : Cmp5.tab.before a s = true := unparts (wk h (.code Cmp5.yN Cmp5.yB 7 (some .int))) (wks h (.initialized Cmp5.yN.cls :: Cmp5.site))
  have hc : CodL.tab.before a s = true := unparts (wk h (.code CodL.yN CodL.yB 2 (some .byte))) (wks h (.initialized CodL.yN.cls :: CodL.site))
  have q5 : ∀ w ∈ Cmp5.tab :: words, w.before a s = true := fun w hw => (List.mem_cons.mp hw).elim (fun e => e ▸ h5) (h w)
  have h3 : Cmp3.tab.before a s = true := unparts (wk q5 (.code Cmp3.yN Cmp3.yB 6 (some (.array .byte)))) (wks q5 (.initialized Cmp3.yN.cls :: Cmp3.site))
  have q3 : ∀ w ∈ Cmp3.tab :: CodL.tab :: words, w.before a s = true := fun w hw => (List.mem_cons.mp hw).elim (fun e => e ▸ h3) fun hw => (List.mem_cons.mp hw).elim (fun e => e ▸ hc) (h w)
  have h4 : New4.tab.before a s = true := unparts (wk q3 (.code New4.yN New4.yB 6 none)) (wks q3 (.initialized New4.yN.cls :: New4.site))
  have q4 : ∀ w ∈ New4.tab :: words, w.before a s = true := fun w hw => (List.mem_cons.mp hw).elim (fun e => e ▸ h4) (h w)
  exact unparts (wk q4 (.code New1.yN New1.yB 2 none)) (wks q4 (.initialized New1.yN.cls :: New1.site))
/-- the words ride from the start Z to the walk's own state -/
theorem moved {Z s : State} {a0 args : Array Value} (hZ : Z.Warmed39 s.vm) (hw : ∀ d ∈ words, d.before a0 Z = true) : ∀ d ∈ words, d.before args s = true := fun d hd => by
  have q := hw d hd
  have t : ∀ d ∈ words, d = .arrayClass .byte ∨ (d.onTables && d.keepsFace) = true := by decide +kernel
  rcases t d hd with rfl | t
  · exact RoadKit.mvA hZ q
  · exact RoadKit.mv hZ q t
/-- WHAT COMES BACK, over the tables of the start Z: h the heap at the call, h' behind it -/
def Q (Z : State) (x : Addr) (A : Cell) (h : Heap) (v : Option Value) (h' : Heap) (L : List Loc) : Prop := v = none ∧ (∀ y ∈ L, y.base = x) ∧ RoadKit.Keep h h' [x] ∧ h'.size = h.size + 1 ∧ RoadKit.Exa Z h' x ST ∧ RoadKit.Fld Z h' x ST "value" "[B" (.ref h.size) ∧ RoadKit.Fld Z h' x ST "coder" "B" (.int 0) ∧
  (∃ V : Cell, RoadKit.Arr Z h' h.size V .byte ∧ V.vm = .none ∧ Z.vm.findClass "[B" = some V.cls ∧ V.slots.size = A.slots.size ∧ ∀ j, j < A.slots.size → V.slots[j]? = some (.int (lo8 (cv A j)))) ∧
  ∀ (O n d : String) (w : Value), RoadKit.Fld Z h x O n d w → RoadKit.slotOf Z O n d ≠ RoadKit.slotOf Z ST "value" "[B" → RoadKit.slotOf Z O n d ≠ RoadKit.slotOf Z ST "coder" "B" → RoadKit.Fld Z h' x O n d w
/-- **new String(chars) AT A CALL, IN THE ROAD'S FORM**: for specialBack behind newO: x the fresh String, b the char[] with the cell A -/
theorem back {p : Program} {l : Launch} {e : Env} {R : Room} {s : State} {args : Array Value} {below : List Frame} {len W : Nat} {Z : State} {a0 : Array Value} {h : Heap} (hZ : Z.Warmed39 s.vm) (hw : ∀ d ∈ words, d.before a0 Z = true) {kI : Nat} (wi : (Jvm.Cond.instantiable ST kI).before a0 Z = true)
    {x b : Addr} {A : Cell} {z : Int32} {v0 c0 : Value} (E : RoadKit.Exa Z h x ST) (V : RoadKit.Fld Z h x ST "value" "[B" v0) (C : RoadKit.Fld Z h x ST "coder" "B" c0) (K : RoadKit.Arr Z h b A .char) (hty : Typed .char A) (S : RoadKit.Sta Z h ST "COMPACT_STRINGS" "Z" (.int z)) (hz : ¬ z = 0)
    (l0 : 0 < A.slots.size) (l2 : A.slots.size ≤ 536870912) (hp : ∀ i, i < A.slots.size → ¬ 255 < cv A i) (hfr : 4 ≤ R.frames) (hlo : W + 65 ≤ R.locals) :
    Back l R p e below s args New1.yN len W (fun P a => a = #[.ref x, .ref b] ∧ P.U.heap = h ∧ P.cells + 1 ≤ R.cells ∧ P.slots + A.slots.size ≤ R.slots)
      (fun P _ v B => ∃ L, Q Z x A h v B.U.heap L ∧ B.locs = P.locs ++ L ∧ B.cells = P.cells + 1 ∧ B.slots = P.slots + A.slots.size) := by
  intro m meth c P g ig mk a X hg hsize hdg hW hn hp'
  obtain ⟨rfl, rfl, r1, r2⟩ := hp'
  have al : Z.vm.Alike P.U.vm := hZ.alike.trans X.warmed.alike
  obtain ⟨D, cfV, kV, iV, fV, hD, gV, stV, knV, obV, asV, slV⟩ := id V
  obtain ⟨D', cfC, kC, iC, fC, hD', gC, stC, -, -, asC, slC⟩ := id C
  cases hD.symm.trans hD'
  obtain ⟨D2, kD, e1, e2, e3, e4, e5⟩ := id E
  cases hD.symm.trans e1
  obtain ⟨c2, k2, i1, i2, i3, -⟩ := Cond.instantiable_spec wi
  cases e2.symm.trans i1
  cases e3.symm.trans i2
  obtain ⟨kU, u1, u2⟩ := al.2.2 _ _ e3
  have hB : Blank ST x D P.U := ⟨hD, ⟨knV, fun q hq => by rw [hq] at obV; cases obV⟩, by rw [al.findClass]; exact e2, kU, u1, by rw [u2]; exact i3, by rw [u2]; exact e5 i3⟩
  have F1 : Found ST "value" "[B" fV P.U := ⟨SBG.found_only al ⟨cfV, kV, iV, gV⟩, stV⟩
  have F2 : Found ST "coder" "B" fC P.U := ⟨SBG.found_only al ⟨cfC, kC, iC, gC⟩, stC⟩
  have hA : Ch b A P.U := ⟨⟨K.1, State.isArrayOf_alike al K.2.1, K.2.2, by omega⟩, hty⟩
  have hS : StaticIs P.U ST "COMPACT_STRINGS" "Z" (.int z) := by
    obtain ⟨cfS, iS, kS, fS, st, cS, t1, t2, t3, t4, t5, t6, t7⟩ := S
    exact StaticIs.there (s := { Z with heap := P.U.heap }) ⟨cfS, iS, kS, fS, st, cS, t1, t2, t3, t4, t5, (fun q => by rw [q] at t6; cases t6), t7⟩ al rfl
  obtain ⟨v, B, X', ⟨⟨hv, E', V', q1, q2, q3, q4, q5, q6, q7, q8, q9, q10, q11⟩, hl, hc, hs⟩, st⟩ := New1.pays x D fV fC b A z (tab_of (moved hZ hw)) hfr hlo m meth c P g ig mk _ X hg hsize hdg hW hn ⟨r1, r2, rfl, hB, F1, F2, hA, hS, hz, l0, l2, hp⟩
  have al' : Z.vm.Alike B.U.vm := hZ.alike.trans X'.warmed.alike
  have hsz : E'.slots.size = D.slots.size := by
    obtain ⟨-, -, -, kB, w1, w2, w3⟩ := q1
    obtain ⟨kB', y1, y2⟩ := al'.2.2 _ _ e3
    rw [q2.2.1] at w1
    cases w1.symm.trans y1
    rw [w3, e5 i3, y2]
  refine ⟨v, B, X', ⟨_, ⟨hv, ?_, ⟨by omega, fun y cy hy hn' => q10 y cy (by simpa using hn') hy, fun y cy hy => ?_⟩, q11, ⟨E', _, q1.1, by rw [q2.2.1]; exact e2, by rw [q2.2.1]; exact e3, by rw [q2.1]; exact obV, fun _ => by rw [hsz]; exact e5 i3⟩,
    ⟨E', cfV, kV, iV, fV, q1.1, gV, stV, by rw [q2.1]; exact knV, by rw [q2.1]; exact obV, by rw [q2.2.1]; exact asV, q3⟩, ⟨E', cfC, kC, iC, fC, q1.1, gC, stC, by rw [q2.1]; exact knV, by rw [q2.1]; exact obV, by rw [q2.2.1]; exact asC, q4⟩,
    ⟨V', ⟨q5.1, State.isArrayOf_alike al'.symm q5.2.1, q5.2.2.1⟩, q6, by rw [← al'.findClass]; exact q7, q8, fun j hj => by have := q9 j hj; rwa [Nat.zero_add] at this⟩, fun O n d w F n1 n2 => ?_⟩, hl, hc, hs⟩, st⟩
  · intro y hy
    simp only [List.mem_cons, List.not_mem_nil, or_false] at hy
    rcases hy with rfl | rfl <;> rfl
  · by_cases q : y = x
    · subst q
      cases hD.symm.trans hy
      exact ⟨E', q1.1, q2.2.1, q2.1, hsz⟩
    · exact ⟨cy, q10 y cy q hy, rfl, rfl, rfl⟩
  · obtain ⟨D3, cf, k, i, f, g1, g2, g3, g4, g5, g6, g7⟩ := F
    cases hD.symm.trans g1
    simp only [RoadKit.slotOf, g2, gV, gC, Option.map_some, Option.getD_some] at n1 n2
    exact ⟨E', cf, k, i, f, q1.1, g2, g3, by rw [q2.1]; exact g4, by rw [q2.1]; exact g5, by rw [q2.2.1]; exact g6, by rw [q2.2.2 f.slot (by simp [n1, n2])]; exact g7⟩
end StrChars.Road
namespace StrChars.Road
open Jvm Sem ClassFile Op Lib Jvm.Stand Jvm.Free Jvm.Free.XT
/-- WHAT COMES BACK, the byte[] as a list of values -/
def QA (Z : State) (x : Addr) (zn : Int32) (cs : List Int32) (h : Heap) (v : Option Value) (h' : Heap) (L : List Loc) : Prop := v = none ∧ (∀ y ∈ L, y.base = x) ∧ RoadKit.Keep h h' [x] ∧ h'.size = h.size + 1 ∧ RoadKit.Exa Z h' x ST ∧ RoadKit.Fld Z h' x ST "value" "[B" (.ref h.size) ∧ RoadKit.Fld Z h' x ST "coder" "B" (.int 0) ∧
  (∃ kb, Z.vm.findClass "[B" = some kb ∧ RoadKit.Arv Z h' h.size kb .byte zn (cs.map fun c => .int (lo8 c)) (.int 0)) ∧
  ∀ (O n d : String) (w : Value), RoadKit.Fld Z h x O n d w → RoadKit.slotOf Z O n d ≠ RoadKit.slotOf Z ST "value" "[B" → RoadKit.slotOf Z O n d ≠ RoadKit.slotOf Z ST "coder" "B" → RoadKit.Fld Z h' x O n d w
/-- **new String(chars) AT A CALL, THE ARRAYS AS LISTS**: the char[] at b holds cs, not empty, no char above 255 -/
theorem backArv {p : Program} {l : Launch} {e : Env} {R : Room} {s : State} {args : Array Value} {below : List Frame} {len W : Nat} {Z : State} {a0 : Array Value} {h : Heap} (hZ : Z.Warmed39 s.vm) (hw : ∀ d ∈ words, d.before a0 Z = true) {kI : Nat} (wi : (Jvm.Cond.instantiable ST kI).before a0 Z = true)
    {x b : Addr} {k : ClassId} {zn z : Int32} {cs : List Int32} {dv v0 c0 : Value} (E : RoadKit.Exa Z h x ST) (V : RoadKit.Fld Z h x ST "value" "[B" v0) (C : RoadKit.Fld Z h x ST "coder" "B" c0) (K : RoadKit.Arv Z h b k .char zn (cs.map Value.int) dv) (S : RoadKit.Sta Z h ST "COMPACT_STRINGS" "Z" (.int z)) (hz : ¬ z = 0)
    (hlen : zn.toNatClampNeg = cs.length) (h0 : 0 < cs.length) (hbig : cs.length ≤ 536870912) (hall : ∀ c ∈ cs, ¬ 255 < c) (hfr : 4 ≤ R.frames) (hlo : W + 65 ≤ R.locals) :
    Back l R p e below s args New1.yN len W (fun P a => a = #[.ref x, .ref b] ∧ P.U.heap = h ∧ P.cells + 1 ≤ R.cells ∧ P.slots + cs.length ≤ R.slots)
      (fun P _ v B => ∃ L, QA Z x zn cs h v B.U.heap L ∧ B.locs = P.locs ++ L ∧ B.cells = P.cells + 1 ∧ B.slots = P.slots + cs.length) := by
  obtain ⟨A, K1, K2, K3, K4, K5, K6⟩ := K
  have e : A.slots.size = cs.length := K3.trans hlen
  have hat : ∀ (i : Nat) (hi : i < cs.length), A.slots[i]? = some (.int cs[i]) := fun i hi => by rw [K5 i (by omega)]; simp [List.getD_eq_getElem?_getD, hi]
  have hcv : ∀ (i : Nat) (hi : i < cs.length), cv A i = cs[i] := fun i hi => by unfold cv; rw [hat i hi]
  have hty : Typed .char A := fun i v hv => by
    have hi : i < A.slots.size := (Array.getElem?_eq_some_iff.mp hv).1
    have q := K5 i hi
    rw [hv] at q
    rw [Option.some.inj q]
    exact K6 i hi
  refine Back.mono (back hZ hw wi E V C K1 hty S hz (by omega) (by omega) (fun i hi => by rw [hcv i (by omega)]; exact hall _ (List.getElem_mem _)) hfr hlo) (fun P a hp => ⟨hp.1, hp.2.1, hp.2.2.1, by rw [e]; exact hp.2.2.2⟩) (fun P a v B hp hq => ?_)
  obtain ⟨L, ⟨q1, q2, q3, q4, q5, q6, q7, ⟨V', v1, v2, v3, v4, v5⟩, q9⟩, hl, hc, hs⟩ := hq
  refine ⟨L, ⟨q1, q2, q3, q4, q5, q6, q7, ⟨V'.cls, v3, V', v1, rfl, by rw [v4, e, hlen], K4, fun i hi => ?_, fun i hi => ?_⟩, q9⟩, hl, hc, by rw [hs, e]⟩
  · have hi' : i < cs.length := by omega
    rw [v5 i (by omega), hcv i hi']; simp [List.getD_eq_getElem?_getD, hi']
  · have hi' : i < cs.length := by omega
    simp only [List.getD_eq_getElem?_getD, List.getElem?_map, List.getElem?_eq_getElem hi', Option.map_some, Option.getD_some]
    exact fits_lo8 _
end StrChars.Road
namespace StrChars.Road
open Jvm Sem ClassFile Op Lib Jvm.Stand Jvm.Free Jvm.Free.XT
/-- WHAT COMES BACK, in the writer's own shape -/
def QV (Z : State) (x : Addr) (N : Int32) (bs : List Int32) (h : Heap) (n0 : Nat) (v : Option Value) (h' : Heap) (L : List Loc) : Prop := v = none ∧ RoadKit.Fr n0 L ∧ RoadKit.Keep h h' [x] ∧ RoadKit.Exa Z h' x ST ∧ RoadKit.Fld Z h' x ST "coder" "B" (.int 0) ∧
  ∃ (t : Addr) (kb : ClassId), n0 ≤ t ∧ h.size ≤ t ∧ ¬ t = x ∧ RoadKit.Fld Z h' x ST "value" "[B" (.ref t) ∧ RoadKit.Arv Z h' t kb .byte N (bs.map Value.int) (.int 0)
/-- **new String(chars) AT A CALL, FOR THE WRITER**: a char[] of n known ints, each 0 to 255 -/
theorem backV {p : Program} {l : Launch} {e : Env} {R : Room} {s : State} {args : Array Value} {below : List Frame} {len W : Nat} {Z : State} {a0 : Array Value} {h : Heap} (hZ : Z.Warmed39 s.vm) (hw : ∀ d ∈ words, d.before a0 Z = true) {kI : Nat} (wi : (Jvm.Cond.instantiable ST kI).before a0 Z = true)
    {x b : Addr} {kC : ClassId} {cs bs : List Int32} {d v0 c0 : Value} {z N : Int32} {n n0 : Nat} (hx0 : n0 ≤ x) (hh0 : n0 ≤ h.size) (E : RoadKit.Exa Z h x ST) (V : RoadKit.Fld Z h x ST "value" "[B" v0) (C : RoadKit.Fld Z h x ST "coder" "B" c0) (K : RoadKit.Arv Z h b kC .char N (cs.map Value.int) d) (S : RoadKit.Sta Z h ST "COMPACT_STRINGS" "Z" (.int z)) (hz : ¬ z = 0)
    (hn : cs.length = n) (hN : N = Int32.ofNat n) (l0 : 0 < n) (l2 : n ≤ 4000) (hp : ∀ c ∈ cs, ¬ c < 0 ∧ ¬ (255 : Int32) < c) (hb : bs = cs.map (fun c => c.toInt8.toInt32)) (hfr : 4 ≤ R.frames) (hlo : W + 65 ≤ R.locals) :
    Back l R p e below s args (⟨"java/lang/String", "<init>", "([C)V"⟩ : MethodName) len W (fun P a => a = #[.ref x, .ref b] ∧ P.U.heap = h ∧ P.cells + 1 ≤ R.cells ∧ P.slots + n ≤ R.slots)
      (fun P _ v B => ∃ L, QV Z x N bs h n0 v B.U.heap L ∧ B.locs = P.locs ++ L ∧ B.cells = P.cells + 1 ∧ B.slots = P.slots + n) := by
  subst hn hN hb
  refine Back.mono (backArv hZ hw wi E V C K S hz (n32 (by omega)) l0 (by omega) (fun c hc => (hp c hc).2) hfr hlo) (fun P a hp => hp) (fun P a v B hp hq => ?_)
  obtain ⟨L, ⟨q1, q2, q3, q4, q5, q6, q7, ⟨kb, v1, v2⟩, q9⟩, hl, hc, hs⟩ := hq
  exact ⟨L, ⟨q1, fun y hy => by rw [q2 y hy]; exact hx0, q3, q5, q7, h.size, kb, hh0, Nat.le_refl _, Nat.ne_of_gt E.lt, q6, by rw [List.map_map]; exact v2⟩, hl, hc, hs⟩
end StrChars.Road
namespace StrChars
open Jvm Sem ClassFile Op Lib Jvm.Stand Jvm.Free.XT Jvm.Free.ALB Jvm.Free.JM Jvm.Free
open Jvm.Lib.Cold (StaticIs)
def hi8 (x : Int32) : Int32 := lo8 (x >>> ((8 : Int32) &&& 31))
/-- what StringUTF16.getChar makes of two bytes -/
def pairCh (u v : Int32) : Int32 := (((u &&& 255) <<< ((0 : Int32) &&& 31)) ||| ((v &&& 255) <<< ((8 : Int32) &&& 31))).toUInt32.toUInt16.toUInt32.toInt32
theorem shr0 (c : Int32) : c >>> ((0 : Int32) &&& 31) = c := by
  have e : ((0 : Int32) &&& 31) = 0 := by decide
  rw [e]
  apply Int32.toBitVec_inj.mp
  rw [Int32.toBitVec_shiftRight]
  have e1 : ((0 : Int32).toBitVec.smod 32) = 0#32 := by decide
  rw [e1, BitVec.sshiftRight_eq']
  exact BitVec.sshiftRight_zero
theorem lo8_and (x : Int32) : (lo8 x &&& 255).toBitVec.toNat = x.toBitVec.toNat % 256 := by
  have h : (lo8 x).toBitVec = (x.toBitVec.signExtend 8).signExtend 32 := by rw [lo8, Int8.toBitVec_toInt32, Int32.toBitVec_toInt8]
  rw [Int32.toBitVec_and, BitVec.toNat_and, h]
  have e : ((x.toBitVec.signExtend 8).signExtend 32).toNat % 256 = x.toBitVec.toNat % 256 := by
    rw [BitVec.toNat_signExtend]
    have hlt := x.toBitVec.isLt
    simp only [BitVec.toNat_setWidth, BitVec.toNat_signExtend]
    split <;> split <;> omega
  rw [← e]
  exact Nat.and_two_pow_sub_one_eq_mod _ 8
theorem pair_says {c : Int32} (h0 : ¬ c < 0) (h1 : ¬ 65535 < c) : pairCh (lo8 c) (hi8 c) = c := by
  rw [Int32.lt_iff_toInt_lt] at h0 h1
  have e0 : (0 : Int32).toInt = 0 := rfl
  have e1 : (65535 : Int32).toInt = 65535 := rfl
  have hc : c.toInt = c.toBitVec.toNat := by
    have := c.toBitVec.isLt
    have e : c.toInt = c.toBitVec.toInt := rfl
    rw [e] at h0 h1
    rw [e]
    rw [BitVec.toInt_eq_toNat_cond] at h0 h1 ⊢
    split at h0 <;> split <;> omega
  have hn : c.toBitVec.toNat < 65536 := by omega
  have a1 := lo8_and c
  have a2 : (hi8 c &&& 255).toBitVec.toNat = c.toBitVec.toNat / 256 := by
    rw [hi8, lo8_and]
    have e : ((8 : Int32) &&& 31) = 8 := by decide
    rw [e, Int32.toBitVec_shiftRight]
    have e2 : ((8 : Int32).toBitVec.smod 32) = 8#32 := by decide
    rw [e2, BitVec.sshiftRight_eq', BitVec.toNat_sshiftRight_of_msb_false (by rw [BitVec.msb_eq_false_iff_two_mul_lt]; omega)]
    show c.toBitVec.toNat >>> 8 % 256 = _
    rw [Nat.shiftRight_eq_div_pow]
    omega
  unfold pairCh
  apply Int32.toBitVec_inj.mp
  apply BitVec.eq_of_toNat_eq
  have f0 : ((0 : Int32) &&& 31) = 0 := by decide
  have f8 : ((8 : Int32) &&& 31) = 8 := by decide
  rw [f0, f8]
  have g : (((lo8 c &&& 255) <<< (0 : Int32)) ||| ((hi8 c &&& 255) <<< (8 : Int32))).toBitVec.toNat = c.toBitVec.toNat := by
    rw [Int32.toBitVec_or, Int32.toBitVec_shiftLeft, Int32.toBitVec_shiftLeft]
    have s0 : ((0 : Int32).toBitVec.smod 32) = 0#32 := by decide
    have s8 : ((8 : Int32).toBitVec.smod 32) = 8#32 := by decide
    rw [s0, s8, BitVec.toNat_or]
    simp only [BitVec.shiftLeft_eq', BitVec.toNat_shiftLeft, a1, a2]
    show (c.toBitVec.toNat % 256) <<< 0 % 2 ^ 32 ||| (c.toBitVec.toNat / 256) <<< 8 % 2 ^ 32 = _
    rw [Nat.shiftLeft_zero, Nat.mod_eq_of_lt (show c.toBitVec.toNat % 256 < 2 ^ 32 by omega), Nat.mod_eq_of_lt (show (c.toBitVec.toNat / 256) <<< 8 < 2 ^ 32 by rw [Nat.shiftLeft_eq]; omega), Nat.or_comm, ← Nat.shiftLeft_add_eq_or_of_lt (by omega), Nat.shiftLeft_eq]
    omega
  show BitVec.toNat (((((lo8 c &&& 255) <<< (0 : Int32)) ||| ((hi8 c &&& 255) <<< (8 : Int32))).toBitVec.setWidth 16).setWidth 32) = _
  rw [BitVec.toNat_setWidth, BitVec.toNat_setWidth, g]
  omega
end StrChars
namespace StrChars
open Jvm Sem ClassFile Op Lib Jvm.Stand Jvm.Free.XT Jvm.Free.ALB Jvm.Free.JM Jvm.Free
open Jvm.Lib.Cold (StaticIs)
theorem shr1 {n : Nat} (h : 2 * n < 2 ^ 31) : Int32.ofNat (2 * n) >>> ((1 : Int32) &&& 31) = Int32.ofNat n := by
  have e : ((1 : Int32) &&& 31) = 1 := by decide
  rw [e]
  apply Int32.toBitVec_inj.mp
  rw [Int32.toBitVec_shiftRight]
  have e1 : ((1 : Int32).toBitVec.smod 32) = 1#32 := by decide
  have hm : (BitVec.ofNat 32 (2 * n)).toNat = 2 * n := by rw [BitVec.toNat_ofNat, Nat.mod_eq_of_lt (by omega)]
  rw [e1, BitVec.sshiftRight_eq']
  apply BitVec.eq_of_toNat_eq
  show ((BitVec.ofNat 32 (2 * n)).sshiftRight 1).toNat = (BitVec.ofNat 32 n).toNat
  rw [BitVec.toNat_sshiftRight_of_msb_false (by rw [BitVec.msb_eq_false_iff_two_mul_lt, hm]; omega), hm, BitVec.toNat_ofNat, Nat.shiftRight_eq_div_pow]
  omega
/-- charAt's cast of a byte read back -/
def chr8 (u : Int32) : Int32 := (u &&& 255).toUInt32.toUInt16.toUInt32.toInt32
theorem chr8_lo8 {c : Int32} (h0 : ¬ c < 0) (h1 : ¬ 255 < c) : chr8 (lo8 c) = c := by
  have t : ∀ k : Fin 256, (Int32.ofNat k.val).toUInt32.toUInt16.toUInt32.toInt32 = Int32.ofNat k.val := by decide +kernel
  unfold chr8
  rw [lo8_mask h0 h1]
  rw [Int32.lt_iff_toInt_lt] at h0 h1
  have e0 : (0 : Int32).toInt = 0 := rfl
  have e1 : (255 : Int32).toInt = 255 := rfl
  obtain ⟨k, hk⟩ : ∃ k : Nat, c.toInt = k := ⟨c.toInt.toNat, by omega⟩
  have hx : c = Int32.ofNat k := Int32.toInt_inj.mp (by rw [hk, Int32.toInt_ofNat_small (by omega)])
  rw [hx]
  exact t ⟨k, by omega⟩
theorem narrow_ch {c : Int32} (h0 : ¬ c < 0) (h1 : ¬ 65535 < c) : narrow .char (.int c) = .int c := by
  have q : narrow .char (.int (pairCh (lo8 c) (hi8 c))) = .int (pairCh (lo8 c) (hi8 c)) := narrow_c _
  rwa [pair_says h0 h1] at q
/-- the array's cell V codes the n chars f 0 .. f (n - 1) by the coder cd, as the JDK does: coder 1 just where some char is above 255 -/
def Cod (cd : Int32) (n : Nat) (f : Nat → Int32) (V : Cell) : Prop := (cd = 0 ∧ V.slots.size = n ∧ ∀ j, j < n → V.slots[j]? = some (.int (lo8 (f j))) ∧ ¬ 255 < f j) ∨ (cd = 1 ∧ V.slots.size = 2 * n ∧ (∀ j, j < n → V.slots[2 * j]? = some (.int (lo8 (f j))) ∧ V.slots[2 * j + 1]? = some (.int (hi8 (f j)))) ∧ ∃ j, j < n ∧ 255 < f j)
theorem Cod.cd {cd : Int32} {n : Nat} {f : Nat → Int32} {V : Cell} (h : Cod cd n f V) : cd = 0 ∨ cd = 1 := h.imp (fun q => q.1) fun q => q.1
theorem Cod.len {cd : Int32} {n : Nat} {f : Nat → Int32} {V : Cell} (h : Cod cd n f V) (hs : V.slots.size < 2 ^ 31) : Int32.ofNat V.slots.size >>> (cd &&& 31) = Int32.ofNat n := by
  rcases h with ⟨rfl, h, -⟩ | ⟨rfl, h, -⟩
  · rw [shr0, h]
  · rw [h, shr1 (by omega)]
/-- **x is a String of the n chars f 0 .. f (n - 1)**, Latin-1 or UTF-16; its array at t has the cell V -/
def Txt (x t : Addr) (V : Cell) (cd : Int32) (n : Nat) (f : Nat → Int32) (U : State) : Prop := Exact "java/lang/String" x U ∧ Has x "java/lang/String" "value" "[B" (.ref t) U ∧ Has x "java/lang/String" "coder" "B" (.int cd) U ∧ XT.Arr .byte t V U ∧ Cod cd n f V ∧ ∀ j, j < n → ¬ f j < 0 ∧ ¬ 65535 < f j
theorem Txt.mv {x t : Addr} {V : Cell} {cd : Int32} {n : Nat} {f : Nat → Int32} {U U' : State} (h : Txt x t V cd n f U) (hal : U.vm.Alike U'.vm) (hh : U'.heap = U.heap) : Txt x t V cd n f U' := ⟨h.1.mv hal hh, h.2.1.mv hal hh, h.2.2.1.mv hal hh, h.2.2.2.1.mv hal hh, h.2.2.2.2⟩
namespace Cdr
def yN : MethodName := ⟨"java/lang/String", "coder", "()B"⟩
abbrev yB : ByteArray := jdk_42_method_152_code
theorem d0 : decode yB 0 = .ok (.getstatic 38, 3) := by decide +kernel
theorem d3 : decode yB 3 = .ok (.ifCond (.eq) 10, 3) := by decide +kernel
theorem d6 : decode yB 6 = .ok (.aload_n 0, 1) := by decide +kernel
theorem d7 : decode yB 7 = .ok (.getfield 15, 3) := by decide +kernel
theorem d10 : decode yB 10 = .ok (.goto 4, 3) := by decide +kernel
theorem d14 : decode yB 14 = .ok (.ireturn, 1) := by decide +kernel
def site : List Cond := [.fieldLink "java/lang/String" 38 "java/lang/String" "COMPACT_STRINGS" "Z", .fieldLink "java/lang/String" 15 "java/lang/String" "coder" "B"]
def tab : Cond := tabOf yN yB 1 (some .byte) site
def P (x : Addr) (cd z : Int32) (args : Array Value) (s : State) : Prop := args = #[.ref x] ∧ Has x "java/lang/String" "coder" "B" (.int cd) s ∧ (cd = 0 ∨ cd = 1) ∧ StaticIs s "java/lang/String" "COMPACT_STRINGS" "Z" (.int z) ∧ ¬ z = 0
def E (cd : Int32) (r : Option Value) (s u : State) : Prop := XT.PureE (some (.int cd)) r s u
theorem law (l : Launch) (x : Addr) (cd z : Int32) : Law l yN 1 0 0 0 yB 1 (some .byte) site (P x cd z) (E cd) [] 0 0 := by
  refine Law.of_walk (plainFor_of_name (by decide +kernel)) (by decide +kernel) (by decide +kernel) (by decide) (fun _ _ h => by rw [h.1]; rfl) (fun _ U U' hal hh h => ⟨h.1, h.2.1.mv hal hh, h.2.2.1, h.2.2.2.1.there hal hh, h.2.2.2.2⟩) (fun r U U' V V' h1 hal h2 h => XT.PureE.mv r U U' V V' h1 hal h2 h) ?_
  intro p e s m args below meth c s₁ X0 hexec hbytes hml hret hlk hnm hown hh0 W hP
  obtain ⟨rfl, hx, hc, s1, hz⟩ := hP
  have c1 : Steps p.tables e below (s₁.setTop (entryFrame m #[.ref x] 1)) (s₁.setTop (mkF m 0 #[.val (.ref x)] [])) := entry rfl
  obtain ⟨T2, X2, q2, st2⟩ := X0.sget hexec hown (wk W (.fieldLink "java/lang/String" 38 "java/lang/String" "COMPACT_STRINGS" "Z")) s1 (fun _ _ h => by rw [hh0]; exact h) (g := (mkF m 0 #[.val (.ref x)] [])) rfl (hb hbytes d0)
  have hh2 := q2.trans hh0
  have c3 : Steps p.tables e below (s₁.setTop (entryFrame m #[.ref x] 1)) (T2.setTop (mkF m 7 #[.val (.ref x)] [.ref x])) := (c1.trans (st2 _ (Steps.refl _))).trans (by
    refine XS.ifNo X2.here hexec rfl (hb hbytes d3) rfl (i0_eq_f hz) ?_
    refine XS.aloadN X2.here hexec rfl (hb hbytes d6) rfl rfl ?_
    exact Steps.refl _)
  obtain ⟨T4, X4, q4, st4⟩ := X2.hget hexec hown (wk W (.fieldLink "java/lang/String" 15 "java/lang/String" "coder" "B")) (hx.mv X2.warmed.alike hh2) (g := (mkF m 7 #[.val (.ref x)] [.ref x])) rfl (rest := []) rfl (hb hbytes d7)
  have c5 : Steps p.tables e below (s₁.setTop (entryFrame m #[.ref x] 1)) (T4.setTop (mkF m 14 #[.val (.ref x)] [.int cd])) := (c3.trans (st4 _ (Steps.refl _))).trans (by
    refine XS.goto X4.here hexec rfl (pc0 := 10) rfl (hb hbytes d10) (by decide) rfl ?_
    exact Steps.refl _)
  exact ⟨T4, some (.int cd), _, _, _, X4, rfl, rfl, rfl, (fun h => by cases h), ⟨rfl, q4.trans hh2⟩, fun fs hl => c5.trans (X4.ireturnOut hexec hret (by rcases hc with rfl | rfl <;> rfl) (Or.inr (Or.inr (Or.inl rfl))) (hb hbytes d14) hl)⟩
end Cdr
namespace Len
def yN : MethodName := ⟨"java/lang/String", "length", "()I"⟩
abbrev yB : ByteArray := jdk_42_method_54_code
theorem d0 : decode yB 0 = .ok (.aload_n 0, 1) := by decide +kernel
theorem d1 : decode yB 1 = .ok (.getfield 9, 3) := by decide +kernel
theorem d4 : decode yB 4 = .ok (.arraylength, 1) := by decide +kernel
theorem d5 : decode yB 5 = .ok (.aload_n 0, 1) := by decide +kernel
theorem d6 : decode yB 6 = .ok (.invokevirtual 335, 3) := by decide +kernel
theorem d9 : decode yB 9 = .ok (.ishr, 1) := by decide +kernel
theorem d10 : decode yB 10 = .ok (.ireturn, 1) := by decide +kernel
def site : List Cond := [.fieldLink "java/lang/String" 9 "java/lang/String" "value" "[B", Cdr.tab] ++ virtW "java/lang/String" 335 "java/lang/String" Cdr.yN Cdr.yN
def tab : Cond := tabOf yN yB 1 (some .int) site
def P (x t : Addr) (V : Cell) (cd : Int32) (n : Nat) (f : Nat → Int32) (z : Int32) (args : Array Value) (s : State) : Prop := args = #[.ref x] ∧ Txt x t V cd n f s ∧ StaticIs s "java/lang/String" "COMPACT_STRINGS" "Z" (.int z) ∧ ¬ z = 0
def E (n : Nat) (r : Option Value) (s u : State) : Prop := XT.PureE (some (.int (Int32.ofNat n))) r s u
/-- length() of a String of n chars, in either coding -/
theorem law (l : Launch) (x t : Addr) (V : Cell) (cd : Int32) (n : Nat) (f : Nat → Int32) (z : Int32) : Law l yN 1 0 1 13 yB 1 (some .int) site (P x t V cd n f z) (E n) [] 0 0 := by
  refine Law.of_walk (plainFor_of_name (by decide +kernel)) (by decide +kernel) (by decide +kernel) (by decide) (fun _ _ h => by rw [h.1]; rfl) (fun _ U U' hal hh h => ⟨h.1, h.2.1.mv hal hh, h.2.2.1.there hal hh, h.2.2.2⟩) (fun r U U' V V' h1 hal h2 h => XT.PureE.mv r U U' V V' h1 hal h2 h) ?_
  intro p e s m args below meth c s₁ X0 hexec hbytes hml hret hlk hnm hown hh0 W hP
  obtain ⟨rfl, hx, s1, hz⟩ := hP
  have v31 := hx.2.2.2.1.2.2.2
  have c1 : Steps p.tables e below (s₁.setTop (entryFrame m #[.ref x] 1)) (s₁.setTop (mkF m 1 #[.val (.ref x)] [.ref x])) := Steps.trans (entry rfl) (by
    show Steps p.tables e below (s₁.setTop (mkF m 0 #[.val (.ref x)] [])) _
    refine XS.aloadN X0.here hexec rfl (hb hbytes d0) rfl rfl ?_
    exact Steps.refl _)
  obtain ⟨T2, X2, q2, st2⟩ := X0.hget hexec hown (wk W (.fieldLink "java/lang/String" 9 "java/lang/String" "value" "[B")) (hx.mv X0.warmed.alike hh0).2.1 (g := (mkF m 1 #[.val (.ref x)] [.ref x])) rfl (rest := []) rfl (hb hbytes d1)
  have hh2 := q2.trans hh0
  have hx2 := hx.mv X2.warmed.alike hh2
  have c3 : Steps p.tables e below (s₁.setTop (entryFrame m #[.ref x] 1)) (T2.setTop (mkF m 6 #[.val (.ref x)] [.ref x, .int (Int32.ofNat V.slots.size)])) := (c1.trans (st2 _ (Steps.refl _))).trans (by
    refine X2.alen hexec hx2.2.2.2.1 rfl rfl (hb hbytes d4) ?_
    refine XS.aloadN X2.here hexec rfl (hb hbytes d5) rfl rfl ?_
    exact Steps.refl _)
  obtain ⟨v4, T4, X4, E4, g4⟩ := X2.callV hexec (Cdr.law l x cd z) hown (wks W (virtW "java/lang/String" 335 "java/lang/String" Cdr.yN Cdr.yN)) rfl (by decide) (wk W Cdr.tab) (W := 1) (Nat.le_of_ble_eq_true rfl) (Nat.le_of_ble_eq_true rfl) (Nat.le_refl _) (Nat.le_refl _) (hx2.1.fc X2.warmed.alike) hx2.1.is (g := (mkF m 6 #[.val (.ref x)] [.ref x, .int (Int32.ofNat V.slots.size)])) rfl (by rw [hml]; rfl) c3 (argsL := []) (rest := [.int (Int32.ofNat V.slots.size)]) rfl rfl (by show 2 * 0 + (1 + 0) ≤ _; decide) (hb hbytes d6) (⟨rfl, hx2.2.2.1, hx.2.2.2.2.1.cd, s1.there X2.warmed.alike hh2, hz⟩)
  obtain ⟨rfl, q4⟩ := E4
  have c5 : Steps p.tables e below (s₁.setTop (entryFrame m #[.ref x] 1)) (T4.setTop (mkF m 10 #[.val (.ref x)] [.int (Int32.ofNat V.slots.size >>> (cd &&& 31))])) := Steps.trans g4 (by
    refine ishr X4.here hexec rfl (hb hbytes d9) rfl ?_
    exact Steps.refl _)
  rw [hx.2.2.2.2.1.len v31] at c5
  exact ⟨T4, some (.int (Int32.ofNat n)), _, _, _, X4, rfl, rfl, rfl, (fun h => by cases h), ⟨rfl, q4.trans hh2⟩, fun fs hl => c5.trans (X4.ireturnOut hexec hret rfl (Or.inl rfl) (hb hbytes d10) hl)⟩
theorem pays {l : Launch} {R : Room} {p : Program} {e : Env} {below : List Frame} {s : State} {sargs : Array Value} {len W : Nat} (x t : Addr) (V : Cell) (cd : Int32) (n : Nat) (f : Nat → Int32) (z : Int32) (htab : tab.before sargs s = true) (hfr : 2 ≤ R.frames) (hlo : W + 25 ≤ R.locals) :
    Back l R p e below s sargs yN len W (fun A₁ a₁ => A₁.cells + 0 ≤ R.cells ∧ A₁.slots + 0 ≤ R.slots ∧ P x t V cd n f z a₁ A₁.U) (fun A₁ _ v₁ B₁ => E n v₁ A₁.U B₁.U ∧ B₁.locs = A₁.locs ++ [] ∧ B₁.cells = A₁.cells + 0 ∧ B₁.slots = A₁.slots + 0) :=
  (law l x t V cd n f z).pays htab hfr (by omega)
end Len
namespace IsL
def yN : MethodName := ⟨"java/lang/String", "isLatin1", "()Z"⟩
abbrev yB : ByteArray := jdk_42_method_154_code
theorem d0 : decode yB 0 = .ok (.getstatic 38, 3) := by decide +kernel
theorem d3 : decode yB 3 = .ok (.ifCond (.eq) 14, 3) := by decide +kernel
theorem d6 : decode yB 6 = .ok (.aload_n 0, 1) := by decide +kernel
theorem d7 : decode yB 7 = .ok (.getfield 15, 3) := by decide +kernel
theorem d10 : decode yB 10 = .ok (.ifCond (.ne) 7, 3) := by decide +kernel
theorem d13 : decode yB 13 = .ok (.iconst 1, 1) := by decide +kernel
theorem d14 : decode yB 14 = .ok (.goto 4, 3) := by decide +kernel
theorem d17 : decode yB 17 = .ok (.iconst 0, 1) := by decide +kernel
theorem d18 : decode yB 18 = .ok (.ireturn, 1) := by decide +kernel
def site : List Cond := [.fieldLink "java/lang/String" 38 "java/lang/String" "COMPACT_STRINGS" "Z", .fieldLink "java/lang/String" 15 "java/lang/String" "coder" "B"]
def tab : Cond := tabOf yN yB 1 (some .boolean) site
def P (x : Addr) (cd z : Int32) (args : Array Value) (s : State) : Prop := args = #[.ref x] ∧ Has x "java/lang/String" "coder" "B" (.int cd) s ∧ (cd = 0 ∨ cd = 1) ∧ StaticIs s "java/lang/String" "COMPACT_STRINGS" "Z" (.int z) ∧ ¬ z = 0
def E (cd : Int32) (r : Option Value) (s u : State) : Prop := XT.PureE (some (.int (1 - cd))) r s u
theorem law (l : Launch) (x : Addr) (cd z : Int32) : Law l yN 1 0 0 0 yB 1 (some .boolean) site (P x cd z) (E cd) [] 0 0 := by
  refine Law.of_walk (plainFor_of_name (by decide +kernel)) (by decide +kernel) (by decide +kernel) (by decide) (fun _ _ h => by rw [h.1]; rfl) (fun _ U U' hal hh h => ⟨h.1, h.2.1.mv hal hh, h.2.2.1, h.2.2.2.1.there hal hh, h.2.2.2.2⟩) (fun r U U' V V' h1 hal h2 h => XT.PureE.mv r U U' V V' h1 hal h2 h) ?_
  intro p e s m args below meth c s₁ X0 hexec hbytes hml hret hlk hnm hown hh0 W hP
  obtain ⟨rfl, hx, hc, s1, hz⟩ := hP
  have c1 : Steps p.tables e below (s₁.setTop (entryFrame m #[.ref x] 1)) (s₁.setTop (mkF m 0 #[.val (.ref x)] [])) := entry rfl
  obtain ⟨T2, X2, q2, st2⟩ := X0.sget hexec hown (wk W (.fieldLink "java/lang/String" 38 "java/lang/String" "COMPACT_STRINGS" "Z")) s1 (fun _ _ h => by rw [hh0]; exact h) (g := (mkF m 0 #[.val (.ref x)] [])) rfl (hb hbytes d0)
  have hh2 := q2.trans hh0
  have c3 : Steps p.tables e below (s₁.setTop (entryFrame m #[.ref x] 1)) (T2.setTop (mkF m 7 #[.val (.ref x)] [.ref x])) := (c1.trans (st2 _ (Steps.refl _))).trans (by
    refine XS.ifNo X2.here hexec rfl (hb hbytes d3) rfl (i0_eq_f hz) ?_
    refine XS.aloadN X2.here hexec rfl (hb hbytes d6) rfl rfl ?_
    exact Steps.refl _)
  obtain ⟨T4, X4, q4, st4⟩ := X2.hget hexec hown (wk W (.fieldLink "java/lang/String" 15 "java/lang/String" "coder" "B")) (hx.mv X2.warmed.alike hh2) (g := (mkF m 7 #[.val (.ref x)] [.ref x])) rfl (rest := []) rfl (hb hbytes d7)
  have c5 : Steps p.tables e below (s₁.setTop (entryFrame m #[.ref x] 1)) (T4.setTop (mkF m 10 #[.val (.ref x)] [.int cd])) := c3.trans (st4 _ (Steps.refl _))
  have c6 : Steps p.tables e below (s₁.setTop (entryFrame m #[.ref x] 1)) (T4.setTop (mkF m 18 #[.val (.ref x)] [.int (1 - cd)])) := by
    rcases hc with rfl | rfl
    · exact c5.trans (by
        refine XS.ifNo X4.here hexec rfl (hb hbytes d10) rfl (i0_ne_f rfl) ?_
        refine iconstV X4.here hexec rfl 1 (hb hbytes d13) (by decide) ?_
        refine XS.goto X4.here hexec rfl (pc0 := 14) rfl (hb hbytes d14) (by decide) rfl ?_
        exact Steps.refl _)
    · exact c5.trans (by
        refine XS.ifYes X4.here hexec rfl (pc0 := 10) rfl (hb hbytes d10) rfl (i0_ne_t (by decide)) (by decide) rfl ?_
        refine iconstV X4.here hexec rfl 0 (hb hbytes d17) (by decide) ?_
        exact Steps.refl _)
  exact ⟨T4, some (.int (1 - cd)), _, _, _, X4, rfl, rfl, rfl, (fun h => by cases h), ⟨rfl, q4.trans hh2⟩, fun fs hl => c6.trans (X4.ireturnOut hexec hret (by rcases hc with rfl | rfl <;> rfl) (Or.inr (Or.inl rfl)) (hb hbytes d18) hl)⟩
end IsL
namespace LChA
def yN : MethodName := ⟨"java/lang/StringLatin1", "charAt", "([BI)C"⟩
abbrev yB : ByteArray := jdk_43_method_2_code
theorem d0 : decode yB 0 = .ok (.iload_n 1, 1) := by decide +kernel
theorem d1 : decode yB 1 = .ok (.aload_n 0, 1) := by decide +kernel
theorem d2 : decode yB 2 = .ok (.arraylength, 1) := by decide +kernel
theorem d3 : decode yB 3 = .ok (.invokestatic 9, 3) := by decide +kernel
theorem d6 : decode yB 6 = .ok (.aload_n 0, 1) := by decide +kernel
theorem d7 : decode yB 7 = .ok (.iload_n 1, 1) := by decide +kernel
theorem d8 : decode yB 8 = .ok (.baload, 1) := by decide +kernel
theorem d9 : decode yB 9 = .ok (.sipush 255, 3) := by decide +kernel
theorem d12 : decode yB 12 = .ok (.iand, 1) := by decide +kernel
theorem d13 : decode yB 13 = .ok (.i2c, 1) := by decide +kernel
theorem d14 : decode yB 14 = .ok (.ireturn, 1) := by decide +kernel
def site : List Cond := [JO.Str_checkIndex.tab] ++ staticW "java/lang/StringLatin1" 9 JO.Str_checkIndex.yN
def tab : Cond := tabOf yN yB 2 (some .char) site
def P (t : Addr) (V : Cell) (i : Nat) (u : Int32) (fm : Value) (args : Array Value) (s : State) : Prop := args = #[.ref t, .int (Int32.ofNat i)] ∧ XT.Arr .byte t V s ∧ V.slots[i]? = some (.int u) ∧ (StaticIs s "jdk/internal/util/Preconditions" "SIOOBE_FORMATTER" "Ljava/util/function/BiFunction;" fm ∧ fm.isRef = true)
def E (u : Int32) (r : Option Value) (s w : State) : Prop := XT.PureE (some (.int (chr8 u))) r s w
theorem law (l : Launch) (t : Addr) (V : Cell) (i : Nat) (u : Int32) (fm : Value) : Law l yN 2 2 2 27 yB 2 (some .char) site (P t V i u fm) (E u) [] 0 0 := by
  refine Law.of_walk (plainFor_of_name (by decide +kernel)) (by decide +kernel) (by decide +kernel) (by decide) (fun _ _ h => by rw [h.1]; rfl) (fun _ U U' hal hh h => ⟨h.1, h.2.1.mv hal hh, h.2.2.1, h.2.2.2.1.there hal hh, h.2.2.2.2⟩) (fun r U U' V V' h1 hal h2 h => XT.PureE.mv r U U' V V' h1 hal h2 h) ?_
  intro p e s m args below meth c s₁ X0 hexec hbytes hml hret hlk hnm hown hh0 W hP
  obtain ⟨rfl, hV, hu, s1, rf⟩ := hP
  have v31 := hV.2.2.2
  have hi : i < V.slots.size := (Array.getElem?_eq_some_iff.mp hu).1
  have c1 : Steps p.tables e below (s₁.setTop (entryFrame m #[.ref t, .int (Int32.ofNat i)] 2)) (s₁.setTop (mkF m 0 #[.val (.ref t), .val (.int (Int32.ofNat i))] [])) := entry rfl
  have c2 : Steps p.tables e below (s₁.setTop (entryFrame m #[.ref t, .int (Int32.ofNat i)] 2)) (s₁.setTop (mkF m 3 #[.val (.ref t), .val (.int (Int32.ofNat i))] [.int (Int32.ofNat V.slots.size), .int (Int32.ofNat i)])) := c1.trans (by
    refine XS.iloadN X0.here hexec rfl (hb hbytes d0) rfl ?_
    refine XS.aloadN X0.here hexec rfl (hb hbytes d1) rfl rfl ?_
    refine X0.alen hexec (hV.mv X0.warmed.alike hh0) rfl rfl (hb hbytes d2) ?_
    exact Steps.refl _)
  obtain ⟨v3, T3, X3, E3, g3⟩ := X0.callS hexec (JO.Str_checkIndex.law l (Int32.ofNat i) (Int32.ofNat V.slots.size) fm) hown (wks W (staticW "java/lang/StringLatin1" 9 JO.Str_checkIndex.yN)) (wk W JO.Str_checkIndex.tab) (W := 0) (Nat.le_of_ble_eq_true rfl) (Nat.le_of_ble_eq_true rfl) (Nat.le_refl _) (Nat.le_refl _) (g := (mkF m 3 #[.val (.ref t), .val (.int (Int32.ofNat i))] [.int (Int32.ofNat V.slots.size), .int (Int32.ofNat i)])) rfl (by rw [hml]; rfl) c2 (argsL := [.int (Int32.ofNat i), .int (Int32.ofNat V.slots.size)]) (rest := []) rfl rfl (by show 2 * 0 + 0 ≤ _; decide) (hb hbytes d3) (⟨rfl, rf, s1.there X0.warmed.alike hh0, Int32.ofNat_not_neg (by omega), lt32 v31 hi⟩)
  obtain ⟨rfl, q3⟩ := E3
  have hh3 := q3.trans hh0
  have c4 : Steps p.tables e below (s₁.setTop (entryFrame m #[.ref t, .int (Int32.ofNat i)] 2)) (T3.setTop (mkF m 14 #[.val (.ref t), .val (.int (Int32.ofNat i))] [.int (chr8 u)])) := Steps.trans g3 (by
    refine XS.aloadN X3.here hexec rfl (hb hbytes d6) rfl rfl ?_
    refine XS.iloadN X3.here hexec rfl (hb hbytes d7) rfl ?_
    refine X3.aget hexec (hV.mv X3.warmed.alike hh3) rfl hu rfl rfl (hb hbytes d8) ?_
    refine sipushV X3.here hexec rfl 255 (hb hbytes d9) (by decide) ?_
    refine XS.iand X3.here hexec rfl (hb hbytes d12) rfl ?_
    refine i2c X3.here hexec rfl (hb hbytes d13) rfl ?_
    exact Steps.refl _)
  exact ⟨T3, some (.int (chr8 u)), _, _, _, X3, rfl, rfl, rfl, (fun h => by cases h), ⟨rfl, hh3⟩, fun fs hl => c4.trans (X3.ireturnOut hexec hret (narrow_c _) (Or.inr (Or.inr (Or.inr (Or.inl rfl)))) (hb hbytes d14) hl)⟩
end LChA
end StrChars
namespace StrChars.Road
open Jvm Sem ClassFile Op Lib Jvm.Stand Jvm.Free Jvm.Free.XT
open Jvm.Lib.Cold (StaticIs)
theorem consq {a : Array Value} {s : State} {c : Jvm.Cond} {L : List Jvm.Cond} (h0 : c.before a s = true) (h : ∀ w ∈ L, w.before a s = true) : ∀ w ∈ c :: L, w.before a s = true := fun w hw => (List.mem_cons.mp hw).elim (fun e => e ▸ h0) (h w)
/-- the words of String.length(), either coding -/
abbrev wordsLen : List Jvm.Cond := [.code Len.yN Len.yB 1 (some .int), .initialized ST, .fieldLink ST 9 ST "value" "[B", .fieldLink ST 38 ST "COMPACT_STRINGS" "Z", .fieldLink ST 15 ST "coder" "B", .code Cdr.yN Cdr.yB 1 (some .byte), .methodLink ST 335 Cdr.yN, .declares Cdr.yN, .selects ST Cdr.yN Cdr.yN, .instanceMethod Cdr.yN]
theorem tabLen_of {a : Array Value} {s : State} (h : ∀ w ∈ wordsLen, w.before a s = true) : Len.tab.before a s = true := by
  have hc : Cdr.tab.before a s = true := unparts (wk h (.code Cdr.yN Cdr.yB 1 (some .byte))) (wks h (.initialized Cdr.yN.cls :: Cdr.site))
  have q := consq hc h
  exact unparts (wk q (.code Len.yN Len.yB 1 (some .int))) (wks q (.initialized Len.yN.cls :: Len.site))
theorem movedLen {Z s : State} {a0 args : Array Value} (hZ : Z.Warmed39 s.vm) (hw : ∀ d ∈ wordsLen, d.before a0 Z = true) : ∀ d ∈ wordsLen, d.before args s = true := fun d hd => by
  have q := hw d hd
  have t : ∀ d ∈ wordsLen, d = .arrayClass .byte ∨ (d.onTables && d.keepsFace) = true := by decide +kernel
  rcases t d hd with rfl | t
  · exact RoadKit.mvA hZ q
  · exact RoadKit.mv hZ q t
/-- the bytes of the chars cs, low before high -/
def wideBytes : List Int32 → List Value
  | [] => []
  | c :: cs => .int (lo8 c) :: .int (hi8 c) :: wideBytes cs
theorem wide_lo (d : Value) : ∀ (cs : List Int32) (j : Nat), j < cs.length → (wideBytes cs).getD (2 * j) d = .int (lo8 (cs.getD j 0))
  | [], j, h => absurd h (Nat.not_lt_zero j)
  | c :: cs, 0, _ => rfl
  | c :: cs, j + 1, h => by
    have q := wide_lo d cs j (by simpa using h)
    rw [show 2 * (j + 1) = 2 * j + 1 + 1 from by omega]
    simpa [wideBytes] using q
theorem wide_hi (d : Value) : ∀ (cs : List Int32) (j : Nat), j < cs.length → (wideBytes cs).getD (2 * j + 1) d = .int (hi8 (cs.getD j 0))
  | [], j, h => absurd h (Nat.not_lt_zero j)
  | c :: cs, 0, _ => rfl
  | c :: cs, j + 1, h => by
    have q := wide_hi d cs j (by simpa using h)
    rw [show 2 * (j + 1) + 1 = 2 * j + 1 + 1 + 1 from by omega]
    simpa [wideBytes] using q
theorem low_at (d : Value) (cs : List Int32) (j : Nat) (h : j < cs.length) : (cs.map fun c => Value.int (lo8 c)).getD j d = .int (lo8 (cs.getD j 0)) := by
  simp [List.getD_eq_getElem?_getD, h]
/-- an array of N2 bytes vs codes the chars cs by the coder cd -/
def CodA (cs : List Int32) (cd N2 : Int32) (vs : List Value) : Prop := (cd = 0 ∧ N2 = Int32.ofNat cs.length ∧ vs = (cs.map fun c => Value.int (lo8 c)) ∧ ∀ c ∈ cs, ¬ 255 < c) ∨ (cd = 1 ∧ N2 = Int32.ofNat (2 * cs.length) ∧ vs = wideBytes cs ∧ ∃ c ∈ cs, 255 < c)
theorem CodA.cod {cs : List Int32} {cd N2 : Int32} {vs : List Value} {V : Cell} (h : CodA cs cd N2 vs) (hn : 2 * cs.length < 2 ^ 31) (hs : V.slots.size = N2.toNatClampNeg) (hv : RoadKit.Has V vs (.int 0)) : Cod cd cs.length (fun j => cs.getD j 0) V := by
  rcases h with ⟨rfl, rfl, rfl, h⟩ | ⟨rfl, rfl, rfl, c, hc, hw⟩
  · rw [n32 (by omega)] at hs
    exact Or.inl ⟨rfl, hs, fun j hj => ⟨by rw [hv j (by omega), low_at _ _ _ hj], by
      have e : cs.getD j 0 = cs[j] := by simp [List.getD_eq_getElem?_getD, hj]
      show ¬ 255 < cs.getD j 0
      rw [e]; exact h _ (List.getElem_mem _)⟩⟩
  · rw [n32 (by omega)] at hs
    obtain ⟨j, hj, rfl⟩ := List.getElem_of_mem hc
    exact Or.inr ⟨rfl, hs, fun j hj => ⟨by rw [hv _ (by omega), wide_lo _ _ _ hj], by rw [hv _ (by omega), wide_hi _ _ _ hj]⟩, j, hj, by
      have e : cs.getD j 0 = cs[j] := by simp [List.getD_eq_getElem?_getD, hj]
      show 255 < cs.getD j 0
      rw [e]; exact hw⟩
/-- an object of exactly java/lang/String, its two fields found: as the laws ask it -/
theorem strObj {Z U : State} {a0 : Array Value} {kI : Nat} (wi : (Jvm.Cond.instantiable ST kI).before a0 Z = true) (al : Z.vm.Alike U.vm) {x : Addr} {v0 c0 : Value} (E : RoadKit.Exa Z U.heap x ST) (V : RoadKit.Fld Z U.heap x ST "value" "[B" v0) (C : RoadKit.Fld Z U.heap x ST "coder" "B" c0) :
    ∃ (D : Cell) (fV fC : Field), Blank ST x D U ∧ Found ST "value" "[B" fV U ∧ Found ST "coder" "B" fC U ∧ D.slots[fV.slot]? = some v0 ∧ D.slots[fC.slot]? = some c0 ∧ RoadKit.slotOf Z ST "value" "[B" = fV.slot ∧ RoadKit.slotOf Z ST "coder" "B" = fC.slot := by
  obtain ⟨D, cfV, kV, iV, fV, hD, gV, stV, knV, obV, asV, slV⟩ := V
  obtain ⟨D', cfC, kC, iC, fC, hD', gC, stC, -, -, asC, slC⟩ := C
  cases hD.symm.trans hD'
  obtain ⟨D2, kD, e1, e2, e3, e4, e5⟩ := E
  cases hD.symm.trans e1
  obtain ⟨c2, k2, i1, i2, i3, -⟩ := Cond.instantiable_spec wi
  cases e2.symm.trans i1
  cases e3.symm.trans i2
  obtain ⟨kU, u1, u2⟩ := al.2.2 _ _ e3
  exact ⟨D, fV, fC, ⟨hD, ⟨knV, fun q hq => by rw [hq] at obV; cases obV⟩, by rw [al.findClass]; exact e2, kU, u1, by rw [u2]; exact i3, by rw [u2]; exact e5 i3⟩, ⟨SBG.found_only al ⟨cfV, kV, iV, gV⟩, stV⟩, ⟨SBG.found_only al ⟨cfC, kC, iC, gC⟩, stC⟩, slV, slC, by simp [RoadKit.slotOf, gV], by simp [RoadKit.slotOf, gC]⟩
theorem sta_is {Z U : State} (al : Z.vm.Alike U.vm) {C n d : String} {v : Value} (S : RoadKit.Sta Z U.heap C n d v) : StaticIs U C n d v := by
  obtain ⟨cfS, iS, kS, fS, st, cS, t1, t2, t3, t4, t5, t6, t7⟩ := S
  exact StaticIs.there (s := { Z with heap := U.heap }) ⟨cfS, iS, kS, fS, st, cS, t1, t2, t3, t4, t5, (fun q => by rw [q] at t6; cases t6), t7⟩ al rfl
/-- **length() OF SUCH A STRING** -/
theorem lenW {p : Program} {l : Launch} {e : Env} {R : Room} {s : State} {args : Array Value} {below : List Frame} {len W : Nat} {Z : State} {a0 : Array Value} {h : Heap} (hZ : Z.Warmed39 s.vm) (hw : ∀ d ∈ wordsLen, d.before a0 Z = true) {kI : Nat} (wi : (Jvm.Cond.instantiable ST kI).before a0 Z = true)
    {x t : Addr} {kb : ClassId} {cs : List Int32} {cd N2 z : Int32} {vs : List Value} (E : RoadKit.Exa Z h x ST) (V : RoadKit.Fld Z h x ST "value" "[B" (.ref t)) (C : RoadKit.Fld Z h x ST "coder" "B" (.int cd)) (K : RoadKit.Arv Z h t kb .byte N2 vs (.int 0)) (hc : CodA cs cd N2 vs) (hb : ∀ c ∈ cs, ¬ c < 0 ∧ ¬ (65535 : Int32) < c)
    (S : RoadKit.Sta Z h ST "COMPACT_STRINGS" "Z" (.int z)) (hz : ¬ z = 0) (l2 : cs.length ≤ 4000) (hfr : 2 ≤ R.frames) (hlo : W + 25 ≤ R.locals) :
    Back l R p e below s args (⟨"java/lang/String", "length", "()I"⟩ : MethodName) len W (fun P a => a = #[.ref x] ∧ P.U.heap = h ∧ P.cells + 0 ≤ R.cells ∧ P.slots + 0 ≤ R.slots)
      (fun P _ v B => ∃ L, (v = some (.int (Int32.ofNat cs.length)) ∧ L = [] ∧ B.U.heap = h) ∧ B.locs = P.locs ++ L ∧ B.cells = P.cells + 0 ∧ B.slots = P.slots + 0) := by
  obtain ⟨A, K1, K2, K3, K4, K5, K6⟩ := K
  have hcod := hc.cod (by omega) K3 K5
  intro m meth c P g ig mk a X hg hsize hdg hW hn hp'
  obtain ⟨rfl, rfl, r1, r2⟩ := hp'
  have al : Z.vm.Alike P.U.vm := hZ.alike.trans X.warmed.alike
  obtain ⟨D, fV, fC, hB, F1, F2, g1, g2, -, -⟩ := strObj wi al E V C
  have hx : Txt x t A cd cs.length (fun j => cs.getD j 0) P.U := ⟨⟨_, hB.2.2.1, D, hB.1, rfl, by cases q : D.vm <;> first | rfl | exact absurd q (hB.2.1.2 _)⟩, Has.of hB F1 g1, Has.of hB F2 g2, ⟨K1.1, State.isArrayOf_alike al K1.2.1, K1.2.2, by rcases hcod with ⟨-, q, -⟩ | ⟨-, q, -⟩ <;> omega⟩, hcod, fun j hj => by
    have e : cs.getD j 0 = cs[j] := by simp [List.getD_eq_getElem?_getD, hj]
    show ¬ cs.getD j 0 < 0 ∧ ¬ 65535 < cs.getD j 0
    rw [e]; exact hb _ (List.getElem_mem _)⟩
  obtain ⟨v, B, X', ⟨⟨hv, hh⟩, hl, hk, hs⟩, st⟩ := Len.pays x t A cd cs.length (fun j => cs.getD j 0) z (tabLen_of (movedLen hZ hw)) hfr hlo m meth c P g ig mk _ X hg hsize hdg hW hn ⟨r1, r2, rfl, hx, sta_is al S, hz⟩
  exact ⟨v, B, X', ⟨[], ⟨hv, rfl, hh⟩, hl, hk, hs⟩, st⟩
end StrChars.Road
namespace StrChars.Road
open Jvm Sem ClassFile Op Lib Jvm.Stand Jvm.Free Jvm.Free.XT
open Jvm.Lib.Cold (StaticIs)
/-- the road's facts of a String, as the laws ask it -/
theorem txt_of {Z U : State} {a0 : Array Value} {kI : Nat} (wi : (Jvm.Cond.instantiable ST kI).before a0 Z = true) (al : Z.vm.Alike U.vm) {x t : Addr} {kb : ClassId} {cs : List Int32} {cd N2 : Int32} {vs : List Value} (E : RoadKit.Exa Z U.heap x ST) (V : RoadKit.Fld Z U.heap x ST "value" "[B" (.ref t)) (C : RoadKit.Fld Z U.heap x ST "coder" "B" (.int cd)) (K : RoadKit.Arv Z U.heap t kb .byte N2 vs (.int 0)) (hc : CodA cs cd N2 vs) (hb : ∀ c ∈ cs, ¬ c < 0 ∧ ¬ (65535 : Int32) < c) (l2 : cs.length ≤ 4000) :
    ∃ A, Txt x t A cd cs.length (fun j => cs.getD j 0) U := by
  obtain ⟨A, K1, K2, K3, K4, K5, K6⟩ := K
  have hcod := hc.cod (by omega) K3 K5
  obtain ⟨D, fV, fC, hB, F1, F2, g1, g2, -, -⟩ := strObj wi al E V C
  exact ⟨A, ⟨_, hB.2.2.1, D, hB.1, rfl, by cases q : D.vm <;> first | rfl | exact absurd q (hB.2.1.2 _)⟩, Has.of hB F1 g1, Has.of hB F2 g2, ⟨K1.1, State.isArrayOf_alike al K1.2.1, K1.2.2, by rcases hcod with ⟨-, q, -⟩ | ⟨-, q, -⟩ <;> omega⟩, hcod, fun j hj => by
    have e : cs.getD j 0 = cs[j] := by simp [List.getD_eq_getElem?_getD, hj]
    show ¬ cs.getD j 0 < 0 ∧ ¬ 65535 < cs.getD j 0
    rw [e]; exact hb _ (List.getElem_mem _)⟩
end StrChars.Road
namespace StrChars
open Jvm Sem ClassFile Op Lib Jvm.Stand Jvm.Free.XT Jvm.Free.ALB Jvm.Free.JM Jvm.Free
open Jvm.Lib.Cold (StaticIs)
namespace ChN
def yN : MethodName := ⟨"java/lang/String", "charAt", "(I)C"⟩
abbrev yB : ByteArray := jdk_42_method_56_code
theorem d0 : decode yB 0 = .ok (.aload_n 0, 1) := by decide +kernel
theorem d1 : decode yB 1 = .ok (.invokevirtual 492, 3) := by decide +kernel
theorem d4 : decode yB 4 = .ok (.ifCond (.eq) 12, 3) := by decide +kernel
theorem d7 : decode yB 7 = .ok (.aload_n 0, 1) := by decide +kernel
theorem d8 : decode yB 8 = .ok (.getfield 9, 3) := by decide +kernel
theorem d11 : decode yB 11 = .ok (.iload_n 1, 1) := by decide +kernel
theorem d12 : decode yB 12 = .ok (.invokestatic 495, 3) := by decide +kernel
theorem d15 : decode yB 15 = .ok (.ireturn, 1) := by decide +kernel
def site : List Cond := [.fieldLink "java/lang/String" 9 "java/lang/String" "value" "[B", IsL.tab, LChA.tab] ++ virtW "java/lang/String" 492 "java/lang/String" IsL.yN IsL.yN ++ staticW "java/lang/String" 495 LChA.yN
def tab : Cond := tabOf yN yB 2 (some .char) site
def P (x t : Addr) (V : Cell) (n : Nat) (f : Nat → Int32) (z : Int32) (fm : Value) (i : Nat) (args : Array Value) (s : State) : Prop := args = #[.ref x, .int (Int32.ofNat i)] ∧ Txt x t V 0 n f s ∧ i < n ∧ StaticIs s "java/lang/String" "COMPACT_STRINGS" "Z" (.int z) ∧ ¬ z = 0 ∧ StaticIs s "jdk/internal/util/Preconditions" "SIOOBE_FORMATTER" "Ljava/util/function/BiFunction;" fm ∧ fm.isRef = true
def E (f : Nat → Int32) (i : Nat) (r : Option Value) (s u : State) : Prop := XT.PureE (some (.int (f i))) r s u
/-- charAt(i) of a Latin-1 String of n chars, i < n: f i -/
theorem law (l : Launch) (x t : Addr) (V : Cell) (n : Nat) (f : Nat → Int32) (z : Int32) (fm : Value) (i : Nat) : Law l yN 2 1 3 40 yB 2 (some .char) site (P x t V n f z fm i) (E f i) [] 0 0 := by
  refine Law.of_walk (plainFor_of_name (by decide +kernel)) (by decide +kernel) (by decide +kernel) (by decide) (fun _ _ h => by rw [h.1]; rfl) (fun _ U U' hal hh h => ⟨h.1, h.2.1.mv hal hh, h.2.2.1, h.2.2.2.1.there hal hh, h.2.2.2.2.1, h.2.2.2.2.2.1.there hal hh, h.2.2.2.2.2.2⟩) (fun r U U' V V' h1 hal h2 h => XT.PureE.mv r U U' V V' h1 hal h2 h) ?_
  intro p e s m args below meth c s₁ X0 hexec hbytes hml hret hlk hnm hown hh0 W hP
  obtain ⟨rfl, hx, hi, s1, hz, s3, rf⟩ := hP
  have v31 := hx.2.2.2.1.2.2.2
  have hr := hx.2.2.2.2.2 i hi
  have hx0 := hx.mv X0.warmed.alike hh0
  have c1 : Steps p.tables e below (s₁.setTop (entryFrame m #[.ref x, .int (Int32.ofNat i)] 2)) (s₁.setTop (mkF m 1 #[.val (.ref x), .val (.int (Int32.ofNat i))] [.ref x])) := Steps.trans (entry rfl) (by
    show Steps p.tables e below (s₁.setTop (mkF m 0 #[.val (.ref x), .val (.int (Int32.ofNat i))] [])) _
    refine XS.aloadN X0.here hexec rfl (hb hbytes d0) rfl rfl ?_
    exact Steps.refl _)
  obtain ⟨v2, T2, X2, E2, g2⟩ := X0.callV hexec (IsL.law l x 0 z) hown (wks W (virtW "java/lang/String" 492 "java/lang/String" IsL.yN IsL.yN)) rfl (by decide) (wk W IsL.tab) (W := 0) (Nat.le_of_ble_eq_true rfl) (Nat.le_of_ble_eq_true rfl) (Nat.le_refl _) (Nat.le_refl _) (hx0.1.fc X0.warmed.alike) hx0.1.is (g := (mkF m 1 #[.val (.ref x), .val (.int (Int32.ofNat i))] [.ref x])) rfl (by rw [hml]; rfl) c1 (argsL := []) (rest := []) rfl rfl (by show 2 * 0 + 0 ≤ _; decide) (hb hbytes d1) (⟨rfl, hx0.2.2.1, hx.2.2.2.2.1.cd, s1.there X0.warmed.alike hh0, hz⟩)
  obtain ⟨rfl, q2⟩ := E2
  have hh2 := q2.trans hh0
  have hx2 := hx.mv X2.warmed.alike hh2
  obtain ⟨-, k1, k2⟩ | ⟨k0, -⟩ := hx.2.2.2.2.1
  · have c3 : Steps p.tables e below (s₁.setTop (entryFrame m #[.ref x, .int (Int32.ofNat i)] 2)) (T2.setTop (mkF m 8 #[.val (.ref x), .val (.int (Int32.ofNat i))] [.ref x])) := Steps.trans g2 (by
      refine XS.ifNo X2.here hexec rfl (hb hbytes d4) rfl (i0_eq_f (by decide)) ?_
      refine XS.aloadN X2.here hexec rfl (hb hbytes d7) rfl rfl ?_
      exact Steps.refl _)
    obtain ⟨T4, X4, q4, st4⟩ := X2.hget hexec hown (wk W (.fieldLink "java/lang/String" 9 "java/lang/String" "value" "[B")) hx2.2.1 (g := (mkF m 8 #[.val (.ref x), .val (.int (Int32.ofNat i))] [.ref x])) rfl (rest := []) rfl (hb hbytes d8)
    have hh4 := q4.trans hh2
    have c5 : Steps p.tables e below (s₁.setTop (entryFrame m #[.ref x, .int (Int32.ofNat i)] 2)) (T4.setTop (mkF m 12 #[.val (.ref x), .val (.int (Int32.ofNat i))] [.int (Int32.ofNat i), .ref t])) := (c3.trans (st4 _ (Steps.refl _))).trans (by
      refine XS.iloadN X4.here hexec rfl (hb hbytes d11) rfl ?_
      exact Steps.refl _)
    obtain ⟨v6, T6, X6, E6, g6⟩ := X4.callS hexec (LChA.law l t V i (lo8 (f i)) fm) hown (wks W (staticW "java/lang/String" 495 LChA.yN)) (wk W LChA.tab) (W := 0) (Nat.le_of_ble_eq_true rfl) (Nat.le_of_ble_eq_true rfl) (Nat.le_refl _) (Nat.le_refl _) (g := (mkF m 12 #[.val (.ref x), .val (.int (Int32.ofNat i))] [.int (Int32.ofNat i), .ref t])) rfl (by rw [hml]; rfl) c5 (argsL := [.ref t, .int (Int32.ofNat i)]) (rest := []) rfl rfl (by show 2 * 0 + 0 ≤ _; decide) (hb hbytes d12) (⟨rfl, hx.2.2.2.1.mv X4.warmed.alike hh4, (k2 i hi).1, s3.there X4.warmed.alike hh4, rf⟩)
    obtain ⟨rfl, q6⟩ := E6
    rw [chr8_lo8 hr.1 (k2 i hi).2] at g6
    exact ⟨T6, some (.int (f i)), _, _, _, X6, rfl, rfl, rfl, (fun h => by cases h), ⟨rfl, q6.trans hh4⟩, fun fs hl => Steps.trans g6 (X6.ireturnOut hexec hret (narrow_ch hr.1 hr.2) (Or.inr (Or.inr (Or.inr (Or.inl rfl)))) (hb hbytes d15) hl)⟩
  · exact absurd k0 (by decide)
theorem pays {l : Launch} {R : Room} {p : Program} {e : Env} {below : List Frame} {s : State} {sargs : Array Value} {len W : Nat} (x t : Addr) (V : Cell) (n : Nat) (f : Nat → Int32) (z : Int32) (fm : Value) (i : Nat) (htab : tab.before sargs s = true) (hfr : 4 ≤ R.frames) (hlo : W + 53 ≤ R.locals) :
    Back l R p e below s sargs yN len W (fun A₁ a₁ => A₁.cells + 0 ≤ R.cells ∧ A₁.slots + 0 ≤ R.slots ∧ P x t V n f z fm i a₁ A₁.U) (fun A₁ _ v₁ B₁ => E f i v₁ A₁.U B₁.U ∧ B₁.locs = A₁.locs ++ [] ∧ B₁.cells = A₁.cells + 0 ∧ B₁.slots = A₁.slots + 0) :=
  (law l x t V n f z fm i).pays htab hfr (by omega)
end ChN
end StrChars
namespace StrChars.Road
open Jvm Sem ClassFile Op Lib Jvm.Stand Jvm.Free Jvm.Free.XT
open Jvm.Lib.Cold (StaticIs)
/-- the words of String.charAt(int), the Latin-1 road alone -/
abbrev wordsChN : List Jvm.Cond := [.code ChN.yN ChN.yB 2 (some .char), .initialized ST, .fieldLink ST 9 ST "value" "[B", .fieldLink ST 38 ST "COMPACT_STRINGS" "Z", .fieldLink ST 15 ST "coder" "B", .code IsL.yN IsL.yB 1 (some .boolean), .methodLink ST 492 IsL.yN, .declares IsL.yN, .selects ST IsL.yN IsL.yN, .instanceMethod IsL.yN,
  .methodLink ST 495 LChA.yN, .static LChA.yN, .code LChA.yN LChA.yB 2 (some .char), .initialized "java/lang/StringLatin1", .methodLink "java/lang/StringLatin1" 9 JO.Str_checkIndex.yN, .static JO.Str_checkIndex.yN, .code JO.Str_checkIndex.yN JO.Str_checkIndex.yB 2 none,
  .fieldLink ST 1053 "jdk/internal/util/Preconditions" "SIOOBE_FORMATTER" "Ljava/util/function/BiFunction;", .methodLink ST 1059 JC.PreCheck.yN, .static JC.PreCheck.yN, .code JC.PreCheck.yN JC.PreCheck.yB 3 (some .int), .initialized "jdk/internal/util/Preconditions"]
theorem tabChN_of {a : Array Value} {s : State} (h : ∀ w ∈ wordsChN, w.before a s = true) : ChN.tab.before a s = true := by
  have hp : JC.PreCheck.tab.before a s = true := unparts (wk h (.code JC.PreCheck.yN JC.PreCheck.yB 3 (some .int))) (wks h (.initialized JC.PreCheck.yN.cls :: JC.PreCheck.site))
  have qk := consq hp h
  have hk : JO.Str_checkIndex.tab.before a s = true := unparts (wk qk (.code JO.Str_checkIndex.yN JO.Str_checkIndex.yB 2 none)) (wks qk (.initialized JO.Str_checkIndex.yN.cls :: JO.Str_checkIndex.site))
  have ql := consq hk h
  have hl : LChA.tab.before a s = true := unparts (wk ql (.code LChA.yN LChA.yB 2 (some .char))) (wks ql (.initialized LChA.yN.cls :: LChA.site))
  have hi : IsL.tab.before a s = true := unparts (wk h (.code IsL.yN IsL.yB 1 (some .boolean))) (wks h (.initialized IsL.yN.cls :: IsL.site))
  have q := consq hi (consq hl h)
  exact unparts (wk q (.code ChN.yN ChN.yB 2 (some .char))) (wks q (.initialized ChN.yN.cls :: ChN.site))
theorem movedChN {Z s : State} {a0 args : Array Value} (hZ : Z.Warmed39 s.vm) (hw : ∀ d ∈ wordsChN, d.before a0 Z = true) : ∀ d ∈ wordsChN, d.before args s = true := fun d hd => by
  have t : ∀ d ∈ wordsChN, (d.onTables && d.keepsFace) = true := by decide +kernel
  exact RoadKit.mv hZ (hw d hd) (t d hd)
/-- **charAt(i) OF A LATIN-1 STRING**, i < n: the char -/
theorem chN {p : Program} {l : Launch} {e : Env} {R : Room} {s : State} {args : Array Value} {below : List Frame} {len W : Nat} {Z : State} {a0 : Array Value} {h : Heap} (hZ : Z.Warmed39 s.vm) (hw : ∀ d ∈ wordsChN, d.before a0 Z = true) {kI : Nat} (wi : (Jvm.Cond.instantiable ST kI).before a0 Z = true)
    {x t : Addr} {kb : ClassId} {cs : List Int32} {N2 z : Int32} {vs : List Value} {fm : Value} {i : Nat} {j : Int32} (E : RoadKit.Exa Z h x ST) (V : RoadKit.Fld Z h x ST "value" "[B" (.ref t)) (C : RoadKit.Fld Z h x ST "coder" "B" (.int 0)) (K : RoadKit.Arv Z h t kb .byte N2 vs (.int 0)) (hc : CodA cs 0 N2 vs) (hb : ∀ c ∈ cs, ¬ c < 0 ∧ ¬ (65535 : Int32) < c)
    (S : RoadKit.Sta Z h ST "COMPACT_STRINGS" "Z" (.int z)) (hz : ¬ z = 0) (F : RoadKit.Sta Z h "jdk/internal/util/Preconditions" "SIOOBE_FORMATTER" "Ljava/util/function/BiFunction;" fm) (rf : fm.isRef = true) (l2 : cs.length ≤ 4000) (hi : i < cs.length) (hj : j = Int32.ofNat i) (hfr : 4 ≤ R.frames) (hlo : W + 53 ≤ R.locals) :
    Back l R p e below s args (⟨"java/lang/String", "charAt", "(I)C"⟩ : MethodName) len W (fun P a => a = #[.ref x, .int j] ∧ P.U.heap = h ∧ P.cells + 0 ≤ R.cells ∧ P.slots + 0 ≤ R.slots)
      (fun P _ v B => ∃ L, (v = some (.int (cs.getD i 0)) ∧ L = [] ∧ B.U.heap = h) ∧ B.locs = P.locs ++ L ∧ B.cells = P.cells + 0 ∧ B.slots = P.slots + 0) := by
  subst hj
  intro m meth c P g ig mk a X hg hsize hdg hW hn hp'
  obtain ⟨rfl, rfl, r1, r2⟩ := hp'
  have al : Z.vm.Alike P.U.vm := hZ.alike.trans X.warmed.alike
  obtain ⟨A, hx⟩ := txt_of wi al E V C K hc hb l2
  obtain ⟨v, B, X', ⟨⟨hv, hh⟩, hl, hk, hs⟩, st⟩ := ChN.pays x t A cs.length (fun j => cs.getD j 0) z fm i (tabChN_of (movedChN hZ hw)) hfr hlo m meth c P g ig mk _ X hg hsize hdg hW hn ⟨r1, r2, rfl, hx, hi, sta_is al S, hz, sta_is al F, rf⟩
  exact ⟨v, B, X', ⟨[], ⟨hv, rfl, hh⟩, hl, hk, hs⟩, st⟩
/-- what backV says of its String, as the contracts of this text ask it: cs's low bytes, coder 0 -/
theorem codOf {cs : List Int32} {n : Nat} (hn : cs.length = n) (hb : ∀ c ∈ cs, ¬ 255 < c) : CodA cs 0 (Int32.ofNat n) ((cs.map lo8).map Value.int) := Or.inl ⟨rfl, by rw [hn], by simp [List.map_map, Function.comp_def], hb⟩
end StrChars.Road
end Jvm.Pilot.@@N@@

namespace Jvm.Pilot.@@N@@
open Jvm Jvm.ClassFile Sem Op Lib Jvm.Free Jvm.Stand Jvm.LawKit Jvm.RoadKit Bundle Jvm.Pilot.@@N@@.Jvm.D
namespace Own
section Own
variable {p : Program} {l : Launch} {e : Env} {R : Room} {s : State} {m : MethodId} {args : Array Value} {below : List Frame} {meth : Method} {c : Code} {Z : State} {a0 : Array Value} {EL : List (String × Nat)} {y : MethodName} {bytes : ByteArray} {ml : Nat} {ret : Option FieldType} {w : Bool} {h0 : Heap} {ws ws' : List Addr} {vm0 vm1 : Vm} {T T' : State} {h h' h1 : Heap} {locs locs' : List Loc} {cells slots cells' slots' : Nat} {F : State → Option Value → Prop} {pc pc' : Nat} {Ls Ls' : Array Slot} {rest : List Value} {a b x : Addr}
/-- what is left of a walk: from here it comes to a return of which F is true -/
def Go (p : Program) (e : Env) (below : List Frame) (F : State → Option Value → Prop) (T : State) (g : JFrame) : Prop :=
  ∃ t v, Steps p.tables e below (T.setTop g) t ∧ t.status = .running ∧ Ended t below (.returned v) ∧ F t v
theorem Go.by {g g' : JFrame} (k : Go p e below F T' g') (st : ∀ t, Steps p.tables e below (T'.setTop g') t → Steps p.tables e below (T.setTop g) t) : Go p e below F T g := by
  obtain ⟨t, v, a, b⟩ := k; exact ⟨t, v, st t a, b⟩
theorem Go.imp {g : JFrame} {F' : State → Option Value → Prop} (k : Go p e below F T g) (f : ∀ t v, F t v → F' t v) : Go p e below F' T g := by
  obtain ⟨t, v, a, b, c, d⟩ := k; exact ⟨t, v, a, b, c, f t v d⟩
theorem extK (E : Ext h0 h) (K : Keep h h' ws) (q : ∀ x ∈ ws, h0.size ≤ x) : Ext h0 h' :=
  ⟨Nat.le_trans E.1 K.1, fun a c r => K.2.1 a c (E.2 a c r) fun z => absurd (Array.getElem?_eq_some_iff.mp r).1 (Nat.not_lt.mpr (q a z))⟩
theorem Ext.rfl' (h : Heap) : Ext h h := ⟨Nat.le_refl _, fun _ _ q => q⟩
theorem Ext.tr (E : Ext h h') (E' : Ext h' h1) : Ext h h1 := ⟨Nat.le_trans E.1 E'.1, fun a c q => E'.2 a c (E.2 a c q)⟩
theorem extN (K : Keep h h' []) : Ext h h' := ⟨K.1, fun a c q => K.2.1 a c q nin0⟩
/-- one step of the heap: what is kept; in a walk that may intern, the constants as well -/
def Ev (w : Bool) (Z : State) (EL : List (String × Nat)) (vm0 : Vm) (h : Heap) (vm1 : Vm) (h' : Heap) (ws : List Addr) : Prop := Keep h h' ws ∧ (w = true → CHr Z EL vm0 h vm1 h')
/-- the cell at x may be written -/
def Ok (w : Bool) (Z : State) (EL : List (String × Nat)) (h0 : Heap) (ws : List Addr) (vm0 : Vm) (h : Heap) (x : Addr) : Prop := x < h.size ∧ Z.heap.size ≤ x ∧ (x ∈ ws ∨ h0.size ≤ x) ∧ (w = true → Safe Z EL vm0 h x)
theorem Ok.ev (O : Ok w Z EL h0 ws vm0 h x) (V : Ev w Z EL vm0 h vm1 h' ws') : Ok w Z EL h0 ws vm1 h' x := ⟨Nat.lt_of_lt_of_le O.1 V.1.1, O.2.1, O.2.2.1, fun q => (V.2 q).safe O.1 (O.2.2.2 q)⟩
/-- where a walk stands -/
def Wk (p : Program) (l : Launch) (e : Env) (R : Room) (s : State) (m : MethodId) (args : Array Value) (below : List Frame) (meth : Method) (c : Code) (Z : State) (a0 : Array Value) (EL : List (String × Nat)) (y : MethodName) (bytes : ByteArray) (ml : Nat) (ret : Option FieldType) (w : Bool) (h0 : Heap) (ws : List Addr) (vm0 : Vm) (T : State) (h : Heap) (locs : List Loc) (cells slots : Nat) : Prop :=
  (p.tables.exec = Jvm.exec ∧ c.code = bytes ∧ c.maxLocals = ml ∧ meth.sig.returnType = ret ∧ meth.locks = false ∧ meth.name = y.name ∧ EW Z a0 EL) ∧
  Stand p l e R (s.setVm vm0) m args below meth c T locs cells slots ∧ Z.Warmed39 vm0 ∧ vm0.findClass y.cls = some m.cls ∧ T.heap = h ∧ (∃ k0, s.Since vm0 k0 ∧ k0 ≤ h.size) ∧ (w = false → vm0 = s.vm) ∧ Fr Z.heap.size locs ∧ Ext Z.heap h ∧ Keep h0 h ws ∧ (w = true → CHr Z EL s.vm h0 vm0 h)
theorem Wk.hx (X : Wk p l e R s m args below meth c Z a0 EL y bytes ml ret w h0 ws vm0 T h locs cells slots) : p.tables.exec = Jvm.exec := X.1.1
theorem Wk.hby (X : Wk p l e R s m args below meth c Z a0 EL y bytes ml ret w h0 ws vm0 T h locs cells slots) : c.code = bytes := X.1.2.1
theorem Wk.hml (X : Wk p l e R s m args below meth c Z a0 EL y bytes ml ret w h0 ws vm0 T h locs cells slots) : c.maxLocals = ml := X.1.2.2.1
theorem Wk.hret (X : Wk p l e R s m args below meth c Z a0 EL y bytes ml ret w h0 ws vm0 T h locs cells slots) : meth.sig.returnType = ret := X.1.2.2.2.1
theorem Wk.hlk (X : Wk p l e R s m args below meth c Z a0 EL y bytes ml ret w h0 ws vm0 T h locs cells slots) : meth.locks = false := X.1.2.2.2.2.1
theorem Wk.hnm (X : Wk p l e R s m args below meth c Z a0 EL y bytes ml ret w h0 ws vm0 T h locs cells slots) : meth.name = y.name := X.1.2.2.2.2.2.1
theorem Wk.hEW (X : Wk p l e R s m args below meth c Z a0 EL y bytes ml ret w h0 ws vm0 T h locs cells slots) : EW Z a0 EL := X.1.2.2.2.2.2.2
theorem Wk.st (X : Wk p l e R s m args below meth c Z a0 EL y bytes ml ret w h0 ws vm0 T h locs cells slots) : Stand p l e R (s.setVm vm0) m args below meth c T locs cells slots := X.2.1
theorem Wk.hZ (X : Wk p l e R s m args below meth c Z a0 EL y bytes ml ret w h0 ws vm0 T h locs cells slots) : Z.Warmed39 (s.setVm vm0).vm := X.2.2.1
theorem Wk.hown (X : Wk p l e R s m args below meth c Z a0 EL y bytes ml ret w h0 ws vm0 T h locs cells slots) : (s.setVm vm0).vm.findClass y.cls = some m.cls := X.2.2.2.1
theorem Wk.hT (X : Wk p l e R s m args below meth c Z a0 EL y bytes ml ret w h0 ws vm0 T h locs cells slots) : T.heap = h := X.2.2.2.2.1
theorem Wk.hS (X : Wk p l e R s m args below meth c Z a0 EL y bytes ml ret w h0 ws vm0 T h locs cells slots) : ∃ k0, s.Since vm0 k0 ∧ k0 ≤ h.size := X.2.2.2.2.2.1
theorem Wk.hv (X : Wk p l e R s m args below meth c Z a0 EL y bytes ml ret w h0 ws vm0 T h locs cells slots) : w = false → vm0 = s.vm := X.2.2.2.2.2.2.1
theorem Wk.hN (X : Wk p l e R s m args below meth c Z a0 EL y bytes ml ret w h0 ws vm0 T h locs cells slots) : Fr Z.heap.size locs := X.2.2.2.2.2.2.2.1
theorem Wk.hE (X : Wk p l e R s m args below meth c Z a0 EL y bytes ml ret w h0 ws vm0 T h locs cells slots) : Ext Z.heap h := X.2.2.2.2.2.2.2.2.1
theorem Wk.hK (X : Wk p l e R s m args below meth c Z a0 EL y bytes ml ret w h0 ws vm0 T h locs cells slots) : Keep h0 h ws := X.2.2.2.2.2.2.2.2.2.1
theorem Wk.hC (X : Wk p l e R s m args below meth c Z a0 EL y bytes ml ret w h0 ws vm0 T h locs cells slots) : w = true → CHr Z EL s.vm h0 vm0 h := X.2.2.2.2.2.2.2.2.2.2
theorem Wk.chv (X : Wk p l e R s m args below meth c Z a0 EL y bytes ml ret w h0 ws vm0 T h locs cells slots) (q : w = true) : CHv Z EL vm0 h := (X.hC q).1
theorem Wk.move (X : Wk p l e R s m args below meth c Z a0 EL y bytes ml ret w h0 ws vm0 T h locs cells slots) (St : Stand p l e R (s.setVm vm1) m args below meth c T' locs' cells' slots') (hZ : Z.Warmed39 vm1) (ho : vm1.findClass y.cls = some m.cls) (hT : T'.heap = h') (hS : ∃ k0, s.Since vm1 k0 ∧ k0 ≤ h'.size) (hv : w = false → vm1 = s.vm) (N : Fr Z.heap.size locs') (V : Ev w Z EL vm0 h vm1 h' ws') (q : ∀ x ∈ ws', Z.heap.size ≤ x ∧ (x ∈ ws ∨ h0.size ≤ x)) :
    Wk p l e R s m args below meth c Z a0 EL y bytes ml ret w h0 ws vm1 T' h' locs' cells' slots' :=
  ⟨X.1, St, hZ, ho, hT, hS, hv, N, extK X.hE V.1 fun x hx => (q x hx).1, X.hK.trans V.1 fun x hx => (q x hx).2, fun r => (X.hC r).trans (V.2 r)⟩
theorem Wk.since (X : Wk p l e R s m args below meth c Z a0 EL y bytes ml ret w h0 ws vm0 T h locs cells slots) (hg : h.size ≤ h'.size) : ∃ k0, s.Since vm0 k0 ∧ k0 ≤ h'.size := by obtain ⟨k, a, b⟩ := X.hS; exact ⟨k, a, Nat.le_trans b hg⟩
theorem Wk.same (X : Wk p l e R s m args below meth c Z a0 EL y bytes ml ret w h0 ws vm0 T h locs cells slots) (St : Stand p l e R (s.setVm vm0) m args below meth c T' locs' cells' slots') (hT : T'.heap = h') (N : Fr Z.heap.size locs') (V : Ev w Z EL vm0 h vm0 h' ws') (q : ∀ x ∈ ws', Z.heap.size ≤ x ∧ (x ∈ ws ∨ h0.size ≤ x)) :
    Wk p l e R s m args below meth c Z a0 EL y bytes ml ret w h0 ws vm0 T' h' locs' cells' slots' := X.move St X.hZ X.hown hT (X.since V.1.1) X.hv N V q
theorem Wk.evR (X : Wk p l e R s m args below meth c Z a0 EL y bytes ml ret w h0 ws vm0 T h locs cells slots) : Ev w Z EL vm0 h vm0 h [] := ⟨Keep.refl _ _, fun q => CHr.refl (X.chv q)⟩
theorem Wk.evE (X : Wk p l e R s m args below meth c Z a0 EL y bytes ml ret w h0 ws vm0 T h locs cells slots) (E : Ext h h') : Ev w Z EL vm0 h vm0 h' [] := ⟨(Keep.refl _ _).ext E, fun q => CHr.ext E (X.chv q)⟩
theorem Wk.evW {sl : Nat} {v : Value} (X : Wk p l e R s m args below meth c Z a0 EL y bytes ml ret w h0 ws vm0 T h locs cells slots) (W : Wr h h' a sl v) (O : Ok w Z EL h0 ws vm0 h a) : Ev w Z EL vm0 h vm0 h' [a] := ⟨Keep.of_wr W, fun q => CHr.wr W (O.2.2.2 q) (X.chv q)⟩
theorem Wk.evK (X : Wk p l e R s m args below meth c Z a0 EL y bytes ml ret w h0 ws vm0 T h locs cells slots) (K : Keep h h' ws') (q : ∀ x ∈ ws', Ok w Z EL h0 ws vm0 h x) : Ev w Z EL vm0 h vm0 h' ws' := ⟨K, fun r => CHr.keep K (fun x hx => (q x hx).2.2.2 r) (X.chv r)⟩
theorem Ok.two (q : ∀ x ∈ ws', Ok w Z EL h0 ws vm0 h x) : ∀ x ∈ ws', Z.heap.size ≤ x ∧ (x ∈ ws ∨ h0.size ≤ x) := fun x hx => ⟨(q x hx).2.1, (q x hx).2.2.1⟩
theorem Ok.one (O : Ok w Z EL h0 ws vm0 h a) : ∀ x ∈ [a], Ok w Z EL h0 ws vm0 h x := fun x hx => by cases List.mem_singleton.mp hx; exact O
theorem Ok.nil : ∀ x ∈ ([] : List Addr), Ok w Z EL h0 ws vm0 h x := fun _ q => nomatch q
theorem two0 : ∀ x ∈ ([] : List Addr), Z.heap.size ≤ x ∧ (x ∈ ws ∨ h0.size ≤ x) := fun _ q => nomatch q
theorem Wk.mono (X : Wk p l e R s m args below meth c Z a0 EL y bytes ml ret w h0 ws vm0 T h locs cells slots) (hc : cells ≤ cells') (hs : slots ≤ slots') : Wk p l e R s m args below meth c Z a0 EL y bytes ml ret w h0 ws vm0 T h locs cells' slots' :=
  ⟨X.1, X.st.more hc hs, X.2.2⟩
/-- the new cell at the heap's end may be written -/
theorem Wk.okNew (X : Wk p l e R s m args below meth c Z a0 EL y bytes ml ret w h0 ws vm0 T h locs cells slots) (E : Ext h h') (hlt : h.size < h'.size) : Ok w Z EL h0 ws vm0 h' h.size := ⟨hlt, X.hE.1, Or.inr X.hK.1, fun q => Safe.ext E (X.chv q) (Safe.new (Nat.le_refl _))⟩
/-! returns -/
def Done (w : Bool) (Z : State) (EL : List (String × Nat)) (rm : Room) (s : State) (h0 : Heap) (ws : List Addr) (P : Option Value → Heap → Prop) (t : State) (v : Option Value) : Prop :=
  ∃ L, (Fr Z.heap.size L ∧ Keep h0 t.heap ws ∧ P v t.heap) ∧ (w = true → CHr Z EL s.vm h0 t.vm t.heap) ∧ ReturnedEndW s (.returned v) t L rm.cells rm.slots ∧ (w = false → FrameEnd s (.returned v) t L rm.cells rm.slots)
theorem r_end {rm : Room} {P : Option Value → Heap → Prop} {g : JFrame} (X : Wk p l e R s m args below meth c Z a0 EL y bytes ml ret w h0 ws vm0 T h locs cells slots) (v : Option Value) (hv : ret = none → v = none) (hc : cells ≤ rm.cells) (hs : slots ≤ rm.slots) (hP : P v h)
    (st : ∀ fs, (∀ (f : JFrame) (acts : List Action), f.method = m → f.locked = none → f.entered = [] → (doReturn e (T.setTop f) acts v).1 = T.setFrames fs) → Steps p.tables e below (T.setTop g) (T.setFrames fs)) :
    Go p e below (Done w Z EL rm s h0 ws P) T g := by
  have hT := X.hT
  have hlk := X.hlk
  have hv' : meth.sig.returnType = none → v = none := fun q => hv (X.hret.symm.trans q)
  have hC : w = true → CHr Z EL s.vm h0 T.vm h := fun q => (X.hC q).trans (CHv.at X.st X.hZ X.hEW (X.chv q))
  cases w with
  | false =>
    have e0 := X.hv rfl
    subst e0
    have X1 : Stand p l e R s m args below meth c T locs cells slots := X.st
    obtain ⟨fs, h1, h2, h3, h4, h5⟩ := X1.leave (v := v) hv'
    refine ⟨T.setFrames fs, v, st fs h1, h2, h3, locs, ⟨X.hN, ?_, ?_⟩, nofun, ReturnedEndW.of_narrow ⟨v, rfl⟩ h4 (h5.mono hc hs), fun _ => ⟨⟨v, rfl⟩, h4, h5.mono hc hs⟩⟩
    · show Keep h0 T.heap ws; rw [hT]; exact X.hK
    · show P v T.heap; rw [hT]; exact hP
  | true =>
    obtain ⟨k0, k1, k2⟩ := X.hS
    obtain ⟨fs, h1, h2, h3, h4, h5, h6, h7⟩ := X.st.leaveW k1 (by rw [hT]; exact k2) (v := v) hv'
    refine ⟨T.setFrames fs, v, st fs h1, h2, h3, locs, ⟨X.hN, ?_, ?_⟩, fun q => ?_, ⟨h4, h5, h6, h7.mono hc hs⟩, nofun⟩
    · show Keep h0 T.heap ws; rw [hT]; exact X.hK
    · show P v T.heap; rw [hT]; exact hP
    · show CHr Z EL s.vm h0 T.vm T.heap; rw [hT]; exact hC q
theorem r_void {rm : Room} {P : Option Value → Heap → Prop} (X : Wk p l e R s m args below meth c Z a0 EL y bytes ml ret w h0 ws vm0 T h locs cells slots) (hr : ret = none) (hd : decode bytes pc = .ok (.return_, 1)) (hc : cells ≤ rm.cells) (hs : slots ≤ rm.slots) (hP : P none h) : Go p e below (Done w Z EL rm s h0 ws P) T (mkF m pc Ls []) :=
  r_end X none (fun _ => rfl) hc hs hP fun fs hl => X.st.returnOut X.hx (X.hret.trans hr) (hb X.hby hd) hl
theorem r_int {rm : Room} {P : Option Value → Heap → Prop} {z : Int32} (X : Wk p l e R s m args below meth c Z a0 EL y bytes ml ret w h0 ws vm0 T h locs cells slots) (hr : ret = some .int) (hd : decode bytes pc = .ok (.ireturn, 1)) (hc : cells ≤ rm.cells) (hs : slots ≤ rm.slots) (hP : P (some (.int z)) h) : Go p e below (Done w Z EL rm s h0 ws P) T (mkF m pc Ls (.int z :: rest)) :=
  r_end X (some (.int z)) (fun q => by rw [hr] at q; cases q) hc hs hP fun fs hl => retOut X.st X.hx (X.hret.trans hr) rfl (Or.inl ⟨rfl, Or.inl rfl, z, rfl⟩) (hb X.hby hd) hl
theorem r_nar {rm : Room} {P : Option Value → Heap → Prop} {z : Int32} {t : FieldType} (X : Wk p l e R s m args below meth c Z a0 EL y bytes ml ret w h0 ws vm0 T h locs cells slots) (hr : ret = some t) (ht : t = .boolean ∨ t = .byte ∨ t = .char ∨ t = .short) (hd : decode bytes pc = .ok (.ireturn, 1)) (hc : cells ≤ rm.cells) (hs : slots ≤ rm.slots) (hP : P (some (.int (nar t z))) h) : Go p e below (Done w Z EL rm s h0 ws P) T (mkF m pc Ls (.int z :: rest)) :=
  r_end X (some (.int (nar t z))) (fun q => by rw [hr] at q; cases q) hc hs hP fun fs hl => retN X.st X.hx (X.hret.trans hr) ht (hb X.hby hd) hl
theorem r_ref {rm : Room} {P : Option Value → Heap → Prop} {v : Value} {t : FieldType} (X : Wk p l e R s m args below meth c Z a0 EL y bytes ml ret w h0 ws vm0 T h locs cells slots) (hr : ret = some t) (ht : t.isReference = true) (hv : v.isRef = true) (hd : decode bytes pc = .ok (.areturn, 1)) (hc : cells ≤ rm.cells) (hs : slots ≤ rm.slots) (hP : P (some v) h) : Go p e below (Done w Z EL rm s h0 ws P) T (mkF m pc Ls (v :: rest)) :=
  r_end X (some v) (fun q => by rw [hr] at q; cases q) hc hs hP fun fs hl => retOut X.st X.hx (X.hret.trans hr) (by cases t <;> first | rfl | cases ht) (Or.inr (Or.inr (Or.inr (Or.inr ⟨rfl, ht, hv⟩)))) (hb X.hby hd) hl
/-! contracts -/
def Ctr (w : Bool) (l : Launch) (Z : State) (a0 : Array Value) (EL : List (String × Nat)) (y : MethodName) (bytes : ByteArray) (ml : Nat) (ret : Option FieldType) (rm : Room) (as : Array Value) (h0 : Heap) (ws : List Addr) (P : Option Value → Heap → Prop) : Prop :=
  ∀ cs : List Jvm.Cond, MetFree l y (head1 (Jvm.Cond.code y bytes ml ret :: cs) rm) (fun a U => a = as ∧ Z.Warmed39 U.vm ∧ U.heap = h0 ∧ (w = true → CHv Z EL U.vm h0 ∧ ∀ x ∈ ws, Safe Z EL U.vm h0 x)) (fun _ _ _ _ _ => True) (fun _ U o U' => ∃ v, o = .returned v ∧ Done w Z EL rm U h0 ws P U' v)
theorem Ctr.of {rm : Room} {as : Array Value} {P : Option Value → Heap → Prop} (hpn : plainFor y = true) (ef : ∀ m, entryFrame m as ml = mkF m 0 Ls []) (hE : Ext Z.heap h0) (hEW : EW Z a0 EL)
    (body : ∀ (p : Program) (e : Env) (s : State) (m : MethodId) (below : List Frame) (meth : Method) (c : Code) (T : State), Wk p l e rm s m as below meth c Z a0 EL y bytes ml ret w h0 ws s.vm T h0 [] 0 0 → (w = true → ∀ x ∈ ws, Safe Z EL s.vm h0 x) → Go p e below (Done w Z EL rm s h0 ws P) T (mkF m 0 Ls [])) :
    Ctr w l Z a0 EL y bytes ml ret rm as h0 ws P := by
  intro cs
  refine MetFree.of_bodySF hpn hisR ?_
  intro p e s m args below meth c s₁ Bd hml hP hK
  obtain ⟨rfl, hZ, hh, hC⟩ := hP
  have e0 : s₁.heap = h0 := by rw [← hh, Bd.state]; rfl
  have hS : s.Since s.vm s.heap.size := (State.WarmedH.refl s).since _
  obtain ⟨t, v, st, r1, r2, q⟩ := body p e s m below meth c s₁ ⟨⟨Bd.exec, Bd.bytes, hml, Bd.returns, Bd.notSynchronized, (name_of_methodNamed Bd.named Bd.method).1, hEW⟩, Stand.of_body Bd, hZ, findClass_of_methodNamed Bd.named, e0, ⟨_, hS, by rw [hh]; exact Nat.le_refl _⟩, fun _ => rfl, Fr.nil _, hE, Keep.refl _ _, fun q => CHr.refl (hC q).1⟩ (fun q => (hC q).2)
  exact ⟨t, .returned v, castTop (ef m) st, r1, r2, v, rfl, q⟩
theorem Ctr.back {w' : Bool} {y' : MethodName} {bytes' : ByteArray} {ml' : Nat} {ret' : Option FieldType} {rm : Room} {as : Array Value} {P : Option Value → Heap → Prop} {len W : Nat} (hw : w' = false) (H : Ctr w' l Z a0 EL y' bytes' ml' ret' rm as h ws' P) (hZ : Z.Warmed39 s.vm) (wc : (Jvm.Cond.code y' bytes' ml' ret').before a0 Z = true) (wz : (Jvm.Cond.initialized y'.cls).before a0 Z = true) (hf : rm.frames + 1 ≤ R.frames) (hl : W + (ml' + 11) + rm.locals ≤ R.locals) :
    Back l R p e below s args y' len W (fun A a => a = as ∧ A.U.heap = h ∧ A.cells + rm.cells ≤ R.cells ∧ A.slots + rm.slots ≤ R.slots) (fun A _ v B => ∃ L, (Fr Z.heap.size L ∧ Keep h B.U.heap ws' ∧ P v B.U.heap) ∧ B.locs = A.locs ++ L ∧ B.cells = A.cells + rm.cells ∧ B.slots = A.slots + rm.slots) := by
  subst hw
  refine backOf (Q := fun v h' L => Fr Z.heap.size L ∧ Keep h h' ws' ∧ P v h') (fun p e ha hc hk s m args below hf happ hP hK => ?_) hZ wc wz hf hl
  obtain ⟨n, o, r1, r2, r3, v, rfl, L, q1, -, -, q4⟩ := H [] p e ha hc hk s m args below hf happ ⟨hP.1, hP.2.1, hP.2.2, nofun⟩ hK
  exact ⟨n, _, r1, r2, r3, v, L, rfl, q1, q4 rfl⟩
theorem Ctr.backS {w' : Bool} {y' : MethodName} {bytes' : ByteArray} {ml' : Nat} {ret' : Option FieldType} {rm : Room} {as : Array Value} {P : Option Value → Heap → Prop} {len W : Nat} (hw : w' = true) (H : Ctr w' l Z a0 EL y' bytes' ml' ret' rm as h ws' P) (hZ : Z.Warmed39 vm0) (wc : (Jvm.Cond.code y' bytes' ml' ret').before a0 Z = true) (wz : (Jvm.Cond.initialized y'.cls).before a0 Z = true) (hf : rm.frames + 1 ≤ R.frames) (hl : W + (ml' + 11) + rm.locals ≤ R.locals) (hEL : EW Z a0 EL) (hC : CHv Z EL vm0 h) (hs : ∀ x ∈ ws', x < h.size ∧ Safe Z EL vm0 h x) :
    BackS l R p e below (s.setVm vm0) args y' len W (fun A a => a = as ∧ A.U.heap = h ∧ A.cells + rm.cells ≤ R.cells ∧ A.slots + rm.slots ≤ R.slots) (fun A _ v B => ∃ L, (Fr Z.heap.size L ∧ Keep h B.U.heap ws' ∧ P v B.U.heap ∧ CHr Z EL vm0 h B.U.vm B.U.heap) ∧ B.locs = A.locs ++ L ∧ B.cells = A.cells + rm.cells ∧ B.slots = A.slots + rm.slots) := by
  subst hw
  refine BackS.of_freeW (bytes := bytes') (maxL := ml') (ret := ret') (E := fun _ first o t L k n => k = rm.cells ∧ n = rm.slots ∧ (∃ v, o = .returned v ∧ Fr Z.heap.size L ∧ Keep h t.heap ws' ∧ P v t.heap) ∧ CHr Z EL first.vm h t.vm t.heap) (H []) hf hl ?_ ?_ (fun _ _ _ _ _ _ _ _ _ => trivial) ?_ ?_
  · intro m meth c A a Y hp
    have hU : Z.Warmed39 A.U.vm := wtrans (s := s.setVm vm0) hZ Y.warmed
    exact ⟨by show (Cond.and _ .tt).before a A.U = true; rw [Cond.before_and, mv hU wc]; rfl, mv hU wc, mv hU wz, hp.2.2.1, hp.2.2.2⟩
  · intro m meth c A a g mk Y hp
    have q := CHv.at Y hZ hEL hC
    exact ⟨hp.1, wtrans (s := s.setVm vm0) hZ Y.warmed, hp.2.1, fun _ => ⟨q.1, fun x hx => q.safe (hs x hx).1 (hs x hx).2⟩⟩
  · intro a first o t hq
    obtain ⟨v, rfl, L, q1, q2, q3, -⟩ := hq
    exact ⟨L, _, _, q3, rfl, rfl, ⟨v, rfl, q1⟩, q2 rfl⟩
  · intro m meth c A a g mk v t L k n Y hp _ _ hE
    obtain ⟨e1, e2, ⟨v', e3, e4⟩, e5⟩ := hE
    cases e3; subst e1 e2
    exact ⟨L, ⟨e4.1, e4.2.1, e4.2.2, (CHv.at Y hZ hEL hC).trans e5⟩, rfl, rfl, rfl⟩
/-! behind a call -/
theorem goB {G : Option Value → JFrame} {g : JFrame} {v : Option Value} {B : Pt} {Q : Option Value → Heap → List Loc → Prop} {P : Option Value → Heap → Prop} {cc ss : Nat} (X : Wk p l e R s m args below meth c Z a0 EL y bytes ml ret w h0 ws vm0 T h locs cells slots) (X' : Stand p l e R (s.setVm vm0) m args below meth c B.U B.locs B.cells B.slots)
    (hq : ∃ L, Q v B.U.heap L ∧ B.locs = locs ++ L ∧ B.cells = cells + cc ∧ B.slots = slots + ss) (st : Steps p.tables e below (T.setTop g) (B.U.setTop (G v))) (hQ : ∀ v h' L, Q v h' L → Fr Z.heap.size L ∧ Keep h h' ws' ∧ P v h') (hok : ∀ x ∈ ws', Ok w Z EL h0 ws vm0 h x)
    (k : ∀ v vm1 T' h' L, Wk p l e R s m args below meth c Z a0 EL y bytes ml ret w h0 ws vm1 T' h' (locs ++ L) (cells + cc) (slots + ss) → Ev w Z EL vm0 h vm1 h' ws' → P v h' → Go p e below F T' (G v)) : Go p e below F T g := by
  obtain ⟨L, q, e1, e2, e3⟩ := hq
  obtain ⟨n, K, hP⟩ := hQ _ _ _ q
  rw [e1, e2, e3] at X'
  have V := X.evK K hok
  exact (k v vm0 B.U B.U.heap L (X.same X' rfl (X.hN.app n) V (Ok.two hok)) V hP).by fun t r => st.trans r
theorem goS {G : Option Value → JFrame} {g : JFrame} {v : Option Value} {B : Pt} {P : Option Value → Heap → Prop} {cc ss : Nat} (hw : w = true) (X : Wk p l e R s m args below meth c Z a0 EL y bytes ml ret w h0 ws vm0 T h locs cells slots) (X' : Stand p l e R ((s.setVm vm0).setVm B.U.vm) m args below meth c B.U B.locs B.cells B.slots) (hS : (s.setVm vm0).Since B.U.vm B.U.heap.size) (hg : T.heap.size ≤ B.U.heap.size)
    (hq : ∃ L, (Fr Z.heap.size L ∧ Keep h B.U.heap ws' ∧ P v B.U.heap ∧ CHr Z EL vm0 h B.U.vm B.U.heap) ∧ B.locs = locs ++ L ∧ B.cells = cells + cc ∧ B.slots = slots + ss) (st : Steps p.tables e below (T.setTop g) (B.U.setTop (G v))) (hok : ∀ x ∈ ws', Ok w Z EL h0 ws vm0 h x)
    (k : ∀ v vm1 T' h' L, Wk p l e R s m args below meth c Z a0 EL y bytes ml ret w h0 ws vm1 T' h' (locs ++ L) (cells + cc) (slots + ss) → Ev w Z EL vm0 h vm1 h' ws' → P v h' → Go p e below F T' (G v)) : Go p e below F T g := by
  obtain ⟨L, ⟨n, K, hP, hC⟩, e1, e2, e3⟩ := hq
  rw [e1, e2, e3] at X'
  have V : Ev w Z EL vm0 h B.U.vm B.U.heap ws' := ⟨K, fun _ => hC⟩
  obtain ⟨k0, k1, k2⟩ := X.hS
  rw [X.hT] at hg
  have hZ : Z.Warmed39 B.U.vm := State.Warmed39.trans (t := s.setVm vm0) X.hZ hS.1
  refine (k v B.U.vm B.U B.U.heap L (X.move X' hZ ?_ rfl ⟨_, k1.trans hS (Nat.le_trans k2 hg), Nat.le_refl _⟩ (fun q => by rw [hw] at q; cases q) (X.hN.app n) V (Ok.two hok)) V hP).by fun t r => st.trans r
  rw [hS.1.alike.findClass]; exact X.hown
/-- never MethodHandle or VarHandle -/
abbrev Pl (y : MethodName) : Prop := y.cls ≠ "java/lang/invoke/MethodHandle" ∧ y.cls ≠ "java/lang/invoke/VarHandle"
section Calls
variable {y' z' : MethodName} {bytes' : ByteArray} {ml' idx W : Nat} {ret' : Option FieldType} {rm : Room} {P : Option Value → Heap → Prop} {w' : Bool} {S argsL : List Value} {Q : Option Value → Heap → List Loc → Prop} {cc ss : Nat} {C : String}
/-! calls paid by a Back -/
theorem b_static (X : Wk p l e R s m args below meth c Z a0 EL y bytes ml ret w h0 ws vm0 T h locs cells slots) (hd : decode bytes pc = .ok (.invokestatic idx, 3)) (w1 : (Jvm.Cond.methodLink y.cls idx y').before a0 Z = true) (w2 : (Jvm.Cond.static y').before a0 Z = true) (w3 : (Jvm.Cond.initialized y'.cls).before a0 Z = true) (w4 : (Jvm.Cond.code y' bytes' ml' ret').before a0 Z = true) (hy : Pl y')
    (argsL rest : List Value) (B : Back l R p e below (s.setVm vm0) args y' 3 W (fun A a => a = argsL.toArray ∧ A.U.heap = h ∧ A.cells + cc ≤ R.cells ∧ A.slots + ss ≤ R.slots) (fun A _ v B => ∃ L, Q v B.U.heap L ∧ B.locs = A.locs ++ L ∧ B.cells = A.cells + cc ∧ B.slots = A.slots + ss))
    (hQ : ∀ v h' L, Q v h' L → Fr Z.heap.size L ∧ Keep h h' ws' ∧ P v h') (hok : ∀ x ∈ ws', Ok w Z EL h0 ws vm0 h x) (hlen : ∀ sig, parseMethodDescriptor y'.desc = some sig → argsL.length = sig.parameters.length) (hS : S = argsL.reverse ++ rest) (hW : (rest.map fun v => v.category).sum ≤ W) (hc : cells + cc ≤ R.cells) (hs : slots + ss ≤ R.slots) (hsz : Ls.size = ml) (hp : pc + 3 = pc')
    (k : ∀ v vm1 T' h' L, Wk p l e R s m args below meth c Z a0 EL y bytes ml ret w h0 ws vm1 T' h' (locs ++ L) (cells + cc) (slots + ss) → Ev w Z EL vm0 h vm1 h' ws' → P v h' → Go p e below F T' (mkF m pc' Ls (v.toList ++ rest))) : Go p e below F T (mkF m pc Ls S) := by
  subst hp hS
  obtain ⟨v, vm, B, -, X', hq, st⟩ := Jvm.LawKit.callS X.st X.hx X.hown (mvT X.hZ w1) (mvT X.hZ w2) (mvT X.hZ w3) (mvT X.hZ w4) hy B (g := mkF m pc Ls (argsL.reverse ++ rest)) rfl (hsz.trans X.hml.symm) hlen rfl (by show 2 * 0 + _ ≤ _; omega) (hb X.hby hd) (fun _ _ => ⟨rfl, X.hT, hc, hs⟩)
  exact goB X X' hq (st _ (Steps.refl _)) hQ hok k
theorem b_special (X : Wk p l e R s m args below meth c Z a0 EL y bytes ml ret w h0 ws vm0 T h locs cells slots) (hd : decode bytes pc = .ok (.invokespecial idx, 3)) (hn : y'.name = "<init>") (w1 : (Jvm.Cond.methodLink y.cls idx y').before a0 Z = true) (w2 : (Jvm.Cond.instanceMethod y').before a0 Z = true) (w4 : (Jvm.Cond.code y' bytes' ml' none).before a0 Z = true) (hy : Pl y')
    (a : Addr) (argsL rest : List Value) (B : Back l R p e below (s.setVm vm0) args y' 3 W (fun A a' => a' = (.ref a :: argsL).toArray ∧ A.U.heap = h ∧ A.cells + cc ≤ R.cells ∧ A.slots + ss ≤ R.slots) (fun A _ v B => ∃ L, Q v B.U.heap L ∧ B.locs = A.locs ++ L ∧ B.cells = A.cells + cc ∧ B.slots = A.slots + ss))
    (hQ : ∀ v h' L, Q v h' L → Fr Z.heap.size L ∧ Keep h h' ws' ∧ P v h') (hok : ∀ x ∈ ws', Ok w Z EL h0 ws vm0 h x) (hlen : ∀ sig, parseMethodDescriptor y'.desc = some sig → argsL.length = sig.parameters.length) (hS : S = argsL.reverse ++ .ref a :: rest) (hW : (rest.map fun v => v.category).sum ≤ W) (hc : cells + cc ≤ R.cells) (hs : slots + ss ≤ R.slots) (hsz : Ls.size = ml) (hp : pc + 3 = pc')
    (k : ∀ v vm1 T' h' L, Wk p l e R s m args below meth c Z a0 EL y bytes ml ret w h0 ws vm1 T' h' (locs ++ L) (cells + cc) (slots + ss) → Ev w Z EL vm0 h vm1 h' ws' → P v h' → Go p e below F T' (mkF m pc' Ls (v.toList ++ rest))) : Go p e below F T (mkF m pc Ls S) := by
  subst hp hS
  obtain ⟨v, vm, B, -, X', hq, st⟩ := X.st.specialBack X.hx hn X.hown (mvT X.hZ w1) (mvT X.hZ w2) (mvT X.hZ w4) hy B (g := mkF m pc Ls (argsL.reverse ++ .ref a :: rest)) rfl (hsz.trans X.hml.symm) (Steps.refl _) hlen rfl (by show 2 * 0 + _ ≤ _; omega) (hb X.hby hd) (fun _ _ => ⟨rfl, X.hT, hc, hs⟩)
  exact goB X X' hq st hQ hok k
theorem b_virtual (X : Wk p l e R s m args below meth c Z a0 EL y bytes ml ret w h0 ws vm0 T h locs cells slots) (hd : decode bytes pc = .ok (.invokevirtual idx, 3)) (w1 : (Jvm.Cond.methodLink y.cls idx y').before a0 Z = true) (w2 : (Jvm.Cond.declares y').before a0 Z = true) (hnf : NotFace (s.setVm vm0) y') (w3 : (Jvm.Cond.selects C y' z').before a0 Z = true) (w4 : (Jvm.Cond.instanceMethod z').before a0 Z = true) (hy : Pl y')
    (a : Addr) (argsL rest : List Value) (E : Exa Z h a C) (B : Back l R p e below (s.setVm vm0) args z' 3 W (fun A a' => a' = (.ref a :: argsL).toArray ∧ A.U.heap = h ∧ A.cells + cc ≤ R.cells ∧ A.slots + ss ≤ R.slots) (fun A _ v B => ∃ L, Q v B.U.heap L ∧ B.locs = A.locs ++ L ∧ B.cells = A.cells + cc ∧ B.slots = A.slots + ss))
    (hQ : ∀ v h' L, Q v h' L → Fr Z.heap.size L ∧ Keep h h' ws' ∧ P v h') (hok : ∀ x ∈ ws', Ok w Z EL h0 ws vm0 h x) (hlen : ∀ sig, parseMethodDescriptor y'.desc = some sig → argsL.length = sig.parameters.length) (hS : S = argsL.reverse ++ .ref a :: rest) (hW : (rest.map fun v => v.category).sum ≤ W) (hc : cells + cc ≤ R.cells) (hs : slots + ss ≤ R.slots) (hsz : Ls.size = ml) (hp : pc + 3 = pc')
    (k : ∀ v vm1 T' h' L, Wk p l e R s m args below meth c Z a0 EL y bytes ml ret w h0 ws vm1 T' h' (locs ++ L) (cells + cc) (slots + ss) → Ev w Z EL vm0 h vm1 h' ws' → P v h' → Go p e below F T' (mkF m pc' Ls (v.toList ++ rest))) : Go p e below F T (mkF m pc Ls S) := by
  subst hp hS
  obtain ⟨cq, kq, qa, qb, qc⟩ := isOf (s := s.setVm vm0) X.hZ X.hT E
  obtain ⟨v, vm, B, -, X', hq, st⟩ := X.st.virtualBack X.hx X.hown (mvT X.hZ w1) (mvT X.hZ w2) hnf (mvT X.hZ w3) (mvT X.hZ w4) hy B qa qc (g := mkF m pc Ls (argsL.reverse ++ .ref a :: rest)) rfl (hsz.trans X.hml.symm) (Steps.refl _) hlen rfl (by show 2 * 0 + _ ≤ _; omega) (hb X.hby hd) (fun _ _ => ⟨rfl, X.hT, hc, hs⟩)
  exact goB X X' hq st hQ hok k
/-! calls paid by a contract -/
theorem c_static (X : Wk p l e R s m args below meth c Z a0 EL y bytes ml ret w h0 ws vm0 T h locs cells slots) (hd : decode bytes pc = .ok (.invokestatic idx, 3)) (w1 : (Jvm.Cond.methodLink y.cls idx y').before a0 Z = true) (w2 : (Jvm.Cond.static y').before a0 Z = true) (w3 : (Jvm.Cond.initialized y'.cls).before a0 Z = true) (w4 : (Jvm.Cond.code y' bytes' ml' ret').before a0 Z = true) (hy : Pl y')
    (argsL rest : List Value) (W : Nat) (H : Ctr w' l Z a0 EL y' bytes' ml' ret' rm argsL.toArray h ws' P) (hww : w' = true → w = true) (hok : ∀ x ∈ ws', Ok w Z EL h0 ws vm0 h x) (hlen : ∀ sig, parseMethodDescriptor y'.desc = some sig → argsL.length = sig.parameters.length) (hS : S = argsL.reverse ++ rest) (hW : (rest.map fun v => v.category).sum ≤ W) (hf : rm.frames + 1 ≤ R.frames) (hl : W + (ml' + 11) + rm.locals ≤ R.locals) (hc : cells + rm.cells ≤ R.cells) (hs : slots + rm.slots ≤ R.slots) (hsz : Ls.size = ml) (hp : pc + 3 = pc')
    (k : ∀ v vm1 T' h' L, Wk p l e R s m args below meth c Z a0 EL y bytes ml ret w h0 ws vm1 T' h' (locs ++ L) (cells + rm.cells) (slots + rm.slots) → Ev w Z EL vm0 h vm1 h' ws' → P v h' → Go p e below F T' (mkF m pc' Ls (v.toList ++ rest))) : Go p e below F T (mkF m pc Ls S) := by
  cases hw' : w' with
  | false => exact b_static X hd w1 w2 w3 w4 hy argsL rest (Ctr.back hw' H X.hZ w4 w3 hf hl) (fun v h' L q => q) hok hlen hS hW hc hs hsz hp k
  | true =>
    subst hp hS
    have hw := hww hw'
    obtain ⟨v, vm, B, -, X', hsi, hg, hq, st⟩ := callSS X.st X.hx X.hown (mvT X.hZ w1) (mvT X.hZ w2) (mvT X.hZ w3) (mvT X.hZ w4) hy (Ctr.backS hw' H X.hZ w4 w3 hf hl X.hEW (X.chv hw) fun x hx => ⟨(hok x hx).1, (hok x hx).2.2.2 hw⟩) (g := mkF m pc Ls (argsL.reverse ++ rest)) rfl (hsz.trans X.hml.symm) hlen rfl (by show 2 * 0 + _ ≤ _; omega) (hb X.hby hd) (fun _ _ => ⟨rfl, X.hT, hc, hs⟩)
    exact goS hw X X' hsi hg hq st hok k
theorem c_special (X : Wk p l e R s m args below meth c Z a0 EL y bytes ml ret w h0 ws vm0 T h locs cells slots) (hd : decode bytes pc = .ok (.invokespecial idx, 3)) (hn : y'.name = "<init>") (w1 : (Jvm.Cond.methodLink y.cls idx y').before a0 Z = true) (w2 : (Jvm.Cond.instanceMethod y').before a0 Z = true) (w3 : (Jvm.Cond.initialized y'.cls).before a0 Z = true) (w4 : (Jvm.Cond.code y' bytes' ml' none).before a0 Z = true) (hy : Pl y')
    (a : Addr) (argsL rest : List Value) (W : Nat) (H : Ctr w' l Z a0 EL y' bytes' ml' none rm (.ref a :: argsL).toArray h ws' P) (hww : w' = true → w = true) (hok : ∀ x ∈ ws', Ok w Z EL h0 ws vm0 h x) (hlen : ∀ sig, parseMethodDescriptor y'.desc = some sig → argsL.length = sig.parameters.length) (hS : S = argsL.reverse ++ .ref a :: rest) (hW : (rest.map fun v => v.category).sum ≤ W) (hf : rm.frames + 1 ≤ R.frames) (hl : W + (ml' + 11) + rm.locals ≤ R.locals) (hc : cells + rm.cells ≤ R.cells) (hs : slots + rm.slots ≤ R.slots) (hsz : Ls.size = ml) (hp : pc + 3 = pc')
    (k : ∀ v vm1 T' h' L, Wk p l e R s m args below meth c Z a0 EL y bytes ml ret w h0 ws vm1 T' h' (locs ++ L) (cells + rm.cells) (slots + rm.slots) → Ev w Z EL vm0 h vm1 h' ws' → P v h' → Go p e below F T' (mkF m pc' Ls (v.toList ++ rest))) : Go p e below F T (mkF m pc Ls S) := by
  cases hw' : w' with
  | false => exact b_special X hd hn w1 w2 w4 hy a argsL rest (Ctr.back hw' H X.hZ w4 w3 hf hl) (fun v h' L q => q) hok hlen hS hW hc hs hsz hp k
  | true =>
    subst hp hS
    have hw := hww hw'
    obtain ⟨v, vm, B, -, X', hsi, hg, hq, st⟩ := X.st.specialBackS X.hx hn X.hown (mvT X.hZ w1) (mvT X.hZ w2) (mvT X.hZ w4) hy (Ctr.backS hw' H X.hZ w4 w3 hf hl X.hEW (X.chv hw) fun x hx => ⟨(hok x hx).1, (hok x hx).2.2.2 hw⟩) (g := mkF m pc Ls (argsL.reverse ++ .ref a :: rest)) rfl (hsz.trans X.hml.symm) (Steps.refl _) hlen rfl (by show 2 * 0 + _ ≤ _; omega) (hb X.hby hd) (fun _ _ => ⟨rfl, X.hT, hc, hs⟩)
    exact goS hw X X' hsi hg hq st hok k
theorem c_virtual (X : Wk p l e R s m args below meth c Z a0 EL y bytes ml ret w h0 ws vm0 T h locs cells slots) (hd : decode bytes pc = .ok (.invokevirtual idx, 3)) (w1 : (Jvm.Cond.methodLink y.cls idx y').before a0 Z = true) (w2 : (Jvm.Cond.declares y').before a0 Z = true) (hnf : NotFace (s.setVm vm0) y') (w3 : (Jvm.Cond.selects C y' z').before a0 Z = true) (w4 : (Jvm.Cond.instanceMethod z').before a0 Z = true) (w5 : (Jvm.Cond.initialized z'.cls).before a0 Z = true) (w6 : (Jvm.Cond.code z' bytes' ml' ret').before a0 Z = true) (hy : Pl y')
    (a : Addr) (argsL rest : List Value) (W : Nat) (E : Exa Z h a C) (H : Ctr w' l Z a0 EL z' bytes' ml' ret' rm (.ref a :: argsL).toArray h ws' P) (hww : w' = true → w = true) (hok : ∀ x ∈ ws', Ok w Z EL h0 ws vm0 h x) (hlen : ∀ sig, parseMethodDescriptor y'.desc = some sig → argsL.length = sig.parameters.length) (hS : S = argsL.reverse ++ .ref a :: rest) (hW : (rest.map fun v => v.category).sum ≤ W) (hf : rm.frames + 1 ≤ R.frames) (hl : W + (ml' + 11) + rm.locals ≤ R.locals) (hc : cells + rm.cells ≤ R.cells) (hs : slots + rm.slots ≤ R.slots) (hsz : Ls.size = ml) (hp : pc + 3 = pc')
    (k : ∀ v vm1 T' h' L, Wk p l e R s m args below meth c Z a0 EL y bytes ml ret w h0 ws vm1 T' h' (locs ++ L) (cells + rm.cells) (slots + rm.slots) → Ev w Z EL vm0 h vm1 h' ws' → P v h' → Go p e below F T' (mkF m pc' Ls (v.toList ++ rest))) : Go p e below F T (mkF m pc Ls S) := by
  cases hw' : w' with
  | false => exact b_virtual X hd w1 w2 hnf w3 w4 hy a argsL rest E (Ctr.back hw' H X.hZ w6 w5 hf hl) (fun v h' L q => q) hok hlen hS hW hc hs hsz hp k
  | true =>
    subst hp hS
    have hw := hww hw'
    obtain ⟨cq, kq, qa, qb, qc⟩ := isOf (s := s.setVm vm0) X.hZ X.hT E
    obtain ⟨v, vm, B, -, X', hsi, hg, hq, st⟩ := X.st.virtualBackS X.hx X.hown (mvT X.hZ w1) (mvT X.hZ w2) hnf (mvT X.hZ w3) (mvT X.hZ w4) hy (Ctr.backS hw' H X.hZ w6 w5 hf hl X.hEW (X.chv hw) fun x hx => ⟨(hok x hx).1, (hok x hx).2.2.2 hw⟩) qa qc (g := mkF m pc Ls (argsL.reverse ++ .ref a :: rest)) rfl (hsz.trans X.hml.symm) (Steps.refl _) hlen rfl (by show 2 * 0 + _ ≤ _; omega) (hb X.hby hd) (fun _ _ => ⟨rfl, X.hT, hc, hs⟩)
    exact goS hw X X' hsi hg hq st hok k
theorem b_interface {count : Nat} (X : Wk p l e R s m args below meth c Z a0 EL y bytes ml ret w h0 ws vm0 T h locs cells slots) (hd : decode bytes pc = .ok (.invokeinterface idx count, 5)) (w1 : (Jvm.Cond.methodLink y.cls idx y').before a0 Z = true) (w2 : (Jvm.Cond.declares y').before a0 Z = true) (w3 : (Jvm.Cond.interfaceMethod y'.cls y'.cls y'.name y'.desc).before a0 Z = true) (hfc : ((Jvm.Cond.interfaceMethod y'.cls y'.cls y'.name y'.desc).onTables && (Jvm.Cond.interfaceMethod y'.cls y'.cls y'.name y'.desc).keepsFace) = true) (w4 : (Jvm.Cond.selects C y' z').before a0 Z = true) (w5 : (Jvm.Cond.instanceMethod z').before a0 Z = true) (w6 : (Jvm.Cond.publicMethod z').before a0 Z = true) (w7 : (Jvm.Cond.unhidden C y'.name y'.desc).before a0 Z = true) (w8 : (Jvm.Cond.castable C y'.cls).before a0 Z = true) (hy : Pl y')
    (a : Addr) (argsL rest : List Value) (E : Exa Z h a C) (B : Back l R p e below (s.setVm vm0) args z' 5 W (fun A a' => a' = (.ref a :: argsL).toArray ∧ A.U.heap = h ∧ A.cells + cc ≤ R.cells ∧ A.slots + ss ≤ R.slots) (fun A _ v B => ∃ L, Q v B.U.heap L ∧ B.locs = A.locs ++ L ∧ B.cells = A.cells + cc ∧ B.slots = A.slots + ss))
    (hQ : ∀ v h' L, Q v h' L → Fr Z.heap.size L ∧ Keep h h' ws' ∧ P v h') (hok : ∀ x ∈ ws', Ok w Z EL h0 ws vm0 h x) (hlen : ∀ sig, parseMethodDescriptor y'.desc = some sig → argsL.length = sig.parameters.length) (hS : S = argsL.reverse ++ .ref a :: rest) (hW : (rest.map fun v => v.category).sum ≤ W) (hc : cells + cc ≤ R.cells) (hs : slots + ss ≤ R.slots) (hsz : Ls.size = ml) (hp : pc + 5 = pc')
    (k : ∀ v vm1 T' h' L, Wk p l e R s m args below meth c Z a0 EL y bytes ml ret w h0 ws vm1 T' h' (locs ++ L) (cells + cc) (slots + ss) → Ev w Z EL vm0 h vm1 h' ws' → P v h' → Go p e below F T' (mkF m pc' Ls (v.toList ++ rest))) : Go p e below F T (mkF m pc Ls S) := by
  subst hp hS
  obtain ⟨cq, kq, qa, qb, qc⟩ := isOf (s := s.setVm vm0) X.hZ X.hT E
  obtain ⟨v, vm, B, -, X', hq, st⟩ := X.st.interfaceBack X.hx X.hown (mvT X.hZ w1) (mvT X.hZ w2) (mvT X.hZ w3 hfc) (mvT X.hZ w4) (mvT X.hZ w5) (mvT X.hZ w6) (mvT X.hZ w7) (mvT X.hZ w8) hy B qa qb qc (g := mkF m pc Ls (argsL.reverse ++ .ref a :: rest)) rfl (hsz.trans X.hml.symm) (Steps.refl _) hlen rfl (by show 2 * 0 + _ ≤ _; omega) (hb X.hby hd) (fun _ _ => ⟨rfl, X.hT, hc, hs⟩)
  exact goB X X' hq st hQ hok k
theorem c_interface {count : Nat} (X : Wk p l e R s m args below meth c Z a0 EL y bytes ml ret w h0 ws vm0 T h locs cells slots) (hd : decode bytes pc = .ok (.invokeinterface idx count, 5)) (w1 : (Jvm.Cond.methodLink y.cls idx y').before a0 Z = true) (w2 : (Jvm.Cond.declares y').before a0 Z = true) (w3 : (Jvm.Cond.interfaceMethod y'.cls y'.cls y'.name y'.desc).before a0 Z = true) (hfc : ((Jvm.Cond.interfaceMethod y'.cls y'.cls y'.name y'.desc).onTables && (Jvm.Cond.interfaceMethod y'.cls y'.cls y'.name y'.desc).keepsFace) = true) (w4 : (Jvm.Cond.selects C y' z').before a0 Z = true) (w5 : (Jvm.Cond.instanceMethod z').before a0 Z = true) (w6 : (Jvm.Cond.publicMethod z').before a0 Z = true) (w7 : (Jvm.Cond.unhidden C y'.name y'.desc).before a0 Z = true) (w8 : (Jvm.Cond.castable C y'.cls).before a0 Z = true) (wz : (Jvm.Cond.initialized z'.cls).before a0 Z = true) (wc : (Jvm.Cond.code z' bytes' ml' ret').before a0 Z = true) (hy : Pl y')
    (a : Addr) (argsL rest : List Value) (W : Nat) (E : Exa Z h a C) (H : Ctr w' l Z a0 EL z' bytes' ml' ret' rm (.ref a :: argsL).toArray h ws' P) (hww : w' = true → w = true) (hok : ∀ x ∈ ws', Ok w Z EL h0 ws vm0 h x) (hlen : ∀ sig, parseMethodDescriptor y'.desc = some sig → argsL.length = sig.parameters.length) (hS : S = argsL.reverse ++ .ref a :: rest) (hW : (rest.map fun v => v.category).sum ≤ W) (hf : rm.frames + 1 ≤ R.frames) (hl : W + (ml' + 11) + rm.locals ≤ R.locals) (hc : cells + rm.cells ≤ R.cells) (hs : slots + rm.slots ≤ R.slots) (hsz : Ls.size = ml) (hp : pc + 5 = pc')
    (k : ∀ v vm1 T' h' L, Wk p l e R s m args below meth c Z a0 EL y bytes ml ret w h0 ws vm1 T' h' (locs ++ L) (cells + rm.cells) (slots + rm.slots) → Ev w Z EL vm0 h vm1 h' ws' → P v h' → Go p e below F T' (mkF m pc' Ls (v.toList ++ rest))) : Go p e below F T (mkF m pc Ls S) := by
  cases hw' : w' with
  | false => exact b_interface X hd w1 w2 w3 hfc w4 w5 w6 w7 w8 hy a argsL rest E (Ctr.back hw' H X.hZ wc wz hf hl) (fun v h' L q => q) hok hlen hS hW hc hs hsz hp k
  | true =>
    subst hp hS
    have hw := hww hw'
    obtain ⟨cq, kq, qa, qb, qc⟩ := isOf (s := s.setVm vm0) X.hZ X.hT E
    obtain ⟨v, vm, B, -, X', hsi, hg, hq, st⟩ := X.st.interfaceBackS X.hx X.hown (mvT X.hZ w1) (mvT X.hZ w2) (mvT X.hZ w3 hfc) (mvT X.hZ w4) (mvT X.hZ w5) (mvT X.hZ w6) (mvT X.hZ w7) (mvT X.hZ w8) hy (Ctr.backS hw' H X.hZ wc wz hf hl X.hEW (X.chv hw) fun x hx => ⟨(hok x hx).1, (hok x hx).2.2.2 hw⟩) qa qb qc (g := mkF m pc Ls (argsL.reverse ++ .ref a :: rest)) rfl (hsz.trans X.hml.symm) (Steps.refl _) hlen rfl (by show 2 * 0 + _ ≤ _; omega) (hb X.hby hd) (fun _ _ => ⟨rfl, X.hT, hc, hs⟩)
    exact goS hw X X' hsi hg hq st hok k
end Calls
/-! steps that make or write -/
theorem s_initO {idx : Nat} (X : Wk p l e R s m args below meth c Z a0 EL y bytes ml ret w h0 ws vm0 T h locs cells slots) (hd : decode bytes pc = .ok (.invokespecial idx, 3)) (w1 : (Jvm.Cond.methodLink y.cls idx Lib.objectInit).before a0 Z = true) (w2 : (Jvm.Cond.instanceMethod Lib.objectInit).before a0 Z = true) (w3 : (Jvm.Cond.code Lib.objectInit ⟨#[0xb1]⟩ 1 none).before a0 Z = true) (W : Nat) (hW : (rest.map fun v => v.category).sum ≤ W) (hf : 1 ≤ R.frames) (hl : W + 12 ≤ R.locals) (hsz : Ls.size = ml) (hp : pc + 3 = pc')
    (k : ∀ T', Wk p l e R s m args below meth c Z a0 EL y bytes ml ret w h0 ws vm0 T' h locs cells slots → Go p e below F T' (mkF m pc' Ls rest)) : Go p e below F T (mkF m pc Ls (.ref a :: rest)) := by
  subst hp
  obtain ⟨T', X', e', st⟩ := initO X.st X.hx X.hZ X.hown w1 w2 w3 X.hT (g := mkF m pc Ls (.ref a :: rest)) rfl (hsz.trans X.hml.symm) rfl (hb X.hby hd) hf (W := W) (by show 2 * 0 + _ ≤ _; omega) hl
  exact (k T' (X.same X' e' X.hN X.evR two0)).by fun t r => st t r
theorem s_new {idx n : Nat} {C : String} (X : Wk p l e R s m args below meth c Z a0 EL y bytes ml ret w h0 ws vm0 T h locs cells slots) (hd : decode bytes pc = .ok (.new idx, 3)) (w1 : (Jvm.Cond.classLink y.cls idx C).before a0 Z = true) (w2 : (Jvm.Cond.instantiable C n).before a0 Z = true) (w3 : (Jvm.Cond.initialized C).before a0 Z = true) (hc : cells + 1 ≤ R.cells) (hs : slots + n ≤ R.slots) (hp : pc + 3 = pc')
    (k : ∀ a T' h', Wk p l e R s m args below meth c Z a0 EL y bytes ml ret w h0 ws vm0 T' h' locs (cells + 1) (slots + n) → Ev w Z EL vm0 h vm0 h' [] → h.size ≤ a → Exa Z h' a C → Ok w Z EL h0 ws vm0 h' a → (∀ {O nm d : String} {ty : FieldType}, Laid Z a0 C O nm d → parseFieldDescriptor d = some ty → Fld Z h' a O nm d (defaultValue ty)) → Go p e below F T' (mkF m pc' Ls (.ref a :: rest))) : Go p e below F T (mkF m pc Ls rest) := by
  subst hp
  obtain ⟨T', h', X', e', E, A, D, -, st⟩ := newO X.st X.hx X.hZ X.hown w1 w2 w3 X.hT (g := mkF m pc Ls rest) rfl (hb X.hby hd) hc hs
  have V := X.evE E
  exact (k h.size T' h' (X.same X' e' X.hN V two0) V (Nat.le_refl _) A (X.okNew E A.lt) D).by fun t r => st t r
theorem s_newarray {aty : ArrayType} {n : Int32} (X : Wk p l e R s m args below meth c Z a0 EL y bytes ml ret w h0 ws vm0 T h locs cells slots) (hd : decode bytes pc = .ok (.newarray aty, 2)) (w1 : (Jvm.Cond.arrayClass (newarray.typeOf aty)).before a0 Z = true) (hn : ¬ n < 0) (cap : Nat) (hcap : n.toNatClampNeg ≤ cap) (hbg : cap * 8 ≤ 536870912) (hc : cells + 1 ≤ R.cells) (hs : slots + cap ≤ R.slots) (hp : pc + 2 = pc')
    (k : ∀ a T' h' kc, Wk p l e R s m args below meth c Z a0 EL y bytes ml ret w h0 ws vm0 T' h' locs (cells + 1) (slots + cap) → Ev w Z EL vm0 h vm0 h' [] → h.size ≤ a → Arv Z h' a kc (newarray.typeOf aty) n [] (defaultValue (newarray.typeOf aty)) → Ok w Z EL h0 ws vm0 h' a → Go p e below F T' (mkF m pc' Ls (.ref a :: rest))) : Go p e below F T (mkF m pc Ls (.int n :: rest)) := by
  subst hp
  obtain ⟨T', h', kc, X', e', E, A, st⟩ := newP X.st X.hx X.hZ w1 X.hT (g := mkF m pc Ls (.int n :: rest)) rfl (hb X.hby hd) rfl hn hcap hbg hc hs
  have V := X.evE E
  exact (k h.size T' h' kc (X.same X' e' X.hN V two0) V (Nat.le_refl _) (Arv.new A hn) (X.okNew E A.lt)).by fun t r => st t r
theorem s_putfield {idx kk : Nat} {O nm d C : String} {old v : Value} {ty : FieldType} (X : Wk p l e R s m args below meth c Z a0 EL y bytes ml ret w h0 ws vm0 T h locs cells slots) (hd : decode bytes pc = .ok (.putfield idx, 3)) (w1 : (Jvm.Cond.fieldLink y.cls idx O nm d).before a0 Z = true) (Fo : Fld Z h a O nm d old) (E : Exa Z h a C) (L : (Jvm.Cond.lays C O nm d).before a0 Z = true ∨ ((Jvm.Cond.laysFinal C O nm d).before a0 Z = true ∧ y.cls = O ∧ y.name = "<init>")) (wi : (Jvm.Cond.instantiable C kk).before a0 Z = true) (hty : parseFieldDescriptor d = some ty) (hn : narrow ty v = v) (hf : fits ty v = true) (Oa : Ok w Z EL h0 ws vm0 h a) (hp : pc + 3 = pc')
    (k : ∀ T' h', Wk p l e R s m args below meth c Z a0 EL y bytes ml ret w h0 ws vm0 T' h' (locs ++ [⟨a, Jvm.RoadKit.slotOf Z O nm d⟩]) cells slots → Ev w Z EL vm0 h vm0 h' [a] → Wr h h' a (Jvm.RoadKit.slotOf Z O nm d) v → Go p e below F T' (mkF m pc' Ls rest)) : Go p e below F T (mkF m pc Ls (v :: .ref a :: rest)) := by
  subst hp
  obtain ⟨T', h', X', e', W, st⟩ := putF X.st X.hx X.hZ X.hown (host := "") (Or.inl w1) Via.refl X.hT Fo E (L.imp id fun q => ⟨q.1, q.2.1, X.hnm.trans q.2.2⟩) wi hty hn hf (g := mkF m pc Ls (v :: .ref a :: rest)) rfl rfl (hb X.hby hd)
  have V := X.evW W Oa
  exact (k T' h' (X.same X' e' (Fr.snoc X' X.hN Oa.2.1) V (Ok.two Oa.one)) V W).by fun t r => st t r
theorem s_putfieldN {idx kk : Nat} {O nm d C : String} {old v v' : Value} {ty : FieldType} (X : Wk p l e R s m args below meth c Z a0 EL y bytes ml ret w h0 ws vm0 T h locs cells slots) (hd : decode bytes pc = .ok (.putfield idx, 3)) (w1 : (Jvm.Cond.fieldLink y.cls idx O nm d).before a0 Z = true) (Fo : Fld Z h a O nm d old) (E : Exa Z h a C) (L : (Jvm.Cond.lays C O nm d).before a0 Z = true ∨ ((Jvm.Cond.laysFinal C O nm d).before a0 Z = true ∧ y.cls = O ∧ y.name = "<init>")) (wi : (Jvm.Cond.instantiable C kk).before a0 Z = true) (hty : parseFieldDescriptor d = some ty) (hn : narrow ty v = v') (hf : fits ty v' = true) (Oa : Ok w Z EL h0 ws vm0 h a) (hp : pc + 3 = pc')
    (k : ∀ T' h', Wk p l e R s m args below meth c Z a0 EL y bytes ml ret w h0 ws vm0 T' h' (locs ++ [⟨a, Jvm.RoadKit.slotOf Z O nm d⟩]) cells slots → Ev w Z EL vm0 h vm0 h' [a] → Wr h h' a (Jvm.RoadKit.slotOf Z O nm d) v' → Go p e below F T' (mkF m pc' Ls rest)) : Go p e below F T (mkF m pc Ls (v :: .ref a :: rest)) := by
  subst hp
  obtain ⟨T', h', X', e', W, st⟩ := putFN X.st X.hx X.hZ X.hown w1 Via.refl X.hT Fo E (L.imp id fun q => ⟨q.1, q.2.1, X.hnm.trans q.2.2⟩) wi hty hn hf (g := mkF m pc Ls (v :: .ref a :: rest)) rfl rfl (hb X.hby hd)
  have V := X.evW W Oa
  exact (k T' h' (X.same X' e' (Fr.snoc X' X.hN Oa.2.1) V (Ok.two Oa.one)) V W).by fun t r => st t r
theorem s_getfield {idx : Nat} {O nm d : String} {v : Value} (X : Wk p l e R s m args below meth c Z a0 EL y bytes ml ret w h0 ws vm0 T h locs cells slots) (hd : decode bytes pc = .ok (.getfield idx, 3)) (w1 : (Jvm.Cond.fieldLink y.cls idx O nm d).before a0 Z = true) (Fo : Fld Z h a O nm d v) (hp : pc + 3 = pc')
    (k : ∀ T', Wk p l e R s m args below meth c Z a0 EL y bytes ml ret w h0 ws vm0 T' h locs cells slots → Go p e below F T' (mkF m pc' Ls (v :: rest))) : Go p e below F T (mkF m pc Ls (.ref a :: rest)) := by
  subst hp
  obtain ⟨T', X', e', st⟩ := getF X.st X.hx X.hZ X.hown (host := "") (Or.inl w1) Via.refl X.hT Fo (g := mkF m pc Ls (.ref a :: rest)) rfl rfl (hb X.hby hd)
  exact (k T' (X.same X' e' X.hN X.evR two0)).by fun t r => st t r
theorem s_getstatic {idx : Nat} {O nm d : String} {v : Value} (X : Wk p l e R s m args below meth c Z a0 EL y bytes ml ret w h0 ws vm0 T h locs cells slots) (hd : decode bytes pc = .ok (.getstatic idx, 3)) (w1 : (Jvm.Cond.fieldLink y.cls idx O nm d).before a0 Z = true) (Fo : Sta Z h O nm d v) (hp : pc + 3 = pc')
    (k : ∀ T', Wk p l e R s m args below meth c Z a0 EL y bytes ml ret w h0 ws vm0 T' h locs cells slots → Go p e below F T' (mkF m pc' Ls (v :: rest))) : Go p e below F T (mkF m pc Ls rest) := by
  subst hp
  obtain ⟨T', X', e', st⟩ := getS2 X.st X.hx X.hZ X.hown (host := "") (Or.inl w1) Via.refl X.hT Fo (g := mkF m pc Ls rest) rfl (hb X.hby hd)
  exact (k T' (X.same X' e' X.hN X.evR two0)).by fun t r => st t r
theorem s_getstaticN {idx : Nat} {O nm d host : String} {v : Value} (X : Wk p l e R s m args below meth c Z a0 EL y bytes ml ret w h0 ws vm0 T h locs cells slots) (hd : decode bytes pc = .ok (.getstatic idx, 3)) (w1 : (Jvm.Cond.fieldLinkNest y.cls idx O nm d host).before a0 Z = true) (Fo : Sta Z h O nm d v) (hp : pc + 3 = pc')
    (k : ∀ T', Wk p l e R s m args below meth c Z a0 EL y bytes ml ret w h0 ws vm0 T' h locs cells slots → Go p e below F T' (mkF m pc' Ls (v :: rest))) : Go p e below F T (mkF m pc Ls rest) := by
  subst hp
  obtain ⟨T', X', e', st⟩ := getS2 X.st X.hx X.hZ X.hown (host := host) (Or.inr w1) Via.refl X.hT Fo (g := mkF m pc Ls rest) rfl (hb X.hby hd)
  exact (k T' (X.same X' e' X.hN X.evR two0)).by fun t r => st t r
theorem s_castore {j z n : Int32} {kc : ClassId} {vs : List Value} {dv : Value} (X : Wk p l e R s m args below meth c Z a0 EL y bytes ml ret w h0 ws vm0 T h locs cells slots) (hd : decode bytes pc = .ok (.castore, 1)) (A : Arv Z h a kc .char n vs dv) (hj : ¬ j < 0 ∧ j < n) (i : Nat) (hi : j.toNatClampNeg = i) (hlt : i < vs.length) (Oa : Ok w Z EL h0 ws vm0 h a) (hp : pc + 1 = pc')
    (k : ∀ T' h', Wk p l e R s m args below meth c Z a0 EL y bytes ml ret w h0 ws vm0 T' h' (locs ++ [⟨a, j.toNatClampNeg⟩]) cells slots → Ev w Z EL vm0 h vm0 h' [a] → Arv Z h' a kc .char n (vs.set i (.int (nar .char z))) dv → Go p e below F T' (mkF m pc' Ls rest)) : Go p e below F T (mkF m pc Ls (.int z :: .int j :: .ref a :: rest)) := by
  subst hp
  obtain ⟨cl, Ar, q1, S, q3, H, G⟩ := A
  obtain ⟨T', h', X', e', W, st⟩ := stC X.st X.hx X.hZ X.hT Ar (inb_of S hj) (g := mkF m pc Ls (.int z :: .int j :: .ref a :: rest)) rfl rfl (hb X.hby hd)
  have V := X.evW W Oa
  exact (k T' h' (X.same X' e' (Fr.snoc X' X.hN Oa.2.1) V (Ok.two Oa.one)) V (Arv.set Ar q1 S q3 H G (fits_nar_char z) W i hi hlt)).by fun t r => st t r
theorem s_bastore {j z n : Int32} {kc : ClassId} {vs : List Value} {dv : Value} (X : Wk p l e R s m args below meth c Z a0 EL y bytes ml ret w h0 ws vm0 T h locs cells slots) (hd : decode bytes pc = .ok (.bastore, 1)) (A : Arv Z h a kc .byte n vs dv) (hj : ¬ j < 0 ∧ j < n) (i : Nat) (hi : j.toNatClampNeg = i) (hlt : i < vs.length) (Oa : Ok w Z EL h0 ws vm0 h a) (hp : pc + 1 = pc')
    (k : ∀ T' h', Wk p l e R s m args below meth c Z a0 EL y bytes ml ret w h0 ws vm0 T' h' (locs ++ [⟨a, j.toNatClampNeg⟩]) cells slots → Ev w Z EL vm0 h vm0 h' [a] → Arv Z h' a kc .byte n (vs.set i (.int z.toInt8.toInt32)) dv → Go p e below F T' (mkF m pc' Ls rest)) : Go p e below F T (mkF m pc Ls (.int z :: .int j :: .ref a :: rest)) := by
  subst hp
  obtain ⟨cl, Ar, q1, S, q3, H, G⟩ := A
  obtain ⟨T', h', X', e', W, st⟩ := stB X.st X.hx X.hZ X.hT Ar (inb_of S hj) (g := mkF m pc Ls (.int z :: .int j :: .ref a :: rest)) rfl rfl (hb X.hby hd)
  have V := X.evW W Oa
  exact (k T' h' (X.same X' e' (Fr.snoc X' X.hN Oa.2.1) V (Ok.two Oa.one)) V (Arv.set Ar q1 S q3 H G (fits_nar_byte z) W i hi hlt)).by fun t r => st t r
theorem s_caload {j n z : Int32} {kc : ClassId} {vs : List Value} {dv : Value} (X : Wk p l e R s m args below meth c Z a0 EL y bytes ml ret w h0 ws vm0 T h locs cells slots) (hd : decode bytes pc = .ok (.caload, 1)) (A : Arv Z h a kc .char n vs dv) (hj : ¬ j < 0 ∧ j < n) (hz : vs.getD j.toNatClampNeg dv = .int z) (hp : pc + 1 = pc')
    (k : Go p e below F T (mkF m pc' Ls (.int z :: rest))) : Go p e below F T (mkF m pc Ls (.int j :: .ref a :: rest)) := by
  subst hp
  obtain ⟨cl, Ar, q1, S, q3, H, G⟩ := A
  exact k.by fun t r => X.st.caload X.hx (j := j) (v := .int z) (by rw [X.hT]; exact Ar.1) (State.isArrayOf_alike X.hZ.alike Ar.2.1) Ar.2.2 (inb_of S hj) (H.at (inb_of S hj) hz) (g := mkF m pc Ls (.int j :: .ref a :: rest)) rfl rfl (hb X.hby hd) t r
theorem s_baload {j n z : Int32} {kc : ClassId} {vs : List Value} {dv : Value} (X : Wk p l e R s m args below meth c Z a0 EL y bytes ml ret w h0 ws vm0 T h locs cells slots) (hd : decode bytes pc = .ok (.baload, 1)) (A : Arv Z h a kc .byte n vs dv) (hj : ¬ j < 0 ∧ j < n) (hz : vs.getD j.toNatClampNeg dv = .int z) (hp : pc + 1 = pc')
    (k : Go p e below F T (mkF m pc' Ls (.int z :: rest))) : Go p e below F T (mkF m pc Ls (.int j :: .ref a :: rest)) := by
  subst hp
  obtain ⟨cl, Ar, q1, S, q3, H, G⟩ := A
  exact k.by fun t r => X.st.baloadBytes X.hx (j := j) (v := .int z) (by rw [X.hT]; exact Ar.1) (State.isArrayOf_alike X.hZ.alike Ar.2.1) Ar.2.2 (inb_of S hj) (H.at (inb_of S hj) hz) (g := mkF m pc Ls (.int j :: .ref a :: rest)) rfl rfl (hb X.hby hd) t r
theorem s_arraylength {n : Int32} {kc : ClassId} {ty : FieldType} {vs : List Value} {dv : Value} (X : Wk p l e R s m args below meth c Z a0 EL y bytes ml ret w h0 ws vm0 T h locs cells slots) (hd : decode bytes pc = .ok (.arraylength, 1)) (A : Arv Z h a kc ty n vs dv) (hp : pc + 1 = pc')
    (k : Go p e below F T (mkF m pc' Ls (.int n :: rest))) : Go p e below F T (mkF m pc Ls (.ref a :: rest)) := by
  subst hp
  obtain ⟨cl, Ar, q1, S, q3, H, G⟩ := A
  refine k.by fun t r => X.st.arraylength X.hx (by rw [X.hT]; exact Ar.1) (State.isArrayOf_alike X.hZ.alike Ar.2.1) (g := mkF m pc Ls (.ref a :: rest)) rfl rfl (hb X.hby hd) t ?_
  rw [len_of S q3]; exact r
theorem s_castY {idx : Nat} {K : String} (X : Wk p l e R s m args below meth c Z a0 EL y bytes ml ret w h0 ws vm0 T h locs cells slots) (hd : decode bytes pc = .ok (.checkcast idx, 3)) (w1 : (Jvm.Cond.classLink y.cls idx K).before a0 Z = true) (I : Ins Z h a K true) (hp : pc + 3 = pc')
    (k : ∀ T', Wk p l e R s m args below meth c Z a0 EL y bytes ml ret w h0 ws vm0 T' h locs cells slots → Go p e below F T' (mkF m pc' Ls (.ref a :: rest))) : Go p e below F T (mkF m pc Ls (.ref a :: rest)) := by
  subst hp
  obtain ⟨T', X', e', st⟩ := castY X.st X.hx X.hZ X.hown w1 X.hT I (g := mkF m pc Ls (.ref a :: rest)) rfl rfl (hb X.hby hd)
  exact (k T' (X.same X' e' X.hN X.evR two0)).by fun t r => st t r
theorem s_castNull {idx : Nat} (X : Wk p l e R s m args below meth c Z a0 EL y bytes ml ret w h0 ws vm0 T h locs cells slots) (hd : decode bytes pc = .ok (.checkcast idx, 3)) (hp : pc + 3 = pc') (k : Go p e below F T (mkF m pc' Ls (.null :: rest))) : Go p e below F T (mkF m pc Ls (.null :: rest)) := by
  subst hp
  exact k.by fun t r => X.st.checkcastNull X.hx (g := mkF m pc Ls (.null :: rest)) rfl rfl (hb X.hby hd) t r
theorem s_instY {idx : Nat} {K : String} (X : Wk p l e R s m args below meth c Z a0 EL y bytes ml ret w h0 ws vm0 T h locs cells slots) (hd : decode bytes pc = .ok (.instanceof idx, 3)) (w1 : (Jvm.Cond.classLink y.cls idx K).before a0 Z = true) (I : Ins Z h a K true) (hp : pc + 3 = pc')
    (k : ∀ T', Wk p l e R s m args below meth c Z a0 EL y bytes ml ret w h0 ws vm0 T' h locs cells slots → Go p e below F T' (mkF m pc' Ls (.int 1 :: rest))) : Go p e below F T (mkF m pc Ls (.ref a :: rest)) := by
  subst hp
  obtain ⟨T', X', e', st⟩ := instY X.st X.hx X.hZ X.hown w1 X.hT I (g := mkF m pc Ls (.ref a :: rest)) rfl rfl (hb X.hby hd)
  exact (k T' (X.same X' e' X.hN X.evR two0)).by fun t r => st t r
theorem s_instNull {idx : Nat} (X : Wk p l e R s m args below meth c Z a0 EL y bytes ml ret w h0 ws vm0 T h locs cells slots) (hd : decode bytes pc = .ok (.instanceof idx, 3)) (hp : pc + 3 = pc') (k : Go p e below F T (mkF m pc' Ls (.int 0 :: rest))) : Go p e below F T (mkF m pc Ls (.null :: rest)) := by
  subst hp
  exact k.by fun t r => X.st.instanceofNull X.hx (g := mkF m pc Ls (.null :: rest)) rfl rfl (hb X.hby hd) t r
theorem s_ldcI {idx : Nat} {v : Int32} (X : Wk p l e R s m args below meth c Z a0 EL y bytes ml ret w h0 ws vm0 T h locs cells slots) (hd : decode bytes pc = .ok (.ldc idx, 2)) (w1 : (Jvm.Cond.constant y.cls idx v).before a0 Z = true) (hp : pc + 2 = pc') (k : Go p e below F T (mkF m pc' Ls (.int v :: rest))) : Go p e below F T (mkF m pc Ls rest) := by
  subst hp
  exact k.by fun t r => X.st.ldcI X.hx X.hown (mvT X.hZ w1) (g := mkF m pc Ls rest) rfl (hb X.hby hd) r
theorem s_ldcStr {idx : Nat} {text : String} {vs : List Value} {z : Int32} (hw : w = true) (X : Wk p l e R s m args below meth c Z a0 EL y bytes ml ret w h0 ws vm0 T h locs cells slots) (hd : decode bytes pc = .ok (.ldc idx, 2)) (w1 : (Jvm.Cond.stringLink y.cls idx text).before a0 Z = true) (wS : ∀ a ∈ Bundle.stringAtoms, a.before a0 Z = true) (hmem : (y.cls, idx) ∈ EL)
    (ht : (∀ c ∈ text.toList, c.toNat < 256) ∧ text.toList.map (fun c => Value.int (Jvm.Lit.byteI c.toNat.toUInt16)) = vs) (hz : ¬ z < 0) (hl : z.toNatClampNeg = vs.length) (n : Nat) (hn : 4 * text.toList.length ≤ n) (hbig : n ≤ 536870912) (hc : cells + 2 ≤ R.cells) (hs : slots + (n + 4) ≤ R.slots) (hp : pc + 2 = pc')
    (k : ∀ a b kc vm1 T' h', Wk p l e R s m args below meth c Z a0 EL y bytes ml ret w h0 ws vm1 T' h' locs (cells + 2) (slots + (n + 4)) → Ev w Z EL vm0 h vm1 h' [] → Exa Z h' a "java/lang/String" → Fld Z h' a "java/lang/String" "coder" "B" (.int 0) → Fld Z h' a "java/lang/String" "value" "[B" (.ref b) → Arv Z h' b kc .byte z vs (.int 0) → Go p e below F T' (mkF m pc' Ls (.ref a :: rest))) : Go p e below F T (mkF m pc Ls rest) := by
  subst hp
  obtain ⟨k0, k1, k2⟩ := X.hS
  obtain ⟨a, T', h', kk, b, kc, X', e', E, hS, hk, hZ, ho, q1, q2, q3, q4, -, -, hC, -, -, st⟩ := ldcCH X.st X.hx X.hZ X.hown w1 wS X.hT k1 k2 X.hEW hmem (X.chv hw) ht hz hl (g := mkF m pc Ls rest) rfl (hb X.hby hd) hn hbig hc hs
  have V : Ev w Z EL vm0 h T'.vm h' [] := ⟨(Keep.refl _ _).ext E, fun _ => hC⟩
  exact (k a b kc T'.vm T' h' (X.move X' hZ ho e' ⟨_, hS, hk⟩ (fun q => by rw [hw] at q; cases q) X.hN V two0) V q1 q2 q3 q4).by fun t r => st t r
theorem s_ldcOpaque {idx : Nat} {text : String} (hw : w = true) (X : Wk p l e R s m args below meth c Z a0 EL y bytes ml ret w h0 ws vm0 T h locs cells slots) (hd : decode bytes pc = .ok (.ldc idx, 2)) (w1 : (Jvm.Cond.stringLink y.cls idx text).before a0 Z = true) (wS : ∀ a ∈ Bundle.stringAtoms, a.before a0 Z = true)
    (n : Nat) (hn : 4 * text.toList.length ≤ n) (hbig : n ≤ 536870912) (hc : cells + 2 ≤ R.cells) (hs : slots + (n + 4) ≤ R.slots) (hp : pc + 2 = pc')
    (k : ∀ a vm1 T' h', Wk p l e R s m args below meth c Z a0 EL y bytes ml ret w h0 ws vm1 T' h' locs (cells + 2) (slots + (n + 4)) → Ev w Z EL vm0 h vm1 h' [] → Go p e below F T' (mkF m pc' Ls (.ref a :: rest))) : Go p e below F T (mkF m pc Ls rest) := by
  subst hp
  obtain ⟨k0, k1, k2⟩ := X.hS
  obtain ⟨a, T', h', kk, X', e', E, hS, hk, hZ, ho, hC, -, st⟩ := ldcOH X.st X.hx X.hZ X.hown w1 wS X.hT k1 k2 X.hEW (X.chv hw) (g := mkF m pc Ls rest) rfl (hb X.hby hd) hn hbig hc hs
  have V : Ev w Z EL vm0 h T'.vm h' [] := ⟨(Keep.refl _ _).ext E, fun _ => hC⟩
  exact (k a T'.vm T' h' (X.move X' hZ ho e' ⟨_, hS, hk⟩ (fun q => by rw [hw] at q; cases q) X.hN V two0) V).by fun t r => st t r
/-! plain steps -/
theorem s_aload {k : Nat} {v : Value} (X : Wk p l e R s m args below meth c Z a0 EL y bytes ml ret w h0 ws vm0 T h locs cells slots) (hd : decode bytes pc = .ok (.aload k, 2)) (hl : Ls[k]? = some (.val v)) (hv : v.isRef = true) (hp : pc + 2 = pc') (k : Go p e below F T (mkF m pc' Ls (v :: rest))) : Go p e below F T (mkF m pc Ls (rest)) := by
  subst hp
  exact k.by fun t r => XS.aload X.st.here X.hx rfl (hb X.hby hd) hl hv r
theorem s_iload {k : Nat} {v : Int32} (X : Wk p l e R s m args below meth c Z a0 EL y bytes ml ret w h0 ws vm0 T h locs cells slots) (hd : decode bytes pc = .ok (.iload k, 2)) (hl : Ls[k]? = some (.val (.int v))) (hp : pc + 2 = pc') (k : Go p e below F T (mkF m pc' Ls (.int v :: rest))) : Go p e below F T (mkF m pc Ls (rest)) := by
  subst hp
  exact k.by fun t r => XS.iload X.st.here X.hx rfl (hb X.hby hd) hl r
theorem s_lload {k : Nat} {v : Int64} (X : Wk p l e R s m args below meth c Z a0 EL y bytes ml ret w h0 ws vm0 T h locs cells slots) (hd : decode bytes pc = .ok (.lload k, 2)) (hl : Ls[k]? = some (.val (.long v))) (hp : pc + 2 = pc') (k : Go p e below F T (mkF m pc' Ls (.long v :: rest))) : Go p e below F T (mkF m pc Ls (rest)) := by
  subst hp
  exact k.by fun t r => XT.lload X.st.here X.hx rfl (hb X.hby hd) hl r
theorem s_astore {k : Nat} {v : Value} (X : Wk p l e R s m args below meth c Z a0 EL y bytes ml ret w h0 ws vm0 T h locs cells slots) (hd : decode bytes pc = .ok (.astore k, 2)) (hv : v.isRef = true) (Ls' : Array Slot) (hl : storeLocals Ls k v = some Ls') (hp : pc + 2 = pc') (k : Go p e below F T (mkF m pc' Ls' (rest))) : Go p e below F T (mkF m pc Ls (v :: rest)) := by
  subst hp
  exact k.by fun t r => XS.astore X.st.here X.hx rfl (hb X.hby hd) rfl hv hl r
theorem s_istore {k : Nat} {v : Int32} (X : Wk p l e R s m args below meth c Z a0 EL y bytes ml ret w h0 ws vm0 T h locs cells slots) (hd : decode bytes pc = .ok (.istore k, 2)) (Ls' : Array Slot) (hl : storeLocals Ls k (.int v) = some Ls') (hp : pc + 2 = pc') (k : Go p e below F T (mkF m pc' Ls' (rest))) : Go p e below F T (mkF m pc Ls (.int v :: rest)) := by
  subst hp
  exact k.by fun t r => XS.istore X.st.here X.hx rfl (hb X.hby hd) rfl hl r
theorem s_lstore {k : Nat} {v : Int64} (X : Wk p l e R s m args below meth c Z a0 EL y bytes ml ret w h0 ws vm0 T h locs cells slots) (hd : decode bytes pc = .ok (.lstore k, 2)) (Ls' : Array Slot) (hl : storeLocals Ls k (.long v) = some Ls') (hp : pc + 2 = pc') (k : Go p e below F T (mkF m pc' Ls' (rest))) : Go p e below F T (mkF m pc Ls (.long v :: rest)) := by
  subst hp
  exact k.by fun t r => XT.lstore X.st.here X.hx rfl (hb X.hby hd) rfl hl r
theorem s_aloadN {k : Fin 4} {v : Value} (X : Wk p l e R s m args below meth c Z a0 EL y bytes ml ret w h0 ws vm0 T h locs cells slots) (hd : decode bytes pc = .ok (.aload_n k, 1)) (hl : Ls[k.val]? = some (.val v)) (hv : v.isRef = true) (hp : pc + 1 = pc') (k : Go p e below F T (mkF m pc' Ls (v :: rest))) : Go p e below F T (mkF m pc Ls (rest)) := by
  subst hp
  exact k.by fun t r => XS.aloadN X.st.here X.hx rfl (hb X.hby hd) hl hv r
theorem s_iloadN {k : Fin 4} {v : Int32} (X : Wk p l e R s m args below meth c Z a0 EL y bytes ml ret w h0 ws vm0 T h locs cells slots) (hd : decode bytes pc = .ok (.iload_n k, 1)) (hl : Ls[k.val]? = some (.val (.int v))) (hp : pc + 1 = pc') (k : Go p e below F T (mkF m pc' Ls (.int v :: rest))) : Go p e below F T (mkF m pc Ls (rest)) := by
  subst hp
  exact k.by fun t r => XS.iloadN X.st.here X.hx rfl (hb X.hby hd) hl r
theorem s_lloadN {k : Fin 4} {v : Int64} (X : Wk p l e R s m args below meth c Z a0 EL y bytes ml ret w h0 ws vm0 T h locs cells slots) (hd : decode bytes pc = .ok (.lload_n k, 1)) (hl : Ls[k.val]? = some (.val (.long v))) (hp : pc + 1 = pc') (k : Go p e below F T (mkF m pc' Ls (.long v :: rest))) : Go p e below F T (mkF m pc Ls (rest)) := by
  subst hp
  exact k.by fun t r => XT.lloadN X.st.here X.hx rfl (hb X.hby hd) hl r
theorem s_astoreN {k : Fin 4} {v : Value} (X : Wk p l e R s m args below meth c Z a0 EL y bytes ml ret w h0 ws vm0 T h locs cells slots) (hd : decode bytes pc = .ok (.astore_n k, 1)) (hv : v.isRef = true) (Ls' : Array Slot) (hl : storeLocals Ls k.val v = some Ls') (hp : pc + 1 = pc') (k : Go p e below F T (mkF m pc' Ls' (rest))) : Go p e below F T (mkF m pc Ls (v :: rest)) := by
  subst hp
  exact k.by fun t r => XS.astoreN X.st.here X.hx rfl (hb X.hby hd) rfl hv hl r
theorem s_istoreN {k : Fin 4} {v : Int32} (X : Wk p l e R s m args below meth c Z a0 EL y bytes ml ret w h0 ws vm0 T h locs cells slots) (hd : decode bytes pc = .ok (.istore_n k, 1)) (Ls' : Array Slot) (hl : storeLocals Ls k.val (.int v) = some Ls') (hp : pc + 1 = pc') (k : Go p e below F T (mkF m pc' Ls' (rest))) : Go p e below F T (mkF m pc Ls (.int v :: rest)) := by
  subst hp
  exact k.by fun t r => XS.istoreN X.st.here X.hx rfl (hb X.hby hd) rfl hl r
theorem s_lstoreN {k : Fin 4} {v : Int64} (X : Wk p l e R s m args below meth c Z a0 EL y bytes ml ret w h0 ws vm0 T h locs cells slots) (hd : decode bytes pc = .ok (.lstore_n k, 1)) (Ls' : Array Slot) (hl : storeLocals Ls k.val (.long v) = some Ls') (hp : pc + 1 = pc') (k : Go p e below F T (mkF m pc' Ls' (rest))) : Go p e below F T (mkF m pc Ls (.long v :: rest)) := by
  subst hp
  exact k.by fun t r => XT.lstoreN X.st.here X.hx rfl (hb X.hby hd) rfl hl r
theorem s_iconst {i : Int} (X : Wk p l e R s m args below meth c Z a0 EL y bytes ml ret w h0 ws vm0 T h locs cells slots) (hd : decode bytes pc = .ok (.iconst i, 1)) (v : Int32) (hv : Int32.ofInt i = v) (hp : pc + 1 = pc') (k : Go p e below F T (mkF m pc' Ls (.int v :: rest))) : Go p e below F T (mkF m pc Ls (rest)) := by
  subst hp
  exact k.by fun t r => XT.iconstV X.st.here X.hx rfl v (hb X.hby hd) hv r
theorem s_bipush {i : Int} (X : Wk p l e R s m args below meth c Z a0 EL y bytes ml ret w h0 ws vm0 T h locs cells slots) (hd : decode bytes pc = .ok (.bipush i, 2)) (v : Int32) (hv : (Int8.ofInt i).toInt32 = v) (hp : pc + 2 = pc') (k : Go p e below F T (mkF m pc' Ls (.int v :: rest))) : Go p e below F T (mkF m pc Ls (rest)) := by
  subst hp
  exact k.by fun t r => XT.bipushV X.st.here X.hx rfl v (hb X.hby hd) hv r
theorem s_sipush {i : Int} (X : Wk p l e R s m args below meth c Z a0 EL y bytes ml ret w h0 ws vm0 T h locs cells slots) (hd : decode bytes pc = .ok (.sipush i, 3)) (v : Int32) (hv : (Int16.ofInt i).toInt32 = v) (hp : pc + 3 = pc') (k : Go p e below F T (mkF m pc' Ls (.int v :: rest))) : Go p e below F T (mkF m pc Ls (rest)) := by
  subst hp
  exact k.by fun t r => XT.sipushV X.st.here X.hx rfl v (hb X.hby hd) hv r
theorem s_lconst {k : Fin 2} (X : Wk p l e R s m args below meth c Z a0 EL y bytes ml ret w h0 ws vm0 T h locs cells slots) (hd : decode bytes pc = .ok (.lconst k, 1)) (v : Int64) (hv : Int64.ofNat k = v) (hp : pc + 1 = pc') (k : Go p e below F T (mkF m pc' Ls (.long v :: rest))) : Go p e below F T (mkF m pc Ls (rest)) := by
  subst hp
  exact k.by fun t r => XT.lconstV X.st.here X.hx rfl v (hb X.hby hd) hv r
theorem s_aconst_null (X : Wk p l e R s m args below meth c Z a0 EL y bytes ml ret w h0 ws vm0 T h locs cells slots) (hd : decode bytes pc = .ok (.aconst_null, 1)) (hp : pc + 1 = pc') (k : Go p e below F T (mkF m pc' Ls (.null :: rest))) : Go p e below F T (mkF m pc Ls (rest)) := by
  subst hp
  exact k.by fun t r => XS.aconstNull X.st.here X.hx rfl (hb X.hby hd) r
theorem s_iadd {u v : Int32} (X : Wk p l e R s m args below meth c Z a0 EL y bytes ml ret w h0 ws vm0 T h locs cells slots) (hd : decode bytes pc = .ok (.iadd, 1)) (hp : pc + 1 = pc') (k : Go p e below F T (mkF m pc' Ls (.int (u + v) :: rest))) : Go p e below F T (mkF m pc Ls (.int v :: .int u :: rest)) := by
  subst hp
  exact k.by fun t r => XS.iadd X.st.here X.hx rfl (hb X.hby hd) rfl r
theorem s_isub {u v : Int32} (X : Wk p l e R s m args below meth c Z a0 EL y bytes ml ret w h0 ws vm0 T h locs cells slots) (hd : decode bytes pc = .ok (.isub, 1)) (hp : pc + 1 = pc') (k : Go p e below F T (mkF m pc' Ls (.int (u - v) :: rest))) : Go p e below F T (mkF m pc Ls (.int v :: .int u :: rest)) := by
  subst hp
  exact k.by fun t r => XS.isub X.st.here X.hx rfl (hb X.hby hd) rfl r
theorem s_imul {u v : Int32} (X : Wk p l e R s m args below meth c Z a0 EL y bytes ml ret w h0 ws vm0 T h locs cells slots) (hd : decode bytes pc = .ok (.imul, 1)) (hp : pc + 1 = pc') (k : Go p e below F T (mkF m pc' Ls (.int (u * v) :: rest))) : Go p e below F T (mkF m pc Ls (.int v :: .int u :: rest)) := by
  subst hp
  exact k.by fun t r => XS.imul X.st.here X.hx rfl (hb X.hby hd) rfl r
theorem s_iand {u v : Int32} (X : Wk p l e R s m args below meth c Z a0 EL y bytes ml ret w h0 ws vm0 T h locs cells slots) (hd : decode bytes pc = .ok (.iand, 1)) (hp : pc + 1 = pc') (k : Go p e below F T (mkF m pc' Ls (.int (u &&& v) :: rest))) : Go p e below F T (mkF m pc Ls (.int v :: .int u :: rest)) := by
  subst hp
  exact k.by fun t r => XS.iand X.st.here X.hx rfl (hb X.hby hd) rfl r
theorem s_ior {u v : Int32} (X : Wk p l e R s m args below meth c Z a0 EL y bytes ml ret w h0 ws vm0 T h locs cells slots) (hd : decode bytes pc = .ok (.ior, 1)) (hp : pc + 1 = pc') (k : Go p e below F T (mkF m pc' Ls (.int (u ||| v) :: rest))) : Go p e below F T (mkF m pc Ls (.int v :: .int u :: rest)) := by
  subst hp
  exact k.by fun t r => XT.ior X.st.here X.hx rfl (hb X.hby hd) rfl r
theorem s_ixor {u v : Int32} (X : Wk p l e R s m args below meth c Z a0 EL y bytes ml ret w h0 ws vm0 T h locs cells slots) (hd : decode bytes pc = .ok (.ixor, 1)) (hp : pc + 1 = pc') (k : Go p e below F T (mkF m pc' Ls (.int (u ^^^ v) :: rest))) : Go p e below F T (mkF m pc Ls (.int v :: .int u :: rest)) := by
  subst hp
  exact k.by fun t r => XT.ixor X.st.here X.hx rfl (hb X.hby hd) rfl r
theorem s_ishl {u v : Int32} (X : Wk p l e R s m args below meth c Z a0 EL y bytes ml ret w h0 ws vm0 T h locs cells slots) (hd : decode bytes pc = .ok (.ishl, 1)) (hp : pc + 1 = pc') (k : Go p e below F T (mkF m pc' Ls (.int (u <<< (v &&& 31)) :: rest))) : Go p e below F T (mkF m pc Ls (.int v :: .int u :: rest)) := by
  subst hp
  exact k.by fun t r => XT.ishl X.st.here X.hx rfl (hb X.hby hd) rfl r
theorem s_ishr {u v : Int32} (X : Wk p l e R s m args below meth c Z a0 EL y bytes ml ret w h0 ws vm0 T h locs cells slots) (hd : decode bytes pc = .ok (.ishr, 1)) (hp : pc + 1 = pc') (k : Go p e below F T (mkF m pc' Ls (.int (u >>> (v &&& 31)) :: rest))) : Go p e below F T (mkF m pc Ls (.int v :: .int u :: rest)) := by
  subst hp
  exact k.by fun t r => XT.ishr X.st.here X.hx rfl (hb X.hby hd) rfl r
theorem s_iushr {u v : Int32} (X : Wk p l e R s m args below meth c Z a0 EL y bytes ml ret w h0 ws vm0 T h locs cells slots) (hd : decode bytes pc = .ok (.iushr, 1)) (hp : pc + 1 = pc') (k : Go p e below F T (mkF m pc' Ls (.int (XT.ushr u v) :: rest))) : Go p e below F T (mkF m pc Ls (.int v :: .int u :: rest)) := by
  subst hp
  exact k.by fun t r => XT.iushr X.st.here X.hx rfl (hb X.hby hd) rfl r
theorem s_idiv {u v : Int32} (X : Wk p l e R s m args below meth c Z a0 EL y bytes ml ret w h0 ws vm0 T h locs cells slots) (hd : decode bytes pc = .ok (.idiv, 1)) (hy : v ≠ 0) (hp : pc + 1 = pc') (k : Go p e below F T (mkF m pc' Ls (.int (u / v) :: rest))) : Go p e below F T (mkF m pc Ls (.int v :: .int u :: rest)) := by
  subst hp
  exact k.by fun t r => XS.idiv X.st.here X.hx rfl (hb X.hby hd) rfl hy r
theorem s_irem {u v : Int32} (X : Wk p l e R s m args below meth c Z a0 EL y bytes ml ret w h0 ws vm0 T h locs cells slots) (hd : decode bytes pc = .ok (.irem, 1)) (hy : v ≠ 0) (hp : pc + 1 = pc') (k : Go p e below F T (mkF m pc' Ls (.int (u % v) :: rest))) : Go p e below F T (mkF m pc Ls (.int v :: .int u :: rest)) := by
  subst hp
  exact k.by fun t r => iremM X.st X.hx (g := mkF m pc Ls (.int v :: .int u :: rest)) rfl (hb X.hby hd) rfl hy r
theorem s_ladd {u v : Int64} (X : Wk p l e R s m args below meth c Z a0 EL y bytes ml ret w h0 ws vm0 T h locs cells slots) (hd : decode bytes pc = .ok (.ladd, 1)) (hp : pc + 1 = pc') (k : Go p e below F T (mkF m pc' Ls (.long (u + v) :: rest))) : Go p e below F T (mkF m pc Ls (.long v :: .long u :: rest)) := by
  subst hp
  exact k.by fun t r => XT.ladd X.st.here X.hx rfl (hb X.hby hd) rfl r
theorem s_lsub {u v : Int64} (X : Wk p l e R s m args below meth c Z a0 EL y bytes ml ret w h0 ws vm0 T h locs cells slots) (hd : decode bytes pc = .ok (.lsub, 1)) (hp : pc + 1 = pc') (k : Go p e below F T (mkF m pc' Ls (.long (u - v) :: rest))) : Go p e below F T (mkF m pc Ls (.long v :: .long u :: rest)) := by
  subst hp
  exact k.by fun t r => XT.lsub X.st.here X.hx rfl (hb X.hby hd) rfl r
theorem s_lmul {u v : Int64} (X : Wk p l e R s m args below meth c Z a0 EL y bytes ml ret w h0 ws vm0 T h locs cells slots) (hd : decode bytes pc = .ok (.lmul, 1)) (hp : pc + 1 = pc') (k : Go p e below F T (mkF m pc' Ls (.long (u * v) :: rest))) : Go p e below F T (mkF m pc Ls (.long v :: .long u :: rest)) := by
  subst hp
  exact k.by fun t r => XT.lmul X.st.here X.hx rfl (hb X.hby hd) rfl r
theorem s_land {u v : Int64} (X : Wk p l e R s m args below meth c Z a0 EL y bytes ml ret w h0 ws vm0 T h locs cells slots) (hd : decode bytes pc = .ok (.land, 1)) (hp : pc + 1 = pc') (k : Go p e below F T (mkF m pc' Ls (.long (u &&& v) :: rest))) : Go p e below F T (mkF m pc Ls (.long v :: .long u :: rest)) := by
  subst hp
  exact k.by fun t r => XT.land X.st.here X.hx rfl (hb X.hby hd) rfl r
theorem s_lor {u v : Int64} (X : Wk p l e R s m args below meth c Z a0 EL y bytes ml ret w h0 ws vm0 T h locs cells slots) (hd : decode bytes pc = .ok (.lor, 1)) (hp : pc + 1 = pc') (k : Go p e below F T (mkF m pc' Ls (.long (u ||| v) :: rest))) : Go p e below F T (mkF m pc Ls (.long v :: .long u :: rest)) := by
  subst hp
  exact k.by fun t r => XT.lor X.st.here X.hx rfl (hb X.hby hd) rfl r
theorem s_lxor {u v : Int64} (X : Wk p l e R s m args below meth c Z a0 EL y bytes ml ret w h0 ws vm0 T h locs cells slots) (hd : decode bytes pc = .ok (.lxor, 1)) (hp : pc + 1 = pc') (k : Go p e below F T (mkF m pc' Ls (.long (u ^^^ v) :: rest))) : Go p e below F T (mkF m pc Ls (.long v :: .long u :: rest)) := by
  subst hp
  exact k.by fun t r => XT.lxor X.st.here X.hx rfl (hb X.hby hd) rfl r
theorem s_lrem {u v : Int64} (X : Wk p l e R s m args below meth c Z a0 EL y bytes ml ret w h0 ws vm0 T h locs cells slots) (hd : decode bytes pc = .ok (.lrem, 1)) (hy : v ≠ 0) (hp : pc + 1 = pc') (k : Go p e below F T (mkF m pc' Ls (.long (u - (u / v) * v) :: rest))) : Go p e below F T (mkF m pc Ls (.long v :: .long u :: rest)) := by
  subst hp
  exact k.by fun t r => XT.lrem X.st.here X.hx rfl (hb X.hby hd) rfl hy r
theorem s_lushr {u : Int64} {v : Int32} (X : Wk p l e R s m args below meth c Z a0 EL y bytes ml ret w h0 ws vm0 T h locs cells slots) (hd : decode bytes pc = .ok (.lushr, 1)) (hp : pc + 1 = pc') (k : Go p e below F T (mkF m pc' Ls (.long (XT.ushrL u v) :: rest))) : Go p e below F T (mkF m pc Ls (.int v :: .long u :: rest)) := by
  subst hp
  exact k.by fun t r => XT.lushr X.st.here X.hx rfl (hb X.hby hd) rfl r
theorem s_ineg {u : Int32} (X : Wk p l e R s m args below meth c Z a0 EL y bytes ml ret w h0 ws vm0 T h locs cells slots) (hd : decode bytes pc = .ok (.ineg, 1)) (hp : pc + 1 = pc') (k : Go p e below F T (mkF m pc' Ls (.int (-u) :: rest))) : Go p e below F T (mkF m pc Ls (.int u :: rest)) := by
  subst hp
  exact k.by fun t r => XS.ineg X.st.here X.hx rfl (hb X.hby hd) rfl r
theorem s_i2l {u : Int32} (X : Wk p l e R s m args below meth c Z a0 EL y bytes ml ret w h0 ws vm0 T h locs cells slots) (hd : decode bytes pc = .ok (.i2l, 1)) (hp : pc + 1 = pc') (k : Go p e below F T (mkF m pc' Ls (.long (u.toInt64) :: rest))) : Go p e below F T (mkF m pc Ls (.int u :: rest)) := by
  subst hp
  exact k.by fun t r => XT.i2l X.st.here X.hx rfl (hb X.hby hd) rfl r
theorem s_l2i {u : Int64} (X : Wk p l e R s m args below meth c Z a0 EL y bytes ml ret w h0 ws vm0 T h locs cells slots) (hd : decode bytes pc = .ok (.l2i, 1)) (hp : pc + 1 = pc') (k : Go p e below F T (mkF m pc' Ls (.int (u.toInt32) :: rest))) : Go p e below F T (mkF m pc Ls (.long u :: rest)) := by
  subst hp
  exact k.by fun t r => XT.l2i X.st.here X.hx rfl (hb X.hby hd) rfl r
theorem s_i2b {u : Int32} (X : Wk p l e R s m args below meth c Z a0 EL y bytes ml ret w h0 ws vm0 T h locs cells slots) (hd : decode bytes pc = .ok (.i2b, 1)) (hp : pc + 1 = pc') (k : Go p e below F T (mkF m pc' Ls (.int (u.toInt8.toInt32) :: rest))) : Go p e below F T (mkF m pc Ls (.int u :: rest)) := by
  subst hp
  exact k.by fun t r => XT.i2b X.st.here X.hx rfl (hb X.hby hd) rfl r
theorem s_i2s {u : Int32} (X : Wk p l e R s m args below meth c Z a0 EL y bytes ml ret w h0 ws vm0 T h locs cells slots) (hd : decode bytes pc = .ok (.i2s, 1)) (hp : pc + 1 = pc') (k : Go p e below F T (mkF m pc' Ls (.int (u.toInt16.toInt32) :: rest))) : Go p e below F T (mkF m pc Ls (.int u :: rest)) := by
  subst hp
  exact k.by fun t r => XT.i2s X.st.here X.hx rfl (hb X.hby hd) rfl r
theorem s_i2c {u : Int32} (X : Wk p l e R s m args below meth c Z a0 EL y bytes ml ret w h0 ws vm0 T h locs cells slots) (hd : decode bytes pc = .ok (.i2c, 1)) (hp : pc + 1 = pc') (k : Go p e below F T (mkF m pc' Ls (.int (u.toUInt32.toUInt16.toUInt32.toInt32) :: rest))) : Go p e below F T (mkF m pc Ls (.int u :: rest)) := by
  subst hp
  exact k.by fun t r => XT.i2c X.st.here X.hx rfl (hb X.hby hd) rfl r
theorem s_dup {v : Value} (X : Wk p l e R s m args below meth c Z a0 EL y bytes ml ret w h0 ws vm0 T h locs cells slots) (hd : decode bytes pc = .ok (.dup, 1)) (hc : v.category = 1) (hp : pc + 1 = pc') (k : Go p e below F T (mkF m pc' Ls (v :: v :: rest))) : Go p e below F T (mkF m pc Ls (v :: rest)) := by
  subst hp
  exact k.by fun t r => XS.dup X.st.here X.hx rfl (hb X.hby hd) rfl hc r
theorem s_pop {v : Value} (X : Wk p l e R s m args below meth c Z a0 EL y bytes ml ret w h0 ws vm0 T h locs cells slots) (hd : decode bytes pc = .ok (.pop, 1)) (hc : v.category = 1) (hp : pc + 1 = pc') (k : Go p e below F T (mkF m pc' Ls (rest))) : Go p e below F T (mkF m pc Ls (v :: rest)) := by
  subst hp
  exact k.by fun t r => XT.pop X.st.here X.hx rfl (hb X.hby hd) rfl hc r
theorem s_dup_x1 {u v : Value} (X : Wk p l e R s m args below meth c Z a0 EL y bytes ml ret w h0 ws vm0 T h locs cells slots) (hd : decode bytes pc = .ok (.dup_x1, 1)) (hc : u.category = 1) (hc' : v.category = 1) (hp : pc + 1 = pc') (k : Go p e below F T (mkF m pc' Ls (u :: v :: u :: rest))) : Go p e below F T (mkF m pc Ls (u :: v :: rest)) := by
  subst hp
  exact k.by fun t r => XT.dupX1 X.st.here X.hx rfl (hb X.hby hd) rfl hc hc' r
theorem s_iinc {k : Nat} {cst : Int} {u : Int32} (X : Wk p l e R s m args below meth c Z a0 EL y bytes ml ret w h0 ws vm0 T h locs cells slots) (hd : decode bytes pc = .ok (.iinc k cst, 3)) (v : Int32) (hv : Int32.ofInt cst = v) (hl : Ls[k]? = some (.val (.int u))) (Ls' : Array Slot) (hl' : storeLocals Ls k (.int (u + v)) = some Ls') (hp : pc + 3 = pc') (k : Go p e below F T (mkF m pc' Ls' (rest))) : Go p e below F T (mkF m pc Ls (rest)) := by
  subst hp
  exact k.by fun t r => XT.iincV X.st.here X.hx rfl v (hb X.hby hd) hv hl hl' r
theorem s_goto {o : Int} (X : Wk p l e R s m args below meth c Z a0 EL y bytes ml ret w h0 ws vm0 T h locs cells slots) (hd : decode bytes pc = .ok (.goto o, 3)) (ho : 0 ≤ (pc : Int) + o) (hp : ((pc : Int) + o).toNat = pc') (k : Go p e below F T (mkF m pc' Ls rest)) : Go p e below F T (mkF m pc Ls (rest)) :=
  k.by fun t r => XS.goto X.st.here X.hx rfl (pc0 := pc) rfl (hb X.hby hd) ho hp r
theorem s_ifT {cd : ClassFile.Cond} {u : Int32} {o : Int} (X : Wk p l e R s m args below meth c Z a0 EL y bytes ml ret w h0 ws vm0 T h locs cells slots) (hd : decode bytes pc = .ok (.ifCond cd o, 3)) (hc : ifCond.holds cd u = true) (ho : 0 ≤ (pc : Int) + o) (hp : ((pc : Int) + o).toNat = pc') (k : Go p e below F T (mkF m pc' Ls rest)) : Go p e below F T (mkF m pc Ls (.int u :: rest)) :=
  k.by fun t r => XS.ifYes X.st.here X.hx rfl (pc0 := pc) rfl (hb X.hby hd) rfl hc ho hp r
theorem s_ifF {cd : ClassFile.Cond} {u : Int32} {o : Int} (X : Wk p l e R s m args below meth c Z a0 EL y bytes ml ret w h0 ws vm0 T h locs cells slots) (hd : decode bytes pc = .ok (.ifCond cd o, 3)) (hc : ifCond.holds cd u = false) (hp : pc + 3 = pc') (k : Go p e below F T (mkF m pc' Ls rest)) : Go p e below F T (mkF m pc Ls (.int u :: rest)) := by
  subst hp
  exact k.by fun t r => XS.ifNo X.st.here X.hx rfl (hb X.hby hd) rfl hc r
theorem s_icmpT {cd : ClassFile.Cond} {u v : Int32} {o : Int} (X : Wk p l e R s m args below meth c Z a0 EL y bytes ml ret w h0 ws vm0 T h locs cells slots) (hd : decode bytes pc = .ok (.if_icmp cd o, 3)) (hc : if_icmp.holds cd u v = true) (ho : 0 ≤ (pc : Int) + o) (hp : ((pc : Int) + o).toNat = pc') (k : Go p e below F T (mkF m pc' Ls rest)) : Go p e below F T (mkF m pc Ls (.int v :: .int u :: rest)) :=
  k.by fun t r => XS.icmpYes X.st.here X.hx rfl (pc0 := pc) rfl (hb X.hby hd) rfl hc ho hp r
theorem s_icmpF {cd : ClassFile.Cond} {u v : Int32} {o : Int} (X : Wk p l e R s m args below meth c Z a0 EL y bytes ml ret w h0 ws vm0 T h locs cells slots) (hd : decode bytes pc = .ok (.if_icmp cd o, 3)) (hc : if_icmp.holds cd u v = false) (hp : pc + 3 = pc') (k : Go p e below F T (mkF m pc' Ls rest)) : Go p e below F T (mkF m pc Ls (.int v :: .int u :: rest)) := by
  subst hp
  exact k.by fun t r => XS.icmpNo X.st.here X.hx rfl (hb X.hby hd) rfl hc r
theorem s_ifnullT {o : Int} (X : Wk p l e R s m args below meth c Z a0 EL y bytes ml ret w h0 ws vm0 T h locs cells slots) (hd : decode bytes pc = .ok (.ifnull o, 3)) (ho : 0 ≤ (pc : Int) + o) (hp : ((pc : Int) + o).toNat = pc') (k : Go p e below F T (mkF m pc' Ls rest)) : Go p e below F T (mkF m pc Ls (.null :: rest)) :=
  k.by fun t r => XS.ifnullYes X.st.here X.hx rfl (pc0 := pc) rfl (hb X.hby hd) rfl ho hp r
theorem s_ifnullF {o : Int} (X : Wk p l e R s m args below meth c Z a0 EL y bytes ml ret w h0 ws vm0 T h locs cells slots) (hd : decode bytes pc = .ok (.ifnull o, 3)) (hp : pc + 3 = pc') (k : Go p e below F T (mkF m pc' Ls rest)) : Go p e below F T (mkF m pc Ls (.ref a :: rest)) := by
  subst hp
  exact k.by fun t r => XS.ifnullNo X.st.here X.hx rfl (hb X.hby hd) rfl r
theorem s_ifnonnullT {o : Int} (X : Wk p l e R s m args below meth c Z a0 EL y bytes ml ret w h0 ws vm0 T h locs cells slots) (hd : decode bytes pc = .ok (.ifnonnull o, 3)) (ho : 0 ≤ (pc : Int) + o) (hp : ((pc : Int) + o).toNat = pc') (k : Go p e below F T (mkF m pc' Ls rest)) : Go p e below F T (mkF m pc Ls (.ref a :: rest)) :=
  k.by fun t r => XT.ifnonnullYes X.st.here X.hx rfl (pc0 := pc) rfl (hb X.hby hd) rfl ho hp r
theorem s_ifnonnullF {o : Int} (X : Wk p l e R s m args below meth c Z a0 EL y bytes ml ret w h0 ws vm0 T h locs cells slots) (hd : decode bytes pc = .ok (.ifnonnull o, 3)) (hp : pc + 3 = pc') (k : Go p e below F T (mkF m pc' Ls rest)) : Go p e below F T (mkF m pc Ls (.null :: rest)) := by
  subst hp
  exact k.by fun t r => XT.ifnonnullNo X.st.here X.hx rfl (hb X.hby hd) rfl r
theorem s_acmpT {cd : ClassFile.ACond} {u v : Value} {o : Int} (X : Wk p l e R s m args below meth c Z a0 EL y bytes ml ret w h0 ws vm0 T h locs cells slots) (hd : decode bytes pc = .ok (.if_acmp cd o, 3)) (hu : u.isRef = true) (hv : v.isRef = true) (hc : XT.acmp cd u v = true) (ho : 0 ≤ (pc : Int) + o) (hp : ((pc : Int) + o).toNat = pc') (k : Go p e below F T (mkF m pc' Ls rest)) : Go p e below F T (mkF m pc Ls (v :: u :: rest)) :=
  k.by fun t r => XT.acmpYes X.st.here X.hx rfl (pc0 := pc) rfl (hb X.hby hd) rfl hu hv hc ho hp r
theorem s_acmpF {cd : ClassFile.ACond} {u v : Value} {o : Int} (X : Wk p l e R s m args below meth c Z a0 EL y bytes ml ret w h0 ws vm0 T h locs cells slots) (hd : decode bytes pc = .ok (.if_acmp cd o, 3)) (hu : u.isRef = true) (hv : v.isRef = true) (hc : XT.acmp cd u v = false) (hp : pc + 3 = pc') (k : Go p e below F T (mkF m pc' Ls rest)) : Go p e below F T (mkF m pc Ls (v :: u :: rest)) := by
  subst hp
  exact k.by fun t r => XT.acmpNo X.st.here X.hx rfl (hb X.hby hd) rfl hu hv hc r
end Own
end Own
namespace Own
theorem narR {t : FieldType} (ht : t.isReference = true) (v : Value) : narrow t v = v := by cases t <;> first | rfl | cases ht
theorem fitR {t : FieldType} (ht : t.isReference = true) {v : Value} (hv : v.isRef = true) : fits t v = true := by
  rcases ref_cases hv with rfl | ⟨a, rfl⟩ <;> cases t <;> first | rfl | cases ht
end Own

namespace Own
section Str0
variable {p : Program} {l : Launch} {e : Env} {R : Room} {s : State} {m : MethodId} {args : Array Value} {below : List Frame} {meth : Method} {c : Code} {Z : State} {a0 : Array Value} {EL : List (String × Nat)} {y : MethodName} {bytes : ByteArray} {ml : Nat} {ret : Option FieldType} {w : Bool} {h0 : Heap} {ws ws' : List Addr} {vm0 vm1 : Vm} {T T' : State} {h h' h1 : Heap} {locs locs' : List Loc} {cells slots cells' slots' : Nat} {F : State → Option Value → Prop} {pc pc' : Nat} {Ls Ls' : Array Slot} {rest : List Value} {a b x : Addr}
/-- a char that Latin-1 holds -/
def Lat (z : Int32) : Prop := ¬ z < 0 ∧ ¬ (255 : Int32) < z
def lo (z : Int32) : Int32 := z.toInt8.toInt32
theorem lat_mask (x : Int32) : Lat (x &&& (255 : Int32)) := by
  have q := c_and x 255 (by decide)
  have e2 : (255 : Int32).toInt = 255 := by decide
  refine ⟨fun r => ?_, fun r => ?_⟩
  · rw [Int32.lt_iff_toInt_lt] at r; have e1 : (0 : Int32).toInt = 0 := by decide
    omega
  · rw [Int32.lt_iff_toInt_lt] at r; omega
theorem nar_mask (x : Int32) : nar .char (x &&& (255 : Int32)) = (x &&& (255 : Int32)) := i2c_mask x
theorem lat_eq {z : Int32} (q : Lat z) : z &&& 255 = z := by
  have h1 := c_mask z 255 8 (by decide) (by decide)
  have e1 : (0 : Int32).toInt = 0 := by decide
  have e2 : (255 : Int32).toInt = 255 := by decide
  have q1 := q.1; have q2 := q.2
  rw [Int32.lt_iff_toInt_lt] at q1 q2
  apply Int32.toInt_inj.mp
  rw [h1]; omega
theorem nar_chr {z : Int32} (q : Lat z) : nar .char z = z := by
  have e := lat_eq q
  have r := nar_mask z
  rw [e] at r; exact r
theorem i2c_chr {z : Int32} (q : Lat z) : z.toUInt32.toUInt16.toUInt32.toInt32 = z := nar_chr q
theorem s_i2cM {u : Int32} (X : Wk p l e R s m args below meth c Z a0 EL y bytes ml ret w h0 ws vm0 T h locs cells slots) (hd : decode bytes pc = .ok (.i2c, 1)) (hp : pc + 1 = pc') (k : Go p e below F T (mkF m pc' Ls (.int (u &&& (255 : Int32)) :: rest))) : Go p e below F T (mkF m pc Ls (.int (u &&& (255 : Int32)) :: rest)) :=
  s_i2c X hd hp (by rw [i2c_mask]; exact k)
theorem s_i2cR {u : Int32} (X : Wk p l e R s m args below meth c Z a0 EL y bytes ml ret w h0 ws vm0 T h locs cells slots) (hd : decode bytes pc = .ok (.i2c, 1)) (q : Lat u) (hp : pc + 1 = pc') (k : Go p e below F T (mkF m pc' Ls (.int u :: rest))) : Go p e below F T (mkF m pc Ls (.int u :: rest)) :=
  s_i2c X hd hp (by rw [i2c_chr q]; exact k)
theorem s_castoreR {j z n : Int32} {kc : ClassId} {vs : List Value} {dv : Value} (X : Wk p l e R s m args below meth c Z a0 EL y bytes ml ret w h0 ws vm0 T h locs cells slots) (hd : decode bytes pc = .ok (.castore, 1)) (A : Arv Z h a kc .char n vs dv) (hj : ¬ j < 0 ∧ j < n) (i : Nat) (hi : j.toNatClampNeg = i) (hlt : i < vs.length) (hz : nar .char z = z) (Oa : Ok w Z EL h0 ws vm0 h a) (hp : pc + 1 = pc')
    (k : ∀ T' h', Wk p l e R s m args below meth c Z a0 EL y bytes ml ret w h0 ws vm0 T' h' (locs ++ [⟨a, j.toNatClampNeg⟩]) cells slots → Ev w Z EL vm0 h vm0 h' [a] → Arv Z h' a kc .char n (vs.set i (.int z)) dv → Go p e below F T' (mkF m pc' Ls rest)) : Go p e below F T (mkF m pc Ls (.int z :: .int j :: .ref a :: rest)) :=
  s_castore X hd A hj i hi hlt Oa hp (by rw [hz]; exact k)
/-- a String of Latin-1 chars -/
def Str (Z : State) (h : Heap) (a : Addr) (cs : List Int32) : Prop := (∀ c ∈ cs, Lat c) ∧ cs.length ≤ 4000 ∧ Exa Z h a "java/lang/String" ∧ Fld Z h a "java/lang/String" "coder" "B" (.int 0) ∧ ∃ (t : Addr) (kb : ClassId), Fld Z h a "java/lang/String" "value" "[B" (.ref t) ∧ Arv Z h t kb .byte (Int32.ofNat cs.length) ((cs.map lo).map Value.int) (.int 0)
theorem Str.ext {cs : List Int32} (S : Str Z h a cs) (E : Ext h h') : Str Z h' a cs := by
  obtain ⟨h1, h2, h3, h4, t, kb, h5, h6⟩ := S; exact ⟨h1, h2, h3.ext E, h4.ext E, t, kb, h5.ext E, h6.ext E⟩
theorem Str.exa {cs : List Int32} (S : Str Z h a cs) : Exa Z h a "java/lang/String" := S.2.2.1
theorem Str.lt {cs : List Int32} (S : Str Z h a cs) : a < h.size := S.exa.lt
theorem Str.mk {cs : List Int32} {t : Addr} {kb : ClassId} {z : Int32} {vs : List Value} (h1 : (∀ c ∈ cs, Lat c) ∧ (cs.map lo).map Value.int = vs) (h2 : cs.length ≤ 4000 ∧ z = Int32.ofNat cs.length) (E : Exa Z h a "java/lang/String") (C : Fld Z h a "java/lang/String" "coder" "B" (.int 0)) (V : Fld Z h a "java/lang/String" "value" "[B" (.ref t)) (A : Arv Z h t kb .byte z vs (.int 0)) : Str Z h a cs := by
  obtain ⟨q1, rfl⟩ := h1
  obtain ⟨q2, rfl⟩ := h2
  exact ⟨q1, q2, E, C, t, kb, V, A⟩
instance (z : Int32) : Decidable (Lat z) := inferInstanceAs (Decidable (_ ∧ _))
theorem up65 {cs : List Int32} (hq : ∀ c ∈ cs, Lat c) : ∀ c ∈ cs, ¬ c < 0 ∧ ¬ (65535 : Int32) < c := fun c hc => ⟨(hq c hc).1, fun q => (hq c hc).2 (by rw [Int32.lt_iff_toInt_lt] at q ⊢; have e1 : (65535 : Int32).toInt = 65535 := rfl; have e2 : (255 : Int32).toInt = 255 := rfl; omega)⟩
theorem lolo (z : Int32) : z.toInt8.toInt32.toInt8.toInt32 = lo z := by simp [lo]
/-- a String of one char, by its byte -/
theorem str1 {z : Int32} {t : Addr} {kb : ClassId} (hz : Lat z) (E : Exa Z h a "java/lang/String") (C : Fld Z h a "java/lang/String" "coder" "B" (.int 0)) (V : Fld Z h a "java/lang/String" "value" "[B" (.ref t)) (A : Arv Z h t kb .byte (1 : Int32) [(.int z.toInt8.toInt32.toInt8.toInt32)] (.int (0 : Int32))) : Str Z h a [z] := by
  rw [lolo] at A
  exact ⟨fun c hc => by cases List.mem_singleton.mp hc; exact hz, Nat.le_of_ble_eq_true rfl, E, C, t, kb, V, A⟩
/-- an object of another class is written: the String stands as it stood -/
theorem Str.keepE {cs : List Int32} {C : String} {n : Nat} (S : Str Z h a cs) (K : Keep h h' [x]) (E : Exa Z h x C) (hC : C ≠ "java/lang/String") (wi : (Jvm.Cond.instantiable C n).before a0 Z = true) : Str Z h' a cs := by
  obtain ⟨h1, h2, h3, h4, t, kb, h5, h6⟩ := S
  have n1 : a ∉ [x] := ninS (Ne.symm (Exa.ne E h3 hC)) nin0
  have n2 : t ∉ [x] := ninS (Ne.symm (Exa.neArv E h6 wi)) nin0
  exact ⟨h1, h2, h3.keep K, h4.keep K n1, t, kb, h5.keep K n1, h6.keep K n2⟩
/-- a value that is null, or a String of these chars -/
def NStr (Z : State) (h : Heap) (u : Value) : Option (List Int32) → Prop
  | none => u = .null
  | some cs => ∃ r, u = .ref r ∧ Str Z h r cs
theorem NStr.ext {u : Value} {o : Option (List Int32)} (S : NStr Z h u o) (E : Ext h h') : NStr Z h' u o := by
  cases o with
  | none => exact S
  | some cs => obtain ⟨r, e, q⟩ := S; exact ⟨r, e, q.ext E⟩
theorem NStr.keepE {u : Value} {o : Option (List Int32)} {C : String} {n : Nat} (S : NStr Z h u o) (K : Keep h h' [x]) (E : Exa Z h x C) (hC : C ≠ "java/lang/String") (wi : (Jvm.Cond.instantiable C n).before a0 Z = true) : NStr Z h' u o := by
  cases o with
  | none => exact S
  | some cs => obtain ⟨r, e, q⟩ := S; exact ⟨r, e, q.keepE K E hC wi⟩
theorem NStr.isRef {u : Value} {o : Option (List Int32)} (S : NStr Z h u o) : u.isRef = true := by
  cases o with
  | none => cases S; rfl
  | some cs => obtain ⟨r, rfl, q⟩ := S; rfl
theorem NStr.cases {u : Value} {o : Option (List Int32)} (S : NStr Z h u o) : (u = .null ∧ o = none) ∨ ∃ r cs, u = .ref r ∧ o = some cs ∧ Str Z h r cs := by
  cases o with
  | none => exact Or.inl ⟨S, rfl⟩
  | some cs => obtain ⟨r, e, q⟩ := S; exact Or.inr ⟨r, cs, e, rfl, q⟩
end Str0
end Own
namespace Own
section Own2
variable {p : Program} {l : Launch} {e : Env} {R : Room} {s : State} {m : MethodId} {args : Array Value} {below : List Frame} {meth : Method} {c : Code} {Z : State} {a0 : Array Value} {EL : List (String × Nat)} {y : MethodName} {bytes : ByteArray} {ml : Nat} {ret : Option FieldType} {w : Bool} {h0 : Heap} {ws ws' : List Addr} {vm0 vm1 : Vm} {T T' : State} {h h' h1 : Heap} {locs locs' : List Loc} {cells slots cells' slots' : Nat} {F : State → Option Value → Prop} {pc pc' : Nat} {Ls Ls' : Array Slot} {rest : List Value} {a b x : Addr}
/-- System.arraycopy between two arrays of one plain kind -/
theorem s_arraycopy {idx : Nat} {k k' : ClassId} {ty : FieldType} {z z' sp dp nn : Int32} {vs vd us vd' : List Value} {dv dd : Value} (X : Wk p l e R s m args below meth c Z a0 EL y bytes ml ret w h0 ws vm0 T h locs cells slots) (hd : decode bytes pc = .ok (.invokestatic idx, 3)) (w1 : (Jvm.Cond.methodLink y.cls idx Jvm.Stand.acN).before a0 Z = true) (w2 : (Jvm.Cond.native Jvm.Stand.acN).before a0 Z = true) (w3 : (Jvm.Cond.static Jvm.Stand.acN).before a0 Z = true) (w4 : (Jvm.Cond.initialized "java/lang/System").before a0 Z = true)
    (A : Arv Z h a k ty z vs dv) (B : Arv Z h b k' ty z' vd dd) (hty : refKind ty = false) (h1 : ¬ sp < 0) (h2 : ¬ dp < 0) (h3 : ¬ nn < 0) (h4 : sp.toNatClampNeg + nn.toNatClampNeg ≤ z.toNatClampNeg) (h5 : dp.toNatClampNeg + nn.toNatClampNeg ≤ z'.toNatClampNeg)
    (hus : us = (List.range nn.toNatClampNeg).map fun i => vs.getD (sp.toNatClampNeg + i) dv) (hl : dp.toNatClampNeg + nn.toNatClampNeg ≤ vd.length) (hvd : vd.take dp.toNatClampNeg ++ us ++ vd.drop (dp.toNatClampNeg + nn.toNatClampNeg) = vd') (Ob : Ok w Z EL h0 ws vm0 h b)
    (hsz : Ls.size = ml) (W : Nat) (hW : (rest.map fun v => v.category).sum ≤ W) (hf : 1 ≤ R.frames) (hlo : W + (nativeFrameWords "java/lang/System" "arraycopy" 5 + 11) ≤ R.locals) (hp : pc + 3 = pc')
    (kk : ∀ T' h' L, Wk p l e R s m args below meth c Z a0 EL y bytes ml ret w h0 ws vm0 T' h' L cells slots → Ev w Z EL vm0 h vm0 h' [b] → Arv Z h' b k' ty z' vd' dd → Go p e below F T' (mkF m pc' Ls rest)) : Go p e below F T (mkF m pc Ls (.int nn :: .int dp :: .ref b :: .int sp :: .ref a :: rest)) := by
  subst hp hvd
  obtain ⟨T', h', L, X', e', N, K, A', st⟩ := cpA X.st X.hx X.hZ X.hown w1 w2 w3 w4 X.hT A B (Or.inl ⟨rfl, hty⟩) h1 h2 h3 h4 h5 hus hl X.hN Ob.2.1 (g := mkF m pc Ls (.int nn :: .int dp :: .ref b :: .int sp :: .ref a :: rest)) rfl (hsz.trans X.hml.symm) rfl (hb X.hby hd) hf (W := W) (by show 2 * 0 + _ ≤ _; omega) hlo
  have V := X.evK K Ob.one
  exact (kk T' h' L (X.same X' e' N V (Ok.two Ob.one)) V A').by fun t r => st t r
theorem lo_inj {u v : Int32} (hu : Lat u) (hv : Lat v) (h : lo u = lo v) : u = v := by
  have e : ∀ {z : Int32}, Lat z → (lo z).toInt % 256 = z.toInt := fun {z} q => by
    have h1 := (c_i2b z).1
    have q1 := q.1; have q2 := q.2
    rw [Int32.lt_iff_toInt_lt] at q1 q2
    have e1 : (0 : Int32).toInt = 0 := by decide
    have e2 : (255 : Int32).toInt = 255 := by decide
    simp only [lo]
    omega
  apply Int32.toInt_inj.mp
  rw [← e hu, ← e hv, h]
/-- what stands before the first ch -/
def tw : List Int32 → Int32 → List Int32
  | [], _ => []
  | c :: r, ch => if c = ch then [] else c :: tw r ch
theorem tw_nil (ch : Int32) : tw [] ch = [] := rfl
theorem tw_hit {c ch : Int32} {r : List Int32} (h : c = ch) : tw (c :: r) ch = [] := by simp [tw, h]
theorem tw_miss {c ch : Int32} {r : List Int32} (h : ¬ c = ch) : tw (c :: r) ch = c :: tw r ch := by simp [tw, h]
theorem ofNat_toNat {n : Nat} (h : n < 2147483648) : (Int32.ofNat n).toNatClampNeg = n := by
  have hz : (Int32.size : Int) = 4294967296 := by decide
  have h1 : (Int32.ofNat n).toInt = n := by
    rw [Int32.toInt_ofNat']; exact Int.bmod_eq_of_le (by omega) (by omega)
  simp only [Int32.toNatClampNeg, h1]; omega
theorem ofNat_toInt {n : Nat} (h : n < 2147483648) : (Int32.ofNat n).toInt = n := by
  have hz : (Int32.size : Int) = 4294967296 := by decide
  rw [Int32.toInt_ofNat']; exact Int.bmod_eq_of_le (by omega) (by omega)
theorem ofNat_lt {i n : Nat} (hi : i < 2147483648) (hn : n < 2147483648) : Int32.ofNat i < Int32.ofNat n ↔ i < n := by
  rw [Int32.lt_iff_toInt_lt, ofNat_toInt hi, ofNat_toInt hn]; omega
theorem ofNat_nneg {n : Nat} (h : n < 2147483648) : ¬ Int32.ofNat n < 0 := by
  rw [Int32.lt_iff_toInt_lt, ofNat_toInt h]; have e1 : (0 : Int32).toInt = 0 := by decide
  omega
theorem ofNat_succ (n : Nat) : Int32.ofNat n + 1 = Int32.ofNat (n + 1) := by
  apply Int32.toInt_inj.mp
  rw [Int32.toInt_add, Int32.toInt_ofNat', Int32.toInt_ofNat']
  have e1 : (1 : Int32).toInt = 1 := by decide
  rw [e1]
  simp
end Own2
end Own

namespace Own
theorem latN : ∀ c ∈ ([] : List Int32), Lat c := fun _ q => nomatch q
theorem latL {z : Int32} {L : List Int32} (q : Lat z) (r : ∀ c ∈ L, Lat c) : ∀ c ∈ z :: L, Lat c := fun c hc => (List.mem_cons.mp hc).elim (fun e => e ▸ q) (r c)
end Own
namespace Own
section Str1
variable {p : Program} {l : Launch} {e : Env} {R : Room} {s : State} {args : Array Value} {below : List Frame} {Z : State} {a0 : Array Value} {h h' h1 : Heap} {rest : List Value} {a b x : Addr} {len W : Nat} {cs ds : List Int32}
/-- new String(chars) -/
theorem strNew {kC : ClassId} {d v0 c0 : Value} {z N : Int32} {n : Nat} (hZ : Z.Warmed39 s.vm) (hws : ∀ d ∈ StrChars.Road.words, d.before a0 Z = true) (wi : (Jvm.Cond.instantiable "java/lang/String" 4).before a0 Z = true) (hx0 : Z.heap.size ≤ x) (hh0 : Z.heap.size ≤ h.size) (E : Exa Z h x "java/lang/String") (V : Fld Z h x "java/lang/String" "value" "[B" v0) (C : Fld Z h x "java/lang/String" "coder" "B" c0) (K : Arv Z h b kC .char N (cs.map Value.int) d) (S : Sta Z h "java/lang/String" "COMPACT_STRINGS" "Z" (.int z)) (hz : ¬ z = 0)
    (hn : cs.length = n) (hN : N = Int32.ofNat n) (l0 : 0 < n) (l2 : n ≤ 4000) (hp : ∀ c ∈ cs, Lat c) (hfr : 4 ≤ R.frames) (hlo : W + 65 ≤ R.locals) :
    Back l R p e below s args (⟨"java/lang/String", "<init>", "([C)V"⟩ : MethodName) len W (fun P a => a = #[.ref x, .ref b] ∧ P.U.heap = h ∧ P.cells + 1 ≤ R.cells ∧ P.slots + n ≤ R.slots)
      (fun P _ v B => ∃ L, StrChars.Road.QV Z x N (cs.map fun c => c.toInt8.toInt32) h Z.heap.size v B.U.heap L ∧ B.locs = P.locs ++ L ∧ B.cells = P.cells + 1 ∧ B.slots = P.slots + n) :=
  StrChars.Road.backV hZ hws wi hx0 hh0 E V C K S hz hn hN l0 l2 hp rfl hfr hlo
theorem strNewQ {N : Int32} {n : Nat} {v : Option Value} {L : List Loc} (hn : cs.length = n) (hN : N = Int32.ofNat n) (l2 : n ≤ 4000) (hp : ∀ c ∈ cs, Lat c) (q : StrChars.Road.QV Z x N (cs.map fun c => c.toInt8.toInt32) h Z.heap.size v h' L) : Fr Z.heap.size L ∧ Keep h h' [x] ∧ (v = none ∧ Str Z h' x cs) := by
  obtain ⟨q1, q2, q3, q4, q5, t, kb, -, -, -, q6, q7⟩ := q
  subst hn hN
  exact ⟨q2, q3, q1, hp, l2, q4, q5, t, kb, q6, q7⟩
theorem strLen {z : Int32} (hZ : Z.Warmed39 s.vm) (hws : ∀ d ∈ StrChars.Road.wordsLen, d.before a0 Z = true) (wi : (Jvm.Cond.instantiable "java/lang/String" 4).before a0 Z = true) (T : Str Z h x cs) (S : Sta Z h "java/lang/String" "COMPACT_STRINGS" "Z" (.int z)) (hz : ¬ z = 0) (hfr : 2 ≤ R.frames) (hlo : W + 25 ≤ R.locals) :
    Back l R p e below s args (⟨"java/lang/String", "length", "()I"⟩ : MethodName) len W (fun P a => a = #[.ref x] ∧ P.U.heap = h ∧ P.cells + 0 ≤ R.cells ∧ P.slots + 0 ≤ R.slots)
      (fun P _ v B => ∃ L, (v = some (.int (Int32.ofNat cs.length)) ∧ L = [] ∧ B.U.heap = h) ∧ B.locs = P.locs ++ L ∧ B.cells = P.cells + 0 ∧ B.slots = P.slots + 0) := by
  obtain ⟨q1, q2, q3, q4, t, kb, q5, q6⟩ := T
  exact StrChars.Road.lenW hZ hws wi q3 q5 q4 q6 (StrChars.Road.codOf rfl fun c hc => (q1 c hc).2) (up65 q1) S hz q2 hfr hlo
theorem strLenQ {v : Option Value} {L : List Loc} {N : Int32} (hN : Int32.ofNat cs.length = N) (q : v = some (.int (Int32.ofNat cs.length)) ∧ L = [] ∧ h' = h) : Fr Z.heap.size L ∧ Keep h h' [] ∧ (v = some (.int N)) := by
  obtain ⟨rfl, rfl, rfl⟩ := q; exact ⟨Fr.nil _, Keep.refl _ _, by rw [hN]⟩
theorem strAt {z : Int32} {fm : Value} {i : Nat} {j : Int32} (hZ : Z.Warmed39 s.vm) (hws : ∀ d ∈ StrChars.Road.wordsChN, d.before a0 Z = true) (wi : (Jvm.Cond.instantiable "java/lang/String" 4).before a0 Z = true) (T : Str Z h x cs) (S : Sta Z h "java/lang/String" "COMPACT_STRINGS" "Z" (.int z)) (hz : ¬ z = 0) (F : Sta Z h "jdk/internal/util/Preconditions" "SIOOBE_FORMATTER" "Ljava/util/function/BiFunction;" fm) (rf : fm.isRef = true) (hi : i < cs.length) (hj : j = Int32.ofNat i) (hfr : 4 ≤ R.frames) (hlo : W + 53 ≤ R.locals) :
    Back l R p e below s args (⟨"java/lang/String", "charAt", "(I)C"⟩ : MethodName) len W (fun P a => a = #[.ref x, .int j] ∧ P.U.heap = h ∧ P.cells + 0 ≤ R.cells ∧ P.slots + 0 ≤ R.slots)
      (fun P _ v B => ∃ L, (v = some (.int (cs.getD i 0)) ∧ L = [] ∧ B.U.heap = h) ∧ B.locs = P.locs ++ L ∧ B.cells = P.cells + 0 ∧ B.slots = P.slots + 0) := by
  obtain ⟨q1, q2, q3, q4, t, kb, q5, q6⟩ := T
  exact StrChars.Road.chN hZ hws wi q3 q5 q4 q6 (StrChars.Road.codOf rfl fun c hc => (q1 c hc).2) (up65 q1) S hz F rf q2 hi hj hfr hlo
theorem strAtQ {v : Option Value} {L : List Loc} {i : Nat} {z : Int32} (hz : cs.getD i 0 = z) (q : v = some (.int (cs.getD i 0)) ∧ L = [] ∧ h' = h) : Fr Z.heap.size L ∧ Keep h h' [] ∧ (v = some (.int z)) := by
  obtain ⟨rfl, rfl, rfl⟩ := q; exact ⟨Fr.nil _, Keep.refl _ _, by rw [hz]⟩
end Str1
end Own

theorem tw0 {Z : State} {a0 : Array Value} (hw : ∀ d ∈ tables_1, d.before a0 Z = true) : (Jvm.Cond.constant "com/example/fedweave/fedweave/RedirectBindingWithoutFragmentPinLaw" (7 : Nat) (2147483647 : Int32)).before a0 Z = true := hw _ (List.mem_of_getElem? (i := 0) rfl)
theorem tw1 {Z : State} {a0 : Array Value} (hw : ∀ d ∈ tables_1, d.before a0 Z = true) : (Jvm.Cond.methodLink "com/example/fedweave/fedweave/RedirectBindingWithoutFragmentPinLaw" (8 : Nat) ({ cls := "com/example/fedweave/fedweave/RedirectBindingWithoutFragmentPinLaw", name := "ch", desc := "(I)C" } : Jvm.MethodName)).before a0 Z = true := hw _ (List.mem_of_getElem? (i := 1) rfl)
theorem tw2 {Z : State} {a0 : Array Value} (hw : ∀ d ∈ tables_1, d.before a0 Z = true) : (Jvm.Cond.static ({ cls := "com/example/fedweave/fedweave/RedirectBindingWithoutFragmentPinLaw", name := "ch", desc := "(I)C" } : Jvm.MethodName)).before a0 Z = true := hw _ (List.mem_of_getElem? (i := 2) rfl)
theorem tw3 {Z : State} {a0 : Array Value} (hw : ∀ d ∈ tables_1, d.before a0 Z = true) : (Jvm.Cond.initialized "com/example/fedweave/fedweave/RedirectBindingWithoutFragmentPinLaw").before a0 Z = true := hw _ (List.mem_of_getElem? (i := 3) rfl)
theorem tw4 {Z : State} {a0 : Array Value} (hw : ∀ d ∈ tables_1, d.before a0 Z = true) : (Jvm.Cond.code ({ cls := "com/example/fedweave/fedweave/RedirectBindingWithoutFragmentPinLaw", name := "ch", desc := "(I)C" } : Jvm.MethodName) method_2_code (1 : Nat) (Option.some Jvm.ClassFile.FieldType.char)).before a0 Z = true := hw _ (List.mem_of_getElem? (i := 4) rfl)
theorem tw5 {Z : State} {a0 : Array Value} (hw : ∀ d ∈ tables_1, d.before a0 Z = true) : (Jvm.Cond.arrayClass Jvm.ClassFile.FieldType.char).before a0 Z = true := hw _ (List.mem_of_getElem? (i := 5) rfl)
theorem tw6 {Z : State} {a0 : Array Value} (hw : ∀ d ∈ tables_1, d.before a0 Z = true) : (Jvm.Cond.classLink "com/example/fedweave/fedweave/RedirectBindingWithoutFragmentPinLaw" (14 : Nat) "java/lang/String").before a0 Z = true := hw _ (List.mem_of_getElem? (i := 6) rfl)
theorem tw7 {Z : State} {a0 : Array Value} (hw : ∀ d ∈ tables_1, d.before a0 Z = true) : (Jvm.Cond.instantiable "java/lang/String" (4 : Nat)).before a0 Z = true := hw _ (List.mem_of_getElem? (i := 7) rfl)
theorem tw8 {Z : State} {a0 : Array Value} (hw : ∀ d ∈ tables_1, d.before a0 Z = true) : (Jvm.Cond.initialized "java/lang/String").before a0 Z = true := hw _ (List.mem_of_getElem? (i := 8) rfl)
theorem tw9 {Z : State} {a0 : Array Value} (hw : ∀ d ∈ tables_1, d.before a0 Z = true) : (Jvm.Cond.methodLink "com/example/fedweave/fedweave/RedirectBindingWithoutFragmentPinLaw" (16 : Nat) ({ cls := "java/lang/String", name := "<init>", desc := "([C)V" } : Jvm.MethodName)).before a0 Z = true := hw _ (List.mem_of_getElem? (i := 9) rfl)
theorem tw10 {Z : State} {a0 : Array Value} (hw : ∀ d ∈ tables_1, d.before a0 Z = true) : (Jvm.Cond.instanceMethod ({ cls := "java/lang/String", name := "<init>", desc := "([C)V" } : Jvm.MethodName)).before a0 Z = true := hw _ (List.mem_of_getElem? (i := 10) rfl)
theorem tw11 {Z : State} {a0 : Array Value} (hw : ∀ d ∈ tables_1, d.before a0 Z = true) : (Jvm.Cond.code ({ cls := "java/lang/String", name := "<init>", desc := "([C)V" } : Jvm.MethodName) jdk_42_method_3_code (2 : Nat) (Option.none : Option Jvm.ClassFile.FieldType)).before a0 Z = true := hw _ (List.mem_of_getElem? (i := 11) rfl)
theorem tw12 {Z : State} {a0 : Array Value} (hw : ∀ d ∈ tables_1, d.before a0 Z = true) : (Jvm.Cond.methodLink "java/lang/String" (27 : Nat) ({ cls := "java/lang/String", name := "<init>", desc := "([CIILjava/lang/Void;)V" } : Jvm.MethodName)).before a0 Z = true := hw _ (List.mem_of_getElem? (i := 12) rfl)
theorem tw13 {Z : State} {a0 : Array Value} (hw : ∀ d ∈ tables_1, d.before a0 Z = true) : (Jvm.Cond.instanceMethod ({ cls := "java/lang/String", name := "<init>", desc := "([CIILjava/lang/Void;)V" } : Jvm.MethodName)).before a0 Z = true := hw _ (List.mem_of_getElem? (i := 13) rfl)
theorem tw15 {Z : State} {a0 : Array Value} (hw : ∀ d ∈ tables_1, d.before a0 Z = true) : (Jvm.Cond.code ({ cls := "java/lang/String", name := "<init>", desc := "([CIILjava/lang/Void;)V" } : Jvm.MethodName) jdk_42_method_149_code (6 : Nat) (Option.none : Option Jvm.ClassFile.FieldType)).before a0 Z = true := hw _ (List.mem_of_getElem? (i := 15) rfl)
theorem tw16 {Z : State} {a0 : Array Value} (hw : ∀ d ∈ tables_1, d.before a0 Z = true) : (Jvm.Cond.methodLink "java/lang/String" (1 : Nat) ({ cls := "java/lang/Object", name := "<init>", desc := "()V" } : Jvm.MethodName)).before a0 Z = true := hw _ (List.mem_of_getElem? (i := 16) rfl)
theorem tw17 {Z : State} {a0 : Array Value} (hw : ∀ d ∈ tables_1, d.before a0 Z = true) : (Jvm.Cond.instanceMethod ({ cls := "java/lang/Object", name := "<init>", desc := "()V" } : Jvm.MethodName)).before a0 Z = true := hw _ (List.mem_of_getElem? (i := 17) rfl)
theorem tw18 {Z : State} {a0 : Array Value} (hw : ∀ d ∈ tables_1, d.before a0 Z = true) : (Jvm.Cond.code ({ cls := "java/lang/Object", name := "<init>", desc := "()V" } : Jvm.MethodName) object_method_1_code (1 : Nat) (Option.none : Option Jvm.ClassFile.FieldType)).before a0 Z = true := hw _ (List.mem_of_getElem? (i := 18) rfl)
theorem tw19 {Z : State} {a0 : Array Value} (hw : ∀ d ∈ tables_1, d.before a0 Z = true) : (Jvm.Cond.stringLink "java/lang/String" (7 : Nat) "").before a0 Z = true := hw _ (List.mem_of_getElem? (i := 19) rfl)
theorem tw20 {Z : State} {a0 : Array Value} (hw : ∀ d ∈ tables_1, d.before a0 Z = true) : (Jvm.Cond.arrayClass Jvm.ClassFile.FieldType.byte).before a0 Z = true := hw _ (List.mem_of_getElem? (i := 20) rfl)
theorem tw21 {Z : State} {a0 : Array Value} (hw : ∀ d ∈ tables_1, d.before a0 Z = true) : (Jvm.Cond.laysFinal "java/lang/String" "java/lang/String" "value" "[B").before a0 Z = true := hw _ (List.mem_of_getElem? (i := 21) rfl)
theorem tw22 {Z : State} {a0 : Array Value} (hw : ∀ d ∈ tables_1, d.before a0 Z = true) : (Jvm.Cond.laysFinal "java/lang/String" "java/lang/String" "coder" "B").before a0 Z = true := hw _ (List.mem_of_getElem? (i := 22) rfl)
theorem tw25 {Z : State} {a0 : Array Value} (hw : ∀ d ∈ tables_1, d.before a0 Z = true) : (Jvm.Cond.fieldLink "java/lang/String" (9 : Nat) "java/lang/String" "value" "[B").before a0 Z = true := hw _ (List.mem_of_getElem? (i := 25) rfl)
theorem tw26 {Z : State} {a0 : Array Value} (hw : ∀ d ∈ tables_1, d.before a0 Z = true) : (Jvm.Cond.fieldLink "java/lang/String" (15 : Nat) "java/lang/String" "coder" "B").before a0 Z = true := hw _ (List.mem_of_getElem? (i := 26) rfl)
theorem tw27 {Z : State} {a0 : Array Value} (hw : ∀ d ∈ tables_1, d.before a0 Z = true) : (Jvm.Cond.methodLink "com/example/fedweave/fedweave/RedirectBindingWithoutFragmentPinLaw" (19 : Nat) ({ cls := "com/example/fedweave/fedweave/RedirectBinding", name := "withoutFragment", desc := "(Ljava/lang/String;)Ljava/lang/String;" } : Jvm.MethodName)).before a0 Z = true := hw _ (List.mem_of_getElem? (i := 27) rfl)
theorem tw28 {Z : State} {a0 : Array Value} (hw : ∀ d ∈ tables_1, d.before a0 Z = true) : (Jvm.Cond.static ({ cls := "com/example/fedweave/fedweave/RedirectBinding", name := "withoutFragment", desc := "(Ljava/lang/String;)Ljava/lang/String;" } : Jvm.MethodName)).before a0 Z = true := hw _ (List.mem_of_getElem? (i := 28) rfl)
theorem tw29 {Z : State} {a0 : Array Value} (hw : ∀ d ∈ tables_1, d.before a0 Z = true) : (Jvm.Cond.initialized "com/example/fedweave/fedweave/RedirectBinding").before a0 Z = true := hw _ (List.mem_of_getElem? (i := 29) rfl)
theorem tw30 {Z : State} {a0 : Array Value} (hw : ∀ d ∈ tables_1, d.before a0 Z = true) : (Jvm.Cond.code ({ cls := "com/example/fedweave/fedweave/RedirectBinding", name := "withoutFragment", desc := "(Ljava/lang/String;)Ljava/lang/String;" } : Jvm.MethodName) prog_80_method_4_code (2 : Nat) (Option.some (Jvm.ClassFile.FieldType.object "java/lang/String"))).before a0 Z = true := hw _ (List.mem_of_getElem? (i := 30) rfl)
theorem tw31 {Z : State} {a0 : Array Value} (hw : ∀ d ∈ tables_1, d.before a0 Z = true) : (Jvm.Cond.methodLink "com/example/fedweave/fedweave/RedirectBinding" (73 : Nat) ({ cls := "java/lang/String", name := "indexOf", desc := "(I)I" } : Jvm.MethodName)).before a0 Z = true := hw _ (List.mem_of_getElem? (i := 31) rfl)
theorem tw32 {Z : State} {a0 : Array Value} (hw : ∀ d ∈ tables_1, d.before a0 Z = true) : (Jvm.Cond.declares ({ cls := "java/lang/String", name := "indexOf", desc := "(I)I" } : Jvm.MethodName)).before a0 Z = true := hw _ (List.mem_of_getElem? (i := 32) rfl)
theorem tw33 {Z : State} {a0 : Array Value} (hw : ∀ d ∈ tables_1, d.before a0 Z = true) : (Jvm.Cond.instanceMethod ({ cls := "java/lang/String", name := "indexOf", desc := "(I)I" } : Jvm.MethodName)).before a0 Z = true := hw _ (List.mem_of_getElem? (i := 33) rfl)
theorem tw34 {Z : State} {a0 : Array Value} (hw : ∀ d ∈ tables_1, d.before a0 Z = true) : (Jvm.Cond.selects "java/lang/String" ({ cls := "java/lang/String", name := "indexOf", desc := "(I)I" } : Jvm.MethodName) ({ cls := "java/lang/String", name := "indexOf", desc := "(I)I" } : Jvm.MethodName)).before a0 Z = true := hw _ (List.mem_of_getElem? (i := 34) rfl)
theorem tw35 {Z : State} {a0 : Array Value} (hw : ∀ d ∈ tables_1, d.before a0 Z = true) : (Jvm.Cond.code ({ cls := "java/lang/String", name := "indexOf", desc := "(I)I" } : Jvm.MethodName) jdk_42_method_79_code (2 : Nat) (Option.some Jvm.ClassFile.FieldType.int)).before a0 Z = true := hw _ (List.mem_of_getElem? (i := 35) rfl)
theorem tw36 {Z : State} {a0 : Array Value} (hw : ∀ d ∈ tables_1, d.before a0 Z = true) : (Jvm.Cond.methodLink "java/lang/String" (633 : Nat) ({ cls := "java/lang/String", name := "indexOf", desc := "(II)I" } : Jvm.MethodName)).before a0 Z = true := hw _ (List.mem_of_getElem? (i := 36) rfl)
theorem tw37 {Z : State} {a0 : Array Value} (hw : ∀ d ∈ tables_1, d.before a0 Z = true) : (Jvm.Cond.declares ({ cls := "java/lang/String", name := "indexOf", desc := "(II)I" } : Jvm.MethodName)).before a0 Z = true := hw _ (List.mem_of_getElem? (i := 37) rfl)
theorem tw38 {Z : State} {a0 : Array Value} (hw : ∀ d ∈ tables_1, d.before a0 Z = true) : (Jvm.Cond.instanceMethod ({ cls := "java/lang/String", name := "indexOf", desc := "(II)I" } : Jvm.MethodName)).before a0 Z = true := hw _ (List.mem_of_getElem? (i := 38) rfl)
theorem tw39 {Z : State} {a0 : Array Value} (hw : ∀ d ∈ tables_1, d.before a0 Z = true) : (Jvm.Cond.selects "java/lang/String" ({ cls := "java/lang/String", name := "indexOf", desc := "(II)I" } : Jvm.MethodName) ({ cls := "java/lang/String", name := "indexOf", desc := "(II)I" } : Jvm.MethodName)).before a0 Z = true := hw _ (List.mem_of_getElem? (i := 39) rfl)
theorem tw40 {Z : State} {a0 : Array Value} (hw : ∀ d ∈ tables_1, d.before a0 Z = true) : (Jvm.Cond.code ({ cls := "java/lang/String", name := "indexOf", desc := "(II)I" } : Jvm.MethodName) jdk_42_method_80_code (3 : Nat) (Option.some Jvm.ClassFile.FieldType.int)).before a0 Z = true := hw _ (List.mem_of_getElem? (i := 40) rfl)
theorem tw41 {Z : State} {a0 : Array Value} (hw : ∀ d ∈ tables_1, d.before a0 Z = true) : (Jvm.Cond.methodLink "java/lang/String" (492 : Nat) ({ cls := "java/lang/String", name := "isLatin1", desc := "()Z" } : Jvm.MethodName)).before a0 Z = true := hw _ (List.mem_of_getElem? (i := 41) rfl)
theorem tw42 {Z : State} {a0 : Array Value} (hw : ∀ d ∈ tables_1, d.before a0 Z = true) : (Jvm.Cond.declares ({ cls := "java/lang/String", name := "isLatin1", desc := "()Z" } : Jvm.MethodName)).before a0 Z = true := hw _ (List.mem_of_getElem? (i := 42) rfl)
theorem tw43 {Z : State} {a0 : Array Value} (hw : ∀ d ∈ tables_1, d.before a0 Z = true) : (Jvm.Cond.instanceMethod ({ cls := "java/lang/String", name := "isLatin1", desc := "()Z" } : Jvm.MethodName)).before a0 Z = true := hw _ (List.mem_of_getElem? (i := 43) rfl)
theorem tw44 {Z : State} {a0 : Array Value} (hw : ∀ d ∈ tables_1, d.before a0 Z = true) : (Jvm.Cond.selects "java/lang/String" ({ cls := "java/lang/String", name := "isLatin1", desc := "()Z" } : Jvm.MethodName) ({ cls := "java/lang/String", name := "isLatin1", desc := "()Z" } : Jvm.MethodName)).before a0 Z = true := hw _ (List.mem_of_getElem? (i := 44) rfl)
theorem tw45 {Z : State} {a0 : Array Value} (hw : ∀ d ∈ tables_1, d.before a0 Z = true) : (Jvm.Cond.code ({ cls := "java/lang/String", name := "isLatin1", desc := "()Z" } : Jvm.MethodName) jdk_42_method_154_code (1 : Nat) (Option.some Jvm.ClassFile.FieldType.boolean)).before a0 Z = true := hw _ (List.mem_of_getElem? (i := 45) rfl)
theorem tw46 {Z : State} {a0 : Array Value} (hw : ∀ d ∈ tables_1, d.before a0 Z = true) : (Jvm.Cond.fieldLink "java/lang/String" (38 : Nat) "java/lang/String" "COMPACT_STRINGS" "Z").before a0 Z = true := hw _ (List.mem_of_getElem? (i := 46) rfl)
theorem tw47 {Z : State} {a0 : Array Value} (hw : ∀ d ∈ tables_1, d.before a0 Z = true) : (Jvm.Cond.methodLink "java/lang/String" (505 : Nat) ({ cls := "java/lang/String", name := "length", desc := "()I" } : Jvm.MethodName)).before a0 Z = true := hw _ (List.mem_of_getElem? (i := 47) rfl)
theorem tw48 {Z : State} {a0 : Array Value} (hw : ∀ d ∈ tables_1, d.before a0 Z = true) : (Jvm.Cond.declares ({ cls := "java/lang/String", name := "length", desc := "()I" } : Jvm.MethodName)).before a0 Z = true := hw _ (List.mem_of_getElem? (i := 48) rfl)
theorem tw49 {Z : State} {a0 : Array Value} (hw : ∀ d ∈ tables_1, d.before a0 Z = true) : (Jvm.Cond.instanceMethod ({ cls := "java/lang/String", name := "length", desc := "()I" } : Jvm.MethodName)).before a0 Z = true := hw _ (List.mem_of_getElem? (i := 49) rfl)
theorem tw50 {Z : State} {a0 : Array Value} (hw : ∀ d ∈ tables_1, d.before a0 Z = true) : (Jvm.Cond.selects "java/lang/String" ({ cls := "java/lang/String", name := "length", desc := "()I" } : Jvm.MethodName) ({ cls := "java/lang/String", name := "length", desc := "()I" } : Jvm.MethodName)).before a0 Z = true := hw _ (List.mem_of_getElem? (i := 50) rfl)
theorem tw57 {Z : State} {a0 : Array Value} (hw : ∀ d ∈ tables_1, d.before a0 Z = true) : (Jvm.Cond.methodLink "java/lang/String" (637 : Nat) ({ cls := "java/lang/StringLatin1", name := "indexOf", desc := "([BIII)I" } : Jvm.MethodName)).before a0 Z = true := hw _ (List.mem_of_getElem? (i := 57) rfl)
theorem tw58 {Z : State} {a0 : Array Value} (hw : ∀ d ∈ tables_1, d.before a0 Z = true) : (Jvm.Cond.static ({ cls := "java/lang/StringLatin1", name := "indexOf", desc := "([BIII)I" } : Jvm.MethodName)).before a0 Z = true := hw _ (List.mem_of_getElem? (i := 58) rfl)
theorem tw59 {Z : State} {a0 : Array Value} (hw : ∀ d ∈ tables_1, d.before a0 Z = true) : (Jvm.Cond.initialized "java/lang/StringLatin1").before a0 Z = true := hw _ (List.mem_of_getElem? (i := 59) rfl)
theorem tw60 {Z : State} {a0 : Array Value} (hw : ∀ d ∈ tables_1, d.before a0 Z = true) : (Jvm.Cond.code ({ cls := "java/lang/StringLatin1", name := "indexOf", desc := "([BIII)I" } : Jvm.MethodName) jdk_43_method_22_code (4 : Nat) (Option.some Jvm.ClassFile.FieldType.int)).before a0 Z = true := hw _ (List.mem_of_getElem? (i := 60) rfl)
theorem tw61 {Z : State} {a0 : Array Value} (hw : ∀ d ∈ tables_1, d.before a0 Z = true) : (Jvm.Cond.methodLink "java/lang/StringLatin1" (88 : Nat) ({ cls := "java/lang/StringLatin1", name := "canEncode", desc := "(I)Z" } : Jvm.MethodName)).before a0 Z = true := hw _ (List.mem_of_getElem? (i := 61) rfl)
theorem tw62 {Z : State} {a0 : Array Value} (hw : ∀ d ∈ tables_1, d.before a0 Z = true) : (Jvm.Cond.static ({ cls := "java/lang/StringLatin1", name := "canEncode", desc := "(I)Z" } : Jvm.MethodName)).before a0 Z = true := hw _ (List.mem_of_getElem? (i := 62) rfl)
theorem tw63 {Z : State} {a0 : Array Value} (hw : ∀ d ∈ tables_1, d.before a0 Z = true) : (Jvm.Cond.code ({ cls := "java/lang/StringLatin1", name := "canEncode", desc := "(I)Z" } : Jvm.MethodName) jdk_43_method_4_code (1 : Nat) (Option.some Jvm.ClassFile.FieldType.boolean)).before a0 Z = true := hw _ (List.mem_of_getElem? (i := 63) rfl)
theorem tw64 {Z : State} {a0 : Array Value} (hw : ∀ d ∈ tables_1, d.before a0 Z = true) : (Jvm.Cond.methodLink "java/lang/StringLatin1" (92 : Nat) ({ cls := "java/lang/Math", name := "max", desc := "(II)I" } : Jvm.MethodName)).before a0 Z = true := hw _ (List.mem_of_getElem? (i := 64) rfl)
theorem tw65 {Z : State} {a0 : Array Value} (hw : ∀ d ∈ tables_1, d.before a0 Z = true) : (Jvm.Cond.static ({ cls := "java/lang/Math", name := "max", desc := "(II)I" } : Jvm.MethodName)).before a0 Z = true := hw _ (List.mem_of_getElem? (i := 65) rfl)
theorem tw66 {Z : State} {a0 : Array Value} (hw : ∀ d ∈ tables_1, d.before a0 Z = true) : (Jvm.Cond.initialized "java/lang/Math").before a0 Z = true := hw _ (List.mem_of_getElem? (i := 66) rfl)
theorem tw67 {Z : State} {a0 : Array Value} (hw : ∀ d ∈ tables_1, d.before a0 Z = true) : (Jvm.Cond.code ({ cls := "java/lang/Math", name := "max", desc := "(II)I" } : Jvm.MethodName) jdk_29_method_65_code (2 : Nat) (Option.some Jvm.ClassFile.FieldType.int)).before a0 Z = true := hw _ (List.mem_of_getElem? (i := 67) rfl)
theorem tw68 {Z : State} {a0 : Array Value} (hw : ∀ d ∈ tables_1, d.before a0 Z = true) : (Jvm.Cond.methodLink "java/lang/StringLatin1" (38 : Nat) ({ cls := "java/lang/Math", name := "min", desc := "(II)I" } : Jvm.MethodName)).before a0 Z = true := hw _ (List.mem_of_getElem? (i := 68) rfl)
theorem tw69 {Z : State} {a0 : Array Value} (hw : ∀ d ∈ tables_1, d.before a0 Z = true) : (Jvm.Cond.static ({ cls := "java/lang/Math", name := "min", desc := "(II)I" } : Jvm.MethodName)).before a0 Z = true := hw _ (List.mem_of_getElem? (i := 69) rfl)
theorem tw70 {Z : State} {a0 : Array Value} (hw : ∀ d ∈ tables_1, d.before a0 Z = true) : (Jvm.Cond.code ({ cls := "java/lang/Math", name := "min", desc := "(II)I" } : Jvm.MethodName) jdk_29_method_69_code (2 : Nat) (Option.some Jvm.ClassFile.FieldType.int)).before a0 Z = true := hw _ (List.mem_of_getElem? (i := 70) rfl)
theorem tw71 {Z : State} {a0 : Array Value} (hw : ∀ d ∈ tables_1, d.before a0 Z = true) : (Jvm.Cond.methodLink "com/example/fedweave/fedweave/RedirectBindingWithoutFragmentPinLaw" (25 : Nat) ({ cls := "java/lang/String", name := "length", desc := "()I" } : Jvm.MethodName)).before a0 Z = true := hw _ (List.mem_of_getElem? (i := 71) rfl)
theorem tw82 {Z : State} {a0 : Array Value} (hw : ∀ d ∈ tables_1, d.before a0 Z = true) : (Jvm.Cond.methodLink "java/lang/StringLatin1" (95 : Nat) ({ cls := "java/lang/StringLatin1", name := "indexOfChar", desc := "([BIII)I" } : Jvm.MethodName)).before a0 Z = true := hw _ (List.mem_of_getElem? (i := 82) rfl)
theorem tw83 {Z : State} {a0 : Array Value} (hw : ∀ d ∈ tables_1, d.before a0 Z = true) : (Jvm.Cond.static ({ cls := "java/lang/StringLatin1", name := "indexOfChar", desc := "([BIII)I" } : Jvm.MethodName)).before a0 Z = true := hw _ (List.mem_of_getElem? (i := 83) rfl)
theorem tw84 {Z : State} {a0 : Array Value} (hw : ∀ d ∈ tables_1, d.before a0 Z = true) : (Jvm.Cond.code ({ cls := "java/lang/StringLatin1", name := "indexOfChar", desc := "([BIII)I" } : Jvm.MethodName) jdk_43_method_23_code (6 : Nat) (Option.some Jvm.ClassFile.FieldType.int)).before a0 Z = true := hw _ (List.mem_of_getElem? (i := 84) rfl)
theorem tw85 {Z : State} {a0 : Array Value} (hw : ∀ d ∈ tables_1, d.before a0 Z = true) : (Jvm.Cond.methodLink "com/example/fedweave/fedweave/RedirectBindingWithoutFragmentPinLaw" (29 : Nat) ({ cls := "java/lang/String", name := "charAt", desc := "(I)C" } : Jvm.MethodName)).before a0 Z = true := hw _ (List.mem_of_getElem? (i := 85) rfl)
theorem tw86 {Z : State} {a0 : Array Value} (hw : ∀ d ∈ tables_1, d.before a0 Z = true) : (Jvm.Cond.declares ({ cls := "java/lang/String", name := "charAt", desc := "(I)C" } : Jvm.MethodName)).before a0 Z = true := hw _ (List.mem_of_getElem? (i := 86) rfl)
theorem tw87 {Z : State} {a0 : Array Value} (hw : ∀ d ∈ tables_1, d.before a0 Z = true) : (Jvm.Cond.instanceMethod ({ cls := "java/lang/String", name := "charAt", desc := "(I)C" } : Jvm.MethodName)).before a0 Z = true := hw _ (List.mem_of_getElem? (i := 87) rfl)
theorem tw88 {Z : State} {a0 : Array Value} (hw : ∀ d ∈ tables_1, d.before a0 Z = true) : (Jvm.Cond.selects "java/lang/String" ({ cls := "java/lang/String", name := "charAt", desc := "(I)C" } : Jvm.MethodName) ({ cls := "java/lang/String", name := "charAt", desc := "(I)C" } : Jvm.MethodName)).before a0 Z = true := hw _ (List.mem_of_getElem? (i := 88) rfl)
theorem tw96 {Z : State} {a0 : Array Value} (hw : ∀ d ∈ tables_1, d.before a0 Z = true) : (Jvm.Cond.fieldLink "java/lang/String" (1053 : Nat) "jdk/internal/util/Preconditions" "SIOOBE_FORMATTER" "Ljava/util/function/BiFunction;").before a0 Z = true := hw _ (List.mem_of_getElem? (i := 96) rfl)
theorem tw97 {Z : State} {a0 : Array Value} (hw : ∀ d ∈ tables_1, d.before a0 Z = true) : (Jvm.Cond.initialized "jdk/internal/util/Preconditions").before a0 Z = true := hw _ (List.mem_of_getElem? (i := 97) rfl)
theorem tw101 {Z : State} {a0 : Array Value} (hw : ∀ d ∈ tables_1, d.before a0 Z = true) : (Jvm.Cond.methodLink "com/example/fedweave/fedweave/RedirectBinding" (77 : Nat) ({ cls := "java/lang/String", name := "substring", desc := "(II)Ljava/lang/String;" } : Jvm.MethodName)).before a0 Z = true := hw _ (List.mem_of_getElem? (i := 101) rfl)
theorem tw102 {Z : State} {a0 : Array Value} (hw : ∀ d ∈ tables_1, d.before a0 Z = true) : (Jvm.Cond.declares ({ cls := "java/lang/String", name := "substring", desc := "(II)Ljava/lang/String;" } : Jvm.MethodName)).before a0 Z = true := hw _ (List.mem_of_getElem? (i := 102) rfl)
theorem tw103 {Z : State} {a0 : Array Value} (hw : ∀ d ∈ tables_1, d.before a0 Z = true) : (Jvm.Cond.instanceMethod ({ cls := "java/lang/String", name := "substring", desc := "(II)Ljava/lang/String;" } : Jvm.MethodName)).before a0 Z = true := hw _ (List.mem_of_getElem? (i := 103) rfl)
theorem tw104 {Z : State} {a0 : Array Value} (hw : ∀ d ∈ tables_1, d.before a0 Z = true) : (Jvm.Cond.selects "java/lang/String" ({ cls := "java/lang/String", name := "substring", desc := "(II)Ljava/lang/String;" } : Jvm.MethodName) ({ cls := "java/lang/String", name := "substring", desc := "(II)Ljava/lang/String;" } : Jvm.MethodName)).before a0 Z = true := hw _ (List.mem_of_getElem? (i := 104) rfl)
theorem tw105 {Z : State} {a0 : Array Value} (hw : ∀ d ∈ tables_1, d.before a0 Z = true) : (Jvm.Cond.code ({ cls := "java/lang/String", name := "substring", desc := "(II)Ljava/lang/String;" } : Jvm.MethodName) jdk_42_method_92_code (5 : Nat) (Option.some (Jvm.ClassFile.FieldType.object "java/lang/String"))).before a0 Z = true := hw _ (List.mem_of_getElem? (i := 105) rfl)
theorem tw106 {Z : State} {a0 : Array Value} (hw : ∀ d ∈ tables_1, d.before a0 Z = true) : (Jvm.Cond.methodLink "java/lang/String" (521 : Nat) ({ cls := "java/lang/String", name := "checkBoundsBeginEnd", desc := "(III)V" } : Jvm.MethodName)).before a0 Z = true := hw _ (List.mem_of_getElem? (i := 106) rfl)
theorem tw107 {Z : State} {a0 : Array Value} (hw : ∀ d ∈ tables_1, d.before a0 Z = true) : (Jvm.Cond.static ({ cls := "java/lang/String", name := "checkBoundsBeginEnd", desc := "(III)V" } : Jvm.MethodName)).before a0 Z = true := hw _ (List.mem_of_getElem? (i := 107) rfl)
theorem tw108 {Z : State} {a0 : Array Value} (hw : ∀ d ∈ tables_1, d.before a0 Z = true) : (Jvm.Cond.code ({ cls := "java/lang/String", name := "checkBoundsBeginEnd", desc := "(III)V" } : Jvm.MethodName) jdk_42_method_158_code (3 : Nat) (Option.none : Option Jvm.ClassFile.FieldType)).before a0 Z = true := hw _ (List.mem_of_getElem? (i := 108) rfl)
theorem tw109 {Z : State} {a0 : Array Value} (hw : ∀ d ∈ tables_1, d.before a0 Z = true) : (Jvm.Cond.methodLink "java/lang/String" (1062 : Nat) ({ cls := "jdk/internal/util/Preconditions", name := "checkFromToIndex", desc := "(IIILjava/util/function/BiFunction;)I" } : Jvm.MethodName)).before a0 Z = true := hw _ (List.mem_of_getElem? (i := 109) rfl)
theorem tw110 {Z : State} {a0 : Array Value} (hw : ∀ d ∈ tables_1, d.before a0 Z = true) : (Jvm.Cond.static ({ cls := "jdk/internal/util/Preconditions", name := "checkFromToIndex", desc := "(IIILjava/util/function/BiFunction;)I" } : Jvm.MethodName)).before a0 Z = true := hw _ (List.mem_of_getElem? (i := 110) rfl)
theorem tw111 {Z : State} {a0 : Array Value} (hw : ∀ d ∈ tables_1, d.before a0 Z = true) : (Jvm.Cond.code ({ cls := "jdk/internal/util/Preconditions", name := "checkFromToIndex", desc := "(IIILjava/util/function/BiFunction;)I" } : Jvm.MethodName) jdk_41_method_12_code (4 : Nat) (Option.some Jvm.ClassFile.FieldType.int)).before a0 Z = true := hw _ (List.mem_of_getElem? (i := 111) rfl)
theorem tw112 {Z : State} {a0 : Array Value} (hw : ∀ d ∈ tables_1, d.before a0 Z = true) : (Jvm.Cond.methodLink "java/lang/String" (685 : Nat) ({ cls := "java/lang/StringLatin1", name := "newString", desc := "([BII)Ljava/lang/String;" } : Jvm.MethodName)).before a0 Z = true := hw _ (List.mem_of_getElem? (i := 112) rfl)
theorem tw113 {Z : State} {a0 : Array Value} (hw : ∀ d ∈ tables_1, d.before a0 Z = true) : (Jvm.Cond.static ({ cls := "java/lang/StringLatin1", name := "newString", desc := "([BII)Ljava/lang/String;" } : Jvm.MethodName)).before a0 Z = true := hw _ (List.mem_of_getElem? (i := 113) rfl)
theorem tw114 {Z : State} {a0 : Array Value} (hw : ∀ d ∈ tables_1, d.before a0 Z = true) : (Jvm.Cond.code ({ cls := "java/lang/StringLatin1", name := "newString", desc := "([BII)Ljava/lang/String;" } : Jvm.MethodName) jdk_43_method_47_code (3 : Nat) (Option.some (Jvm.ClassFile.FieldType.object "java/lang/String"))).before a0 Z = true := hw _ (List.mem_of_getElem? (i := 114) rfl)
theorem tw115 {Z : State} {a0 : Array Value} (hw : ∀ d ∈ tables_1, d.before a0 Z = true) : (Jvm.Cond.classLink "java/lang/StringLatin1" (1 : Nat) "java/lang/String").before a0 Z = true := hw _ (List.mem_of_getElem? (i := 115) rfl)
theorem tw116 {Z : State} {a0 : Array Value} (hw : ∀ d ∈ tables_1, d.before a0 Z = true) : (Jvm.Cond.methodLink "java/lang/StringLatin1" (232 : Nat) ({ cls := "java/util/Arrays", name := "copyOfRange", desc := "([BII)[B" } : Jvm.MethodName)).before a0 Z = true := hw _ (List.mem_of_getElem? (i := 116) rfl)
theorem tw117 {Z : State} {a0 : Array Value} (hw : ∀ d ∈ tables_1, d.before a0 Z = true) : (Jvm.Cond.static ({ cls := "java/util/Arrays", name := "copyOfRange", desc := "([BII)[B" } : Jvm.MethodName)).before a0 Z = true := hw _ (List.mem_of_getElem? (i := 117) rfl)
theorem tw118 {Z : State} {a0 : Array Value} (hw : ∀ d ∈ tables_1, d.before a0 Z = true) : (Jvm.Cond.initialized "java/util/Arrays").before a0 Z = true := hw _ (List.mem_of_getElem? (i := 118) rfl)
theorem tw119 {Z : State} {a0 : Array Value} (hw : ∀ d ∈ tables_1, d.before a0 Z = true) : (Jvm.Cond.code ({ cls := "java/util/Arrays", name := "copyOfRange", desc := "([BII)[B" } : Jvm.MethodName) jdk_65_method_132_code (3 : Nat) (Option.some (Jvm.ClassFile.FieldType.array Jvm.ClassFile.FieldType.byte))).before a0 Z = true := hw _ (List.mem_of_getElem? (i := 119) rfl)
theorem tw120 {Z : State} {a0 : Array Value} (hw : ∀ d ∈ tables_1, d.before a0 Z = true) : (Jvm.Cond.methodLink "java/util/Arrays" (339 : Nat) ({ cls := "java/util/Arrays", name := "copyOfRangeByte", desc := "([BII)[B" } : Jvm.MethodName)).before a0 Z = true := hw _ (List.mem_of_getElem? (i := 120) rfl)
theorem tw121 {Z : State} {a0 : Array Value} (hw : ∀ d ∈ tables_1, d.before a0 Z = true) : (Jvm.Cond.static ({ cls := "java/util/Arrays", name := "copyOfRangeByte", desc := "([BII)[B" } : Jvm.MethodName)).before a0 Z = true := hw _ (List.mem_of_getElem? (i := 121) rfl)
theorem tw122 {Z : State} {a0 : Array Value} (hw : ∀ d ∈ tables_1, d.before a0 Z = true) : (Jvm.Cond.code ({ cls := "java/util/Arrays", name := "copyOfRangeByte", desc := "([BII)[B" } : Jvm.MethodName) jdk_65_method_133_code (5 : Nat) (Option.some (Jvm.ClassFile.FieldType.array Jvm.ClassFile.FieldType.byte))).before a0 Z = true := hw _ (List.mem_of_getElem? (i := 122) rfl)
theorem tw123 {Z : State} {a0 : Array Value} (hw : ∀ d ∈ tables_1, d.before a0 Z = true) : (Jvm.Cond.methodLink "java/util/Arrays" (343 : Nat) ({ cls := "java/util/Arrays", name := "checkLength", desc := "(II)V" } : Jvm.MethodName)).before a0 Z = true := hw _ (List.mem_of_getElem? (i := 123) rfl)
theorem tw124 {Z : State} {a0 : Array Value} (hw : ∀ d ∈ tables_1, d.before a0 Z = true) : (Jvm.Cond.static ({ cls := "java/util/Arrays", name := "checkLength", desc := "(II)V" } : Jvm.MethodName)).before a0 Z = true := hw _ (List.mem_of_getElem? (i := 124) rfl)
theorem tw125 {Z : State} {a0 : Array Value} (hw : ∀ d ∈ tables_1, d.before a0 Z = true) : (Jvm.Cond.code ({ cls := "java/util/Arrays", name := "checkLength", desc := "(II)V" } : Jvm.MethodName) jdk_65_method_131_code (2 : Nat) (Option.none : Option Jvm.ClassFile.FieldType)).before a0 Z = true := hw _ (List.mem_of_getElem? (i := 125) rfl)
theorem tw126 {Z : State} {a0 : Array Value} (hw : ∀ d ∈ tables_1, d.before a0 Z = true) : (Jvm.Cond.methodLink "java/util/Arrays" (304 : Nat) ({ cls := "java/lang/Math", name := "min", desc := "(II)I" } : Jvm.MethodName)).before a0 Z = true := hw _ (List.mem_of_getElem? (i := 126) rfl)
theorem tw127 {Z : State} {a0 : Array Value} (hw : ∀ d ∈ tables_1, d.before a0 Z = true) : (Jvm.Cond.methodLink "java/util/Arrays" (150 : Nat) ({ cls := "java/lang/System", name := "arraycopy", desc := "(Ljava/lang/Object;ILjava/lang/Object;II)V" } : Jvm.MethodName)).before a0 Z = true := hw _ (List.mem_of_getElem? (i := 127) rfl)
theorem tw128 {Z : State} {a0 : Array Value} (hw : ∀ d ∈ tables_1, d.before a0 Z = true) : (Jvm.Cond.static ({ cls := "java/lang/System", name := "arraycopy", desc := "(Ljava/lang/Object;ILjava/lang/Object;II)V" } : Jvm.MethodName)).before a0 Z = true := hw _ (List.mem_of_getElem? (i := 128) rfl)
theorem tw129 {Z : State} {a0 : Array Value} (hw : ∀ d ∈ tables_1, d.before a0 Z = true) : (Jvm.Cond.initialized "java/lang/System").before a0 Z = true := hw _ (List.mem_of_getElem? (i := 129) rfl)
theorem tw130 {Z : State} {a0 : Array Value} (hw : ∀ d ∈ tables_1, d.before a0 Z = true) : (Jvm.Cond.native ({ cls := "java/lang/System", name := "arraycopy", desc := "(Ljava/lang/Object;ILjava/lang/Object;II)V" } : Jvm.MethodName)).before a0 Z = true := hw _ (List.mem_of_getElem? (i := 130) rfl)
theorem tw131 {Z : State} {a0 : Array Value} (hw : ∀ d ∈ tables_1, d.before a0 Z = true) : (Jvm.Cond.methodLink "java/lang/StringLatin1" (112 : Nat) ({ cls := "java/lang/String", name := "<init>", desc := "([BB)V" } : Jvm.MethodName)).before a0 Z = true := hw _ (List.mem_of_getElem? (i := 131) rfl)
theorem tw132 {Z : State} {a0 : Array Value} (hw : ∀ d ∈ tables_1, d.before a0 Z = true) : (Jvm.Cond.instanceMethod ({ cls := "java/lang/String", name := "<init>", desc := "([BB)V" } : Jvm.MethodName)).before a0 Z = true := hw _ (List.mem_of_getElem? (i := 132) rfl)
theorem tw133 {Z : State} {a0 : Array Value} (hw : ∀ d ∈ tables_1, d.before a0 Z = true) : (Jvm.Cond.code ({ cls := "java/lang/String", name := "<init>", desc := "([BB)V" } : Jvm.MethodName) jdk_42_method_151_code (3 : Nat) (Option.none : Option Jvm.ClassFile.FieldType)).before a0 Z = true := hw _ (List.mem_of_getElem? (i := 133) rfl)
theorem tw134 {Z : State} {a0 : Array Value} (hw : ∀ d ∈ tables_1, d.before a0 Z = true) : (Jvm.Cond.stringLink "java/lang/StringLatin1" (151 : Nat) "").before a0 Z = true := hw _ (List.mem_of_getElem? (i := 134) rfl)
theorem dc_jdk_42_method_149_0 : decode jdk_42_method_149_code 0 = .ok (.aload_n 0, 1) := by decide +kernel
theorem dc_jdk_42_method_149_1 : decode jdk_42_method_149_code 1 = .ok (.invokespecial 1, 3) := by decide +kernel
theorem dc_jdk_42_method_149_4 : decode jdk_42_method_149_code 4 = .ok (.iload_n 3, 1) := by decide +kernel
theorem dc_jdk_42_method_149_5 : decode jdk_42_method_149_code 5 = .ok (.ifCond .ne 22, 3) := by decide +kernel
theorem dc_jdk_42_method_149_8 : decode jdk_42_method_149_code 8 = .ok (.aload_n 0, 1) := by decide +kernel
theorem dc_jdk_42_method_149_9 : decode jdk_42_method_149_code 9 = .ok (.ldc 7, 2) := by decide +kernel
theorem dc_jdk_42_method_149_11 : decode jdk_42_method_149_code 11 = .ok (.getfield 9, 3) := by decide +kernel
theorem dc_jdk_42_method_149_14 : decode jdk_42_method_149_code 14 = .ok (.putfield 9, 3) := by decide +kernel
theorem dc_jdk_42_method_149_17 : decode jdk_42_method_149_code 17 = .ok (.aload_n 0, 1) := by decide +kernel
theorem dc_jdk_42_method_149_18 : decode jdk_42_method_149_code 18 = .ok (.ldc 7, 2) := by decide +kernel
theorem dc_jdk_42_method_149_20 : decode jdk_42_method_149_code 20 = .ok (.getfield 15, 3) := by decide +kernel
theorem dc_jdk_42_method_149_23 : decode jdk_42_method_149_code 23 = .ok (.putfield 15, 3) := by decide +kernel
theorem dc_jdk_42_method_149_26 : decode jdk_42_method_149_code 26 = .ok (.return_, 1) := by decide +kernel
theorem dc_jdk_42_method_3_0 : decode jdk_42_method_3_code 0 = .ok (.aload_n 0, 1) := by decide +kernel
theorem dc_jdk_42_method_3_1 : decode jdk_42_method_3_code 1 = .ok (.aload_n 1, 1) := by decide +kernel
theorem dc_jdk_42_method_3_2 : decode jdk_42_method_3_code 2 = .ok (.iconst 0, 1) := by decide +kernel
theorem dc_jdk_42_method_3_3 : decode jdk_42_method_3_code 3 = .ok (.aload_n 1, 1) := by decide +kernel
theorem dc_jdk_42_method_3_4 : decode jdk_42_method_3_code 4 = .ok (.arraylength, 1) := by decide +kernel
theorem dc_jdk_42_method_3_5 : decode jdk_42_method_3_code 5 = .ok (.aconst_null, 1) := by decide +kernel
theorem dc_jdk_42_method_3_6 : decode jdk_42_method_3_code 6 = .ok (.invokespecial 27, 3) := by decide +kernel
theorem dc_jdk_42_method_3_9 : decode jdk_42_method_3_code 9 = .ok (.return_, 1) := by decide +kernel
theorem dc_jdk_42_method_154_0 : decode jdk_42_method_154_code 0 = .ok (.getstatic 38, 3) := by decide +kernel
theorem dc_jdk_42_method_154_3 : decode jdk_42_method_154_code 3 = .ok (.ifCond .eq 14, 3) := by decide +kernel
theorem dc_jdk_42_method_154_6 : decode jdk_42_method_154_code 6 = .ok (.aload_n 0, 1) := by decide +kernel
theorem dc_jdk_42_method_154_7 : decode jdk_42_method_154_code 7 = .ok (.getfield 15, 3) := by decide +kernel
theorem dc_jdk_42_method_154_10 : decode jdk_42_method_154_code 10 = .ok (.ifCond .ne 7, 3) := by decide +kernel
theorem dc_jdk_42_method_154_13 : decode jdk_42_method_154_code 13 = .ok (.iconst 1, 1) := by decide +kernel
theorem dc_jdk_42_method_154_14 : decode jdk_42_method_154_code 14 = .ok (.goto 4, 3) := by decide +kernel
theorem dc_jdk_42_method_154_18 : decode jdk_42_method_154_code 18 = .ok (.ireturn, 1) := by decide +kernel
theorem dc_jdk_29_method_65_0 : decode jdk_29_method_65_code 0 = .ok (.iload_n 0, 1) := by decide +kernel
theorem dc_jdk_29_method_65_1 : decode jdk_29_method_65_code 1 = .ok (.iload_n 1, 1) := by decide +kernel
theorem dc_jdk_29_method_65_2 : decode jdk_29_method_65_code 2 = .ok (.if_icmp .lt 7, 3) := by decide +kernel
theorem dc_jdk_29_method_65_5 : decode jdk_29_method_65_code 5 = .ok (.iload_n 0, 1) := by decide +kernel
theorem dc_jdk_29_method_65_6 : decode jdk_29_method_65_code 6 = .ok (.goto 4, 3) := by decide +kernel
theorem dc_jdk_29_method_65_10 : decode jdk_29_method_65_code 10 = .ok (.ireturn, 1) := by decide +kernel
theorem dc_jdk_29_method_69_0 : decode jdk_29_method_69_code 0 = .ok (.iload_n 0, 1) := by decide +kernel
theorem dc_jdk_29_method_69_1 : decode jdk_29_method_69_code 1 = .ok (.iload_n 1, 1) := by decide +kernel
theorem dc_jdk_29_method_69_2 : decode jdk_29_method_69_code 2 = .ok (.if_icmp .gt 7, 3) := by decide +kernel
theorem dc_jdk_29_method_69_5 : decode jdk_29_method_69_code 5 = .ok (.iload_n 0, 1) := by decide +kernel
theorem dc_jdk_29_method_69_6 : decode jdk_29_method_69_code 6 = .ok (.goto 4, 3) := by decide +kernel
theorem dc_jdk_29_method_69_10 : decode jdk_29_method_69_code 10 = .ok (.ireturn, 1) := by decide +kernel
theorem dc_jdk_43_method_4_0 : decode jdk_43_method_4_code 0 = .ok (.iload_n 0, 1) := by decide +kernel
theorem dc_jdk_43_method_4_1 : decode jdk_43_method_4_code 1 = .ok (.ifCond .lt 14, 3) := by decide +kernel
theorem dc_jdk_43_method_4_4 : decode jdk_43_method_4_code 4 = .ok (.iload_n 0, 1) := by decide +kernel
theorem dc_jdk_43_method_4_5 : decode jdk_43_method_4_code 5 = .ok (.sipush 255, 3) := by decide +kernel
theorem dc_jdk_43_method_4_8 : decode jdk_43_method_4_code 8 = .ok (.if_icmp .gt 7, 3) := by decide +kernel
theorem dc_jdk_43_method_4_11 : decode jdk_43_method_4_code 11 = .ok (.iconst 1, 1) := by decide +kernel
theorem dc_jdk_43_method_4_12 : decode jdk_43_method_4_code 12 = .ok (.goto 4, 3) := by decide +kernel
theorem dc_jdk_43_method_4_16 : decode jdk_43_method_4_code 16 = .ok (.ireturn, 1) := by decide +kernel
theorem dc_jdk_43_method_23_7 : decode jdk_43_method_23_code 7 = .ok (.iload 5, 2) := by decide +kernel
theorem dc_jdk_43_method_23_9 : decode jdk_43_method_23_code 9 = .ok (.iload_n 3, 1) := by decide +kernel
theorem dc_jdk_43_method_23_10 : decode jdk_43_method_23_code 10 = .ok (.if_icmp .ge 21, 3) := by decide +kernel
theorem dc_jdk_43_method_23_13 : decode jdk_43_method_23_code 13 = .ok (.aload_n 0, 1) := by decide +kernel
theorem dc_jdk_43_method_23_14 : decode jdk_43_method_23_code 14 = .ok (.iload 5, 2) := by decide +kernel
theorem dc_jdk_43_method_23_16 : decode jdk_43_method_23_code 16 = .ok (.baload, 1) := by decide +kernel
theorem dc_jdk_43_method_23_17 : decode jdk_43_method_23_code 17 = .ok (.iload 4, 2) := by decide +kernel
theorem dc_jdk_43_method_23_19 : decode jdk_43_method_23_code 19 = .ok (.if_icmp .ne 6, 3) := by decide +kernel
theorem dc_jdk_43_method_23_22 : decode jdk_43_method_23_code 22 = .ok (.iload 5, 2) := by decide +kernel
theorem dc_jdk_43_method_23_24 : decode jdk_43_method_23_code 24 = .ok (.ireturn, 1) := by decide +kernel
theorem dc_jdk_43_method_23_25 : decode jdk_43_method_23_code 25 = .ok (.iinc 5 1, 3) := by decide +kernel
theorem dc_jdk_43_method_23_28 : decode jdk_43_method_23_code 28 = .ok (.goto (-21), 3) := by decide +kernel
theorem dc_jdk_43_method_23_31 : decode jdk_43_method_23_code 31 = .ok (.iconst (-1), 1) := by decide +kernel
theorem dc_jdk_43_method_23_32 : decode jdk_43_method_23_code 32 = .ok (.ireturn, 1) := by decide +kernel
theorem dc_jdk_43_method_23_0 : decode jdk_43_method_23_code 0 = .ok (.iload_n 1, 1) := by decide +kernel
theorem dc_jdk_43_method_23_1 : decode jdk_43_method_23_code 1 = .ok (.i2b, 1) := by decide +kernel
theorem dc_jdk_43_method_23_2 : decode jdk_43_method_23_code 2 = .ok (.istore 4, 2) := by decide +kernel
theorem dc_jdk_43_method_23_4 : decode jdk_43_method_23_code 4 = .ok (.iload_n 2, 1) := by decide +kernel
theorem dc_jdk_43_method_23_5 : decode jdk_43_method_23_code 5 = .ok (.istore 5, 2) := by decide +kernel
theorem dc_jdk_43_method_22_0 : decode jdk_43_method_22_code 0 = .ok (.iload_n 1, 1) := by decide +kernel
theorem dc_jdk_43_method_22_1 : decode jdk_43_method_22_code 1 = .ok (.invokestatic 88, 3) := by decide +kernel
theorem dc_jdk_43_method_22_4 : decode jdk_43_method_22_code 4 = .ok (.ifCond .ne 5, 3) := by decide +kernel
theorem dc_jdk_43_method_22_9 : decode jdk_43_method_22_code 9 = .ok (.iload_n 2, 1) := by decide +kernel
theorem dc_jdk_43_method_22_10 : decode jdk_43_method_22_code 10 = .ok (.iconst 0, 1) := by decide +kernel
theorem dc_jdk_43_method_22_11 : decode jdk_43_method_22_code 11 = .ok (.invokestatic 92, 3) := by decide +kernel
theorem dc_jdk_43_method_22_14 : decode jdk_43_method_22_code 14 = .ok (.istore_n 2, 1) := by decide +kernel
theorem dc_jdk_43_method_22_15 : decode jdk_43_method_22_code 15 = .ok (.iload_n 3, 1) := by decide +kernel
theorem dc_jdk_43_method_22_16 : decode jdk_43_method_22_code 16 = .ok (.aload_n 0, 1) := by decide +kernel
theorem dc_jdk_43_method_22_17 : decode jdk_43_method_22_code 17 = .ok (.arraylength, 1) := by decide +kernel
theorem dc_jdk_43_method_22_18 : decode jdk_43_method_22_code 18 = .ok (.invokestatic 38, 3) := by decide +kernel
theorem dc_jdk_43_method_22_21 : decode jdk_43_method_22_code 21 = .ok (.istore_n 3, 1) := by decide +kernel
theorem dc_jdk_43_method_22_22 : decode jdk_43_method_22_code 22 = .ok (.iload_n 2, 1) := by decide +kernel
theorem dc_jdk_43_method_22_23 : decode jdk_43_method_22_code 23 = .ok (.iload_n 3, 1) := by decide +kernel
theorem dc_jdk_43_method_22_24 : decode jdk_43_method_22_code 24 = .ok (.if_icmp .lt 5, 3) := by decide +kernel
theorem dc_jdk_43_method_22_29 : decode jdk_43_method_22_code 29 = .ok (.aload_n 0, 1) := by decide +kernel
theorem dc_jdk_43_method_22_30 : decode jdk_43_method_22_code 30 = .ok (.iload_n 1, 1) := by decide +kernel
theorem dc_jdk_43_method_22_31 : decode jdk_43_method_22_code 31 = .ok (.iload_n 2, 1) := by decide +kernel
theorem dc_jdk_43_method_22_32 : decode jdk_43_method_22_code 32 = .ok (.iload_n 3, 1) := by decide +kernel
theorem dc_jdk_43_method_22_33 : decode jdk_43_method_22_code 33 = .ok (.invokestatic 95, 3) := by decide +kernel
theorem dc_jdk_43_method_22_36 : decode jdk_43_method_22_code 36 = .ok (.ireturn, 1) := by decide +kernel
theorem dc_jdk_43_method_22_27 : decode jdk_43_method_22_code 27 = .ok (.iconst (-1), 1) := by decide +kernel
theorem dc_jdk_43_method_22_28 : decode jdk_43_method_22_code 28 = .ok (.ireturn, 1) := by decide +kernel
theorem dc_jdk_42_method_80_0 : decode jdk_42_method_80_code 0 = .ok (.aload_n 0, 1) := by decide +kernel
theorem dc_jdk_42_method_80_1 : decode jdk_42_method_80_code 1 = .ok (.invokevirtual 492, 3) := by decide +kernel
theorem dc_jdk_42_method_80_4 : decode jdk_42_method_80_code 4 = .ok (.ifCond .eq 19, 3) := by decide +kernel
theorem dc_jdk_42_method_80_7 : decode jdk_42_method_80_code 7 = .ok (.aload_n 0, 1) := by decide +kernel
theorem dc_jdk_42_method_80_8 : decode jdk_42_method_80_code 8 = .ok (.getfield 9, 3) := by decide +kernel
theorem dc_jdk_42_method_80_11 : decode jdk_42_method_80_code 11 = .ok (.iload_n 1, 1) := by decide +kernel
theorem dc_jdk_42_method_80_12 : decode jdk_42_method_80_code 12 = .ok (.iload_n 2, 1) := by decide +kernel
theorem dc_jdk_42_method_80_13 : decode jdk_42_method_80_code 13 = .ok (.aload_n 0, 1) := by decide +kernel
theorem dc_jdk_42_method_80_14 : decode jdk_42_method_80_code 14 = .ok (.invokevirtual 505, 3) := by decide +kernel
theorem dc_jdk_42_method_80_17 : decode jdk_42_method_80_code 17 = .ok (.invokestatic 637, 3) := by decide +kernel
theorem dc_jdk_42_method_80_20 : decode jdk_42_method_80_code 20 = .ok (.goto 16, 3) := by decide +kernel
theorem dc_jdk_42_method_80_36 : decode jdk_42_method_80_code 36 = .ok (.ireturn, 1) := by decide +kernel
theorem dc_jdk_42_method_79_0 : decode jdk_42_method_79_code 0 = .ok (.aload_n 0, 1) := by decide +kernel
theorem dc_jdk_42_method_79_1 : decode jdk_42_method_79_code 1 = .ok (.iload_n 1, 1) := by decide +kernel
theorem dc_jdk_42_method_79_2 : decode jdk_42_method_79_code 2 = .ok (.iconst 0, 1) := by decide +kernel
theorem dc_jdk_42_method_79_3 : decode jdk_42_method_79_code 3 = .ok (.invokevirtual 633, 3) := by decide +kernel
theorem dc_jdk_42_method_79_6 : decode jdk_42_method_79_code 6 = .ok (.ireturn, 1) := by decide +kernel
theorem dc_jdk_41_method_12_0 : decode jdk_41_method_12_code 0 = .ok (.iload_n 0, 1) := by decide +kernel
theorem dc_jdk_41_method_12_1 : decode jdk_41_method_12_code 1 = .ok (.ifCond .lt 13, 3) := by decide +kernel
theorem dc_jdk_41_method_12_4 : decode jdk_41_method_12_code 4 = .ok (.iload_n 0, 1) := by decide +kernel
theorem dc_jdk_41_method_12_5 : decode jdk_41_method_12_code 5 = .ok (.iload_n 1, 1) := by decide +kernel
theorem dc_jdk_41_method_12_6 : decode jdk_41_method_12_code 6 = .ok (.if_icmp .gt 8, 3) := by decide +kernel
theorem dc_jdk_41_method_12_9 : decode jdk_41_method_12_code 9 = .ok (.iload_n 1, 1) := by decide +kernel
theorem dc_jdk_41_method_12_10 : decode jdk_41_method_12_code 10 = .ok (.iload_n 2, 1) := by decide +kernel
theorem dc_jdk_41_method_12_11 : decode jdk_41_method_12_code 11 = .ok (.if_icmp .le 11, 3) := by decide +kernel
theorem dc_jdk_41_method_12_22 : decode jdk_41_method_12_code 22 = .ok (.iload_n 0, 1) := by decide +kernel
theorem dc_jdk_41_method_12_23 : decode jdk_41_method_12_code 23 = .ok (.ireturn, 1) := by decide +kernel
theorem dc_jdk_42_method_158_0 : decode jdk_42_method_158_code 0 = .ok (.iload_n 0, 1) := by decide +kernel
theorem dc_jdk_42_method_158_1 : decode jdk_42_method_158_code 1 = .ok (.iload_n 1, 1) := by decide +kernel
theorem dc_jdk_42_method_158_2 : decode jdk_42_method_158_code 2 = .ok (.iload_n 2, 1) := by decide +kernel
theorem dc_jdk_42_method_158_3 : decode jdk_42_method_158_code 3 = .ok (.getstatic 1053, 3) := by decide +kernel
theorem dc_jdk_42_method_158_6 : decode jdk_42_method_158_code 6 = .ok (.invokestatic 1062, 3) := by decide +kernel
theorem dc_jdk_42_method_158_9 : decode jdk_42_method_158_code 9 = .ok (.pop, 1) := by decide +kernel
theorem dc_jdk_42_method_158_10 : decode jdk_42_method_158_code 10 = .ok (.return_, 1) := by decide +kernel
theorem dc_jdk_65_method_131_0 : decode jdk_65_method_131_code 0 = .ok (.iload_n 1, 1) := by decide +kernel
theorem dc_jdk_65_method_131_1 : decode jdk_65_method_131_code 1 = .ok (.iload_n 0, 1) := by decide +kernel
theorem dc_jdk_65_method_131_2 : decode jdk_65_method_131_code 2 = .ok (.if_icmp .ge 35, 3) := by decide +kernel
theorem dc_jdk_65_method_131_37 : decode jdk_65_method_131_code 37 = .ok (.return_, 1) := by decide +kernel
theorem dc_jdk_29_method_69_9 : decode jdk_29_method_69_code 9 = .ok (.iload_n 1, 1) := by decide +kernel
theorem dc_jdk_65_method_133_0 : decode jdk_65_method_133_code 0 = .ok (.iload_n 1, 1) := by decide +kernel
theorem dc_jdk_65_method_133_1 : decode jdk_65_method_133_code 1 = .ok (.iload_n 2, 1) := by decide +kernel
theorem dc_jdk_65_method_133_2 : decode jdk_65_method_133_code 2 = .ok (.invokestatic 343, 3) := by decide +kernel
theorem dc_jdk_65_method_133_5 : decode jdk_65_method_133_code 5 = .ok (.iload_n 2, 1) := by decide +kernel
theorem dc_jdk_65_method_133_6 : decode jdk_65_method_133_code 6 = .ok (.iload_n 1, 1) := by decide +kernel
theorem dc_jdk_65_method_133_7 : decode jdk_65_method_133_code 7 = .ok (.isub, 1) := by decide +kernel
theorem dc_jdk_65_method_133_8 : decode jdk_65_method_133_code 8 = .ok (.istore_n 3, 1) := by decide +kernel
theorem dc_jdk_65_method_133_9 : decode jdk_65_method_133_code 9 = .ok (.iload_n 3, 1) := by decide +kernel
theorem dc_jdk_65_method_133_10 : decode jdk_65_method_133_code 10 = .ok (.newarray .byte, 2) := by decide +kernel
theorem dc_jdk_65_method_133_12 : decode jdk_65_method_133_code 12 = .ok (.astore 4, 2) := by decide +kernel
theorem dc_jdk_65_method_133_14 : decode jdk_65_method_133_code 14 = .ok (.aload_n 0, 1) := by decide +kernel
theorem dc_jdk_65_method_133_15 : decode jdk_65_method_133_code 15 = .ok (.iload_n 1, 1) := by decide +kernel
theorem dc_jdk_65_method_133_16 : decode jdk_65_method_133_code 16 = .ok (.aload 4, 2) := by decide +kernel
theorem dc_jdk_65_method_133_18 : decode jdk_65_method_133_code 18 = .ok (.iconst 0, 1) := by decide +kernel
theorem dc_jdk_65_method_133_19 : decode jdk_65_method_133_code 19 = .ok (.aload_n 0, 1) := by decide +kernel
theorem dc_jdk_65_method_133_20 : decode jdk_65_method_133_code 20 = .ok (.arraylength, 1) := by decide +kernel
theorem dc_jdk_65_method_133_21 : decode jdk_65_method_133_code 21 = .ok (.iload_n 1, 1) := by decide +kernel
theorem dc_jdk_65_method_133_22 : decode jdk_65_method_133_code 22 = .ok (.isub, 1) := by decide +kernel
theorem dc_jdk_65_method_133_23 : decode jdk_65_method_133_code 23 = .ok (.iload_n 3, 1) := by decide +kernel
theorem dc_jdk_65_method_133_24 : decode jdk_65_method_133_code 24 = .ok (.invokestatic 304, 3) := by decide +kernel
theorem dc_jdk_65_method_133_27 : decode jdk_65_method_133_code 27 = .ok (.invokestatic 150, 3) := by decide +kernel
theorem dc_jdk_65_method_133_30 : decode jdk_65_method_133_code 30 = .ok (.aload 4, 2) := by decide +kernel
theorem dc_jdk_65_method_133_32 : decode jdk_65_method_133_code 32 = .ok (.areturn, 1) := by decide +kernel
theorem dc_jdk_65_method_132_0 : decode jdk_65_method_132_code 0 = .ok (.iload_n 1, 1) := by decide +kernel
theorem dc_jdk_65_method_132_1 : decode jdk_65_method_132_code 1 = .ok (.ifCond .ne 9, 3) := by decide +kernel
theorem dc_jdk_65_method_132_4 : decode jdk_65_method_132_code 4 = .ok (.iload_n 2, 1) := by decide +kernel
theorem dc_jdk_65_method_132_5 : decode jdk_65_method_132_code 5 = .ok (.aload_n 0, 1) := by decide +kernel
theorem dc_jdk_65_method_132_6 : decode jdk_65_method_132_code 6 = .ok (.arraylength, 1) := by decide +kernel
theorem dc_jdk_65_method_132_7 : decode jdk_65_method_132_code 7 = .ok (.if_icmp .eq 10, 3) := by decide +kernel
theorem dc_jdk_65_method_132_10 : decode jdk_65_method_132_code 10 = .ok (.aload_n 0, 1) := by decide +kernel
theorem dc_jdk_65_method_132_11 : decode jdk_65_method_132_code 11 = .ok (.iload_n 1, 1) := by decide +kernel
theorem dc_jdk_65_method_132_12 : decode jdk_65_method_132_code 12 = .ok (.iload_n 2, 1) := by decide +kernel
theorem dc_jdk_65_method_132_13 : decode jdk_65_method_132_code 13 = .ok (.invokestatic 339, 3) := by decide +kernel
theorem dc_jdk_65_method_132_16 : decode jdk_65_method_132_code 16 = .ok (.areturn, 1) := by decide +kernel
theorem dc_jdk_42_method_151_0 : decode jdk_42_method_151_code 0 = .ok (.aload_n 0, 1) := by decide +kernel
theorem dc_jdk_42_method_151_1 : decode jdk_42_method_151_code 1 = .ok (.invokespecial 1, 3) := by decide +kernel
theorem dc_jdk_42_method_151_4 : decode jdk_42_method_151_code 4 = .ok (.aload_n 0, 1) := by decide +kernel
theorem dc_jdk_42_method_151_5 : decode jdk_42_method_151_code 5 = .ok (.aload_n 1, 1) := by decide +kernel
theorem dc_jdk_42_method_151_6 : decode jdk_42_method_151_code 6 = .ok (.putfield 9, 3) := by decide +kernel
theorem dc_jdk_42_method_151_9 : decode jdk_42_method_151_code 9 = .ok (.aload_n 0, 1) := by decide +kernel
theorem dc_jdk_42_method_151_10 : decode jdk_42_method_151_code 10 = .ok (.iload_n 2, 1) := by decide +kernel
theorem dc_jdk_42_method_151_11 : decode jdk_42_method_151_code 11 = .ok (.putfield 15, 3) := by decide +kernel
theorem dc_jdk_42_method_151_14 : decode jdk_42_method_151_code 14 = .ok (.return_, 1) := by decide +kernel
theorem dc_jdk_43_method_47_0 : decode jdk_43_method_47_code 0 = .ok (.iload_n 2, 1) := by decide +kernel
theorem dc_jdk_43_method_47_1 : decode jdk_43_method_47_code 1 = .ok (.ifCond .ne 6, 3) := by decide +kernel
theorem dc_jdk_43_method_47_4 : decode jdk_43_method_47_code 4 = .ok (.ldc 151, 2) := by decide +kernel
theorem dc_jdk_43_method_47_6 : decode jdk_43_method_47_code 6 = .ok (.areturn, 1) := by decide +kernel
theorem dc_jdk_43_method_47_7 : decode jdk_43_method_47_code 7 = .ok (.new 1, 3) := by decide +kernel
theorem dc_jdk_43_method_47_10 : decode jdk_43_method_47_code 10 = .ok (.dup, 1) := by decide +kernel
theorem dc_jdk_43_method_47_11 : decode jdk_43_method_47_code 11 = .ok (.aload_n 0, 1) := by decide +kernel
theorem dc_jdk_43_method_47_12 : decode jdk_43_method_47_code 12 = .ok (.iload_n 1, 1) := by decide +kernel
theorem dc_jdk_43_method_47_13 : decode jdk_43_method_47_code 13 = .ok (.iload_n 1, 1) := by decide +kernel
theorem dc_jdk_43_method_47_14 : decode jdk_43_method_47_code 14 = .ok (.iload_n 2, 1) := by decide +kernel
theorem dc_jdk_43_method_47_15 : decode jdk_43_method_47_code 15 = .ok (.iadd, 1) := by decide +kernel
theorem dc_jdk_43_method_47_16 : decode jdk_43_method_47_code 16 = .ok (.invokestatic 232, 3) := by decide +kernel
theorem dc_jdk_43_method_47_19 : decode jdk_43_method_47_code 19 = .ok (.iconst 0, 1) := by decide +kernel
theorem dc_jdk_43_method_47_20 : decode jdk_43_method_47_code 20 = .ok (.invokespecial 112, 3) := by decide +kernel
theorem dc_jdk_43_method_47_23 : decode jdk_43_method_47_code 23 = .ok (.areturn, 1) := by decide +kernel
theorem dc_jdk_42_method_92_0 : decode jdk_42_method_92_code 0 = .ok (.aload_n 0, 1) := by decide +kernel
theorem dc_jdk_42_method_92_1 : decode jdk_42_method_92_code 1 = .ok (.invokevirtual 505, 3) := by decide +kernel
theorem dc_jdk_42_method_92_4 : decode jdk_42_method_92_code 4 = .ok (.istore_n 3, 1) := by decide +kernel
theorem dc_jdk_42_method_92_5 : decode jdk_42_method_92_code 5 = .ok (.iload_n 1, 1) := by decide +kernel
theorem dc_jdk_42_method_92_6 : decode jdk_42_method_92_code 6 = .ok (.iload_n 2, 1) := by decide +kernel
theorem dc_jdk_42_method_92_7 : decode jdk_42_method_92_code 7 = .ok (.iload_n 3, 1) := by decide +kernel
theorem dc_jdk_42_method_92_8 : decode jdk_42_method_92_code 8 = .ok (.invokestatic 521, 3) := by decide +kernel
theorem dc_jdk_42_method_92_11 : decode jdk_42_method_92_code 11 = .ok (.iload_n 1, 1) := by decide +kernel
theorem dc_jdk_42_method_92_12 : decode jdk_42_method_92_code 12 = .ok (.ifCond .ne 10, 3) := by decide +kernel
theorem dc_jdk_42_method_92_15 : decode jdk_42_method_92_code 15 = .ok (.iload_n 2, 1) := by decide +kernel
theorem dc_jdk_42_method_92_16 : decode jdk_42_method_92_code 16 = .ok (.iload_n 3, 1) := by decide +kernel
theorem dc_jdk_42_method_92_17 : decode jdk_42_method_92_code 17 = .ok (.if_icmp .ne 5, 3) := by decide +kernel
theorem dc_jdk_42_method_92_22 : decode jdk_42_method_92_code 22 = .ok (.iload_n 2, 1) := by decide +kernel
theorem dc_jdk_42_method_92_23 : decode jdk_42_method_92_code 23 = .ok (.iload_n 1, 1) := by decide +kernel
theorem dc_jdk_42_method_92_24 : decode jdk_42_method_92_code 24 = .ok (.isub, 1) := by decide +kernel
theorem dc_jdk_42_method_92_25 : decode jdk_42_method_92_code 25 = .ok (.istore 4, 2) := by decide +kernel
theorem dc_jdk_42_method_92_27 : decode jdk_42_method_92_code 27 = .ok (.aload_n 0, 1) := by decide +kernel
theorem dc_jdk_42_method_92_28 : decode jdk_42_method_92_code 28 = .ok (.invokevirtual 492, 3) := by decide +kernel
theorem dc_jdk_42_method_92_31 : decode jdk_42_method_92_code 31 = .ok (.ifCond .eq 16, 3) := by decide +kernel
theorem dc_jdk_42_method_92_34 : decode jdk_42_method_92_code 34 = .ok (.aload_n 0, 1) := by decide +kernel
theorem dc_jdk_42_method_92_35 : decode jdk_42_method_92_code 35 = .ok (.getfield 9, 3) := by decide +kernel
theorem dc_jdk_42_method_92_38 : decode jdk_42_method_92_code 38 = .ok (.iload_n 1, 1) := by decide +kernel
theorem dc_jdk_42_method_92_39 : decode jdk_42_method_92_code 39 = .ok (.iload 4, 2) := by decide +kernel
theorem dc_jdk_42_method_92_41 : decode jdk_42_method_92_code 41 = .ok (.invokestatic 685, 3) := by decide +kernel
theorem dc_jdk_42_method_92_44 : decode jdk_42_method_92_code 44 = .ok (.goto 13, 3) := by decide +kernel
theorem dc_jdk_42_method_92_57 : decode jdk_42_method_92_code 57 = .ok (.areturn, 1) := by decide +kernel
theorem dc_method_2_0 : decode method_2_code 0 = .ok (.iload_n 0, 1) := by decide +kernel
theorem dc_method_2_1 : decode method_2_code 1 = .ok (.sipush 256, 3) := by decide +kernel
theorem dc_method_2_4 : decode method_2_code 4 = .ok (.iand, 1) := by decide +kernel
theorem dc_method_2_5 : decode method_2_code 5 = .ok (.ifCond .eq 8, 3) := by decide +kernel
theorem dc_method_2_13 : decode method_2_code 13 = .ok (.iload_n 0, 1) := by decide +kernel
theorem dc_method_2_14 : decode method_2_code 14 = .ok (.sipush 255, 3) := by decide +kernel
theorem dc_method_2_17 : decode method_2_code 17 = .ok (.iand, 1) := by decide +kernel
theorem dc_method_2_18 : decode method_2_code 18 = .ok (.i2c, 1) := by decide +kernel
theorem dc_method_2_19 : decode method_2_code 19 = .ok (.ireturn, 1) := by decide +kernel
theorem dc_method_2_8 : decode method_2_code 8 = .ok (.bipush 35, 2) := by decide +kernel
theorem dc_method_2_10 : decode method_2_code 10 = .ok (.goto 9, 3) := by decide +kernel
theorem dc_prog_80_method_4_0 : decode prog_80_method_4_code 0 = .ok (.aload_n 0, 1) := by decide +kernel
theorem dc_prog_80_method_4_1 : decode prog_80_method_4_code 1 = .ok (.bipush 35, 2) := by decide +kernel
theorem dc_prog_80_method_4_3 : decode prog_80_method_4_code 3 = .ok (.invokevirtual 73, 3) := by decide +kernel
theorem dc_prog_80_method_4_6 : decode prog_80_method_4_code 6 = .ok (.istore_n 1, 1) := by decide +kernel
theorem dc_prog_80_method_4_7 : decode prog_80_method_4_code 7 = .ok (.iload_n 1, 1) := by decide +kernel
theorem dc_prog_80_method_4_8 : decode prog_80_method_4_code 8 = .ok (.ifCond .ge 7, 3) := by decide +kernel
theorem dc_prog_80_method_4_11 : decode prog_80_method_4_code 11 = .ok (.aload_n 0, 1) := by decide +kernel
theorem dc_prog_80_method_4_12 : decode prog_80_method_4_code 12 = .ok (.goto 9, 3) := by decide +kernel
theorem dc_prog_80_method_4_21 : decode prog_80_method_4_code 21 = .ok (.areturn, 1) := by decide +kernel
theorem dc_prog_80_method_4_15 : decode prog_80_method_4_code 15 = .ok (.aload_n 0, 1) := by decide +kernel
theorem dc_prog_80_method_4_16 : decode prog_80_method_4_code 16 = .ok (.iconst 0, 1) := by decide +kernel
theorem dc_prog_80_method_4_17 : decode prog_80_method_4_code 17 = .ok (.iload_n 1, 1) := by decide +kernel
theorem dc_prog_80_method_4_18 : decode prog_80_method_4_code 18 = .ok (.invokevirtual 77, 3) := by decide +kernel
theorem pd_0 : parseMethodDescriptor "([CIILjava/lang/Void;)V" = some ⟨[(.array .char), .int, .int, (.object "java/lang/Void")], none⟩ := by decide +kernel
theorem pd_1 : parseMethodDescriptor "(I)Z" = some ⟨[.int], some .boolean⟩ := by decide +kernel
theorem pd_2 : parseMethodDescriptor "(II)I" = some ⟨[.int, .int], some .int⟩ := by decide +kernel
theorem pd_3 : parseMethodDescriptor "([BIII)I" = some ⟨[(.array .byte), .int, .int, .int], some .int⟩ := by decide +kernel
theorem pd_4 : parseMethodDescriptor "()Z" = some ⟨[], some .boolean⟩ := by decide +kernel
theorem pd_5 : parseMethodDescriptor "()I" = some ⟨[], some .int⟩ := by decide +kernel
theorem pd_6 : parseMethodDescriptor "(IIILjava/util/function/BiFunction;)I" = some ⟨[.int, .int, .int, (.object "java/util/function/BiFunction")], some .int⟩ := by decide +kernel
theorem pd_7 : parseMethodDescriptor "(II)V" = some ⟨[.int, .int], none⟩ := by decide +kernel
theorem pd_8 : parseMethodDescriptor "([BII)[B" = some ⟨[(.array .byte), .int, .int], some (.array .byte)⟩ := by decide +kernel
theorem pd_9 : parseMethodDescriptor "([BB)V" = some ⟨[(.array .byte), .byte], none⟩ := by decide +kernel
theorem pd_10 : parseMethodDescriptor "(III)V" = some ⟨[.int, .int, .int], none⟩ := by decide +kernel
theorem pd_11 : parseMethodDescriptor "([BII)Ljava/lang/String;" = some ⟨[(.array .byte), .int, .int], some (.object "java/lang/String")⟩ := by decide +kernel
theorem pd_12 : parseMethodDescriptor "(I)I" = some ⟨[.int], some .int⟩ := by decide +kernel
theorem pd_13 : parseMethodDescriptor "(II)Ljava/lang/String;" = some ⟨[.int, .int], some (.object "java/lang/String")⟩ := by decide +kernel
theorem pd_14 : parseMethodDescriptor "(Ljava/lang/String;)Ljava/lang/String;" = some ⟨[(.object "java/lang/String")], some (.object "java/lang/String")⟩ := by decide +kernel
theorem pd_15 : parseMethodDescriptor "(I)C" = some ⟨[.int], some .char⟩ := by decide +kernel
theorem pd_16 : parseMethodDescriptor "([C)V" = some ⟨[(.array .char)], none⟩ := by decide +kernel
theorem pn_0 : plainFor (⟨"java/lang/String", "<init>", "([CIILjava/lang/Void;)V"⟩ : MethodName) = true := plainFor_of_name (by first | (simp [plainName, overriddenIn]; done) | decide +kernel)
theorem pn_1 : plainFor (⟨"java/lang/String", "<init>", "([C)V"⟩ : MethodName) = true := plainFor_of_name (by first | (simp [plainName, overriddenIn]; done) | decide +kernel)
theorem pn_2 : plainFor (⟨"java/lang/String", "isLatin1", "()Z"⟩ : MethodName) = true := plainFor_of_name (by first | (simp [plainName, overriddenIn]; done) | decide +kernel)
theorem pn_3 : plainFor (⟨"java/lang/Math", "max", "(II)I"⟩ : MethodName) = true := by decide +kernel
theorem pn_4 : plainFor (⟨"java/lang/Math", "min", "(II)I"⟩ : MethodName) = true := by decide +kernel
theorem pn_5 : plainFor (⟨"java/lang/StringLatin1", "canEncode", "(I)Z"⟩ : MethodName) = true := plainFor_of_name (by first | (simp [plainName, overriddenIn]; done) | decide +kernel)
theorem pn_6 : plainFor (⟨"java/lang/StringLatin1", "indexOfChar", "([BIII)I"⟩ : MethodName) = true := plainFor_of_name (by first | (simp [plainName, overriddenIn]; done) | decide +kernel)
theorem pn_7 : plainFor (⟨"java/lang/StringLatin1", "indexOf", "([BIII)I"⟩ : MethodName) = true := plainFor_of_name (by first | (simp [plainName, overriddenIn]; done) | decide +kernel)
theorem pn_8 : plainFor (⟨"java/lang/String", "indexOf", "(II)I"⟩ : MethodName) = true := plainFor_of_name (by first | (simp [plainName, overriddenIn]; done) | decide +kernel)
theorem pn_9 : plainFor (⟨"java/lang/String", "indexOf", "(I)I"⟩ : MethodName) = true := plainFor_of_name (by first | (simp [plainName, overriddenIn]; done) | decide +kernel)
theorem pn_10 : plainFor (⟨"jdk/internal/util/Preconditions", "checkFromToIndex", "(IIILjava/util/function/BiFunction;)I"⟩ : MethodName) = true := plainFor_of_name (by first | (simp [plainName, overriddenIn]; done) | decide +kernel)
theorem pn_11 : plainFor (⟨"java/lang/String", "checkBoundsBeginEnd", "(III)V"⟩ : MethodName) = true := plainFor_of_name (by first | (simp [plainName, overriddenIn]; done) | decide +kernel)
theorem pn_12 : plainFor (⟨"java/util/Arrays", "checkLength", "(II)V"⟩ : MethodName) = true := plainFor_of_name (by first | (simp [plainName, overriddenIn]; done) | decide +kernel)
theorem pn_13 : plainFor (⟨"java/util/Arrays", "copyOfRangeByte", "([BII)[B"⟩ : MethodName) = true := plainFor_of_name (by first | (simp [plainName, overriddenIn]; done) | decide +kernel)
theorem pn_14 : plainFor (⟨"java/util/Arrays", "copyOfRange", "([BII)[B"⟩ : MethodName) = true := plainFor_of_name (by first | (simp [plainName, overriddenIn]; done) | decide +kernel)
theorem pn_15 : plainFor (⟨"java/lang/String", "<init>", "([BB)V"⟩ : MethodName) = true := plainFor_of_name (by first | (simp [plainName, overriddenIn]; done) | decide +kernel)
theorem pn_16 : plainFor (⟨"java/lang/StringLatin1", "newString", "([BII)Ljava/lang/String;"⟩ : MethodName) = true := plainFor_of_name (by first | (simp [plainName, overriddenIn]; done) | decide +kernel)
theorem pn_17 : plainFor (⟨"java/lang/String", "substring", "(II)Ljava/lang/String;"⟩ : MethodName) = true := plainFor_of_name (by first | (simp [plainName, overriddenIn]; done) | decide +kernel)
theorem pn_18 : plainFor (⟨"com/example/fedweave/fedweave/RedirectBindingWithoutFragmentPinLaw", "ch", "(I)C"⟩ : MethodName) = true := plainFor_of_name (by first | (simp [plainName, overriddenIn]; done) | decide +kernel)
theorem pn_19 : plainFor (⟨"com/example/fedweave/fedweave/RedirectBinding", "withoutFragment", "(Ljava/lang/String;)Ljava/lang/String;"⟩ : MethodName) = true := plainFor_of_name (by first | (simp [plainName, overriddenIn]; done) | decide +kernel)
theorem pn_20 : plainFor x = true := plainFor_of_name (by first | (simp [plainName, overriddenIn]; done) | decide +kernel)
theorem ef_0 (x0 : Addr) (x1 : Addr) (x2 : Int32) (x3 : Int32) (m : MethodId) : entryFrame m #[(.ref x0), (.ref x1), (.int x2), (.int x3), .null] 6 = mkF m 0 #[.val (.ref x0), .val (.ref x1), .val (.int x2), .val (.int x3), .val .null, .unset] [] := by first | (simp [entryFrame, mkF, argsToLocals, Value.category]; done) | rfl
theorem ef_1 (x0 : Addr) (x1 : Addr) (m : MethodId) : entryFrame m #[(.ref x0), (.ref x1)] 2 = mkF m 0 #[.val (.ref x0), .val (.ref x1)] [] := by first | (simp [entryFrame, mkF, argsToLocals, Value.category]; done) | rfl
theorem ef_2 (x0 : Addr) (m : MethodId) : entryFrame m #[(.ref x0)] 1 = mkF m 0 #[.val (.ref x0)] [] := by first | (simp [entryFrame, mkF, argsToLocals, Value.category]; done) | rfl
theorem ef_3 (x0 : Int32) (x1 : Int32) (m : MethodId) : entryFrame m #[(.int x0), (.int x1)] 2 = mkF m 0 #[.val (.int x0), .val (.int x1)] [] := by first | (simp [entryFrame, mkF, argsToLocals, Value.category]; done) | rfl
theorem ef_4 (x0 : Int32) (m : MethodId) : entryFrame m #[(.int x0)] 1 = mkF m 0 #[.val (.int x0)] [] := by first | (simp [entryFrame, mkF, argsToLocals, Value.category]; done) | rfl
theorem ef_5 (x0 : Addr) (x1 : Int32) (x2 : Int32) (x3 : Int32) (m : MethodId) : entryFrame m #[(.ref x0), (.int x1), (.int x2), (.int x3)] 6 = mkF m 0 #[.val (.ref x0), .val (.int x1), .val (.int x2), .val (.int x3), .unset, .unset] [] := by first | (simp [entryFrame, mkF, argsToLocals, Value.category]; done) | rfl
theorem ef_6 (x0 : Addr) (x1 : Int32) (x2 : Int32) (x3 : Int32) (m : MethodId) : entryFrame m #[(.ref x0), (.int x1), (.int x2), (.int x3)] 4 = mkF m 0 #[.val (.ref x0), .val (.int x1), .val (.int x2), .val (.int x3)] [] := by first | (simp [entryFrame, mkF, argsToLocals, Value.category]; done) | rfl
theorem ef_7 (x0 : Addr) (x1 : Int32) (x2 : Int32) (m : MethodId) : entryFrame m #[(.ref x0), (.int x1), (.int x2)] 3 = mkF m 0 #[.val (.ref x0), .val (.int x1), .val (.int x2)] [] := by first | (simp [entryFrame, mkF, argsToLocals, Value.category]; done) | rfl
theorem ef_8 (x0 : Addr) (x1 : Int32) (m : MethodId) : entryFrame m #[(.ref x0), (.int x1)] 2 = mkF m 0 #[.val (.ref x0), .val (.int x1)] [] := by first | (simp [entryFrame, mkF, argsToLocals, Value.category]; done) | rfl
theorem ef_9 (x0 : Int32) (x1 : Int32) (x2 : Int32) (x3 : Value) (q3 : x3.isRef = true) (m : MethodId) : entryFrame m #[(.int x0), (.int x1), (.int x2), x3] 4 = mkF m 0 #[.val (.int x0), .val (.int x1), .val (.int x2), .val x3] [] := by
  rcases ref_cases q3 with rfl | ⟨_, rfl⟩ <;> first | (simp [entryFrame, mkF, argsToLocals, Value.category]; done) | rfl
theorem ef_10 (x0 : Int32) (x1 : Int32) (x2 : Int32) (m : MethodId) : entryFrame m #[(.int x0), (.int x1), (.int x2)] 3 = mkF m 0 #[.val (.int x0), .val (.int x1), .val (.int x2)] [] := by first | (simp [entryFrame, mkF, argsToLocals, Value.category]; done) | rfl
theorem ef_11 (x0 : Addr) (x1 : Int32) (x2 : Int32) (m : MethodId) : entryFrame m #[(.ref x0), (.int x1), (.int x2)] 5 = mkF m 0 #[.val (.ref x0), .val (.int x1), .val (.int x2), .unset, .unset] [] := by first | (simp [entryFrame, mkF, argsToLocals, Value.category]; done) | rfl
theorem ef_12 (x0 : Addr) (x1 : Addr) (x2 : Int32) (m : MethodId) : entryFrame m #[(.ref x0), (.ref x1), (.int x2)] 3 = mkF m 0 #[.val (.ref x0), .val (.ref x1), .val (.int x2)] [] := by first | (simp [entryFrame, mkF, argsToLocals, Value.category]; done) | rfl
theorem ef_13 (x0 : Addr) (m : MethodId) : entryFrame m #[(.ref x0)] 2 = mkF m 0 #[.val (.ref x0), .unset] [] := by first | (simp [entryFrame, mkF, argsToLocals, Value.category]; done) | rfl
theorem ef_14 (x0 : Int32) (x1 : Int32) (x2 : Int32) (x3 : Int32) (x4 : Int32) (x5 : Int32) (m : MethodId) : entryFrame m #[(.int x0), (.int x1), (.int x2), (.int x3), (.int x4), (.int x5)] maxLocals = mkF m 0 #[.val (.int x0), .val (.int x1), .val (.int x2), .val (.int x3), .val (.int x4), .val (.int x5), .unset, .unset, .unset, .unset, .unset, .unset, .unset, .unset, .unset, .unset] [] := by first | (simp [entryFrame, mkF, argsToLocals, Value.category, maxLocals]; done) | rfl
def EL : List (String × Nat) := consts_1
theorem ewEL {Z : State} {a0 : Array Value} (hw : ∀ d ∈ tables_1, d.before a0 Z = true) : EW Z a0 EL := (EW.cons (tw19 hw) (by decide) (EW.cons (tw134 hw) (by decide) EW.nil))
theorem wSA {Z : State} {a0 : Array Value} (hw : ∀ d ∈ tables_1, d.before a0 Z = true) : ∀ a ∈ Bundle.stringAtoms, a.before a0 Z = true := fun d hd => hw d ((by decide +kernel : ∀ d ∈ Bundle.stringAtoms, d ∈ tables_1) d hd)
theorem wNew {Z : State} {a0 : Array Value} (hw : ∀ d ∈ tables_1, d.before a0 Z = true) : ∀ d ∈ StrChars.Road.words, d.before a0 Z = true := fun d hd => hw d ((by decide +kernel : ∀ d ∈ StrChars.Road.words, d ∈ tables_1) d hd)
theorem wLen {Z : State} {a0 : Array Value} (hw : ∀ d ∈ tables_1, d.before a0 Z = true) : ∀ d ∈ StrChars.Road.wordsLen, d.before a0 Z = true := fun d hd => hw d ((by decide +kernel : ∀ d ∈ StrChars.Road.wordsLen, d ∈ tables_1) d hd)
theorem wChN {Z : State} {a0 : Array Value} (hw : ∀ d ∈ tables_1, d.before a0 Z = true) : ∀ d ∈ StrChars.Road.wordsChN, d.before a0 Z = true := fun d hd => hw d ((by decide +kernel : ∀ d ∈ StrChars.Road.wordsChN, d ∈ tables_1) d hd)
set_option maxRecDepth 65536 in
set_option maxHeartbeats 40000000 in
theorem rm_str0v {l : Launch} {Z : State} {a0 : Array Value} (hw : ∀ d ∈ tables_1, d.before a0 Z = true) (a b : Addr) (kb : ClassId) (h0 : Heap) (hE : Ext Z.heap h0) (ga : Z.heap.size ≤ a) (E : Exa Z h0 a "java/lang/String") (Fv : Fld Z h0 a "java/lang/String" "value" "[B" .null) (Fc : Fld Z h0 a "java/lang/String" "coder" "B" (.int 0)) (A : Arv Z h0 b kb .char (0 : Int32) [] (.int (0 : Int32))) :
    Own.Ctr true l Z a0 EL (⟨"java/lang/String", "<init>", "([CIILjava/lang/Void;)V"⟩ : MethodName) jdk_42_method_149_code 6 (Option.none : Option Jvm.ClassFile.FieldType) ({ frames := 1, cells := 4, slots := 8, locals := 12 } : Room) #[(.ref a), (.ref b), (.int (0 : Int32)), (.int (0 : Int32)), .null] h0 [a] (fun v h => v = none ∧ Own.Str Z h a []) := by
  refine Own.Ctr.of pn_0 (ef_0 a b (0 : Int32) (0 : Int32)) hE (ewEL hw) ?_
  intro p e s m below meth c T0 X0 hsafe
  have O0 : Own.Ok true Z EL h0 [a] s.vm h0 a := ⟨E.lt, ga, Or.inl (List.mem_singleton.mpr rfl), fun q => hsafe q _ (List.mem_singleton.mpr rfl)⟩
  refine Own.s_aloadN X0 dc_jdk_42_method_149_0 rfl rfl rfl ?_
  refine Own.s_initO X0 dc_jdk_42_method_149_1 (tw16 hw) (tw17 hw) (tw18 hw) 0 (Nat.le_of_eq rfl) (by decide) (by decide) rfl rfl ?_
  intro T1 X1
  refine Own.s_iloadN X1 dc_jdk_42_method_149_4 rfl rfl ?_
  refine Own.s_ifF X1 dc_jdk_42_method_149_5 ((if0 _ _).trans (teq (show (0 : Int32) = (0 : Int32) by decide)).2) rfl ?_
  refine Own.s_aloadN X1 dc_jdk_42_method_149_8 rfl rfl rfl ?_
  refine Own.s_ldcStr rfl X1 dc_jdk_42_method_149_9 (tw19 hw) (wSA hw) (by decide) (vs := []) (z := (0 : Int32)) ⟨by decide, by decide⟩ (by decide) (by decide) 0 (by decide) (by decide) (by decide) (by decide) rfl ?_
  intro a2 b2 k2 vm2 T2 h2 X2 V2 E2 C2 U2 A2
  have S2 : Own.Str Z h2 a2 [] := Own.Str.mk (by decide) (by decide) E2 C2 U2 A2
  refine Own.s_getfield X2 dc_jdk_42_method_149_11 (tw25 hw) U2 rfl ?_
  intro T3 X3
  have ex5 : Ext h0 h2 := Own.extK (Own.Ext.rfl' h0) V2.1 all0
  have F_6 := Fld.ext ex5 Fv
  have E_7 := Exa.ext ex5 E
  have O8 := (O0.ev V2)
  refine Own.s_putfield X3 dc_jdk_42_method_149_14 (tw25 hw) F_6 E_7 (Or.inr ⟨(tw21 hw), rfl, rfl⟩) (tw7 hw) (ty := (.array .byte)) (by decide) rfl rfl O8 rfl ?_
  intro T4 h4 X4 V4 W4
  have F4 := Fld.same W4 F_6
  refine Own.s_aloadN X4 dc_jdk_42_method_149_17 rfl rfl rfl ?_
  refine Own.s_ldcStr rfl X4 dc_jdk_42_method_149_18 (tw19 hw) (wSA hw) (by decide) (vs := []) (z := (0 : Int32)) ⟨by decide, by decide⟩ (by decide) (by decide) 0 (by decide) (by decide) (by decide) (by decide) rfl ?_
  intro a9 b9 k9 vm9 T9 h9 X9 V9 E9 C9 U9 A9
  have S9 : Own.Str Z h9 a9 [] := Own.Str.mk (by decide) (by decide) E9 C9 U9 A9
  refine Own.s_getfield X9 dc_jdk_42_method_149_20 (tw26 hw) C9 rfl ?_
  intro T10 X10
  have F_12 := (Fld.ext (Own.extN V9.1) (Fld.other W4 (Fld.ext (Own.extN V2.1) Fc) (Or.inr (slot_ne (Or.inr (tw22 hw)) (Or.inr (tw21 hw)) (by decide) (t := .byte) (t' := (.array .byte)) (by decide) (by decide)))))
  have E_13 := (Exa.keep (Exa.keep E_7 V4.1) V9.1)
  have O14 := ((O8.ev V4).ev V9)
  refine Own.s_putfieldN X10 dc_jdk_42_method_149_23 (tw26 hw) F_12 E_13 (Or.inr ⟨(tw22 hw), rfl, rfl⟩) (tw7 hw) (ty := .byte) (v' := (.int (0 : Int32))) (by decide) (by decide) (by decide) O14 rfl ?_
  intro T11 h11 X11 V11 W11
  have F11 := Fld.same W11 F_12
  have E_15 := (Exa.keep E_13 V11.1)
  have F_16 := (Fld.other W11 (Fld.ext (Own.extN V9.1) F4) (Or.inr (slot_ne (Or.inr (tw21 hw)) (Or.inr (tw22 hw)) (by decide) (t := (.array .byte)) (t' := .byte) (by decide) (by decide))))
  have A_17 := (Arv.keep (Arv.ext (Arv.keep A2 V4.1 (ninS (Ne.symm (Exa.neArv E_7 A2 (tw7 hw))) nin0)) (Own.extN V9.1)) V11.1 (ninS (Ne.symm (Exa.neArv E_13 (Arv.ext (Arv.keep A2 V4.1 (ninS (Ne.symm (Exa.neArv E_7 A2 (tw7 hw))) nin0)) (Own.extN V9.1)) (tw7 hw))) nin0))
  exact Own.r_void X11 rfl dc_jdk_42_method_149_26 (by decide) (by decide) (⟨rfl, Own.Str.mk (cs := []) ⟨(fun _ q => nomatch q), rfl⟩ ⟨by decide, by decide⟩ E_15 F11 F_16 A_17⟩)
set_option maxRecDepth 65536 in
set_option maxHeartbeats 40000000 in
theorem rm_str0 {l : Launch} {Z : State} {a0 : Array Value} (hw : ∀ d ∈ tables_1, d.before a0 Z = true) (a b : Addr) (kb : ClassId) (h0 : Heap) (hE : Ext Z.heap h0) (ga : Z.heap.size ≤ a) (E : Exa Z h0 a "java/lang/String") (Fv : Fld Z h0 a "java/lang/String" "value" "[B" .null) (Fc : Fld Z h0 a "java/lang/String" "coder" "B" (.int 0)) (A : Arv Z h0 b kb .char (0 : Int32) [] (.int (0 : Int32))) :
    Own.Ctr true l Z a0 EL (⟨"java/lang/String", "<init>", "([C)V"⟩ : MethodName) jdk_42_method_3_code 2 (Option.none : Option Jvm.ClassFile.FieldType) ({ frames := 2, cells := 4, slots := 8, locals := 29 } : Room) #[(.ref a), (.ref b)] h0 [a] (fun v h => v = none ∧ Own.Str Z h a []) := by
  refine Own.Ctr.of pn_1 (ef_1 a b) hE (ewEL hw) ?_
  intro p e s m below meth c T0 X0 hsafe
  have O0 : Own.Ok true Z EL h0 [a] s.vm h0 a := ⟨E.lt, ga, Or.inl (List.mem_singleton.mpr rfl), fun q => hsafe q _ (List.mem_singleton.mpr rfl)⟩
  refine Own.s_aloadN X0 dc_jdk_42_method_3_0 rfl rfl rfl ?_
  refine Own.s_aloadN X0 dc_jdk_42_method_3_1 rfl rfl rfl ?_
  refine Own.s_iconst X0 dc_jdk_42_method_3_2 (0 : Int32) (by decide) rfl ?_
  refine Own.s_aloadN X0 dc_jdk_42_method_3_3 rfl rfl rfl ?_
  refine Own.s_arraylength X0 dc_jdk_42_method_3_4 A rfl ?_
  refine Own.s_aconst_null X0 dc_jdk_42_method_3_5 rfl ?_
  refine Own.c_special X0 dc_jdk_42_method_3_6 rfl (tw12 hw) (tw13 hw) (tw8 hw) (tw15 hw) (by decide) a [(.ref b), (.int (0 : Int32)), (.int (0 : Int32)), .null] [] 0 (rm_str0v hw a b _ h0 X0.hE O0.2.1 E Fv Fc A) (fun _ => rfl) (Own.Ok.one O0) (lenOf pd_0 rfl) rfl (Nat.le_of_eq rfl) (by decide) (by decide) (by decide) (by decide) rfl rfl ?_
  intro v1 vm1 T1 h1 L1 X1 V1 Q1
  obtain ⟨rfl, S1⟩ := Q1
  exact Own.r_void X1 rfl dc_jdk_42_method_3_9 (by decide) (by decide) (⟨rfl, S1⟩)
set_option maxRecDepth 65536 in
set_option maxHeartbeats 40000000 in
theorem rm_isLat {l : Launch} {Z : State} {a0 : Array Value} (hw : ∀ d ∈ tables_1, d.before a0 Z = true) (a : Addr) {zc : Int32} (SC : Sta Z Z.heap "java/lang/String" "COMPACT_STRINGS" "Z" (.int zc)) (hzc : ¬ zc = 0) {fm : Value} (SF : Sta Z Z.heap "jdk/internal/util/Preconditions" "SIOOBE_FORMATTER" "Ljava/util/function/BiFunction;" fm) (hfm : fm.isRef = true) (h0 : Heap) (hE : Ext Z.heap h0) (E : Exa Z h0 a "java/lang/String") (Fc : Fld Z h0 a "java/lang/String" "coder" "B" (.int (0 : Int32))) :
    Own.Ctr false l Z a0 EL (⟨"java/lang/String", "isLatin1", "()Z"⟩ : MethodName) jdk_42_method_154_code 1 (Option.some Jvm.ClassFile.FieldType.boolean) ({ frames := 0, cells := 0, slots := 0, locals := 0 } : Room) #[(.ref a)] h0 [] (fun v h => v = some (.int (1 : Int32))) := by
  refine Own.Ctr.of pn_2 (ef_2 a) hE (ewEL hw) ?_
  intro p e s m below meth c T0 X0 hsafe
  have SC0 := Sta.ext hE SC
  have SF0 := Sta.ext hE SF
  refine Own.s_getstatic X0 dc_jdk_42_method_154_0 (tw46 hw) SC0 rfl ?_
  intro T1 X1
  refine Own.s_ifF X1 dc_jdk_42_method_154_3 ((if0 _ _).trans (feq hzc).1) rfl ?_
  refine Own.s_aloadN X1 dc_jdk_42_method_154_6 rfl rfl rfl ?_
  refine Own.s_getfield X1 dc_jdk_42_method_154_7 (tw26 hw) Fc rfl ?_
  intro T2 X2
  refine Own.s_ifF X2 dc_jdk_42_method_154_10 ((if0 _ _).trans (teq (show (0 : Int32) = (0 : Int32) by decide)).2) rfl ?_
  refine Own.s_iconst X2 dc_jdk_42_method_154_13 (1 : Int32) (by decide) rfl ?_
  refine Own.s_goto X2 dc_jdk_42_method_154_14 (by decide) (pc' := 18) (by decide) ?_
  exact Own.r_nar X2 rfl (Or.inl rfl) dc_jdk_42_method_154_18 (by decide) (by decide) (by decide)
set_option maxRecDepth 65536 in
set_option maxHeartbeats 40000000 in
theorem rm_max {l : Launch} {Z : State} {a0 : Array Value} (hw : ∀ d ∈ tables_1, d.before a0 Z = true) (a b : Int32) (hab : ¬ a < b) (h0 : Heap) (hE : Ext Z.heap h0)  :
    Own.Ctr false l Z a0 EL (⟨"java/lang/Math", "max", "(II)I"⟩ : MethodName) jdk_29_method_65_code 2 (Option.some Jvm.ClassFile.FieldType.int) ({ frames := 0, cells := 0, slots := 0, locals := 0 } : Room) #[(.int a), (.int b)] h0 [] (fun v h => v = some (.int a)) := by
  refine Own.Ctr.of pn_3 (ef_3 a b) hE (ewEL hw) ?_
  intro p e s m below meth c T0 X0 hsafe
  refine Own.s_iloadN X0 dc_jdk_29_method_65_0 rfl rfl ?_
  refine Own.s_iloadN X0 dc_jdk_29_method_65_1 rfl rfl ?_
  refine Own.s_icmpF X0 dc_jdk_29_method_65_2 (flt hab).1 rfl ?_
  refine Own.s_iloadN X0 dc_jdk_29_method_65_5 rfl rfl ?_
  refine Own.s_goto X0 dc_jdk_29_method_65_6 (by decide) (pc' := 10) (by decide) ?_
  exact Own.r_int X0 rfl dc_jdk_29_method_65_10 (by decide) (by decide) (rfl)
set_option maxRecDepth 65536 in
set_option maxHeartbeats 40000000 in
theorem rm_min {l : Launch} {Z : State} {a0 : Array Value} (hw : ∀ d ∈ tables_1, d.before a0 Z = true) (a b : Int32) (hab : ¬ b < a) (h0 : Heap) (hE : Ext Z.heap h0)  :
    Own.Ctr false l Z a0 EL (⟨"java/lang/Math", "min", "(II)I"⟩ : MethodName) jdk_29_method_69_code 2 (Option.some Jvm.ClassFile.FieldType.int) ({ frames := 0, cells := 0, slots := 0, locals := 0 } : Room) #[(.int a), (.int b)] h0 [] (fun v h => v = some (.int a)) := by
  refine Own.Ctr.of pn_4 (ef_3 a b) hE (ewEL hw) ?_
  intro p e s m below meth c T0 X0 hsafe
  refine Own.s_iloadN X0 dc_jdk_29_method_69_0 rfl rfl ?_
  refine Own.s_iloadN X0 dc_jdk_29_method_69_1 rfl rfl ?_
  refine Own.s_icmpF X0 dc_jdk_29_method_69_2 (flt hab).2.2.1 rfl ?_
  refine Own.s_iloadN X0 dc_jdk_29_method_69_5 rfl rfl ?_
  refine Own.s_goto X0 dc_jdk_29_method_69_6 (by decide) (pc' := 10) (by decide) ?_
  exact Own.r_int X0 rfl dc_jdk_29_method_69_10 (by decide) (by decide) (rfl)
set_option maxRecDepth 65536 in
set_option maxHeartbeats 40000000 in
theorem rm_canEncI {l : Launch} {Z : State} {a0 : Array Value} (hw : ∀ d ∈ tables_1, d.before a0 Z = true) (z : Int32) (hz : Own.Lat z) (h0 : Heap) (hE : Ext Z.heap h0)  :
    Own.Ctr false l Z a0 EL (⟨"java/lang/StringLatin1", "canEncode", "(I)Z"⟩ : MethodName) jdk_43_method_4_code 1 (Option.some Jvm.ClassFile.FieldType.boolean) ({ frames := 0, cells := 0, slots := 0, locals := 0 } : Room) #[(.int z)] h0 [] (fun v h => v = some (.int (1 : Int32))) := by
  refine Own.Ctr.of pn_5 (ef_4 z) hE (ewEL hw) ?_
  intro p e s m below meth c T0 X0 hsafe
  refine Own.s_iloadN X0 dc_jdk_43_method_4_0 rfl rfl ?_
  refine Own.s_ifF X0 dc_jdk_43_method_4_1 ((if0 _ _).trans (flt hz.1).1) rfl ?_
  refine Own.s_iloadN X0 dc_jdk_43_method_4_4 rfl rfl ?_
  refine Own.s_sipush X0 dc_jdk_43_method_4_5 (255 : Int32) (by decide) rfl ?_
  refine Own.s_icmpF X0 dc_jdk_43_method_4_8 (flt hz.2).2.2.1 rfl ?_
  refine Own.s_iconst X0 dc_jdk_43_method_4_11 (1 : Int32) (by decide) rfl ?_
  refine Own.s_goto X0 dc_jdk_43_method_4_12 (by decide) (pc' := 16) (by decide) ?_
  exact Own.r_nar X0 rfl (Or.inl rfl) dc_jdk_43_method_4_16 (by decide) (by decide) (by decide)
set_option maxRecDepth 65536 in
set_option maxHeartbeats 40000000 in
theorem sg_idx {l : Launch} {Z : State} {a0 : Array Value} (hw : ∀ d ∈ tables_1, d.before a0 Z = true) {p : Program} {e : Env} {s : State} {m : MethodId} {below : List Frame} {meth : Method} {c : Code} {vms : Vm} {Ts : State} {h0 h0s : Heap} {locs : List Loc} (t : Addr) (kb : ClassId) (ch : Int32) (cs : List Int32) (i el : Int32)
    (Xs : Own.Wk p l e ({ frames := 0, cells := 0, slots := 0, locals := 0 } : Room) s m #[(.ref t), (.int ch), (.int (0 : Int32)), (.int (Int32.ofNat cs.length))] below meth c Z a0 EL (⟨"java/lang/StringLatin1", "indexOfChar", "([BIII)I"⟩ : MethodName) jdk_43_method_23_code 6 (Option.some Jvm.ClassFile.FieldType.int) false h0 [] vms Ts h0s locs 0 0) (A : Arv Z h0s t kb .byte (Int32.ofNat cs.length) ((cs.map Own.lo).map Value.int) (.int (0 : Int32))) (hi0 : ¬ i < 0) (hel : i < (Int32.ofNat cs.length) → ((cs.map Own.lo).map Value.int).getD i.toNatClampNeg (.int (0 : Int32)) = .int el) (hk : i < (Int32.ofNat cs.length) → ¬ el = (ch.toInt8.toInt32) → Own.Go p e below (Own.Done false Z EL ({ frames := 0, cells := 0, slots := 0, locals := 0 } : Room) s h0 [] (fun (v : Option Value) (h : Heap) => (v = some (.int (-1 : Int32)) ∧ Own.tw cs ch = cs) ∨ ∃ k, k < cs.length ∧ v = some (.int (Int32.ofNat k)) ∧ Own.tw cs ch = cs.take k)) Ts (mkF m 7 #[.val (.ref t), .val (.int ch), .val (.int (0 : Int32)), .val (.int (Int32.ofNat cs.length)), .val (.int (ch.toInt8.toInt32)), .val (.int (i + (1 : Int32)))] [])) (hret : i < (Int32.ofNat cs.length) → el = (ch.toInt8.toInt32) → (fun (v : Option Value) (h : Heap) => (v = some (.int (-1 : Int32)) ∧ Own.tw cs ch = cs) ∨ ∃ k, k < cs.length ∧ v = some (.int (Int32.ofNat k)) ∧ Own.tw cs ch = cs.take k) (some (.int i)) h0s) (hend : ¬ i < (Int32.ofNat cs.length) → (fun (v : Option Value) (h : Heap) => (v = some (.int (-1 : Int32)) ∧ Own.tw cs ch = cs) ∨ ∃ k, k < cs.length ∧ v = some (.int (Int32.ofNat k)) ∧ Own.tw cs ch = cs.take k) (some (.int (-1 : Int32))) h0s) :
    Own.Go p e below (Own.Done false Z EL ({ frames := 0, cells := 0, slots := 0, locals := 0 } : Room) s h0 [] (fun (v : Option Value) (h : Heap) => (v = some (.int (-1 : Int32)) ∧ Own.tw cs ch = cs) ∨ ∃ k, k < cs.length ∧ v = some (.int (Int32.ofNat k)) ∧ Own.tw cs ch = cs.take k)) Ts (mkF m 7 #[.val (.ref t), .val (.int ch), .val (.int (0 : Int32)), .val (.int (Int32.ofNat cs.length)), .val (.int (ch.toInt8.toInt32)), .val (.int i)] []) := by
  have hE := Xs.hE
  refine Own.s_iload Xs dc_jdk_43_method_23_7 rfl rfl ?_
  refine Own.s_iloadN Xs dc_jdk_43_method_23_9 rfl rfl ?_
  by_cases hc10_1 : i < (Int32.ofNat cs.length)
  · refine Own.s_icmpF Xs dc_jdk_43_method_23_10 (tlt hc10_1).2.1 rfl ?_
    refine Own.s_aloadN Xs dc_jdk_43_method_23_13 rfl rfl rfl ?_
    refine Own.s_iload Xs dc_jdk_43_method_23_14 rfl rfl ?_
    refine Own.s_baload Xs dc_jdk_43_method_23_16 A ⟨hi0, hc10_1⟩ (hel hc10_1) rfl ?_
    refine Own.s_iload Xs dc_jdk_43_method_23_17 rfl rfl ?_
    by_cases hc19_2 : el = (ch.toInt8.toInt32)
    · refine Own.s_icmpF Xs dc_jdk_43_method_23_19 (teq hc19_2).2 rfl ?_
      refine Own.s_iload Xs dc_jdk_43_method_23_22 rfl rfl ?_
      exact Own.r_int Xs rfl dc_jdk_43_method_23_24 (by decide) (by decide) (hret hc10_1 hc19_2)
    · refine Own.s_icmpT Xs dc_jdk_43_method_23_19 (feq hc19_2).2 (by decide) (pc' := 25) (by decide) ?_
      refine Own.s_iinc Xs dc_jdk_43_method_23_25 (1 : Int32) (by decide) rfl #[.val (.ref t), .val (.int ch), .val (.int (0 : Int32)), .val (.int (Int32.ofNat cs.length)), .val (.int (ch.toInt8.toInt32)), .val (.int (i + (1 : Int32)))] rfl rfl ?_
      refine Own.s_goto Xs dc_jdk_43_method_23_28 (by decide) (pc' := 7) (by decide) ?_
      exact hk hc10_1 hc19_2
  · refine Own.s_icmpT Xs dc_jdk_43_method_23_10 (flt hc10_1).2.1 (by decide) (pc' := 31) (by decide) ?_
    refine Own.s_iconst Xs dc_jdk_43_method_23_31 (-1 : Int32) (by decide) rfl ?_
    exact Own.r_int Xs rfl dc_jdk_43_method_23_32 (by decide) (by decide) (hend hc10_1)
theorem lp_idx {l : Launch} {Z : State} {a0 : Array Value} (hw : ∀ d ∈ tables_1, d.before a0 Z = true) {p : Program} {e : Env} {s : State} {m : MethodId} {below : List Frame} {meth : Method} {c : Code} {vms : Vm} {Ts : State} {h0 h0s : Heap} {locs : List Loc} (t : Addr) (kb : ClassId) (ch : Int32) (cs : List Int32)
    (Xs : Own.Wk p l e ({ frames := 0, cells := 0, slots := 0, locals := 0 } : Room) s m #[(.ref t), (.int ch), (.int (0 : Int32)), (.int (Int32.ofNat cs.length))] below meth c Z a0 EL (⟨"java/lang/StringLatin1", "indexOfChar", "([BIII)I"⟩ : MethodName) jdk_43_method_23_code 6 (Option.some Jvm.ClassFile.FieldType.int) false h0 [] vms Ts h0s locs 0 0) (hch : Own.Lat ch) (hcs : ∀ c ∈ cs, Own.Lat c) (hn : cs.length ≤ 4000) (A : Arv Z h0s t kb .byte (Int32.ofNat cs.length) ((cs.map Own.lo).map Value.int) (.int (0 : Int32))) :
    ∀ (r pre : List Int32), cs = pre ++ r → Own.tw cs ch = pre ++ Own.tw r ch → Own.Go p e below (Own.Done false Z EL ({ frames := 0, cells := 0, slots := 0, locals := 0 } : Room) s h0 [] (fun (v : Option Value) (h : Heap) => (v = some (.int (-1 : Int32)) ∧ Own.tw cs ch = cs) ∨ ∃ k, k < cs.length ∧ v = some (.int (Int32.ofNat k)) ∧ Own.tw cs ch = cs.take k)) Ts (mkF m 7 #[.val (.ref t), .val (.int ch), .val (.int (0 : Int32)), .val (.int (Int32.ofNat cs.length)), .val (.int (ch.toInt8.toInt32)), .val (.int (Int32.ofNat pre.length))] []) := by
  intro r
  induction r with
  | nil =>
    intro pre e1 e2
    rw [List.append_nil] at e1
    rw [Own.tw_nil, List.append_nil] at e2
    refine sg_idx hw t kb ch cs (Int32.ofNat pre.length) 0 Xs A (Own.ofNat_nneg (by rw [← e1]; omega)) (fun q => ?_) (fun q => ?_) (fun q => ?_) (fun _ => Or.inl ⟨rfl, by rw [e2, ← e1]⟩) <;>
    · rw [← e1] at q; exact absurd q (by rw [Own.ofNat_lt (by omega) (by omega)]; omega)
  | cons c r ih =>
    intro pre e1 e2
    have hlen : cs.length = pre.length + (r.length + 1) := by rw [e1]; simp
    have hc : Own.Lat c := hcs c (by rw [e1]; simp)
    refine sg_idx hw t kb ch cs (Int32.ofNat pre.length) (Own.lo c) Xs A (Own.ofNat_nneg (by omega)) (fun q => ?_) (fun q hne => ?_) (fun q heq => ?_) (fun q => ?_)
    · rw [Own.ofNat_toNat (by omega), e1]; simp [List.getD_eq_getElem?_getD]
    · have hne' : ¬ c = ch := fun z => hne (by rw [z]; rfl)
      have k := ih (pre ++ [c]) (by rw [e1]; simp) (by rw [e2, Own.tw_miss hne']; simp)
      rw [List.length_append] at k
      rw [Own.ofNat_succ]
      exact k
    · have hce : c = ch := Own.lo_inj hc hch heq
      refine Or.inr ⟨pre.length, by omega, rfl, ?_⟩
      rw [e2, Own.tw_hit hce, List.append_nil, e1]; simp
    · exact absurd ((Own.ofNat_lt (by omega) (by omega)).mpr (by omega)) q
set_option maxRecDepth 65536 in
set_option maxHeartbeats 40000000 in
theorem rm_idxc {l : Launch} {Z : State} {a0 : Array Value} (hw : ∀ d ∈ tables_1, d.before a0 Z = true) (t : Addr) (kb : ClassId) (ch : Int32) (cs : List Int32) (h0 : Heap) (hE : Ext Z.heap h0) (hch : Own.Lat ch) (hcs : ∀ c ∈ cs, Own.Lat c) (hn : cs.length ≤ 4000) (A : Arv Z h0 t kb .byte (Int32.ofNat cs.length) ((cs.map Own.lo).map Value.int) (.int (0 : Int32))) :
    Own.Ctr false l Z a0 EL (⟨"java/lang/StringLatin1", "indexOfChar", "([BIII)I"⟩ : MethodName) jdk_43_method_23_code 6 (Option.some Jvm.ClassFile.FieldType.int) ({ frames := 0, cells := 0, slots := 0, locals := 0 } : Room) #[(.ref t), (.int ch), (.int (0 : Int32)), (.int (Int32.ofNat cs.length))] h0 [] (fun (v : Option Value) (h : Heap) => (v = some (.int (-1 : Int32)) ∧ Own.tw cs ch = cs) ∨ ∃ k, k < cs.length ∧ v = some (.int (Int32.ofNat k)) ∧ Own.tw cs ch = cs.take k) := by
  refine Own.Ctr.of pn_6 (ef_5 t ch (0 : Int32) (Int32.ofNat cs.length)) hE (ewEL hw) ?_
  intro p e s m below meth c T0 X0 hsafe
  refine Own.s_iloadN X0 dc_jdk_43_method_23_0 rfl rfl ?_
  refine Own.s_i2b X0 dc_jdk_43_method_23_1 rfl ?_
  refine Own.s_istore X0 dc_jdk_43_method_23_2 #[.val (.ref t), .val (.int ch), .val (.int (0 : Int32)), .val (.int (Int32.ofNat cs.length)), .val (.int (ch.toInt8.toInt32)), .unset] rfl rfl ?_
  refine Own.s_iloadN X0 dc_jdk_43_method_23_4 rfl rfl ?_
  refine Own.s_istore X0 dc_jdk_43_method_23_5 #[.val (.ref t), .val (.int ch), .val (.int (0 : Int32)), .val (.int (Int32.ofNat cs.length)), .val (.int (ch.toInt8.toInt32)), .val (.int (0 : Int32))] rfl rfl ?_
  exact lp_idx hw t kb ch cs X0 hch hcs hn A cs [] rfl rfl
theorem Own.tw_end {cs : List Int32} {ch : Int32} (h : ¬ (0 : Int32) < Int32.ofNat cs.length) (hn : cs.length ≤ 4000) : Own.tw cs ch = cs := by
  have e : cs.length = 0 := by
    have q : ¬ 0 < cs.length := fun r => h ((Own.ofNat_lt (i := 0) (n := cs.length) (by omega) (by omega)).mpr r)
    omega
  cases cs with
  | nil => rfl
  | cons a r => simp at e
set_option maxRecDepth 65536 in
set_option maxHeartbeats 40000000 in
theorem rm_idx1 {l : Launch} {Z : State} {a0 : Array Value} (hw : ∀ d ∈ tables_1, d.before a0 Z = true) (t : Addr) (kb : ClassId) (ch : Int32) (cs : List Int32) (h0 : Heap) (hE : Ext Z.heap h0) (hch : Own.Lat ch) (hcs : ∀ c ∈ cs, Own.Lat c) (hn : cs.length ≤ 4000) (A : Arv Z h0 t kb .byte (Int32.ofNat cs.length) ((cs.map Own.lo).map Value.int) (.int (0 : Int32))) :
    Own.Ctr false l Z a0 EL (⟨"java/lang/StringLatin1", "indexOf", "([BIII)I"⟩ : MethodName) jdk_43_method_22_code 4 (Option.some Jvm.ClassFile.FieldType.int) ({ frames := 1, cells := 0, slots := 0, locals := 17 } : Room) #[(.ref t), (.int ch), (.int (0 : Int32)), (.int (Int32.ofNat cs.length))] h0 [] (fun (v : Option Value) (h : Heap) => (v = some (.int (-1 : Int32)) ∧ Own.tw cs ch = cs) ∨ ∃ k, k < cs.length ∧ v = some (.int (Int32.ofNat k)) ∧ Own.tw cs ch = cs.take k) := by
  refine Own.Ctr.of pn_7 (ef_6 t ch (0 : Int32) (Int32.ofNat cs.length)) hE (ewEL hw) ?_
  intro p e s m below meth c T0 X0 hsafe
  refine Own.s_iloadN X0 dc_jdk_43_method_22_0 rfl rfl ?_
  refine Own.c_static X0 dc_jdk_43_method_22_1 (tw61 hw) (tw62 hw) (tw59 hw) (tw63 hw) (by decide) [(.int ch)] [] 0 (rm_canEncI hw ch hch h0 X0.hE ) (fun q => nomatch q) Own.Ok.nil (lenOf pd_1 rfl) rfl (Nat.le_of_eq rfl) (by decide) (by decide) (by decide) (by decide) rfl rfl ?_
  intro v1 vm1 T1 h1 L1 X1 V1 Q1
  obtain rfl := Q1
  refine Own.s_ifT X1 dc_jdk_43_method_22_4 ((if0 _ _).trans (feq (show ¬ (1 : Int32) = (0 : Int32) by decide)).2) (by decide) (pc' := 9) (by decide) ?_
  refine Own.s_iloadN X1 dc_jdk_43_method_22_9 rfl rfl ?_
  refine Own.s_iconst X1 dc_jdk_43_method_22_10 (0 : Int32) (by decide) rfl ?_
  refine Own.c_static X1 dc_jdk_43_method_22_11 (tw64 hw) (tw65 hw) (tw66 hw) (tw67 hw) (by decide) [(.int (0 : Int32)), (.int (0 : Int32))] [] 0 (rm_max hw (0 : Int32) (0 : Int32) (by decide) h1 X1.hE ) (fun q => nomatch q) Own.Ok.nil (lenOf pd_2 rfl) rfl (Nat.le_of_eq rfl) (by decide) (by decide) (by decide) (by decide) rfl rfl ?_
  intro v2 vm2 T2 h2 L2 X2 V2 Q2
  obtain rfl := Q2
  refine Own.s_istoreN X2 dc_jdk_43_method_22_14 #[.val (.ref t), .val (.int ch), .val (.int (0 : Int32)), .val (.int (Int32.ofNat cs.length))] rfl rfl ?_
  refine Own.s_iloadN X2 dc_jdk_43_method_22_15 rfl rfl ?_
  refine Own.s_aloadN X2 dc_jdk_43_method_22_16 rfl rfl rfl ?_
  have ex3 : Ext h0 h1 := Own.extK (Own.Ext.rfl' h0) V1.1 all0
  have ex4 : Ext h0 h2 := Own.extK ex3 V2.1 all0
  have A_5 := Arv.ext A ex4
  refine Own.s_arraylength X2 dc_jdk_43_method_22_17 A_5 rfl ?_
  refine Own.c_static X2 dc_jdk_43_method_22_18 (tw68 hw) (tw69 hw) (tw66 hw) (tw70 hw) (by decide) [(.int (Int32.ofNat cs.length)), (.int (Int32.ofNat cs.length))] [] 0 (rm_min hw (Int32.ofNat cs.length) (Int32.ofNat cs.length) Int32.lt_irrefl h2 X2.hE ) (fun q => nomatch q) Own.Ok.nil (lenOf pd_2 rfl) rfl (Nat.le_of_eq rfl) (by decide) (by decide) (by decide) (by decide) rfl rfl ?_
  intro v6 vm6 T6 h6 L6 X6 V6 Q6
  obtain rfl := Q6
  refine Own.s_istoreN X6 dc_jdk_43_method_22_21 #[.val (.ref t), .val (.int ch), .val (.int (0 : Int32)), .val (.int (Int32.ofNat cs.length))] rfl rfl ?_
  refine Own.s_iloadN X6 dc_jdk_43_method_22_22 rfl rfl ?_
  refine Own.s_iloadN X6 dc_jdk_43_method_22_23 rfl rfl ?_
  by_cases hc24_7 : (0 : Int32) < (Int32.ofNat cs.length)
  · refine Own.s_icmpT X6 dc_jdk_43_method_22_24 (tlt hc24_7).1 (by decide) (pc' := 29) (by decide) ?_
    refine Own.s_aloadN X6 dc_jdk_43_method_22_29 rfl rfl rfl ?_
    refine Own.s_iloadN X6 dc_jdk_43_method_22_30 rfl rfl ?_
    refine Own.s_iloadN X6 dc_jdk_43_method_22_31 rfl rfl ?_
    refine Own.s_iloadN X6 dc_jdk_43_method_22_32 rfl rfl ?_
    have ex8 : Ext h2 h6 := Own.extK (Own.Ext.rfl' h2) V6.1 all0
    have A_9 := Arv.ext A_5 ex8
    refine Own.c_static X6 dc_jdk_43_method_22_33 (tw82 hw) (tw83 hw) (tw59 hw) (tw84 hw) (by decide) [(.ref t), (.int ch), (.int (0 : Int32)), (.int (Int32.ofNat cs.length))] [] 0 (rm_idxc hw t _ ch cs h6 X6.hE hch hcs hn A_9) (fun q => nomatch q) Own.Ok.nil (lenOf pd_3 rfl) rfl (Nat.le_of_eq rfl) (by decide) (by decide) (by decide) (by decide) rfl rfl ?_
    intro v10 vm10 T10 h10 L10 X10 V10 Q10
    rcases Q10 with Q10 | Q10
    · obtain ⟨rfl, hq10⟩ := Q10
      exact Own.r_int X10 rfl dc_jdk_43_method_22_36 (by decide) (by decide) (Or.inl ⟨rfl, hq10⟩)
    · obtain ⟨k10, hk10, rfl, hq10⟩ := Q10
      exact Own.r_int X10 rfl dc_jdk_43_method_22_36 (by decide) (by decide) (Or.inr ⟨k10, hk10, rfl, hq10⟩)
  · refine Own.s_icmpF X6 dc_jdk_43_method_22_24 (flt hc24_7).1 rfl ?_
    refine Own.s_iconst X6 dc_jdk_43_method_22_27 (-1 : Int32) (by decide) rfl ?_
    exact Own.r_int X6 rfl dc_jdk_43_method_22_28 (by decide) (by decide) (Or.inl ⟨rfl, Own.tw_end hc24_7 hn⟩)
set_option maxRecDepth 65536 in
set_option maxHeartbeats 40000000 in
theorem rm_idx2 {l : Launch} {Z : State} {a0 : Array Value} (hw : ∀ d ∈ tables_1, d.before a0 Z = true) (a : Addr) (ch : Int32) (cs : List Int32) {zc : Int32} (SC : Sta Z Z.heap "java/lang/String" "COMPACT_STRINGS" "Z" (.int zc)) (hzc : ¬ zc = 0) {fm : Value} (SF : Sta Z Z.heap "jdk/internal/util/Preconditions" "SIOOBE_FORMATTER" "Ljava/util/function/BiFunction;" fm) (hfm : fm.isRef = true) (h0 : Heap) (hE : Ext Z.heap h0) (hch : Own.Lat ch) (S : Own.Str Z h0 a cs) :
    Own.Ctr false l Z a0 EL (⟨"java/lang/String", "indexOf", "(II)I"⟩ : MethodName) jdk_42_method_80_code 3 (Option.some Jvm.ClassFile.FieldType.int) ({ frames := 2, cells := 0, slots := 0, locals := 32 } : Room) #[(.ref a), (.int ch), (.int (0 : Int32))] h0 [] (fun (v : Option Value) (h : Heap) => (v = some (.int (-1 : Int32)) ∧ Own.tw cs ch = cs) ∨ ∃ k, k < cs.length ∧ v = some (.int (Int32.ofNat k)) ∧ Own.tw cs ch = cs.take k) := by
  refine Own.Ctr.of pn_8 (ef_7 a ch (0 : Int32)) hE (ewEL hw) ?_
  intro p e s m below meth c T0 X0 hsafe
  have SC0 := Sta.ext hE SC
  have SF0 := Sta.ext hE SF
  obtain ⟨hl1, hn1, E1, C1, t1, kb1, U1, A1⟩ := id S
  refine Own.s_aloadN X0 dc_jdk_42_method_80_0 rfl rfl rfl ?_
  refine Own.c_virtual X0 dc_jdk_42_method_80_1 (tw41 hw) (tw42 hw) (notFace_of_selects (args := #[]) (mvT X0.hZ (tw44 hw))) (tw44 hw) (tw43 hw) (tw8 hw) (tw45 hw) (by decide) a [] [] 0 E1 (rm_isLat hw a SC hzc SF hfm h0 X0.hE E1 C1) (fun q => nomatch q) Own.Ok.nil (lenOf pd_4 rfl) rfl (Nat.le_of_eq rfl) (by decide) (by decide) (by decide) (by decide) rfl rfl ?_
  intro v2 vm2 T2 h2 L2 X2 V2 Q2
  obtain rfl := Q2
  refine Own.s_ifF X2 dc_jdk_42_method_80_4 ((if0 _ _).trans (feq (show ¬ (1 : Int32) = (0 : Int32) by decide)).1) rfl ?_
  refine Own.s_aloadN X2 dc_jdk_42_method_80_7 rfl rfl rfl ?_
  have ex3 : Ext h0 h2 := Own.extK (Own.Ext.rfl' h0) V2.1 all0
  have F_4 := Fld.ext ex3 U1
  refine Own.s_getfield X2 dc_jdk_42_method_80_8 (tw25 hw) F_4 rfl ?_
  intro T5 X5
  refine Own.s_iloadN X5 dc_jdk_42_method_80_11 rfl rfl ?_
  refine Own.s_iloadN X5 dc_jdk_42_method_80_12 rfl rfl ?_
  refine Own.s_aloadN X5 dc_jdk_42_method_80_13 rfl rfl rfl ?_
  have S_6 := Own.Str.ext S ex3
  have Z_7 := Sta.ext ex3 SC0
  have E_9 := Exa.ext ex3 E1
  refine Own.b_virtual X5 dc_jdk_42_method_80_14 (tw47 hw) (tw48 hw) (notFace_of_selects (args := #[]) (mvT X5.hZ (tw50 hw))) (tw50 hw) (tw49 hw) (by decide) a [] [(.int (0 : Int32)), (.int ch), (.ref t1)] E_9 (Own.strLen (W := 3) X5.hZ (wLen hw) (tw7 hw) S_6 Z_7 hzc (by decide) (by decide)) (fun v h' L q => Own.strLenQ (N := (Int32.ofNat (cs).length)) rfl q) Own.Ok.nil (lenOf pd_5 rfl) rfl (Nat.le_of_eq rfl) (by decide) (by decide) rfl rfl ?_
  intro v8 vm8 T8 h8 L8 X8 V8 Q8
  obtain rfl := Q8
  have ex10 : Ext h0 h8 := Own.extK ex3 V8.1 all0
  have A_11 := Arv.ext A1 ex10
  refine Own.c_static X8 dc_jdk_42_method_80_17 (tw57 hw) (tw58 hw) (tw59 hw) (tw60 hw) (by decide) [(.ref t1), (.int ch), (.int (0 : Int32)), (.int (Int32.ofNat (cs).length))] [] 0 (rm_idx1 hw t1 _ ch cs h8 X8.hE hch hl1 hn1 A_11) (fun q => nomatch q) Own.Ok.nil (lenOf pd_3 rfl) rfl (Nat.le_of_eq rfl) (by decide) (by decide) (by decide) (by decide) rfl rfl ?_
  intro v12 vm12 T12 h12 L12 X12 V12 Q12
  rcases Q12 with Q12 | Q12
  · obtain ⟨rfl, hq12⟩ := Q12
    refine Own.s_goto X12 dc_jdk_42_method_80_20 (by decide) (pc' := 36) (by decide) ?_
    exact Own.r_int X12 rfl dc_jdk_42_method_80_36 (by decide) (by decide) (Or.inl ⟨rfl, hq12⟩)
  · obtain ⟨k12, hk12, rfl, hq12⟩ := Q12
    refine Own.s_goto X12 dc_jdk_42_method_80_20 (by decide) (pc' := 36) (by decide) ?_
    exact Own.r_int X12 rfl dc_jdk_42_method_80_36 (by decide) (by decide) (Or.inr ⟨k12, hk12, rfl, hq12⟩)
set_option maxRecDepth 65536 in
set_option maxHeartbeats 40000000 in
theorem rm_idx {l : Launch} {Z : State} {a0 : Array Value} (hw : ∀ d ∈ tables_1, d.before a0 Z = true) (a : Addr) (ch : Int32) (cs : List Int32) {zc : Int32} (SC : Sta Z Z.heap "java/lang/String" "COMPACT_STRINGS" "Z" (.int zc)) (hzc : ¬ zc = 0) {fm : Value} (SF : Sta Z Z.heap "jdk/internal/util/Preconditions" "SIOOBE_FORMATTER" "Ljava/util/function/BiFunction;" fm) (hfm : fm.isRef = true) (h0 : Heap) (hE : Ext Z.heap h0) (hch : Own.Lat ch) (S : Own.Str Z h0 a cs) :
    Own.Ctr false l Z a0 EL (⟨"java/lang/String", "indexOf", "(I)I"⟩ : MethodName) jdk_42_method_79_code 2 (Option.some Jvm.ClassFile.FieldType.int) ({ frames := 3, cells := 0, slots := 0, locals := 46 } : Room) #[(.ref a), (.int ch)] h0 [] (fun (v : Option Value) (h : Heap) => (v = some (.int (-1 : Int32)) ∧ Own.tw cs ch = cs) ∨ ∃ k, k < cs.length ∧ v = some (.int (Int32.ofNat k)) ∧ Own.tw cs ch = cs.take k) := by
  refine Own.Ctr.of pn_9 (ef_8 a ch) hE (ewEL hw) ?_
  intro p e s m below meth c T0 X0 hsafe
  have SC0 := Sta.ext hE SC
  have SF0 := Sta.ext hE SF
  refine Own.s_aloadN X0 dc_jdk_42_method_79_0 rfl rfl rfl ?_
  refine Own.s_iloadN X0 dc_jdk_42_method_79_1 rfl rfl ?_
  refine Own.s_iconst X0 dc_jdk_42_method_79_2 (0 : Int32) (by decide) rfl ?_
  refine Own.c_virtual X0 dc_jdk_42_method_79_3 (tw36 hw) (tw37 hw) (notFace_of_selects (args := #[]) (mvT X0.hZ (tw39 hw))) (tw39 hw) (tw38 hw) (tw8 hw) (tw40 hw) (by decide) a [(.int ch), (.int (0 : Int32))] [] 0 S.exa (rm_idx2 hw a ch cs SC hzc SF hfm h0 X0.hE hch S) (fun q => nomatch q) Own.Ok.nil (lenOf pd_2 rfl) rfl (Nat.le_of_eq rfl) (by decide) (by decide) (by decide) (by decide) rfl rfl ?_
  intro v1 vm1 T1 h1 L1 X1 V1 Q1
  rcases Q1 with Q1 | Q1
  · obtain ⟨rfl, hq1⟩ := Q1
    exact Own.r_int X1 rfl dc_jdk_42_method_79_6 (by decide) (by decide) (Or.inl ⟨rfl, hq1⟩)
  · obtain ⟨k1, hk1, rfl, hq1⟩ := Q1
    exact Own.r_int X1 rfl dc_jdk_42_method_79_6 (by decide) (by decide) (Or.inr ⟨k1, hk1, rfl, hq1⟩)
set_option maxRecDepth 65536 in
set_option maxHeartbeats 40000000 in
theorem rm_cfti {l : Launch} {Z : State} {a0 : Array Value} (hw : ∀ d ∈ tables_1, d.before a0 Z = true) (b c_ : Int32) (f : Value) (qf : f.isRef = true) (h1 : ¬ b < (0 : Int32)) (h2 : ¬ c_ < b) (h0 : Heap) (hE : Ext Z.heap h0)  :
    Own.Ctr false l Z a0 EL (⟨"jdk/internal/util/Preconditions", "checkFromToIndex", "(IIILjava/util/function/BiFunction;)I"⟩ : MethodName) jdk_41_method_12_code 4 (Option.some Jvm.ClassFile.FieldType.int) ({ frames := 0, cells := 0, slots := 0, locals := 0 } : Room) #[(.int (0 : Int32)), (.int b), (.int c_), f] h0 [] (fun v h => v = some (.int (0 : Int32))) := by
  refine Own.Ctr.of pn_10 (ef_9 (0 : Int32) b c_ f qf) hE (ewEL hw) ?_
  intro p e s m below meth c T0 X0 hsafe
  refine Own.s_iloadN X0 dc_jdk_41_method_12_0 rfl rfl ?_
  refine Own.s_ifF X0 dc_jdk_41_method_12_1 ((if0 _ _).trans (flt (show ¬ (0 : Int32) < (0 : Int32) by decide)).1) rfl ?_
  refine Own.s_iloadN X0 dc_jdk_41_method_12_4 rfl rfl ?_
  refine Own.s_iloadN X0 dc_jdk_41_method_12_5 rfl rfl ?_
  refine Own.s_icmpF X0 dc_jdk_41_method_12_6 (flt h1).2.2.1 rfl ?_
  refine Own.s_iloadN X0 dc_jdk_41_method_12_9 rfl rfl ?_
  refine Own.s_iloadN X0 dc_jdk_41_method_12_10 rfl rfl ?_
  refine Own.s_icmpT X0 dc_jdk_41_method_12_11 (flt h2).2.2.2 (by decide) (pc' := 22) (by decide) ?_
  refine Own.s_iloadN X0 dc_jdk_41_method_12_22 rfl rfl ?_
  exact Own.r_int X0 rfl dc_jdk_41_method_12_23 (by decide) (by decide) (rfl)
set_option maxRecDepth 65536 in
set_option maxHeartbeats 40000000 in
theorem rm_cbbe {l : Launch} {Z : State} {a0 : Array Value} (hw : ∀ d ∈ tables_1, d.before a0 Z = true) (b c_ : Int32) (h1 : ¬ b < (0 : Int32)) (h2 : ¬ c_ < b) {zc : Int32} (SC : Sta Z Z.heap "java/lang/String" "COMPACT_STRINGS" "Z" (.int zc)) (hzc : ¬ zc = 0) {fm : Value} (SF : Sta Z Z.heap "jdk/internal/util/Preconditions" "SIOOBE_FORMATTER" "Ljava/util/function/BiFunction;" fm) (hfm : fm.isRef = true) (h0 : Heap) (hE : Ext Z.heap h0)  :
    Own.Ctr false l Z a0 EL (⟨"java/lang/String", "checkBoundsBeginEnd", "(III)V"⟩ : MethodName) jdk_42_method_158_code 3 (Option.none : Option Jvm.ClassFile.FieldType) ({ frames := 1, cells := 0, slots := 0, locals := 15 } : Room) #[(.int (0 : Int32)), (.int b), (.int c_)] h0 [] (fun v h => v = none) := by
  refine Own.Ctr.of pn_11 (ef_10 (0 : Int32) b c_) hE (ewEL hw) ?_
  intro p e s m below meth c T0 X0 hsafe
  have SC0 := Sta.ext hE SC
  have SF0 := Sta.ext hE SF
  refine Own.s_iloadN X0 dc_jdk_42_method_158_0 rfl rfl ?_
  refine Own.s_iloadN X0 dc_jdk_42_method_158_1 rfl rfl ?_
  refine Own.s_iloadN X0 dc_jdk_42_method_158_2 rfl rfl ?_
  refine Own.s_getstatic X0 dc_jdk_42_method_158_3 (tw96 hw) SF0 rfl ?_
  intro T1 X1
  refine Own.c_static X1 dc_jdk_42_method_158_6 (tw109 hw) (tw110 hw) (tw97 hw) (tw111 hw) (by decide) [(.int (0 : Int32)), (.int b), (.int c_), fm] [] 0 (rm_cfti hw b c_ fm hfm h1 h2 h0 X1.hE ) (fun q => nomatch q) Own.Ok.nil (lenOf pd_6 rfl) rfl (Nat.le_of_eq rfl) (by decide) (by decide) (by decide) (by decide) rfl rfl ?_
  intro v2 vm2 T2 h2 L2 X2 V2 Q2
  obtain rfl := Q2
  refine Own.s_pop X2 dc_jdk_42_method_158_9 rfl rfl ?_
  exact Own.r_void X2 rfl dc_jdk_42_method_158_10 (by decide) (by decide) (rfl)
set_option maxRecDepth 65536 in
set_option maxHeartbeats 40000000 in
theorem rm_clen {l : Launch} {Z : State} {a0 : Array Value} (hw : ∀ d ∈ tables_1, d.before a0 Z = true) (b : Int32) (h1 : ¬ b < (0 : Int32)) (h0 : Heap) (hE : Ext Z.heap h0)  :
    Own.Ctr false l Z a0 EL (⟨"java/util/Arrays", "checkLength", "(II)V"⟩ : MethodName) jdk_65_method_131_code 2 (Option.none : Option Jvm.ClassFile.FieldType) ({ frames := 0, cells := 0, slots := 0, locals := 0 } : Room) #[(.int (0 : Int32)), (.int b)] h0 [] (fun v h => v = none) := by
  refine Own.Ctr.of pn_12 (ef_3 (0 : Int32) b) hE (ewEL hw) ?_
  intro p e s m below meth c T0 X0 hsafe
  refine Own.s_iloadN X0 dc_jdk_65_method_131_0 rfl rfl ?_
  refine Own.s_iloadN X0 dc_jdk_65_method_131_1 rfl rfl ?_
  refine Own.s_icmpT X0 dc_jdk_65_method_131_2 (flt h1).2.1 (by decide) (pc' := 37) (by decide) ?_
  exact Own.r_void X0 rfl dc_jdk_65_method_131_37 (by decide) (by decide) (rfl)
set_option maxRecDepth 65536 in
set_option maxHeartbeats 40000000 in
theorem rm_min2 {l : Launch} {Z : State} {a0 : Array Value} (hw : ∀ d ∈ tables_1, d.before a0 Z = true) (a b : Int32) {b' : Int32} (hab : b < a) (hb' : b = b') (h0 : Heap) (hE : Ext Z.heap h0)  :
    Own.Ctr false l Z a0 EL (⟨"java/lang/Math", "min", "(II)I"⟩ : MethodName) jdk_29_method_69_code 2 (Option.some Jvm.ClassFile.FieldType.int) ({ frames := 0, cells := 0, slots := 0, locals := 0 } : Room) #[(.int a), (.int b)] h0 [] (fun v h => v = some (.int b')) := by
  refine Own.Ctr.of pn_4 (ef_3 a b) hE (ewEL hw) ?_
  intro p e s m below meth c T0 X0 hsafe
  refine Own.s_iloadN X0 dc_jdk_29_method_69_0 rfl rfl ?_
  refine Own.s_iloadN X0 dc_jdk_29_method_69_1 rfl rfl ?_
  refine Own.s_icmpT X0 dc_jdk_29_method_69_2 (tlt hab).2.2.1 (by decide) (pc' := 9) (by decide) ?_
  refine Own.s_iloadN X0 dc_jdk_29_method_69_9 rfl rfl ?_
  exact Own.r_int X0 rfl dc_jdk_29_method_69_10 (by decide) (by decide) (by rw [hb'])
theorem Own.take_range {cs : List Int32} {k : Nat} (hk : k < cs.length) : ((cs.take k).map Own.lo).map Value.int = (List.range k).map fun i => ((cs.map Own.lo).map Value.int).getD ((0 : Int32).toNatClampNeg + i) (.int (0 : Int32)) := by
  have z : (0 : Int32).toNatClampNeg = 0 := by decide
  rw [z]
  apply List.ext_getElem
  · simp; omega
  · intro i h1 h2
    simp only [List.length_map, List.length_take] at h1
    simp [List.getD_eq_getElem?_getD, show i < cs.length by omega]
set_option maxRecDepth 65536 in
set_option maxHeartbeats 40000000 in
theorem rm_corb {l : Launch} {Z : State} {a0 : Array Value} (hw : ∀ d ∈ tables_1, d.before a0 Z = true) (t : Addr) (kb : ClassId) (cs : List Int32) (k : Nat) (h0 : Heap) (hE : Ext Z.heap h0) (hk : k < cs.length) (hcap : cs.length ≤ 8) (A : Arv Z h0 t kb .byte (Int32.ofNat cs.length) ((cs.map Own.lo).map Value.int) (.int (0 : Int32))) :
    Own.Ctr false l Z a0 EL (⟨"java/util/Arrays", "copyOfRangeByte", "([BII)[B"⟩ : MethodName) jdk_65_method_133_code 5 (Option.some (Jvm.ClassFile.FieldType.array Jvm.ClassFile.FieldType.byte)) ({ frames := 1, cells := 1, slots := 8, locals := 18 } : Room) #[(.ref t), (.int (0 : Int32)), (.int (Int32.ofNat k))] h0 [] (fun v h => ∃ t' kb', v = some (.ref t') ∧ h0.size ≤ t' ∧ Arv Z h t' kb' .byte (Int32.ofNat k) (((cs.take k).map Own.lo).map Value.int) (.int (0 : Int32))) := by
  refine Own.Ctr.of pn_13 (ef_11 t (0 : Int32) (Int32.ofNat k)) hE (ewEL hw) ?_
  intro p e s m below meth c T0 X0 hsafe
  have hk0 : ¬ (Int32.ofNat k) < (0 : Int32) := Own.ofNat_nneg (by omega)
  have hkN : ¬ (Int32.ofNat cs.length) < (Int32.ofNat k) := by rw [Own.ofNat_lt (by omega) (by omega)]; omega
  have hkt : ((Int32.ofNat k)).toNatClampNeg = k := Own.ofNat_toNat (by omega)
  have hnt : ((Int32.ofNat cs.length)).toNatClampNeg = cs.length := Own.ofNat_toNat (by omega)
  have z0 : (Int32.ofNat k) - (0 : Int32) = (Int32.ofNat k) := by simp
  have z1 : (Int32.ofNat cs.length) - (0 : Int32) = (Int32.ofNat cs.length) := by simp
  refine Own.s_iloadN X0 dc_jdk_65_method_133_0 rfl rfl ?_
  refine Own.s_iloadN X0 dc_jdk_65_method_133_1 rfl rfl ?_
  refine Own.c_static X0 dc_jdk_65_method_133_2 (tw123 hw) (tw124 hw) (tw118 hw) (tw125 hw) (by decide) [(.int (0 : Int32)), (.int (Int32.ofNat k))] [] 0 (rm_clen hw (Int32.ofNat k) hk0 h0 X0.hE ) (fun q => nomatch q) Own.Ok.nil (lenOf pd_7 rfl) rfl (Nat.le_of_eq rfl) (by decide) (by decide) (by decide) (by decide) rfl rfl ?_
  intro v1 vm1 T1 h1 L1 X1 V1 Q1
  obtain rfl := Q1
  refine Own.s_iloadN X1 dc_jdk_65_method_133_5 rfl rfl ?_
  refine Own.s_iloadN X1 dc_jdk_65_method_133_6 rfl rfl ?_
  refine Own.s_isub X1 dc_jdk_65_method_133_7 rfl ?_
  refine Own.s_istoreN X1 dc_jdk_65_method_133_8 #[.val (.ref t), .val (.int (0 : Int32)), .val (.int (Int32.ofNat k)), .val (.int ((Int32.ofNat k) - (0 : Int32))), .unset] rfl rfl ?_
  refine Own.s_iloadN X1 dc_jdk_65_method_133_9 rfl rfl ?_
  refine Own.s_newarray X1 dc_jdk_65_method_133_10 (tw20 hw) (by rw [z0]; exact hk0) 8 (by rw [z0, hkt]; omega) (by decide) (by decide) (by decide) rfl ?_
  intro b2 T2 h2 k2 X2 V2 g2 A2 O2
  refine Own.s_astore X2 dc_jdk_65_method_133_12 rfl #[.val (.ref t), .val (.int (0 : Int32)), .val (.int (Int32.ofNat k)), .val (.int ((Int32.ofNat k) - (0 : Int32))), .val (.ref b2)] rfl rfl ?_
  refine Own.s_aloadN X2 dc_jdk_65_method_133_14 rfl rfl rfl ?_
  refine Own.s_iloadN X2 dc_jdk_65_method_133_15 rfl rfl ?_
  refine Own.s_aload X2 dc_jdk_65_method_133_16 rfl rfl rfl ?_
  refine Own.s_iconst X2 dc_jdk_65_method_133_18 (0 : Int32) (by decide) rfl ?_
  refine Own.s_aloadN X2 dc_jdk_65_method_133_19 rfl rfl rfl ?_
  have ex3 : Ext h0 h1 := Own.extK (Own.Ext.rfl' h0) V1.1 all0
  have ex4 : Ext h0 h2 := Own.extK ex3 V2.1 all0
  have A_5 := Arv.ext A ex4
  refine Own.s_arraylength X2 dc_jdk_65_method_133_20 A_5 rfl ?_
  refine Own.s_iloadN X2 dc_jdk_65_method_133_21 rfl rfl ?_
  refine Own.s_isub X2 dc_jdk_65_method_133_22 rfl ?_
  refine Own.s_iloadN X2 dc_jdk_65_method_133_23 rfl rfl ?_
  refine Own.c_static X2 dc_jdk_65_method_133_24 (tw126 hw) (tw69 hw) (tw66 hw) (tw70 hw) (by decide) [(.int ((Int32.ofNat cs.length) - (0 : Int32))), (.int ((Int32.ofNat k) - (0 : Int32)))] [(.int (0 : Int32)), (.ref b2), (.int (0 : Int32)), (.ref t)] 4 (rm_min2 hw ((Int32.ofNat cs.length) - (0 : Int32)) ((Int32.ofNat k) - (0 : Int32)) (by rw [z0, z1, Own.ofNat_lt (by omega) (by omega)]; exact hk) z0 h2 X2.hE) (fun q => nomatch q) Own.Ok.nil (lenOf pd_2 rfl) rfl (Nat.le_of_eq rfl) (by decide) (by decide) (by decide) (by decide) rfl rfl ?_
  intro v6 vm6 T6 h6 L6 X6 V6 Q6
  obtain rfl := Q6
  have ex8 : Ext h2 h6 := Own.extK (Own.Ext.rfl' h2) V6.1 all0
  have A_9 := Arv.ext A_5 ex8
  have A_10 := Arv.ext A2 ex8
  have O11 := (O2.ev V6)
  have B7 : Arv Z h6 b2 k2 .byte (Int32.ofNat k) (List.replicate k (.int (0 : Int32))) (.int (0 : Int32)) := by
    have q := A_10.pad (pad_rep [] (.int (0 : Int32)) k)
    rw [z0] at q; exact q
  refine Own.s_arraycopy (us := ((cs.take k).map Own.lo).map Value.int) (vd' := ((cs.take k).map Own.lo).map Value.int) X6 dc_jdk_65_method_133_27 (tw127 hw) (tw130 hw) (tw128 hw) (tw129 hw) A_9 B7 rfl (by decide) (by decide) hk0 (by rw [hkt, hnt]; show 0 + k ≤ _; omega) (by rw [hkt]; show 0 + k ≤ _; omega) (by rw [hkt]; exact Own.take_range hk) (by rw [hkt]; simp) (by rw [hkt]; simp) O11 rfl 0 (Nat.le_of_eq rfl) (by decide) (by decide) rfl ?_
  intro T7 h7 L7 X7 V7 A7
  refine Own.s_aload X7 dc_jdk_65_method_133_30 rfl rfl rfl ?_
  have le12 : h0.size ≤ h1.size := V1.1.1
  exact Own.r_ref X7 rfl rfl rfl dc_jdk_65_method_133_32 (by decide) (by decide) (⟨b2, k2, rfl, (Nat.le_trans le12 g2), A7⟩)
set_option maxRecDepth 65536 in
set_option maxHeartbeats 40000000 in
theorem rm_cor {l : Launch} {Z : State} {a0 : Array Value} (hw : ∀ d ∈ tables_1, d.before a0 Z = true) (t : Addr) (kb : ClassId) (cs : List Int32) (k : Nat) (h0 : Heap) (hE : Ext Z.heap h0) (hk : k < cs.length) (hcap : cs.length ≤ 8) (A : Arv Z h0 t kb .byte (Int32.ofNat cs.length) ((cs.map Own.lo).map Value.int) (.int (0 : Int32))) :
    Own.Ctr false l Z a0 EL (⟨"java/util/Arrays", "copyOfRange", "([BII)[B"⟩ : MethodName) jdk_65_method_132_code 3 (Option.some (Jvm.ClassFile.FieldType.array Jvm.ClassFile.FieldType.byte)) ({ frames := 2, cells := 1, slots := 8, locals := 34 } : Room) #[(.ref t), (.int (0 : Int32)), (.int (Int32.ofNat k))] h0 [] (fun v h => ∃ t' kb', v = some (.ref t') ∧ h0.size ≤ t' ∧ Arv Z h t' kb' .byte (Int32.ofNat k) (((cs.take k).map Own.lo).map Value.int) (.int (0 : Int32))) := by
  refine Own.Ctr.of pn_14 (ef_7 t (0 : Int32) (Int32.ofNat k)) hE (ewEL hw) ?_
  intro p e s m below meth c T0 X0 hsafe
  have hk0 : ¬ (Int32.ofNat k) < (0 : Int32) := Own.ofNat_nneg (by omega)
  have hkN : ¬ (Int32.ofNat cs.length) < (Int32.ofNat k) := by rw [Own.ofNat_lt (by omega) (by omega)]; omega
  have hkt : ((Int32.ofNat k)).toNatClampNeg = k := Own.ofNat_toNat (by omega)
  have hnt : ((Int32.ofNat cs.length)).toNatClampNeg = cs.length := Own.ofNat_toNat (by omega)
  have hkne : ¬ (Int32.ofNat k) = (Int32.ofNat cs.length) := fun q => by
    have r := congrArg Int32.toNatClampNeg q
    rw [hkt, hnt] at r; omega
  refine Own.s_iloadN X0 dc_jdk_65_method_132_0 rfl rfl ?_
  refine Own.s_ifF X0 dc_jdk_65_method_132_1 ((if0 _ _).trans (teq (show (0 : Int32) = (0 : Int32) by decide)).2) rfl ?_
  refine Own.s_iloadN X0 dc_jdk_65_method_132_4 rfl rfl ?_
  refine Own.s_aloadN X0 dc_jdk_65_method_132_5 rfl rfl rfl ?_
  refine Own.s_arraylength X0 dc_jdk_65_method_132_6 A rfl ?_
  refine Own.s_icmpF X0 dc_jdk_65_method_132_7 (feq hkne).1 rfl ?_
  refine Own.s_aloadN X0 dc_jdk_65_method_132_10 rfl rfl rfl ?_
  refine Own.s_iloadN X0 dc_jdk_65_method_132_11 rfl rfl ?_
  refine Own.s_iloadN X0 dc_jdk_65_method_132_12 rfl rfl ?_
  refine Own.c_static X0 dc_jdk_65_method_132_13 (tw120 hw) (tw121 hw) (tw118 hw) (tw122 hw) (by decide) [(.ref t), (.int (0 : Int32)), (.int (Int32.ofNat k))] [] 0 (rm_corb hw t _ cs k h0 X0.hE hk hcap A) (fun q => nomatch q) Own.Ok.nil (lenOf pd_8 rfl) rfl (Nat.le_of_eq rfl) (by decide) (by decide) (by decide) (by decide) rfl rfl ?_
  intro v1 vm1 T1 h1 L1 X1 V1 Q1
  obtain ⟨t1, kb1, rfl, g1, A1⟩ := Q1
  exact Own.r_ref X1 rfl rfl rfl dc_jdk_65_method_132_16 (by decide) (by decide) (⟨t1, kb1, rfl, g1, A1⟩)
set_option maxRecDepth 65536 in
set_option maxHeartbeats 40000000 in
theorem rm_strBB {l : Launch} {Z : State} {a0 : Array Value} (hw : ∀ d ∈ tables_1, d.before a0 Z = true) (a : Addr) (t : Addr)  (h0 : Heap) (hE : Ext Z.heap h0) (ga : Z.heap.size ≤ a) (E : Exa Z h0 a "java/lang/String") (F_value : Fld Z h0 a "java/lang/String" "value" "[B" .null) (F_coder : Fld Z h0 a "java/lang/String" "coder" "B" (.int 0))  :
    Own.Ctr false l Z a0 EL (⟨"java/lang/String", "<init>", "([BB)V"⟩ : MethodName) jdk_42_method_151_code 3 (Option.none : Option Jvm.ClassFile.FieldType) ({ frames := 1, cells := 0, slots := 0, locals := 12 } : Room) #[(.ref a), (.ref t), (.int (0 : Int32))] h0 [a] (fun v h => v = none ∧ Exa Z h a "java/lang/String" ∧ Fld Z h a "java/lang/String" "value" "[B" (.ref t) ∧ Fld Z h a "java/lang/String" "coder" "B" (.int (0 : Int32))) := by
  refine Own.Ctr.of pn_15 (ef_12 a t (0 : Int32)) hE (ewEL hw) ?_
  intro p e s m below meth c T0 X0 hsafe
  have O0 : Own.Ok false Z EL h0 [a] s.vm h0 a := ⟨E.lt, ga, Or.inl (List.mem_singleton.mpr rfl), fun q => hsafe q _ (List.mem_singleton.mpr rfl)⟩
  refine Own.s_aloadN X0 dc_jdk_42_method_151_0 rfl rfl rfl ?_
  refine Own.s_initO X0 dc_jdk_42_method_151_1 (tw16 hw) (tw17 hw) (tw18 hw) 0 (Nat.le_of_eq rfl) (by decide) (by decide) rfl rfl ?_
  intro T1 X1
  refine Own.s_aloadN X1 dc_jdk_42_method_151_4 rfl rfl rfl ?_
  refine Own.s_aloadN X1 dc_jdk_42_method_151_5 rfl rfl rfl ?_
  refine Own.s_putfield X1 dc_jdk_42_method_151_6 (tw25 hw) F_value E (Or.inr ⟨(tw21 hw), rfl, rfl⟩) (tw7 hw) (ty := (.array .byte)) (by decide) rfl rfl O0 rfl ?_
  intro T2 h2 X2 V2 W2
  have F2 := Fld.same W2 F_value
  refine Own.s_aloadN X2 dc_jdk_42_method_151_9 rfl rfl rfl ?_
  refine Own.s_iloadN X2 dc_jdk_42_method_151_10 rfl rfl ?_
  have F_4 := (Fld.other W2 F_coder (Or.inr (slot_ne (Or.inr (tw22 hw)) (Or.inr (tw21 hw)) (by decide) (t := .byte) (t' := (.array .byte)) (by decide) (by decide))))
  have E_5 := (Exa.keep E V2.1)
  have O6 := (O0.ev V2)
  refine Own.s_putfieldN X2 dc_jdk_42_method_151_11 (tw26 hw) F_4 E_5 (Or.inr ⟨(tw22 hw), rfl, rfl⟩) (tw7 hw) (ty := .byte) (v' := (.int (0 : Int32))) (by decide) (by decide) (by decide) O6 rfl ?_
  intro T3 h3 X3 V3 W3
  have F3 := Fld.same W3 F_4
  have E_7 := (Exa.keep E_5 V3.1)
  have F_8 := (Fld.other W3 F2 (Or.inr (slot_ne (Or.inr (tw21 hw)) (Or.inr (tw22 hw)) (by decide) (t := (.array .byte)) (t' := .byte) (by decide) (by decide))))
  exact Own.r_void X3 rfl dc_jdk_42_method_151_14 (by decide) (by decide) (⟨rfl, E_7, F_8, F3⟩)
theorem Own.take0 {cs : List Int32} {k : Nat} {z : Int32} (h : z.toNatClampNeg = k) (hz : z = 0) : cs.take k = [] := by
  rw [hz] at h
  have e : (0 : Int32).toNatClampNeg = 0 := by decide
  rw [e] at h; subst h; rfl
set_option maxRecDepth 65536 in
set_option maxHeartbeats 40000000 in
theorem rm_newS {l : Launch} {Z : State} {a0 : Array Value} (hw : ∀ d ∈ tables_1, d.before a0 Z = true) (t : Addr) (kb : ClassId) (cs : List Int32) (k : Nat) (h0 : Heap) (hE : Ext Z.heap h0) (hcs : ∀ c ∈ cs, Own.Lat c) (hk : k < cs.length) (hcap : cs.length ≤ 8) (A : Arv Z h0 t kb .byte (Int32.ofNat cs.length) ((cs.map Own.lo).map Value.int) (.int (0 : Int32))) :
    Own.Ctr true l Z a0 EL (⟨"java/lang/StringLatin1", "newString", "([BII)Ljava/lang/String;"⟩ : MethodName) jdk_43_method_47_code 3 (Option.some (Jvm.ClassFile.FieldType.object "java/lang/String")) ({ frames := 3, cells := 2, slots := 12, locals := 50 } : Room) #[(.ref t), (.int (0 : Int32)), (.int (Int32.ofNat k))] h0 [] (fun v h => ∃ r, v = some (.ref r) ∧ Own.Str Z h r (cs.take k)) := by
  refine Own.Ctr.of pn_16 (ef_7 t (0 : Int32) (Int32.ofNat k)) hE (ewEL hw) ?_
  intro p e s m below meth c T0 X0 hsafe
  have hk0 : ¬ (Int32.ofNat k) < (0 : Int32) := Own.ofNat_nneg (by omega)
  have hkN : ¬ (Int32.ofNat cs.length) < (Int32.ofNat k) := by rw [Own.ofNat_lt (by omega) (by omega)]; omega
  have hkt : ((Int32.ofNat k)).toNatClampNeg = k := Own.ofNat_toNat (by omega)
  have hnt : ((Int32.ofNat cs.length)).toNatClampNeg = cs.length := Own.ofNat_toNat (by omega)
  have za : (0 : Int32) + (Int32.ofNat k) = (Int32.ofNat k) := by simp
  refine Own.s_iloadN X0 dc_jdk_43_method_47_0 rfl rfl ?_
  by_cases hc1_1 : (Int32.ofNat k) = (0 : Int32)
  · refine Own.s_ifF X0 dc_jdk_43_method_47_1 ((if0 _ _).trans (teq hc1_1).2) rfl ?_
    refine Own.s_ldcStr rfl X0 dc_jdk_43_method_47_4 (tw134 hw) (wSA hw) (by decide) (vs := []) (z := (0 : Int32)) ⟨by decide, by decide⟩ (by decide) (by decide) 0 (by decide) (by decide) (by decide) (by decide) rfl ?_
    intro a2 b2 k2 vm2 T2 h2 X2 V2 E2 C2 U2 A2
    have S2 : Own.Str Z h2 a2 [] := Own.Str.mk (by decide) (by decide) E2 C2 U2 A2
    exact Own.r_ref X2 rfl rfl rfl dc_jdk_43_method_47_6 (by decide) (by decide) (⟨a2, rfl, by rw [Own.take0 hkt hc1_1]; exact S2⟩)
  · refine Own.s_ifT X0 dc_jdk_43_method_47_1 ((if0 _ _).trans (feq hc1_1).2) (by decide) (pc' := 7) (by decide) ?_
    refine Own.s_new X0 dc_jdk_43_method_47_7 (tw115 hw) (tw7 hw) (tw8 hw) (by decide) (by decide) rfl ?_
    intro b3 T3 h3 X3 V3 g3 E3 O3 D3
    have F3_value : Fld Z h3 b3 "java/lang/String" "value" "[B" (.null) := D3 (Or.inr (tw21 hw)) (ty := (.array .byte)) (by decide)
    have F3_coder : Fld Z h3 b3 "java/lang/String" "coder" "B" (.int 0) := D3 (Or.inr (tw22 hw)) (ty := .byte) (by decide)
    refine Own.s_dup X3 dc_jdk_43_method_47_10 rfl rfl ?_
    refine Own.s_aloadN X3 dc_jdk_43_method_47_11 rfl rfl rfl ?_
    refine Own.s_iloadN X3 dc_jdk_43_method_47_12 rfl rfl ?_
    refine Own.s_iloadN X3 dc_jdk_43_method_47_13 rfl rfl ?_
    refine Own.s_iloadN X3 dc_jdk_43_method_47_14 rfl rfl ?_
    refine Own.s_iadd X3 dc_jdk_43_method_47_15 rfl ?_
    rw [za]
    have ex4 : Ext h0 h3 := Own.extK (Own.Ext.rfl' h0) V3.1 all0
    have A_5 := Arv.ext A ex4
    refine Own.c_static X3 dc_jdk_43_method_47_16 (tw116 hw) (tw117 hw) (tw118 hw) (tw119 hw) (by decide) [(.ref t), (.int (0 : Int32)), (.int (Int32.ofNat k))] [(.ref b3), (.ref b3)] 2 (rm_cor hw t _ cs k h3 X3.hE hk hcap A_5) (fun q => nomatch q) Own.Ok.nil (lenOf pd_8 rfl) rfl (Nat.le_of_eq rfl) (by decide) (by decide) (by decide) (by decide) rfl rfl ?_
    intro v6 vm6 T6 h6 L6 X6 V6 Q6
    obtain ⟨t6, kb6, rfl, g6, A6⟩ := Q6
    refine Own.s_iconst X6 dc_jdk_43_method_47_19 (0 : Int32) (by decide) rfl ?_
    have ex7 : Ext h3 h6 := Own.extK (Own.Ext.rfl' h3) V6.1 all0
    have F_8 := Fld.ext ex7 F3_value
    have F_9 := Fld.ext ex7 F3_coder
    have E_10 := Exa.ext ex7 E3
    have O11 := (O3.ev V6)
    refine Own.c_special X6 dc_jdk_43_method_47_20 rfl (tw131 hw) (tw132 hw) (tw8 hw) (tw133 hw) (by decide) b3 [(.ref t6), (.int (0 : Int32))] [(.ref b3)] 1 (rm_strBB hw b3 t6  h6 X6.hE O11.2.1 E_10 F_8 F_9 ) (fun q => nomatch q) (Own.Ok.one O11) (lenOf pd_9 rfl) rfl (Nat.le_of_eq rfl) (by decide) (by decide) (by decide) (by decide) rfl rfl ?_
    intro v12 vm12 T12 h12 L12 X12 V12 Q12
    obtain ⟨rfl, E12, F12_0, F12_1⟩ := Q12
    have ne13 : t6 ≠ b3 := (Nat.ne_of_gt (Nat.lt_of_lt_of_le E3.lt g6))
    have A_14 := (Arv.keep A6 V12.1 (ninS ne13 nin0))
    exact Own.r_ref X12 rfl rfl rfl dc_jdk_43_method_47_23 (by decide) (by decide) (⟨b3, rfl, Own.Str.mk (cs := cs.take k) ⟨fun c hc => hcs c (List.mem_of_mem_take hc), rfl⟩ ⟨by rw [List.length_take]; omega, by rw [List.length_take, Nat.min_eq_left (by omega)]⟩ E12 F12_1 F12_0 A_14⟩)
set_option maxRecDepth 65536 in
set_option maxHeartbeats 40000000 in
theorem rm_sub0 {l : Launch} {Z : State} {a0 : Array Value} (hw : ∀ d ∈ tables_1, d.before a0 Z = true) (a : Addr) (cs : List Int32) (k : Nat) {zc : Int32} (SC : Sta Z Z.heap "java/lang/String" "COMPACT_STRINGS" "Z" (.int zc)) (hzc : ¬ zc = 0) {fm : Value} (SF : Sta Z Z.heap "jdk/internal/util/Preconditions" "SIOOBE_FORMATTER" "Ljava/util/function/BiFunction;" fm) (hfm : fm.isRef = true) (h0 : Heap) (hE : Ext Z.heap h0) (hk : k < cs.length) (hcap : cs.length ≤ 8) (S : Own.Str Z h0 a cs) :
    Own.Ctr true l Z a0 EL (⟨"java/lang/String", "substring", "(II)Ljava/lang/String;"⟩ : MethodName) jdk_42_method_92_code 5 (Option.some (Jvm.ClassFile.FieldType.object "java/lang/String")) ({ frames := 4, cells := 2, slots := 12, locals := 64 } : Room) #[(.ref a), (.int (0 : Int32)), (.int (Int32.ofNat k))] h0 [] (fun v h => ∃ r, v = some (.ref r) ∧ Own.Str Z h r (cs.take k)) := by
  refine Own.Ctr.of pn_17 (ef_11 a (0 : Int32) (Int32.ofNat k)) hE (ewEL hw) ?_
  intro p e s m below meth c T0 X0 hsafe
  have SC0 := Sta.ext hE SC
  have SF0 := Sta.ext hE SF
  obtain ⟨hl1, hn1, E1, C1, t1, kb1, U1, A1⟩ := id S
  have hk0 : ¬ (Int32.ofNat k) < (0 : Int32) := Own.ofNat_nneg (by omega)
  have hkN : ¬ (Int32.ofNat cs.length) < (Int32.ofNat k) := by rw [Own.ofNat_lt (by omega) (by omega)]; omega
  have hkt : ((Int32.ofNat k)).toNatClampNeg = k := Own.ofNat_toNat (by omega)
  have hnt : ((Int32.ofNat cs.length)).toNatClampNeg = cs.length := Own.ofNat_toNat (by omega)
  have hkne : ¬ (Int32.ofNat k) = (Int32.ofNat cs.length) := fun q => by
    have r := congrArg Int32.toNatClampNeg q
    rw [hkt, hnt] at r; omega
  have zs : (Int32.ofNat k) - (0 : Int32) = (Int32.ofNat k) := by simp
  refine Own.s_aloadN X0 dc_jdk_42_method_92_0 rfl rfl rfl ?_
  refine Own.b_virtual X0 dc_jdk_42_method_92_1 (tw47 hw) (tw48 hw) (notFace_of_selects (args := #[]) (mvT X0.hZ (tw50 hw))) (tw50 hw) (tw49 hw) (by decide) a [] [] E1 (Own.strLen (W := 0) X0.hZ (wLen hw) (tw7 hw) S SC0 hzc (by decide) (by decide)) (fun v h' L q => Own.strLenQ (N := (Int32.ofNat (cs).length)) rfl q) Own.Ok.nil (lenOf pd_5 rfl) rfl (Nat.le_of_eq rfl) (by decide) (by decide) rfl rfl ?_
  intro v2 vm2 T2 h2 L2 X2 V2 Q2
  obtain rfl := Q2
  refine Own.s_istoreN X2 dc_jdk_42_method_92_4 #[.val (.ref a), .val (.int (0 : Int32)), .val (.int (Int32.ofNat k)), .val (.int (Int32.ofNat (cs).length)), .unset] rfl rfl ?_
  refine Own.s_iloadN X2 dc_jdk_42_method_92_5 rfl rfl ?_
  refine Own.s_iloadN X2 dc_jdk_42_method_92_6 rfl rfl ?_
  refine Own.s_iloadN X2 dc_jdk_42_method_92_7 rfl rfl ?_
  refine Own.c_static X2 dc_jdk_42_method_92_8 (tw106 hw) (tw107 hw) (tw8 hw) (tw108 hw) (by decide) [(.int (0 : Int32)), (.int (Int32.ofNat k)), (.int (Int32.ofNat (cs).length))] [] 0 (rm_cbbe hw (Int32.ofNat k) (Int32.ofNat (cs).length) hk0 hkN SC hzc SF hfm h2 X2.hE ) (fun q => nomatch q) Own.Ok.nil (lenOf pd_10 rfl) rfl (Nat.le_of_eq rfl) (by decide) (by decide) (by decide) (by decide) rfl rfl ?_
  intro v3 vm3 T3 h3 L3 X3 V3 Q3
  obtain rfl := Q3
  refine Own.s_iloadN X3 dc_jdk_42_method_92_11 rfl rfl ?_
  refine Own.s_ifF X3 dc_jdk_42_method_92_12 ((if0 _ _).trans (teq (show (0 : Int32) = (0 : Int32) by decide)).2) rfl ?_
  refine Own.s_iloadN X3 dc_jdk_42_method_92_15 rfl rfl ?_
  refine Own.s_iloadN X3 dc_jdk_42_method_92_16 rfl rfl ?_
  refine Own.s_icmpT X3 dc_jdk_42_method_92_17 (feq hkne).2 (by decide) (pc' := 22) (by decide) ?_
  refine Own.s_iloadN X3 dc_jdk_42_method_92_22 rfl rfl ?_
  refine Own.s_iloadN X3 dc_jdk_42_method_92_23 rfl rfl ?_
  refine Own.s_isub X3 dc_jdk_42_method_92_24 rfl ?_
  refine Own.s_istore X3 dc_jdk_42_method_92_25 #[.val (.ref a), .val (.int (0 : Int32)), .val (.int (Int32.ofNat k)), .val (.int (Int32.ofNat (cs).length)), .val (.int ((Int32.ofNat k) - (0 : Int32)))] rfl rfl ?_
  refine Own.s_aloadN X3 dc_jdk_42_method_92_27 rfl rfl rfl ?_
  have ex4 : Ext h0 h2 := Own.extK (Own.Ext.rfl' h0) V2.1 all0
  have ex5 : Ext h0 h3 := Own.extK ex4 V3.1 all0
  have E_6 := Exa.ext ex5 E1
  have F_7 := Fld.ext ex5 C1
  refine Own.c_virtual X3 dc_jdk_42_method_92_28 (tw41 hw) (tw42 hw) (notFace_of_selects (args := #[]) (mvT X3.hZ (tw44 hw))) (tw44 hw) (tw43 hw) (tw8 hw) (tw45 hw) (by decide) a [] [] 0 E_6 (rm_isLat hw a SC hzc SF hfm h3 X3.hE E_6 F_7) (fun q => nomatch q) Own.Ok.nil (lenOf pd_4 rfl) rfl (Nat.le_of_eq rfl) (by decide) (by decide) (by decide) (by decide) rfl rfl ?_
  intro v8 vm8 T8 h8 L8 X8 V8 Q8
  obtain rfl := Q8
  refine Own.s_ifF X8 dc_jdk_42_method_92_31 ((if0 _ _).trans (feq (show ¬ (1 : Int32) = (0 : Int32) by decide)).1) rfl ?_
  refine Own.s_aloadN X8 dc_jdk_42_method_92_34 rfl rfl rfl ?_
  have ex9 : Ext h0 h8 := Own.extK ex5 V8.1 all0
  have F_10 := Fld.ext ex9 U1
  refine Own.s_getfield X8 dc_jdk_42_method_92_35 (tw25 hw) F_10 rfl ?_
  intro T11 X11
  refine Own.s_iloadN X11 dc_jdk_42_method_92_38 rfl rfl ?_
  refine Own.s_iload X11 dc_jdk_42_method_92_39 rfl rfl ?_
  rw [zs]
  have A_12 := Arv.ext A1 ex9
  refine Own.c_static X11 dc_jdk_42_method_92_41 (tw112 hw) (tw113 hw) (tw59 hw) (tw114 hw) (by decide) [(.ref t1), (.int (0 : Int32)), (.int (Int32.ofNat k))] [] 0 (rm_newS hw t1 _ cs k h8 X11.hE hl1 hk hcap A_12) (fun _ => rfl) Own.Ok.nil (lenOf pd_11 rfl) rfl (Nat.le_of_eq rfl) (by decide) (by decide) (by decide) (by decide) rfl rfl ?_
  intro v13 vm13 T13 h13 L13 X13 V13 Q13
  obtain ⟨r13, rfl, S13⟩ := Q13
  refine Own.s_goto X13 dc_jdk_42_method_92_44 (by decide) (pc' := 57) (by decide) ?_
  exact Own.r_ref X13 rfl rfl rfl dc_jdk_42_method_92_57 (by decide) (by decide) (⟨r13, rfl, S13⟩)
set_option maxRecDepth 65536 in
set_option maxHeartbeats 40000000 in
theorem rm_ch {l : Launch} {Z : State} {a0 : Array Value} (hw : ∀ d ∈ tables_1, d.before a0 Z = true) (p0 : Int32) (h0 : Heap) (hE : Ext Z.heap h0)  :
    Own.Ctr false l Z a0 EL (⟨"com/example/fedweave/fedweave/RedirectBindingWithoutFragmentPinLaw", "ch", "(I)C"⟩ : MethodName) method_2_code 1 (Option.some Jvm.ClassFile.FieldType.char) ({ frames := 0, cells := 0, slots := 0, locals := 0 } : Room) #[(.int p0)] h0 [] (fun v h => ∃ z, v = some (.int z) ∧ Own.Lat z) := by
  refine Own.Ctr.of pn_18 (ef_4 p0) hE (ewEL hw) ?_
  intro p e s m below meth c T0 X0 hsafe
  refine Own.s_iloadN X0 dc_method_2_0 rfl rfl ?_
  refine Own.s_sipush X0 dc_method_2_1 (256 : Int32) (by decide) rfl ?_
  refine Own.s_iand X0 dc_method_2_4 rfl ?_
  by_cases hc5_1 : (p0 &&& (256 : Int32)) = (0 : Int32)
  · refine Own.s_ifT X0 dc_method_2_5 ((if0 _ _).trans (teq hc5_1).1) (by decide) (pc' := 13) (by decide) ?_
    refine Own.s_iloadN X0 dc_method_2_13 rfl rfl ?_
    refine Own.s_sipush X0 dc_method_2_14 (255 : Int32) (by decide) rfl ?_
    refine Own.s_iand X0 dc_method_2_17 rfl ?_
    refine Own.s_i2cM X0 dc_method_2_18 rfl ?_
    exact Own.r_nar X0 rfl (Or.inr (Or.inr (Or.inl rfl))) dc_method_2_19 (by decide) (by decide) (⟨_, congrArg some (congrArg Value.int (Own.nar_mask _)), Own.lat_mask _⟩)
  · refine Own.s_ifF X0 dc_method_2_5 ((if0 _ _).trans (feq hc5_1).1) rfl ?_
    refine Own.s_bipush X0 dc_method_2_8 (35 : Int32) (by decide) rfl ?_
    refine Own.s_goto X0 dc_method_2_10 (by decide) (pc' := 19) (by decide) ?_
    exact Own.r_nar X0 rfl (Or.inr (Or.inr (Or.inl rfl))) dc_method_2_19 (by decide) (by decide) (⟨_, rfl, by decide⟩)
set_option maxRecDepth 65536 in
set_option maxHeartbeats 40000000 in
theorem rm_wf {l : Launch} {Z : State} {a0 : Array Value} (hw : ∀ d ∈ tables_1, d.before a0 Z = true) (a : Addr) (cs : List Int32) {zc : Int32} (SC : Sta Z Z.heap "java/lang/String" "COMPACT_STRINGS" "Z" (.int zc)) (hzc : ¬ zc = 0) {fm : Value} (SF : Sta Z Z.heap "jdk/internal/util/Preconditions" "SIOOBE_FORMATTER" "Ljava/util/function/BiFunction;" fm) (hfm : fm.isRef = true) (h0 : Heap) (hE : Ext Z.heap h0) (hcap : cs.length ≤ 8) (S : Own.Str Z h0 a cs) :
    Own.Ctr true l Z a0 EL (⟨"com/example/fedweave/fedweave/RedirectBinding", "withoutFragment", "(Ljava/lang/String;)Ljava/lang/String;"⟩ : MethodName) prog_80_method_4_code 2 (Option.some (Jvm.ClassFile.FieldType.object "java/lang/String")) ({ frames := 5, cells := 2, slots := 12, locals := 80 } : Room) #[(.ref a)] h0 [] (fun v h => ∃ r, v = some (.ref r) ∧ Own.Str Z h r (Own.tw cs (35 : Int32))) := by
  refine Own.Ctr.of pn_19 (ef_13 a) hE (ewEL hw) ?_
  intro p e s m below meth c T0 X0 hsafe
  have SC0 := Sta.ext hE SC
  have SF0 := Sta.ext hE SF
  refine Own.s_aloadN X0 dc_prog_80_method_4_0 rfl rfl rfl ?_
  refine Own.s_bipush X0 dc_prog_80_method_4_1 (35 : Int32) (by decide) rfl ?_
  refine Own.c_virtual X0 dc_prog_80_method_4_3 (tw31 hw) (tw32 hw) (notFace_of_selects (args := #[]) (mvT X0.hZ (tw34 hw))) (tw34 hw) (tw33 hw) (tw8 hw) (tw35 hw) (by decide) a [(.int (35 : Int32))] [] 0 S.exa (rm_idx hw a (35 : Int32) cs SC hzc SF hfm h0 X0.hE (by decide) S) (fun q => nomatch q) Own.Ok.nil (lenOf pd_12 rfl) rfl (Nat.le_of_eq rfl) (by decide) (by decide) (by decide) (by decide) rfl rfl ?_
  intro v1 vm1 T1 h1 L1 X1 V1 Q1
  rcases Q1 with Q1 | Q1
  · obtain ⟨rfl, hq1⟩ := Q1
    refine Own.s_istoreN X1 dc_prog_80_method_4_6 #[.val (.ref a), .val (.int (-1 : Int32))] rfl rfl ?_
    refine Own.s_iloadN X1 dc_prog_80_method_4_7 rfl rfl ?_
    refine Own.s_ifF X1 dc_prog_80_method_4_8 ((if0 _ _).trans (tlt (show (-1 : Int32) < (0 : Int32) by decide)).2.1) rfl ?_
    refine Own.s_aloadN X1 dc_prog_80_method_4_11 rfl rfl rfl ?_
    refine Own.s_goto X1 dc_prog_80_method_4_12 (by decide) (pc' := 21) (by decide) ?_
    have ex2 : Ext h0 h1 := Own.extK (Own.Ext.rfl' h0) V1.1 all0
    have S_3 := Own.Str.ext S ex2
    exact Own.r_ref X1 rfl rfl rfl dc_prog_80_method_4_21 (by decide) (by decide) (⟨a, rfl, by rw [hq1]; exact S_3⟩)
  · obtain ⟨k1, hk1, rfl, hq1⟩ := Q1
    refine Own.s_istoreN X1 dc_prog_80_method_4_6 #[.val (.ref a), .val (.int (Int32.ofNat k1))] rfl rfl ?_
    refine Own.s_iloadN X1 dc_prog_80_method_4_7 rfl rfl ?_
    refine Own.s_ifT X1 dc_prog_80_method_4_8 ((if0 _ _).trans (flt (Own.ofNat_nneg (by have := hk1; omega))).2.1) (by decide) (pc' := 15) (by decide) ?_
    refine Own.s_aloadN X1 dc_prog_80_method_4_15 rfl rfl rfl ?_
    refine Own.s_iconst X1 dc_prog_80_method_4_16 (0 : Int32) (by decide) rfl ?_
    refine Own.s_iloadN X1 dc_prog_80_method_4_17 rfl rfl ?_
    have ex4 : Ext h0 h1 := Own.extK (Own.Ext.rfl' h0) V1.1 all0
    have S_5 := Own.Str.ext S ex4
    have E_7 := Exa.ext ex4 S.exa
    refine Own.c_virtual X1 dc_prog_80_method_4_18 (tw101 hw) (tw102 hw) (notFace_of_selects (args := #[]) (mvT X1.hZ (tw104 hw))) (tw104 hw) (tw103 hw) (tw8 hw) (tw105 hw) (by decide) a [(.int (0 : Int32)), (.int (Int32.ofNat k1))] [] 0 E_7 (rm_sub0 hw a cs k1 SC hzc SF hfm h1 X1.hE hk1 hcap S_5) (fun _ => rfl) Own.Ok.nil (lenOf pd_13 rfl) rfl (Nat.le_of_eq rfl) (by decide) (by decide) (by decide) (by decide) rfl rfl ?_
    intro v6 vm6 T6 h6 L6 X6 V6 Q6
    obtain ⟨r6, rfl, S6⟩ := Q6
    exact Own.r_ref X6 rfl rfl rfl dc_prog_80_method_4_21 (by decide) (by decide) (⟨r6, rfl, by rw [hq1]; exact S6⟩)
theorem own_gt {i n : Nat} {kk : Int32} (h : Int32.ofNat i < kk) (hk : Int32.ofNat n = kk) (hi : i < 2147483648) (hn : n ≤ 4000) : i < n := by
  subst hk; exact (Own.ofNat_lt hi (by omega)).mp h
theorem own_p6 (q : Int32) : (q &&& (2147483647 : Int32)) % (6 : Int32) = 0 ∨ (q &&& (2147483647 : Int32)) % (6 : Int32) = 1 ∨ (q &&& (2147483647 : Int32)) % (6 : Int32) = 2 ∨ (q &&& (2147483647 : Int32)) % (6 : Int32) = 3 ∨ (q &&& (2147483647 : Int32)) % (6 : Int32) = 4 ∨ (q &&& (2147483647 : Int32)) % (6 : Int32) = 5 := by
  have h1 := (c_and q 2147483647 (by decide)).1
  have h2 := (c_irem (q &&& 2147483647) 6 6 (by decide)).1 h1
  have a0 : (0 : Int32).toInt = 0 := by decide
  have a1 : (1 : Int32).toInt = 1 := by decide
  have a2 : (2 : Int32).toInt = 2 := by decide
  have a3 : (3 : Int32).toInt = 3 := by decide
  have a4 : (4 : Int32).toInt = 4 := by decide
  have a5 : (5 : Int32).toInt = 5 := by decide
  simp only [← Int32.toInt_inj, h2, a0, a1, a2, a3, a4, a5]
  omega
set_option maxRecDepth 65536 in
set_option maxHeartbeats 40000000 in
theorem sg_d {l : Launch} {Z : State} {a0 : Array Value} (hw : ∀ d ∈ tables_1, d.before a0 Z = true) {p : Program} {e : Env} {s : State} {m : MethodId} {below : List Frame} {meth : Method} {c : Code} {vms : Vm} {Ts : State} {h0 h0s : Heap} {locs : List Loc} (p0 p1 p2 p3 p4 p5 : Int32) {zc : Int32} (SC : Sta Z Z.heap "java/lang/String" "COMPACT_STRINGS" "Z" (.int zc)) (hzc : ¬ zc = 0) {fm : Value} (SF : Sta Z Z.heap "jdk/internal/util/Preconditions" "SIOOBE_FORMATTER" "Ljava/util/function/BiFunction;" fm) (hfm : fm.isRef = true) (nn kk c0 c1 c2 c3 c4 : Int32) (bb ua : Addr) (cs ws : List Int32)
    (Xs : Own.Wk p l e room_1 s m #[(.int p0), (.int p1), (.int p2), (.int p3), (.int p4), (.int p5)] below meth c Z a0 EL x code maxLocals ret true h0 [] vms Ts h0s locs 8 40) (S : Own.Str Z h0s ua cs) (hcap : cs.length ≤ 8) (htw : Own.tw cs (35 : Int32) = ws) (hws : ws.length ≤ 4000) (hkk : Int32.ofNat ws.length = kk) (hg0 : 0 < ws.length → ws.getD 0 0 = c0) (hg1 : 1 < ws.length → ws.getD 1 0 = c1) (hg2 : 2 < ws.length → ws.getD 2 0 = c2) (hg3 : 3 < ws.length → ws.getD 3 0 = c3) (hg4 : 4 < ws.length → ws.getD 4 0 = c4) :
    Own.Go p e below (Own.Done true Z EL room_1 s h0 [] (fun v h => v = some (.int (1 : Int32)))) Ts (mkF m 284 #[.val (.int p0), .val (.int p1), .val (.int p2), .val (.int p3), .val (.int p4), .val (.int p5), .val (.int nn), .val (.int c0), .val (.int c1), .val (.int c2), .val (.int c3), .val (.int c4), .val (.ref bb), .val (.ref ua), .val (.int kk), .unset] []) := by
  have hE := Xs.hE
  have SC0 := Sta.ext hE SC
  have SF0 := Sta.ext hE SF
  refine Own.s_aload Xs at_284 rfl rfl rfl ?_
  refine Own.c_static Xs at_286 (tw27 hw) (tw28 hw) (tw29 hw) (tw30 hw) (by decide) [(.ref ua)] [] 0 (rm_wf hw ua cs SC hzc SF hfm h0s Xs.hE hcap S) (fun _ => rfl) Own.Ok.nil (lenOf pd_14 rfl) rfl (Nat.le_of_eq rfl) (by decide) (by decide) (by decide) (by decide) rfl rfl ?_
  intro v1 vm1 T1 h1 L1 X1 V1 Q1
  obtain ⟨r1, rfl, S1⟩ := Q1
  rw [htw] at S1
  refine Own.s_astore X1 at_289 rfl #[.val (.int p0), .val (.int p1), .val (.int p2), .val (.int p3), .val (.int p4), .val (.int p5), .val (.int nn), .val (.int c0), .val (.int c1), .val (.int c2), .val (.int c3), .val (.int c4), .val (.ref bb), .val (.ref ua), .val (.int kk), .val (.ref r1)] rfl rfl ?_
  refine Own.s_aload X1 at_291 rfl rfl rfl ?_
  refine Own.s_ifnullF X1 at_293 rfl ?_
  refine Own.s_aload X1 at_296 rfl rfl rfl ?_
  have ex2 : Ext h0s h1 := Own.extK (Own.Ext.rfl' h0s) V1.1 all0
  have Z_3 := Sta.ext ex2 SC0
  refine Own.b_virtual X1 at_298 (tw71 hw) (tw48 hw) (notFace_of_selects (args := #[]) (mvT X1.hZ (tw50 hw))) (tw50 hw) (tw49 hw) (by decide) r1 [] [] S1.exa (Own.strLen (W := 0) X1.hZ (wLen hw) (tw7 hw) S1 Z_3 hzc (by decide) (by decide)) (fun v h' L q => Own.strLenQ (N := (Int32.ofNat (ws).length)) rfl q) Own.Ok.nil (lenOf pd_5 rfl) rfl (Nat.le_of_eq rfl) (by decide) (by decide) rfl rfl ?_
  intro v4 vm4 T4 h4 L4 X4 V4 Q4
  obtain rfl := Q4
  refine Own.s_iload X4 at_301 rfl rfl ?_
  refine Own.s_icmpT X4 at_303 (teq hkk).1 (by decide) (pc' := 308) (by decide) ?_
  refine Own.s_iload X4 at_308 rfl rfl ?_
  by_cases hc310_5 : (0 : Int32) < kk
  · refine Own.s_ifF X4 at_310 ((if0 _ _).trans (tlt hc310_5).2.2.2) rfl ?_
    refine Own.s_aload X4 at_313 rfl rfl rfl ?_
    refine Own.s_iconst X4 at_315 (0 : Int32) (by decide) rfl ?_
    have ex6 : Ext h1 h4 := Own.extK (Own.Ext.rfl' h1) V4.1 all0
    have S_7 := Own.Str.ext S1 ex6
    have Z_8 := Sta.ext ex6 Z_3
    have ex9 : Ext h0s h4 := Own.extK ex2 V4.1 all0
    have Z_10 := Sta.ext ex9 SF0
    have E_12 := Exa.ext ex6 S1.exa
    refine Own.b_virtual X4 at_316 (tw85 hw) (tw86 hw) (notFace_of_selects (args := #[]) (mvT X4.hZ (tw88 hw))) (tw88 hw) (tw87 hw) (by decide) r1 [(.int (0 : Int32))] [] E_12 (Own.strAt (W := 0) (i := 0) X4.hZ (wChN hw) (tw7 hw) S_7 Z_8 hzc Z_10 hfm (own_gt (i := 0) hc310_5 hkk (by decide) hws) (by decide) (by decide) (by decide)) (fun v h' L q => Own.strAtQ (z := c0) (hg0 (own_gt (i := 0) hc310_5 hkk (by decide) hws)) q) Own.Ok.nil (lenOf pd_15 rfl) rfl (Nat.le_of_eq rfl) (by decide) (by decide) rfl rfl ?_
    intro v11 vm11 T11 h11 L11 X11 V11 Q11
    obtain rfl := Q11
    refine Own.s_iload X11 at_319 rfl rfl ?_
    refine Own.s_icmpF X11 at_321 (teq rfl).2 rfl ?_
    refine Own.s_iload X11 at_324 rfl rfl ?_
    refine Own.s_iconst X11 at_326 (1 : Int32) (by decide) rfl ?_
    by_cases hc327_13 : (1 : Int32) < kk
    · refine Own.s_icmpF X11 at_327 (tlt hc327_13).2.2.2 rfl ?_
      refine Own.s_aload X11 at_330 rfl rfl rfl ?_
      refine Own.s_iconst X11 at_332 (1 : Int32) (by decide) rfl ?_
      have ex14 : Ext h4 h11 := Own.extK (Own.Ext.rfl' h4) V11.1 all0
      have S_15 := Own.Str.ext S_7 ex14
      have Z_16 := Sta.ext ex14 Z_8
      have Z_17 := Sta.ext ex14 Z_10
      have E_19 := Exa.ext ex14 E_12
      refine Own.b_virtual X11 at_333 (tw85 hw) (tw86 hw) (notFace_of_selects (args := #[]) (mvT X11.hZ (tw88 hw))) (tw88 hw) (tw87 hw) (by decide) r1 [(.int (1 : Int32))] [] E_19 (Own.strAt (W := 0) (i := 1) X11.hZ (wChN hw) (tw7 hw) S_15 Z_16 hzc Z_17 hfm (own_gt (i := 1) hc327_13 hkk (by decide) hws) (by decide) (by decide) (by decide)) (fun v h' L q => Own.strAtQ (z := c1) (hg1 (own_gt (i := 1) hc327_13 hkk (by decide) hws)) q) Own.Ok.nil (lenOf pd_15 rfl) rfl (Nat.le_of_eq rfl) (by decide) (by decide) rfl rfl ?_
      intro v18 vm18 T18 h18 L18 X18 V18 Q18
      obtain rfl := Q18
      refine Own.s_iload X18 at_336 rfl rfl ?_
      refine Own.s_icmpF X18 at_338 (teq rfl).2 rfl ?_
      refine Own.s_iload X18 at_341 rfl rfl ?_
      refine Own.s_iconst X18 at_343 (2 : Int32) (by decide) rfl ?_
      by_cases hc344_20 : (2 : Int32) < kk
      · refine Own.s_icmpF X18 at_344 (tlt hc344_20).2.2.2 rfl ?_
        refine Own.s_aload X18 at_347 rfl rfl rfl ?_
        refine Own.s_iconst X18 at_349 (2 : Int32) (by decide) rfl ?_
        have ex21 : Ext h11 h18 := Own.extK (Own.Ext.rfl' h11) V18.1 all0
        have S_22 := Own.Str.ext S_15 ex21
        have Z_23 := Sta.ext ex21 Z_16
        have Z_24 := Sta.ext ex21 Z_17
        have E_26 := Exa.ext ex21 E_19
        refine Own.b_virtual X18 at_350 (tw85 hw) (tw86 hw) (notFace_of_selects (args := #[]) (mvT X18.hZ (tw88 hw))) (tw88 hw) (tw87 hw) (by decide) r1 [(.int (2 : Int32))] [] E_26 (Own.strAt (W := 0) (i := 2) X18.hZ (wChN hw) (tw7 hw) S_22 Z_23 hzc Z_24 hfm (own_gt (i := 2) hc344_20 hkk (by decide) hws) (by decide) (by decide) (by decide)) (fun v h' L q => Own.strAtQ (z := c2) (hg2 (own_gt (i := 2) hc344_20 hkk (by decide) hws)) q) Own.Ok.nil (lenOf pd_15 rfl) rfl (Nat.le_of_eq rfl) (by decide) (by decide) rfl rfl ?_
        intro v25 vm25 T25 h25 L25 X25 V25 Q25
        obtain rfl := Q25
        refine Own.s_iload X25 at_353 rfl rfl ?_
        refine Own.s_icmpF X25 at_355 (teq rfl).2 rfl ?_
        refine Own.s_iload X25 at_358 rfl rfl ?_
        refine Own.s_iconst X25 at_360 (3 : Int32) (by decide) rfl ?_
        by_cases hc361_27 : (3 : Int32) < kk
        · refine Own.s_icmpF X25 at_361 (tlt hc361_27).2.2.2 rfl ?_
          refine Own.s_aload X25 at_364 rfl rfl rfl ?_
          refine Own.s_iconst X25 at_366 (3 : Int32) (by decide) rfl ?_
          have ex28 : Ext h18 h25 := Own.extK (Own.Ext.rfl' h18) V25.1 all0
          have S_29 := Own.Str.ext S_22 ex28
          have Z_30 := Sta.ext ex28 Z_23
          have Z_31 := Sta.ext ex28 Z_24
          have E_33 := Exa.ext ex28 E_26
          refine Own.b_virtual X25 at_367 (tw85 hw) (tw86 hw) (notFace_of_selects (args := #[]) (mvT X25.hZ (tw88 hw))) (tw88 hw) (tw87 hw) (by decide) r1 [(.int (3 : Int32))] [] E_33 (Own.strAt (W := 0) (i := 3) X25.hZ (wChN hw) (tw7 hw) S_29 Z_30 hzc Z_31 hfm (own_gt (i := 3) hc361_27 hkk (by decide) hws) (by decide) (by decide) (by decide)) (fun v h' L q => Own.strAtQ (z := c3) (hg3 (own_gt (i := 3) hc361_27 hkk (by decide) hws)) q) Own.Ok.nil (lenOf pd_15 rfl) rfl (Nat.le_of_eq rfl) (by decide) (by decide) rfl rfl ?_
          intro v32 vm32 T32 h32 L32 X32 V32 Q32
          obtain rfl := Q32
          refine Own.s_iload X32 at_370 rfl rfl ?_
          refine Own.s_icmpF X32 at_372 (teq rfl).2 rfl ?_
          refine Own.s_iload X32 at_375 rfl rfl ?_
          refine Own.s_iconst X32 at_377 (4 : Int32) (by decide) rfl ?_
          by_cases hc378_34 : (4 : Int32) < kk
          · refine Own.s_icmpF X32 at_378 (tlt hc378_34).2.2.2 rfl ?_
            refine Own.s_aload X32 at_381 rfl rfl rfl ?_
            refine Own.s_iconst X32 at_383 (4 : Int32) (by decide) rfl ?_
            have ex35 : Ext h25 h32 := Own.extK (Own.Ext.rfl' h25) V32.1 all0
            have S_36 := Own.Str.ext S_29 ex35
            have Z_37 := Sta.ext ex35 Z_30
            have Z_38 := Sta.ext ex35 Z_31
            have E_40 := Exa.ext ex35 E_33
            refine Own.b_virtual X32 at_384 (tw85 hw) (tw86 hw) (notFace_of_selects (args := #[]) (mvT X32.hZ (tw88 hw))) (tw88 hw) (tw87 hw) (by decide) r1 [(.int (4 : Int32))] [] E_40 (Own.strAt (W := 0) (i := 4) X32.hZ (wChN hw) (tw7 hw) S_36 Z_37 hzc Z_38 hfm (own_gt (i := 4) hc378_34 hkk (by decide) hws) (by decide) (by decide) (by decide)) (fun v h' L q => Own.strAtQ (z := c4) (hg4 (own_gt (i := 4) hc378_34 hkk (by decide) hws)) q) Own.Ok.nil (lenOf pd_15 rfl) rfl (Nat.le_of_eq rfl) (by decide) (by decide) rfl rfl ?_
            intro v39 vm39 T39 h39 L39 X39 V39 Q39
            obtain rfl := Q39
            refine Own.s_iload X39 at_387 rfl rfl ?_
            refine Own.s_icmpF X39 at_389 (teq rfl).2 rfl ?_
            refine Own.s_iconst X39 at_392 (1 : Int32) (by decide) rfl ?_
            refine Own.s_goto X39 at_393 (by decide) (pc' := 397) (by decide) ?_
            exact Own.r_nar X39 rfl (Or.inl rfl) at_397 (by decide) (by decide) (by decide)
          · refine Own.s_icmpT X32 at_378 (flt hc378_34).2.2.2 (by decide) (pc' := 392) (by decide) ?_
            refine Own.s_iconst X32 at_392 (1 : Int32) (by decide) rfl ?_
            refine Own.s_goto X32 at_393 (by decide) (pc' := 397) (by decide) ?_
            exact Own.r_nar X32 rfl (Or.inl rfl) at_397 (by decide) (by decide) (by decide)
        · refine Own.s_icmpT X25 at_361 (flt hc361_27).2.2.2 (by decide) (pc' := 375) (by decide) ?_
          refine Own.s_iload X25 at_375 rfl rfl ?_
          refine Own.s_iconst X25 at_377 (4 : Int32) (by decide) rfl ?_
          by_cases hc378_41 : (4 : Int32) < kk
          · refine Own.s_icmpF X25 at_378 (tlt hc378_41).2.2.2 rfl ?_
            refine Own.s_aload X25 at_381 rfl rfl rfl ?_
            refine Own.s_iconst X25 at_383 (4 : Int32) (by decide) rfl ?_
            have ex42 : Ext h18 h25 := Own.extK (Own.Ext.rfl' h18) V25.1 all0
            have S_43 := Own.Str.ext S_22 ex42
            have Z_44 := Sta.ext ex42 Z_23
            have Z_45 := Sta.ext ex42 Z_24
            have E_47 := Exa.ext ex42 E_26
            refine Own.b_virtual X25 at_384 (tw85 hw) (tw86 hw) (notFace_of_selects (args := #[]) (mvT X25.hZ (tw88 hw))) (tw88 hw) (tw87 hw) (by decide) r1 [(.int (4 : Int32))] [] E_47 (Own.strAt (W := 0) (i := 4) X25.hZ (wChN hw) (tw7 hw) S_43 Z_44 hzc Z_45 hfm (own_gt (i := 4) hc378_41 hkk (by decide) hws) (by decide) (by decide) (by decide)) (fun v h' L q => Own.strAtQ (z := c4) (hg4 (own_gt (i := 4) hc378_41 hkk (by decide) hws)) q) Own.Ok.nil (lenOf pd_15 rfl) rfl (Nat.le_of_eq rfl) (by decide) (by decide) rfl rfl ?_
            intro v46 vm46 T46 h46 L46 X46 V46 Q46
            obtain rfl := Q46
            refine Own.s_iload X46 at_387 rfl rfl ?_
            refine Own.s_icmpF X46 at_389 (teq rfl).2 rfl ?_
            refine Own.s_iconst X46 at_392 (1 : Int32) (by decide) rfl ?_
            refine Own.s_goto X46 at_393 (by decide) (pc' := 397) (by decide) ?_
            exact Own.r_nar X46 rfl (Or.inl rfl) at_397 (by decide) (by decide) (by decide)
          · refine Own.s_icmpT X25 at_378 (flt hc378_41).2.2.2 (by decide) (pc' := 392) (by decide) ?_
            refine Own.s_iconst X25 at_392 (1 : Int32) (by decide) rfl ?_
            refine Own.s_goto X25 at_393 (by decide) (pc' := 397) (by decide) ?_
            exact Own.r_nar X25 rfl (Or.inl rfl) at_397 (by decide) (by decide) (by decide)
      · refine Own.s_icmpT X18 at_344 (flt hc344_20).2.2.2 (by decide) (pc' := 358) (by decide) ?_
        refine Own.s_iload X18 at_358 rfl rfl ?_
        refine Own.s_iconst X18 at_360 (3 : Int32) (by decide) rfl ?_
        by_cases hc361_48 : (3 : Int32) < kk
        · refine Own.s_icmpF X18 at_361 (tlt hc361_48).2.2.2 rfl ?_
          refine Own.s_aload X18 at_364 rfl rfl rfl ?_
          refine Own.s_iconst X18 at_366 (3 : Int32) (by decide) rfl ?_
          have ex49 : Ext h11 h18 := Own.extK (Own.Ext.rfl' h11) V18.1 all0
          have S_50 := Own.Str.ext S_15 ex49
          have Z_51 := Sta.ext ex49 Z_16
          have Z_52 := Sta.ext ex49 Z_17
          have E_54 := Exa.ext ex49 E_19
          refine Own.b_virtual X18 at_367 (tw85 hw) (tw86 hw) (notFace_of_selects (args := #[]) (mvT X18.hZ (tw88 hw))) (tw88 hw) (tw87 hw) (by decide) r1 [(.int (3 : Int32))] [] E_54 (Own.strAt (W := 0) (i := 3) X18.hZ (wChN hw) (tw7 hw) S_50 Z_51 hzc Z_52 hfm (own_gt (i := 3) hc361_48 hkk (by decide) hws) (by decide) (by decide) (by decide)) (fun v h' L q => Own.strAtQ (z := c3) (hg3 (own_gt (i := 3) hc361_48 hkk (by decide) hws)) q) Own.Ok.nil (lenOf pd_15 rfl) rfl (Nat.le_of_eq rfl) (by decide) (by decide) rfl rfl ?_
          intro v53 vm53 T53 h53 L53 X53 V53 Q53
          obtain rfl := Q53
          refine Own.s_iload X53 at_370 rfl rfl ?_
          refine Own.s_icmpF X53 at_372 (teq rfl).2 rfl ?_
          refine Own.s_iload X53 at_375 rfl rfl ?_
          refine Own.s_iconst X53 at_377 (4 : Int32) (by decide) rfl ?_
          by_cases hc378_55 : (4 : Int32) < kk
          · refine Own.s_icmpF X53 at_378 (tlt hc378_55).2.2.2 rfl ?_
            refine Own.s_aload X53 at_381 rfl rfl rfl ?_
            refine Own.s_iconst X53 at_383 (4 : Int32) (by decide) rfl ?_
            have ex56 : Ext h18 h53 := Own.extK (Own.Ext.rfl' h18) V53.1 all0
            have S_57 := Own.Str.ext S_50 ex56
            have Z_58 := Sta.ext ex56 Z_51
            have Z_59 := Sta.ext ex56 Z_52
            have E_61 := Exa.ext ex56 E_54
            refine Own.b_virtual X53 at_384 (tw85 hw) (tw86 hw) (notFace_of_selects (args := #[]) (mvT X53.hZ (tw88 hw))) (tw88 hw) (tw87 hw) (by decide) r1 [(.int (4 : Int32))] [] E_61 (Own.strAt (W := 0) (i := 4) X53.hZ (wChN hw) (tw7 hw) S_57 Z_58 hzc Z_59 hfm (own_gt (i := 4) hc378_55 hkk (by decide) hws) (by decide) (by decide) (by decide)) (fun v h' L q => Own.strAtQ (z := c4) (hg4 (own_gt (i := 4) hc378_55 hkk (by decide) hws)) q) Own.Ok.nil (lenOf pd_15 rfl) rfl (Nat.le_of_eq rfl) (by decide) (by decide) rfl rfl ?_
            intro v60 vm60 T60 h60 L60 X60 V60 Q60
            obtain rfl := Q60
            refine Own.s_iload X60 at_387 rfl rfl ?_
            refine Own.s_icmpF X60 at_389 (teq rfl).2 rfl ?_
            refine Own.s_iconst X60 at_392 (1 : Int32) (by decide) rfl ?_
            refine Own.s_goto X60 at_393 (by decide) (pc' := 397) (by decide) ?_
            exact Own.r_nar X60 rfl (Or.inl rfl) at_397 (by decide) (by decide) (by decide)
          · refine Own.s_icmpT X53 at_378 (flt hc378_55).2.2.2 (by decide) (pc' := 392) (by decide) ?_
            refine Own.s_iconst X53 at_392 (1 : Int32) (by decide) rfl ?_
            refine Own.s_goto X53 at_393 (by decide) (pc' := 397) (by decide) ?_
            exact Own.r_nar X53 rfl (Or.inl rfl) at_397 (by decide) (by decide) (by decide)
        · refine Own.s_icmpT X18 at_361 (flt hc361_48).2.2.2 (by decide) (pc' := 375) (by decide) ?_
          refine Own.s_iload X18 at_375 rfl rfl ?_
          refine Own.s_iconst X18 at_377 (4 : Int32) (by decide) rfl ?_
          by_cases hc378_62 : (4 : Int32) < kk
          · refine Own.s_icmpF X18 at_378 (tlt hc378_62).2.2.2 rfl ?_
            refine Own.s_aload X18 at_381 rfl rfl rfl ?_
            refine Own.s_iconst X18 at_383 (4 : Int32) (by decide) rfl ?_
            have ex63 : Ext h11 h18 := Own.extK (Own.Ext.rfl' h11) V18.1 all0
            have S_64 := Own.Str.ext S_15 ex63
            have Z_65 := Sta.ext ex63 Z_16
            have Z_66 := Sta.ext ex63 Z_17
            have E_68 := Exa.ext ex63 E_19
            refine Own.b_virtual X18 at_384 (tw85 hw) (tw86 hw) (notFace_of_selects (args := #[]) (mvT X18.hZ (tw88 hw))) (tw88 hw) (tw87 hw) (by decide) r1 [(.int (4 : Int32))] [] E_68 (Own.strAt (W := 0) (i := 4) X18.hZ (wChN hw) (tw7 hw) S_64 Z_65 hzc Z_66 hfm (own_gt (i := 4) hc378_62 hkk (by decide) hws) (by decide) (by decide) (by decide)) (fun v h' L q => Own.strAtQ (z := c4) (hg4 (own_gt (i := 4) hc378_62 hkk (by decide) hws)) q) Own.Ok.nil (lenOf pd_15 rfl) rfl (Nat.le_of_eq rfl) (by decide) (by decide) rfl rfl ?_
            intro v67 vm67 T67 h67 L67 X67 V67 Q67
            obtain rfl := Q67
            refine Own.s_iload X67 at_387 rfl rfl ?_
            refine Own.s_icmpF X67 at_389 (teq rfl).2 rfl ?_
            refine Own.s_iconst X67 at_392 (1 : Int32) (by decide) rfl ?_
            refine Own.s_goto X67 at_393 (by decide) (pc' := 397) (by decide) ?_
            exact Own.r_nar X67 rfl (Or.inl rfl) at_397 (by decide) (by decide) (by decide)
          · refine Own.s_icmpT X18 at_378 (flt hc378_62).2.2.2 (by decide) (pc' := 392) (by decide) ?_
            refine Own.s_iconst X18 at_392 (1 : Int32) (by decide) rfl ?_
            refine Own.s_goto X18 at_393 (by decide) (pc' := 397) (by decide) ?_
            exact Own.r_nar X18 rfl (Or.inl rfl) at_397 (by decide) (by decide) (by decide)
    · refine Own.s_icmpT X11 at_327 (flt hc327_13).2.2.2 (by decide) (pc' := 341) (by decide) ?_
      refine Own.s_iload X11 at_341 rfl rfl ?_
      refine Own.s_iconst X11 at_343 (2 : Int32) (by decide) rfl ?_
      by_cases hc344_69 : (2 : Int32) < kk
      · refine Own.s_icmpF X11 at_344 (tlt hc344_69).2.2.2 rfl ?_
        refine Own.s_aload X11 at_347 rfl rfl rfl ?_
        refine Own.s_iconst X11 at_349 (2 : Int32) (by decide) rfl ?_
        have ex70 : Ext h4 h11 := Own.extK (Own.Ext.rfl' h4) V11.1 all0
        have S_71 := Own.Str.ext S_7 ex70
        have Z_72 := Sta.ext ex70 Z_8
        have Z_73 := Sta.ext ex70 Z_10
        have E_75 := Exa.ext ex70 E_12
        refine Own.b_virtual X11 at_350 (tw85 hw) (tw86 hw) (notFace_of_selects (args := #[]) (mvT X11.hZ (tw88 hw))) (tw88 hw) (tw87 hw) (by decide) r1 [(.int (2 : Int32))] [] E_75 (Own.strAt (W := 0) (i := 2) X11.hZ (wChN hw) (tw7 hw) S_71 Z_72 hzc Z_73 hfm (own_gt (i := 2) hc344_69 hkk (by decide) hws) (by decide) (by decide) (by decide)) (fun v h' L q => Own.strAtQ (z := c2) (hg2 (own_gt (i := 2) hc344_69 hkk (by decide) hws)) q) Own.Ok.nil (lenOf pd_15 rfl) rfl (Nat.le_of_eq rfl) (by decide) (by decide) rfl rfl ?_
        intro v74 vm74 T74 h74 L74 X74 V74 Q74
        obtain rfl := Q74
        refine Own.s_iload X74 at_353 rfl rfl ?_
        refine Own.s_icmpF X74 at_355 (teq rfl).2 rfl ?_
        refine Own.s_iload X74 at_358 rfl rfl ?_
        refine Own.s_iconst X74 at_360 (3 : Int32) (by decide) rfl ?_
        by_cases hc361_76 : (3 : Int32) < kk
        · refine Own.s_icmpF X74 at_361 (tlt hc361_76).2.2.2 rfl ?_
          refine Own.s_aload X74 at_364 rfl rfl rfl ?_
          refine Own.s_iconst X74 at_366 (3 : Int32) (by decide) rfl ?_
          have ex77 : Ext h11 h74 := Own.extK (Own.Ext.rfl' h11) V74.1 all0
          have S_78 := Own.Str.ext S_71 ex77
          have Z_79 := Sta.ext ex77 Z_72
          have Z_80 := Sta.ext ex77 Z_73
          have E_82 := Exa.ext ex77 E_75
          refine Own.b_virtual X74 at_367 (tw85 hw) (tw86 hw) (notFace_of_selects (args := #[]) (mvT X74.hZ (tw88 hw))) (tw88 hw) (tw87 hw) (by decide) r1 [(.int (3 : Int32))] [] E_82 (Own.strAt (W := 0) (i := 3) X74.hZ (wChN hw) (tw7 hw) S_78 Z_79 hzc Z_80 hfm (own_gt (i := 3) hc361_76 hkk (by decide) hws) (by decide) (by decide) (by decide)) (fun v h' L q => Own.strAtQ (z := c3) (hg3 (own_gt (i := 3) hc361_76 hkk (by decide) hws)) q) Own.Ok.nil (lenOf pd_15 rfl) rfl (Nat.le_of_eq rfl) (by decide) (by decide) rfl rfl ?_
          intro v81 vm81 T81 h81 L81 X81 V81 Q81
          obtain rfl := Q81
          refine Own.s_iload X81 at_370 rfl rfl ?_
          refine Own.s_icmpF X81 at_372 (teq rfl).2 rfl ?_
          refine Own.s_iload X81 at_375 rfl rfl ?_
          refine Own.s_iconst X81 at_377 (4 : Int32) (by decide) rfl ?_
          by_cases hc378_83 : (4 : Int32) < kk
          · refine Own.s_icmpF X81 at_378 (tlt hc378_83).2.2.2 rfl ?_
            refine Own.s_aload X81 at_381 rfl rfl rfl ?_
            refine Own.s_iconst X81 at_383 (4 : Int32) (by decide) rfl ?_
            have ex84 : Ext h74 h81 := Own.extK (Own.Ext.rfl' h74) V81.1 all0
            have S_85 := Own.Str.ext S_78 ex84
            have Z_86 := Sta.ext ex84 Z_79
            have Z_87 := Sta.ext ex84 Z_80
            have E_89 := Exa.ext ex84 E_82
            refine Own.b_virtual X81 at_384 (tw85 hw) (tw86 hw) (notFace_of_selects (args := #[]) (mvT X81.hZ (tw88 hw))) (tw88 hw) (tw87 hw) (by decide) r1 [(.int (4 : Int32))] [] E_89 (Own.strAt (W := 0) (i := 4) X81.hZ (wChN hw) (tw7 hw) S_85 Z_86 hzc Z_87 hfm (own_gt (i := 4) hc378_83 hkk (by decide) hws) (by decide) (by decide) (by decide)) (fun v h' L q => Own.strAtQ (z := c4) (hg4 (own_gt (i := 4) hc378_83 hkk (by decide) hws)) q) Own.Ok.nil (lenOf pd_15 rfl) rfl (Nat.le_of_eq rfl) (by decide) (by decide) rfl rfl ?_
            intro v88 vm88 T88 h88 L88 X88 V88 Q88
            obtain rfl := Q88
            refine Own.s_iload X88 at_387 rfl rfl ?_
            refine Own.s_icmpF X88 at_389 (teq rfl).2 rfl ?_
            refine Own.s_iconst X88 at_392 (1 : Int32) (by decide) rfl ?_
            refine Own.s_goto X88 at_393 (by decide) (pc' := 397) (by decide) ?_
            exact Own.r_nar X88 rfl (Or.inl rfl) at_397 (by decide) (by decide) (by decide)
          · refine Own.s_icmpT X81 at_378 (flt hc378_83).2.2.2 (by decide) (pc' := 392) (by decide) ?_
            refine Own.s_iconst X81 at_392 (1 : Int32) (by decide) rfl ?_
            refine Own.s_goto X81 at_393 (by decide) (pc' := 397) (by decide) ?_
            exact Own.r_nar X81 rfl (Or.inl rfl) at_397 (by decide) (by decide) (by decide)
        · refine Own.s_icmpT X74 at_361 (flt hc361_76).2.2.2 (by decide) (pc' := 375) (by decide) ?_
          refine Own.s_iload X74 at_375 rfl rfl ?_
          refine Own.s_iconst X74 at_377 (4 : Int32) (by decide) rfl ?_
          by_cases hc378_90 : (4 : Int32) < kk
          · refine Own.s_icmpF X74 at_378 (tlt hc378_90).2.2.2 rfl ?_
            refine Own.s_aload X74 at_381 rfl rfl rfl ?_
            refine Own.s_iconst X74 at_383 (4 : Int32) (by decide) rfl ?_
            have ex91 : Ext h11 h74 := Own.extK (Own.Ext.rfl' h11) V74.1 all0
            have S_92 := Own.Str.ext S_71 ex91
            have Z_93 := Sta.ext ex91 Z_72
            have Z_94 := Sta.ext ex91 Z_73
            have E_96 := Exa.ext ex91 E_75
            refine Own.b_virtual X74 at_384 (tw85 hw) (tw86 hw) (notFace_of_selects (args := #[]) (mvT X74.hZ (tw88 hw))) (tw88 hw) (tw87 hw) (by decide) r1 [(.int (4 : Int32))] [] E_96 (Own.strAt (W := 0) (i := 4) X74.hZ (wChN hw) (tw7 hw) S_92 Z_93 hzc Z_94 hfm (own_gt (i := 4) hc378_90 hkk (by decide) hws) (by decide) (by decide) (by decide)) (fun v h' L q => Own.strAtQ (z := c4) (hg4 (own_gt (i := 4) hc378_90 hkk (by decide) hws)) q) Own.Ok.nil (lenOf pd_15 rfl) rfl (Nat.le_of_eq rfl) (by decide) (by decide) rfl rfl ?_
            intro v95 vm95 T95 h95 L95 X95 V95 Q95
            obtain rfl := Q95
            refine Own.s_iload X95 at_387 rfl rfl ?_
            refine Own.s_icmpF X95 at_389 (teq rfl).2 rfl ?_
            refine Own.s_iconst X95 at_392 (1 : Int32) (by decide) rfl ?_
            refine Own.s_goto X95 at_393 (by decide) (pc' := 397) (by decide) ?_
            exact Own.r_nar X95 rfl (Or.inl rfl) at_397 (by decide) (by decide) (by decide)
          · refine Own.s_icmpT X74 at_378 (flt hc378_90).2.2.2 (by decide) (pc' := 392) (by decide) ?_
            refine Own.s_iconst X74 at_392 (1 : Int32) (by decide) rfl ?_
            refine Own.s_goto X74 at_393 (by decide) (pc' := 397) (by decide) ?_
            exact Own.r_nar X74 rfl (Or.inl rfl) at_397 (by decide) (by decide) (by decide)
      · refine Own.s_icmpT X11 at_344 (flt hc344_69).2.2.2 (by decide) (pc' := 358) (by decide) ?_
        refine Own.s_iload X11 at_358 rfl rfl ?_
        refine Own.s_iconst X11 at_360 (3 : Int32) (by decide) rfl ?_
        by_cases hc361_97 : (3 : Int32) < kk
        · refine Own.s_icmpF X11 at_361 (tlt hc361_97).2.2.2 rfl ?_
          refine Own.s_aload X11 at_364 rfl rfl rfl ?_
          refine Own.s_iconst X11 at_366 (3 : Int32) (by decide) rfl ?_
          have ex98 : Ext h4 h11 := Own.extK (Own.Ext.rfl' h4) V11.1 all0
          have S_99 := Own.Str.ext S_7 ex98
          have Z_100 := Sta.ext ex98 Z_8
          have Z_101 := Sta.ext ex98 Z_10
          have E_103 := Exa.ext ex98 E_12
          refine Own.b_virtual X11 at_367 (tw85 hw) (tw86 hw) (notFace_of_selects (args := #[]) (mvT X11.hZ (tw88 hw))) (tw88 hw) (tw87 hw) (by decide) r1 [(.int (3 : Int32))] [] E_103 (Own.strAt (W := 0) (i := 3) X11.hZ (wChN hw) (tw7 hw) S_99 Z_100 hzc Z_101 hfm (own_gt (i := 3) hc361_97 hkk (by decide) hws) (by decide) (by decide) (by decide)) (fun v h' L q => Own.strAtQ (z := c3) (hg3 (own_gt (i := 3) hc361_97 hkk (by decide) hws)) q) Own.Ok.nil (lenOf pd_15 rfl) rfl (Nat.le_of_eq rfl) (by decide) (by decide) rfl rfl ?_
          intro v102 vm102 T102 h102 L102 X102 V102 Q102
          obtain rfl := Q102
          refine Own.s_iload X102 at_370 rfl rfl ?_
          refine Own.s_icmpF X102 at_372 (teq rfl).2 rfl ?_
          refine Own.s_iload X102 at_375 rfl rfl ?_
          refine Own.s_iconst X102 at_377 (4 : Int32) (by decide) rfl ?_
          by_cases hc378_104 : (4 : Int32) < kk
          · refine Own.s_icmpF X102 at_378 (tlt hc378_104).2.2.2 rfl ?_
            refine Own.s_aload X102 at_381 rfl rfl rfl ?_
            refine Own.s_iconst X102 at_383 (4 : Int32) (by decide) rfl ?_
            have ex105 : Ext h11 h102 := Own.extK (Own.Ext.rfl' h11) V102.1 all0
            have S_106 := Own.Str.ext S_99 ex105
            have Z_107 := Sta.ext ex105 Z_100
            have Z_108 := Sta.ext ex105 Z_101
            have E_110 := Exa.ext ex105 E_103
            refine Own.b_virtual X102 at_384 (tw85 hw) (tw86 hw) (notFace_of_selects (args := #[]) (mvT X102.hZ (tw88 hw))) (tw88 hw) (tw87 hw) (by decide) r1 [(.int (4 : Int32))] [] E_110 (Own.strAt (W := 0) (i := 4) X102.hZ (wChN hw) (tw7 hw) S_106 Z_107 hzc Z_108 hfm (own_gt (i := 4) hc378_104 hkk (by decide) hws) (by decide) (by decide) (by decide)) (fun v h' L q => Own.strAtQ (z := c4) (hg4 (own_gt (i := 4) hc378_104 hkk (by decide) hws)) q) Own.Ok.nil (lenOf pd_15 rfl) rfl (Nat.le_of_eq rfl) (by decide) (by decide) rfl rfl ?_
            intro v109 vm109 T109 h109 L109 X109 V109 Q109
            obtain rfl := Q109
            refine Own.s_iload X109 at_387 rfl rfl ?_
            refine Own.s_icmpF X109 at_389 (teq rfl).2 rfl ?_
            refine Own.s_iconst X109 at_392 (1 : Int32) (by decide) rfl ?_
            refine Own.s_goto X109 at_393 (by decide) (pc' := 397) (by decide) ?_
            exact Own.r_nar X109 rfl (Or.inl rfl) at_397 (by decide) (by decide) (by decide)
          · refine Own.s_icmpT X102 at_378 (flt hc378_104).2.2.2 (by decide) (pc' := 392) (by decide) ?_
            refine Own.s_iconst X102 at_392 (1 : Int32) (by decide) rfl ?_
            refine Own.s_goto X102 at_393 (by decide) (pc' := 397) (by decide) ?_
            exact Own.r_nar X102 rfl (Or.inl rfl) at_397 (by decide) (by decide) (by decide)
        · refine Own.s_icmpT X11 at_361 (flt hc361_97).2.2.2 (by decide) (pc' := 375) (by decide) ?_
          refine Own.s_iload X11 at_375 rfl rfl ?_
          refine Own.s_iconst X11 at_377 (4 : Int32) (by decide) rfl ?_
          by_cases hc378_111 : (4 : Int32) < kk
          · refine Own.s_icmpF X11 at_378 (tlt hc378_111).2.2.2 rfl ?_
            refine Own.s_aload X11 at_381 rfl rfl rfl ?_
            refine Own.s_iconst X11 at_383 (4 : Int32) (by decide) rfl ?_
            have ex112 : Ext h4 h11 := Own.extK (Own.Ext.rfl' h4) V11.1 all0
            have S_113 := Own.Str.ext S_7 ex112
            have Z_114 := Sta.ext ex112 Z_8
            have Z_115 := Sta.ext ex112 Z_10
            have E_117 := Exa.ext ex112 E_12
            refine Own.b_virtual X11 at_384 (tw85 hw) (tw86 hw) (notFace_of_selects (args := #[]) (mvT X11.hZ (tw88 hw))) (tw88 hw) (tw87 hw) (by decide) r1 [(.int (4 : Int32))] [] E_117 (Own.strAt (W := 0) (i := 4) X11.hZ (wChN hw) (tw7 hw) S_113 Z_114 hzc Z_115 hfm (own_gt (i := 4) hc378_111 hkk (by decide) hws) (by decide) (by decide) (by decide)) (fun v h' L q => Own.strAtQ (z := c4) (hg4 (own_gt (i := 4) hc378_111 hkk (by decide) hws)) q) Own.Ok.nil (lenOf pd_15 rfl) rfl (Nat.le_of_eq rfl) (by decide) (by decide) rfl rfl ?_
            intro v116 vm116 T116 h116 L116 X116 V116 Q116
            obtain rfl := Q116
            refine Own.s_iload X116 at_387 rfl rfl ?_
            refine Own.s_icmpF X116 at_389 (teq rfl).2 rfl ?_
            refine Own.s_iconst X116 at_392 (1 : Int32) (by decide) rfl ?_
            refine Own.s_goto X116 at_393 (by decide) (pc' := 397) (by decide) ?_
            exact Own.r_nar X116 rfl (Or.inl rfl) at_397 (by decide) (by decide) (by decide)
          · refine Own.s_icmpT X11 at_378 (flt hc378_111).2.2.2 (by decide) (pc' := 392) (by decide) ?_
            refine Own.s_iconst X11 at_392 (1 : Int32) (by decide) rfl ?_
            refine Own.s_goto X11 at_393 (by decide) (pc' := 397) (by decide) ?_
            exact Own.r_nar X11 rfl (Or.inl rfl) at_397 (by decide) (by decide) (by decide)
  · refine Own.s_ifT X4 at_310 ((if0 _ _).trans (flt hc310_5).2.2.2) (by decide) (pc' := 324) (by decide) ?_
    refine Own.s_iload X4 at_324 rfl rfl ?_
    refine Own.s_iconst X4 at_326 (1 : Int32) (by decide) rfl ?_
    by_cases hc327_118 : (1 : Int32) < kk
    · refine Own.s_icmpF X4 at_327 (tlt hc327_118).2.2.2 rfl ?_
      refine Own.s_aload X4 at_330 rfl rfl rfl ?_
      refine Own.s_iconst X4 at_332 (1 : Int32) (by decide) rfl ?_
      have ex119 : Ext h1 h4 := Own.extK (Own.Ext.rfl' h1) V4.1 all0
      have S_120 := Own.Str.ext S1 ex119
      have Z_121 := Sta.ext ex119 Z_3
      have ex122 : Ext h0s h4 := Own.extK ex2 V4.1 all0
      have Z_123 := Sta.ext ex122 SF0
      have E_125 := Exa.ext ex119 S1.exa
      refine Own.b_virtual X4 at_333 (tw85 hw) (tw86 hw) (notFace_of_selects (args := #[]) (mvT X4.hZ (tw88 hw))) (tw88 hw) (tw87 hw) (by decide) r1 [(.int (1 : Int32))] [] E_125 (Own.strAt (W := 0) (i := 1) X4.hZ (wChN hw) (tw7 hw) S_120 Z_121 hzc Z_123 hfm (own_gt (i := 1) hc327_118 hkk (by decide) hws) (by decide) (by decide) (by decide)) (fun v h' L q => Own.strAtQ (z := c1) (hg1 (own_gt (i := 1) hc327_118 hkk (by decide) hws)) q) Own.Ok.nil (lenOf pd_15 rfl) rfl (Nat.le_of_eq rfl) (by decide) (by decide) rfl rfl ?_
      intro v124 vm124 T124 h124 L124 X124 V124 Q124
      obtain rfl := Q124
      refine Own.s_iload X124 at_336 rfl rfl ?_
      refine Own.s_icmpF X124 at_338 (teq rfl).2 rfl ?_
      refine Own.s_iload X124 at_341 rfl rfl ?_
      refine Own.s_iconst X124 at_343 (2 : Int32) (by decide) rfl ?_
      by_cases hc344_126 : (2 : Int32) < kk
      · refine Own.s_icmpF X124 at_344 (tlt hc344_126).2.2.2 rfl ?_
        refine Own.s_aload X124 at_347 rfl rfl rfl ?_
        refine Own.s_iconst X124 at_349 (2 : Int32) (by decide) rfl ?_
        have ex127 : Ext h4 h124 := Own.extK (Own.Ext.rfl' h4) V124.1 all0
        have S_128 := Own.Str.ext S_120 ex127
        have Z_129 := Sta.ext ex127 Z_121
        have Z_130 := Sta.ext ex127 Z_123
        have E_132 := Exa.ext ex127 E_125
        refine Own.b_virtual X124 at_350 (tw85 hw) (tw86 hw) (notFace_of_selects (args := #[]) (mvT X124.hZ (tw88 hw))) (tw88 hw) (tw87 hw) (by decide) r1 [(.int (2 : Int32))] [] E_132 (Own.strAt (W := 0) (i := 2) X124.hZ (wChN hw) (tw7 hw) S_128 Z_129 hzc Z_130 hfm (own_gt (i := 2) hc344_126 hkk (by decide) hws) (by decide) (by decide) (by decide)) (fun v h' L q => Own.strAtQ (z := c2) (hg2 (own_gt (i := 2) hc344_126 hkk (by decide) hws)) q) Own.Ok.nil (lenOf pd_15 rfl) rfl (Nat.le_of_eq rfl) (by decide) (by decide) rfl rfl ?_
        intro v131 vm131 T131 h131 L131 X131 V131 Q131
        obtain rfl := Q131
        refine Own.s_iload X131 at_353 rfl rfl ?_
        refine Own.s_icmpF X131 at_355 (teq rfl).2 rfl ?_
        refine Own.s_iload X131 at_358 rfl rfl ?_
        refine Own.s_iconst X131 at_360 (3 : Int32) (by decide) rfl ?_
        by_cases hc361_133 : (3 : Int32) < kk
        · refine Own.s_icmpF X131 at_361 (tlt hc361_133).2.2.2 rfl ?_
          refine Own.s_aload X131 at_364 rfl rfl rfl ?_
          refine Own.s_iconst X131 at_366 (3 : Int32) (by decide) rfl ?_
          have ex134 : Ext h124 h131 := Own.extK (Own.Ext.rfl' h124) V131.1 all0
          have S_135 := Own.Str.ext S_128 ex134
          have Z_136 := Sta.ext ex134 Z_129
          have Z_137 := Sta.ext ex134 Z_130
          have E_139 := Exa.ext ex134 E_132
          refine Own.b_virtual X131 at_367 (tw85 hw) (tw86 hw) (notFace_of_selects (args := #[]) (mvT X131.hZ (tw88 hw))) (tw88 hw) (tw87 hw) (by decide) r1 [(.int (3 : Int32))] [] E_139 (Own.strAt (W := 0) (i := 3) X131.hZ (wChN hw) (tw7 hw) S_135 Z_136 hzc Z_137 hfm (own_gt (i := 3) hc361_133 hkk (by decide) hws) (by decide) (by decide) (by decide)) (fun v h' L q => Own.strAtQ (z := c3) (hg3 (own_gt (i := 3) hc361_133 hkk (by decide) hws)) q) Own.Ok.nil (lenOf pd_15 rfl) rfl (Nat.le_of_eq rfl) (by decide) (by decide) rfl rfl ?_
          intro v138 vm138 T138 h138 L138 X138 V138 Q138
          obtain rfl := Q138
          refine Own.s_iload X138 at_370 rfl rfl ?_
          refine Own.s_icmpF X138 at_372 (teq rfl).2 rfl ?_
          refine Own.s_iload X138 at_375 rfl rfl ?_
          refine Own.s_iconst X138 at_377 (4 : Int32) (by decide) rfl ?_
          by_cases hc378_140 : (4 : Int32) < kk
          · refine Own.s_icmpF X138 at_378 (tlt hc378_140).2.2.2 rfl ?_
            refine Own.s_aload X138 at_381 rfl rfl rfl ?_
            refine Own.s_iconst X138 at_383 (4 : Int32) (by decide) rfl ?_
            have ex141 : Ext h131 h138 := Own.extK (Own.Ext.rfl' h131) V138.1 all0
            have S_142 := Own.Str.ext S_135 ex141
            have Z_143 := Sta.ext ex141 Z_136
            have Z_144 := Sta.ext ex141 Z_137
            have E_146 := Exa.ext ex141 E_139
            refine Own.b_virtual X138 at_384 (tw85 hw) (tw86 hw) (notFace_of_selects (args := #[]) (mvT X138.hZ (tw88 hw))) (tw88 hw) (tw87 hw) (by decide) r1 [(.int (4 : Int32))] [] E_146 (Own.strAt (W := 0) (i := 4) X138.hZ (wChN hw) (tw7 hw) S_142 Z_143 hzc Z_144 hfm (own_gt (i := 4) hc378_140 hkk (by decide) hws) (by decide) (by decide) (by decide)) (fun v h' L q => Own.strAtQ (z := c4) (hg4 (own_gt (i := 4) hc378_140 hkk (by decide) hws)) q) Own.Ok.nil (lenOf pd_15 rfl) rfl (Nat.le_of_eq rfl) (by decide) (by decide) rfl rfl ?_
            intro v145 vm145 T145 h145 L145 X145 V145 Q145
            obtain rfl := Q145
            refine Own.s_iload X145 at_387 rfl rfl ?_
            refine Own.s_icmpF X145 at_389 (teq rfl).2 rfl ?_
            refine Own.s_iconst X145 at_392 (1 : Int32) (by decide) rfl ?_
            refine Own.s_goto X145 at_393 (by decide) (pc' := 397) (by decide) ?_
            exact Own.r_nar X145 rfl (Or.inl rfl) at_397 (by decide) (by decide) (by decide)
          · refine Own.s_icmpT X138 at_378 (flt hc378_140).2.2.2 (by decide) (pc' := 392) (by decide) ?_
            refine Own.s_iconst X138 at_392 (1 : Int32) (by decide) rfl ?_
            refine Own.s_goto X138 at_393 (by decide) (pc' := 397) (by decide) ?_
            exact Own.r_nar X138 rfl (Or.inl rfl) at_397 (by decide) (by decide) (by decide)
        · refine Own.s_icmpT X131 at_361 (flt hc361_133).2.2.2 (by decide) (pc' := 375) (by decide) ?_
          refine Own.s_iload X131 at_375 rfl rfl ?_
          refine Own.s_iconst X131 at_377 (4 : Int32) (by decide) rfl ?_
          by_cases hc378_147 : (4 : Int32) < kk
          · refine Own.s_icmpF X131 at_378 (tlt hc378_147).2.2.2 rfl ?_
            refine Own.s_aload X131 at_381 rfl rfl rfl ?_
            refine Own.s_iconst X131 at_383 (4 : Int32) (by decide) rfl ?_
            have ex148 : Ext h124 h131 := Own.extK (Own.Ext.rfl' h124) V131.1 all0
            have S_149 := Own.Str.ext S_128 ex148
            have Z_150 := Sta.ext ex148 Z_129
            have Z_151 := Sta.ext ex148 Z_130
            have E_153 := Exa.ext ex148 E_132
            refine Own.b_virtual X131 at_384 (tw85 hw) (tw86 hw) (notFace_of_selects (args := #[]) (mvT X131.hZ (tw88 hw))) (tw88 hw) (tw87 hw) (by decide) r1 [(.int (4 : Int32))] [] E_153 (Own.strAt (W := 0) (i := 4) X131.hZ (wChN hw) (tw7 hw) S_149 Z_150 hzc Z_151 hfm (own_gt (i := 4) hc378_147 hkk (by decide) hws) (by decide) (by decide) (by decide)) (fun v h' L q => Own.strAtQ (z := c4) (hg4 (own_gt (i := 4) hc378_147 hkk (by decide) hws)) q) Own.Ok.nil (lenOf pd_15 rfl) rfl (Nat.le_of_eq rfl) (by decide) (by decide) rfl rfl ?_
            intro v152 vm152 T152 h152 L152 X152 V152 Q152
            obtain rfl := Q152
            refine Own.s_iload X152 at_387 rfl rfl ?_
            refine Own.s_icmpF X152 at_389 (teq rfl).2 rfl ?_
            refine Own.s_iconst X152 at_392 (1 : Int32) (by decide) rfl ?_
            refine Own.s_goto X152 at_393 (by decide) (pc' := 397) (by decide) ?_
            exact Own.r_nar X152 rfl (Or.inl rfl) at_397 (by decide) (by decide) (by decide)
          · refine Own.s_icmpT X131 at_378 (flt hc378_147).2.2.2 (by decide) (pc' := 392) (by decide) ?_
            refine Own.s_iconst X131 at_392 (1 : Int32) (by decide) rfl ?_
            refine Own.s_goto X131 at_393 (by decide) (pc' := 397) (by decide) ?_
            exact Own.r_nar X131 rfl (Or.inl rfl) at_397 (by decide) (by decide) (by decide)
      · refine Own.s_icmpT X124 at_344 (flt hc344_126).2.2.2 (by decide) (pc' := 358) (by decide) ?_
        refine Own.s_iload X124 at_358 rfl rfl ?_
        refine Own.s_iconst X124 at_360 (3 : Int32) (by decide) rfl ?_
        by_cases hc361_154 : (3 : Int32) < kk
        · refine Own.s_icmpF X124 at_361 (tlt hc361_154).2.2.2 rfl ?_
          refine Own.s_aload X124 at_364 rfl rfl rfl ?_
          refine Own.s_iconst X124 at_366 (3 : Int32) (by decide) rfl ?_
          have ex155 : Ext h4 h124 := Own.extK (Own.Ext.rfl' h4) V124.1 all0
          have S_156 := Own.Str.ext S_120 ex155
          have Z_157 := Sta.ext ex155 Z_121
          have Z_158 := Sta.ext ex155 Z_123
          have E_160 := Exa.ext ex155 E_125
          refine Own.b_virtual X124 at_367 (tw85 hw) (tw86 hw) (notFace_of_selects (args := #[]) (mvT X124.hZ (tw88 hw))) (tw88 hw) (tw87 hw) (by decide) r1 [(.int (3 : Int32))] [] E_160 (Own.strAt (W := 0) (i := 3) X124.hZ (wChN hw) (tw7 hw) S_156 Z_157 hzc Z_158 hfm (own_gt (i := 3) hc361_154 hkk (by decide) hws) (by decide) (by decide) (by decide)) (fun v h' L q => Own.strAtQ (z := c3) (hg3 (own_gt (i := 3) hc361_154 hkk (by decide) hws)) q) Own.Ok.nil (lenOf pd_15 rfl) rfl (Nat.le_of_eq rfl) (by decide) (by decide) rfl rfl ?_
          intro v159 vm159 T159 h159 L159 X159 V159 Q159
          obtain rfl := Q159
          refine Own.s_iload X159 at_370 rfl rfl ?_
          refine Own.s_icmpF X159 at_372 (teq rfl).2 rfl ?_
          refine Own.s_iload X159 at_375 rfl rfl ?_
          refine Own.s_iconst X159 at_377 (4 : Int32) (by decide) rfl ?_
          by_cases hc378_161 : (4 : Int32) < kk
          · refine Own.s_icmpF X159 at_378 (tlt hc378_161).2.2.2 rfl ?_
            refine Own.s_aload X159 at_381 rfl rfl rfl ?_
            refine Own.s_iconst X159 at_383 (4 : Int32) (by decide) rfl ?_
            have ex162 : Ext h124 h159 := Own.extK (Own.Ext.rfl' h124) V159.1 all0
            have S_163 := Own.Str.ext S_156 ex162
            have Z_164 := Sta.ext ex162 Z_157
            have Z_165 := Sta.ext ex162 Z_158
            have E_167 := Exa.ext ex162 E_160
            refine Own.b_virtual X159 at_384 (tw85 hw) (tw86 hw) (notFace_of_selects (args := #[]) (mvT X159.hZ (tw88 hw))) (tw88 hw) (tw87 hw) (by decide) r1 [(.int (4 : Int32))] [] E_167 (Own.strAt (W := 0) (i := 4) X159.hZ (wChN hw) (tw7 hw) S_163 Z_164 hzc Z_165 hfm (own_gt (i := 4) hc378_161 hkk (by decide) hws) (by decide) (by decide) (by decide)) (fun v h' L q => Own.strAtQ (z := c4) (hg4 (own_gt (i := 4) hc378_161 hkk (by decide) hws)) q) Own.Ok.nil (lenOf pd_15 rfl) rfl (Nat.le_of_eq rfl) (by decide) (by decide) rfl rfl ?_
            intro v166 vm166 T166 h166 L166 X166 V166 Q166
            obtain rfl := Q166
            refine Own.s_iload X166 at_387 rfl rfl ?_
            refine Own.s_icmpF X166 at_389 (teq rfl).2 rfl ?_
            refine Own.s_iconst X166 at_392 (1 : Int32) (by decide) rfl ?_
            refine Own.s_goto X166 at_393 (by decide) (pc' := 397) (by decide) ?_
            exact Own.r_nar X166 rfl (Or.inl rfl) at_397 (by decide) (by decide) (by decide)
          · refine Own.s_icmpT X159 at_378 (flt hc378_161).2.2.2 (by decide) (pc' := 392) (by decide) ?_
            refine Own.s_iconst X159 at_392 (1 : Int32) (by decide) rfl ?_
            refine Own.s_goto X159 at_393 (by decide) (pc' := 397) (by decide) ?_
            exact Own.r_nar X159 rfl (Or.inl rfl) at_397 (by decide) (by decide) (by decide)
        · refine Own.s_icmpT X124 at_361 (flt hc361_154).2.2.2 (by decide) (pc' := 375) (by decide) ?_
          refine Own.s_iload X124 at_375 rfl rfl ?_
          refine Own.s_iconst X124 at_377 (4 : Int32) (by decide) rfl ?_
          by_cases hc378_168 : (4 : Int32) < kk
          · refine Own.s_icmpF X124 at_378 (tlt hc378_168).2.2.2 rfl ?_
            refine Own.s_aload X124 at_381 rfl rfl rfl ?_
            refine Own.s_iconst X124 at_383 (4 : Int32) (by decide) rfl ?_
            have ex169 : Ext h4 h124 := Own.extK (Own.Ext.rfl' h4) V124.1 all0
            have S_170 := Own.Str.ext S_120 ex169
            have Z_171 := Sta.ext ex169 Z_121
            have Z_172 := Sta.ext ex169 Z_123
            have E_174 := Exa.ext ex169 E_125
            refine Own.b_virtual X124 at_384 (tw85 hw) (tw86 hw) (notFace_of_selects (args := #[]) (mvT X124.hZ (tw88 hw))) (tw88 hw) (tw87 hw) (by decide) r1 [(.int (4 : Int32))] [] E_174 (Own.strAt (W := 0) (i := 4) X124.hZ (wChN hw) (tw7 hw) S_170 Z_171 hzc Z_172 hfm (own_gt (i := 4) hc378_168 hkk (by decide) hws) (by decide) (by decide) (by decide)) (fun v h' L q => Own.strAtQ (z := c4) (hg4 (own_gt (i := 4) hc378_168 hkk (by decide) hws)) q) Own.Ok.nil (lenOf pd_15 rfl) rfl (Nat.le_of_eq rfl) (by decide) (by decide) rfl rfl ?_
            intro v173 vm173 T173 h173 L173 X173 V173 Q173
            obtain rfl := Q173
            refine Own.s_iload X173 at_387 rfl rfl ?_
            refine Own.s_icmpF X173 at_389 (teq rfl).2 rfl ?_
            refine Own.s_iconst X173 at_392 (1 : Int32) (by decide) rfl ?_
            refine Own.s_goto X173 at_393 (by decide) (pc' := 397) (by decide) ?_
            exact Own.r_nar X173 rfl (Or.inl rfl) at_397 (by decide) (by decide) (by decide)
          · refine Own.s_icmpT X124 at_378 (flt hc378_168).2.2.2 (by decide) (pc' := 392) (by decide) ?_
            refine Own.s_iconst X124 at_392 (1 : Int32) (by decide) rfl ?_
            refine Own.s_goto X124 at_393 (by decide) (pc' := 397) (by decide) ?_
            exact Own.r_nar X124 rfl (Or.inl rfl) at_397 (by decide) (by decide) (by decide)
    · refine Own.s_icmpT X4 at_327 (flt hc327_118).2.2.2 (by decide) (pc' := 341) (by decide) ?_
      refine Own.s_iload X4 at_341 rfl rfl ?_
      refine Own.s_iconst X4 at_343 (2 : Int32) (by decide) rfl ?_
      by_cases hc344_175 : (2 : Int32) < kk
      · refine Own.s_icmpF X4 at_344 (tlt hc344_175).2.2.2 rfl ?_
        refine Own.s_aload X4 at_347 rfl rfl rfl ?_
        refine Own.s_iconst X4 at_349 (2 : Int32) (by decide) rfl ?_
        have ex176 : Ext h1 h4 := Own.extK (Own.Ext.rfl' h1) V4.1 all0
        have S_177 := Own.Str.ext S1 ex176
        have Z_178 := Sta.ext ex176 Z_3
        have ex179 : Ext h0s h4 := Own.extK ex2 V4.1 all0
        have Z_180 := Sta.ext ex179 SF0
        have E_182 := Exa.ext ex176 S1.exa
        refine Own.b_virtual X4 at_350 (tw85 hw) (tw86 hw) (notFace_of_selects (args := #[]) (mvT X4.hZ (tw88 hw))) (tw88 hw) (tw87 hw) (by decide) r1 [(.int (2 : Int32))] [] E_182 (Own.strAt (W := 0) (i := 2) X4.hZ (wChN hw) (tw7 hw) S_177 Z_178 hzc Z_180 hfm (own_gt (i := 2) hc344_175 hkk (by decide) hws) (by decide) (by decide) (by decide)) (fun v h' L q => Own.strAtQ (z := c2) (hg2 (own_gt (i := 2) hc344_175 hkk (by decide) hws)) q) Own.Ok.nil (lenOf pd_15 rfl) rfl (Nat.le_of_eq rfl) (by decide) (by decide) rfl rfl ?_
        intro v181 vm181 T181 h181 L181 X181 V181 Q181
        obtain rfl := Q181
        refine Own.s_iload X181 at_353 rfl rfl ?_
        refine Own.s_icmpF X181 at_355 (teq rfl).2 rfl ?_
        refine Own.s_iload X181 at_358 rfl rfl ?_
        refine Own.s_iconst X181 at_360 (3 : Int32) (by decide) rfl ?_
        by_cases hc361_183 : (3 : Int32) < kk
        · refine Own.s_icmpF X181 at_361 (tlt hc361_183).2.2.2 rfl ?_
          refine Own.s_aload X181 at_364 rfl rfl rfl ?_
          refine Own.s_iconst X181 at_366 (3 : Int32) (by decide) rfl ?_
          have ex184 : Ext h4 h181 := Own.extK (Own.Ext.rfl' h4) V181.1 all0
          have S_185 := Own.Str.ext S_177 ex184
          have Z_186 := Sta.ext ex184 Z_178
          have Z_187 := Sta.ext ex184 Z_180
          have E_189 := Exa.ext ex184 E_182
          refine Own.b_virtual X181 at_367 (tw85 hw) (tw86 hw) (notFace_of_selects (args := #[]) (mvT X181.hZ (tw88 hw))) (tw88 hw) (tw87 hw) (by decide) r1 [(.int (3 : Int32))] [] E_189 (Own.strAt (W := 0) (i := 3) X181.hZ (wChN hw) (tw7 hw) S_185 Z_186 hzc Z_187 hfm (own_gt (i := 3) hc361_183 hkk (by decide) hws) (by decide) (by decide) (by decide)) (fun v h' L q => Own.strAtQ (z := c3) (hg3 (own_gt (i := 3) hc361_183 hkk (by decide) hws)) q) Own.Ok.nil (lenOf pd_15 rfl) rfl (Nat.le_of_eq rfl) (by decide) (by decide) rfl rfl ?_
          intro v188 vm188 T188 h188 L188 X188 V188 Q188
          obtain rfl := Q188
          refine Own.s_iload X188 at_370 rfl rfl ?_
          refine Own.s_icmpF X188 at_372 (teq rfl).2 rfl ?_
          refine Own.s_iload X188 at_375 rfl rfl ?_
          refine Own.s_iconst X188 at_377 (4 : Int32) (by decide) rfl ?_
          by_cases hc378_190 : (4 : Int32) < kk
          · refine Own.s_icmpF X188 at_378 (tlt hc378_190).2.2.2 rfl ?_
            refine Own.s_aload X188 at_381 rfl rfl rfl ?_
            refine Own.s_iconst X188 at_383 (4 : Int32) (by decide) rfl ?_
            have ex191 : Ext h181 h188 := Own.extK (Own.Ext.rfl' h181) V188.1 all0
            have S_192 := Own.Str.ext S_185 ex191
            have Z_193 := Sta.ext ex191 Z_186
            have Z_194 := Sta.ext ex191 Z_187
            have E_196 := Exa.ext ex191 E_189
            refine Own.b_virtual X188 at_384 (tw85 hw) (tw86 hw) (notFace_of_selects (args := #[]) (mvT X188.hZ (tw88 hw))) (tw88 hw) (tw87 hw) (by decide) r1 [(.int (4 : Int32))] [] E_196 (Own.strAt (W := 0) (i := 4) X188.hZ (wChN hw) (tw7 hw) S_192 Z_193 hzc Z_194 hfm (own_gt (i := 4) hc378_190 hkk (by decide) hws) (by decide) (by decide) (by decide)) (fun v h' L q => Own.strAtQ (z := c4) (hg4 (own_gt (i := 4) hc378_190 hkk (by decide) hws)) q) Own.Ok.nil (lenOf pd_15 rfl) rfl (Nat.le_of_eq rfl) (by decide) (by decide) rfl rfl ?_
            intro v195 vm195 T195 h195 L195 X195 V195 Q195
            obtain rfl := Q195
            refine Own.s_iload X195 at_387 rfl rfl ?_
            refine Own.s_icmpF X195 at_389 (teq rfl).2 rfl ?_
            refine Own.s_iconst X195 at_392 (1 : Int32) (by decide) rfl ?_
            refine Own.s_goto X195 at_393 (by decide) (pc' := 397) (by decide) ?_
            exact Own.r_nar X195 rfl (Or.inl rfl) at_397 (by decide) (by decide) (by decide)
          · refine Own.s_icmpT X188 at_378 (flt hc378_190).2.2.2 (by decide) (pc' := 392) (by decide) ?_
            refine Own.s_iconst X188 at_392 (1 : Int32) (by decide) rfl ?_
            refine Own.s_goto X188 at_393 (by decide) (pc' := 397) (by decide) ?_
            exact Own.r_nar X188 rfl (Or.inl rfl) at_397 (by decide) (by decide) (by decide)
        · refine Own.s_icmpT X181 at_361 (flt hc361_183).2.2.2 (by decide) (pc' := 375) (by decide) ?_
          refine Own.s_iload X181 at_375 rfl rfl ?_
          refine Own.s_iconst X181 at_377 (4 : Int32) (by decide) rfl ?_
          by_cases hc378_197 : (4 : Int32) < kk
          · refine Own.s_icmpF X181 at_378 (tlt hc378_197).2.2.2 rfl ?_
            refine Own.s_aload X181 at_381 rfl rfl rfl ?_
            refine Own.s_iconst X181 at_383 (4 : Int32) (by decide) rfl ?_
            have ex198 : Ext h4 h181 := Own.extK (Own.Ext.rfl' h4) V181.1 all0
            have S_199 := Own.Str.ext S_177 ex198
            have Z_200 := Sta.ext ex198 Z_178
            have Z_201 := Sta.ext ex198 Z_180
            have E_203 := Exa.ext ex198 E_182
            refine Own.b_virtual X181 at_384 (tw85 hw) (tw86 hw) (notFace_of_selects (args := #[]) (mvT X181.hZ (tw88 hw))) (tw88 hw) (tw87 hw) (by decide) r1 [(.int (4 : Int32))] [] E_203 (Own.strAt (W := 0) (i := 4) X181.hZ (wChN hw) (tw7 hw) S_199 Z_200 hzc Z_201 hfm (own_gt (i := 4) hc378_197 hkk (by decide) hws) (by decide) (by decide) (by decide)) (fun v h' L q => Own.strAtQ (z := c4) (hg4 (own_gt (i := 4) hc378_197 hkk (by decide) hws)) q) Own.Ok.nil (lenOf pd_15 rfl) rfl (Nat.le_of_eq rfl) (by decide) (by decide) rfl rfl ?_
            intro v202 vm202 T202 h202 L202 X202 V202 Q202
            obtain rfl := Q202
            refine Own.s_iload X202 at_387 rfl rfl ?_
            refine Own.s_icmpF X202 at_389 (teq rfl).2 rfl ?_
            refine Own.s_iconst X202 at_392 (1 : Int32) (by decide) rfl ?_
            refine Own.s_goto X202 at_393 (by decide) (pc' := 397) (by decide) ?_
            exact Own.r_nar X202 rfl (Or.inl rfl) at_397 (by decide) (by decide) (by decide)
          · refine Own.s_icmpT X181 at_378 (flt hc378_197).2.2.2 (by decide) (pc' := 392) (by decide) ?_
            refine Own.s_iconst X181 at_392 (1 : Int32) (by decide) rfl ?_
            refine Own.s_goto X181 at_393 (by decide) (pc' := 397) (by decide) ?_
            exact Own.r_nar X181 rfl (Or.inl rfl) at_397 (by decide) (by decide) (by decide)
      · refine Own.s_icmpT X4 at_344 (flt hc344_175).2.2.2 (by decide) (pc' := 358) (by decide) ?_
        refine Own.s_iload X4 at_358 rfl rfl ?_
        refine Own.s_iconst X4 at_360 (3 : Int32) (by decide) rfl ?_
        by_cases hc361_204 : (3 : Int32) < kk
        · refine Own.s_icmpF X4 at_361 (tlt hc361_204).2.2.2 rfl ?_
          refine Own.s_aload X4 at_364 rfl rfl rfl ?_
          refine Own.s_iconst X4 at_366 (3 : Int32) (by decide) rfl ?_
          have ex205 : Ext h1 h4 := Own.extK (Own.Ext.rfl' h1) V4.1 all0
          have S_206 := Own.Str.ext S1 ex205
          have Z_207 := Sta.ext ex205 Z_3
          have ex208 : Ext h0s h4 := Own.extK ex2 V4.1 all0
          have Z_209 := Sta.ext ex208 SF0
          have E_211 := Exa.ext ex205 S1.exa
          refine Own.b_virtual X4 at_367 (tw85 hw) (tw86 hw) (notFace_of_selects (args := #[]) (mvT X4.hZ (tw88 hw))) (tw88 hw) (tw87 hw) (by decide) r1 [(.int (3 : Int32))] [] E_211 (Own.strAt (W := 0) (i := 3) X4.hZ (wChN hw) (tw7 hw) S_206 Z_207 hzc Z_209 hfm (own_gt (i := 3) hc361_204 hkk (by decide) hws) (by decide) (by decide) (by decide)) (fun v h' L q => Own.strAtQ (z := c3) (hg3 (own_gt (i := 3) hc361_204 hkk (by decide) hws)) q) Own.Ok.nil (lenOf pd_15 rfl) rfl (Nat.le_of_eq rfl) (by decide) (by decide) rfl rfl ?_
          intro v210 vm210 T210 h210 L210 X210 V210 Q210
          obtain rfl := Q210
          refine Own.s_iload X210 at_370 rfl rfl ?_
          refine Own.s_icmpF X210 at_372 (teq rfl).2 rfl ?_
          refine Own.s_iload X210 at_375 rfl rfl ?_
          refine Own.s_iconst X210 at_377 (4 : Int32) (by decide) rfl ?_
          by_cases hc378_212 : (4 : Int32) < kk
          · refine Own.s_icmpF X210 at_378 (tlt hc378_212).2.2.2 rfl ?_
            refine Own.s_aload X210 at_381 rfl rfl rfl ?_
            refine Own.s_iconst X210 at_383 (4 : Int32) (by decide) rfl ?_
            have ex213 : Ext h4 h210 := Own.extK (Own.Ext.rfl' h4) V210.1 all0
            have S_214 := Own.Str.ext S_206 ex213
            have Z_215 := Sta.ext ex213 Z_207
            have Z_216 := Sta.ext ex213 Z_209
            have E_218 := Exa.ext ex213 E_211
            refine Own.b_virtual X210 at_384 (tw85 hw) (tw86 hw) (notFace_of_selects (args := #[]) (mvT X210.hZ (tw88 hw))) (tw88 hw) (tw87 hw) (by decide) r1 [(.int (4 : Int32))] [] E_218 (Own.strAt (W := 0) (i := 4) X210.hZ (wChN hw) (tw7 hw) S_214 Z_215 hzc Z_216 hfm (own_gt (i := 4) hc378_212 hkk (by decide) hws) (by decide) (by decide) (by decide)) (fun v h' L q => Own.strAtQ (z := c4) (hg4 (own_gt (i := 4) hc378_212 hkk (by decide) hws)) q) Own.Ok.nil (lenOf pd_15 rfl) rfl (Nat.le_of_eq rfl) (by decide) (by decide) rfl rfl ?_
            intro v217 vm217 T217 h217 L217 X217 V217 Q217
            obtain rfl := Q217
            refine Own.s_iload X217 at_387 rfl rfl ?_
            refine Own.s_icmpF X217 at_389 (teq rfl).2 rfl ?_
            refine Own.s_iconst X217 at_392 (1 : Int32) (by decide) rfl ?_
            refine Own.s_goto X217 at_393 (by decide) (pc' := 397) (by decide) ?_
            exact Own.r_nar X217 rfl (Or.inl rfl) at_397 (by decide) (by decide) (by decide)
          · refine Own.s_icmpT X210 at_378 (flt hc378_212).2.2.2 (by decide) (pc' := 392) (by decide) ?_
            refine Own.s_iconst X210 at_392 (1 : Int32) (by decide) rfl ?_
            refine Own.s_goto X210 at_393 (by decide) (pc' := 397) (by decide) ?_
            exact Own.r_nar X210 rfl (Or.inl rfl) at_397 (by decide) (by decide) (by decide)
        · refine Own.s_icmpT X4 at_361 (flt hc361_204).2.2.2 (by decide) (pc' := 375) (by decide) ?_
          refine Own.s_iload X4 at_375 rfl rfl ?_
          refine Own.s_iconst X4 at_377 (4 : Int32) (by decide) rfl ?_
          by_cases hc378_219 : (4 : Int32) < kk
          · refine Own.s_icmpF X4 at_378 (tlt hc378_219).2.2.2 rfl ?_
            refine Own.s_aload X4 at_381 rfl rfl rfl ?_
            refine Own.s_iconst X4 at_383 (4 : Int32) (by decide) rfl ?_
            have ex220 : Ext h1 h4 := Own.extK (Own.Ext.rfl' h1) V4.1 all0
            have S_221 := Own.Str.ext S1 ex220
            have Z_222 := Sta.ext ex220 Z_3
            have ex223 : Ext h0s h4 := Own.extK ex2 V4.1 all0
            have Z_224 := Sta.ext ex223 SF0
            have E_226 := Exa.ext ex220 S1.exa
            refine Own.b_virtual X4 at_384 (tw85 hw) (tw86 hw) (notFace_of_selects (args := #[]) (mvT X4.hZ (tw88 hw))) (tw88 hw) (tw87 hw) (by decide) r1 [(.int (4 : Int32))] [] E_226 (Own.strAt (W := 0) (i := 4) X4.hZ (wChN hw) (tw7 hw) S_221 Z_222 hzc Z_224 hfm (own_gt (i := 4) hc378_219 hkk (by decide) hws) (by decide) (by decide) (by decide)) (fun v h' L q => Own.strAtQ (z := c4) (hg4 (own_gt (i := 4) hc378_219 hkk (by decide) hws)) q) Own.Ok.nil (lenOf pd_15 rfl) rfl (Nat.le_of_eq rfl) (by decide) (by decide) rfl rfl ?_
            intro v225 vm225 T225 h225 L225 X225 V225 Q225
            obtain rfl := Q225
            refine Own.s_iload X225 at_387 rfl rfl ?_
            refine Own.s_icmpF X225 at_389 (teq rfl).2 rfl ?_
            refine Own.s_iconst X225 at_392 (1 : Int32) (by decide) rfl ?_
            refine Own.s_goto X225 at_393 (by decide) (pc' := 397) (by decide) ?_
            exact Own.r_nar X225 rfl (Or.inl rfl) at_397 (by decide) (by decide) (by decide)
          · refine Own.s_icmpT X4 at_378 (flt hc378_219).2.2.2 (by decide) (pc' := 392) (by decide) ?_
            refine Own.s_iconst X4 at_392 (1 : Int32) (by decide) rfl ?_
            refine Own.s_goto X4 at_393 (by decide) (pc' := 397) (by decide) ?_
            exact Own.r_nar X4 rfl (Or.inl rfl) at_397 (by decide) (by decide) (by decide)
set_option maxRecDepth 65536 in
set_option maxHeartbeats 40000000 in
theorem rm_law {l : Launch} {Z : State} {a0 : Array Value} (hw : ∀ d ∈ tables_1, d.before a0 Z = true) (p0 p1 p2 p3 p4 p5 : Int32) {zc : Int32} (SC : Sta Z Z.heap "java/lang/String" "COMPACT_STRINGS" "Z" (.int zc)) (hzc : ¬ zc = 0) {fm : Value} (SF : Sta Z Z.heap "jdk/internal/util/Preconditions" "SIOOBE_FORMATTER" "Ljava/util/function/BiFunction;" fm) (hfm : fm.isRef = true) (h0 : Heap) (hE : Ext Z.heap h0)  :
    Own.Ctr true l Z a0 EL x code maxLocals ret room_1 #[(.int p0), (.int p1), (.int p2), (.int p3), (.int p4), (.int p5)] h0 [] (fun v h => v = some (.int (1 : Int32))) := by
  refine Own.Ctr.of pn_20 (ef_14 p0 p1 p2 p3 p4 p5) hE (ewEL hw) ?_
  intro p e s m below meth c T0 X0 hsafe
  have SC0 := Sta.ext hE SC
  have SF0 := Sta.ext hE SF
  refine Own.s_iloadN X0 at_0 rfl rfl ?_
  refine Own.s_ldcI X0 at_1 (tw0 hw) rfl ?_
  refine Own.s_iand X0 at_3 rfl ?_
  refine Own.s_bipush X0 at_4 (6 : Int32) (by decide) rfl ?_
  refine Own.s_irem X0 at_6 (by decide) rfl ?_
  refine Own.s_istore X0 at_7 #[.val (.int p0), .val (.int p1), .val (.int p2), .val (.int p3), .val (.int p4), .val (.int p5), .val (.int ((p0 &&& (2147483647 : Int32)) % (6 : Int32))), .unset, .unset, .unset, .unset, .unset, .unset, .unset, .unset, .unset] rfl rfl ?_
  refine Own.s_iloadN X0 at_9 rfl rfl ?_
  refine Own.c_static X0 at_10 (tw1 hw) (tw2 hw) (tw3 hw) (tw4 hw) (by decide) [(.int p1)] [] 0 (rm_ch hw p1 h0 X0.hE) (fun q => nomatch q) Own.Ok.nil (lenOf pd_15 rfl) rfl (Nat.le_of_eq rfl) (by decide) (by decide) (by decide) (by decide) rfl rfl ?_
  intro v1 vm1 T1 h1 L1 X1 V1 Q1
  obtain ⟨z1, rfl, hz1⟩ := Q1
  refine Own.s_istore X1 at_13 #[.val (.int p0), .val (.int p1), .val (.int p2), .val (.int p3), .val (.int p4), .val (.int p5), .val (.int ((p0 &&& (2147483647 : Int32)) % (6 : Int32))), .val (.int z1), .unset, .unset, .unset, .unset, .unset, .unset, .unset, .unset] rfl rfl ?_
  refine Own.s_iloadN X1 at_15 rfl rfl ?_
  refine Own.c_static X1 at_16 (tw1 hw) (tw2 hw) (tw3 hw) (tw4 hw) (by decide) [(.int p2)] [] 0 (rm_ch hw p2 h1 X1.hE) (fun q => nomatch q) Own.Ok.nil (lenOf pd_15 rfl) rfl (Nat.le_of_eq rfl) (by decide) (by decide) (by decide) (by decide) rfl rfl ?_
  intro v2 vm2 T2 h2 L2 X2 V2 Q2
  obtain ⟨z2, rfl, hz2⟩ := Q2
  refine Own.s_istore X2 at_19 #[.val (.int p0), .val (.int p1), .val (.int p2), .val (.int p3), .val (.int p4), .val (.int p5), .val (.int ((p0 &&& (2147483647 : Int32)) % (6 : Int32))), .val (.int z1), .val (.int z2), .unset, .unset, .unset, .unset, .unset, .unset, .unset] rfl rfl ?_
  refine Own.s_iloadN X2 at_21 rfl rfl ?_
  refine Own.c_static X2 at_22 (tw1 hw) (tw2 hw) (tw3 hw) (tw4 hw) (by decide) [(.int p3)] [] 0 (rm_ch hw p3 h2 X2.hE) (fun q => nomatch q) Own.Ok.nil (lenOf pd_15 rfl) rfl (Nat.le_of_eq rfl) (by decide) (by decide) (by decide) (by decide) rfl rfl ?_
  intro v3 vm3 T3 h3 L3 X3 V3 Q3
  obtain ⟨z3, rfl, hz3⟩ := Q3
  refine Own.s_istore X3 at_25 #[.val (.int p0), .val (.int p1), .val (.int p2), .val (.int p3), .val (.int p4), .val (.int p5), .val (.int ((p0 &&& (2147483647 : Int32)) % (6 : Int32))), .val (.int z1), .val (.int z2), .val (.int z3), .unset, .unset, .unset, .unset, .unset, .unset] rfl rfl ?_
  refine Own.s_iload X3 at_27 rfl rfl ?_
  refine Own.c_static X3 at_29 (tw1 hw) (tw2 hw) (tw3 hw) (tw4 hw) (by decide) [(.int p4)] [] 0 (rm_ch hw p4 h3 X3.hE) (fun q => nomatch q) Own.Ok.nil (lenOf pd_15 rfl) rfl (Nat.le_of_eq rfl) (by decide) (by decide) (by decide) (by decide) rfl rfl ?_
  intro v4 vm4 T4 h4 L4 X4 V4 Q4
  obtain ⟨z4, rfl, hz4⟩ := Q4
  refine Own.s_istore X4 at_32 #[.val (.int p0), .val (.int p1), .val (.int p2), .val (.int p3), .val (.int p4), .val (.int p5), .val (.int ((p0 &&& (2147483647 : Int32)) % (6 : Int32))), .val (.int z1), .val (.int z2), .val (.int z3), .val (.int z4), .unset, .unset, .unset, .unset, .unset] rfl rfl ?_
  refine Own.s_iload X4 at_34 rfl rfl ?_
  refine Own.c_static X4 at_36 (tw1 hw) (tw2 hw) (tw3 hw) (tw4 hw) (by decide) [(.int p5)] [] 0 (rm_ch hw p5 h4 X4.hE) (fun q => nomatch q) Own.Ok.nil (lenOf pd_15 rfl) rfl (Nat.le_of_eq rfl) (by decide) (by decide) (by decide) (by decide) rfl rfl ?_
  intro v5 vm5 T5 h5 L5 X5 V5 Q5
  obtain ⟨z5, rfl, hz5⟩ := Q5
  refine Own.s_istore X5 at_39 #[.val (.int p0), .val (.int p1), .val (.int p2), .val (.int p3), .val (.int p4), .val (.int p5), .val (.int ((p0 &&& (2147483647 : Int32)) % (6 : Int32))), .val (.int z1), .val (.int z2), .val (.int z3), .val (.int z4), .val (.int z5), .unset, .unset, .unset, .unset] rfl rfl ?_
  rcases own_p6 p0 with hn0 | hn1 | hn2 | hn3 | hn4 | hn5
  · refine Own.s_iload X5 at_41 rfl rfl ?_
    refine Own.s_ifF X5 at_43 ((if0 _ _).trans (teq (show ((p0 &&& (2147483647 : Int32)) % (6 : Int32)) = (0 : Int32) by rw [hn0] <;> decide)).2) rfl ?_
    refine Own.s_iconst X5 at_46 (0 : Int32) (by decide) rfl ?_
    refine Own.s_newarray X5 at_47 (tw5 hw) (by decide) 0 (by decide) (by decide) (by decide) (by decide) rfl ?_
    intro b6 T6 h6 k6 X6 V6 g6 A6 O6
    refine Own.s_astore X6 at_49 rfl #[.val (.int p0), .val (.int p1), .val (.int p2), .val (.int p3), .val (.int p4), .val (.int p5), .val (.int ((p0 &&& (2147483647 : Int32)) % (6 : Int32))), .val (.int z1), .val (.int z2), .val (.int z3), .val (.int z4), .val (.int z5), .val (.ref b6), .unset, .unset, .unset] rfl rfl ?_
    refine Own.s_goto X6 at_51 (by decide) (pc' := 190) (by decide) ?_
    refine Own.s_new X6 at_190 (tw6 hw) (tw7 hw) (tw8 hw) (by decide) (by decide) rfl ?_
    intro b7 T7 h7 X7 V7 g7 E7 O7 D7
    have F7_value : Fld Z h7 b7 "java/lang/String" "value" "[B" (.null) := D7 (Or.inr (tw21 hw)) (ty := (.array .byte)) (by decide)
    have F7_coder : Fld Z h7 b7 "java/lang/String" "coder" "B" (.int 0) := D7 (Or.inr (tw22 hw)) (ty := .byte) (by decide)
    refine Own.s_dup X7 at_193 rfl rfl ?_
    refine Own.s_aload X7 at_194 rfl rfl rfl ?_
    have ex8 : Ext h6 h7 := Own.extK (Own.Ext.rfl' h6) V7.1 all0
    have A_9 := Arv.ext A6 ex8
    refine Own.c_special X7 at_196 rfl (tw9 hw) (tw10 hw) (tw8 hw) (tw11 hw) (by decide) b7 [(.ref b6)] [(.ref b7)] 1 (rm_str0 hw b7 b6 _ h7 X7.hE O7.2.1 E7 F7_value F7_coder A_9) (fun _ => rfl) (Own.Ok.one O7) (lenOf pd_16 rfl) rfl (Nat.le_of_eq rfl) (by decide) (by decide) (by decide) (by decide) rfl rfl ?_
    intro v10 vm10 T10 h10 L10 X10 V10 Q10
    obtain ⟨rfl, S10⟩ := Q10
    refine Own.s_astore X10 at_199 rfl #[.val (.int p0), .val (.int p1), .val (.int p2), .val (.int p3), .val (.int p4), .val (.int p5), .val (.int ((p0 &&& (2147483647 : Int32)) % (6 : Int32))), .val (.int z1), .val (.int z2), .val (.int z3), .val (.int z4), .val (.int z5), .val (.ref b6), .val (.ref b7), .unset, .unset] rfl rfl ?_
    refine Own.s_iload X10 at_201 rfl rfl ?_
    refine Own.s_istore X10 at_203 #[.val (.int p0), .val (.int p1), .val (.int p2), .val (.int p3), .val (.int p4), .val (.int p5), .val (.int ((p0 &&& (2147483647 : Int32)) % (6 : Int32))), .val (.int z1), .val (.int z2), .val (.int z3), .val (.int z4), .val (.int z5), .val (.ref b6), .val (.ref b7), .val (.int ((p0 &&& (2147483647 : Int32)) % (6 : Int32))), .unset] rfl rfl ?_
    refine Own.s_iload X10 at_205 rfl rfl ?_
    refine Own.s_iconst X10 at_207 (4 : Int32) (by decide) rfl ?_
    refine Own.s_icmpT X10 at_208 (flt (show ¬ ((4 : Int32) < ((p0 &&& (2147483647 : Int32)) % (6 : Int32))) by rw [hn0] <;> decide)).2.2.2 (by decide) (pc' := 221) (by decide) ?_
    refine Own.s_iload X10 at_221 rfl rfl ?_
    refine Own.s_iconst X10 at_223 (3 : Int32) (by decide) rfl ?_
    refine Own.s_icmpT X10 at_224 (flt (show ¬ ((3 : Int32) < ((p0 &&& (2147483647 : Int32)) % (6 : Int32))) by rw [hn0] <;> decide)).2.2.2 (by decide) (pc' := 237) (by decide) ?_
    refine Own.s_iload X10 at_237 rfl rfl ?_
    refine Own.s_iconst X10 at_239 (2 : Int32) (by decide) rfl ?_
    refine Own.s_icmpT X10 at_240 (flt (show ¬ ((2 : Int32) < ((p0 &&& (2147483647 : Int32)) % (6 : Int32))) by rw [hn0] <;> decide)).2.2.2 (by decide) (pc' := 253) (by decide) ?_
    refine Own.s_iload X10 at_253 rfl rfl ?_
    refine Own.s_iconst X10 at_255 (1 : Int32) (by decide) rfl ?_
    refine Own.s_icmpT X10 at_256 (flt (show ¬ ((1 : Int32) < ((p0 &&& (2147483647 : Int32)) % (6 : Int32))) by rw [hn0] <;> decide)).2.2.2 (by decide) (pc' := 269) (by decide) ?_
    refine Own.s_iload X10 at_269 rfl rfl ?_
    refine Own.s_ifT X10 at_271 ((if0 _ _).trans (flt (show ¬ ((0 : Int32) < ((p0 &&& (2147483647 : Int32)) % (6 : Int32))) by rw [hn0] <;> decide)).2.2.2) (by decide) (pc' := 284) (by decide) ?_
    exact sg_d hw p0 p1 p2 p3 p4 p5 SC hzc SF hfm ((p0 &&& (2147483647 : Int32)) % (6 : Int32)) ((p0 &&& (2147483647 : Int32)) % (6 : Int32)) z1 z2 z3 z4 z5 b6 b7 [] [] (Own.Wk.mono X10 (by decide) (by decide)) S10 (by simp) (by rw [Own.tw_nil]) (by simp) (by rw [hn0]; rfl) (fun h => absurd h (by simp)) (fun h => absurd h (by simp)) (fun h => absurd h (by simp)) (fun h => absurd h (by simp)) (fun h => absurd h (by simp))
  · refine Own.s_iload X5 at_41 rfl rfl ?_
    refine Own.s_ifT X5 at_43 ((if0 _ _).trans (feq (show ¬ (((p0 &&& (2147483647 : Int32)) % (6 : Int32)) = (0 : Int32)) by rw [hn1] <;> decide)).2) (by decide) (pc' := 54) (by decide) ?_
    refine Own.s_iload X5 at_54 rfl rfl ?_
    refine Own.s_iconst X5 at_56 (1 : Int32) (by decide) rfl ?_
    refine Own.s_icmpF X5 at_57 (teq (show ((p0 &&& (2147483647 : Int32)) % (6 : Int32)) = (1 : Int32) by rw [hn1] <;> decide)).2 rfl ?_
    refine Own.s_iconst X5 at_60 (1 : Int32) (by decide) rfl ?_
    refine Own.s_newarray X5 at_61 (tw5 hw) (by decide) 1 (by decide) (by decide) (by decide) (by decide) rfl ?_
    intro b11 T11 h11 k11 X11 V11 g11 A11 O11
    have B11 : Arv Z h11 b11 k11 .char (1 : Int32) [(.int (0 : Int32))] (.int (0 : Int32)) := A11.pad (pad_rep [] (.int (0 : Int32)) 1)
    refine Own.s_dup X11 at_63 rfl rfl ?_
    refine Own.s_iconst X11 at_64 (0 : Int32) (by decide) rfl ?_
    refine Own.s_iload X11 at_65 rfl rfl ?_
    refine Own.s_castoreR X11 at_67 B11 ⟨by decide, by decide⟩ 0 (by decide) (Nat.le_of_ble_eq_true rfl) (Own.nar_chr hz1) O11 rfl ?_
    intro T12 h12 X12 V12 A12
    have B12 : Arv Z h12 b11 k11 .char (1 : Int32) [(.int z1)] (.int (0 : Int32)) := A12
    refine Own.s_astore X12 at_68 rfl #[.val (.int p0), .val (.int p1), .val (.int p2), .val (.int p3), .val (.int p4), .val (.int p5), .val (.int ((p0 &&& (2147483647 : Int32)) % (6 : Int32))), .val (.int z1), .val (.int z2), .val (.int z3), .val (.int z4), .val (.int z5), .val (.ref b11), .unset, .unset, .unset] rfl rfl ?_
    refine Own.s_goto X12 at_70 (by decide) (pc' := 190) (by decide) ?_
    refine Own.s_new X12 at_190 (tw6 hw) (tw7 hw) (tw8 hw) (by decide) (by decide) rfl ?_
    intro b13 T13 h13 X13 V13 g13 E13 O13 D13
    have F13_value : Fld Z h13 b13 "java/lang/String" "value" "[B" (.null) := D13 (Or.inr (tw21 hw)) (ty := (.array .byte)) (by decide)
    have F13_coder : Fld Z h13 b13 "java/lang/String" "coder" "B" (.int 0) := D13 (Or.inr (tw22 hw)) (ty := .byte) (by decide)
    refine Own.s_dup X13 at_193 rfl rfl ?_
    refine Own.s_aload X13 at_194 rfl rfl rfl ?_
    have ex14 : Ext h0 h1 := Own.extK (Own.Ext.rfl' h0) V1.1 all0
    have ex15 : Ext h0 h2 := Own.extK ex14 V2.1 all0
    have ex16 : Ext h0 h3 := Own.extK ex15 V3.1 all0
    have ex17 : Ext h0 h4 := Own.extK ex16 V4.1 all0
    have ex18 : Ext h0 h5 := Own.extK ex17 V5.1 all0
    have ex19 : Ext h0 h11 := Own.extK ex18 V11.1 all0
    have le24 : h0.size ≤ h1.size := V1.1.1
    have le23 : h0.size ≤ h2.size := Nat.le_trans le24 V2.1.1
    have le22 : h0.size ≤ h3.size := Nat.le_trans le23 V3.1.1
    have le21 : h0.size ≤ h4.size := Nat.le_trans le22 V4.1.1
    have le20 : h0.size ≤ h5.size := Nat.le_trans le21 V5.1.1
    have ex25 : Ext h0 h12 := Own.extK ex19 V12.1 (allS (Nat.le_trans le20 g11) all0)
    have ex26 : Ext h0 h13 := Own.extK ex25 V13.1 all0
    have Z_27 := Sta.ext ex26 SC0
    have ex28 : Ext h12 h13 := Own.extK (Own.Ext.rfl' h12) V13.1 all0
    have A_29 := Arv.ext B12 ex28
    have lat30 : ∀ c ∈ [z1], Own.Lat c := (Own.latL hz1 Own.latN)
    refine Own.b_special X13 at_196 rfl (tw9 hw) (tw10 hw) (tw11 hw) (by decide) b13 [(.ref b11)] [(.ref b13)] (Own.strNew (W := 1) (cs := [z1]) (n := 1) X13.hZ (wNew hw) (tw7 hw) O13.2.1 X13.hE.1 E13 F13_value F13_coder A_29 Z_27 hzc rfl (by decide) (by decide) (by decide) lat30 (by decide) (by decide)) (fun v h' L q => Own.strNewQ (n := 1) rfl (by decide) (by decide) lat30 q) (Own.Ok.one O13) (lenOf pd_16 rfl) rfl (Nat.le_of_eq rfl) (by decide) (by decide) rfl rfl ?_
    intro v31 vm31 T31 h31 L31 X31 V31 Q31
    obtain ⟨rfl, S31⟩ := Q31
    refine Own.s_astore X31 at_199 rfl #[.val (.int p0), .val (.int p1), .val (.int p2), .val (.int p3), .val (.int p4), .val (.int p5), .val (.int ((p0 &&& (2147483647 : Int32)) % (6 : Int32))), .val (.int z1), .val (.int z2), .val (.int z3), .val (.int z4), .val (.int z5), .val (.ref b11), .val (.ref b13), .unset, .unset] rfl rfl ?_
    refine Own.s_iload X31 at_201 rfl rfl ?_
    refine Own.s_istore X31 at_203 #[.val (.int p0), .val (.int p1), .val (.int p2), .val (.int p3), .val (.int p4), .val (.int p5), .val (.int ((p0 &&& (2147483647 : Int32)) % (6 : Int32))), .val (.int z1), .val (.int z2), .val (.int z3), .val (.int z4), .val (.int z5), .val (.ref b11), .val (.ref b13), .val (.int ((p0 &&& (2147483647 : Int32)) % (6 : Int32))), .unset] rfl rfl ?_
    refine Own.s_iload X31 at_205 rfl rfl ?_
    refine Own.s_iconst X31 at_207 (4 : Int32) (by decide) rfl ?_
    refine Own.s_icmpT X31 at_208 (flt (show ¬ ((4 : Int32) < ((p0 &&& (2147483647 : Int32)) % (6 : Int32))) by rw [hn1] <;> decide)).2.2.2 (by decide) (pc' := 221) (by decide) ?_
    refine Own.s_iload X31 at_221 rfl rfl ?_
    refine Own.s_iconst X31 at_223 (3 : Int32) (by decide) rfl ?_
    refine Own.s_icmpT X31 at_224 (flt (show ¬ ((3 : Int32) < ((p0 &&& (2147483647 : Int32)) % (6 : Int32))) by rw [hn1] <;> decide)).2.2.2 (by decide) (pc' := 237) (by decide) ?_
    refine Own.s_iload X31 at_237 rfl rfl ?_
    refine Own.s_iconst X31 at_239 (2 : Int32) (by decide) rfl ?_
    refine Own.s_icmpT X31 at_240 (flt (show ¬ ((2 : Int32) < ((p0 &&& (2147483647 : Int32)) % (6 : Int32))) by rw [hn1] <;> decide)).2.2.2 (by decide) (pc' := 253) (by decide) ?_
    refine Own.s_iload X31 at_253 rfl rfl ?_
    refine Own.s_iconst X31 at_255 (1 : Int32) (by decide) rfl ?_
    refine Own.s_icmpT X31 at_256 (flt (show ¬ ((1 : Int32) < ((p0 &&& (2147483647 : Int32)) % (6 : Int32))) by rw [hn1] <;> decide)).2.2.2 (by decide) (pc' := 269) (by decide) ?_
    refine Own.s_iload X31 at_269 rfl rfl ?_
    refine Own.s_ifF X31 at_271 ((if0 _ _).trans (tlt (show (0 : Int32) < ((p0 &&& (2147483647 : Int32)) % (6 : Int32)) by rw [hn1] <;> decide)).2.2.2) rfl ?_
    refine Own.s_iload X31 at_274 rfl rfl ?_
    refine Own.s_bipush X31 at_276 (35 : Int32) (by decide) rfl ?_
    by_cases hc278_32 : z1 = (35 : Int32)
    · refine Own.s_icmpF X31 at_278 (teq hc278_32).2 rfl ?_
      refine Own.s_iconst X31 at_281 (0 : Int32) (by decide) rfl ?_
      refine Own.s_istore X31 at_282 #[.val (.int p0), .val (.int p1), .val (.int p2), .val (.int p3), .val (.int p4), .val (.int p5), .val (.int ((p0 &&& (2147483647 : Int32)) % (6 : Int32))), .val (.int z1), .val (.int z2), .val (.int z3), .val (.int z4), .val (.int z5), .val (.ref b11), .val (.ref b13), .val (.int (0 : Int32)), .unset] rfl rfl ?_
      exact sg_d hw p0 p1 p2 p3 p4 p5 SC hzc SF hfm ((p0 &&& (2147483647 : Int32)) % (6 : Int32)) (0 : Int32) z1 z2 z3 z4 z5 b11 b13 [z1] [] (Own.Wk.mono X31 (by decide) (by decide)) S31 (by simp) (by rw [Own.tw_hit hc278_32]) (by simp) rfl (fun h => absurd h (by simp)) (fun h => absurd h (by simp)) (fun h => absurd h (by simp)) (fun h => absurd h (by simp)) (fun h => absurd h (by simp))
    · refine Own.s_icmpT X31 at_278 (feq hc278_32).2 (by decide) (pc' := 284) (by decide) ?_
      exact sg_d hw p0 p1 p2 p3 p4 p5 SC hzc SF hfm ((p0 &&& (2147483647 : Int32)) % (6 : Int32)) ((p0 &&& (2147483647 : Int32)) % (6 : Int32)) z1 z2 z3 z4 z5 b11 b13 [z1] [z1] (Own.Wk.mono X31 (by decide) (by decide)) S31 (by simp) (by rw [Own.tw_miss hc278_32, Own.tw_nil]) (by simp) (by rw [hn1]; rfl) (fun _ => rfl) (fun h => absurd h (by simp)) (fun h => absurd h (by simp)) (fun h => absurd h (by simp)) (fun h => absurd h (by simp))
  · refine Own.s_iload X5 at_41 rfl rfl ?_
    refine Own.s_ifT X5 at_43 ((if0 _ _).trans (feq (show ¬ (((p0 &&& (2147483647 : Int32)) % (6 : Int32)) = (0 : Int32)) by rw [hn2] <;> decide)).2) (by decide) (pc' := 54) (by decide) ?_
    refine Own.s_iload X5 at_54 rfl rfl ?_
    refine Own.s_iconst X5 at_56 (1 : Int32) (by decide) rfl ?_
    refine Own.s_icmpT X5 at_57 (feq (show ¬ (((p0 &&& (2147483647 : Int32)) % (6 : Int32)) = (1 : Int32)) by rw [hn2] <;> decide)).2 (by decide) (pc' := 73) (by decide) ?_
    refine Own.s_iload X5 at_73 rfl rfl ?_
    refine Own.s_iconst X5 at_75 (2 : Int32) (by decide) rfl ?_
    refine Own.s_icmpF X5 at_76 (teq (show ((p0 &&& (2147483647 : Int32)) % (6 : Int32)) = (2 : Int32) by rw [hn2] <;> decide)).2 rfl ?_
    refine Own.s_iconst X5 at_79 (2 : Int32) (by decide) rfl ?_
    refine Own.s_newarray X5 at_80 (tw5 hw) (by decide) 2 (by decide) (by decide) (by decide) (by decide) rfl ?_
    intro b33 T33 h33 k33 X33 V33 g33 A33 O33
    have B33 : Arv Z h33 b33 k33 .char (2 : Int32) [(.int (0 : Int32)), (.int (0 : Int32))] (.int (0 : Int32)) := A33.pad (pad_rep [] (.int (0 : Int32)) 2)
    refine Own.s_dup X33 at_82 rfl rfl ?_
    refine Own.s_iconst X33 at_83 (0 : Int32) (by decide) rfl ?_
    refine Own.s_iload X33 at_84 rfl rfl ?_
    refine Own.s_castoreR X33 at_86 B33 ⟨by decide, by decide⟩ 0 (by decide) (Nat.le_of_ble_eq_true rfl) (Own.nar_chr hz1) O33 rfl ?_
    intro T34 h34 X34 V34 A34
    have B34 : Arv Z h34 b33 k33 .char (2 : Int32) [(.int z1), (.int (0 : Int32))] (.int (0 : Int32)) := A34
    refine Own.s_dup X34 at_87 rfl rfl ?_
    refine Own.s_iconst X34 at_88 (1 : Int32) (by decide) rfl ?_
    refine Own.s_iload X34 at_89 rfl rfl ?_
    have O36 := (O33.ev V34)
    refine Own.s_castoreR X34 at_91 B34 ⟨by decide, by decide⟩ 1 (by decide) (Nat.le_of_ble_eq_true rfl) (Own.nar_chr hz2) O36 rfl ?_
    intro T35 h35 X35 V35 A35
    have B35 : Arv Z h35 b33 k33 .char (2 : Int32) [(.int z1), (.int z2)] (.int (0 : Int32)) := A35
    refine Own.s_astore X35 at_92 rfl #[.val (.int p0), .val (.int p1), .val (.int p2), .val (.int p3), .val (.int p4), .val (.int p5), .val (.int ((p0 &&& (2147483647 : Int32)) % (6 : Int32))), .val (.int z1), .val (.int z2), .val (.int z3), .val (.int z4), .val (.int z5), .val (.ref b33), .unset, .unset, .unset] rfl rfl ?_
    refine Own.s_goto X35 at_94 (by decide) (pc' := 190) (by decide) ?_
    refine Own.s_new X35 at_190 (tw6 hw) (tw7 hw) (tw8 hw) (by decide) (by decide) rfl ?_
    intro b37 T37 h37 X37 V37 g37 E37 O37 D37
    have F37_value : Fld Z h37 b37 "java/lang/String" "value" "[B" (.null) := D37 (Or.inr (tw21 hw)) (ty := (.array .byte)) (by decide)
    have F37_coder : Fld Z h37 b37 "java/lang/String" "coder" "B" (.int 0) := D37 (Or.inr (tw22 hw)) (ty := .byte) (by decide)
    refine Own.s_dup X37 at_193 rfl rfl ?_
    refine Own.s_aload X37 at_194 rfl rfl rfl ?_
    have ex38 : Ext h0 h1 := Own.extK (Own.Ext.rfl' h0) V1.1 all0
    have ex39 : Ext h0 h2 := Own.extK ex38 V2.1 all0
    have ex40 : Ext h0 h3 := Own.extK ex39 V3.1 all0
    have ex41 : Ext h0 h4 := Own.extK ex40 V4.1 all0
    have ex42 : Ext h0 h5 := Own.extK ex41 V5.1 all0
    have ex43 : Ext h0 h33 := Own.extK ex42 V33.1 all0
    have le48 : h0.size ≤ h1.size := V1.1.1
    have le47 : h0.size ≤ h2.size := Nat.le_trans le48 V2.1.1
    have le46 : h0.size ≤ h3.size := Nat.le_trans le47 V3.1.1
    have le45 : h0.size ≤ h4.size := Nat.le_trans le46 V4.1.1
    have le44 : h0.size ≤ h5.size := Nat.le_trans le45 V5.1.1
    have ex49 : Ext h0 h34 := Own.extK ex43 V34.1 (allS (Nat.le_trans le44 g33) all0)
    have ex50 : Ext h0 h35 := Own.extK ex49 V35.1 (allS (Nat.le_trans le44 g33) all0)
    have ex51 : Ext h0 h37 := Own.extK ex50 V37.1 all0
    have Z_52 := Sta.ext ex51 SC0
    have ex53 : Ext h35 h37 := Own.extK (Own.Ext.rfl' h35) V37.1 all0
    have A_54 := Arv.ext B35 ex53
    have lat55 : ∀ c ∈ [z1, z2], Own.Lat c := (Own.latL hz1 (Own.latL hz2 Own.latN))
    refine Own.b_special X37 at_196 rfl (tw9 hw) (tw10 hw) (tw11 hw) (by decide) b37 [(.ref b33)] [(.ref b37)] (Own.strNew (W := 1) (cs := [z1, z2]) (n := 2) X37.hZ (wNew hw) (tw7 hw) O37.2.1 X37.hE.1 E37 F37_value F37_coder A_54 Z_52 hzc rfl (by decide) (by decide) (by decide) lat55 (by decide) (by decide)) (fun v h' L q => Own.strNewQ (n := 2) rfl (by decide) (by decide) lat55 q) (Own.Ok.one O37) (lenOf pd_16 rfl) rfl (Nat.le_of_eq rfl) (by decide) (by decide) rfl rfl ?_
    intro v56 vm56 T56 h56 L56 X56 V56 Q56
    obtain ⟨rfl, S56⟩ := Q56
    refine Own.s_astore X56 at_199 rfl #[.val (.int p0), .val (.int p1), .val (.int p2), .val (.int p3), .val (.int p4), .val (.int p5), .val (.int ((p0 &&& (2147483647 : Int32)) % (6 : Int32))), .val (.int z1), .val (.int z2), .val (.int z3), .val (.int z4), .val (.int z5), .val (.ref b33), .val (.ref b37), .unset, .unset] rfl rfl ?_
    refine Own.s_iload X56 at_201 rfl rfl ?_
    refine Own.s_istore X56 at_203 #[.val (.int p0), .val (.int p1), .val (.int p2), .val (.int p3), .val (.int p4), .val (.int p5), .val (.int ((p0 &&& (2147483647 : Int32)) % (6 : Int32))), .val (.int z1), .val (.int z2), .val (.int z3), .val (.int z4), .val (.int z5), .val (.ref b33), .val (.ref b37), .val (.int ((p0 &&& (2147483647 : Int32)) % (6 : Int32))), .unset] rfl rfl ?_
    refine Own.s_iload X56 at_205 rfl rfl ?_
    refine Own.s_iconst X56 at_207 (4 : Int32) (by decide) rfl ?_
    refine Own.s_icmpT X56 at_208 (flt (show ¬ ((4 : Int32) < ((p0 &&& (2147483647 : Int32)) % (6 : Int32))) by rw [hn2] <;> decide)).2.2.2 (by decide) (pc' := 221) (by decide) ?_
    refine Own.s_iload X56 at_221 rfl rfl ?_
    refine Own.s_iconst X56 at_223 (3 : Int32) (by decide) rfl ?_
    refine Own.s_icmpT X56 at_224 (flt (show ¬ ((3 : Int32) < ((p0 &&& (2147483647 : Int32)) % (6 : Int32))) by rw [hn2] <;> decide)).2.2.2 (by decide) (pc' := 237) (by decide) ?_
    refine Own.s_iload X56 at_237 rfl rfl ?_
    refine Own.s_iconst X56 at_239 (2 : Int32) (by decide) rfl ?_
    refine Own.s_icmpT X56 at_240 (flt (show ¬ ((2 : Int32) < ((p0 &&& (2147483647 : Int32)) % (6 : Int32))) by rw [hn2] <;> decide)).2.2.2 (by decide) (pc' := 253) (by decide) ?_
    refine Own.s_iload X56 at_253 rfl rfl ?_
    refine Own.s_iconst X56 at_255 (1 : Int32) (by decide) rfl ?_
    refine Own.s_icmpF X56 at_256 (tlt (show (1 : Int32) < ((p0 &&& (2147483647 : Int32)) % (6 : Int32)) by rw [hn2] <;> decide)).2.2.2 rfl ?_
    refine Own.s_iload X56 at_259 rfl rfl ?_
    refine Own.s_bipush X56 at_261 (35 : Int32) (by decide) rfl ?_
    by_cases hc263_57 : z2 = (35 : Int32)
    · refine Own.s_icmpF X56 at_263 (teq hc263_57).2 rfl ?_
      refine Own.s_iconst X56 at_266 (1 : Int32) (by decide) rfl ?_
      refine Own.s_istore X56 at_267 #[.val (.int p0), .val (.int p1), .val (.int p2), .val (.int p3), .val (.int p4), .val (.int p5), .val (.int ((p0 &&& (2147483647 : Int32)) % (6 : Int32))), .val (.int z1), .val (.int z2), .val (.int z3), .val (.int z4), .val (.int z5), .val (.ref b33), .val (.ref b37), .val (.int (1 : Int32)), .unset] rfl rfl ?_
      refine Own.s_iload X56 at_269 rfl rfl ?_
      refine Own.s_ifF X56 at_271 ((if0 _ _).trans (tlt (show (0 : Int32) < ((p0 &&& (2147483647 : Int32)) % (6 : Int32)) by rw [hn2] <;> decide)).2.2.2) rfl ?_
      refine Own.s_iload X56 at_274 rfl rfl ?_
      refine Own.s_bipush X56 at_276 (35 : Int32) (by decide) rfl ?_
      by_cases hc278_58 : z1 = (35 : Int32)
      · refine Own.s_icmpF X56 at_278 (teq hc278_58).2 rfl ?_
        refine Own.s_iconst X56 at_281 (0 : Int32) (by decide) rfl ?_
        refine Own.s_istore X56 at_282 #[.val (.int p0), .val (.int p1), .val (.int p2), .val (.int p3), .val (.int p4), .val (.int p5), .val (.int ((p0 &&& (2147483647 : Int32)) % (6 : Int32))), .val (.int z1), .val (.int z2), .val (.int z3), .val (.int z4), .val (.int z5), .val (.ref b33), .val (.ref b37), .val (.int (0 : Int32)), .unset] rfl rfl ?_
        exact sg_d hw p0 p1 p2 p3 p4 p5 SC hzc SF hfm ((p0 &&& (2147483647 : Int32)) % (6 : Int32)) (0 : Int32) z1 z2 z3 z4 z5 b33 b37 [z1, z2] [] (Own.Wk.mono X56 (by decide) (by decide)) S56 (by simp) (by rw [Own.tw_hit hc278_58]) (by simp) rfl (fun h => absurd h (by simp)) (fun h => absurd h (by simp)) (fun h => absurd h (by simp)) (fun h => absurd h (by simp)) (fun h => absurd h (by simp))
      · refine Own.s_icmpT X56 at_278 (feq hc278_58).2 (by decide) (pc' := 284) (by decide) ?_
        exact sg_d hw p0 p1 p2 p3 p4 p5 SC hzc SF hfm ((p0 &&& (2147483647 : Int32)) % (6 : Int32)) (1 : Int32) z1 z2 z3 z4 z5 b33 b37 [z1, z2] [z1] (Own.Wk.mono X56 (by decide) (by decide)) S56 (by simp) (by rw [Own.tw_miss hc278_58, Own.tw_hit hc263_57]) (by simp) rfl (fun _ => rfl) (fun h => absurd h (by simp)) (fun h => absurd h (by simp)) (fun h => absurd h (by simp)) (fun h => absurd h (by simp))
    · refine Own.s_icmpT X56 at_263 (feq hc263_57).2 (by decide) (pc' := 269) (by decide) ?_
      refine Own.s_iload X56 at_269 rfl rfl ?_
      refine Own.s_ifF X56 at_271 ((if0 _ _).trans (tlt (show (0 : Int32) < ((p0 &&& (2147483647 : Int32)) % (6 : Int32)) by rw [hn2] <;> decide)).2.2.2) rfl ?_
      refine Own.s_iload X56 at_274 rfl rfl ?_
      refine Own.s_bipush X56 at_276 (35 : Int32) (by decide) rfl ?_
      by_cases hc278_59 : z1 = (35 : Int32)
      · refine Own.s_icmpF X56 at_278 (teq hc278_59).2 rfl ?_
        refine Own.s_iconst X56 at_281 (0 : Int32) (by decide) rfl ?_
        refine Own.s_istore X56 at_282 #[.val (.int p0), .val (.int p1), .val (.int p2), .val (.int p3), .val (.int p4), .val (.int p5), .val (.int ((p0 &&& (2147483647 : Int32)) % (6 : Int32))), .val (.int z1), .val (.int z2), .val (.int z3), .val (.int z4), .val (.int z5), .val (.ref b33), .val (.ref b37), .val (.int (0 : Int32)), .unset] rfl rfl ?_
        exact sg_d hw p0 p1 p2 p3 p4 p5 SC hzc SF hfm ((p0 &&& (2147483647 : Int32)) % (6 : Int32)) (0 : Int32) z1 z2 z3 z4 z5 b33 b37 [z1, z2] [] (Own.Wk.mono X56 (by decide) (by decide)) S56 (by simp) (by rw [Own.tw_hit hc278_59]) (by simp) rfl (fun h => absurd h (by simp)) (fun h => absurd h (by simp)) (fun h => absurd h (by simp)) (fun h => absurd h (by simp)) (fun h => absurd h (by simp))
      · refine Own.s_icmpT X56 at_278 (feq hc278_59).2 (by decide) (pc' := 284) (by decide) ?_
        exact sg_d hw p0 p1 p2 p3 p4 p5 SC hzc SF hfm ((p0 &&& (2147483647 : Int32)) % (6 : Int32)) ((p0 &&& (2147483647 : Int32)) % (6 : Int32)) z1 z2 z3 z4 z5 b33 b37 [z1, z2] [z1, z2] (Own.Wk.mono X56 (by decide) (by decide)) S56 (by simp) (by rw [Own.tw_miss hc278_59, Own.tw_miss hc263_57, Own.tw_nil]) (by simp) (by rw [hn2]; rfl) (fun _ => rfl) (fun _ => rfl) (fun h => absurd h (by simp)) (fun h => absurd h (by simp)) (fun h => absurd h (by simp))
  · refine Own.s_iload X5 at_41 rfl rfl ?_
    refine Own.s_ifT X5 at_43 ((if0 _ _).trans (feq (show ¬ (((p0 &&& (2147483647 : Int32)) % (6 : Int32)) = (0 : Int32)) by rw [hn3] <;> decide)).2) (by decide) (pc' := 54) (by decide) ?_
    refine Own.s_iload X5 at_54 rfl rfl ?_
    refine Own.s_iconst X5 at_56 (1 : Int32) (by decide) rfl ?_
    refine Own.s_icmpT X5 at_57 (feq (show ¬ (((p0 &&& (2147483647 : Int32)) % (6 : Int32)) = (1 : Int32)) by rw [hn3] <;> decide)).2 (by decide) (pc' := 73) (by decide) ?_
    refine Own.s_iload X5 at_73 rfl rfl ?_
    refine Own.s_iconst X5 at_75 (2 : Int32) (by decide) rfl ?_
    refine Own.s_icmpT X5 at_76 (feq (show ¬ (((p0 &&& (2147483647 : Int32)) % (6 : Int32)) = (2 : Int32)) by rw [hn3] <;> decide)).2 (by decide) (pc' := 97) (by decide) ?_
    refine Own.s_iload X5 at_97 rfl rfl ?_
    refine Own.s_iconst X5 at_99 (3 : Int32) (by decide) rfl ?_
    refine Own.s_icmpF X5 at_100 (teq (show ((p0 &&& (2147483647 : Int32)) % (6 : Int32)) = (3 : Int32) by rw [hn3] <;> decide)).2 rfl ?_
    refine Own.s_iconst X5 at_103 (3 : Int32) (by decide) rfl ?_
    refine Own.s_newarray X5 at_104 (tw5 hw) (by decide) 3 (by decide) (by decide) (by decide) (by decide) rfl ?_
    intro b60 T60 h60 k60 X60 V60 g60 A60 O60
    have B60 : Arv Z h60 b60 k60 .char (3 : Int32) [(.int (0 : Int32)), (.int (0 : Int32)), (.int (0 : Int32))] (.int (0 : Int32)) := A60.pad (pad_rep [] (.int (0 : Int32)) 3)
    refine Own.s_dup X60 at_106 rfl rfl ?_
    refine Own.s_iconst X60 at_107 (0 : Int32) (by decide) rfl ?_
    refine Own.s_iload X60 at_108 rfl rfl ?_
    refine Own.s_castoreR X60 at_110 B60 ⟨by decide, by decide⟩ 0 (by decide) (Nat.le_of_ble_eq_true rfl) (Own.nar_chr hz1) O60 rfl ?_
    intro T61 h61 X61 V61 A61
    have B61 : Arv Z h61 b60 k60 .char (3 : Int32) [(.int z1), (.int (0 : Int32)), (.int (0 : Int32))] (.int (0 : Int32)) := A61
    refine Own.s_dup X61 at_111 rfl rfl ?_
    refine Own.s_iconst X61 at_112 (1 : Int32) (by decide) rfl ?_
    refine Own.s_iload X61 at_113 rfl rfl ?_
    have O63 := (O60.ev V61)
    refine Own.s_castoreR X61 at_115 B61 ⟨by decide, by decide⟩ 1 (by decide) (Nat.le_of_ble_eq_true rfl) (Own.nar_chr hz2) O63 rfl ?_
    intro T62 h62 X62 V62 A62
    have B62 : Arv Z h62 b60 k60 .char (3 : Int32) [(.int z1), (.int z2), (.int (0 : Int32))] (.int (0 : Int32)) := A62
    refine Own.s_dup X62 at_116 rfl rfl ?_
    refine Own.s_iconst X62 at_117 (2 : Int32) (by decide) rfl ?_
    refine Own.s_iload X62 at_118 rfl rfl ?_
    have O65 := (O63.ev V62)
    refine Own.s_castoreR X62 at_120 B62 ⟨by decide, by decide⟩ 2 (by decide) (Nat.le_of_ble_eq_true rfl) (Own.nar_chr hz3) O65 rfl ?_
    intro T64 h64 X64 V64 A64
    have B64 : Arv Z h64 b60 k60 .char (3 : Int32) [(.int z1), (.int z2), (.int z3)] (.int (0 : Int32)) := A64
    refine Own.s_astore X64 at_121 rfl #[.val (.int p0), .val (.int p1), .val (.int p2), .val (.int p3), .val (.int p4), .val (.int p5), .val (.int ((p0 &&& (2147483647 : Int32)) % (6 : Int32))), .val (.int z1), .val (.int z2), .val (.int z3), .val (.int z4), .val (.int z5), .val (.ref b60), .unset, .unset, .unset] rfl rfl ?_
    refine Own.s_goto X64 at_123 (by decide) (pc' := 190) (by decide) ?_
    refine Own.s_new X64 at_190 (tw6 hw) (tw7 hw) (tw8 hw) (by decide) (by decide) rfl ?_
    intro b66 T66 h66 X66 V66 g66 E66 O66 D66
    have F66_value : Fld Z h66 b66 "java/lang/String" "value" "[B" (.null) := D66 (Or.inr (tw21 hw)) (ty := (.array .byte)) (by decide)
    have F66_coder : Fld Z h66 b66 "java/lang/String" "coder" "B" (.int 0) := D66 (Or.inr (tw22 hw)) (ty := .byte) (by decide)
    refine Own.s_dup X66 at_193 rfl rfl ?_
    refine Own.s_aload X66 at_194 rfl rfl rfl ?_
    have ex67 : Ext h0 h1 := Own.extK (Own.Ext.rfl' h0) V1.1 all0
    have ex68 : Ext h0 h2 := Own.extK ex67 V2.1 all0
    have ex69 : Ext h0 h3 := Own.extK ex68 V3.1 all0
    have ex70 : Ext h0 h4 := Own.extK ex69 V4.1 all0
    have ex71 : Ext h0 h5 := Own.extK ex70 V5.1 all0
    have ex72 : Ext h0 h60 := Own.extK ex71 V60.1 all0
    have le77 : h0.size ≤ h1.size := V1.1.1
    have le76 : h0.size ≤ h2.size := Nat.le_trans le77 V2.1.1
    have le75 : h0.size ≤ h3.size := Nat.le_trans le76 V3.1.1
    have le74 : h0.size ≤ h4.size := Nat.le_trans le75 V4.1.1
    have le73 : h0.size ≤ h5.size := Nat.le_trans le74 V5.1.1
    have ex78 : Ext h0 h61 := Own.extK ex72 V61.1 (allS (Nat.le_trans le73 g60) all0)
    have ex79 : Ext h0 h62 := Own.extK ex78 V62.1 (allS (Nat.le_trans le73 g60) all0)
    have ex80 : Ext h0 h64 := Own.extK ex79 V64.1 (allS (Nat.le_trans le73 g60) all0)
    have ex81 : Ext h0 h66 := Own.extK ex80 V66.1 all0
    have Z_82 := Sta.ext ex81 SC0
    have ex83 : Ext h64 h66 := Own.extK (Own.Ext.rfl' h64) V66.1 all0
    have A_84 := Arv.ext B64 ex83
    have lat85 : ∀ c ∈ [z1, z2, z3], Own.Lat c := (Own.latL hz1 (Own.latL hz2 (Own.latL hz3 Own.latN)))
    refine Own.b_special X66 at_196 rfl (tw9 hw) (tw10 hw) (tw11 hw) (by decide) b66 [(.ref b60)] [(.ref b66)] (Own.strNew (W := 1) (cs := [z1, z2, z3]) (n := 3) X66.hZ (wNew hw) (tw7 hw) O66.2.1 X66.hE.1 E66 F66_value F66_coder A_84 Z_82 hzc rfl (by decide) (by decide) (by decide) lat85 (by decide) (by decide)) (fun v h' L q => Own.strNewQ (n := 3) rfl (by decide) (by decide) lat85 q) (Own.Ok.one O66) (lenOf pd_16 rfl) rfl (Nat.le_of_eq rfl) (by decide) (by decide) rfl rfl ?_
    intro v86 vm86 T86 h86 L86 X86 V86 Q86
    obtain ⟨rfl, S86⟩ := Q86
    refine Own.s_astore X86 at_199 rfl #[.val (.int p0), .val (.int p1), .val (.int p2), .val (.int p3), .val (.int p4), .val (.int p5), .val (.int ((p0 &&& (2147483647 : Int32)) % (6 : Int32))), .val (.int z1), .val (.int z2), .val (.int z3), .val (.int z4), .val (.int z5), .val (.ref b60), .val (.ref b66), .unset, .unset] rfl rfl ?_
    refine Own.s_iload X86 at_201 rfl rfl ?_
    refine Own.s_istore X86 at_203 #[.val (.int p0), .val (.int p1), .val (.int p2), .val (.int p3), .val (.int p4), .val (.int p5), .val (.int ((p0 &&& (2147483647 : Int32)) % (6 : Int32))), .val (.int z1), .val (.int z2), .val (.int z3), .val (.int z4), .val (.int z5), .val (.ref b60), .val (.ref b66), .val (.int ((p0 &&& (2147483647 : Int32)) % (6 : Int32))), .unset] rfl rfl ?_
    refine Own.s_iload X86 at_205 rfl rfl ?_
    refine Own.s_iconst X86 at_207 (4 : Int32) (by decide) rfl ?_
    refine Own.s_icmpT X86 at_208 (flt (show ¬ ((4 : Int32) < ((p0 &&& (2147483647 : Int32)) % (6 : Int32))) by rw [hn3] <;> decide)).2.2.2 (by decide) (pc' := 221) (by decide) ?_
    refine Own.s_iload X86 at_221 rfl rfl ?_
    refine Own.s_iconst X86 at_223 (3 : Int32) (by decide) rfl ?_
    refine Own.s_icmpT X86 at_224 (flt (show ¬ ((3 : Int32) < ((p0 &&& (2147483647 : Int32)) % (6 : Int32))) by rw [hn3] <;> decide)).2.2.2 (by decide) (pc' := 237) (by decide) ?_
    refine Own.s_iload X86 at_237 rfl rfl ?_
    refine Own.s_iconst X86 at_239 (2 : Int32) (by decide) rfl ?_
    refine Own.s_icmpF X86 at_240 (tlt (show (2 : Int32) < ((p0 &&& (2147483647 : Int32)) % (6 : Int32)) by rw [hn3] <;> decide)).2.2.2 rfl ?_
    refine Own.s_iload X86 at_243 rfl rfl ?_
    refine Own.s_bipush X86 at_245 (35 : Int32) (by decide) rfl ?_
    by_cases hc247_87 : z3 = (35 : Int32)
    · refine Own.s_icmpF X86 at_247 (teq hc247_87).2 rfl ?_
      refine Own.s_iconst X86 at_250 (2 : Int32) (by decide) rfl ?_
      refine Own.s_istore X86 at_251 #[.val (.int p0), .val (.int p1), .val (.int p2), .val (.int p3), .val (.int p4), .val (.int p5), .val (.int ((p0 &&& (2147483647 : Int32)) % (6 : Int32))), .val (.int z1), .val (.int z2), .val (.int z3), .val (.int z4), .val (.int z5), .val (.ref b60), .val (.ref b66), .val (.int (2 : Int32)), .unset] rfl rfl ?_
      refine Own.s_iload X86 at_253 rfl rfl ?_
      refine Own.s_iconst X86 at_255 (1 : Int32) (by decide) rfl ?_
      refine Own.s_icmpF X86 at_256 (tlt (show (1 : Int32) < ((p0 &&& (2147483647 : Int32)) % (6 : Int32)) by rw [hn3] <;> decide)).2.2.2 rfl ?_
      refine Own.s_iload X86 at_259 rfl rfl ?_
      refine Own.s_bipush X86 at_261 (35 : Int32) (by decide) rfl ?_
      by_cases hc263_88 : z2 = (35 : Int32)
      · refine Own.s_icmpF X86 at_263 (teq hc263_88).2 rfl ?_
        refine Own.s_iconst X86 at_266 (1 : Int32) (by decide) rfl ?_
        refine Own.s_istore X86 at_267 #[.val (.int p0), .val (.int p1), .val (.int p2), .val (.int p3), .val (.int p4), .val (.int p5), .val (.int ((p0 &&& (2147483647 : Int32)) % (6 : Int32))), .val (.int z1), .val (.int z2), .val (.int z3), .val (.int z4), .val (.int z5), .val (.ref b60), .val (.ref b66), .val (.int (1 : Int32)), .unset] rfl rfl ?_
        refine Own.s_iload X86 at_269 rfl rfl ?_
        refine Own.s_ifF X86 at_271 ((if0 _ _).trans (tlt (show (0 : Int32) < ((p0 &&& (2147483647 : Int32)) % (6 : Int32)) by rw [hn3] <;> decide)).2.2.2) rfl ?_
        refine Own.s_iload X86 at_274 rfl rfl ?_
        refine Own.s_bipush X86 at_276 (35 : Int32) (by decide) rfl ?_
        by_cases hc278_89 : z1 = (35 : Int32)
        · refine Own.s_icmpF X86 at_278 (teq hc278_89).2 rfl ?_
          refine Own.s_iconst X86 at_281 (0 : Int32) (by decide) rfl ?_
          refine Own.s_istore X86 at_282 #[.val (.int p0), .val (.int p1), .val (.int p2), .val (.int p3), .val (.int p4), .val (.int p5), .val (.int ((p0 &&& (2147483647 : Int32)) % (6 : Int32))), .val (.int z1), .val (.int z2), .val (.int z3), .val (.int z4), .val (.int z5), .val (.ref b60), .val (.ref b66), .val (.int (0 : Int32)), .unset] rfl rfl ?_
          exact sg_d hw p0 p1 p2 p3 p4 p5 SC hzc SF hfm ((p0 &&& (2147483647 : Int32)) % (6 : Int32)) (0 : Int32) z1 z2 z3 z4 z5 b60 b66 [z1, z2, z3] [] (Own.Wk.mono X86 (by decide) (by decide)) S86 (by simp) (by rw [Own.tw_hit hc278_89]) (by simp) rfl (fun h => absurd h (by simp)) (fun h => absurd h (by simp)) (fun h => absurd h (by simp)) (fun h => absurd h (by simp)) (fun h => absurd h (by simp))
        · refine Own.s_icmpT X86 at_278 (feq hc278_89).2 (by decide) (pc' := 284) (by decide) ?_
          exact sg_d hw p0 p1 p2 p3 p4 p5 SC hzc SF hfm ((p0 &&& (2147483647 : Int32)) % (6 : Int32)) (1 : Int32) z1 z2 z3 z4 z5 b60 b66 [z1, z2, z3] [z1] (Own.Wk.mono X86 (by decide) (by decide)) S86 (by simp) (by rw [Own.tw_miss hc278_89, Own.tw_hit hc263_88]) (by simp) rfl (fun _ => rfl) (fun h => absurd h (by simp)) (fun h => absurd h (by simp)) (fun h => absurd h (by simp)) (fun h => absurd h (by simp))
      · refine Own.s_icmpT X86 at_263 (feq hc263_88).2 (by decide) (pc' := 269) (by decide) ?_
        refine Own.s_iload X86 at_269 rfl rfl ?_
        refine Own.s_ifF X86 at_271 ((if0 _ _).trans (tlt (show (0 : Int32) < ((p0 &&& (2147483647 : Int32)) % (6 : Int32)) by rw [hn3] <;> decide)).2.2.2) rfl ?_
        refine Own.s_iload X86 at_274 rfl rfl ?_
        refine Own.s_bipush X86 at_276 (35 : Int32) (by decide) rfl ?_
        by_cases hc278_90 : z1 = (35 : Int32)
        · refine Own.s_icmpF X86 at_278 (teq hc278_90).2 rfl ?_
          refine Own.s_iconst X86 at_281 (0 : Int32) (by decide) rfl ?_
          refine Own.s_istore X86 at_282 #[.val (.int p0), .val (.int p1), .val (.int p2), .val (.int p3), .val (.int p4), .val (.int p5), .val (.int ((p0 &&& (2147483647 : Int32)) % (6 : Int32))), .val (.int z1), .val (.int z2), .val (.int z3), .val (.int z4), .val (.int z5), .val (.ref b60), .val (.ref b66), .val (.int (0 : Int32)), .unset] rfl rfl ?_
          exact sg_d hw p0 p1 p2 p3 p4 p5 SC hzc SF hfm ((p0 &&& (2147483647 : Int32)) % (6 : Int32)) (0 : Int32) z1 z2 z3 z4 z5 b60 b66 [z1, z2, z3] [] (Own.Wk.mono X86 (by decide) (by decide)) S86 (by simp) (by rw [Own.tw_hit hc278_90]) (by simp) rfl (fun h => absurd h (by simp)) (fun h => absurd h (by simp)) (fun h => absurd h (by simp)) (fun h => absurd h (by simp)) (fun h => absurd h (by simp))
        · refine Own.s_icmpT X86 at_278 (feq hc278_90).2 (by decide) (pc' := 284) (by decide) ?_
          exact sg_d hw p0 p1 p2 p3 p4 p5 SC hzc SF hfm ((p0 &&& (2147483647 : Int32)) % (6 : Int32)) (2 : Int32) z1 z2 z3 z4 z5 b60 b66 [z1, z2, z3] [z1, z2] (Own.Wk.mono X86 (by decide) (by decide)) S86 (by simp) (by rw [Own.tw_miss hc278_90, Own.tw_miss hc263_88, Own.tw_hit hc247_87]) (by simp) rfl (fun _ => rfl) (fun _ => rfl) (fun h => absurd h (by simp)) (fun h => absurd h (by simp)) (fun h => absurd h (by simp))
    · refine Own.s_icmpT X86 at_247 (feq hc247_87).2 (by decide) (pc' := 253) (by decide) ?_
      refine Own.s_iload X86 at_253 rfl rfl ?_
      refine Own.s_iconst X86 at_255 (1 : Int32) (by decide) rfl ?_
      refine Own.s_icmpF X86 at_256 (tlt (show (1 : Int32) < ((p0 &&& (2147483647 : Int32)) % (6 : Int32)) by rw [hn3] <;> decide)).2.2.2 rfl ?_
      refine Own.s_iload X86 at_259 rfl rfl ?_
      refine Own.s_bipush X86 at_261 (35 : Int32) (by decide) rfl ?_
      by_cases hc263_91 : z2 = (35 : Int32)
      · refine Own.s_icmpF X86 at_263 (teq hc263_91).2 rfl ?_
        refine Own.s_iconst X86 at_266 (1 : Int32) (by decide) rfl ?_
        refine Own.s_istore X86 at_267 #[.val (.int p0), .val (.int p1), .val (.int p2), .val (.int p3), .val (.int p4), .val (.int p5), .val (.int ((p0 &&& (2147483647 : Int32)) % (6 : Int32))), .val (.int z1), .val (.int z2), .val (.int z3), .val (.int z4), .val (.int z5), .val (.ref b60), .val (.ref b66), .val (.int (1 : Int32)), .unset] rfl rfl ?_
        refine Own.s_iload X86 at_269 rfl rfl ?_
        refine Own.s_ifF X86 at_271 ((if0 _ _).trans (tlt (show (0 : Int32) < ((p0 &&& (2147483647 : Int32)) % (6 : Int32)) by rw [hn3] <;> decide)).2.2.2) rfl ?_
        refine Own.s_iload X86 at_274 rfl rfl ?_
        refine Own.s_bipush X86 at_276 (35 : Int32) (by decide) rfl ?_
        by_cases hc278_92 : z1 = (35 : Int32)
        · refine Own.s_icmpF X86 at_278 (teq hc278_92).2 rfl ?_
          refine Own.s_iconst X86 at_281 (0 : Int32) (by decide) rfl ?_
          refine Own.s_istore X86 at_282 #[.val (.int p0), .val (.int p1), .val (.int p2), .val (.int p3), .val (.int p4), .val (.int p5), .val (.int ((p0 &&& (2147483647 : Int32)) % (6 : Int32))), .val (.int z1), .val (.int z2), .val (.int z3), .val (.int z4), .val (.int z5), .val (.ref b60), .val (.ref b66), .val (.int (0 : Int32)), .unset] rfl rfl ?_
          exact sg_d hw p0 p1 p2 p3 p4 p5 SC hzc SF hfm ((p0 &&& (2147483647 : Int32)) % (6 : Int32)) (0 : Int32) z1 z2 z3 z4 z5 b60 b66 [z1, z2, z3] [] (Own.Wk.mono X86 (by decide) (by decide)) S86 (by simp) (by rw [Own.tw_hit hc278_92]) (by simp) rfl (fun h => absurd h (by simp)) (fun h => absurd h (by simp)) (fun h => absurd h (by simp)) (fun h => absurd h (by simp)) (fun h => absurd h (by simp))
        · refine Own.s_icmpT X86 at_278 (feq hc278_92).2 (by decide) (pc' := 284) (by decide) ?_
          exact sg_d hw p0 p1 p2 p3 p4 p5 SC hzc SF hfm ((p0 &&& (2147483647 : Int32)) % (6 : Int32)) (1 : Int32) z1 z2 z3 z4 z5 b60 b66 [z1, z2, z3] [z1] (Own.Wk.mono X86 (by decide) (by decide)) S86 (by simp) (by rw [Own.tw_miss hc278_92, Own.tw_hit hc263_91]) (by simp) rfl (fun _ => rfl) (fun h => absurd h (by simp)) (fun h => absurd h (by simp)) (fun h => absurd h (by simp)) (fun h => absurd h (by simp))
      · refine Own.s_icmpT X86 at_263 (feq hc263_91).2 (by decide) (pc' := 269) (by decide) ?_
        refine Own.s_iload X86 at_269 rfl rfl ?_
        refine Own.s_ifF X86 at_271 ((if0 _ _).trans (tlt (show (0 : Int32) < ((p0 &&& (2147483647 : Int32)) % (6 : Int32)) by rw [hn3] <;> decide)).2.2.2) rfl ?_
        refine Own.s_iload X86 at_274 rfl rfl ?_
        refine Own.s_bipush X86 at_276 (35 : Int32) (by decide) rfl ?_
        by_cases hc278_93 : z1 = (35 : Int32)
        · refine Own.s_icmpF X86 at_278 (teq hc278_93).2 rfl ?_
          refine Own.s_iconst X86 at_281 (0 : Int32) (by decide) rfl ?_
          refine Own.s_istore X86 at_282 #[.val (.int p0), .val (.int p1), .val (.int p2), .val (.int p3), .val (.int p4), .val (.int p5), .val (.int ((p0 &&& (2147483647 : Int32)) % (6 : Int32))), .val (.int z1), .val (.int z2), .val (.int z3), .val (.int z4), .val (.int z5), .val (.ref b60), .val (.ref b66), .val (.int (0 : Int32)), .unset] rfl rfl ?_
          exact sg_d hw p0 p1 p2 p3 p4 p5 SC hzc SF hfm ((p0 &&& (2147483647 : Int32)) % (6 : Int32)) (0 : Int32) z1 z2 z3 z4 z5 b60 b66 [z1, z2, z3] [] (Own.Wk.mono X86 (by decide) (by decide)) S86 (by simp) (by rw [Own.tw_hit hc278_93]) (by simp) rfl (fun h => absurd h (by simp)) (fun h => absurd h (by simp)) (fun h => absurd h (by simp)) (fun h => absurd h (by simp)) (fun h => absurd h (by simp))
        · refine Own.s_icmpT X86 at_278 (feq hc278_93).2 (by decide) (pc' := 284) (by decide) ?_
          exact sg_d hw p0 p1 p2 p3 p4 p5 SC hzc SF hfm ((p0 &&& (2147483647 : Int32)) % (6 : Int32)) ((p0 &&& (2147483647 : Int32)) % (6 : Int32)) z1 z2 z3 z4 z5 b60 b66 [z1, z2, z3] [z1, z2, z3] (Own.Wk.mono X86 (by decide) (by decide)) S86 (by simp) (by rw [Own.tw_miss hc278_93, Own.tw_miss hc263_91, Own.tw_miss hc247_87, Own.tw_nil]) (by simp) (by rw [hn3]; rfl) (fun _ => rfl) (fun _ => rfl) (fun _ => rfl) (fun h => absurd h (by simp)) (fun h => absurd h (by simp))
  · refine Own.s_iload X5 at_41 rfl rfl ?_
    refine Own.s_ifT X5 at_43 ((if0 _ _).trans (feq (show ¬ (((p0 &&& (2147483647 : Int32)) % (6 : Int32)) = (0 : Int32)) by rw [hn4] <;> decide)).2) (by decide) (pc' := 54) (by decide) ?_
    refine Own.s_iload X5 at_54 rfl rfl ?_
    refine Own.s_iconst X5 at_56 (1 : Int32) (by decide) rfl ?_
    refine Own.s_icmpT X5 at_57 (feq (show ¬ (((p0 &&& (2147483647 : Int32)) % (6 : Int32)) = (1 : Int32)) by rw [hn4] <;> decide)).2 (by decide) (pc' := 73) (by decide) ?_
    refine Own.s_iload X5 at_73 rfl rfl ?_
    refine Own.s_iconst X5 at_75 (2 : Int32) (by decide) rfl ?_
    refine Own.s_icmpT X5 at_76 (feq (show ¬ (((p0 &&& (2147483647 : Int32)) % (6 : Int32)) = (2 : Int32)) by rw [hn4] <;> decide)).2 (by decide) (pc' := 97) (by decide) ?_
    refine Own.s_iload X5 at_97 rfl rfl ?_
    refine Own.s_iconst X5 at_99 (3 : Int32) (by decide) rfl ?_
    refine Own.s_icmpT X5 at_100 (feq (show ¬ (((p0 &&& (2147483647 : Int32)) % (6 : Int32)) = (3 : Int32)) by rw [hn4] <;> decide)).2 (by decide) (pc' := 126) (by decide) ?_
    refine Own.s_iload X5 at_126 rfl rfl ?_
    refine Own.s_iconst X5 at_128 (4 : Int32) (by decide) rfl ?_
    refine Own.s_icmpF X5 at_129 (teq (show ((p0 &&& (2147483647 : Int32)) % (6 : Int32)) = (4 : Int32) by rw [hn4] <;> decide)).2 rfl ?_
    refine Own.s_iconst X5 at_132 (4 : Int32) (by decide) rfl ?_
    refine Own.s_newarray X5 at_133 (tw5 hw) (by decide) 4 (by decide) (by decide) (by decide) (by decide) rfl ?_
    intro b94 T94 h94 k94 X94 V94 g94 A94 O94
    have B94 : Arv Z h94 b94 k94 .char (4 : Int32) [(.int (0 : Int32)), (.int (0 : Int32)), (.int (0 : Int32)), (.int (0 : Int32))] (.int (0 : Int32)) := A94.pad (pad_rep [] (.int (0 : Int32)) 4)
    refine Own.s_dup X94 at_135 rfl rfl ?_
    refine Own.s_iconst X94 at_136 (0 : Int32) (by decide) rfl ?_
    refine Own.s_iload X94 at_137 rfl rfl ?_
    refine Own.s_castoreR X94 at_139 B94 ⟨by decide, by decide⟩ 0 (by decide) (Nat.le_of_ble_eq_true rfl) (Own.nar_chr hz1) O94 rfl ?_
    intro T95 h95 X95 V95 A95
    have B95 : Arv Z h95 b94 k94 .char (4 : Int32) [(.int z1), (.int (0 : Int32)), (.int (0 : Int32)), (.int (0 : Int32))] (.int (0 : Int32)) := A95
    refine Own.s_dup X95 at_140 rfl rfl ?_
    refine Own.s_iconst X95 at_141 (1 : Int32) (by decide) rfl ?_
    refine Own.s_iload X95 at_142 rfl rfl ?_
    have O97 := (O94.ev V95)
    refine Own.s_castoreR X95 at_144 B95 ⟨by decide, by decide⟩ 1 (by decide) (Nat.le_of_ble_eq_true rfl) (Own.nar_chr hz2) O97 rfl ?_
    intro T96 h96 X96 V96 A96
    have B96 : Arv Z h96 b94 k94 .char (4 : Int32) [(.int z1), (.int z2), (.int (0 : Int32)), (.int (0 : Int32))] (.int (0 : Int32)) := A96
    refine Own.s_dup X96 at_145 rfl rfl ?_
    refine Own.s_iconst X96 at_146 (2 : Int32) (by decide) rfl ?_
    refine Own.s_iload X96 at_147 rfl rfl ?_
    have O99 := (O97.ev V96)
    refine Own.s_castoreR X96 at_149 B96 ⟨by decide, by decide⟩ 2 (by decide) (Nat.le_of_ble_eq_true rfl) (Own.nar_chr hz3) O99 rfl ?_
    intro T98 h98 X98 V98 A98
    have B98 : Arv Z h98 b94 k94 .char (4 : Int32) [(.int z1), (.int z2), (.int z3), (.int (0 : Int32))] (.int (0 : Int32)) := A98
    refine Own.s_dup X98 at_150 rfl rfl ?_
    refine Own.s_iconst X98 at_151 (3 : Int32) (by decide) rfl ?_
    refine Own.s_iload X98 at_152 rfl rfl ?_
    have O101 := (O99.ev V98)
    refine Own.s_castoreR X98 at_154 B98 ⟨by decide, by decide⟩ 3 (by decide) (Nat.le_of_ble_eq_true rfl) (Own.nar_chr hz4) O101 rfl ?_
    intro T100 h100 X100 V100 A100
    have B100 : Arv Z h100 b94 k94 .char (4 : Int32) [(.int z1), (.int z2), (.int z3), (.int z4)] (.int (0 : Int32)) := A100
    refine Own.s_astore X100 at_155 rfl #[.val (.int p0), .val (.int p1), .val (.int p2), .val (.int p3), .val (.int p4), .val (.int p5), .val (.int ((p0 &&& (2147483647 : Int32)) % (6 : Int32))), .val (.int z1), .val (.int z2), .val (.int z3), .val (.int z4), .val (.int z5), .val (.ref b94), .unset, .unset, .unset] rfl rfl ?_
    refine Own.s_goto X100 at_157 (by decide) (pc' := 190) (by decide) ?_
    refine Own.s_new X100 at_190 (tw6 hw) (tw7 hw) (tw8 hw) (by decide) (by decide) rfl ?_
    intro b102 T102 h102 X102 V102 g102 E102 O102 D102
    have F102_value : Fld Z h102 b102 "java/lang/String" "value" "[B" (.null) := D102 (Or.inr (tw21 hw)) (ty := (.array .byte)) (by decide)
    have F102_coder : Fld Z h102 b102 "java/lang/String" "coder" "B" (.int 0) := D102 (Or.inr (tw22 hw)) (ty := .byte) (by decide)
    refine Own.s_dup X102 at_193 rfl rfl ?_
    refine Own.s_aload X102 at_194 rfl rfl rfl ?_
    have ex103 : Ext h0 h1 := Own.extK (Own.Ext.rfl' h0) V1.1 all0
    have ex104 : Ext h0 h2 := Own.extK ex103 V2.1 all0
    have ex105 : Ext h0 h3 := Own.extK ex104 V3.1 all0
    have ex106 : Ext h0 h4 := Own.extK ex105 V4.1 all0
    have ex107 : Ext h0 h5 := Own.extK ex106 V5.1 all0
    have ex108 : Ext h0 h94 := Own.extK ex107 V94.1 all0
    have le113 : h0.size ≤ h1.size := V1.1.1
    have le112 : h0.size ≤ h2.size := Nat.le_trans le113 V2.1.1
    have le111 : h0.size ≤ h3.size := Nat.le_trans le112 V3.1.1
    have le110 : h0.size ≤ h4.size := Nat.le_trans le111 V4.1.1
    have le109 : h0.size ≤ h5.size := Nat.le_trans le110 V5.1.1
    have ex114 : Ext h0 h95 := Own.extK ex108 V95.1 (allS (Nat.le_trans le109 g94) all0)
    have ex115 : Ext h0 h96 := Own.extK ex114 V96.1 (allS (Nat.le_trans le109 g94) all0)
    have ex116 : Ext h0 h98 := Own.extK ex115 V98.1 (allS (Nat.le_trans le109 g94) all0)
    have ex117 : Ext h0 h100 := Own.extK ex116 V100.1 (allS (Nat.le_trans le109 g94) all0)
    have ex118 : Ext h0 h102 := Own.extK ex117 V102.1 all0
    have Z_119 := Sta.ext ex118 SC0
    have ex120 : Ext h100 h102 := Own.extK (Own.Ext.rfl' h100) V102.1 all0
    have A_121 := Arv.ext B100 ex120
    have lat122 : ∀ c ∈ [z1, z2, z3, z4], Own.Lat c := (Own.latL hz1 (Own.latL hz2 (Own.latL hz3 (Own.latL hz4 Own.latN))))
    refine Own.b_special X102 at_196 rfl (tw9 hw) (tw10 hw) (tw11 hw) (by decide) b102 [(.ref b94)] [(.ref b102)] (Own.strNew (W := 1) (cs := [z1, z2, z3, z4]) (n := 4) X102.hZ (wNew hw) (tw7 hw) O102.2.1 X102.hE.1 E102 F102_value F102_coder A_121 Z_119 hzc rfl (by decide) (by decide) (by decide) lat122 (by decide) (by decide)) (fun v h' L q => Own.strNewQ (n := 4) rfl (by decide) (by decide) lat122 q) (Own.Ok.one O102) (lenOf pd_16 rfl) rfl (Nat.le_of_eq rfl) (by decide) (by decide) rfl rfl ?_
    intro v123 vm123 T123 h123 L123 X123 V123 Q123
    obtain ⟨rfl, S123⟩ := Q123
    refine Own.s_astore X123 at_199 rfl #[.val (.int p0), .val (.int p1), .val (.int p2), .val (.int p3), .val (.int p4), .val (.int p5), .val (.int ((p0 &&& (2147483647 : Int32)) % (6 : Int32))), .val (.int z1), .val (.int z2), .val (.int z3), .val (.int z4), .val (.int z5), .val (.ref b94), .val (.ref b102), .unset, .unset] rfl rfl ?_
    refine Own.s_iload X123 at_201 rfl rfl ?_
    refine Own.s_istore X123 at_203 #[.val (.int p0), .val (.int p1), .val (.int p2), .val (.int p3), .val (.int p4), .val (.int p5), .val (.int ((p0 &&& (2147483647 : Int32)) % (6 : Int32))), .val (.int z1), .val (.int z2), .val (.int z3), .val (.int z4), .val (.int z5), .val (.ref b94), .val (.ref b102), .val (.int ((p0 &&& (2147483647 : Int32)) % (6 : Int32))), .unset] rfl rfl ?_
    refine Own.s_iload X123 at_205 rfl rfl ?_
    refine Own.s_iconst X123 at_207 (4 : Int32) (by decide) rfl ?_
    refine Own.s_icmpT X123 at_208 (flt (show ¬ ((4 : Int32) < ((p0 &&& (2147483647 : Int32)) % (6 : Int32))) by rw [hn4] <;> decide)).2.2.2 (by decide) (pc' := 221) (by decide) ?_
    refine Own.s_iload X123 at_221 rfl rfl ?_
    refine Own.s_iconst X123 at_223 (3 : Int32) (by decide) rfl ?_
    refine Own.s_icmpF X123 at_224 (tlt (show (3 : Int32) < ((p0 &&& (2147483647 : Int32)) % (6 : Int32)) by rw [hn4] <;> decide)).2.2.2 rfl ?_
    refine Own.s_iload X123 at_227 rfl rfl ?_
    refine Own.s_bipush X123 at_229 (35 : Int32) (by decide) rfl ?_
    by_cases hc231_124 : z4 = (35 : Int32)
    · refine Own.s_icmpF X123 at_231 (teq hc231_124).2 rfl ?_
      refine Own.s_iconst X123 at_234 (3 : Int32) (by decide) rfl ?_
      refine Own.s_istore X123 at_235 #[.val (.int p0), .val (.int p1), .val (.int p2), .val (.int p3), .val (.int p4), .val (.int p5), .val (.int ((p0 &&& (2147483647 : Int32)) % (6 : Int32))), .val (.int z1), .val (.int z2), .val (.int z3), .val (.int z4), .val (.int z5), .val (.ref b94), .val (.ref b102), .val (.int (3 : Int32)), .unset] rfl rfl ?_
      refine Own.s_iload X123 at_237 rfl rfl ?_
      refine Own.s_iconst X123 at_239 (2 : Int32) (by decide) rfl ?_
      refine Own.s_icmpF X123 at_240 (tlt (show (2 : Int32) < ((p0 &&& (2147483647 : Int32)) % (6 : Int32)) by rw [hn4] <;> decide)).2.2.2 rfl ?_
      refine Own.s_iload X123 at_243 rfl rfl ?_
      refine Own.s_bipush X123 at_245 (35 : Int32) (by decide) rfl ?_
      by_cases hc247_125 : z3 = (35 : Int32)
      · refine Own.s_icmpF X123 at_247 (teq hc247_125).2 rfl ?_
        refine Own.s_iconst X123 at_250 (2 : Int32) (by decide) rfl ?_
        refine Own.s_istore X123 at_251 #[.val (.int p0), .val (.int p1), .val (.int p2), .val (.int p3), .val (.int p4), .val (.int p5), .val (.int ((p0 &&& (2147483647 : Int32)) % (6 : Int32))), .val (.int z1), .val (.int z2), .val (.int z3), .val (.int z4), .val (.int z5), .val (.ref b94), .val (.ref b102), .val (.int (2 : Int32)), .unset] rfl rfl ?_
        refine Own.s_iload X123 at_253 rfl rfl ?_
        refine Own.s_iconst X123 at_255 (1 : Int32) (by decide) rfl ?_
        refine Own.s_icmpF X123 at_256 (tlt (show (1 : Int32) < ((p0 &&& (2147483647 : Int32)) % (6 : Int32)) by rw [hn4] <;> decide)).2.2.2 rfl ?_
        refine Own.s_iload X123 at_259 rfl rfl ?_
        refine Own.s_bipush X123 at_261 (35 : Int32) (by decide) rfl ?_
        by_cases hc263_126 : z2 = (35 : Int32)
        · refine Own.s_icmpF X123 at_263 (teq hc263_126).2 rfl ?_
          refine Own.s_iconst X123 at_266 (1 : Int32) (by decide) rfl ?_
          refine Own.s_istore X123 at_267 #[.val (.int p0), .val (.int p1), .val (.int p2), .val (.int p3), .val (.int p4), .val (.int p5), .val (.int ((p0 &&& (2147483647 : Int32)) % (6 : Int32))), .val (.int z1), .val (.int z2), .val (.int z3), .val (.int z4), .val (.int z5), .val (.ref b94), .val (.ref b102), .val (.int (1 : Int32)), .unset] rfl rfl ?_
          refine Own.s_iload X123 at_269 rfl rfl ?_
          refine Own.s_ifF X123 at_271 ((if0 _ _).trans (tlt (show (0 : Int32) < ((p0 &&& (2147483647 : Int32)) % (6 : Int32)) by rw [hn4] <;> decide)).2.2.2) rfl ?_
          refine Own.s_iload X123 at_274 rfl rfl ?_
          refine Own.s_bipush X123 at_276 (35 : Int32) (by decide) rfl ?_
          by_cases hc278_127 : z1 = (35 : Int32)
          · refine Own.s_icmpF X123 at_278 (teq hc278_127).2 rfl ?_
            refine Own.s_iconst X123 at_281 (0 : Int32) (by decide) rfl ?_
            refine Own.s_istore X123 at_282 #[.val (.int p0), .val (.int p1), .val (.int p2), .val (.int p3), .val (.int p4), .val (.int p5), .val (.int ((p0 &&& (2147483647 : Int32)) % (6 : Int32))), .val (.int z1), .val (.int z2), .val (.int z3), .val (.int z4), .val (.int z5), .val (.ref b94), .val (.ref b102), .val (.int (0 : Int32)), .unset] rfl rfl ?_
            exact sg_d hw p0 p1 p2 p3 p4 p5 SC hzc SF hfm ((p0 &&& (2147483647 : Int32)) % (6 : Int32)) (0 : Int32) z1 z2 z3 z4 z5 b94 b102 [z1, z2, z3, z4] [] (Own.Wk.mono X123 (by decide) (by decide)) S123 (by simp) (by rw [Own.tw_hit hc278_127]) (by simp) rfl (fun h => absurd h (by simp)) (fun h => absurd h (by simp)) (fun h => absurd h (by simp)) (fun h => absurd h (by simp)) (fun h => absurd h (by simp))
          · refine Own.s_icmpT X123 at_278 (feq hc278_127).2 (by decide) (pc' := 284) (by decide) ?_
            exact sg_d hw p0 p1 p2 p3 p4 p5 SC hzc SF hfm ((p0 &&& (2147483647 : Int32)) % (6 : Int32)) (1 : Int32) z1 z2 z3 z4 z5 b94 b102 [z1, z2, z3, z4] [z1] (Own.Wk.mono X123 (by decide) (by decide)) S123 (by simp) (by rw [Own.tw_miss hc278_127, Own.tw_hit hc263_126]) (by simp) rfl (fun _ => rfl) (fun h => absurd h (by simp)) (fun h => absurd h (by simp)) (fun h => absurd h (by simp)) (fun h => absurd h (by simp))
        · refine Own.s_icmpT X123 at_263 (feq hc263_126).2 (by decide) (pc' := 269) (by decide) ?_
          refine Own.s_iload X123 at_269 rfl rfl ?_
          refine Own.s_ifF X123 at_271 ((if0 _ _).trans (tlt (show (0 : Int32) < ((p0 &&& (2147483647 : Int32)) % (6 : Int32)) by rw [hn4] <;> decide)).2.2.2) rfl ?_
          refine Own.s_iload X123 at_274 rfl rfl ?_
          refine Own.s_bipush X123 at_276 (35 : Int32) (by decide) rfl ?_
          by_cases hc278_128 : z1 = (35 : Int32)
          · refine Own.s_icmpF X123 at_278 (teq hc278_128).2 rfl ?_
            refine Own.s_iconst X123 at_281 (0 : Int32) (by decide) rfl ?_
            refine Own.s_istore X123 at_282 #[.val (.int p0), .val (.int p1), .val (.int p2), .val (.int p3), .val (.int p4), .val (.int p5), .val (.int ((p0 &&& (2147483647 : Int32)) % (6 : Int32))), .val (.int z1), .val (.int z2), .val (.int z3), .val (.int z4), .val (.int z5), .val (.ref b94), .val (.ref b102), .val (.int (0 : Int32)), .unset] rfl rfl ?_
            exact sg_d hw p0 p1 p2 p3 p4 p5 SC hzc SF hfm ((p0 &&& (2147483647 : Int32)) % (6 : Int32)) (0 : Int32) z1 z2 z3 z4 z5 b94 b102 [z1, z2, z3, z4] [] (Own.Wk.mono X123 (by decide) (by decide)) S123 (by simp) (by rw [Own.tw_hit hc278_128]) (by simp) rfl (fun h => absurd h (by simp)) (fun h => absurd h (by simp)) (fun h => absurd h (by simp)) (fun h => absurd h (by simp)) (fun h => absurd h (by simp))
          · refine Own.s_icmpT X123 at_278 (feq hc278_128).2 (by decide) (pc' := 284) (by decide) ?_
            exact sg_d hw p0 p1 p2 p3 p4 p5 SC hzc SF hfm ((p0 &&& (2147483647 : Int32)) % (6 : Int32)) (2 : Int32) z1 z2 z3 z4 z5 b94 b102 [z1, z2, z3, z4] [z1, z2] (Own.Wk.mono X123 (by decide) (by decide)) S123 (by simp) (by rw [Own.tw_miss hc278_128, Own.tw_miss hc263_126, Own.tw_hit hc247_125]) (by simp) rfl (fun _ => rfl) (fun _ => rfl) (fun h => absurd h (by simp)) (fun h => absurd h (by simp)) (fun h => absurd h (by simp))
      · refine Own.s_icmpT X123 at_247 (feq hc247_125).2 (by decide) (pc' := 253) (by decide) ?_
        refine Own.s_iload X123 at_253 rfl rfl ?_
        refine Own.s_iconst X123 at_255 (1 : Int32) (by decide) rfl ?_
        refine Own.s_icmpF X123 at_256 (tlt (show (1 : Int32) < ((p0 &&& (2147483647 : Int32)) % (6 : Int32)) by rw [hn4] <;> decide)).2.2.2 rfl ?_
        refine Own.s_iload X123 at_259 rfl rfl ?_
        refine Own.s_bipush X123 at_261 (35 : Int32) (by decide) rfl ?_
        by_cases hc263_129 : z2 = (35 : Int32)
        · refine Own.s_icmpF X123 at_263 (teq hc263_129).2 rfl ?_
          refine Own.s_iconst X123 at_266 (1 : Int32) (by decide) rfl ?_
          refine Own.s_istore X123 at_267 #[.val (.int p0), .val (.int p1), .val (.int p2), .val (.int p3), .val (.int p4), .val (.int p5), .val (.int ((p0 &&& (2147483647 : Int32)) % (6 : Int32))), .val (.int z1), .val (.int z2), .val (.int z3), .val (.int z4), .val (.int z5), .val (.ref b94), .val (.ref b102), .val (.int (1 : Int32)), .unset] rfl rfl ?_
          refine Own.s_iload X123 at_269 rfl rfl ?_
          refine Own.s_ifF X123 at_271 ((if0 _ _).trans (tlt (show (0 : Int32) < ((p0 &&& (2147483647 : Int32)) % (6 : Int32)) by rw [hn4] <;> decide)).2.2.2) rfl ?_
          refine Own.s_iload X123 at_274 rfl rfl ?_
          refine Own.s_bipush X123 at_276 (35 : Int32) (by decide) rfl ?_
          by_cases hc278_130 : z1 = (35 : Int32)
          · refine Own.s_icmpF X123 at_278 (teq hc278_130).2 rfl ?_
            refine Own.s_iconst X123 at_281 (0 : Int32) (by decide) rfl ?_
            refine Own.s_istore X123 at_282 #[.val (.int p0), .val (.int p1), .val (.int p2), .val (.int p3), .val (.int p4), .val (.int p5), .val (.int ((p0 &&& (2147483647 : Int32)) % (6 : Int32))), .val (.int z1), .val (.int z2), .val (.int z3), .val (.int z4), .val (.int z5), .val (.ref b94), .val (.ref b102), .val (.int (0 : Int32)), .unset] rfl rfl ?_
            exact sg_d hw p0 p1 p2 p3 p4 p5 SC hzc SF hfm ((p0 &&& (2147483647 : Int32)) % (6 : Int32)) (0 : Int32) z1 z2 z3 z4 z5 b94 b102 [z1, z2, z3, z4] [] (Own.Wk.mono X123 (by decide) (by decide)) S123 (by simp) (by rw [Own.tw_hit hc278_130]) (by simp) rfl (fun h => absurd h (by simp)) (fun h => absurd h (by simp)) (fun h => absurd h (by simp)) (fun h => absurd h (by simp)) (fun h => absurd h (by simp))
          · refine Own.s_icmpT X123 at_278 (feq hc278_130).2 (by decide) (pc' := 284) (by decide) ?_
            exact sg_d hw p0 p1 p2 p3 p4 p5 SC hzc SF hfm ((p0 &&& (2147483647 : Int32)) % (6 : Int32)) (1 : Int32) z1 z2 z3 z4 z5 b94 b102 [z1, z2, z3, z4] [z1] (Own.Wk.mono X123 (by decide) (by decide)) S123 (by simp) (by rw [Own.tw_miss hc278_130, Own.tw_hit hc263_129]) (by simp) rfl (fun _ => rfl) (fun h => absurd h (by simp)) (fun h => absurd h (by simp)) (fun h => absurd h (by simp)) (fun h => absurd h (by simp))
        · refine Own.s_icmpT X123 at_263 (feq hc263_129).2 (by decide) (pc' := 269) (by decide) ?_
          refine Own.s_iload X123 at_269 rfl rfl ?_
          refine Own.s_ifF X123 at_271 ((if0 _ _).trans (tlt (show (0 : Int32) < ((p0 &&& (2147483647 : Int32)) % (6 : Int32)) by rw [hn4] <;> decide)).2.2.2) rfl ?_
          refine Own.s_iload X123 at_274 rfl rfl ?_
          refine Own.s_bipush X123 at_276 (35 : Int32) (by decide) rfl ?_
          by_cases hc278_131 : z1 = (35 : Int32)
          · refine Own.s_icmpF X123 at_278 (teq hc278_131).2 rfl ?_
            refine Own.s_iconst X123 at_281 (0 : Int32) (by decide) rfl ?_
            refine Own.s_istore X123 at_282 #[.val (.int p0), .val (.int p1), .val (.int p2), .val (.int p3), .val (.int p4), .val (.int p5), .val (.int ((p0 &&& (2147483647 : Int32)) % (6 : Int32))), .val (.int z1), .val (.int z2), .val (.int z3), .val (.int z4), .val (.int z5), .val (.ref b94), .val (.ref b102), .val (.int (0 : Int32)), .unset] rfl rfl ?_
            exact sg_d hw p0 p1 p2 p3 p4 p5 SC hzc SF hfm ((p0 &&& (2147483647 : Int32)) % (6 : Int32)) (0 : Int32) z1 z2 z3 z4 z5 b94 b102 [z1, z2, z3, z4] [] (Own.Wk.mono X123 (by decide) (by decide)) S123 (by simp) (by rw [Own.tw_hit hc278_131]) (by simp) rfl (fun h => absurd h (by simp)) (fun h => absurd h (by simp)) (fun h => absurd h (by simp)) (fun h => absurd h (by simp)) (fun h => absurd h (by simp))
          · refine Own.s_icmpT X123 at_278 (feq hc278_131).2 (by decide) (pc' := 284) (by decide) ?_
            exact sg_d hw p0 p1 p2 p3 p4 p5 SC hzc SF hfm ((p0 &&& (2147483647 : Int32)) % (6 : Int32)) (3 : Int32) z1 z2 z3 z4 z5 b94 b102 [z1, z2, z3, z4] [z1, z2, z3] (Own.Wk.mono X123 (by decide) (by decide)) S123 (by simp) (by rw [Own.tw_miss hc278_131, Own.tw_miss hc263_129, Own.tw_miss hc247_125, Own.tw_hit hc231_124]) (by simp) rfl (fun _ => rfl) (fun _ => rfl) (fun _ => rfl) (fun h => absurd h (by simp)) (fun h => absurd h (by simp))
    · refine Own.s_icmpT X123 at_231 (feq hc231_124).2 (by decide) (pc' := 237) (by decide) ?_
      refine Own.s_iload X123 at_237 rfl rfl ?_
      refine Own.s_iconst X123 at_239 (2 : Int32) (by decide) rfl ?_
      refine Own.s_icmpF X123 at_240 (tlt (show (2 : Int32) < ((p0 &&& (2147483647 : Int32)) % (6 : Int32)) by rw [hn4] <;> decide)).2.2.2 rfl ?_
      refine Own.s_iload X123 at_243 rfl rfl ?_
      refine Own.s_bipush X123 at_245 (35 : Int32) (by decide) rfl ?_
      by_cases hc247_132 : z3 = (35 : Int32)
      · refine Own.s_icmpF X123 at_247 (teq hc247_132).2 rfl ?_
        refine Own.s_iconst X123 at_250 (2 : Int32) (by decide) rfl ?_
        refine Own.s_istore X123 at_251 #[.val (.int p0), .val (.int p1), .val (.int p2), .val (.int p3), .val (.int p4), .val (.int p5), .val (.int ((p0 &&& (2147483647 : Int32)) % (6 : Int32))), .val (.int z1), .val (.int z2), .val (.int z3), .val (.int z4), .val (.int z5), .val (.ref b94), .val (.ref b102), .val (.int (2 : Int32)), .unset] rfl rfl ?_
        refine Own.s_iload X123 at_253 rfl rfl ?_
        refine Own.s_iconst X123 at_255 (1 : Int32) (by decide) rfl ?_
        refine Own.s_icmpF X123 at_256 (tlt (show (1 : Int32) < ((p0 &&& (2147483647 : Int32)) % (6 : Int32)) by rw [hn4] <;> decide)).2.2.2 rfl ?_
        refine Own.s_iload X123 at_259 rfl rfl ?_
        refine Own.s_bipush X123 at_261 (35 : Int32) (by decide) rfl ?_
        by_cases hc263_133 : z2 = (35 : Int32)
        · refine Own.s_icmpF X123 at_263 (teq hc263_133).2 rfl ?_
          refine Own.s_iconst X123 at_266 (1 : Int32) (by decide) rfl ?_
          refine Own.s_istore X123 at_267 #[.val (.int p0), .val (.int p1), .val (.int p2), .val (.int p3), .val (.int p4), .val (.int p5), .val (.int ((p0 &&& (2147483647 : Int32)) % (6 : Int32))), .val (.int z1), .val (.int z2), .val (.int z3), .val (.int z4), .val (.int z5), .val (.ref b94), .val (.ref b102), .val (.int (1 : Int32)), .unset] rfl rfl ?_
          refine Own.s_iload X123 at_269 rfl rfl ?_
          refine Own.s_ifF X123 at_271 ((if0 _ _).trans (tlt (show (0 : Int32) < ((p0 &&& (2147483647 : Int32)) % (6 : Int32)) by rw [hn4] <;> decide)).2.2.2) rfl ?_
          refine Own.s_iload X123 at_274 rfl rfl ?_
          refine Own.s_bipush X123 at_276 (35 : Int32) (by decide) rfl ?_
          by_cases hc278_134 : z1 = (35 : Int32)
          · refine Own.s_icmpF X123 at_278 (teq hc278_134).2 rfl ?_
            refine Own.s_iconst X123 at_281 (0 : Int32) (by decide) rfl ?_
            refine Own.s_istore X123 at_282 #[.val (.int p0), .val (.int p1), .val (.int p2), .val (.int p3), .val (.int p4), .val (.int p5), .val (.int ((p0 &&& (2147483647 : Int32)) % (6 : Int32))), .val (.int z1), .val (.int z2), .val (.int z3), .val (.int z4), .val (.int z5), .val (.ref b94), .val (.ref b102), .val (.int (0 : Int32)), .unset] rfl rfl ?_
            exact sg_d hw p0 p1 p2 p3 p4 p5 SC hzc SF hfm ((p0 &&& (2147483647 : Int32)) % (6 : Int32)) (0 : Int32) z1 z2 z3 z4 z5 b94 b102 [z1, z2, z3, z4] [] (Own.Wk.mono X123 (by decide) (by decide)) S123 (by simp) (by rw [Own.tw_hit hc278_134]) (by simp) rfl (fun h => absurd h (by simp)) (fun h => absurd h (by simp)) (fun h => absurd h (by simp)) (fun h => absurd h (by simp)) (fun h => absurd h (by simp))
          · refine Own.s_icmpT X123 at_278 (feq hc278_134).2 (by decide) (pc' := 284) (by decide) ?_
            exact sg_d hw p0 p1 p2 p3 p4 p5 SC hzc SF hfm ((p0 &&& (2147483647 : Int32)) % (6 : Int32)) (1 : Int32) z1 z2 z3 z4 z5 b94 b102 [z1, z2, z3, z4] [z1] (Own.Wk.mono X123 (by decide) (by decide)) S123 (by simp) (by rw [Own.tw_miss hc278_134, Own.tw_hit hc263_133]) (by simp) rfl (fun _ => rfl) (fun h => absurd h (by simp)) (fun h => absurd h (by simp)) (fun h => absurd h (by simp)) (fun h => absurd h (by simp))
        · refine Own.s_icmpT X123 at_263 (feq hc263_133).2 (by decide) (pc' := 269) (by decide) ?_
          refine Own.s_iload X123 at_269 rfl rfl ?_
          refine Own.s_ifF X123 at_271 ((if0 _ _).trans (tlt (show (0 : Int32) < ((p0 &&& (2147483647 : Int32)) % (6 : Int32)) by rw [hn4] <;> decide)).2.2.2) rfl ?_
          refine Own.s_iload X123 at_274 rfl rfl ?_
          refine Own.s_bipush X123 at_276 (35 : Int32) (by decide) rfl ?_
          by_cases hc278_135 : z1 = (35 : Int32)
          · refine Own.s_icmpF X123 at_278 (teq hc278_135).2 rfl ?_
            refine Own.s_iconst X123 at_281 (0 : Int32) (by decide) rfl ?_
            refine Own.s_istore X123 at_282 #[.val (.int p0), .val (.int p1), .val (.int p2), .val (.int p3), .val (.int p4), .val (.int p5), .val (.int ((p0 &&& (2147483647 : Int32)) % (6 : Int32))), .val (.int z1), .val (.int z2), .val (.int z3), .val (.int z4), .val (.int z5), .val (.ref b94), .val (.ref b102), .val (.int (0 : Int32)), .unset] rfl rfl ?_
            exact sg_d hw p0 p1 p2 p3 p4 p5 SC hzc SF hfm ((p0 &&& (2147483647 : Int32)) % (6 : Int32)) (0 : Int32) z1 z2 z3 z4 z5 b94 b102 [z1, z2, z3, z4] [] (Own.Wk.mono X123 (by decide) (by decide)) S123 (by simp) (by rw [Own.tw_hit hc278_135]) (by simp) rfl (fun h => absurd h (by simp)) (fun h => absurd h (by simp)) (fun h => absurd h (by simp)) (fun h => absurd h (by simp)) (fun h => absurd h (by simp))
          · refine Own.s_icmpT X123 at_278 (feq hc278_135).2 (by decide) (pc' := 284) (by decide) ?_
            exact sg_d hw p0 p1 p2 p3 p4 p5 SC hzc SF hfm ((p0 &&& (2147483647 : Int32)) % (6 : Int32)) (2 : Int32) z1 z2 z3 z4 z5 b94 b102 [z1, z2, z3, z4] [z1, z2] (Own.Wk.mono X123 (by decide) (by decide)) S123 (by simp) (by rw [Own.tw_miss hc278_135, Own.tw_miss hc263_133, Own.tw_hit hc247_132]) (by simp) rfl (fun _ => rfl) (fun _ => rfl) (fun h => absurd h (by simp)) (fun h => absurd h (by simp)) (fun h => absurd h (by simp))
      · refine Own.s_icmpT X123 at_247 (feq hc247_132).2 (by decide) (pc' := 253) (by decide) ?_
        refine Own.s_iload X123 at_253 rfl rfl ?_
        refine Own.s_iconst X123 at_255 (1 : Int32) (by decide) rfl ?_
        refine Own.s_icmpF X123 at_256 (tlt (show (1 : Int32) < ((p0 &&& (2147483647 : Int32)) % (6 : Int32)) by rw [hn4] <;> decide)).2.2.2 rfl ?_
        refine Own.s_iload X123 at_259 rfl rfl ?_
        refine Own.s_bipush X123 at_261 (35 : Int32) (by decide) rfl ?_
        by_cases hc263_136 : z2 = (35 : Int32)
        · refine Own.s_icmpF X123 at_263 (teq hc263_136).2 rfl ?_
          refine Own.s_iconst X123 at_266 (1 : Int32) (by decide) rfl ?_
          refine Own.s_istore X123 at_267 #[.val (.int p0), .val (.int p1), .val (.int p2), .val (.int p3), .val (.int p4), .val (.int p5), .val (.int ((p0 &&& (2147483647 : Int32)) % (6 : Int32))), .val (.int z1), .val (.int z2), .val (.int z3), .val (.int z4), .val (.int z5), .val (.ref b94), .val (.ref b102), .val (.int (1 : Int32)), .unset] rfl rfl ?_
          refine Own.s_iload X123 at_269 rfl rfl ?_
          refine Own.s_ifF X123 at_271 ((if0 _ _).trans (tlt (show (0 : Int32) < ((p0 &&& (2147483647 : Int32)) % (6 : Int32)) by rw [hn4] <;> decide)).2.2.2) rfl ?_
          refine Own.s_iload X123 at_274 rfl rfl ?_
          refine Own.s_bipush X123 at_276 (35 : Int32) (by decide) rfl ?_
          by_cases hc278_137 : z1 = (35 : Int32)
          · refine Own.s_icmpF X123 at_278 (teq hc278_137).2 rfl ?_
            refine Own.s_iconst X123 at_281 (0 : Int32) (by decide) rfl ?_
            refine Own.s_istore X123 at_282 #[.val (.int p0), .val (.int p1), .val (.int p2), .val (.int p3), .val (.int p4), .val (.int p5), .val (.int ((p0 &&& (2147483647 : Int32)) % (6 : Int32))), .val (.int z1), .val (.int z2), .val (.int z3), .val (.int z4), .val (.int z5), .val (.ref b94), .val (.ref b102), .val (.int (0 : Int32)), .unset] rfl rfl ?_
            exact sg_d hw p0 p1 p2 p3 p4 p5 SC hzc SF hfm ((p0 &&& (2147483647 : Int32)) % (6 : Int32)) (0 : Int32) z1 z2 z3 z4 z5 b94 b102 [z1, z2, z3, z4] [] (Own.Wk.mono X123 (by decide) (by decide)) S123 (by simp) (by rw [Own.tw_hit hc278_137]) (by simp) rfl (fun h => absurd h (by simp)) (fun h => absurd h (by simp)) (fun h => absurd h (by simp)) (fun h => absurd h (by simp)) (fun h => absurd h (by simp))
          · refine Own.s_icmpT X123 at_278 (feq hc278_137).2 (by decide) (pc' := 284) (by decide) ?_
            exact sg_d hw p0 p1 p2 p3 p4 p5 SC hzc SF hfm ((p0 &&& (2147483647 : Int32)) % (6 : Int32)) (1 : Int32) z1 z2 z3 z4 z5 b94 b102 [z1, z2, z3, z4] [z1] (Own.Wk.mono X123 (by decide) (by decide)) S123 (by simp) (by rw [Own.tw_miss hc278_137, Own.tw_hit hc263_136]) (by simp) rfl (fun _ => rfl) (fun h => absurd h (by simp)) (fun h => absurd h (by simp)) (fun h => absurd h (by simp)) (fun h => absurd h (by simp))
        · refine Own.s_icmpT X123 at_263 (feq hc263_136).2 (by decide) (pc' := 269) (by decide) ?_
          refine Own.s_iload X123 at_269 rfl rfl ?_
          refine Own.s_ifF X123 at_271 ((if0 _ _).trans (tlt (show (0 : Int32) < ((p0 &&& (2147483647 : Int32)) % (6 : Int32)) by rw [hn4] <;> decide)).2.2.2) rfl ?_
          refine Own.s_iload X123 at_274 rfl rfl ?_
          refine Own.s_bipush X123 at_276 (35 : Int32) (by decide) rfl ?_
          by_cases hc278_138 : z1 = (35 : Int32)
          · refine Own.s_icmpF X123 at_278 (teq hc278_138).2 rfl ?_
            refine Own.s_iconst X123 at_281 (0 : Int32) (by decide) rfl ?_
            refine Own.s_istore X123 at_282 #[.val (.int p0), .val (.int p1), .val (.int p2), .val (.int p3), .val (.int p4), .val (.int p5), .val (.int ((p0 &&& (2147483647 : Int32)) % (6 : Int32))), .val (.int z1), .val (.int z2), .val (.int z3), .val (.int z4), .val (.int z5), .val (.ref b94), .val (.ref b102), .val (.int (0 : Int32)), .unset] rfl rfl ?_
            exact sg_d hw p0 p1 p2 p3 p4 p5 SC hzc SF hfm ((p0 &&& (2147483647 : Int32)) % (6 : Int32)) (0 : Int32) z1 z2 z3 z4 z5 b94 b102 [z1, z2, z3, z4] [] (Own.Wk.mono X123 (by decide) (by decide)) S123 (by simp) (by rw [Own.tw_hit hc278_138]) (by simp) rfl (fun h => absurd h (by simp)) (fun h => absurd h (by simp)) (fun h => absurd h (by simp)) (fun h => absurd h (by simp)) (fun h => absurd h (by simp))
          · refine Own.s_icmpT X123 at_278 (feq hc278_138).2 (by decide) (pc' := 284) (by decide) ?_
            exact sg_d hw p0 p1 p2 p3 p4 p5 SC hzc SF hfm ((p0 &&& (2147483647 : Int32)) % (6 : Int32)) ((p0 &&& (2147483647 : Int32)) % (6 : Int32)) z1 z2 z3 z4 z5 b94 b102 [z1, z2, z3, z4] [z1, z2, z3, z4] (Own.Wk.mono X123 (by decide) (by decide)) S123 (by simp) (by rw [Own.tw_miss hc278_138, Own.tw_miss hc263_136, Own.tw_miss hc247_132, Own.tw_miss hc231_124, Own.tw_nil]) (by simp) (by rw [hn4]; rfl) (fun _ => rfl) (fun _ => rfl) (fun _ => rfl) (fun _ => rfl) (fun h => absurd h (by simp))
  · refine Own.s_iload X5 at_41 rfl rfl ?_
    refine Own.s_ifT X5 at_43 ((if0 _ _).trans (feq (show ¬ (((p0 &&& (2147483647 : Int32)) % (6 : Int32)) = (0 : Int32)) by rw [hn5] <;> decide)).2) (by decide) (pc' := 54) (by decide) ?_
    refine Own.s_iload X5 at_54 rfl rfl ?_
    refine Own.s_iconst X5 at_56 (1 : Int32) (by decide) rfl ?_
    refine Own.s_icmpT X5 at_57 (feq (show ¬ (((p0 &&& (2147483647 : Int32)) % (6 : Int32)) = (1 : Int32)) by rw [hn5] <;> decide)).2 (by decide) (pc' := 73) (by decide) ?_
    refine Own.s_iload X5 at_73 rfl rfl ?_
    refine Own.s_iconst X5 at_75 (2 : Int32) (by decide) rfl ?_
    refine Own.s_icmpT X5 at_76 (feq (show ¬ (((p0 &&& (2147483647 : Int32)) % (6 : Int32)) = (2 : Int32)) by rw [hn5] <;> decide)).2 (by decide) (pc' := 97) (by decide) ?_
    refine Own.s_iload X5 at_97 rfl rfl ?_
    refine Own.s_iconst X5 at_99 (3 : Int32) (by decide) rfl ?_
    refine Own.s_icmpT X5 at_100 (feq (show ¬ (((p0 &&& (2147483647 : Int32)) % (6 : Int32)) = (3 : Int32)) by rw [hn5] <;> decide)).2 (by decide) (pc' := 126) (by decide) ?_
    refine Own.s_iload X5 at_126 rfl rfl ?_
    refine Own.s_iconst X5 at_128 (4 : Int32) (by decide) rfl ?_
    refine Own.s_icmpT X5 at_129 (feq (show ¬ (((p0 &&& (2147483647 : Int32)) % (6 : Int32)) = (4 : Int32)) by rw [hn5] <;> decide)).2 (by decide) (pc' := 160) (by decide) ?_
    refine Own.s_iconst X5 at_160 (5 : Int32) (by decide) rfl ?_
    refine Own.s_newarray X5 at_161 (tw5 hw) (by decide) 5 (by decide) (by decide) (by decide) (by decide) rfl ?_
    intro b139 T139 h139 k139 X139 V139 g139 A139 O139
    have B139 : Arv Z h139 b139 k139 .char (5 : Int32) [(.int (0 : Int32)), (.int (0 : Int32)), (.int (0 : Int32)), (.int (0 : Int32)), (.int (0 : Int32))] (.int (0 : Int32)) := A139.pad (pad_rep [] (.int (0 : Int32)) 5)
    refine Own.s_dup X139 at_163 rfl rfl ?_
    refine Own.s_iconst X139 at_164 (0 : Int32) (by decide) rfl ?_
    refine Own.s_iload X139 at_165 rfl rfl ?_
    refine Own.s_castoreR X139 at_167 B139 ⟨by decide, by decide⟩ 0 (by decide) (Nat.le_of_ble_eq_true rfl) (Own.nar_chr hz1) O139 rfl ?_
    intro T140 h140 X140 V140 A140
    have B140 : Arv Z h140 b139 k139 .char (5 : Int32) [(.int z1), (.int (0 : Int32)), (.int (0 : Int32)), (.int (0 : Int32)), (.int (0 : Int32))] (.int (0 : Int32)) := A140
    refine Own.s_dup X140 at_168 rfl rfl ?_
    refine Own.s_iconst X140 at_169 (1 : Int32) (by decide) rfl ?_
    refine Own.s_iload X140 at_170 rfl rfl ?_
    have O142 := (O139.ev V140)
    refine Own.s_castoreR X140 at_172 B140 ⟨by decide, by decide⟩ 1 (by decide) (Nat.le_of_ble_eq_true rfl) (Own.nar_chr hz2) O142 rfl ?_
    intro T141 h141 X141 V141 A141
    have B141 : Arv Z h141 b139 k139 .char (5 : Int32) [(.int z1), (.int z2), (.int (0 : Int32)), (.int (0 : Int32)), (.int (0 : Int32))] (.int (0 : Int32)) := A141
    refine Own.s_dup X141 at_173 rfl rfl ?_
    refine Own.s_iconst X141 at_174 (2 : Int32) (by decide) rfl ?_
    refine Own.s_iload X141 at_175 rfl rfl ?_
    have O144 := (O142.ev V141)
    refine Own.s_castoreR X141 at_177 B141 ⟨by decide, by decide⟩ 2 (by decide) (Nat.le_of_ble_eq_true rfl) (Own.nar_chr hz3) O144 rfl ?_
    intro T143 h143 X143 V143 A143
    have B143 : Arv Z h143 b139 k139 .char (5 : Int32) [(.int z1), (.int z2), (.int z3), (.int (0 : Int32)), (.int (0 : Int32))] (.int (0 : Int32)) := A143
    refine Own.s_dup X143 at_178 rfl rfl ?_
    refine Own.s_iconst X143 at_179 (3 : Int32) (by decide) rfl ?_
    refine Own.s_iload X143 at_180 rfl rfl ?_
    have O146 := (O144.ev V143)
    refine Own.s_castoreR X143 at_182 B143 ⟨by decide, by decide⟩ 3 (by decide) (Nat.le_of_ble_eq_true rfl) (Own.nar_chr hz4) O146 rfl ?_
    intro T145 h145 X145 V145 A145
    have B145 : Arv Z h145 b139 k139 .char (5 : Int32) [(.int z1), (.int z2), (.int z3), (.int z4), (.int (0 : Int32))] (.int (0 : Int32)) := A145
    refine Own.s_dup X145 at_183 rfl rfl ?_
    refine Own.s_iconst X145 at_184 (4 : Int32) (by decide) rfl ?_
    refine Own.s_iload X145 at_185 rfl rfl ?_
    have O148 := (O146.ev V145)
    refine Own.s_castoreR X145 at_187 B145 ⟨by decide, by decide⟩ 4 (by decide) (Nat.le_of_ble_eq_true rfl) (Own.nar_chr hz5) O148 rfl ?_
    intro T147 h147 X147 V147 A147
    have B147 : Arv Z h147 b139 k139 .char (5 : Int32) [(.int z1), (.int z2), (.int z3), (.int z4), (.int z5)] (.int (0 : Int32)) := A147
    refine Own.s_astore X147 at_188 rfl #[.val (.int p0), .val (.int p1), .val (.int p2), .val (.int p3), .val (.int p4), .val (.int p5), .val (.int ((p0 &&& (2147483647 : Int32)) % (6 : Int32))), .val (.int z1), .val (.int z2), .val (.int z3), .val (.int z4), .val (.int z5), .val (.ref b139), .unset, .unset, .unset] rfl rfl ?_
    refine Own.s_new X147 at_190 (tw6 hw) (tw7 hw) (tw8 hw) (by decide) (by decide) rfl ?_
    intro b149 T149 h149 X149 V149 g149 E149 O149 D149
    have F149_value : Fld Z h149 b149 "java/lang/String" "value" "[B" (.null) := D149 (Or.inr (tw21 hw)) (ty := (.array .byte)) (by decide)
    have F149_coder : Fld Z h149 b149 "java/lang/String" "coder" "B" (.int 0) := D149 (Or.inr (tw22 hw)) (ty := .byte) (by decide)
    refine Own.s_dup X149 at_193 rfl rfl ?_
    refine Own.s_aload X149 at_194 rfl rfl rfl ?_
    have ex150 : Ext h0 h1 := Own.extK (Own.Ext.rfl' h0) V1.1 all0
    have ex151 : Ext h0 h2 := Own.extK ex150 V2.1 all0
    have ex152 : Ext h0 h3 := Own.extK ex151 V3.1 all0
    have ex153 : Ext h0 h4 := Own.extK ex152 V4.1 all0
    have ex154 : Ext h0 h5 := Own.extK ex153 V5.1 all0
    have ex155 : Ext h0 h139 := Own.extK ex154 V139.1 all0
    have le160 : h0.size ≤ h1.size := V1.1.1
    have le159 : h0.size ≤ h2.size := Nat.le_trans le160 V2.1.1
    have le158 : h0.size ≤ h3.size := Nat.le_trans le159 V3.1.1
    have le157 : h0.size ≤ h4.size := Nat.le_trans le158 V4.1.1
    have le156 : h0.size ≤ h5.size := Nat.le_trans le157 V5.1.1
    have ex161 : Ext h0 h140 := Own.extK ex155 V140.1 (allS (Nat.le_trans le156 g139) all0)
    have ex162 : Ext h0 h141 := Own.extK ex161 V141.1 (allS (Nat.le_trans le156 g139) all0)
    have ex163 : Ext h0 h143 := Own.extK ex162 V143.1 (allS (Nat.le_trans le156 g139) all0)
    have ex164 : Ext h0 h145 := Own.extK ex163 V145.1 (allS (Nat.le_trans le156 g139) all0)
    have ex165 : Ext h0 h147 := Own.extK ex164 V147.1 (allS (Nat.le_trans le156 g139) all0)
    have ex166 : Ext h0 h149 := Own.extK ex165 V149.1 all0
    have Z_167 := Sta.ext ex166 SC0
    have ex168 : Ext h147 h149 := Own.extK (Own.Ext.rfl' h147) V149.1 all0
    have A_169 := Arv.ext B147 ex168
    have lat170 : ∀ c ∈ [z1, z2, z3, z4, z5], Own.Lat c := (Own.latL hz1 (Own.latL hz2 (Own.latL hz3 (Own.latL hz4 (Own.latL hz5 Own.latN)))))
    refine Own.b_special X149 at_196 rfl (tw9 hw) (tw10 hw) (tw11 hw) (by decide) b149 [(.ref b139)] [(.ref b149)] (Own.strNew (W := 1) (cs := [z1, z2, z3, z4, z5]) (n := 5) X149.hZ (wNew hw) (tw7 hw) O149.2.1 X149.hE.1 E149 F149_value F149_coder A_169 Z_167 hzc rfl (by decide) (by decide) (by decide) lat170 (by decide) (by decide)) (fun v h' L q => Own.strNewQ (n := 5) rfl (by decide) (by decide) lat170 q) (Own.Ok.one O149) (lenOf pd_16 rfl) rfl (Nat.le_of_eq rfl) (by decide) (by decide) rfl rfl ?_
    intro v171 vm171 T171 h171 L171 X171 V171 Q171
    obtain ⟨rfl, S171⟩ := Q171
    refine Own.s_astore X171 at_199 rfl #[.val (.int p0), .val (.int p1), .val (.int p2), .val (.int p3), .val (.int p4), .val (.int p5), .val (.int ((p0 &&& (2147483647 : Int32)) % (6 : Int32))), .val (.int z1), .val (.int z2), .val (.int z3), .val (.int z4), .val (.int z5), .val (.ref b139), .val (.ref b149), .unset, .unset] rfl rfl ?_
    refine Own.s_iload X171 at_201 rfl rfl ?_
    refine Own.s_istore X171 at_203 #[.val (.int p0), .val (.int p1), .val (.int p2), .val (.int p3), .val (.int p4), .val (.int p5), .val (.int ((p0 &&& (2147483647 : Int32)) % (6 : Int32))), .val (.int z1), .val (.int z2), .val (.int z3), .val (.int z4), .val (.int z5), .val (.ref b139), .val (.ref b149), .val (.int ((p0 &&& (2147483647 : Int32)) % (6 : Int32))), .unset] rfl rfl ?_
    refine Own.s_iload X171 at_205 rfl rfl ?_
    refine Own.s_iconst X171 at_207 (4 : Int32) (by decide) rfl ?_
    refine Own.s_icmpF X171 at_208 (tlt (show (4 : Int32) < ((p0 &&& (2147483647 : Int32)) % (6 : Int32)) by rw [hn5] <;> decide)).2.2.2 rfl ?_
    refine Own.s_iload X171 at_211 rfl rfl ?_
    refine Own.s_bipush X171 at_213 (35 : Int32) (by decide) rfl ?_
    by_cases hc215_172 : z5 = (35 : Int32)
    · refine Own.s_icmpF X171 at_215 (teq hc215_172).2 rfl ?_
      refine Own.s_iconst X171 at_218 (4 : Int32) (by decide) rfl ?_
      refine Own.s_istore X171 at_219 #[.val (.int p0), .val (.int p1), .val (.int p2), .val (.int p3), .val (.int p4), .val (.int p5), .val (.int ((p0 &&& (2147483647 : Int32)) % (6 : Int32))), .val (.int z1), .val (.int z2), .val (.int z3), .val (.int z4), .val (.int z5), .val (.ref b139), .val (.ref b149), .val (.int (4 : Int32)), .unset] rfl rfl ?_
      refine Own.s_iload X171 at_221 rfl rfl ?_
      refine Own.s_iconst X171 at_223 (3 : Int32) (by decide) rfl ?_
      refine Own.s_icmpF X171 at_224 (tlt (show (3 : Int32) < ((p0 &&& (2147483647 : Int32)) % (6 : Int32)) by rw [hn5] <;> decide)).2.2.2 rfl ?_
      refine Own.s_iload X171 at_227 rfl rfl ?_
      refine Own.s_bipush X171 at_229 (35 : Int32) (by decide) rfl ?_
      by_cases hc231_173 : z4 = (35 : Int32)
      · refine Own.s_icmpF X171 at_231 (teq hc231_173).2 rfl ?_
        refine Own.s_iconst X171 at_234 (3 : Int32) (by decide) rfl ?_
        refine Own.s_istore X171 at_235 #[.val (.int p0), .val (.int p1), .val (.int p2), .val (.int p3), .val (.int p4), .val (.int p5), .val (.int ((p0 &&& (2147483647 : Int32)) % (6 : Int32))), .val (.int z1), .val (.int z2), .val (.int z3), .val (.int z4), .val (.int z5), .val (.ref b139), .val (.ref b149), .val (.int (3 : Int32)), .unset] rfl rfl ?_
        refine Own.s_iload X171 at_237 rfl rfl ?_
        refine Own.s_iconst X171 at_239 (2 : Int32) (by decide) rfl ?_
        refine Own.s_icmpF X171 at_240 (tlt (show (2 : Int32) < ((p0 &&& (2147483647 : Int32)) % (6 : Int32)) by rw [hn5] <;> decide)).2.2.2 rfl ?_
        refine Own.s_iload X171 at_243 rfl rfl ?_
        refine Own.s_bipush X171 at_245 (35 : Int32) (by decide) rfl ?_
        by_cases hc247_174 : z3 = (35 : Int32)
        · refine Own.s_icmpF X171 at_247 (teq hc247_174).2 rfl ?_
          refine Own.s_iconst X171 at_250 (2 : Int32) (by decide) rfl ?_
          refine Own.s_istore X171 at_251 #[.val (.int p0), .val (.int p1), .val (.int p2), .val (.int p3), .val (.int p4), .val (.int p5), .val (.int ((p0 &&& (2147483647 : Int32)) % (6 : Int32))), .val (.int z1), .val (.int z2), .val (.int z3), .val (.int z4), .val (.int z5), .val (.ref b139), .val (.ref b149), .val (.int (2 : Int32)), .unset] rfl rfl ?_
          refine Own.s_iload X171 at_253 rfl rfl ?_
          refine Own.s_iconst X171 at_255 (1 : Int32) (by decide) rfl ?_
          refine Own.s_icmpF X171 at_256 (tlt (show (1 : Int32) < ((p0 &&& (2147483647 : Int32)) % (6 : Int32)) by rw [hn5] <;> decide)).2.2.2 rfl ?_
          refine Own.s_iload X171 at_259 rfl rfl ?_
          refine Own.s_bipush X171 at_261 (35 : Int32) (by decide) rfl ?_
          by_cases hc263_175 : z2 = (35 : Int32)
          · refine Own.s_icmpF X171 at_263 (teq hc263_175).2 rfl ?_
            refine Own.s_iconst X171 at_266 (1 : Int32) (by decide) rfl ?_
            refine Own.s_istore X171 at_267 #[.val (.int p0), .val (.int p1), .val (.int p2), .val (.int p3), .val (.int p4), .val (.int p5), .val (.int ((p0 &&& (2147483647 : Int32)) % (6 : Int32))), .val (.int z1), .val (.int z2), .val (.int z3), .val (.int z4), .val (.int z5), .val (.ref b139), .val (.ref b149), .val (.int (1 : Int32)), .unset] rfl rfl ?_
            refine Own.s_iload X171 at_269 rfl rfl ?_
            refine Own.s_ifF X171 at_271 ((if0 _ _).trans (tlt (show (0 : Int32) < ((p0 &&& (2147483647 : Int32)) % (6 : Int32)) by rw [hn5] <;> decide)).2.2.2) rfl ?_
            refine Own.s_iload X171 at_274 rfl rfl ?_
            refine Own.s_bipush X171 at_276 (35 : Int32) (by decide) rfl ?_
            by_cases hc278_176 : z1 = (35 : Int32)
            · refine Own.s_icmpF X171 at_278 (teq hc278_176).2 rfl ?_
              refine Own.s_iconst X171 at_281 (0 : Int32) (by decide) rfl ?_
              refine Own.s_istore X171 at_282 #[.val (.int p0), .val (.int p1), .val (.int p2), .val (.int p3), .val (.int p4), .val (.int p5), .val (.int ((p0 &&& (2147483647 : Int32)) % (6 : Int32))), .val (.int z1), .val (.int z2), .val (.int z3), .val (.int z4), .val (.int z5), .val (.ref b139), .val (.ref b149), .val (.int (0 : Int32)), .unset] rfl rfl ?_
              exact sg_d hw p0 p1 p2 p3 p4 p5 SC hzc SF hfm ((p0 &&& (2147483647 : Int32)) % (6 : Int32)) (0 : Int32) z1 z2 z3 z4 z5 b139 b149 [z1, z2, z3, z4, z5] [] (Own.Wk.mono X171 (by decide) (by decide)) S171 (by simp) (by rw [Own.tw_hit hc278_176]) (by simp) rfl (fun h => absurd h (by simp)) (fun h => absurd h (by simp)) (fun h => absurd h (by simp)) (fun h => absurd h (by simp)) (fun h => absurd h (by simp))
            · refine Own.s_icmpT X171 at_278 (feq hc278_176).2 (by decide) (pc' := 284) (by decide) ?_
              exact sg_d hw p0 p1 p2 p3 p4 p5 SC hzc SF hfm ((p0 &&& (2147483647 : Int32)) % (6 : Int32)) (1 : Int32) z1 z2 z3 z4 z5 b139 b149 [z1, z2, z3, z4, z5] [z1] (Own.Wk.mono X171 (by decide) (by decide)) S171 (by simp) (by rw [Own.tw_miss hc278_176, Own.tw_hit hc263_175]) (by simp) rfl (fun _ => rfl) (fun h => absurd h (by simp)) (fun h => absurd h (by simp)) (fun h => absurd h (by simp)) (fun h => absurd h (by simp))
          · refine Own.s_icmpT X171 at_263 (feq hc263_175).2 (by decide) (pc' := 269) (by decide) ?_
            refine Own.s_iload X171 at_269 rfl rfl ?_
            refine Own.s_ifF X171 at_271 ((if0 _ _).trans (tlt (show (0 : Int32) < ((p0 &&& (2147483647 : Int32)) % (6 : Int32)) by rw [hn5] <;> decide)).2.2.2) rfl ?_
            refine Own.s_iload X171 at_274 rfl rfl ?_
            refine Own.s_bipush X171 at_276 (35 : Int32) (by decide) rfl ?_
            by_cases hc278_177 : z1 = (35 : Int32)
            · refine Own.s_icmpF X171 at_278 (teq hc278_177).2 rfl ?_
              refine Own.s_iconst X171 at_281 (0 : Int32) (by decide) rfl ?_
              refine Own.s_istore X171 at_282 #[.val (.int p0), .val (.int p1), .val (.int p2), .val (.int p3), .val (.int p4), .val (.int p5), .val (.int ((p0 &&& (2147483647 : Int32)) % (6 : Int32))), .val (.int z1), .val (.int z2), .val (.int z3), .val (.int z4), .val (.int z5), .val (.ref b139), .val (.ref b149), .val (.int (0 : Int32)), .unset] rfl rfl ?_
              exact sg_d hw p0 p1 p2 p3 p4 p5 SC hzc SF hfm ((p0 &&& (2147483647 : Int32)) % (6 : Int32)) (0 : Int32) z1 z2 z3 z4 z5 b139 b149 [z1, z2, z3, z4, z5] [] (Own.Wk.mono X171 (by decide) (by decide)) S171 (by simp) (by rw [Own.tw_hit hc278_177]) (by simp) rfl (fun h => absurd h (by simp)) (fun h => absurd h (by simp)) (fun h => absurd h (by simp)) (fun h => absurd h (by simp)) (fun h => absurd h (by simp))
            · refine Own.s_icmpT X171 at_278 (feq hc278_177).2 (by decide) (pc' := 284) (by decide) ?_
              exact sg_d hw p0 p1 p2 p3 p4 p5 SC hzc SF hfm ((p0 &&& (2147483647 : Int32)) % (6 : Int32)) (2 : Int32) z1 z2 z3 z4 z5 b139 b149 [z1, z2, z3, z4, z5] [z1, z2] (Own.Wk.mono X171 (by decide) (by decide)) S171 (by simp) (by rw [Own.tw_miss hc278_177, Own.tw_miss hc263_175, Own.tw_hit hc247_174]) (by simp) rfl (fun _ => rfl) (fun _ => rfl) (fun h => absurd h (by simp)) (fun h => absurd h (by simp)) (fun h => absurd h (by simp))
        · refine Own.s_icmpT X171 at_247 (feq hc247_174).2 (by decide) (pc' := 253) (by decide) ?_
          refine Own.s_iload X171 at_253 rfl rfl ?_
          refine Own.s_iconst X171 at_255 (1 : Int32) (by decide) rfl ?_
          refine Own.s_icmpF X171 at_256 (tlt (show (1 : Int32) < ((p0 &&& (2147483647 : Int32)) % (6 : Int32)) by rw [hn5] <;> decide)).2.2.2 rfl ?_
          refine Own.s_iload X171 at_259 rfl rfl ?_
          refine Own.s_bipush X171 at_261 (35 : Int32) (by decide) rfl ?_
          by_cases hc263_178 : z2 = (35 : Int32)
          · refine Own.s_icmpF X171 at_263 (teq hc263_178).2 rfl ?_
            refine Own.s_iconst X171 at_266 (1 : Int32) (by decide) rfl ?_
            refine Own.s_istore X171 at_267 #[.val (.int p0), .val (.int p1), .val (.int p2), .val (.int p3), .val (.int p4), .val (.int p5), .val (.int ((p0 &&& (2147483647 : Int32)) % (6 : Int32))), .val (.int z1), .val (.int z2), .val (.int z3), .val (.int z4), .val (.int z5), .val (.ref b139), .val (.ref b149), .val (.int (1 : Int32)), .unset] rfl rfl ?_
            refine Own.s_iload X171 at_269 rfl rfl ?_
            refine Own.s_ifF X171 at_271 ((if0 _ _).trans (tlt (show (0 : Int32) < ((p0 &&& (2147483647 : Int32)) % (6 : Int32)) by rw [hn5] <;> decide)).2.2.2) rfl ?_
            refine Own.s_iload X171 at_274 rfl rfl ?_
            refine Own.s_bipush X171 at_276 (35 : Int32) (by decide) rfl ?_
            by_cases hc278_179 : z1 = (35 : Int32)
            · refine Own.s_icmpF X171 at_278 (teq hc278_179).2 rfl ?_
              refine Own.s_iconst X171 at_281 (0 : Int32) (by decide) rfl ?_
              refine Own.s_istore X171 at_282 #[.val (.int p0), .val (.int p1), .val (.int p2), .val (.int p3), .val (.int p4), .val (.int p5), .val (.int ((p0 &&& (2147483647 : Int32)) % (6 : Int32))), .val (.int z1), .val (.int z2), .val (.int z3), .val (.int z4), .val (.int z5), .val (.ref b139), .val (.ref b149), .val (.int (0 : Int32)), .unset] rfl rfl ?_
              exact sg_d hw p0 p1 p2 p3 p4 p5 SC hzc SF hfm ((p0 &&& (2147483647 : Int32)) % (6 : Int32)) (0 : Int32) z1 z2 z3 z4 z5 b139 b149 [z1, z2, z3, z4, z5] [] (Own.Wk.mono X171 (by decide) (by decide)) S171 (by simp) (by rw [Own.tw_hit hc278_179]) (by simp) rfl (fun h => absurd h (by simp)) (fun h => absurd h (by simp)) (fun h => absurd h (by simp)) (fun h => absurd h (by simp)) (fun h => absurd h (by simp))
            · refine Own.s_icmpT X171 at_278 (feq hc278_179).2 (by decide) (pc' := 284) (by decide) ?_
              exact sg_d hw p0 p1 p2 p3 p4 p5 SC hzc SF hfm ((p0 &&& (2147483647 : Int32)) % (6 : Int32)) (1 : Int32) z1 z2 z3 z4 z5 b139 b149 [z1, z2, z3, z4, z5] [z1] (Own.Wk.mono X171 (by decide) (by decide)) S171 (by simp) (by rw [Own.tw_miss hc278_179, Own.tw_hit hc263_178]) (by simp) rfl (fun _ => rfl) (fun h => absurd h (by simp)) (fun h => absurd h (by simp)) (fun h => absurd h (by simp)) (fun h => absurd h (by simp))
          · refine Own.s_icmpT X171 at_263 (feq hc263_178).2 (by decide) (pc' := 269) (by decide) ?_
            refine Own.s_iload X171 at_269 rfl rfl ?_
            refine Own.s_ifF X171 at_271 ((if0 _ _).trans (tlt (show (0 : Int32) < ((p0 &&& (2147483647 : Int32)) % (6 : Int32)) by rw [hn5] <;> decide)).2.2.2) rfl ?_
            refine Own.s_iload X171 at_274 rfl rfl ?_
            refine Own.s_bipush X171 at_276 (35 : Int32) (by decide) rfl ?_
            by_cases hc278_180 : z1 = (35 : Int32)
            · refine Own.s_icmpF X171 at_278 (teq hc278_180).2 rfl ?_
              refine Own.s_iconst X171 at_281 (0 : Int32) (by decide) rfl ?_
              refine Own.s_istore X171 at_282 #[.val (.int p0), .val (.int p1), .val (.int p2), .val (.int p3), .val (.int p4), .val (.int p5), .val (.int ((p0 &&& (2147483647 : Int32)) % (6 : Int32))), .val (.int z1), .val (.int z2), .val (.int z3), .val (.int z4), .val (.int z5), .val (.ref b139), .val (.ref b149), .val (.int (0 : Int32)), .unset] rfl rfl ?_
              exact sg_d hw p0 p1 p2 p3 p4 p5 SC hzc SF hfm ((p0 &&& (2147483647 : Int32)) % (6 : Int32)) (0 : Int32) z1 z2 z3 z4 z5 b139 b149 [z1, z2, z3, z4, z5] [] (Own.Wk.mono X171 (by decide) (by decide)) S171 (by simp) (by rw [Own.tw_hit hc278_180]) (by simp) rfl (fun h => absurd h (by simp)) (fun h => absurd h (by simp)) (fun h => absurd h (by simp)) (fun h => absurd h (by simp)) (fun h => absurd h (by simp))
            · refine Own.s_icmpT X171 at_278 (feq hc278_180).2 (by decide) (pc' := 284) (by decide) ?_
              exact sg_d hw p0 p1 p2 p3 p4 p5 SC hzc SF hfm ((p0 &&& (2147483647 : Int32)) % (6 : Int32)) (3 : Int32) z1 z2 z3 z4 z5 b139 b149 [z1, z2, z3, z4, z5] [z1, z2, z3] (Own.Wk.mono X171 (by decide) (by decide)) S171 (by simp) (by rw [Own.tw_miss hc278_180, Own.tw_miss hc263_178, Own.tw_miss hc247_174, Own.tw_hit hc231_173]) (by simp) rfl (fun _ => rfl) (fun _ => rfl) (fun _ => rfl) (fun h => absurd h (by simp)) (fun h => absurd h (by simp))
      · refine Own.s_icmpT X171 at_231 (feq hc231_173).2 (by decide) (pc' := 237) (by decide) ?_
        refine Own.s_iload X171 at_237 rfl rfl ?_
        refine Own.s_iconst X171 at_239 (2 : Int32) (by decide) rfl ?_
        refine Own.s_icmpF X171 at_240 (tlt (show (2 : Int32) < ((p0 &&& (2147483647 : Int32)) % (6 : Int32)) by rw [hn5] <;> decide)).2.2.2 rfl ?_
        refine Own.s_iload X171 at_243 rfl rfl ?_
        refine Own.s_bipush X171 at_245 (35 : Int32) (by decide) rfl ?_
        by_cases hc247_181 : z3 = (35 : Int32)
        · refine Own.s_icmpF X171 at_247 (teq hc247_181).2 rfl ?_
          refine Own.s_iconst X171 at_250 (2 : Int32) (by decide) rfl ?_
          refine Own.s_istore X171 at_251 #[.val (.int p0), .val (.int p1), .val (.int p2), .val (.int p3), .val (.int p4), .val (.int p5), .val (.int ((p0 &&& (2147483647 : Int32)) % (6 : Int32))), .val (.int z1), .val (.int z2), .val (.int z3), .val (.int z4), .val (.int z5), .val (.ref b139), .val (.ref b149), .val (.int (2 : Int32)), .unset] rfl rfl ?_
          refine Own.s_iload X171 at_253 rfl rfl ?_
          refine Own.s_iconst X171 at_255 (1 : Int32) (by decide) rfl ?_
          refine Own.s_icmpF X171 at_256 (tlt (show (1 : Int32) < ((p0 &&& (2147483647 : Int32)) % (6 : Int32)) by rw [hn5] <;> decide)).2.2.2 rfl ?_
          refine Own.s_iload X171 at_259 rfl rfl ?_
          refine Own.s_bipush X171 at_261 (35 : Int32) (by decide) rfl ?_
          by_cases hc263_182 : z2 = (35 : Int32)
          · refine Own.s_icmpF X171 at_263 (teq hc263_182).2 rfl ?_
            refine Own.s_iconst X171 at_266 (1 : Int32) (by decide) rfl ?_
            refine Own.s_istore X171 at_267 #[.val (.int p0), .val (.int p1), .val (.int p2), .val (.int p3), .val (.int p4), .val (.int p5), .val (.int ((p0 &&& (2147483647 : Int32)) % (6 : Int32))), .val (.int z1), .val (.int z2), .val (.int z3), .val (.int z4), .val (.int z5), .val (.ref b139), .val (.ref b149), .val (.int (1 : Int32)), .unset] rfl rfl ?_
            refine Own.s_iload X171 at_269 rfl rfl ?_
            refine Own.s_ifF X171 at_271 ((if0 _ _).trans (tlt (show (0 : Int32) < ((p0 &&& (2147483647 : Int32)) % (6 : Int32)) by rw [hn5] <;> decide)).2.2.2) rfl ?_
            refine Own.s_iload X171 at_274 rfl rfl ?_
            refine Own.s_bipush X171 at_276 (35 : Int32) (by decide) rfl ?_
            by_cases hc278_183 : z1 = (35 : Int32)
            · refine Own.s_icmpF X171 at_278 (teq hc278_183).2 rfl ?_
              refine Own.s_iconst X171 at_281 (0 : Int32) (by decide) rfl ?_
              refine Own.s_istore X171 at_282 #[.val (.int p0), .val (.int p1), .val (.int p2), .val (.int p3), .val (.int p4), .val (.int p5), .val (.int ((p0 &&& (2147483647 : Int32)) % (6 : Int32))), .val (.int z1), .val (.int z2), .val (.int z3), .val (.int z4), .val (.int z5), .val (.ref b139), .val (.ref b149), .val (.int (0 : Int32)), .unset] rfl rfl ?_
              exact sg_d hw p0 p1 p2 p3 p4 p5 SC hzc SF hfm ((p0 &&& (2147483647 : Int32)) % (6 : Int32)) (0 : Int32) z1 z2 z3 z4 z5 b139 b149 [z1, z2, z3, z4, z5] [] (Own.Wk.mono X171 (by decide) (by decide)) S171 (by simp) (by rw [Own.tw_hit hc278_183]) (by simp) rfl (fun h => absurd h (by simp)) (fun h => absurd h (by simp)) (fun h => absurd h (by simp)) (fun h => absurd h (by simp)) (fun h => absurd h (by simp))
            · refine Own.s_icmpT X171 at_278 (feq hc278_183).2 (by decide) (pc' := 284) (by decide) ?_
              exact sg_d hw p0 p1 p2 p3 p4 p5 SC hzc SF hfm ((p0 &&& (2147483647 : Int32)) % (6 : Int32)) (1 : Int32) z1 z2 z3 z4 z5 b139 b149 [z1, z2, z3, z4, z5] [z1] (Own.Wk.mono X171 (by decide) (by decide)) S171 (by simp) (by rw [Own.tw_miss hc278_183, Own.tw_hit hc263_182]) (by simp) rfl (fun _ => rfl) (fun h => absurd h (by simp)) (fun h => absurd h (by simp)) (fun h => absurd h (by simp)) (fun h => absurd h (by simp))
          · refine Own.s_icmpT X171 at_263 (feq hc263_182).2 (by decide) (pc' := 269) (by decide) ?_
            refine Own.s_iload X171 at_269 rfl rfl ?_
            refine Own.s_ifF X171 at_271 ((if0 _ _).trans (tlt (show (0 : Int32) < ((p0 &&& (2147483647 : Int32)) % (6 : Int32)) by rw [hn5] <;> decide)).2.2.2) rfl ?_
            refine Own.s_iload X171 at_274 rfl rfl ?_
            refine Own.s_bipush X171 at_276 (35 : Int32) (by decide) rfl ?_
            by_cases hc278_184 : z1 = (35 : Int32)
            · refine Own.s_icmpF X171 at_278 (teq hc278_184).2 rfl ?_
              refine Own.s_iconst X171 at_281 (0 : Int32) (by decide) rfl ?_
              refine Own.s_istore X171 at_282 #[.val (.int p0), .val (.int p1), .val (.int p2), .val (.int p3), .val (.int p4), .val (.int p5), .val (.int ((p0 &&& (2147483647 : Int32)) % (6 : Int32))), .val (.int z1), .val (.int z2), .val (.int z3), .val (.int z4), .val (.int z5), .val (.ref b139), .val (.ref b149), .val (.int (0 : Int32)), .unset] rfl rfl ?_
              exact sg_d hw p0 p1 p2 p3 p4 p5 SC hzc SF hfm ((p0 &&& (2147483647 : Int32)) % (6 : Int32)) (0 : Int32) z1 z2 z3 z4 z5 b139 b149 [z1, z2, z3, z4, z5] [] (Own.Wk.mono X171 (by decide) (by decide)) S171 (by simp) (by rw [Own.tw_hit hc278_184]) (by simp) rfl (fun h => absurd h (by simp)) (fun h => absurd h (by simp)) (fun h => absurd h (by simp)) (fun h => absurd h (by simp)) (fun h => absurd h (by simp))
            · refine Own.s_icmpT X171 at_278 (feq hc278_184).2 (by decide) (pc' := 284) (by decide) ?_
              exact sg_d hw p0 p1 p2 p3 p4 p5 SC hzc SF hfm ((p0 &&& (2147483647 : Int32)) % (6 : Int32)) (2 : Int32) z1 z2 z3 z4 z5 b139 b149 [z1, z2, z3, z4, z5] [z1, z2] (Own.Wk.mono X171 (by decide) (by decide)) S171 (by simp) (by rw [Own.tw_miss hc278_184, Own.tw_miss hc263_182, Own.tw_hit hc247_181]) (by simp) rfl (fun _ => rfl) (fun _ => rfl) (fun h => absurd h (by simp)) (fun h => absurd h (by simp)) (fun h => absurd h (by simp))
        · refine Own.s_icmpT X171 at_247 (feq hc247_181).2 (by decide) (pc' := 253) (by decide) ?_
          refine Own.s_iload X171 at_253 rfl rfl ?_
          refine Own.s_iconst X171 at_255 (1 : Int32) (by decide) rfl ?_
          refine Own.s_icmpF X171 at_256 (tlt (show (1 : Int32) < ((p0 &&& (2147483647 : Int32)) % (6 : Int32)) by rw [hn5] <;> decide)).2.2.2 rfl ?_
          refine Own.s_iload X171 at_259 rfl rfl ?_
          refine Own.s_bipush X171 at_261 (35 : Int32) (by decide) rfl ?_
          by_cases hc263_185 : z2 = (35 : Int32)
          · refine Own.s_icmpF X171 at_263 (teq hc263_185).2 rfl ?_
            refine Own.s_iconst X171 at_266 (1 : Int32) (by decide) rfl ?_
            refine Own.s_istore X171 at_267 #[.val (.int p0), .val (.int p1), .val (.int p2), .val (.int p3), .val (.int p4), .val (.int p5), .val (.int ((p0 &&& (2147483647 : Int32)) % (6 : Int32))), .val (.int z1), .val (.int z2), .val (.int z3), .val (.int z4), .val (.int z5), .val (.ref b139), .val (.ref b149), .val (.int (1 : Int32)), .unset] rfl rfl ?_
            refine Own.s_iload X171 at_269 rfl rfl ?_
            refine Own.s_ifF X171 at_271 ((if0 _ _).trans (tlt (show (0 : Int32) < ((p0 &&& (2147483647 : Int32)) % (6 : Int32)) by rw [hn5] <;> decide)).2.2.2) rfl ?_
            refine Own.s_iload X171 at_274 rfl rfl ?_
            refine Own.s_bipush X171 at_276 (35 : Int32) (by decide) rfl ?_
            by_cases hc278_186 : z1 = (35 : Int32)
            · refine Own.s_icmpF X171 at_278 (teq hc278_186).2 rfl ?_
              refine Own.s_iconst X171 at_281 (0 : Int32) (by decide) rfl ?_
              refine Own.s_istore X171 at_282 #[.val (.int p0), .val (.int p1), .val (.int p2), .val (.int p3), .val (.int p4), .val (.int p5), .val (.int ((p0 &&& (2147483647 : Int32)) % (6 : Int32))), .val (.int z1), .val (.int z2), .val (.int z3), .val (.int z4), .val (.int z5), .val (.ref b139), .val (.ref b149), .val (.int (0 : Int32)), .unset] rfl rfl ?_
              exact sg_d hw p0 p1 p2 p3 p4 p5 SC hzc SF hfm ((p0 &&& (2147483647 : Int32)) % (6 : Int32)) (0 : Int32) z1 z2 z3 z4 z5 b139 b149 [z1, z2, z3, z4, z5] [] (Own.Wk.mono X171 (by decide) (by decide)) S171 (by simp) (by rw [Own.tw_hit hc278_186]) (by simp) rfl (fun h => absurd h (by simp)) (fun h => absurd h (by simp)) (fun h => absurd h (by simp)) (fun h => absurd h (by simp)) (fun h => absurd h (by simp))
            · refine Own.s_icmpT X171 at_278 (feq hc278_186).2 (by decide) (pc' := 284) (by decide) ?_
              exact sg_d hw p0 p1 p2 p3 p4 p5 SC hzc SF hfm ((p0 &&& (2147483647 : Int32)) % (6 : Int32)) (1 : Int32) z1 z2 z3 z4 z5 b139 b149 [z1, z2, z3, z4, z5] [z1] (Own.Wk.mono X171 (by decide) (by decide)) S171 (by simp) (by rw [Own.tw_miss hc278_186, Own.tw_hit hc263_185]) (by simp) rfl (fun _ => rfl) (fun h => absurd h (by simp)) (fun h => absurd h (by simp)) (fun h => absurd h (by simp)) (fun h => absurd h (by simp))
          · refine Own.s_icmpT X171 at_263 (feq hc263_185).2 (by decide) (pc' := 269) (by decide) ?_
            refine Own.s_iload X171 at_269 rfl rfl ?_
            refine Own.s_ifF X171 at_271 ((if0 _ _).trans (tlt (show (0 : Int32) < ((p0 &&& (2147483647 : Int32)) % (6 : Int32)) by rw [hn5] <;> decide)).2.2.2) rfl ?_
            refine Own.s_iload X171 at_274 rfl rfl ?_
            refine Own.s_bipush X171 at_276 (35 : Int32) (by decide) rfl ?_
            by_cases hc278_187 : z1 = (35 : Int32)
            · refine Own.s_icmpF X171 at_278 (teq hc278_187).2 rfl ?_
              refine Own.s_iconst X171 at_281 (0 : Int32) (by decide) rfl ?_
              refine Own.s_istore X171 at_282 #[.val (.int p0), .val (.int p1), .val (.int p2), .val (.int p3), .val (.int p4), .val (.int p5), .val (.int ((p0 &&& (2147483647 : Int32)) % (6 : Int32))), .val (.int z1), .val (.int z2), .val (.int z3), .val (.int z4), .val (.int z5), .val (.ref b139), .val (.ref b149), .val (.int (0 : Int32)), .unset] rfl rfl ?_
              exact sg_d hw p0 p1 p2 p3 p4 p5 SC hzc SF hfm ((p0 &&& (2147483647 : Int32)) % (6 : Int32)) (0 : Int32) z1 z2 z3 z4 z5 b139 b149 [z1, z2, z3, z4, z5] [] (Own.Wk.mono X171 (by decide) (by decide)) S171 (by simp) (by rw [Own.tw_hit hc278_187]) (by simp) rfl (fun h => absurd h (by simp)) (fun h => absurd h (by simp)) (fun h => absurd h (by simp)) (fun h => absurd h (by simp)) (fun h => absurd h (by simp))
            · refine Own.s_icmpT X171 at_278 (feq hc278_187).2 (by decide) (pc' := 284) (by decide) ?_
              exact sg_d hw p0 p1 p2 p3 p4 p5 SC hzc SF hfm ((p0 &&& (2147483647 : Int32)) % (6 : Int32)) (4 : Int32) z1 z2 z3 z4 z5 b139 b149 [z1, z2, z3, z4, z5] [z1, z2, z3, z4] (Own.Wk.mono X171 (by decide) (by decide)) S171 (by simp) (by rw [Own.tw_miss hc278_187, Own.tw_miss hc263_185, Own.tw_miss hc247_181, Own.tw_miss hc231_173, Own.tw_hit hc215_172]) (by simp) rfl (fun _ => rfl) (fun _ => rfl) (fun _ => rfl) (fun _ => rfl) (fun h => absurd h (by simp))
    · refine Own.s_icmpT X171 at_215 (feq hc215_172).2 (by decide) (pc' := 221) (by decide) ?_
      refine Own.s_iload X171 at_221 rfl rfl ?_
      refine Own.s_iconst X171 at_223 (3 : Int32) (by decide) rfl ?_
      refine Own.s_icmpF X171 at_224 (tlt (show (3 : Int32) < ((p0 &&& (2147483647 : Int32)) % (6 : Int32)) by rw [hn5] <;> decide)).2.2.2 rfl ?_
      refine Own.s_iload X171 at_227 rfl rfl ?_
      refine Own.s_bipush X171 at_229 (35 : Int32) (by decide) rfl ?_
      by_cases hc231_188 : z4 = (35 : Int32)
      · refine Own.s_icmpF X171 at_231 (teq hc231_188).2 rfl ?_
        refine Own.s_iconst X171 at_234 (3 : Int32) (by decide) rfl ?_
        refine Own.s_istore X171 at_235 #[.val (.int p0), .val (.int p1), .val (.int p2), .val (.int p3), .val (.int p4), .val (.int p5), .val (.int ((p0 &&& (2147483647 : Int32)) % (6 : Int32))), .val (.int z1), .val (.int z2), .val (.int z3), .val (.int z4), .val (.int z5), .val (.ref b139), .val (.ref b149), .val (.int (3 : Int32)), .unset] rfl rfl ?_
        refine Own.s_iload X171 at_237 rfl rfl ?_
        refine Own.s_iconst X171 at_239 (2 : Int32) (by decide) rfl ?_
        refine Own.s_icmpF X171 at_240 (tlt (show (2 : Int32) < ((p0 &&& (2147483647 : Int32)) % (6 : Int32)) by rw [hn5] <;> decide)).2.2.2 rfl ?_
        refine Own.s_iload X171 at_243 rfl rfl ?_
        refine Own.s_bipush X171 at_245 (35 : Int32) (by decide) rfl ?_
        by_cases hc247_189 : z3 = (35 : Int32)
        · refine Own.s_icmpF X171 at_247 (teq hc247_189).2 rfl ?_
          refine Own.s_iconst X171 at_250 (2 : Int32) (by decide) rfl ?_
          refine Own.s_istore X171 at_251 #[.val (.int p0), .val (.int p1), .val (.int p2), .val (.int p3), .val (.int p4), .val (.int p5), .val (.int ((p0 &&& (2147483647 : Int32)) % (6 : Int32))), .val (.int z1), .val (.int z2), .val (.int z3), .val (.int z4), .val (.int z5), .val (.ref b139), .val (.ref b149), .val (.int (2 : Int32)), .unset] rfl rfl ?_
          refine Own.s_iload X171 at_253 rfl rfl ?_
          refine Own.s_iconst X171 at_255 (1 : Int32) (by decide) rfl ?_
          refine Own.s_icmpF X171 at_256 (tlt (show (1 : Int32) < ((p0 &&& (2147483647 : Int32)) % (6 : Int32)) by rw [hn5] <;> decide)).2.2.2 rfl ?_
          refine Own.s_iload X171 at_259 rfl rfl ?_
          refine Own.s_bipush X171 at_261 (35 : Int32) (by decide) rfl ?_
          by_cases hc263_190 : z2 = (35 : Int32)
          · refine Own.s_icmpF X171 at_263 (teq hc263_190).2 rfl ?_
            refine Own.s_iconst X171 at_266 (1 : Int32) (by decide) rfl ?_
            refine Own.s_istore X171 at_267 #[.val (.int p0), .val (.int p1), .val (.int p2), .val (.int p3), .val (.int p4), .val (.int p5), .val (.int ((p0 &&& (2147483647 : Int32)) % (6 : Int32))), .val (.int z1), .val (.int z2), .val (.int z3), .val (.int z4), .val (.int z5), .val (.ref b139), .val (.ref b149), .val (.int (1 : Int32)), .unset] rfl rfl ?_
            refine Own.s_iload X171 at_269 rfl rfl ?_
            refine Own.s_ifF X171 at_271 ((if0 _ _).trans (tlt (show (0 : Int32) < ((p0 &&& (2147483647 : Int32)) % (6 : Int32)) by rw [hn5] <;> decide)).2.2.2) rfl ?_
            refine Own.s_iload X171 at_274 rfl rfl ?_
            refine Own.s_bipush X171 at_276 (35 : Int32) (by decide) rfl ?_
            by_cases hc278_191 : z1 = (35 : Int32)
            · refine Own.s_icmpF X171 at_278 (teq hc278_191).2 rfl ?_
              refine Own.s_iconst X171 at_281 (0 : Int32) (by decide) rfl ?_
              refine Own.s_istore X171 at_282 #[.val (.int p0), .val (.int p1), .val (.int p2), .val (.int p3), .val (.int p4), .val (.int p5), .val (.int ((p0 &&& (2147483647 : Int32)) % (6 : Int32))), .val (.int z1), .val (.int z2), .val (.int z3), .val (.int z4), .val (.int z5), .val (.ref b139), .val (.ref b149), .val (.int (0 : Int32)), .unset] rfl rfl ?_
              exact sg_d hw p0 p1 p2 p3 p4 p5 SC hzc SF hfm ((p0 &&& (2147483647 : Int32)) % (6 : Int32)) (0 : Int32) z1 z2 z3 z4 z5 b139 b149 [z1, z2, z3, z4, z5] [] (Own.Wk.mono X171 (by decide) (by decide)) S171 (by simp) (by rw [Own.tw_hit hc278_191]) (by simp) rfl (fun h => absurd h (by simp)) (fun h => absurd h (by simp)) (fun h => absurd h (by simp)) (fun h => absurd h (by simp)) (fun h => absurd h (by simp))
            · refine Own.s_icmpT X171 at_278 (feq hc278_191).2 (by decide) (pc' := 284) (by decide) ?_
              exact sg_d hw p0 p1 p2 p3 p4 p5 SC hzc SF hfm ((p0 &&& (2147483647 : Int32)) % (6 : Int32)) (1 : Int32) z1 z2 z3 z4 z5 b139 b149 [z1, z2, z3, z4, z5] [z1] (Own.Wk.mono X171 (by decide) (by decide)) S171 (by simp) (by rw [Own.tw_miss hc278_191, Own.tw_hit hc263_190]) (by simp) rfl (fun _ => rfl) (fun h => absurd h (by simp)) (fun h => absurd h (by simp)) (fun h => absurd h (by simp)) (fun h => absurd h (by simp))
          · refine Own.s_icmpT X171 at_263 (feq hc263_190).2 (by decide) (pc' := 269) (by decide) ?_
            refine Own.s_iload X171 at_269 rfl rfl ?_
            refine Own.s_ifF X171 at_271 ((if0 _ _).trans (tlt (show (0 : Int32) < ((p0 &&& (2147483647 : Int32)) % (6 : Int32)) by rw [hn5] <;> decide)).2.2.2) rfl ?_
            refine Own.s_iload X171 at_274 rfl rfl ?_
            refine Own.s_bipush X171 at_276 (35 : Int32) (by decide) rfl ?_
            by_cases hc278_192 : z1 = (35 : Int32)
            · refine Own.s_icmpF X171 at_278 (teq hc278_192).2 rfl ?_
              refine Own.s_iconst X171 at_281 (0 : Int32) (by decide) rfl ?_
              refine Own.s_istore X171 at_282 #[.val (.int p0), .val (.int p1), .val (.int p2), .val (.int p3), .val (.int p4), .val (.int p5), .val (.int ((p0 &&& (2147483647 : Int32)) % (6 : Int32))), .val (.int z1), .val (.int z2), .val (.int z3), .val (.int z4), .val (.int z5), .val (.ref b139), .val (.ref b149), .val (.int (0 : Int32)), .unset] rfl rfl ?_
              exact sg_d hw p0 p1 p2 p3 p4 p5 SC hzc SF hfm ((p0 &&& (2147483647 : Int32)) % (6 : Int32)) (0 : Int32) z1 z2 z3 z4 z5 b139 b149 [z1, z2, z3, z4, z5] [] (Own.Wk.mono X171 (by decide) (by decide)) S171 (by simp) (by rw [Own.tw_hit hc278_192]) (by simp) rfl (fun h => absurd h (by simp)) (fun h => absurd h (by simp)) (fun h => absurd h (by simp)) (fun h => absurd h (by simp)) (fun h => absurd h (by simp))
            · refine Own.s_icmpT X171 at_278 (feq hc278_192).2 (by decide) (pc' := 284) (by decide) ?_
              exact sg_d hw p0 p1 p2 p3 p4 p5 SC hzc SF hfm ((p0 &&& (2147483647 : Int32)) % (6 : Int32)) (2 : Int32) z1 z2 z3 z4 z5 b139 b149 [z1, z2, z3, z4, z5] [z1, z2] (Own.Wk.mono X171 (by decide) (by decide)) S171 (by simp) (by rw [Own.tw_miss hc278_192, Own.tw_miss hc263_190, Own.tw_hit hc247_189]) (by simp) rfl (fun _ => rfl) (fun _ => rfl) (fun h => absurd h (by simp)) (fun h => absurd h (by simp)) (fun h => absurd h (by simp))
        · refine Own.s_icmpT X171 at_247 (feq hc247_189).2 (by decide) (pc' := 253) (by decide) ?_
          refine Own.s_iload X171 at_253 rfl rfl ?_
          refine Own.s_iconst X171 at_255 (1 : Int32) (by decide) rfl ?_
          refine Own.s_icmpF X171 at_256 (tlt (show (1 : Int32) < ((p0 &&& (2147483647 : Int32)) % (6 : Int32)) by rw [hn5] <;> decide)).2.2.2 rfl ?_
          refine Own.s_iload X171 at_259 rfl rfl ?_
          refine Own.s_bipush X171 at_261 (35 : Int32) (by decide) rfl ?_
          by_cases hc263_193 : z2 = (35 : Int32)
          · refine Own.s_icmpF X171 at_263 (teq hc263_193).2 rfl ?_
            refine Own.s_iconst X171 at_266 (1 : Int32) (by decide) rfl ?_
            refine Own.s_istore X171 at_267 #[.val (.int p0), .val (.int p1), .val (.int p2), .val (.int p3), .val (.int p4), .val (.int p5), .val (.int ((p0 &&& (2147483647 : Int32)) % (6 : Int32))), .val (.int z1), .val (.int z2), .val (.int z3), .val (.int z4), .val (.int z5), .val (.ref b139), .val (.ref b149), .val (.int (1 : Int32)), .unset] rfl rfl ?_
            refine Own.s_iload X171 at_269 rfl rfl ?_
            refine Own.s_ifF X171 at_271 ((if0 _ _).trans (tlt (show (0 : Int32) < ((p0 &&& (2147483647 : Int32)) % (6 : Int32)) by rw [hn5] <;> decide)).2.2.2) rfl ?_
            refine Own.s_iload X171 at_274 rfl rfl ?_
            refine Own.s_bipush X171 at_276 (35 : Int32) (by decide) rfl ?_
            by_cases hc278_194 : z1 = (35 : Int32)
            · refine Own.s_icmpF X171 at_278 (teq hc278_194).2 rfl ?_
              refine Own.s_iconst X171 at_281 (0 : Int32) (by decide) rfl ?_
              refine Own.s_istore X171 at_282 #[.val (.int p0), .val (.int p1), .val (.int p2), .val (.int p3), .val (.int p4), .val (.int p5), .val (.int ((p0 &&& (2147483647 : Int32)) % (6 : Int32))), .val (.int z1), .val (.int z2), .val (.int z3), .val (.int z4), .val (.int z5), .val (.ref b139), .val (.ref b149), .val (.int (0 : Int32)), .unset] rfl rfl ?_
              exact sg_d hw p0 p1 p2 p3 p4 p5 SC hzc SF hfm ((p0 &&& (2147483647 : Int32)) % (6 : Int32)) (0 : Int32) z1 z2 z3 z4 z5 b139 b149 [z1, z2, z3, z4, z5] [] (Own.Wk.mono X171 (by decide) (by decide)) S171 (by simp) (by rw [Own.tw_hit hc278_194]) (by simp) rfl (fun h => absurd h (by simp)) (fun h => absurd h (by simp)) (fun h => absurd h (by simp)) (fun h => absurd h (by simp)) (fun h => absurd h (by simp))
            · refine Own.s_icmpT X171 at_278 (feq hc278_194).2 (by decide) (pc' := 284) (by decide) ?_
              exact sg_d hw p0 p1 p2 p3 p4 p5 SC hzc SF hfm ((p0 &&& (2147483647 : Int32)) % (6 : Int32)) (1 : Int32) z1 z2 z3 z4 z5 b139 b149 [z1, z2, z3, z4, z5] [z1] (Own.Wk.mono X171 (by decide) (by decide)) S171 (by simp) (by rw [Own.tw_miss hc278_194, Own.tw_hit hc263_193]) (by simp) rfl (fun _ => rfl) (fun h => absurd h (by simp)) (fun h => absurd h (by simp)) (fun h => absurd h (by simp)) (fun h => absurd h (by simp))
          · refine Own.s_icmpT X171 at_263 (feq hc263_193).2 (by decide) (pc' := 269) (by decide) ?_
            refine Own.s_iload X171 at_269 rfl rfl ?_
            refine Own.s_ifF X171 at_271 ((if0 _ _).trans (tlt (show (0 : Int32) < ((p0 &&& (2147483647 : Int32)) % (6 : Int32)) by rw [hn5] <;> decide)).2.2.2) rfl ?_
            refine Own.s_iload X171 at_274 rfl rfl ?_
            refine Own.s_bipush X171 at_276 (35 : Int32) (by decide) rfl ?_
            by_cases hc278_195 : z1 = (35 : Int32)
            · refine Own.s_icmpF X171 at_278 (teq hc278_195).2 rfl ?_
              refine Own.s_iconst X171 at_281 (0 : Int32) (by decide) rfl ?_
              refine Own.s_istore X171 at_282 #[.val (.int p0), .val (.int p1), .val (.int p2), .val (.int p3), .val (.int p4), .val (.int p5), .val (.int ((p0 &&& (2147483647 : Int32)) % (6 : Int32))), .val (.int z1), .val (.int z2), .val (.int z3), .val (.int z4), .val (.int z5), .val (.ref b139), .val (.ref b149), .val (.int (0 : Int32)), .unset] rfl rfl ?_
              exact sg_d hw p0 p1 p2 p3 p4 p5 SC hzc SF hfm ((p0 &&& (2147483647 : Int32)) % (6 : Int32)) (0 : Int32) z1 z2 z3 z4 z5 b139 b149 [z1, z2, z3, z4, z5] [] (Own.Wk.mono X171 (by decide) (by decide)) S171 (by simp) (by rw [Own.tw_hit hc278_195]) (by simp) rfl (fun h => absurd h (by simp)) (fun h => absurd h (by simp)) (fun h => absurd h (by simp)) (fun h => absurd h (by simp)) (fun h => absurd h (by simp))
            · refine Own.s_icmpT X171 at_278 (feq hc278_195).2 (by decide) (pc' := 284) (by decide) ?_
              exact sg_d hw p0 p1 p2 p3 p4 p5 SC hzc SF hfm ((p0 &&& (2147483647 : Int32)) % (6 : Int32)) (3 : Int32) z1 z2 z3 z4 z5 b139 b149 [z1, z2, z3, z4, z5] [z1, z2, z3] (Own.Wk.mono X171 (by decide) (by decide)) S171 (by simp) (by rw [Own.tw_miss hc278_195, Own.tw_miss hc263_193, Own.tw_miss hc247_189, Own.tw_hit hc231_188]) (by simp) rfl (fun _ => rfl) (fun _ => rfl) (fun _ => rfl) (fun h => absurd h (by simp)) (fun h => absurd h (by simp))
      · refine Own.s_icmpT X171 at_231 (feq hc231_188).2 (by decide) (pc' := 237) (by decide) ?_
        refine Own.s_iload X171 at_237 rfl rfl ?_
        refine Own.s_iconst X171 at_239 (2 : Int32) (by decide) rfl ?_
        refine Own.s_icmpF X171 at_240 (tlt (show (2 : Int32) < ((p0 &&& (2147483647 : Int32)) % (6 : Int32)) by rw [hn5] <;> decide)).2.2.2 rfl ?_
        refine Own.s_iload X171 at_243 rfl rfl ?_
        refine Own.s_bipush X171 at_245 (35 : Int32) (by decide) rfl ?_
        by_cases hc247_196 : z3 = (35 : Int32)
        · refine Own.s_icmpF X171 at_247 (teq hc247_196).2 rfl ?_
          refine Own.s_iconst X171 at_250 (2 : Int32) (by decide) rfl ?_
          refine Own.s_istore X171 at_251 #[.val (.int p0), .val (.int p1), .val (.int p2), .val (.int p3), .val (.int p4), .val (.int p5), .val (.int ((p0 &&& (2147483647 : Int32)) % (6 : Int32))), .val (.int z1), .val (.int z2), .val (.int z3), .val (.int z4), .val (.int z5), .val (.ref b139), .val (.ref b149), .val (.int (2 : Int32)), .unset] rfl rfl ?_
          refine Own.s_iload X171 at_253 rfl rfl ?_
          refine Own.s_iconst X171 at_255 (1 : Int32) (by decide) rfl ?_
          refine Own.s_icmpF X171 at_256 (tlt (show (1 : Int32) < ((p0 &&& (2147483647 : Int32)) % (6 : Int32)) by rw [hn5] <;> decide)).2.2.2 rfl ?_
          refine Own.s_iload X171 at_259 rfl rfl ?_
          refine Own.s_bipush X171 at_261 (35 : Int32) (by decide) rfl ?_
          by_cases hc263_197 : z2 = (35 : Int32)
          · refine Own.s_icmpF X171 at_263 (teq hc263_197).2 rfl ?_
            refine Own.s_iconst X171 at_266 (1 : Int32) (by decide) rfl ?_
            refine Own.s_istore X171 at_267 #[.val (.int p0), .val (.int p1), .val (.int p2), .val (.int p3), .val (.int p4), .val (.int p5), .val (.int ((p0 &&& (2147483647 : Int32)) % (6 : Int32))), .val (.int z1), .val (.int z2), .val (.int z3), .val (.int z4), .val (.int z5), .val (.ref b139), .val (.ref b149), .val (.int (1 : Int32)), .unset] rfl rfl ?_
            refine Own.s_iload X171 at_269 rfl rfl ?_
            refine Own.s_ifF X171 at_271 ((if0 _ _).trans (tlt (show (0 : Int32) < ((p0 &&& (2147483647 : Int32)) % (6 : Int32)) by rw [hn5] <;> decide)).2.2.2) rfl ?_
            refine Own.s_iload X171 at_274 rfl rfl ?_
            refine Own.s_bipush X171 at_276 (35 : Int32) (by decide) rfl ?_
            by_cases hc278_198 : z1 = (35 : Int32)
            · refine Own.s_icmpF X171 at_278 (teq hc278_198).2 rfl ?_
              refine Own.s_iconst X171 at_281 (0 : Int32) (by decide) rfl ?_
              refine Own.s_istore X171 at_282 #[.val (.int p0), .val (.int p1), .val (.int p2), .val (.int p3), .val (.int p4), .val (.int p5), .val (.int ((p0 &&& (2147483647 : Int32)) % (6 : Int32))), .val (.int z1), .val (.int z2), .val (.int z3), .val (.int z4), .val (.int z5), .val (.ref b139), .val (.ref b149), .val (.int (0 : Int32)), .unset] rfl rfl ?_
              exact sg_d hw p0 p1 p2 p3 p4 p5 SC hzc SF hfm ((p0 &&& (2147483647 : Int32)) % (6 : Int32)) (0 : Int32) z1 z2 z3 z4 z5 b139 b149 [z1, z2, z3, z4, z5] [] (Own.Wk.mono X171 (by decide) (by decide)) S171 (by simp) (by rw [Own.tw_hit hc278_198]) (by simp) rfl (fun h => absurd h (by simp)) (fun h => absurd h (by simp)) (fun h => absurd h (by simp)) (fun h => absurd h (by simp)) (fun h => absurd h (by simp))
            · refine Own.s_icmpT X171 at_278 (feq hc278_198).2 (by decide) (pc' := 284) (by decide) ?_
              exact sg_d hw p0 p1 p2 p3 p4 p5 SC hzc SF hfm ((p0 &&& (2147483647 : Int32)) % (6 : Int32)) (1 : Int32) z1 z2 z3 z4 z5 b139 b149 [z1, z2, z3, z4, z5] [z1] (Own.Wk.mono X171 (by decide) (by decide)) S171 (by simp) (by rw [Own.tw_miss hc278_198, Own.tw_hit hc263_197]) (by simp) rfl (fun _ => rfl) (fun h => absurd h (by simp)) (fun h => absurd h (by simp)) (fun h => absurd h (by simp)) (fun h => absurd h (by simp))
          · refine Own.s_icmpT X171 at_263 (feq hc263_197).2 (by decide) (pc' := 269) (by decide) ?_
            refine Own.s_iload X171 at_269 rfl rfl ?_
            refine Own.s_ifF X171 at_271 ((if0 _ _).trans (tlt (show (0 : Int32) < ((p0 &&& (2147483647 : Int32)) % (6 : Int32)) by rw [hn5] <;> decide)).2.2.2) rfl ?_
            refine Own.s_iload X171 at_274 rfl rfl ?_
            refine Own.s_bipush X171 at_276 (35 : Int32) (by decide) rfl ?_
            by_cases hc278_199 : z1 = (35 : Int32)
            · refine Own.s_icmpF X171 at_278 (teq hc278_199).2 rfl ?_
              refine Own.s_iconst X171 at_281 (0 : Int32) (by decide) rfl ?_
              refine Own.s_istore X171 at_282 #[.val (.int p0), .val (.int p1), .val (.int p2), .val (.int p3), .val (.int p4), .val (.int p5), .val (.int ((p0 &&& (2147483647 : Int32)) % (6 : Int32))), .val (.int z1), .val (.int z2), .val (.int z3), .val (.int z4), .val (.int z5), .val (.ref b139), .val (.ref b149), .val (.int (0 : Int32)), .unset] rfl rfl ?_
              exact sg_d hw p0 p1 p2 p3 p4 p5 SC hzc SF hfm ((p0 &&& (2147483647 : Int32)) % (6 : Int32)) (0 : Int32) z1 z2 z3 z4 z5 b139 b149 [z1, z2, z3, z4, z5] [] (Own.Wk.mono X171 (by decide) (by decide)) S171 (by simp) (by rw [Own.tw_hit hc278_199]) (by simp) rfl (fun h => absurd h (by simp)) (fun h => absurd h (by simp)) (fun h => absurd h (by simp)) (fun h => absurd h (by simp)) (fun h => absurd h (by simp))
            · refine Own.s_icmpT X171 at_278 (feq hc278_199).2 (by decide) (pc' := 284) (by decide) ?_
              exact sg_d hw p0 p1 p2 p3 p4 p5 SC hzc SF hfm ((p0 &&& (2147483647 : Int32)) % (6 : Int32)) (2 : Int32) z1 z2 z3 z4 z5 b139 b149 [z1, z2, z3, z4, z5] [z1, z2] (Own.Wk.mono X171 (by decide) (by decide)) S171 (by simp) (by rw [Own.tw_miss hc278_199, Own.tw_miss hc263_197, Own.tw_hit hc247_196]) (by simp) rfl (fun _ => rfl) (fun _ => rfl) (fun h => absurd h (by simp)) (fun h => absurd h (by simp)) (fun h => absurd h (by simp))
        · refine Own.s_icmpT X171 at_247 (feq hc247_196).2 (by decide) (pc' := 253) (by decide) ?_
          refine Own.s_iload X171 at_253 rfl rfl ?_
          refine Own.s_iconst X171 at_255 (1 : Int32) (by decide) rfl ?_
          refine Own.s_icmpF X171 at_256 (tlt (show (1 : Int32) < ((p0 &&& (2147483647 : Int32)) % (6 : Int32)) by rw [hn5] <;> decide)).2.2.2 rfl ?_
          refine Own.s_iload X171 at_259 rfl rfl ?_
          refine Own.s_bipush X171 at_261 (35 : Int32) (by decide) rfl ?_
          by_cases hc263_200 : z2 = (35 : Int32)
          · refine Own.s_icmpF X171 at_263 (teq hc263_200).2 rfl ?_
            refine Own.s_iconst X171 at_266 (1 : Int32) (by decide) rfl ?_
            refine Own.s_istore X171 at_267 #[.val (.int p0), .val (.int p1), .val (.int p2), .val (.int p3), .val (.int p4), .val (.int p5), .val (.int ((p0 &&& (2147483647 : Int32)) % (6 : Int32))), .val (.int z1), .val (.int z2), .val (.int z3), .val (.int z4), .val (.int z5), .val (.ref b139), .val (.ref b149), .val (.int (1 : Int32)), .unset] rfl rfl ?_
            refine Own.s_iload X171 at_269 rfl rfl ?_
            refine Own.s_ifF X171 at_271 ((if0 _ _).trans (tlt (show (0 : Int32) < ((p0 &&& (2147483647 : Int32)) % (6 : Int32)) by rw [hn5] <;> decide)).2.2.2) rfl ?_
            refine Own.s_iload X171 at_274 rfl rfl ?_
            refine Own.s_bipush X171 at_276 (35 : Int32) (by decide) rfl ?_
            by_cases hc278_201 : z1 = (35 : Int32)
            · refine Own.s_icmpF X171 at_278 (teq hc278_201).2 rfl ?_
              refine Own.s_iconst X171 at_281 (0 : Int32) (by decide) rfl ?_
              refine Own.s_istore X171 at_282 #[.val (.int p0), .val (.int p1), .val (.int p2), .val (.int p3), .val (.int p4), .val (.int p5), .val (.int ((p0 &&& (2147483647 : Int32)) % (6 : Int32))), .val (.int z1), .val (.int z2), .val (.int z3), .val (.int z4), .val (.int z5), .val (.ref b139), .val (.ref b149), .val (.int (0 : Int32)), .unset] rfl rfl ?_
              exact sg_d hw p0 p1 p2 p3 p4 p5 SC hzc SF hfm ((p0 &&& (2147483647 : Int32)) % (6 : Int32)) (0 : Int32) z1 z2 z3 z4 z5 b139 b149 [z1, z2, z3, z4, z5] [] (Own.Wk.mono X171 (by decide) (by decide)) S171 (by simp) (by rw [Own.tw_hit hc278_201]) (by simp) rfl (fun h => absurd h (by simp)) (fun h => absurd h (by simp)) (fun h => absurd h (by simp)) (fun h => absurd h (by simp)) (fun h => absurd h (by simp))
            · refine Own.s_icmpT X171 at_278 (feq hc278_201).2 (by decide) (pc' := 284) (by decide) ?_
              exact sg_d hw p0 p1 p2 p3 p4 p5 SC hzc SF hfm ((p0 &&& (2147483647 : Int32)) % (6 : Int32)) (1 : Int32) z1 z2 z3 z4 z5 b139 b149 [z1, z2, z3, z4, z5] [z1] (Own.Wk.mono X171 (by decide) (by decide)) S171 (by simp) (by rw [Own.tw_miss hc278_201, Own.tw_hit hc263_200]) (by simp) rfl (fun _ => rfl) (fun h => absurd h (by simp)) (fun h => absurd h (by simp)) (fun h => absurd h (by simp)) (fun h => absurd h (by simp))
          · refine Own.s_icmpT X171 at_263 (feq hc263_200).2 (by decide) (pc' := 269) (by decide) ?_
            refine Own.s_iload X171 at_269 rfl rfl ?_
            refine Own.s_ifF X171 at_271 ((if0 _ _).trans (tlt (show (0 : Int32) < ((p0 &&& (2147483647 : Int32)) % (6 : Int32)) by rw [hn5] <;> decide)).2.2.2) rfl ?_
            refine Own.s_iload X171 at_274 rfl rfl ?_
            refine Own.s_bipush X171 at_276 (35 : Int32) (by decide) rfl ?_
            by_cases hc278_202 : z1 = (35 : Int32)
            · refine Own.s_icmpF X171 at_278 (teq hc278_202).2 rfl ?_
              refine Own.s_iconst X171 at_281 (0 : Int32) (by decide) rfl ?_
              refine Own.s_istore X171 at_282 #[.val (.int p0), .val (.int p1), .val (.int p2), .val (.int p3), .val (.int p4), .val (.int p5), .val (.int ((p0 &&& (2147483647 : Int32)) % (6 : Int32))), .val (.int z1), .val (.int z2), .val (.int z3), .val (.int z4), .val (.int z5), .val (.ref b139), .val (.ref b149), .val (.int (0 : Int32)), .unset] rfl rfl ?_
              exact sg_d hw p0 p1 p2 p3 p4 p5 SC hzc SF hfm ((p0 &&& (2147483647 : Int32)) % (6 : Int32)) (0 : Int32) z1 z2 z3 z4 z5 b139 b149 [z1, z2, z3, z4, z5] [] (Own.Wk.mono X171 (by decide) (by decide)) S171 (by simp) (by rw [Own.tw_hit hc278_202]) (by simp) rfl (fun h => absurd h (by simp)) (fun h => absurd h (by simp)) (fun h => absurd h (by simp)) (fun h => absurd h (by simp)) (fun h => absurd h (by simp))
            · refine Own.s_icmpT X171 at_278 (feq hc278_202).2 (by decide) (pc' := 284) (by decide) ?_
              exact sg_d hw p0 p1 p2 p3 p4 p5 SC hzc SF hfm ((p0 &&& (2147483647 : Int32)) % (6 : Int32)) ((p0 &&& (2147483647 : Int32)) % (6 : Int32)) z1 z2 z3 z4 z5 b139 b149 [z1, z2, z3, z4, z5] [z1, z2, z3, z4, z5] (Own.Wk.mono X171 (by decide) (by decide)) S171 (by simp) (by rw [Own.tw_miss hc278_202, Own.tw_miss hc263_200, Own.tw_miss hc247_196, Own.tw_miss hc231_188, Own.tw_miss hc215_172, Own.tw_nil]) (by simp) (by rw [hn5]; rfl) (fun _ => rfl) (fun _ => rfl) (fun _ => rfl) (fun _ => rfl) (fun _ => rfl)
set_option maxRecDepth 65536 in
set_option maxHeartbeats 40000000 in
theorem comes_1 {Post : Tables → Env → Array Value → State → Outcome → State → Prop} (hpost : ∀ tb e args s v u, (limb_1_1.after args s (.returned v) u = true ∧ limb_1_2.after args s (.returned v) u = true ∧ True) → ReturnedEndW s (.returned v) u (Jvm.fieldLocs frame_1_writes args s ++ Jvm.arrayLocs frame_1_arrays args s ++ Jvm.staticLocs frame_1_statics s) 24 2176 → Post tb e args s (.returned v) u) :
    ArmFor flags0 classFile x code maxLocals ret World_1 tables_1 room_1 Calls_1 rest_1 Pre_1 Post := by
  intro l hfl _ _ p e ha hc hk s m args below hf hA hF happ hP
  obtain ⟨hcalls, hrest, hpre⟩ := hP
  obtain ⟨-, -, -, hnamed, -, -, -, hat⟩ := (Spec.applies_iff hf).mp happ
  obtain ⟨hg, hn⟩ := and_e (Cond.before_iff.mp (show (Jvm.Cond.and given_1 narrow_1).before args s = true from hpre))
  obtain ⟨hcount, r0⟩ := and_e hg
  obtain ⟨q0, r1⟩ := and_e r0
  obtain ⟨q1, r2⟩ := and_e r1
  obtain ⟨q2, r3⟩ := and_e r2
  obtain ⟨q3, r4⟩ := and_e r3
  obtain ⟨q4, r5⟩ := and_e r4
  have q5 := r5
  obtain ⟨w0, w1, w2, w3, w4, w5, rfl⟩ : ∃ w0 w1 w2 w3 w4 w5 : Value, args = #[w0, w1, w2, w3, w4, w5] := by
    have hs : args.size = 6 := by simpa [Cond.value, given_1] using hcount
    obtain ⟨L⟩ := args
    match L, hs with
    | [w0, w1, w2, w3, w4, w5], _ => exact ⟨w0, w1, w2, w3, w4, w5, rfl⟩
  have hw := fun d (hd : d ∈ tables_1) => atoms_spec (ws := Jvm.Cond.code x code maxLocals ret :: tables_1) hat d (List.mem_cons_of_mem _ hd)
  obtain ⟨hsets, hown0⟩ := atoms_of _ (rest_1_c_eq ▸ (show rest_1_c.before _ s = true from hrest))
  obtain ⟨i0, e0⟩ := is_v q0
  obtain rfl : w0 = (.int i0) := Option.some.inj e0
  obtain ⟨i1, e1⟩ := is_v q1
  obtain rfl : w1 = (.int i1) := Option.some.inj e1
  obtain ⟨i2, e2⟩ := is_v q2
  obtain rfl : w2 = (.int i2) := Option.some.inj e2
  obtain ⟨i3, e3⟩ := is_v q3
  obtain rfl : w3 = (.int i3) := Option.some.inj e3
  obtain ⟨i4, e4⟩ := is_v q4
  obtain rfl : w4 = (.int i4) := Option.some.inj e4
  obtain ⟨i5, e5⟩ := is_v q5
  obtain rfl : w5 = (.int i5) := Option.some.inj e5
  have nC := not_v (Cond.before_iff.mp (hsets _ (List.mem_of_getElem? (i := 2) rfl)))
  obtain ⟨zc, eC⟩ := is_v (Cond.before_iff.mp (hsets _ (List.mem_of_getElem? (i := 1) rfl)))
  have SC : Sta s s.heap "java/lang/String" "COMPACT_STRINGS" "Z" (.int zc) := Sta.start eC (Or.inl (hsets _ (List.mem_of_getElem? (i := 0) rfl)))
  have hzc : ¬ (zc = (0 : Int32)) := gotF (Cond.eq_ints eC (Term.int_eval (0))) nC
  obtain ⟨fm, eF, hfm⟩ := isR_v (Cond.before_iff.mp (hsets _ (List.mem_of_getElem? (i := 8) rfl)))
  have SF : Sta s s.heap "jdk/internal/util/Preconditions" "SIOOBE_FORMATTER" "Ljava/util/function/BiFunction;" fm := Sta.start eF (Or.inl (hsets _ (List.mem_of_getElem? (i := 7) rfl)))
  have hCH : CHv s EL s.vm s.heap := CHv.start (ewEL hw) (fun p hp => hcalls.1 p hp) (a0 := _) (hsets _ (List.mem_of_getElem? (i := 2) rfl)) (tw20 hw) (tw7 hw)
  obtain ⟨n, o, g1, g2, g3, v, rfl, L, ⟨N, -, rfl⟩, -, hRW, hFE⟩ := rm_law hw i0 i1 i2 i3 i4 i5 SC hzc SF hfm s.heap (Own.Ext.rfl' _) tables_1 p e ha hc hk s m _ below hf ((Spec.applies_iff_loose hf).mp happ).1 ⟨rfl, State.Warmed39.refl s, rfl, fun _ => ⟨hCH, fun _ q => nomatch q⟩⟩ trivial
  have hq := hRW
  refine ⟨n, _, g1, g2, g3, hpost _ _ _ _ _ _ ⟨Cond.after_iff.mpr rfl, Cond.after_iff.mpr (eq_i res_at (Term.int_eval (1)) rfl), trivial⟩ ⟨hq.1, hq.2.1, hq.2.2.1, (hq.2.2.2.sift fun y hy => Or.inr (N y hy)).mono (by decide) (by decide)⟩⟩
theorem main_1_1 : Claimed_1_1 := comes_1 fun _ _ _ _ _ _ h hF => ⟨h.1, hF⟩
theorem main_1_2 : Claimed_1_2 := comes_1 fun _ _ _ _ _ _ h hF => ⟨h.2.1, hF⟩
end Jvm.Pilot.@@N@@
namespace Jvm.Pilot.@@N@@
open Jvm Jvm.ClassFile Sem Op Lib Jvm.Free Jvm.Stand Jvm.Pilot.@@N@@.Jvm.D
/-! MADE BY PROGRAM (witnessworld.py) out of the Statement's table words and the real class files: 23 classes; the members and pool entries that the words name. The judged class is class 1, her method 2. -/
namespace start1
open Jvm.ClassFile
def u (s : String) : CpInfo := .utf8 (stringToUtf16 s)
/-- a pool by its gaps: so many unusable entries, then the entry; so many at the end -/
def gap : Nat → List CpInfo → List CpInfo
  | 0, r => r
  | n + 1, r => .unusable :: gap n r
def poolList (es : List (Nat × CpInfo)) (last : Nat) : List CpInfo := es.foldr (fun e r => gap e.1 (e.2 :: r)) (gap last [])
def pool (es : List (Nat × CpInfo)) (last : Nat) : Array CpInfo := ⟨poolList es last⟩
def fileOf (pool : Array CpInfo) (this : Nat) (attrs : Array Attribute := #[]) (ms : Array MethodInfo := #[]) (fl : Nat := 33) (sup : Nat := 0) (ifs : Array Nat := #[]) (fds : Array FieldInfo := #[]) : ClassFile where
  minorVersion := 0
  majorVersion := 65
  constantPool := pool
  accessFlags := fl
  thisClass := this
  superClass := sup
  interfaces := ifs
  fields := fds
  methods := ms
  attributes := attrs
def plain (name : String) (sup : Option ClassId) : Class where
  name := name
  kind := .ordinary
  loader := none
  accessFlags := 33
  super := sup
  interfaces := #[]
  cf := none
  fields := #[]
  methods := #[]
  instanceTypes := #[]
  staticTypes := #[]
  resolved := #[]
  callSites := []
  init := .initialized
  statics := none
  mirror := none

def pool0 : Array CpInfo := pool [(5, u "<init>"), (0, u "()V"), (1, .class_ 10), (1, u "java/lang/Object")] 113

def k0c0 : Code := { maxStack := 0, maxLocals := 1, code := object_method_1_code, exceptionTable := #[], attributes := #[] }
def k0m0 : Method := { name := "<init>", desc := "()V", sig := { parameters := [], returnType := none }, accessFlags := 1, code := some k0c0 }
/-- java/lang/Object -/
def k0 : Class := { plain "java/lang/Object" none with
  accessFlags := 33
  interfaces := #[]
  cf := some (fileOf pool0 8 #[] #[{ accessFlags := 1, nameIndex := 5, descriptorIndex := 6, attributes := #[] }] 33 0 #[] #[])
  fields := #[]
  methods := #[k0m0]
  instanceTypes := #[]
  staticTypes := #[]
  resolved := Array.replicate 124 none
  statics := none }

def pool1 : Array CpInfo := pool [(2, .class_ 4), (1, u "java/lang/Object"), (0, u "<init>"), (0, u "()V"), (0, .integer 2147483647), (0, .methodref 9 10), (0, .class_ 11), (0, .nameAndType 12 13), (0, u "com/example/fedweave/fedweave/RedirectBindingWithoutFragmentPinLaw"), (0, u "ch"), (0, u "(I)C"), (0, .class_ 15), (0, u "java/lang/String"), (0, .methodref 14 17), (0, .nameAndType 5 18), (0, u "([C)V"), (0, .methodref 20 21), (0, .class_ 22), (0, .nameAndType 23 24), (0, u "com/example/fedweave/fedweave/RedirectBinding"), (0, u "withoutFragment"), (0, u "(Ljava/lang/String;)Ljava/lang/String;"), (0, .methodref 14 26), (0, .nameAndType 27 28), (0, u "length"), (0, u "()I"), (0, .methodref 14 30), (0, .nameAndType 31 13), (0, u "charAt"), (3, u "law"), (0, u "(IIIIII)Z")] 4

def k1m0 : Method := { name := "<init>", desc := "()V", sig := { parameters := [], returnType := none }, accessFlags := 2, code := none }
def k1c1 : Code := { maxStack := 2, maxLocals := 1, code := method_2_code, exceptionTable := #[], attributes := #[] }
def k1m1 : Method := { name := "ch", desc := "(I)C", sig := { parameters := [.int], returnType := some .char }, accessFlags := 10, code := some k1c1 }
def k1c2 : Code := { maxStack := 4, maxLocals := 16, code := code, exceptionTable := #[], attributes := #[] }
def k1m2 : Method := { name := "law", desc := "(IIIIII)Z", sig := { parameters := [.int, .int, .int, .int, .int, .int], returnType := some .boolean }, accessFlags := 9, code := some k1c2 }
/-- com/example/fedweave/fedweave/RedirectBindingWithoutFragmentPinLaw -/
def k1 : Class := { plain "com/example/fedweave/fedweave/RedirectBindingWithoutFragmentPinLaw" (some 0) with
  accessFlags := 49
  interfaces := #[]
  cf := some (fileOf pool1 9 #[] #[{ accessFlags := 2, nameIndex := 5, descriptorIndex := 6, attributes := #[] }, { accessFlags := 10, nameIndex := 12, descriptorIndex := 13, attributes := #[] }, { accessFlags := 9, nameIndex := 35, descriptorIndex := 36, attributes := #[] }] 49 2 #[] #[])
  fields := #[]
  methods := #[k1m0, k1m1, k1m2]
  instanceTypes := #[]
  staticTypes := #[]
  resolved := Array.replicate 41 none
  statics := none }

def pool2 : Array CpInfo := pool [(1, .class_ 2), (0, u "java/io/Serializable"), (0, .class_ 4), (0, u "java/lang/Object")] 2

/-- java/io/Serializable -/
def k2 : Class := { plain "java/io/Serializable" (some 0) with
  accessFlags := 1537
  interfaces := #[]
  cf := some (fileOf pool2 1 #[] #[] 1537 3 #[] #[])
  fields := #[]
  methods := #[]
  instanceTypes := #[]
  staticTypes := #[]
  resolved := Array.replicate 7 none
  statics := none }

def pool3 : Array CpInfo := pool [(1, .class_ 2), (0, u "java/lang/Comparable"), (0, .class_ 4), (0, u "java/lang/Object")] 7

/-- java/lang/Comparable -/
def k3 : Class := { plain "java/lang/Comparable" (some 0) with
  accessFlags := 1537
  interfaces := #[]
  cf := some (fileOf pool3 1 #[] #[] 1537 3 #[] #[])
  fields := #[]
  methods := #[]
  instanceTypes := #[]
  staticTypes := #[]
  resolved := Array.replicate 12 none
  statics := none }

def pool4 : Array CpInfo := pool [(2, .class_ 4), (1, u "java/lang/CharSequence"), (42, .class_ 48), (0, u "java/lang/CharSequence$1CodePointIterator"), (10, .class_ 60), (0, u "java/lang/CharSequence$1CharIterator"), (5, .class_ 67), (0, u "java/lang/Object")] 63

/-- java/lang/CharSequence -/
def k4 : Class := { plain "java/lang/CharSequence" (some 0) with
  accessFlags := 1537
  interfaces := #[]
  cf := some (fileOf pool4 2 #[.nestMembers #[47, 59]] #[] 1537 66 #[] #[])
  fields := #[]
  methods := #[]
  instanceTypes := #[]
  staticTypes := #[]
  resolved := Array.replicate 131 none
  statics := none }

def pool5 : Array CpInfo := pool [(1, .class_ 2), (0, u "java/lang/constant/Constable"), (0, .class_ 4), (0, u "java/lang/Object")] 6

/-- java/lang/constant/Constable -/
def k5 : Class := { plain "java/lang/constant/Constable" (some 0) with
  accessFlags := 1537
  interfaces := #[]
  cf := some (fileOf pool5 1 #[] #[] 1537 3 #[] #[])
  fields := #[]
  methods := #[]
  instanceTypes := #[]
  staticTypes := #[]
  resolved := Array.replicate 11 none
  statics := none }

def pool6 : Array CpInfo := pool [(1, .class_ 2), (0, u "java/lang/constant/ConstantDesc"), (0, .class_ 4), (0, u "java/lang/Object")] 32

/-- java/lang/constant/ConstantDesc -/
def k6 : Class := { plain "java/lang/constant/ConstantDesc" (some 0) with
  accessFlags := 1537
  interfaces := #[]
  cf := some (fileOf pool6 1 #[] #[] 1537 3 #[] #[])
  fields := #[]
  methods := #[]
  instanceTypes := #[]
  staticTypes := #[]
  resolved := Array.replicate 37 none
  statics := none }

def pool7 : Array CpInfo := pool [(1, .methodref 2 3), (0, .class_ 4), (0, .nameAndType 5 6), (0, u "java/lang/Object"), (0, u "<init>"), (0, u "()V"), (0, .string 8), (0, u ""), (0, .fieldref 10 11), (0, .class_ 12), (0, .nameAndType 13 14), (0, u "java/lang/String"), (0, u "value"), (0, u "[B"), (0, .fieldref 10 16), (0, .nameAndType 17 18), (0, u "coder"), (0, u "B"), (2, u "hash"), (0, u "I"), (2, u "hashIsZero"), (0, u "Z"), (0, .methodref 10 28), (0, .nameAndType 5 29), (0, u "([CIILjava/lang/Void;)V"), (8, .fieldref 10 39), (0, .nameAndType 40 26), (0, u "COMPACT_STRINGS"), (1, .class_ 44), (1, u "java/lang/StringUTF16"), (0, u "compress"), (1, .methodref 42 48), (0, .nameAndType 49 50), (0, u "coderFromArrayLen"), (0, u "([BI)B"), (56, .class_ 109), (1, u "java/lang/StringLatin1"), (32, u "()Z"), (34, .methodref 42 178), (0, .nameAndType 45 179), (0, u "([CII)[B"), (31, u "([BB)V"), (122, u "()I"), (0, .methodref 10 336), (0, .nameAndType 17 337), (0, u "()B"), (25, u "([BI)C"), (27, u "(II)V"), (35, u "(I)C"), (64, .methodref 10 493), (0, .nameAndType 494 142), (0, u "isLatin1"), (0, .methodref 107 496), (0, .nameAndType 497 363), (0, u "charAt"), (3, u "checkIndex"), (3, .methodref 10 506), (0, .nameAndType 507 334), (0, u "length"), (5, u "checkFromToIndex"), (7, .methodref 10 522), (0, .nameAndType 523 524), (0, u "checkBoundsBeginEnd"), (0, u "(III)V"), (50, .class_ 576), (0, u "java/lang/CharSequence"), (22, u "CASE_INSENSITIVE_ORDER"), (0, u "Ljava/util/Comparator;"), (32, .methodref 10 634), (0, .nameAndType 635 636), (0, u "indexOf"), (0, u "(II)I"), (0, .methodref 107 638), (0, .nameAndType 635 639), (0, u "([BIII)I"), (43, u "substring"), (0, u "(II)Ljava/lang/String;"), (0, .methodref 107 686), (0, .nameAndType 687 688), (0, u "newString"), (0, u "([BII)Ljava/lang/String;"), (76, u "(I)I"), (244, u "([C)V"), (42, .fieldref 1054 1055), (0, .class_ 1056), (0, .nameAndType 1057 1058), (0, u "jdk/internal/util/Preconditions"), (0, u "SIOOBE_FORMATTER"), (0, u "Ljava/util/function/BiFunction;"), (0, .methodref 1054 1060), (0, .nameAndType 501 1061), (0, u "(IILjava/util/function/BiFunction;)I"), (0, .methodref 1054 1063), (0, .nameAndType 513 1064), (0, u "(IIILjava/util/function/BiFunction;)I"), (36, u "serialPersistentFields"), (0, u "[Ljava/io/ObjectStreamField;"), (0, .class_ 1104), (0, u "java/lang/String$CaseInsensitiveComparator"), (1, .class_ 1107), (0, u "java/io/Serializable"), (0, .class_ 1109), (0, u "java/lang/Comparable"), (0, .class_ 1111), (0, u "java/lang/constant/Constable"), (0, .class_ 1113), (0, u "java/lang/constant/ConstantDesc"), (2, u "serialVersionUID"), (0, u "J"), (3, u "REPL"), (0, u "C"), (2, u "LATIN1"), (1, u "UTF16")] 323

def k7m0 : Method := { name := "<init>", desc := "()V", sig := { parameters := [], returnType := none }, accessFlags := 1, code := none }
def k7c1 : Code := { maxStack := 5, maxLocals := 2, code := jdk_42_method_3_code, exceptionTable := #[], attributes := #[] }
def k7m1 : Method := { name := "<init>", desc := "([C)V", sig := { parameters := [(.array .char)], returnType := none }, accessFlags := 1, code := some k7c1 }
def k7c2 : Code := { maxStack := 2, maxLocals := 1, code := jdk_42_method_54_code, exceptionTable := #[], attributes := #[] }
def k7m2 : Method := { name := "length", desc := "()I", sig := { parameters := [], returnType := some .int }, accessFlags := 1, code := some k7c2 }
def k7c3 : Code := { maxStack := 2, maxLocals := 2, code := jdk_42_method_56_code, exceptionTable := #[], attributes := #[] }
def k7m3 : Method := { name := "charAt", desc := "(I)C", sig := { parameters := [.int], returnType := some .char }, accessFlags := 1, code := some k7c3 }
def k7c4 : Code := { maxStack := 3, maxLocals := 2, code := jdk_42_method_79_code, exceptionTable := #[], attributes := #[] }
def k7m4 : Method := { name := "indexOf", desc := "(I)I", sig := { parameters := [.int], returnType := some .int }, accessFlags := 1, code := some k7c4 }
def k7c5 : Code := { maxStack := 4, maxLocals := 3, code := jdk_42_method_80_code, exceptionTable := #[], attributes := #[] }
def k7m5 : Method := { name := "indexOf", desc := "(II)I", sig := { parameters := [.int, .int], returnType := some .int }, accessFlags := 1, code := some k7c5 }
def k7c6 : Code := { maxStack := 3, maxLocals := 5, code := jdk_42_method_92_code, exceptionTable := #[], attributes := #[] }
def k7m6 : Method := { name := "substring", desc := "(II)Ljava/lang/String;", sig := { parameters := [.int, .int], returnType := some (.object "java/lang/String") }, accessFlags := 1, code := some k7c6 }
def k7c7 : Code := { maxStack := 4, maxLocals := 6, code := jdk_42_method_149_code, exceptionTable := #[], attributes := #[] }
def k7m7 : Method := { name := "<init>", desc := "([CIILjava/lang/Void;)V", sig := { parameters := [(.array .char), .int, .int, (.object "java/lang/Void")], returnType := none }, accessFlags := 2, code := some k7c7 }
def k7c8 : Code := { maxStack := 2, maxLocals := 3, code := jdk_42_method_151_code, exceptionTable := #[], attributes := #[] }
def k7m8 : Method := { name := "<init>", desc := "([BB)V", sig := { parameters := [(.array .byte), .byte], returnType := none }, accessFlags := 0, code := some k7c8 }
def k7c9 : Code := { maxStack := 1, maxLocals := 1, code := jdk_42_method_152_code, exceptionTable := #[], attributes := #[] }
def k7m9 : Method := { name := "coder", desc := "()B", sig := { parameters := [], returnType := some .byte }, accessFlags := 0, code := some k7c9 }
def k7c10 : Code := { maxStack := 1, maxLocals := 1, code := jdk_42_method_154_code, exceptionTable := #[], attributes := #[] }
def k7m10 : Method := { name := "isLatin1", desc := "()Z", sig := { parameters := [], returnType := some .boolean }, accessFlags := 0, code := some k7c10 }
def k7c11 : Code := { maxStack := 3, maxLocals := 2, code := jdk_42_method_155_code, exceptionTable := #[], attributes := #[] }
def k7m11 : Method := { name := "checkIndex", desc := "(II)V", sig := { parameters := [.int, .int], returnType := none }, accessFlags := 8, code := some k7c11 }
def k7c12 : Code := { maxStack := 4, maxLocals := 3, code := jdk_42_method_158_code, exceptionTable := #[], attributes := #[] }
def k7m12 : Method := { name := "checkBoundsBeginEnd", desc := "(III)V", sig := { parameters := [.int, .int, .int], returnType := none }, accessFlags := 8, code := some k7c12 }
/-- java/lang/String -/
def k7 : Class := { plain "java/lang/String" (some 0) with
  accessFlags := 49
  interfaces := #[2, 3, 4, 5, 6]
  cf := some (fileOf pool7 10 #[.nestMembers #[1103]] #[{ accessFlags := 1, nameIndex := 5, descriptorIndex := 6, attributes := #[] }, { accessFlags := 1, nameIndex := 5, descriptorIndex := 1010, attributes := #[] }, { accessFlags := 1, nameIndex := 507, descriptorIndex := 334, attributes := #[] }, { accessFlags := 1, nameIndex := 497, descriptorIndex := 427, attributes := #[] }, { accessFlags := 1, nameIndex := 635, descriptorIndex := 765, attributes := #[] }, { accessFlags := 1, nameIndex := 635, descriptorIndex := 636, attributes := #[] }, { accessFlags := 1, nameIndex := 683, descriptorIndex := 684, attributes := #[] }, { accessFlags := 2, nameIndex := 5, descriptorIndex := 29, attributes := #[] }, { accessFlags := 0, nameIndex := 5, descriptorIndex := 211, attributes := #[] }, { accessFlags := 0, nameIndex := 17, descriptorIndex := 337, attributes := #[] }, { accessFlags := 0, nameIndex := 494, descriptorIndex := 142, attributes := #[] }, { accessFlags := 8, nameIndex := 501, descriptorIndex := 391, attributes := #[] }, { accessFlags := 8, nameIndex := 523, descriptorIndex := 524, attributes := #[] }] 49 2 #[1106, 1108, 575, 1110, 1112] #[{ accessFlags := 18, nameIndex := 13, descriptorIndex := 14, attributes := #[] }, { accessFlags := 18, nameIndex := 17, descriptorIndex := 18, attributes := #[] }, { accessFlags := 2, nameIndex := 21, descriptorIndex := 22, attributes := #[] }, { accessFlags := 2, nameIndex := 25, descriptorIndex := 26, attributes := #[] }, { accessFlags := 26, nameIndex := 1116, descriptorIndex := 1117, attributes := #[] }, { accessFlags := 24, nameIndex := 40, descriptorIndex := 26, attributes := #[] }, { accessFlags := 26, nameIndex := 1101, descriptorIndex := 1102, attributes := #[] }, { accessFlags := 26, nameIndex := 1121, descriptorIndex := 1122, attributes := #[] }, { accessFlags := 25, nameIndex := 599, descriptorIndex := 600, attributes := #[] }, { accessFlags := 24, nameIndex := 1125, descriptorIndex := 18, attributes := #[] }, { accessFlags := 24, nameIndex := 1127, descriptorIndex := 18, attributes := #[] }])
  fields := #[{ name := "value", type := (.array .byte), accessFlags := 18, slot := 0, constantValue := 0 }, { name := "coder", type := .byte, accessFlags := 18, slot := 1, constantValue := 0 }, { name := "hash", type := .int, accessFlags := 2, slot := 2, constantValue := 0 }, { name := "hashIsZero", type := .boolean, accessFlags := 2, slot := 3, constantValue := 0 }, { name := "serialVersionUID", type := .long, accessFlags := 26, slot := 0, constantValue := 0 }, { name := "COMPACT_STRINGS", type := .boolean, accessFlags := 24, slot := 1, constantValue := 0 }, { name := "serialPersistentFields", type := (.array (.object "java/io/ObjectStreamField")), accessFlags := 26, slot := 2, constantValue := 0 }, { name := "REPL", type := .char, accessFlags := 26, slot := 3, constantValue := 0 }, { name := "CASE_INSENSITIVE_ORDER", type := (.object "java/util/Comparator"), accessFlags := 25, slot := 4, constantValue := 0 }, { name := "LATIN1", type := .byte, accessFlags := 24, slot := 5, constantValue := 0 }, { name := "UTF16", type := .byte, accessFlags := 24, slot := 6, constantValue := 0 }]
  methods := #[k7m0, k7m1, k7m2, k7m3, k7m4, k7m5, k7m6, k7m7, k7m8, k7m9, k7m10, k7m11, k7m12]
  instanceTypes := #[(.array .byte), .byte, .int, .boolean]
  staticTypes := #[.long, .boolean, (.array (.object "java/io/ObjectStreamField")), .char, (.object "java/util/Comparator"), .byte, .byte]
  resolved := Array.replicate 1451 none
  statics := some 0 }

def pool8 : Array CpInfo := pool [(4, .class_ 6), (1, u "java/lang/Object"), (0, u "<init>"), (0, u "()V"), (3, .class_ 13), (0, u "com/example/fedweave/fedweave/RedirectBinding"), (30, u "(Ljava/lang/String;)Ljava/lang/String;"), (17, .class_ 64), (1, u "java/lang/String"), (8, .methodref 62 74), (0, .nameAndType 75 76), (0, u "indexOf"), (0, u "(I)I"), (0, .methodref 62 78), (0, .nameAndType 79 80), (0, u "substring"), (0, u "(II)Ljava/lang/String;"), (23, u "withoutFragment"), (30, u "PARAMETERS"), (0, u "Ljava/util/Set;"), (67, .class_ 205), (0, u "com/example/fedweave/fedweave/RedirectBinding$Received"), (87, u "SIGNATURE_ALGORITHMS"), (0, u "Ljava/util/Map;"), (49, u "MAX_RELAY_STATE_BYTES"), (0, u "I"), (2, u "SIGNATURE_ALGORITHM"), (0, u "Ljava/lang/String;"), (0, u "MAX_MESSAGE_BYTES"), (1, u "SAML_REQUEST"), (0, u "RELAY_STATE"), (0, u "SIG_ALG"), (0, u "SIGNATURE")] 52

def k8m0 : Method := { name := "<init>", desc := "()V", sig := { parameters := [], returnType := none }, accessFlags := 2, code := none }
def k8c1 : Code := { maxStack := 3, maxLocals := 2, code := prog_80_method_4_code, exceptionTable := #[], attributes := #[] }
def k8m1 : Method := { name := "withoutFragment", desc := "(Ljava/lang/String;)Ljava/lang/String;", sig := { parameters := [(.object "java/lang/String")], returnType := some (.object "java/lang/String") }, accessFlags := 8, code := some k8c1 }
/-- com/example/fedweave/fedweave/RedirectBinding -/
def k8 : Class := { plain "com/example/fedweave/fedweave/RedirectBinding" (some 0) with
  accessFlags := 48
  interfaces := #[]
  cf := some (fileOf pool8 12 #[.nestMembers #[204]] #[{ accessFlags := 2, nameIndex := 7, descriptorIndex := 8, attributes := #[] }, { accessFlags := 8, nameIndex := 104, descriptorIndex := 44, attributes := #[] }] 48 4 #[] #[{ accessFlags := 24, nameIndex := 344, descriptorIndex := 345, attributes := #[] }, { accessFlags := 24, nameIndex := 348, descriptorIndex := 349, attributes := #[] }, { accessFlags := 24, nameIndex := 350, descriptorIndex := 345, attributes := #[] }, { accessFlags := 26, nameIndex := 293, descriptorIndex := 294, attributes := #[] }, { accessFlags := 26, nameIndex := 352, descriptorIndex := 349, attributes := #[] }, { accessFlags := 26, nameIndex := 353, descriptorIndex := 349, attributes := #[] }, { accessFlags := 26, nameIndex := 354, descriptorIndex := 349, attributes := #[] }, { accessFlags := 26, nameIndex := 355, descriptorIndex := 349, attributes := #[] }, { accessFlags := 26, nameIndex := 135, descriptorIndex := 136, attributes := #[] }])
  fields := #[{ name := "MAX_RELAY_STATE_BYTES", type := .int, accessFlags := 24, slot := 0, constantValue := 0 }, { name := "SIGNATURE_ALGORITHM", type := (.object "java/lang/String"), accessFlags := 24, slot := 1, constantValue := 0 }, { name := "MAX_MESSAGE_BYTES", type := .int, accessFlags := 24, slot := 2, constantValue := 0 }, { name := "SIGNATURE_ALGORITHMS", type := (.object "java/util/Map"), accessFlags := 26, slot := 3, constantValue := 0 }, { name := "SAML_REQUEST", type := (.object "java/lang/String"), accessFlags := 26, slot := 4, constantValue := 0 }, { name := "RELAY_STATE", type := (.object "java/lang/String"), accessFlags := 26, slot := 5, constantValue := 0 }, { name := "SIG_ALG", type := (.object "java/lang/String"), accessFlags := 26, slot := 6, constantValue := 0 }, { name := "SIGNATURE", type := (.object "java/lang/String"), accessFlags := 26, slot := 7, constantValue := 0 }, { name := "PARAMETERS", type := (.object "java/util/Set"), accessFlags := 26, slot := 8, constantValue := 0 }]
  methods := #[k8m0, k8m1]
  instanceTypes := #[]
  staticTypes := #[.int, (.object "java/lang/String"), .int, (.object "java/util/Map"), (.object "java/lang/String"), (.object "java/lang/String"), (.object "java/lang/String"), (.object "java/lang/String"), (.object "java/util/Set")]
  resolved := Array.replicate 408 none
  statics := none }

def pool9 : Array CpInfo := pool [(1, .class_ 2), (0, u "java/lang/String"), (1, .class_ 6), (1, u "java/lang/Object"), (0, u "<init>"), (0, u "()V"), (0, .methodref 1 10), (0, .nameAndType 11 12), (0, u "checkIndex"), (0, u "(II)V"), (1, .class_ 16), (1, u "java/lang/StringLatin1"), (21, .methodref 39 40), (0, .class_ 41), (0, .nameAndType 42 43), (0, u "java/lang/Math"), (0, u "min"), (0, u "(II)I"), (9, u "([BI)C"), (34, .methodref 14 89), (0, .nameAndType 90 91), (0, u "canEncode"), (0, u "(I)Z"), (0, .methodref 39 93), (0, .nameAndType 94 43), (0, u "max"), (0, .methodref 14 96), (0, .nameAndType 97 98), (0, u "indexOfChar"), (0, u "([BIII)I"), (2, u "indexOf"), (10, .methodref 1 113), (0, .nameAndType 7 114), (0, u "([BB)V"), (6, u "$assertionsDisabled"), (0, u "Z"), (8, .class_ 133), (1, u "java/util/Arrays"), (17, .string 152), (0, u ""), (43, u "newString"), (0, u "([BII)Ljava/lang/String;"), (23, .class_ 223), (1, u "java/lang/StringLatin1$LinesSpliterator"), (8, .methodref 131 233), (0, .nameAndType 234 235), (0, u "copyOfRange"), (0, u "([BII)[B"), (16, u "charAt"), (137, .class_ 391), (0, u "java/lang/StringLatin1$CharsSpliterator")] 3

def k9m0 : Method := { name := "<init>", desc := "()V", sig := { parameters := [], returnType := none }, accessFlags := 0, code := none }
def k9c1 : Code := { maxStack := 2, maxLocals := 2, code := jdk_43_method_2_code, exceptionTable := #[], attributes := #[] }
def k9m1 : Method := { name := "charAt", desc := "([BI)C", sig := { parameters := [(.array .byte), .int], returnType := some .char }, accessFlags := 9, code := some k9c1 }
def k9c2 : Code := { maxStack := 2, maxLocals := 1, code := jdk_43_method_4_code, exceptionTable := #[], attributes := #[] }
def k9m2 : Method := { name := "canEncode", desc := "(I)Z", sig := { parameters := [.int], returnType := some .boolean }, accessFlags := 9, code := some k9c2 }
def k9c3 : Code := { maxStack := 4, maxLocals := 4, code := jdk_43_method_22_code, exceptionTable := #[], attributes := #[] }
def k9m3 : Method := { name := "indexOf", desc := "([BIII)I", sig := { parameters := [(.array .byte), .int, .int, .int], returnType := some .int }, accessFlags := 9, code := some k9c3 }
def k9c4 : Code := { maxStack := 2, maxLocals := 6, code := jdk_43_method_23_code, exceptionTable := #[], attributes := #[] }
def k9m4 : Method := { name := "indexOfChar", desc := "([BIII)I", sig := { parameters := [(.array .byte), .int, .int, .int], returnType := some .int }, accessFlags := 10, code := some k9c4 }
def k9c5 : Code := { maxStack := 6, maxLocals := 3, code := jdk_43_method_47_code, exceptionTable := #[], attributes := #[] }
def k9m5 : Method := { name := "newString", desc := "([BII)Ljava/lang/String;", sig := { parameters := [(.array .byte), .int, .int], returnType := some (.object "java/lang/String") }, accessFlags := 9, code := some k9c5 }
/-- java/lang/StringLatin1 -/
def k9 : Class := { plain "java/lang/StringLatin1" (some 0) with
  accessFlags := 48
  interfaces := #[]
  cf := some (fileOf pool9 14 #[.nestMembers #[390, 221]] #[{ accessFlags := 0, nameIndex := 7, descriptorIndex := 8, attributes := #[] }, { accessFlags := 9, nameIndex := 252, descriptorIndex := 53, attributes := #[] }, { accessFlags := 9, nameIndex := 90, descriptorIndex := 91, attributes := #[] }, { accessFlags := 9, nameIndex := 101, descriptorIndex := 98, attributes := #[] }, { accessFlags := 10, nameIndex := 97, descriptorIndex := 98, attributes := #[] }, { accessFlags := 9, nameIndex := 196, descriptorIndex := 197, attributes := #[] }] 48 4 #[] #[{ accessFlags := 4120, nameIndex := 121, descriptorIndex := 122, attributes := #[] }])
  fields := #[{ name := "$assertionsDisabled", type := .boolean, accessFlags := 4120, slot := 0, constantValue := 0 }]
  methods := #[k9m0, k9m1, k9m2, k9m3, k9m4, k9m5]
  instanceTypes := #[]
  staticTypes := #[.boolean]
  resolved := Array.replicate 395 none
  statics := none }

def pool10 : Array CpInfo := pool [(1, .class_ 2), (0, u "java/lang/Math"), (1, .class_ 6), (1, u "java/lang/Object"), (0, u "<init>"), (0, u "()V"), (89, .class_ 100), (1, u "java/lang/Math$RandomNumberGeneratorHolder"), (71, u "negativeZeroFloatBits"), (0, u "J"), (2, u "negativeZeroDoubleBits"), (21, u "max"), (2, u "min"), (43, u "$assertionsDisabled"), (0, u "Z"), (88, u "(II)I"), (2, u "twoToTheDoubleScaleDown"), (0, u "D"), (4, u "twoToTheDoubleScaleUp"), (9, u "E"), (3, u "PI"), (2, u "TAU"), (2, u "DEGREES_TO_RADIANS"), (0, u "RADIANS_TO_DEGREES")] 94

def k10m0 : Method := { name := "<init>", desc := "()V", sig := { parameters := [], returnType := none }, accessFlags := 2, code := none }
def k10c1 : Code := { maxStack := 2, maxLocals := 2, code := jdk_29_method_65_code, exceptionTable := #[], attributes := #[] }
def k10m1 : Method := { name := "max", desc := "(II)I", sig := { parameters := [.int, .int], returnType := some .int }, accessFlags := 9, code := some k10c1 }
def k10c2 : Code := { maxStack := 2, maxLocals := 2, code := jdk_29_method_69_code, exceptionTable := #[], attributes := #[] }
def k10m2 : Method := { name := "min", desc := "(II)I", sig := { parameters := [.int, .int], returnType := some .int }, accessFlags := 9, code := some k10c2 }
/-- java/lang/Math -/
def k10 : Class := { plain "java/lang/Math" (some 0) with
  accessFlags := 49
  interfaces := #[]
  cf := some (fileOf pool10 1 #[.nestMembers #[98]] #[{ accessFlags := 2, nameIndex := 7, descriptorIndex := 8, attributes := #[] }, { accessFlags := 9, nameIndex := 198, descriptorIndex := 335, attributes := #[] }, { accessFlags := 9, nameIndex := 201, descriptorIndex := 335, attributes := #[] }] 49 4 #[] #[{ accessFlags := 25, nameIndex := 354, descriptorIndex := 339, attributes := #[] }, { accessFlags := 25, nameIndex := 358, descriptorIndex := 339, attributes := #[] }, { accessFlags := 25, nameIndex := 361, descriptorIndex := 339, attributes := #[] }, { accessFlags := 26, nameIndex := 364, descriptorIndex := 339, attributes := #[] }, { accessFlags := 26, nameIndex := 365, descriptorIndex := 339, attributes := #[] }, { accessFlags := 26, nameIndex := 172, descriptorIndex := 173, attributes := #[] }, { accessFlags := 26, nameIndex := 176, descriptorIndex := 173, attributes := #[] }, { accessFlags := 8, nameIndex := 344, descriptorIndex := 339, attributes := #[] }, { accessFlags := 8, nameIndex := 338, descriptorIndex := 339, attributes := #[] }, { accessFlags := 4120, nameIndex := 245, descriptorIndex := 246, attributes := #[] }])
  fields := #[{ name := "E", type := .double, accessFlags := 25, slot := 0, constantValue := 0 }, { name := "PI", type := .double, accessFlags := 25, slot := 1, constantValue := 0 }, { name := "TAU", type := .double, accessFlags := 25, slot := 2, constantValue := 0 }, { name := "DEGREES_TO_RADIANS", type := .double, accessFlags := 26, slot := 3, constantValue := 0 }, { name := "RADIANS_TO_DEGREES", type := .double, accessFlags := 26, slot := 4, constantValue := 0 }, { name := "negativeZeroFloatBits", type := .long, accessFlags := 26, slot := 5, constantValue := 0 }, { name := "negativeZeroDoubleBits", type := .long, accessFlags := 26, slot := 6, constantValue := 0 }, { name := "twoToTheDoubleScaleUp", type := .double, accessFlags := 8, slot := 7, constantValue := 0 }, { name := "twoToTheDoubleScaleDown", type := .double, accessFlags := 8, slot := 8, constantValue := 0 }, { name := "$assertionsDisabled", type := .boolean, accessFlags := 4120, slot := 9, constantValue := 0 }]
  methods := #[k10m0, k10m1, k10m2]
  instanceTypes := #[]
  staticTypes := #[.double, .double, .double, .double, .double, .long, .long, .double, .double, .boolean]
  resolved := Array.replicate 460 none
  statics := none }

def pool11 : Array CpInfo := pool [(6, .class_ 8), (1, u "java/lang/Object"), (0, u "<init>"), (0, u "()V"), (1, .class_ 14), (1, u "java/lang/StringUTF16"), (31, u "$assertionsDisabled"), (0, u "Z"), (13, u "HI_BYTE_SHIFT"), (0, u "I"), (2, u "LO_BYTE_SHIFT"), (49, .methodref 12 116), (0, .nameAndType 117 118), (0, u "compress"), (0, u "([CI[BII)I"), (3, u "([CII)[B"), (138, u "coderFromArrayLen"), (0, u "([BI)B"), (106, .class_ 371), (1, u "java/lang/StringUTF16$LinesSpliterator"), (58, u "MAX_LENGTH"), (196, .class_ 628), (0, u "java/lang/StringUTF16$CodePointsSpliterator"), (0, .class_ 630), (0, u "java/lang/StringUTF16$CharsSpliterator")] 4

def k11m0 : Method := { name := "<init>", desc := "()V", sig := { parameters := [], returnType := none }, accessFlags := 0, code := none }
def k11c1 : Code := { maxStack := 2, maxLocals := 2, code := jdk_52_method_15_code, exceptionTable := #[], attributes := #[] }
def k11m1 : Method := { name := "coderFromArrayLen", desc := "([BI)B", sig := { parameters := [(.array .byte), .int], returnType := some .byte }, accessFlags := 8, code := some k11c1 }
def k11c2 : Code := { maxStack := 5, maxLocals := 6, code := jdk_52_method_16_code, exceptionTable := #[], attributes := #[] }
def k11m2 : Method := { name := "compress", desc := "([CII)[B", sig := { parameters := [(.array .char), .int, .int], returnType := some (.array .byte) }, accessFlags := 9, code := some k11c2 }
def k11c3 : Code := { maxStack := 3, maxLocals := 7, code := jdk_52_method_21_code, exceptionTable := #[], attributes := #[] }
def k11m3 : Method := { name := "compress", desc := "([CI[BII)I", sig := { parameters := [(.array .char), .int, (.array .byte), .int, .int], returnType := some .int }, accessFlags := 9, code := some k11c3 }
/-- java/lang/StringUTF16 -/
def k11 : Class := { plain "java/lang/StringUTF16" (some 0) with
  accessFlags := 48
  interfaces := #[]
  cf := some (fileOf pool11 12 #[.nestMembers #[627, 629, 369]] #[{ accessFlags := 0, nameIndex := 9, descriptorIndex := 10, attributes := #[] }, { accessFlags := 8, nameIndex := 261, descriptorIndex := 262, attributes := #[] }, { accessFlags := 9, nameIndex := 117, descriptorIndex := 122, attributes := #[] }, { accessFlags := 9, nameIndex := 117, descriptorIndex := 118, attributes := #[] }] 48 6 #[] #[{ accessFlags := 26, nameIndex := 61, descriptorIndex := 62, attributes := #[] }, { accessFlags := 26, nameIndex := 65, descriptorIndex := 62, attributes := #[] }, { accessFlags := 24, nameIndex := 430, descriptorIndex := 62, attributes := #[] }, { accessFlags := 4120, nameIndex := 46, descriptorIndex := 47, attributes := #[] }])
  fields := #[{ name := "HI_BYTE_SHIFT", type := .int, accessFlags := 26, slot := 0, constantValue := 0 }, { name := "LO_BYTE_SHIFT", type := .int, accessFlags := 26, slot := 1, constantValue := 0 }, { name := "MAX_LENGTH", type := .int, accessFlags := 24, slot := 2, constantValue := 0 }, { name := "$assertionsDisabled", type := .boolean, accessFlags := 4120, slot := 3, constantValue := 0 }]
  methods := #[k11m0, k11m1, k11m2, k11m3]
  instanceTypes := #[]
  staticTypes := #[.int, .int, .int, .boolean]
  resolved := Array.replicate 635 none
  statics := none }

def pool12 : Array CpInfo := pool [(2, .class_ 4), (1, u "java/lang/Object"), (0, u "<init>"), (0, u "()V"), (17, .class_ 26), (1, u "jdk/internal/util/Preconditions"), (6, u "checkIndex"), (13, u "checkFromToIndex"), (7, .class_ 56), (0, u "jdk/internal/util/Preconditions$4"), (57, .class_ 115), (0, u "jdk/internal/util/Preconditions$1"), (7, u "SIOOBE_FORMATTER"), (0, u "Ljava/util/function/BiFunction;"), (0, .class_ 126), (0, u "jdk/internal/util/Preconditions$2"), (3, u "AIOOBE_FORMATTER"), (0, .class_ 132), (0, u "jdk/internal/util/Preconditions$3"), (3, u "IOOBE_FORMATTER"), (41, u "(IILjava/util/function/BiFunction;)I"), (4, u "(IIILjava/util/function/BiFunction;)I")] 10

def k12m0 : Method := { name := "<init>", desc := "()V", sig := { parameters := [], returnType := none }, accessFlags := 1, code := none }
def k12c1 : Code := { maxStack := 3, maxLocals := 3, code := jdk_41_method_11_code, exceptionTable := #[], attributes := #[] }
def k12m1 : Method := { name := "checkIndex", desc := "(IILjava/util/function/BiFunction;)I", sig := { parameters := [.int, .int, (.object "java/util/function/BiFunction")], returnType := some .int }, accessFlags := 9, code := some k12c1 }
def k12c2 : Code := { maxStack := 4, maxLocals := 4, code := jdk_41_method_12_code, exceptionTable := #[], attributes := #[] }
def k12m2 : Method := { name := "checkFromToIndex", desc := "(IIILjava/util/function/BiFunction;)I", sig := { parameters := [.int, .int, .int, (.object "java/util/function/BiFunction")], returnType := some .int }, accessFlags := 9, code := some k12c2 }
/-- jdk/internal/util/Preconditions -/
def k12 : Class := { plain "jdk/internal/util/Preconditions" (some 0) with
  accessFlags := 33
  interfaces := #[]
  cf := some (fileOf pool12 24 #[.nestMembers #[55, 131, 125, 114]] #[{ accessFlags := 1, nameIndex := 5, descriptorIndex := 6, attributes := #[] }, { accessFlags := 9, nameIndex := 33, descriptorIndex := 178, attributes := #[] }, { accessFlags := 9, nameIndex := 47, descriptorIndex := 183, attributes := #[] }] 33 2 #[] #[{ accessFlags := 25, nameIndex := 123, descriptorIndex := 124, attributes := #[] }, { accessFlags := 25, nameIndex := 130, descriptorIndex := 124, attributes := #[] }, { accessFlags := 25, nameIndex := 136, descriptorIndex := 124, attributes := #[] }])
  fields := #[{ name := "SIOOBE_FORMATTER", type := (.object "java/util/function/BiFunction"), accessFlags := 25, slot := 0, constantValue := 0 }, { name := "AIOOBE_FORMATTER", type := (.object "java/util/function/BiFunction"), accessFlags := 25, slot := 1, constantValue := 0 }, { name := "IOOBE_FORMATTER", type := (.object "java/util/function/BiFunction"), accessFlags := 25, slot := 2, constantValue := 0 }]
  methods := #[k12m0, k12m1, k12m2]
  instanceTypes := #[]
  staticTypes := #[(.object "java/util/function/BiFunction"), (.object "java/util/function/BiFunction"), (.object "java/util/function/BiFunction")]
  resolved := Array.replicate 194 none
  statics := some 1 }

def pool13 : Array CpInfo := pool [(2, .class_ 4), (1, u "java/lang/Object"), (0, u "<init>"), (0, u "()V"), (7, .class_ 16), (1, u "java/util/Arrays"), (57, .class_ 76), (1, u "java/util/Arrays$NaturalOrder"), (36, .class_ 115), (1, u "java/util/Arrays$LegacyMergeSort"), (1, u "Z"), (21, u "copyOfRange"), (10, .methodref 151 152), (0, .class_ 153), (0, .nameAndType 154 155), (0, u "java/lang/System"), (0, u "arraycopy"), (0, u "(Ljava/lang/Object;ILjava/lang/Object;II)V"), (148, .methodref 305 306), (0, .class_ 307), (0, .nameAndType 308 309), (0, u "java/lang/Math"), (0, u "min"), (0, u "(II)I"), (29, .methodref 14 340), (0, .nameAndType 341 342), (0, u "copyOfRangeByte"), (0, u "([BII)[B"), (0, .methodref 14 344), (0, .nameAndType 345 346), (0, u "checkLength"), (0, u "(II)V"), (28, .class_ 376), (0, u "java/util/Arrays$ArrayList"), (68, u "$assertionsDisabled"), (269, u "MIN_ARRAY_SORT_GRAN"), (0, u "I"), (2, u "INSERTIONSORT_THRESHOLD"), (255, .class_ 976), (0, u "java/util/Arrays$ArrayItr")] 52

def k13m0 : Method := { name := "<init>", desc := "()V", sig := { parameters := [], returnType := none }, accessFlags := 2, code := none }
def k13c1 : Code := { maxStack := 4, maxLocals := 2, code := jdk_65_method_131_code, exceptionTable := #[], attributes := #[] }
def k13m1 : Method := { name := "checkLength", desc := "(II)V", sig := { parameters := [.int, .int], returnType := none }, accessFlags := 10, code := some k13c1 }
def k13c2 : Code := { maxStack := 3, maxLocals := 3, code := jdk_65_method_132_code, exceptionTable := #[], attributes := #[] }
def k13m2 : Method := { name := "copyOfRange", desc := "([BII)[B", sig := { parameters := [(.array .byte), .int, .int], returnType := some (.array .byte) }, accessFlags := 9, code := some k13c2 }
def k13c3 : Code := { maxStack := 6, maxLocals := 5, code := jdk_65_method_133_code, exceptionTable := #[], attributes := #[] }
def k13m3 : Method := { name := "copyOfRangeByte", desc := "([BII)[B", sig := { parameters := [(.array .byte), .int, .int], returnType := some (.array .byte) }, accessFlags := 10, code := some k13c3 }
/-- java/util/Arrays -/
def k13 : Class := { plain "java/util/Arrays" (some 0) with
  accessFlags := 49
  interfaces := #[]
  cf := some (fileOf pool13 14 #[.nestMembers #[975, 375, 113, 74]] #[{ accessFlags := 2, nameIndex := 5, descriptorIndex := 6, attributes := #[] }, { accessFlags := 10, nameIndex := 345, descriptorIndex := 346, attributes := #[] }, { accessFlags := 9, nameIndex := 139, descriptorIndex := 342, attributes := #[] }, { accessFlags := 10, nameIndex := 341, descriptorIndex := 342, attributes := #[] }] 49 2 #[] #[{ accessFlags := 26, nameIndex := 715, descriptorIndex := 716, attributes := #[] }, { accessFlags := 26, nameIndex := 719, descriptorIndex := 716, attributes := #[] }, { accessFlags := 4120, nameIndex := 445, descriptorIndex := 117, attributes := #[] }])
  fields := #[{ name := "MIN_ARRAY_SORT_GRAN", type := .int, accessFlags := 26, slot := 0, constantValue := 0 }, { name := "INSERTIONSORT_THRESHOLD", type := .int, accessFlags := 26, slot := 1, constantValue := 0 }, { name := "$assertionsDisabled", type := .boolean, accessFlags := 4120, slot := 2, constantValue := 0 }]
  methods := #[k13m0, k13m1, k13m2, k13m3]
  instanceTypes := #[]
  staticTypes := #[.int, .int, .boolean]
  resolved := Array.replicate 1029 none
  statics := none }

def pool14 : Array CpInfo := pool [(2, .class_ 4), (1, u "java/lang/Object"), (0, u "<init>"), (0, u "()V"), (1, .class_ 10), (1, u "java/lang/System"), (0, u "allowSecurityManager"), (0, u "I"), (16, u "cons"), (0, u "Ljava/io/Console;"), (77, .class_ 110), (1, u "java/lang/System$CallersHolder"), (43, u "initialErrStream"), (0, u "Ljava/io/PrintStream;"), (19, u "security"), (0, u "Ljava/lang/SecurityManager;"), (31, .class_ 209), (0, u "java/lang/System$1"), (7, u "props"), (0, u "Ljava/util/Properties;"), (2, u "lineSeparator"), (0, u "Ljava/lang/String;"), (96, .class_ 321), (1, u "java/lang/System$LoggerFinder"), (5, .class_ 328), (0, u "java/lang/System$Logger"), (67, u "err"), (2, u "out"), (91, u "notSupportedJnuEncoding"), (15, u "in"), (17, u "initialIn"), (0, u "Ljava/io/InputStream;"), (35, u "bootLayer"), (0, u "Ljava/lang/ModuleLayer;"), (99, .class_ 664), (0, u "java/lang/System$2"), (9, u "NEVER"), (2, u "MAYBE"), (49, u "arraycopy"), (0, u "(Ljava/lang/Object;ILjava/lang/Object;II)V"), (72, .class_ 802), (0, u "java/lang/System$Logger$Level")] 31

def k14m0 : Method := { name := "<init>", desc := "()V", sig := { parameters := [], returnType := none }, accessFlags := 2, code := none }
def k14m1 : Method := { name := "arraycopy", desc := "(Ljava/lang/Object;ILjava/lang/Object;II)V", sig := { parameters := [(.object "java/lang/Object"), .int, (.object "java/lang/Object"), .int, .int], returnType := none }, accessFlags := 265, code := none }
/-- java/lang/System -/
def k14 : Class := { plain "java/lang/System" (some 0) with
  accessFlags := 49
  interfaces := #[]
  cf := some (fileOf pool14 8 #[.nestMembers #[319, 327, 801, 108, 663, 208]] #[{ accessFlags := 2, nameIndex := 5, descriptorIndex := 6, attributes := #[] }, { accessFlags := 265, nameIndex := 727, descriptorIndex := 728, attributes := #[] }] 49 2 #[] #[{ accessFlags := 25, nameIndex := 507, descriptorIndex := 526, attributes := #[] }, { accessFlags := 25, nameIndex := 399, descriptorIndex := 155, attributes := #[] }, { accessFlags := 25, nameIndex := 396, descriptorIndex := 155, attributes := #[] }, { accessFlags := 10, nameIndex := 525, descriptorIndex := 526, attributes := #[] }, { accessFlags := 26, nameIndex := 674, descriptorIndex := 12, attributes := #[] }, { accessFlags := 26, nameIndex := 677, descriptorIndex := 12, attributes := #[] }, { accessFlags := 10, nameIndex := 11, descriptorIndex := 12, attributes := #[] }, { accessFlags := 74, nameIndex := 175, descriptorIndex := 176, attributes := #[] }, { accessFlags := 10, nameIndex := 491, descriptorIndex := 222, attributes := #[] }, { accessFlags := 74, nameIndex := 29, descriptorIndex := 30, attributes := #[] }, { accessFlags := 74, nameIndex := 154, descriptorIndex := 155, attributes := #[] }, { accessFlags := 10, nameIndex := 217, descriptorIndex := 218, attributes := #[] }, { accessFlags := 10, nameIndex := 221, descriptorIndex := 222, attributes := #[] }, { accessFlags := 8, nameIndex := 562, descriptorIndex := 563, attributes := #[] }])
  fields := #[{ name := "in", type := (.object "java/io/InputStream"), accessFlags := 25, slot := 0, constantValue := 0 }, { name := "out", type := (.object "java/io/PrintStream"), accessFlags := 25, slot := 1, constantValue := 0 }, { name := "err", type := (.object "java/io/PrintStream"), accessFlags := 25, slot := 2, constantValue := 0 }, { name := "initialIn", type := (.object "java/io/InputStream"), accessFlags := 10, slot := 3, constantValue := 0 }, { name := "NEVER", type := .int, accessFlags := 26, slot := 4, constantValue := 0 }, { name := "MAYBE", type := .int, accessFlags := 26, slot := 5, constantValue := 0 }, { name := "allowSecurityManager", type := .int, accessFlags := 10, slot := 6, constantValue := 0 }, { name := "security", type := (.object "java/lang/SecurityManager"), accessFlags := 74, slot := 7, constantValue := 0 }, { name := "notSupportedJnuEncoding", type := (.object "java/lang/String"), accessFlags := 10, slot := 8, constantValue := 0 }, { name := "cons", type := (.object "java/io/Console"), accessFlags := 74, slot := 9, constantValue := 0 }, { name := "initialErrStream", type := (.object "java/io/PrintStream"), accessFlags := 74, slot := 10, constantValue := 0 }, { name := "props", type := (.object "java/util/Properties"), accessFlags := 10, slot := 11, constantValue := 0 }, { name := "lineSeparator", type := (.object "java/lang/String"), accessFlags := 10, slot := 12, constantValue := 0 }, { name := "bootLayer", type := (.object "java/lang/ModuleLayer"), accessFlags := 8, slot := 13, constantValue := 0 }]
  methods := #[k14m0, k14m1]
  instanceTypes := #[]
  staticTypes := #[(.object "java/io/InputStream"), (.object "java/io/PrintStream"), (.object "java/io/PrintStream"), (.object "java/io/InputStream"), .int, .int, .int, (.object "java/lang/SecurityManager"), (.object "java/lang/String"), (.object "java/io/Console"), (.object "java/io/PrintStream"), (.object "java/util/Properties"), (.object "java/lang/String"), (.object "java/lang/ModuleLayer")]
  resolved := Array.replicate 834 none
  statics := none }

def pool15 : Array CpInfo := pool [(9, u "<init>"), (6, .class_ 18), (1, u "java/lang/Object"), (0, u "()V"), (1, .class_ 23), (1, u "jdk/internal/util/ArraysSupport"), (0, u "LOG2_ARRAY_LONG_INDEX_SCALE"), (0, u "I"), (2, u "U"), (0, u "Ljdk/internal/misc/Unsafe;"), (8, u "BIG_ENDIAN"), (0, u "Z"), (8, u "LOG2_BYTE_BIT_SIZE"), (4, u "LOG2_ARRAY_INT_INDEX_SCALE"), (54, u "JLA"), (0, u "Ljdk/internal/access/JavaLangAccess;"), (11, u "LOG2_ARRAY_BOOLEAN_INDEX_SCALE"), (9, u "LOG2_ARRAY_BYTE_INDEX_SCALE"), (5, u "LOG2_ARRAY_CHAR_INDEX_SCALE"), (5, u "LOG2_ARRAY_SHORT_INDEX_SCALE"), (18, u "LOG2_ARRAY_FLOAT_INDEX_SCALE"), (24, u "LOG2_ARRAY_DOUBLE_INDEX_SCALE"), (89, u "T_BOOLEAN"), (2, u "T_CHAR"), (1, u "T_FLOAT"), (1, u "T_DOUBLE"), (1, u "T_BYTE"), (1, u "T_SHORT"), (1, u "T_INT"), (1, u "T_LONG"), (1, u "SOFT_MAX_ARRAY_LENGTH")] 83

def k15m0 : Method := { name := "<init>", desc := "()V", sig := { parameters := [], returnType := none }, accessFlags := 2, code := none }
/-- jdk/internal/util/ArraysSupport -/
def k15 : Class := { plain "jdk/internal/util/ArraysSupport" (some 0) with
  accessFlags := 33
  interfaces := #[]
  cf := some (fileOf pool15 21 #[] #[{ accessFlags := 2, nameIndex := 9, descriptorIndex := 19, attributes := #[] }] 33 16 #[] #[{ accessFlags := 24, nameIndex := 28, descriptorIndex := 29, attributes := #[] }, { accessFlags := 26, nameIndex := 38, descriptorIndex := 39, attributes := #[] }, { accessFlags := 25, nameIndex := 121, descriptorIndex := 25, attributes := #[] }, { accessFlags := 25, nameIndex := 131, descriptorIndex := 25, attributes := #[] }, { accessFlags := 25, nameIndex := 137, descriptorIndex := 25, attributes := #[] }, { accessFlags := 25, nameIndex := 143, descriptorIndex := 25, attributes := #[] }, { accessFlags := 25, nameIndex := 53, descriptorIndex := 25, attributes := #[] }, { accessFlags := 25, nameIndex := 24, descriptorIndex := 25, attributes := #[] }, { accessFlags := 25, nameIndex := 162, descriptorIndex := 25, attributes := #[] }, { accessFlags := 25, nameIndex := 187, descriptorIndex := 25, attributes := #[] }, { accessFlags := 26, nameIndex := 48, descriptorIndex := 25, attributes := #[] }, { accessFlags := 25, nameIndex := 277, descriptorIndex := 25, attributes := #[] }, { accessFlags := 25, nameIndex := 280, descriptorIndex := 25, attributes := #[] }, { accessFlags := 25, nameIndex := 282, descriptorIndex := 25, attributes := #[] }, { accessFlags := 25, nameIndex := 284, descriptorIndex := 25, attributes := #[] }, { accessFlags := 25, nameIndex := 286, descriptorIndex := 25, attributes := #[] }, { accessFlags := 25, nameIndex := 288, descriptorIndex := 25, attributes := #[] }, { accessFlags := 25, nameIndex := 290, descriptorIndex := 25, attributes := #[] }, { accessFlags := 25, nameIndex := 292, descriptorIndex := 25, attributes := #[] }, { accessFlags := 26, nameIndex := 108, descriptorIndex := 109, attributes := #[] }, { accessFlags := 25, nameIndex := 294, descriptorIndex := 25, attributes := #[] }])
  fields := #[{ name := "U", type := (.object "jdk/internal/misc/Unsafe"), accessFlags := 24, slot := 0, constantValue := 0 }, { name := "BIG_ENDIAN", type := .boolean, accessFlags := 26, slot := 1, constantValue := 0 }, { name := "LOG2_ARRAY_BOOLEAN_INDEX_SCALE", type := .int, accessFlags := 25, slot := 2, constantValue := 0 }, { name := "LOG2_ARRAY_BYTE_INDEX_SCALE", type := .int, accessFlags := 25, slot := 3, constantValue := 0 }, { name := "LOG2_ARRAY_CHAR_INDEX_SCALE", type := .int, accessFlags := 25, slot := 4, constantValue := 0 }, { name := "LOG2_ARRAY_SHORT_INDEX_SCALE", type := .int, accessFlags := 25, slot := 5, constantValue := 0 }, { name := "LOG2_ARRAY_INT_INDEX_SCALE", type := .int, accessFlags := 25, slot := 6, constantValue := 0 }, { name := "LOG2_ARRAY_LONG_INDEX_SCALE", type := .int, accessFlags := 25, slot := 7, constantValue := 0 }, { name := "LOG2_ARRAY_FLOAT_INDEX_SCALE", type := .int, accessFlags := 25, slot := 8, constantValue := 0 }, { name := "LOG2_ARRAY_DOUBLE_INDEX_SCALE", type := .int, accessFlags := 25, slot := 9, constantValue := 0 }, { name := "LOG2_BYTE_BIT_SIZE", type := .int, accessFlags := 26, slot := 10, constantValue := 0 }, { name := "T_BOOLEAN", type := .int, accessFlags := 25, slot := 11, constantValue := 0 }, { name := "T_CHAR", type := .int, accessFlags := 25, slot := 12, constantValue := 0 }, { name := "T_FLOAT", type := .int, accessFlags := 25, slot := 13, constantValue := 0 }, { name := "T_DOUBLE", type := .int, accessFlags := 25, slot := 14, constantValue := 0 }, { name := "T_BYTE", type := .int, accessFlags := 25, slot := 15, constantValue := 0 }, { name := "T_SHORT", type := .int, accessFlags := 25, slot := 16, constantValue := 0 }, { name := "T_INT", type := .int, accessFlags := 25, slot := 17, constantValue := 0 }, { name := "T_LONG", type := .int, accessFlags := 25, slot := 18, constantValue := 0 }, { name := "JLA", type := (.object "jdk/internal/access/JavaLangAccess"), accessFlags := 26, slot := 19, constantValue := 0 }, { name := "SOFT_MAX_ARRAY_LENGTH", type := .int, accessFlags := 25, slot := 20, constantValue := 0 }]
  methods := #[k15m0]
  instanceTypes := #[]
  staticTypes := #[(.object "jdk/internal/misc/Unsafe"), .boolean, .int, .int, .int, .int, .int, .int, .int, .int, .int, .int, .int, .int, .int, .int, .int, .int, .int, (.object "jdk/internal/access/JavaLangAccess"), .int]
  resolved := Array.replicate 378 none
  statics := none }

def pool16 : Array CpInfo := pool [(1, u "java/lang/Cloneable"), (0, .class_ 1), (0, u "java/lang/Object"), (0, .class_ 3)] 3

/-- java/lang/Cloneable -/
def k16 : Class := { plain "java/lang/Cloneable" (some 0) with
  accessFlags := 1537
  interfaces := #[]
  cf := some (fileOf pool16 2 #[] #[] 1537 4 #[] #[])
  fields := #[]
  methods := #[]
  instanceTypes := #[]
  staticTypes := #[]
  resolved := Array.replicate 8 none
  statics := none }

/-- the primitive byte -/
def k17 : Class := { plain "byte" none with kind := .primitive 'B', accessFlags := 0x411 }
/-- [B -/
def k18 : Class := { plain "[B" (some 0) with kind := .array 17 .byte, interfaces := #[16, 2], accessFlags := 1041 }

/-- the primitive char -/
def k19 : Class := { plain "char" none with kind := .primitive 'C', accessFlags := 0x411 }
/-- [C -/
def k20 : Class := { plain "[C" (some 0) with kind := .array 19 .char, interfaces := #[16, 2], accessFlags := 1041 }

/-- the primitive int -/
def k21 : Class := { plain "int" none with kind := .primitive 'I', accessFlags := 0x411 }
/-- [I -/
def k22 : Class := { plain "[I" (some 0) with kind := .array 21 .int, interfaces := #[16, 2], accessFlags := 1041 }

def heap : Heap := #[{ cls := 7, slots := #[.long 0, .int 1, .null, .int 0, .null, .int 0, .int 0], vm := .statics 7 },
  { cls := 12, slots := #[.null, .null, .null], vm := .statics 12 }]
def classes : Array Class := #[k0, k1, k2, k3, k4, k5, k6, k7, k8, k9, k10, k11, k12, k13, k14, k15, k16, k17, k18, k19, k20, k21, k22]
def interned : List (Array UInt16 × Addr) := []
def slotsUsed : Nat := 10
def theMethod : MethodId := ⟨1, 2⟩
def args0 : Array Value := #[.int 5, .int 5, .int 5, .int 5, .int 5, .int 5]
def aboutOver (below : List Frame) : State where
  vm := { classes := classes, interned := interned.toArray }
  heap := heap
  slotsUsed := slotsUsed
  threads := #[{ frames := .invoking theMethod args0 :: below }]
def below0 : List Frame := [.native { method := ⟨0, 0⟩, args := #[] }]
def about1 : State := aboutOver below0
def p0 : Program := .bare "" "" ""
def e0 : Env := launch0.env 0 0 0
theorem w_frames : about1.frames = Frame.invoking theMethod args0 :: below0 := rfl
set_option maxRecDepth 65536 in
theorem w_args : argsFit about1.vm theMethod args0 = true := by decide +kernel
set_option maxRecDepth 65536 in
theorem w_heap : heapFits about1 = true := by decide +kernel
set_option maxRecDepth 65536 in
theorem w_runnable : about1.curStatus? = some .runnable := by decide +kernel
set_option maxRecDepth 65536 in
theorem w_alone : about1.alone = true := by decide +kernel
set_option maxRecDepth 65536 in
theorem w_named : about1.methodNamed? x = some theMethod := by decide +kernel
set_option maxRecDepth 65536 in
theorem w_hears : about1.hears theMethod below0 = true := by decide +kernel
set_option maxRecDepth 65536 in
theorem w_ripe : about1.ripe theMethod args0 below0 = true := by decide +kernel
theorem w_running : about1.status = .running := rfl
set_option maxRecDepth 65536 in
theorem w_room : about1.hasRoom e0.platform room_1 = true :=
  launch0.hasRoom_least _ room_1 (by decide +kernel) (by decide +kernel) (by decide +kernel) (by decide +kernel) (by decide +kernel) (by decide +kernel)
theorem allAtoms_all (ts : List Jvm.Cond) (a : Array Jvm.Value) (st : Jvm.State) : (allAtoms ts).before a st = ts.all (fun c => c.before a st) := by
  induction ts with
  | nil => rfl
  | cons c t ih =>
    show (Jvm.Cond.and c (allAtoms t)).before a st = _
    rw [Jvm.Cond.before_and, ih, List.all_cons]
def words1 : List Jvm.Cond := Jvm.Cond.code x code maxLocals ret :: tables_1
/-- a 'code' word, met by the world's own term for the bytes: nothing is compared byte by byte -/
theorem code_word {y : MethodName} {bytes : ByteArray} {mx : Nat} {rt : Option FieldType} {a : Array Value} {s : State} {m : MethodId} {meth : Method} {c : Code} (h1 : s.methodNamed? y = some m) (h2 : s.vm.method? m = some meth) (h3 : meth.code = some c) (h4 : c.code = bytes)
    (h5 : (c.maxLocals == mx && c.exceptionTable.isEmpty && decide (c.maxStack ≤ mostOperands) && decide (meth.sig.returnType = rt) && !meth.locks && decide (parseMethodDescriptor y.desc = some meth.sig)) = true) : (Jvm.Cond.code y bytes mx rt).before a s = true := by
  simp only [Bool.and_eq_true, beq_iff_eq, Bool.not_eq_true', decide_eq_true_eq] at h5
  obtain ⟨⟨⟨⟨⟨g1, g2⟩, g3⟩, g4⟩, g5⟩, g6⟩ := h5
  simp [Cond.before, Cond.holds, Cond.value, h1, h2, h3, h4, g1, g2, g3, g4, g5, g6]
def isCode : Jvm.Cond → Bool
  | .code _ _ _ _ => true
  | _ => false
theorem all_split {L : List Jvm.Cond} {P : Jvm.Cond → Bool} (h1 : L.all (fun c => isCode c || P c) = true) (h2 : ∀ c ∈ L.filter isCode, P c = true) : L.all P = true := by
  refine List.all_eq_true.mpr fun c hc => ?_
  have h := List.all_eq_true.mp h1 c hc
  rcases Bool.eq_false_or_eq_true (isCode c) with hi | hi
  · exact h2 c (List.mem_filter.mpr ⟨hc, hi⟩)
  · simpa [hi] using h
set_option maxRecDepth 65536 in
theorem w_c0 : (Jvm.Cond.code x code maxLocals ret).before args0 about1 = true := code_word (m := ⟨1, 2⟩) (meth := k1m2) (c := k1c2) (by decide +kernel) rfl rfl rfl (by decide +kernel)
set_option maxRecDepth 65536 in
theorem w_c1 : (Jvm.Cond.code ({ cls := "com/example/fedweave/fedweave/RedirectBindingWithoutFragmentPinLaw", name := "ch", desc := "(I)C" } : Jvm.MethodName) method_2_code (1 : Nat) (Option.some Jvm.ClassFile.FieldType.char)).before args0 about1 = true := code_word (m := ⟨1, 1⟩) (meth := k1m1) (c := k1c1) (by decide +kernel) rfl rfl rfl (by decide +kernel)
set_option maxRecDepth 65536 in
theorem w_c2 : (Jvm.Cond.code ({ cls := "java/lang/String", name := "<init>", desc := "([C)V" } : Jvm.MethodName) jdk_42_method_3_code (2 : Nat) (Option.none : Option Jvm.ClassFile.FieldType)).before args0 about1 = true := code_word (m := ⟨7, 1⟩) (meth := k7m1) (c := k7c1) (by decide +kernel) rfl rfl rfl (by decide +kernel)
set_option maxRecDepth 65536 in
theorem w_c3 : (Jvm.Cond.code ({ cls := "java/lang/String", name := "<init>", desc := "([CIILjava/lang/Void;)V" } : Jvm.MethodName) jdk_42_method_149_code (6 : Nat) (Option.none : Option Jvm.ClassFile.FieldType)).before args0 about1 = true := code_word (m := ⟨7, 7⟩) (meth := k7m7) (c := k7c7) (by decide +kernel) rfl rfl rfl (by decide +kernel)
set_option maxRecDepth 65536 in
theorem w_c4 : (Jvm.Cond.code ({ cls := "java/lang/Object", name := "<init>", desc := "()V" } : Jvm.MethodName) object_method_1_code (1 : Nat) (Option.none : Option Jvm.ClassFile.FieldType)).before args0 about1 = true := code_word (m := ⟨0, 0⟩) (meth := k0m0) (c := k0c0) (by decide +kernel) rfl rfl rfl (by decide +kernel)
set_option maxRecDepth 65536 in
theorem w_c5 : (Jvm.Cond.code ({ cls := "com/example/fedweave/fedweave/RedirectBinding", name := "withoutFragment", desc := "(Ljava/lang/String;)Ljava/lang/String;" } : Jvm.MethodName) prog_80_method_4_code (2 : Nat) (Option.some (Jvm.ClassFile.FieldType.object "java/lang/String"))).before args0 about1 = true := code_word (m := ⟨8, 1⟩) (meth := k8m1) (c := k8c1) (by decide +kernel) rfl rfl rfl (by decide +kernel)
set_option maxRecDepth 65536 in
theorem w_c6 : (Jvm.Cond.code ({ cls := "java/lang/String", name := "indexOf", desc := "(I)I" } : Jvm.MethodName) jdk_42_method_79_code (2 : Nat) (Option.some Jvm.ClassFile.FieldType.int)).before args0 about1 = true := code_word (m := ⟨7, 4⟩) (meth := k7m4) (c := k7c4) (by decide +kernel) rfl rfl rfl (by decide +kernel)
set_option maxRecDepth 65536 in
theorem w_c7 : (Jvm.Cond.code ({ cls := "java/lang/String", name := "indexOf", desc := "(II)I" } : Jvm.MethodName) jdk_42_method_80_code (3 : Nat) (Option.some Jvm.ClassFile.FieldType.int)).before args0 about1 = true := code_word (m := ⟨7, 5⟩) (meth := k7m5) (c := k7c5) (by decide +kernel) rfl rfl rfl (by decide +kernel)
set_option maxRecDepth 65536 in
theorem w_c8 : (Jvm.Cond.code ({ cls := "java/lang/String", name := "isLatin1", desc := "()Z" } : Jvm.MethodName) jdk_42_method_154_code (1 : Nat) (Option.some Jvm.ClassFile.FieldType.boolean)).before args0 about1 = true := code_word (m := ⟨7, 10⟩) (meth := k7m10) (c := k7c10) (by decide +kernel) rfl rfl rfl (by decide +kernel)
set_option maxRecDepth 65536 in
theorem w_c9 : (Jvm.Cond.code ({ cls := "java/lang/String", name := "length", desc := "()I" } : Jvm.MethodName) jdk_42_method_54_code (1 : Nat) (Option.some Jvm.ClassFile.FieldType.int)).before args0 about1 = true := code_word (m := ⟨7, 2⟩) (meth := k7m2) (c := k7c2) (by decide +kernel) rfl rfl rfl (by decide +kernel)
set_option maxRecDepth 65536 in
theorem w_c10 : (Jvm.Cond.code ({ cls := "java/lang/String", name := "coder", desc := "()B" } : Jvm.MethodName) jdk_42_method_152_code (1 : Nat) (Option.some Jvm.ClassFile.FieldType.byte)).before args0 about1 = true := code_word (m := ⟨7, 9⟩) (meth := k7m9) (c := k7c9) (by decide +kernel) rfl rfl rfl (by decide +kernel)
set_option maxRecDepth 65536 in
theorem w_c11 : (Jvm.Cond.code ({ cls := "java/lang/StringLatin1", name := "indexOf", desc := "([BIII)I" } : Jvm.MethodName) jdk_43_method_22_code (4 : Nat) (Option.some Jvm.ClassFile.FieldType.int)).before args0 about1 = true := code_word (m := ⟨9, 3⟩) (meth := k9m3) (c := k9c3) (by decide +kernel) rfl rfl rfl (by decide +kernel)
set_option maxRecDepth 65536 in
theorem w_c12 : (Jvm.Cond.code ({ cls := "java/lang/StringLatin1", name := "canEncode", desc := "(I)Z" } : Jvm.MethodName) jdk_43_method_4_code (1 : Nat) (Option.some Jvm.ClassFile.FieldType.boolean)).before args0 about1 = true := code_word (m := ⟨9, 2⟩) (meth := k9m2) (c := k9c2) (by decide +kernel) rfl rfl rfl (by decide +kernel)
set_option maxRecDepth 65536 in
theorem w_c13 : (Jvm.Cond.code ({ cls := "java/lang/Math", name := "max", desc := "(II)I" } : Jvm.MethodName) jdk_29_method_65_code (2 : Nat) (Option.some Jvm.ClassFile.FieldType.int)).before args0 about1 = true := code_word (m := ⟨10, 1⟩) (meth := k10m1) (c := k10c1) (by decide +kernel) rfl rfl rfl (by decide +kernel)
set_option maxRecDepth 65536 in
theorem w_c14 : (Jvm.Cond.code ({ cls := "java/lang/Math", name := "min", desc := "(II)I" } : Jvm.MethodName) jdk_29_method_69_code (2 : Nat) (Option.some Jvm.ClassFile.FieldType.int)).before args0 about1 = true := code_word (m := ⟨10, 2⟩) (meth := k10m2) (c := k10c2) (by decide +kernel) rfl rfl rfl (by decide +kernel)
set_option maxRecDepth 65536 in
theorem w_c15 : (Jvm.Cond.code ({ cls := "java/lang/StringUTF16", name := "compress", desc := "([CII)[B" } : Jvm.MethodName) jdk_52_method_16_code (6 : Nat) (Option.some (Jvm.ClassFile.FieldType.array Jvm.ClassFile.FieldType.byte))).before args0 about1 = true := code_word (m := ⟨11, 2⟩) (meth := k11m2) (c := k11c2) (by decide +kernel) rfl rfl rfl (by decide +kernel)
set_option maxRecDepth 65536 in
theorem w_c16 : (Jvm.Cond.code ({ cls := "java/lang/StringUTF16", name := "compress", desc := "([CI[BII)I" } : Jvm.MethodName) jdk_52_method_21_code (7 : Nat) (Option.some Jvm.ClassFile.FieldType.int)).before args0 about1 = true := code_word (m := ⟨11, 3⟩) (meth := k11m3) (c := k11c3) (by decide +kernel) rfl rfl rfl (by decide +kernel)
set_option maxRecDepth 65536 in
theorem w_c17 : (Jvm.Cond.code ({ cls := "java/lang/StringUTF16", name := "coderFromArrayLen", desc := "([BI)B" } : Jvm.MethodName) jdk_52_method_15_code (2 : Nat) (Option.some Jvm.ClassFile.FieldType.byte)).before args0 about1 = true := code_word (m := ⟨11, 1⟩) (meth := k11m1) (c := k11c1) (by decide +kernel) rfl rfl rfl (by decide +kernel)
set_option maxRecDepth 65536 in
theorem w_c18 : (Jvm.Cond.code ({ cls := "java/lang/StringLatin1", name := "indexOfChar", desc := "([BIII)I" } : Jvm.MethodName) jdk_43_method_23_code (6 : Nat) (Option.some Jvm.ClassFile.FieldType.int)).before args0 about1 = true := code_word (m := ⟨9, 4⟩) (meth := k9m4) (c := k9c4) (by decide +kernel) rfl rfl rfl (by decide +kernel)
set_option maxRecDepth 65536 in
theorem w_c19 : (Jvm.Cond.code ({ cls := "java/lang/String", name := "charAt", desc := "(I)C" } : Jvm.MethodName) jdk_42_method_56_code (2 : Nat) (Option.some Jvm.ClassFile.FieldType.char)).before args0 about1 = true := code_word (m := ⟨7, 3⟩) (meth := k7m3) (c := k7c3) (by decide +kernel) rfl rfl rfl (by decide +kernel)
set_option maxRecDepth 65536 in
theorem w_c20 : (Jvm.Cond.code ({ cls := "java/lang/StringLatin1", name := "charAt", desc := "([BI)C" } : Jvm.MethodName) jdk_43_method_2_code (2 : Nat) (Option.some Jvm.ClassFile.FieldType.char)).before args0 about1 = true := code_word (m := ⟨9, 1⟩) (meth := k9m1) (c := k9c1) (by decide +kernel) rfl rfl rfl (by decide +kernel)
set_option maxRecDepth 65536 in
theorem w_c21 : (Jvm.Cond.code ({ cls := "java/lang/String", name := "checkIndex", desc := "(II)V" } : Jvm.MethodName) jdk_42_method_155_code (2 : Nat) (Option.none : Option Jvm.ClassFile.FieldType)).before args0 about1 = true := code_word (m := ⟨7, 11⟩) (meth := k7m11) (c := k7c11) (by decide +kernel) rfl rfl rfl (by decide +kernel)
set_option maxRecDepth 65536 in
theorem w_c22 : (Jvm.Cond.code ({ cls := "jdk/internal/util/Preconditions", name := "checkIndex", desc := "(IILjava/util/function/BiFunction;)I" } : Jvm.MethodName) jdk_41_method_11_code (3 : Nat) (Option.some Jvm.ClassFile.FieldType.int)).before args0 about1 = true := code_word (m := ⟨12, 1⟩) (meth := k12m1) (c := k12c1) (by decide +kernel) rfl rfl rfl (by decide +kernel)
set_option maxRecDepth 65536 in
theorem w_c23 : (Jvm.Cond.code ({ cls := "java/lang/String", name := "substring", desc := "(II)Ljava/lang/String;" } : Jvm.MethodName) jdk_42_method_92_code (5 : Nat) (Option.some (Jvm.ClassFile.FieldType.object "java/lang/String"))).before args0 about1 = true := code_word (m := ⟨7, 6⟩) (meth := k7m6) (c := k7c6) (by decide +kernel) rfl rfl rfl (by decide +kernel)
set_option maxRecDepth 65536 in
theorem w_c24 : (Jvm.Cond.code ({ cls := "java/lang/String", name := "checkBoundsBeginEnd", desc := "(III)V" } : Jvm.MethodName) jdk_42_method_158_code (3 : Nat) (Option.none : Option Jvm.ClassFile.FieldType)).before args0 about1 = true := code_word (m := ⟨7, 12⟩) (meth := k7m12) (c := k7c12) (by decide +kernel) rfl rfl rfl (by decide +kernel)
set_option maxRecDepth 65536 in
theorem w_c25 : (Jvm.Cond.code ({ cls := "jdk/internal/util/Preconditions", name := "checkFromToIndex", desc := "(IIILjava/util/function/BiFunction;)I" } : Jvm.MethodName) jdk_41_method_12_code (4 : Nat) (Option.some Jvm.ClassFile.FieldType.int)).before args0 about1 = true := code_word (m := ⟨12, 2⟩) (meth := k12m2) (c := k12c2) (by decide +kernel) rfl rfl rfl (by decide +kernel)
set_option maxRecDepth 65536 in
theorem w_c26 : (Jvm.Cond.code ({ cls := "java/lang/StringLatin1", name := "newString", desc := "([BII)Ljava/lang/String;" } : Jvm.MethodName) jdk_43_method_47_code (3 : Nat) (Option.some (Jvm.ClassFile.FieldType.object "java/lang/String"))).before args0 about1 = true := code_word (m := ⟨9, 5⟩) (meth := k9m5) (c := k9c5) (by decide +kernel) rfl rfl rfl (by decide +kernel)
set_option maxRecDepth 65536 in
theorem w_c27 : (Jvm.Cond.code ({ cls := "java/util/Arrays", name := "copyOfRange", desc := "([BII)[B" } : Jvm.MethodName) jdk_65_method_132_code (3 : Nat) (Option.some (Jvm.ClassFile.FieldType.array Jvm.ClassFile.FieldType.byte))).before args0 about1 = true := code_word (m := ⟨13, 2⟩) (meth := k13m2) (c := k13c2) (by decide +kernel) rfl rfl rfl (by decide +kernel)
set_option maxRecDepth 65536 in
theorem w_c28 : (Jvm.Cond.code ({ cls := "java/util/Arrays", name := "copyOfRangeByte", desc := "([BII)[B" } : Jvm.MethodName) jdk_65_method_133_code (5 : Nat) (Option.some (Jvm.ClassFile.FieldType.array Jvm.ClassFile.FieldType.byte))).before args0 about1 = true := code_word (m := ⟨13, 3⟩) (meth := k13m3) (c := k13c3) (by decide +kernel) rfl rfl rfl (by decide +kernel)
set_option maxRecDepth 65536 in
theorem w_c29 : (Jvm.Cond.code ({ cls := "java/util/Arrays", name := "checkLength", desc := "(II)V" } : Jvm.MethodName) jdk_65_method_131_code (2 : Nat) (Option.none : Option Jvm.ClassFile.FieldType)).before args0 about1 = true := code_word (m := ⟨13, 1⟩) (meth := k13m1) (c := k13c1) (by decide +kernel) rfl rfl rfl (by decide +kernel)
set_option maxRecDepth 65536 in
theorem w_c30 : (Jvm.Cond.code ({ cls := "java/lang/String", name := "<init>", desc := "([BB)V" } : Jvm.MethodName) jdk_42_method_151_code (3 : Nat) (Option.none : Option Jvm.ClassFile.FieldType)).before args0 about1 = true := code_word (m := ⟨7, 8⟩) (meth := k7m8) (c := k7c8) (by decide +kernel) rfl rfl rfl (by decide +kernel)
def codes1 : List Jvm.Cond := [Jvm.Cond.code x code maxLocals ret, Jvm.Cond.code ({ cls := "com/example/fedweave/fedweave/RedirectBindingWithoutFragmentPinLaw", name := "ch", desc := "(I)C" } : Jvm.MethodName) method_2_code (1 : Nat) (Option.some Jvm.ClassFile.FieldType.char), Jvm.Cond.code ({ cls := "java/lang/String", name := "<init>", desc := "([C)V" } : Jvm.MethodName) jdk_42_method_3_code (2 : Nat) (Option.none : Option Jvm.ClassFile.FieldType), Jvm.Cond.code ({ cls := "java/lang/String", name := "<init>", desc := "([CIILjava/lang/Void;)V" } : Jvm.MethodName) jdk_42_method_149_code (6 : Nat) (Option.none : Option Jvm.ClassFile.FieldType), Jvm.Cond.code ({ cls := "java/lang/Object", name := "<init>", desc := "()V" } : Jvm.MethodName) object_method_1_code (1 : Nat) (Option.none : Option Jvm.ClassFile.FieldType), Jvm.Cond.code ({ cls := "com/example/fedweave/fedweave/RedirectBinding", name := "withoutFragment", desc := "(Ljava/lang/String;)Ljava/lang/String;" } : Jvm.MethodName) prog_80_method_4_code (2 : Nat) (Option.some (Jvm.ClassFile.FieldType.object "java/lang/String")), Jvm.Cond.code ({ cls := "java/lang/String", name := "indexOf", desc := "(I)I" } : Jvm.MethodName) jdk_42_method_79_code (2 : Nat) (Option.some Jvm.ClassFile.FieldType.int), Jvm.Cond.code ({ cls := "java/lang/String", name := "indexOf", desc := "(II)I" } : Jvm.MethodName) jdk_42_method_80_code (3 : Nat) (Option.some Jvm.ClassFile.FieldType.int), Jvm.Cond.code ({ cls := "java/lang/String", name := "isLatin1", desc := "()Z" } : Jvm.MethodName) jdk_42_method_154_code (1 : Nat) (Option.some Jvm.ClassFile.FieldType.boolean), Jvm.Cond.code ({ cls := "java/lang/String", name := "length", desc := "()I" } : Jvm.MethodName) jdk_42_method_54_code (1 : Nat) (Option.some Jvm.ClassFile.FieldType.int), Jvm.Cond.code ({ cls := "java/lang/String", name := "coder", desc := "()B" } : Jvm.MethodName) jdk_42_method_152_code (1 : Nat) (Option.some Jvm.ClassFile.FieldType.byte), Jvm.Cond.code ({ cls := "java/lang/StringLatin1", name := "indexOf", desc := "([BIII)I" } : Jvm.MethodName) jdk_43_method_22_code (4 : Nat) (Option.some Jvm.ClassFile.FieldType.int), Jvm.Cond.code ({ cls := "java/lang/StringLatin1", name := "canEncode", desc := "(I)Z" } : Jvm.MethodName) jdk_43_method_4_code (1 : Nat) (Option.some Jvm.ClassFile.FieldType.boolean), Jvm.Cond.code ({ cls := "java/lang/Math", name := "max", desc := "(II)I" } : Jvm.MethodName) jdk_29_method_65_code (2 : Nat) (Option.some Jvm.ClassFile.FieldType.int), Jvm.Cond.code ({ cls := "java/lang/Math", name := "min", desc := "(II)I" } : Jvm.MethodName) jdk_29_method_69_code (2 : Nat) (Option.some Jvm.ClassFile.FieldType.int), Jvm.Cond.code ({ cls := "java/lang/StringUTF16", name := "compress", desc := "([CII)[B" } : Jvm.MethodName) jdk_52_method_16_code (6 : Nat) (Option.some (Jvm.ClassFile.FieldType.array Jvm.ClassFile.FieldType.byte)), Jvm.Cond.code ({ cls := "java/lang/StringUTF16", name := "compress", desc := "([CI[BII)I" } : Jvm.MethodName) jdk_52_method_21_code (7 : Nat) (Option.some Jvm.ClassFile.FieldType.int), Jvm.Cond.code ({ cls := "java/lang/StringUTF16", name := "coderFromArrayLen", desc := "([BI)B" } : Jvm.MethodName) jdk_52_method_15_code (2 : Nat) (Option.some Jvm.ClassFile.FieldType.byte), Jvm.Cond.code ({ cls := "java/lang/StringLatin1", name := "indexOfChar", desc := "([BIII)I" } : Jvm.MethodName) jdk_43_method_23_code (6 : Nat) (Option.some Jvm.ClassFile.FieldType.int), Jvm.Cond.code ({ cls := "java/lang/String", name := "charAt", desc := "(I)C" } : Jvm.MethodName) jdk_42_method_56_code (2 : Nat) (Option.some Jvm.ClassFile.FieldType.char), Jvm.Cond.code ({ cls := "java/lang/StringLatin1", name := "charAt", desc := "([BI)C" } : Jvm.MethodName) jdk_43_method_2_code (2 : Nat) (Option.some Jvm.ClassFile.FieldType.char), Jvm.Cond.code ({ cls := "java/lang/String", name := "checkIndex", desc := "(II)V" } : Jvm.MethodName) jdk_42_method_155_code (2 : Nat) (Option.none : Option Jvm.ClassFile.FieldType), Jvm.Cond.code ({ cls := "jdk/internal/util/Preconditions", name := "checkIndex", desc := "(IILjava/util/function/BiFunction;)I" } : Jvm.MethodName) jdk_41_method_11_code (3 : Nat) (Option.some Jvm.ClassFile.FieldType.int), Jvm.Cond.code ({ cls := "java/lang/String", name := "substring", desc := "(II)Ljava/lang/String;" } : Jvm.MethodName) jdk_42_method_92_code (5 : Nat) (Option.some (Jvm.ClassFile.FieldType.object "java/lang/String")), Jvm.Cond.code ({ cls := "java/lang/String", name := "checkBoundsBeginEnd", desc := "(III)V" } : Jvm.MethodName) jdk_42_method_158_code (3 : Nat) (Option.none : Option Jvm.ClassFile.FieldType), Jvm.Cond.code ({ cls := "jdk/internal/util/Preconditions", name := "checkFromToIndex", desc := "(IIILjava/util/function/BiFunction;)I" } : Jvm.MethodName) jdk_41_method_12_code (4 : Nat) (Option.some Jvm.ClassFile.FieldType.int), Jvm.Cond.code ({ cls := "java/lang/StringLatin1", name := "newString", desc := "([BII)Ljava/lang/String;" } : Jvm.MethodName) jdk_43_method_47_code (3 : Nat) (Option.some (Jvm.ClassFile.FieldType.object "java/lang/String")), Jvm.Cond.code ({ cls := "java/util/Arrays", name := "copyOfRange", desc := "([BII)[B" } : Jvm.MethodName) jdk_65_method_132_code (3 : Nat) (Option.some (Jvm.ClassFile.FieldType.array Jvm.ClassFile.FieldType.byte)), Jvm.Cond.code ({ cls := "java/util/Arrays", name := "copyOfRangeByte", desc := "([BII)[B" } : Jvm.MethodName) jdk_65_method_133_code (5 : Nat) (Option.some (Jvm.ClassFile.FieldType.array Jvm.ClassFile.FieldType.byte)), Jvm.Cond.code ({ cls := "java/util/Arrays", name := "checkLength", desc := "(II)V" } : Jvm.MethodName) jdk_65_method_131_code (2 : Nat) (Option.none : Option Jvm.ClassFile.FieldType), Jvm.Cond.code ({ cls := "java/lang/String", name := "<init>", desc := "([BB)V" } : Jvm.MethodName) jdk_42_method_151_code (3 : Nat) (Option.none : Option Jvm.ClassFile.FieldType)]
set_option maxRecDepth 65536 in
theorem codes_eq : words1.filter isCode = codes1 := rfl
theorem w_codes : ∀ c ∈ words1.filter isCode, c.before args0 about1 = true := by
  rw [codes_eq]
  intro c hc
  simp only [codes1, List.mem_cons, List.not_mem_nil, or_false] at hc
  rcases hc with rfl | rfl | rfl | rfl | rfl | rfl | rfl | rfl | rfl | rfl | rfl | rfl | rfl | rfl | rfl | rfl | rfl | rfl | rfl | rfl | rfl | rfl | rfl | rfl | rfl | rfl | rfl | rfl | rfl | rfl | rfl
  · exact w_c0
  · exact w_c1
  · exact w_c2
  · exact w_c3
  · exact w_c4
  · exact w_c5
  · exact w_c6
  · exact w_c7
  · exact w_c8
  · exact w_c9
  · exact w_c10
  · exact w_c11
  · exact w_c12
  · exact w_c13
  · exact w_c14
  · exact w_c15
  · exact w_c16
  · exact w_c17
  · exact w_c18
  · exact w_c19
  · exact w_c20
  · exact w_c21
  · exact w_c22
  · exact w_c23
  · exact w_c24
  · exact w_c25
  · exact w_c26
  · exact w_c27
  · exact w_c28
  · exact w_c29
  · exact w_c30
set_option maxRecDepth 65536 in
theorem w_t1 : (words1.take 24).all (fun c => isCode c || c.before args0 about1) = true := by decide +kernel
set_option maxRecDepth 65536 in
theorem w_t2 : ((words1.drop 24).take 24).all (fun c => isCode c || c.before args0 about1) = true := by decide +kernel
set_option maxRecDepth 65536 in
theorem w_t3 : (((words1.drop 24).drop 24).take 24).all (fun c => isCode c || c.before args0 about1) = true := by decide +kernel
set_option maxRecDepth 65536 in
theorem w_t4 : ((((words1.drop 24).drop 24).drop 24).take 24).all (fun c => isCode c || c.before args0 about1) = true := by decide +kernel
set_option maxRecDepth 65536 in
theorem w_t5 : (((((words1.drop 24).drop 24).drop 24).drop 24).take 24).all (fun c => isCode c || c.before args0 about1) = true := by decide +kernel
set_option maxRecDepth 65536 in
theorem w_t6 : (((((words1.drop 24).drop 24).drop 24).drop 24).drop 24).all (fun c => isCode c || c.before args0 about1) = true := by decide +kernel
theorem w_tables : (allAtoms (Jvm.Cond.code x code maxLocals ret :: tables_1)).before args0 about1 = true := by
  rw [allAtoms_all]
  show words1.all (fun c => c.before args0 about1) = true
  refine all_split ?_ w_codes
  rw [← List.take_append_drop 24 words1, List.all_append, w_t1, ← List.take_append_drop 24 (words1.drop 24), List.all_append, w_t2, ← List.take_append_drop 24 ((words1.drop 24).drop 24), List.all_append, w_t3, ← List.take_append_drop 24 (((words1.drop 24).drop 24).drop 24), List.all_append, w_t4, ← List.take_append_drop 24 ((((words1.drop 24).drop 24).drop 24).drop 24), List.all_append, w_t5, w_t6]
  rfl
set_option maxRecDepth 65536 in
theorem w_rest : rest_1_c.before args0 about1 = true := by decide +kernel
set_option maxRecDepth 65536 in
theorem w_case : (Jvm.Cond.and given_1 narrow_1).before args0 about1 = true := by decide +kernel
set_option maxRecDepth 65536 in
theorem w_consts : constsHeld consts_1 about1 := Jvm.Lit.constsHeldB_iff.mp (by decide +kernel)
theorem w_applies : (headSpec (Jvm.Cond.code x code maxLocals ret :: tables_1) room_1).applies x e0.platform about1 = true :=
  (Spec.applies_iff w_frames).mpr ⟨w_running, w_runnable, w_alone, w_named, w_hears, w_ripe, w_room, w_tables⟩
theorem atStart : AtStart classFile x code maxLocals ret World_1 tables_1 room_1 Calls_1 rest_1 Pre_1 launch0 p0 e0 about1 theMethod args0 below0 :=
  ⟨lists_1, trivial, launch0.admits_env _ _ _, launch0.least_env, fairChoices_fair.cas, fairChoices_fair.clock, w_frames, w_args, w_heap, w_applies, ⟨w_consts, trivial⟩, w_rest, w_case⟩
end start1
theorem witness_1 : WitnessClaimed_1 := ⟨start1.p0, start1.e0, start1.about1, start1.theMethod, start1.args0, start1.below0, start1.atStart⟩
end Jvm.Pilot.@@N@@
