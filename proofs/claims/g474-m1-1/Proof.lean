import JvmDerived
import JvmDerived.Pilot.@@N@@Statement
import JvmDerived.Pilot.@@N@@Code
set_option linter.unusedVariables false
set_option linter.unusedSimpArgs false
/- laws to paste: Road.backV, Road.eqW, Road.codOf (cut by pick.py; bodies as the Statement names them) -/
namespace Jvm.Pilot.@@N@@
namespace StrChars
open Jvm Sem ClassFile Op Lib Jvm.Stand Jvm.Free.XT Jvm.Free.ALB Jvm.Free.JM Jvm.Free
open Jvm.Lib.Cold (StaticIs)
/-- a char array whose places are chars -/
def Ch (a : Addr) (A : Cell) (U : State) : Prop := Arr .char a A U ∧ Typed .char A
theorem Ch.mv {a : Addr} {A : Cell} {U U' : State} (h : Ch a A U) (hal : U.vm.Alike U'.vm) (hh : U'.heap = U.heap) : Ch a A U' := ⟨h.1.mv hal hh, h.2⟩
theorem Ch.keep {a : Addr} {A : Cell} {U U' : State} (h : Ch a A U) (hal : U.vm.Alike U'.vm) (hk : U'.heap[a]? = some A) : Ch a A U' := ⟨h.1.keep hal hk, h.2⟩
/-- what place i of a char[]'s cell holds -/
def cv (A : Cell) (i : Nat) : Int32 := match A.slots[i]? with | some (.int x) => x | _ => 0
theorem Ch.get {a : Addr} {A : Cell} {U : State} (h : Ch a A U) {i : Nat} (hi : i < A.slots.size) : A.slots[i]? = some (.int (cv A i)) := by
  have e := Array.getElem?_eq_getElem hi
  have f := h.2 i _ e
  unfold cv; rw [e]
  generalize A.slots[i] = v at f
  cases v <;> simp [fits] at f ⊢
/-- the byte that i2b leaves of a char -/
def lo8 (x : Int32) : Int32 := x.toInt8.toInt32
theorem fits_lo8 (y : Int32) : fits .byte (.int (lo8 y)) = true := by
  have h1 := y.toInt8.le_toInt
  have h2 := y.toInt8.toInt_lt
  simp only [lo8, fits, Bool.and_eq_true, decide_eq_true_eq, Int32.le_iff_toInt_le, Int8.toInt_toInt32, show (-128 : Int32).toInt = -128 from by decide, show (127 : Int32).toInt = 127 from by decide]
  omega
/-- A' is A but that each place j of lo .. hi - 1 holds f j -/
def Laid (A A' : Cell) (lo hi : Nat) (f : Nat → Value) : Prop := A'.cls = A.cls ∧ A'.vm = A.vm ∧ A'.slots.size = A.slots.size ∧ ∀ i, A'.slots[i]? = if lo ≤ i ∧ i < hi then some (f i) else A.slots[i]?
theorem Laid.zero (A : Cell) (lo : Nat) (f : Nat → Value) : Laid A A lo (lo + 0) f := ⟨rfl, rfl, rfl, fun i => by rw [if_neg (by omega)]⟩
theorem Laid.step {A Ak : Cell} {lo k : Nat} {f : Nat → Value} {v : Value} (h : Laid A Ak lo k f) (hlo : lo ≤ k) (hk : k < Ak.slots.size) (hv : v = f k) : Laid A (Ak.setSlot k v) lo (k + 1) f := by
  refine ⟨h.1, h.2.1, by simpa [Cell.setSlot] using h.2.2.1, fun i => ?_⟩
  by_cases e : k = i
  · subst e; rw [Cell.slots_setSlot_self v hk, if_pos (by omega), hv]
  · rw [Cell.slots_setSlot_ne v e, h.2.2.2 i]
    by_cases q : lo ≤ i ∧ i < k
    · rw [if_pos q, if_pos (by omega)]
    · rw [if_neg q, if_neg (by omega)]
def U16 : String := "java/lang/StringUTF16"
namespace Cmp5
def yN : MethodName := ⟨"java/lang/StringUTF16", "compress", "([CI[BII)I"⟩
abbrev yB : ByteArray := jdk_52_method_21_code
theorem d0 : decode yB 0 = .ok (.iconst 0, 1) := by decide +kernel
theorem d1 : decode yB 1 = .ok (.istore 5, 2) := by decide +kernel
theorem d3 : decode yB 3 = .ok (.iload 5, 2) := by decide +kernel
theorem d5 : decode yB 5 = .ok (.iload 4, 2) := by decide +kernel
theorem d7 : decode yB 7 = .ok (.if_icmp (.ge) 37, 3) := by decide +kernel
theorem d10 : decode yB 10 = .ok (.aload_n 0, 1) := by decide +kernel
theorem d11 : decode yB 11 = .ok (.iload_n 1, 1) := by decide +kernel
theorem d12 : decode yB 12 = .ok (.caload, 1) := by decide +kernel
theorem d13 : decode yB 13 = .ok (.istore 6, 2) := by decide +kernel
theorem d15 : decode yB 15 = .ok (.iload 6, 2) := by decide +kernel
theorem d17 : decode yB 17 = .ok (.sipush 255, 3) := by decide +kernel
theorem d20 : decode yB 20 = .ok (.if_icmp (.le) 6, 3) := by decide +kernel
theorem d26 : decode yB 26 = .ok (.aload_n 2, 1) := by decide +kernel
theorem d27 : decode yB 27 = .ok (.iload_n 3, 1) := by decide +kernel
theorem d28 : decode yB 28 = .ok (.iload 6, 2) := by decide +kernel
theorem d30 : decode yB 30 = .ok (.i2b, 1) := by decide +kernel
theorem d31 : decode yB 31 = .ok (.bastore, 1) := by decide +kernel
theorem d32 : decode yB 32 = .ok (.iinc 1 1, 3) := by decide +kernel
theorem d35 : decode yB 35 = .ok (.iinc 3 1, 3) := by decide +kernel
theorem d38 : decode yB 38 = .ok (.iinc 5 1, 3) := by decide +kernel
theorem d41 : decode yB 41 = .ok (.goto (-38), 3) := by decide +kernel
theorem d44 : decode yB 44 = .ok (.iload 4, 2) := by decide +kernel
theorem d46 : decode yB 46 = .ok (.ireturn, 1) := by decide +kernel
def site : List Cond := []
def tab : Cond := tabOf yN yB 7 (some .int) site
def P (b : Addr) (A : Cell) (d : Addr) (B : Cell) (o q len : Nat) (args : Array Value) (s : State) : Prop := args = #[.ref b, .int (Int32.ofNat o), .ref d, .int (Int32.ofNat q), .int (Int32.ofNat len)] ∧ Ch b A s ∧ Arr .byte d B s ∧ b ≠ d ∧ o + len ≤ A.slots.size ∧ q + len ≤ B.slots.size ∧ ∀ i, i < len → ¬ 255 < cv A (o + i)
def E (b : Addr) (A : Cell) (d : Addr) (B : Cell) (o q len : Nat) (r : Option Value) (s u : State) : Prop := r = some (.int (Int32.ofNat len)) ∧ ∃ B', Put d B' s u ∧ Laid B B' q (q + len) (fun j => Value.int (lo8 (cv A (o + (j - q)))))
/-- no char of the range above 255: len; the places written hold each char's low byte -/
theorem law (l : Launch) (b : Addr) (A : Cell) (d : Addr) (B : Cell) (o q len : Nat) : Law l yN 5 5 0 0 yB 7 (some .int) site (P b A d B o q len) (E b A d B o q len) (copyLocs d q len) 0 0 := by
  refine Law.of_walk (plainFor_of_name (by decide +kernel)) (by decide +kernel) (by decide +kernel) (by decide) (fun _ _ h => by rw [h.1]; rfl) (fun _ U U' hal hh h => ⟨h.1, h.2.1.mv hal hh, h.2.2.1.mv hal hh, h.2.2.2⟩) (fun r U U' V V' h1 hal h2 h => ⟨h.1, h.2.elim fun B' q => ⟨B', q.1.mv h1 h2, q.2⟩⟩) ?_
  intro p e s m args below meth c s₁ X0 hexec hbytes hml hret hlk hnm hown hh0 W hP
  obtain ⟨rfl, hA, hB, hne, l1, l2, hp⟩ := hP
  have c1 : Steps p.tables e below (s₁.setTop (entryFrame m #[.ref b, .int (Int32.ofNat o), .ref d, .int (Int32.ofNat q), .int (Int32.ofNat len)] 7)) (s₁.setTop (mkF m 0 #[.val (.ref b), .val (.int (Int32.ofNat o)), .val (.ref d), .val (.int (Int32.ofNat q)), .val (.int (Int32.ofNat len)), .unset, .unset] [])) := entry rfl
  have hA0 := hA.1.mv X0.warmed.alike hh0
  have hB0 := hB.mv X0.warmed.alike hh0
  have a31 := hA.1.2.2.2
  have c2 : Steps p.tables e below (s₁.setTop (entryFrame m #[.ref b, .int (Int32.ofNat o), .ref d, .int (Int32.ofNat q), .int (Int32.ofNat len)] 7)) (s₁.setTop (mkF m 3 #[.val (.ref b), .val (.int (Int32.ofNat o)), .val (.ref d), .val (.int (Int32.ofNat q)), .val (.int (Int32.ofNat len)), .val (.int 0), .unset] [])) := c1.trans (by
    refine iconstV X0.here hexec rfl 0 (hb hbytes d0) (by decide) ?_
    refine XS.istore X0.here hexec rfl (hb hbytes d1) rfl rfl ?_
    exact Steps.refl _)
  have loop : ∀ (r i : Nat), i + r = len → ∀ (z : Slot), (z = .unset ∨ ∃ w, z = .val w ∧ w.category = 1) → ∀ (Tl : State) (Bk : Cell), Stand p l e { frames := 0, locals := 0, cells := 0, slots := 0 } s m #[.ref b, .int (Int32.ofNat o), .ref d, .int (Int32.ofNat q), .int (Int32.ofNat len)] below meth c Tl ([] ++ copyLocs d q i) 0 0 → Put d Bk s₁ Tl → Laid B Bk q (q + i) (fun j => Value.int (lo8 (cv A (o + (j - q))))) →
      Steps p.tables e below (s₁.setTop (entryFrame m #[.ref b, .int (Int32.ofNat o), .ref d, .int (Int32.ofNat q), .int (Int32.ofNat len)] 7)) (Tl.setTop (mkF m 3 #[.val (.ref b), .val (.int (Int32.ofNat (o + i))), .val (.ref d), .val (.int (Int32.ofNat (q + i))), .val (.int (Int32.ofNat len)), .val (.int (Int32.ofNat i)), z] [])) → ∃ (T' : State) (B' : Cell) (z' : Slot), Stand p l e { frames := 0, locals := 0, cells := 0, slots := 0 } s m #[.ref b, .int (Int32.ofNat o), .ref d, .int (Int32.ofNat q), .int (Int32.ofNat len)] below meth c T' ([] ++ copyLocs d q len) 0 0 ∧ Put d B' s₁ T' ∧ Laid B B' q (q + len) (fun j => Value.int (lo8 (cv A (o + (j - q))))) ∧
      Steps p.tables e below (s₁.setTop (entryFrame m #[.ref b, .int (Int32.ofNat o), .ref d, .int (Int32.ofNat q), .int (Int32.ofNat len)] 7)) (T'.setTop (mkF m 3 #[.val (.ref b), .val (.int (Int32.ofNat (o + len))), .val (.ref d), .val (.int (Int32.ofNat (q + len))), .val (.int (Int32.ofNat len)), .val (.int (Int32.ofNat len)), z'] [])) := by
    intro r
    induction r with
    | zero =>
      intro i hi z hz Tl Bk Xl pl fl cl
      have hil : i = len := by omega
      rw [hil] at Xl fl cl
      exact ⟨Tl, Bk, z, Xl, pl, fl, cl⟩
    | succ r ih =>
      intro i hi z hz Tl Bk Xl pl fl cl
      have all := X0.warmed.alike.symm.trans Xl.warmed.alike
      have hAl := hA0.keep all (pl.other hne hA0.1)
      have hBk := hB0.like all pl.1 fl.1 fl.2.1 fl.2.2.1
      have hlt : q + i < Bk.slots.size := by rw [fl.2.2.1]; omega
      have c3 : Steps p.tables e below (s₁.setTop (entryFrame m #[.ref b, .int (Int32.ofNat o), .ref d, .int (Int32.ofNat q), .int (Int32.ofNat len)] 7)) (Tl.setTop (mkF m 12 #[.val (.ref b), .val (.int (Int32.ofNat (o + i))), .val (.ref d), .val (.int (Int32.ofNat (q + i))), .val (.int (Int32.ofNat len)), .val (.int (Int32.ofNat i)), z] [.int (Int32.ofNat (o + i)), .ref b])) := cl.trans (by
        refine XS.iload Xl.here hexec rfl (hb hbytes d3) rfl ?_
        refine XS.iload Xl.here hexec rfl (hb hbytes d5) rfl ?_
        refine XS.icmpNo Xl.here hexec rfl (hb hbytes d7) rfl (ii_ge_f (lt32 (by omega) (by omega))) ?_
        refine XS.aloadN Xl.here hexec rfl (hb hbytes d10) rfl rfl ?_
        refine XS.iloadN Xl.here hexec rfl (hb hbytes d11) rfl ?_
        exact Steps.refl _)
      have c4 : Steps p.tables e below (s₁.setTop (entryFrame m #[.ref b, .int (Int32.ofNat o), .ref d, .int (Int32.ofNat q), .int (Int32.ofNat len)] 7)) (Tl.setTop (mkF m 13 #[.val (.ref b), .val (.int (Int32.ofNat (o + i))), .val (.ref d), .val (.int (Int32.ofNat (q + i))), .val (.int (Int32.ofNat len)), .val (.int (Int32.ofNat i)), z] [.int (cv A (o + i))])) := c3.trans (by
        refine Xl.aget hexec hAl rfl (hA.get (i := o + i) (by omega)) rfl rfl (hb hbytes d12) ?_
        exact Steps.refl _)
      have c5 : Steps p.tables e below (s₁.setTop (entryFrame m #[.ref b, .int (Int32.ofNat o), .ref d, .int (Int32.ofNat q), .int (Int32.ofNat len)] 7)) (Tl.setTop (mkF m 15 #[.val (.ref b), .val (.int (Int32.ofNat (o + i))), .val (.ref d), .val (.int (Int32.ofNat (q + i))), .val (.int (Int32.ofNat len)), .val (.int (Int32.ofNat i)), .val (.int (cv A (o + i)))] [])) := c4.trans (by
        refine XS.istoreS Xl.here hexec rfl (hb hbytes d13) rfl rfl hz ?_
        exact Steps.refl _)
      have c6 : Steps p.tables e below (s₁.setTop (entryFrame m #[.ref b, .int (Int32.ofNat o), .ref d, .int (Int32.ofNat q), .int (Int32.ofNat len)] 7)) (Tl.setTop (mkF m 31 #[.val (.ref b), .val (.int (Int32.ofNat (o + i))), .val (.ref d), .val (.int (Int32.ofNat (q + i))), .val (.int (Int32.ofNat len)), .val (.int (Int32.ofNat i)), .val (.int (cv A (o + i)))] [.int (lo8 (cv A (o + i))), .int (Int32.ofNat (q + i)), .ref d])) := c5.trans (by
        refine XS.iload Xl.here hexec rfl (hb hbytes d15) rfl ?_
        refine sipushV Xl.here hexec rfl 255 (hb hbytes d17) (by decide) ?_
        refine XS.icmpYes Xl.here hexec rfl (pc0 := 20) rfl (hb hbytes d20) rfl (ii_le_t (hp i (by omega))) (by decide) rfl ?_
        refine XS.aloadN Xl.here hexec rfl (hb hbytes d26) rfl rfl ?_
        refine XS.iloadN Xl.here hexec rfl (hb hbytes d27) rfl ?_
        refine XS.iload Xl.here hexec rfl (hb hbytes d28) rfl ?_
        refine i2b Xl.here hexec rfl (hb hbytes d30) rfl ?_
        exact Steps.refl _)
      obtain ⟨T7, X7, p7, st7⟩ := Xl.aput hexec hBk rfl hlt rfl (fits_lo8 (cv A (o + i))) (g := (mkF m 31 #[.val (.ref b), .val (.int (Int32.ofNat (o + i))), .val (.ref d), .val (.int (Int32.ofNat (q + i))), .val (.int (Int32.ofNat len)), .val (.int (Int32.ofNat i)), .val (.int (cv A (o + i)))] [.int (lo8 (cv A (o + i))), .int (Int32.ofNat (q + i)), .ref d])) rfl (rest := []) rfl (hb hbytes d31)
      have c8 : Steps p.tables e below (s₁.setTop (entryFrame m #[.ref b, .int (Int32.ofNat o), .ref d, .int (Int32.ofNat q), .int (Int32.ofNat len)] 7)) (T7.setTop (mkF m 32 #[.val (.ref b), .val (.int (Int32.ofNat (o + i))), .val (.ref d), .val (.int (Int32.ofNat (q + i))), .val (.int (Int32.ofNat len)), .val (.int (Int32.ofNat i)), .val (.int (cv A (o + i)))] [])) := c6.trans (st7 _ (Steps.refl _))
      have c9 : Steps p.tables e below (s₁.setTop (entryFrame m #[.ref b, .int (Int32.ofNat o), .ref d, .int (Int32.ofNat q), .int (Int32.ofNat len)] 7)) (T7.setTop (mkF m 3 #[.val (.ref b), .val (.int (Int32.ofNat (o + i) + 1)), .val (.ref d), .val (.int (Int32.ofNat (q + i) + 1)), .val (.int (Int32.ofNat len)), .val (.int (Int32.ofNat i + 1)), .val (.int (cv A (o + i)))] [])) := c8.trans (by
        refine iincV X7.here hexec rfl 1 (hb hbytes d32) (by decide) rfl rfl ?_
        refine iincV X7.here hexec rfl 1 (hb hbytes d35) (by decide) rfl rfl ?_
        refine iincV X7.here hexec rfl 1 (hb hbytes d38) (by decide) rfl rfl ?_
        refine XS.goto X7.here hexec rfl (pc0 := 41) rfl (hb hbytes d41) (by decide) rfl ?_
        exact Steps.refl _)
      have c10 : Steps p.tables e below (s₁.setTop (entryFrame m #[.ref b, .int (Int32.ofNat o), .ref d, .int (Int32.ofNat q), .int (Int32.ofNat len)] 7)) (T7.setTop (mkF m 3 #[.val (.ref b), .val (.int (Int32.ofNat (o + (i + 1)))), .val (.ref d), .val (.int (Int32.ofNat (q + (i + 1)))), .val (.int (Int32.ofNat len)), .val (.int (Int32.ofNat (i + 1))), .val (.int (cv A (o + i)))] [])) := by
        have := c9
        rw [succ32, succ32, succ32] at this
        exact this
      exact ih (i + 1) (by omega) _ (Or.inr ⟨_, rfl, rfl⟩) T7 _ (by rw [copyLocs_step, ← List.append_assoc]; exact X7) (pl.trans p7) (fl.step (by omega) hlt (by simp)) c10
  obtain ⟨T9, B9, z9, X9, p9, f9, g9⟩ := loop len 0 (by omega) .unset (Or.inl rfl) s₁ B (by simpa [copyLocs] using X0) ⟨hB0.1, fun _ _ => rfl, rfl⟩ (Laid.zero _ _ _) c2
  have c11 : Steps p.tables e below (s₁.setTop (entryFrame m #[.ref b, .int (Int32.ofNat o), .ref d, .int (Int32.ofNat q), .int (Int32.ofNat len)] 7)) (T9.setTop (mkF m 46 #[.val (.ref b), .val (.int (Int32.ofNat (o + len))), .val (.ref d), .val (.int (Int32.ofNat (q + len))), .val (.int (Int32.ofNat len)), .val (.int (Int32.ofNat len)), z9] [.int (Int32.ofNat len)])) := g9.trans (by
    refine XS.iload X9.here hexec rfl (hb hbytes d3) rfl ?_
    refine XS.iload X9.here hexec rfl (hb hbytes d5) rfl ?_
    refine XS.icmpYes X9.here hexec rfl (pc0 := 7) rfl (hb hbytes d7) rfl (ii_ge_t (nlt32 (by omega) (Nat.le_refl _))) (by decide) rfl ?_
    refine XS.iload X9.here hexec rfl (hb hbytes d44) rfl ?_
    exact Steps.refl _)
  exact ⟨T9, some (.int (Int32.ofNat len)), _, _, _, X9, by simp, rfl, rfl, (fun h => by cases h), ⟨rfl, B9, p9.from hh0, f9⟩, fun fs hl => c11.trans (X9.ireturnOut hexec hret rfl (Or.inl rfl) (hb hbytes d46) hl)⟩
end Cmp5
namespace Cmp3
def yN : MethodName := ⟨"java/lang/StringUTF16", "compress", "([CII)[B"⟩
abbrev yB : ByteArray := jdk_52_method_16_code
theorem d0 : decode yB 0 = .ok (.iload_n 2, 1) := by decide +kernel
theorem d1 : decode yB 1 = .ok (.newarray .byte, 2) := by decide +kernel
theorem d3 : decode yB 3 = .ok (.astore_n 3, 1) := by decide +kernel
theorem d4 : decode yB 4 = .ok (.aload_n 0, 1) := by decide +kernel
theorem d5 : decode yB 5 = .ok (.iload_n 1, 1) := by decide +kernel
theorem d6 : decode yB 6 = .ok (.aload_n 3, 1) := by decide +kernel
theorem d7 : decode yB 7 = .ok (.iconst 0, 1) := by decide +kernel
theorem d8 : decode yB 8 = .ok (.iload_n 2, 1) := by decide +kernel
theorem d9 : decode yB 9 = .ok (.invokestatic 115, 3) := by decide +kernel
theorem d12 : decode yB 12 = .ok (.istore 4, 2) := by decide +kernel
theorem d14 : decode yB 14 = .ok (.iload 4, 2) := by decide +kernel
theorem d16 : decode yB 16 = .ok (.iload_n 2, 1) := by decide +kernel
theorem d17 : decode yB 17 = .ok (.if_icmp (.eq) 40, 3) := by decide +kernel
theorem d57 : decode yB 57 = .ok (.aload_n 3, 1) := by decide +kernel
theorem d58 : decode yB 58 = .ok (.areturn, 1) := by decide +kernel
def site : List Cond := [.arrayClass .byte, Cmp5.tab] ++ staticW U16 115 Cmp5.yN
def tab : Cond := tabOf yN yB 6 (some (.array .byte)) site
def P (b : Addr) (A : Cell) (o len : Nat) (args : Array Value) (s : State) : Prop := args = #[.ref b, .int (Int32.ofNat o), .int (Int32.ofNat len)] ∧ Ch b A s ∧ o + len ≤ A.slots.size ∧ len ≤ 536870912 ∧ ∀ i, i < len → ¬ 255 < cv A (o + i)
def E (b : Addr) (A : Cell) (o len : Nat) (r : Option Value) (s u : State) : Prop := NewArr .byte "[B" len (fun j => .int (lo8 (cv A (o + j)))) r s u ∧ u.heap.size = s.heap.size + 1
/-- no char of the range above 255: a new byte[] of their low bytes -/
theorem law (l : Launch) (b : Addr) (A : Cell) (o len : Nat) : Law l yN 3 3 1 18 yB 6 (some (.array .byte)) site (P b A o len) (E b A o len) [] 1 len := by
  refine Law.of_walk (plainFor_of_name (by decide +kernel)) (by decide +kernel) (by decide +kernel) (by decide) (fun _ _ h => by rw [h.1]; rfl) (fun _ U U' hal hh h => ⟨h.1, h.2.1.mv hal hh, h.2.2⟩) (fun r U U' V V' h1 hal h2 h => ⟨NewArr.mv r U U' V V' h1 hal h2 h.1, by rw [h1, h2]; exact h.2⟩) ?_
  intro p e s m args below meth c s₁ X0 hexec hbytes hml hret hlk hnm hown hh0 W hP
  obtain ⟨rfl, hA, l1, l2, hp⟩ := hP
  have a31 := hA.1.2.2.2
  have c1 : Steps p.tables e below (s₁.setTop (entryFrame m #[.ref b, .int (Int32.ofNat o), .int (Int32.ofNat len)] 6)) (s₁.setTop (mkF m 0 #[.val (.ref b), .val (.int (Int32.ofNat o)), .val (.int (Int32.ofNat len)), .unset, .unset, .unset] [])) := entry rfl
  have c2 : Steps p.tables e below (s₁.setTop (entryFrame m #[.ref b, .int (Int32.ofNat o), .int (Int32.ofNat len)] 6)) (s₁.setTop (mkF m 1 #[.val (.ref b), .val (.int (Int32.ofNat o)), .val (.int (Int32.ofNat len)), .unset, .unset, .unset] [.int (Int32.ofNat len)])) := c1.trans (by
    refine XS.iloadN X0.here hexec rfl (hb hbytes d0) rfl ?_
    exact Steps.refl _)
  obtain ⟨T3, B3, X3, ba3, bs3, bv3, bh3, bf3, st3⟩ := X0.anew hexec (atype := .byte) (wk W (.arrayClass .byte)) rfl (by show len * 1 ≤ _; omega) (by omega) (g := (mkF m 1 #[.val (.ref b), .val (.int (Int32.ofNat o)), .val (.int (Int32.ofNat len)), .unset, .unset, .unset] [.int (Int32.ofNat len)])) rfl (hb hbytes d1) (rest := []) rfl (Nat.le_refl _) (by show 0 + len ≤ len; omega)
  rw [hh0] at ba3 st3
  have kp3 : XT.Kept s T3 := (XT.Kept.of_eq hh0).push bh3
  have hA3 := hA.keep X3.warmed.alike (kp3 _ _ hA.1.1)
  have hne : b ≠ s.heap.size := hA.1.ne
  have c4 : Steps p.tables e below (s₁.setTop (entryFrame m #[.ref b, .int (Int32.ofNat o), .int (Int32.ofNat len)] 6)) (T3.setTop (mkF m 3 #[.val (.ref b), .val (.int (Int32.ofNat o)), .val (.int (Int32.ofNat len)), .unset, .unset, .unset] [.ref s.heap.size])) := c2.trans (st3 _ (Steps.refl _))
  have c5 : Steps p.tables e below (s₁.setTop (entryFrame m #[.ref b, .int (Int32.ofNat o), .int (Int32.ofNat len)] 6)) (T3.setTop (mkF m 9 #[.val (.ref b), .val (.int (Int32.ofNat o)), .val (.int (Int32.ofNat len)), .val (.ref s.heap.size), .unset, .unset] [.int (Int32.ofNat len), .int 0, .ref s.heap.size, .int (Int32.ofNat o), .ref b])) := c4.trans (by
    refine XS.astoreN X3.here hexec rfl (hb hbytes d3) rfl rfl rfl ?_
    refine XS.aloadN X3.here hexec rfl (hb hbytes d4) rfl rfl ?_
    refine XS.iloadN X3.here hexec rfl (hb hbytes d5) rfl ?_
    refine XS.aloadN X3.here hexec rfl (hb hbytes d6) rfl rfl ?_
    refine iconstV X3.here hexec rfl 0 (hb hbytes d7) (by decide) ?_
    refine XS.iloadN X3.here hexec rfl (hb hbytes d8) rfl ?_
    exact Steps.refl _)
  obtain ⟨v6, T6, X6, E6, g6⟩ := X3.callS hexec (Cmp5.law l b A s.heap.size B3 o 0 len) hown (wks W (staticW U16 115 Cmp5.yN)) (wk W Cmp5.tab) (W := 0) (Nat.le_of_ble_eq_true rfl) (Nat.le_of_ble_eq_true rfl) (Nat.le_refl _) (by show 0 + len + 0 ≤ len; omega) (g := (mkF m 9 #[.val (.ref b), .val (.int (Int32.ofNat o)), .val (.int (Int32.ofNat len)), .val (.ref s.heap.size), .unset, .unset] [.int (Int32.ofNat len), .int (Int32.ofNat 0), .ref s.heap.size, .int (Int32.ofNat o), .ref b])) rfl (by rw [hml]; rfl) c5 (argsL := [.ref b, .int (Int32.ofNat o), .ref s.heap.size, .int (Int32.ofNat 0), .int (Int32.ofNat len)]) (rest := []) rfl rfl (by show 2 * 0 + 0 ≤ _; decide) (hb hbytes d9) (⟨rfl, hA3, ba3, hne, l1, by rw [bs3]; simp, hp⟩)
  obtain ⟨rfl, B6, p6, f6⟩ := E6
  have c7 : Steps p.tables e below (s₁.setTop (entryFrame m #[.ref b, .int (Int32.ofNat o), .int (Int32.ofNat len)] 6)) (T6.setTop (mkF m 12 #[.val (.ref b), .val (.int (Int32.ofNat o)), .val (.int (Int32.ofNat len)), .val (.ref s.heap.size), .unset, .unset] [.int (Int32.ofNat len)])) := g6
  have c8 : Steps p.tables e below (s₁.setTop (entryFrame m #[.ref b, .int (Int32.ofNat o), .int (Int32.ofNat len)] 6)) (T6.setTop (mkF m 58 #[.val (.ref b), .val (.int (Int32.ofNat o)), .val (.int (Int32.ofNat len)), .val (.ref s.heap.size), .val (.int (Int32.ofNat len)), .unset] [.ref s.heap.size])) := c7.trans (by
    refine XS.istore X6.here hexec rfl (hb hbytes d12) rfl rfl ?_
    refine XS.iload X6.here hexec rfl (hb hbytes d14) rfl ?_
    refine XS.iloadN X6.here hexec rfl (hb hbytes d16) rfl ?_
    refine XS.icmpYes X6.here hexec rfl (pc0 := 17) rfl (hb hbytes d17) rfl (ii_eq_t rfl) (by decide) rfl ?_
    refine XS.aloadN X6.here hexec rfl (hb hbytes d57) rfl rfl ?_
    exact Steps.refl _)
  have X8 := X6.wide (L' := []) (cells' := 1) (slots' := len) (fun x hx hlt => by
    simp only [List.nil_append, copyLocs, List.mem_map, List.mem_range] at hx
    obtain ⟨i, -, rfl⟩ := hx
    exact absurd hlt (Nat.lt_irrefl _)) (Nat.le_refl _) (by omega)
  exact ⟨T6, some (.ref s.heap.size), _, _, _, X8, rfl, rfl, rfl, (fun h => by cases h), ⟨⟨rfl, B6, ba3.like (X3.warmed.alike.symm.trans X6.warmed.alike) p6.1 f6.1 f6.2.1 f6.2.2.1, f6.2.1.trans bv3, by rw [X6.warmed.alike.findClass, f6.1]; exact bf3, by rw [f6.2.2.1, bs3]; simp, fun j hj => by rw [f6.2.2.2 j, if_pos (by omega)]; rfl, kp3.put p6 (Nat.le_refl _)⟩, by rw [p6.2.2, bh3, hh0]; simp⟩, fun fs hl => c8.trans (X8.areturnOut hexec rfl hret rfl (hb hbytes d58) hl)⟩
end Cmp3
namespace CodL
def yN : MethodName := ⟨"java/lang/StringUTF16", "coderFromArrayLen", "([BI)B"⟩
abbrev yB : ByteArray := jdk_52_method_15_code
theorem d0 : decode yB 0 = .ok (.iload_n 1, 1) := by decide +kernel
theorem d1 : decode yB 1 = .ok (.aload_n 0, 1) := by decide +kernel
theorem d2 : decode yB 2 = .ok (.arraylength, 1) := by decide +kernel
theorem d3 : decode yB 3 = .ok (.isub, 1) := by decide +kernel
theorem d4 : decode yB 4 = .ok (.bipush 31, 2) := by decide +kernel
theorem d6 : decode yB 6 = .ok (.iushr, 1) := by decide +kernel
theorem d7 : decode yB 7 = .ok (.i2b, 1) := by decide +kernel
theorem d8 : decode yB 8 = .ok (.ireturn, 1) := by decide +kernel
def site : List Cond := []
def tab : Cond := tabOf yN yB 2 (some .byte) site
def P (d : Addr) (B : Cell) (args : Array Value) (s : State) : Prop := args = #[.ref d, .int (Int32.ofNat B.slots.size)] ∧ Arr .byte d B s
def E (r : Option Value) (s u : State) : Prop := XT.PureE (some (.int 0)) r s u
/-- an array as long as the number of chars: LATIN1 -/
theorem law (l : Launch) (d : Addr) (B : Cell) : Law l yN 2 2 0 0 yB 2 (some .byte) site (P d B) E [] 0 0 := by
  refine Law.of_walk (plainFor_of_name (by decide +kernel)) (by decide +kernel) (by decide +kernel) (by decide) (fun _ _ h => by rw [h.1]; rfl) (fun _ U U' hal hh h => ⟨h.1, h.2.mv hal hh⟩) (fun r U U' V V' h1 hal h2 h => XT.PureE.mv r U U' V V' h1 hal h2 h) ?_
  intro p e s m args below meth c s₁ X0 hexec hbytes hml hret hlk hnm hown hh0 W hP
  obtain ⟨rfl, hB⟩ := hP
  have hB0 := hB.mv X0.warmed.alike hh0
  have c1 : Steps p.tables e below (s₁.setTop (entryFrame m #[.ref d, .int (Int32.ofNat B.slots.size)] 2)) (s₁.setTop (mkF m 0 #[.val (.ref d), .val (.int (Int32.ofNat B.slots.size))] [])) := entry rfl
  have c2 : Steps p.tables e below (s₁.setTop (entryFrame m #[.ref d, .int (Int32.ofNat B.slots.size)] 2)) (s₁.setTop (mkF m 2 #[.val (.ref d), .val (.int (Int32.ofNat B.slots.size))] [.ref d, .int (Int32.ofNat B.slots.size)])) := c1.trans (by
    refine XS.iloadN X0.here hexec rfl (hb hbytes d0) rfl ?_
    refine XS.aloadN X0.here hexec rfl (hb hbytes d1) rfl rfl ?_
    exact Steps.refl _)
  have c3 : Steps p.tables e below (s₁.setTop (entryFrame m #[.ref d, .int (Int32.ofNat B.slots.size)] 2)) (s₁.setTop (mkF m 8 #[.val (.ref d), .val (.int (Int32.ofNat B.slots.size))] [.int (lo8 (ushr (Int32.ofNat B.slots.size - Int32.ofNat B.slots.size) 31))])) := c2.trans (by
    refine X0.alen hexec hB0 rfl rfl (hb hbytes d2) ?_
    refine XS.isub X0.here hexec rfl (hb hbytes d3) rfl ?_
    refine bipushV X0.here hexec rfl 31 (hb hbytes d4) (by decide) ?_
    refine iushr X0.here hexec rfl (hb hbytes d6) rfl ?_
    refine i2b X0.here hexec rfl (hb hbytes d7) rfl ?_
    exact Steps.refl _)
  have e0 : lo8 (ushr (Int32.ofNat B.slots.size - Int32.ofNat B.slots.size) 31) = 0 := by rw [Int32.sub_self]; decide
  rw [e0] at c3
  exact ⟨s₁, some (.int 0), _, _, _, X0, rfl, rfl, rfl, (fun h => by cases h), ⟨rfl, hh0⟩, fun fs hl => c3.trans (X0.ireturnOut hexec hret rfl (Or.inr (Or.inr (Or.inl rfl))) (hb hbytes d8) hl)⟩
end CodL
/-- the String at a is Latin-1 over a new byte[] (the heap's one new cell): the low bytes of the len chars of A from o on; every cell but a is kept -/
def Got (a : Addr) (D : Cell) (fV fC : Field) (A : Cell) (o len : Nat) (r : Option Value) (s u : State) : Prop := r = none ∧ ∃ D' V : Cell, Blank "java/lang/String" a D' u ∧ Same D D' [fV.slot, fC.slot] ∧ D'.slots[fV.slot]? = some (.ref s.heap.size) ∧ D'.slots[fC.slot]? = some (.int 0) ∧ Arr .byte s.heap.size V u ∧ V.vm = .none ∧ u.vm.findClass "[B" = some V.cls ∧ V.slots.size = len ∧ (∀ j, j < len → V.slots[j]? = some (.int (lo8 (cv A (o + j))))) ∧ (∀ (y : Addr) (c : Cell), y ≠ a → s.heap[y]? = some c → u.heap[y]? = some c) ∧ u.heap.size = s.heap.size + 1
theorem Got.mv {a : Addr} {D A : Cell} {fV fC : Field} {o len : Nat} : ∀ r (U U' V V' : State), U'.heap = U.heap → V.vm.Alike V'.vm → V'.heap = V.heap → Got a D fV fC A o len r U V → Got a D fV fC A o len r U' V' :=
  fun r U U' V V' h1 hal h2 ⟨e0, D', X, a1, a2, a3, a4, a5, a6, a7, a8, a9, a10, a11⟩ => ⟨e0, D', X, a1.mv hal h2, a2, by rw [h1]; exact a3, a4, by rw [h1]; exact a5.mv hal h2, a6, by rw [hal.findClass]; exact a7, a8, a9, by rw [h1, h2]; exact a10, by rw [h1, h2]; exact a11⟩
namespace New4
def yN : MethodName := ⟨"java/lang/String", "<init>", "([CIILjava/lang/Void;)V"⟩
abbrev yB : ByteArray := jdk_42_method_149_code
theorem d0 : decode yB 0 = .ok (.aload_n 0, 1) := by decide +kernel
theorem d1 : decode yB 1 = .ok (.invokespecial 1, 3) := by decide +kernel
theorem d4 : decode yB 4 = .ok (.iload_n 3, 1) := by decide +kernel
theorem d5 : decode yB 5 = .ok (.ifCond (.ne) 22, 3) := by decide +kernel
theorem d27 : decode yB 27 = .ok (.getstatic 38, 3) := by decide +kernel
theorem d30 : decode yB 30 = .ok (.ifCond (.eq) 28, 3) := by decide +kernel
theorem d33 : decode yB 33 = .ok (.aload_n 1, 1) := by decide +kernel
theorem d34 : decode yB 34 = .ok (.iload_n 2, 1) := by decide +kernel
theorem d35 : decode yB 35 = .ok (.iload_n 3, 1) := by decide +kernel
theorem d36 : decode yB 36 = .ok (.invokestatic 177, 3) := by decide +kernel
theorem d39 : decode yB 39 = .ok (.astore 5, 2) := by decide +kernel
theorem d41 : decode yB 41 = .ok (.aload_n 0, 1) := by decide +kernel
theorem d42 : decode yB 42 = .ok (.aload 5, 2) := by decide +kernel
theorem d44 : decode yB 44 = .ok (.iload_n 3, 1) := by decide +kernel
theorem d45 : decode yB 45 = .ok (.invokestatic 47, 3) := by decide +kernel
theorem d48 : decode yB 48 = .ok (.putfield 15, 3) := by decide +kernel
theorem d51 : decode yB 51 = .ok (.aload_n 0, 1) := by decide +kernel
theorem d52 : decode yB 52 = .ok (.aload 5, 2) := by decide +kernel
theorem d54 : decode yB 54 = .ok (.putfield 9, 3) := by decide +kernel
theorem d57 : decode yB 57 = .ok (.return_, 1) := by decide +kernel
def site : List Cond := [.fieldLink "java/lang/String" 38 "java/lang/String" "COMPACT_STRINGS" "Z", Cmp3.tab, CodL.tab, .laysFinal "java/lang/String" "java/lang/String" "value" "[B", .fieldLink "java/lang/String" 9 "java/lang/String" "value" "[B", .laysFinal "java/lang/String" "java/lang/String" "coder" "B", .fieldLink "java/lang/String" 15 "java/lang/String" "coder" "B"] ++ objW "java/lang/String" 1 ++ staticW "java/lang/String" 177 Cmp3.yN ++ staticW "java/lang/String" 47 CodL.yN
def tab : Cond := tabOf yN yB 6 none site
def P (a : Addr) (D : Cell) (fV fC : Field) (b : Addr) (A : Cell) (z : Int32) (o len : Nat) (args : Array Value) (s : State) : Prop := args = #[.ref a, .ref b, .int (Int32.ofNat o), .int (Int32.ofNat len), .null] ∧ Blank "java/lang/String" a D s ∧ Found "java/lang/String" "value" "[B" fV s ∧ Found "java/lang/String" "coder" "B" fC s ∧ Ch b A s ∧ StaticIs s "java/lang/String" "COMPACT_STRINGS" "Z" (.int z) ∧ ¬ z = 0 ∧ 0 < len ∧ o + len ≤ A.slots.size ∧ len ≤ 536870912 ∧ ∀ i, i < len → ¬ 255 < cv A (o + i)
def E (a : Addr) (D : Cell) (fV fC : Field) (A : Cell) (o len : Nat) (r : Option Value) (s u : State) : Prop := Got a D fV fC A o len r s u
/-- len > 0, no char of the range above 255: a Latin-1 String of their low bytes -/
theorem law (l : Launch) (a : Addr) (D : Cell) (fV fC : Field) (b : Addr) (A : Cell) (z : Int32) (o len : Nat) : Law l yN 5 4 2 35 yB 6 none site (P a D fV fC b A z o len) (E a D fV fC A o len) [⟨a, fC.slot⟩, ⟨a, fV.slot⟩] 1 len := by
  refine Law.of_walk (plainFor_of_name (by decide +kernel)) (by decide +kernel) (by decide +kernel) (by decide) (fun _ _ h => by rw [h.1]; rfl) (fun _ U U' hal hh h => ⟨h.1, h.2.1.mv hal hh, h.2.2.1.al hal, h.2.2.2.1.al hal, h.2.2.2.2.1.mv hal hh, h.2.2.2.2.2.1.there hal hh, h.2.2.2.2.2.2⟩) (fun r U U' V V' h1 hal h2 h => Got.mv r U U' V V' h1 hal h2 h) ?_
  intro p e s m args below meth c s₁ X0 hexec hbytes hml hret hlk hnm hown hh0 W hP
  obtain ⟨rfl, hB, f1, f2, hA, s1, hz, l0, l1, l2, hp⟩ := hP
  have a31 := hA.1.2.2.2
  have c1 : Steps p.tables e below (s₁.setTop (entryFrame m #[.ref a, .ref b, .int (Int32.ofNat o), .int (Int32.ofNat len), .null] 6)) (s₁.setTop (mkF m 0 #[.val (.ref a), .val (.ref b), .val (.int (Int32.ofNat o)), .val (.int (Int32.ofNat len)), .val .null, .unset] [])) := entry rfl
  have c2 : Steps p.tables e below (s₁.setTop (entryFrame m #[.ref a, .ref b, .int (Int32.ofNat o), .int (Int32.ofNat len), .null] 6)) (s₁.setTop (mkF m 1 #[.val (.ref a), .val (.ref b), .val (.int (Int32.ofNat o)), .val (.int (Int32.ofNat len)), .val .null, .unset] [.ref a])) := c1.trans (by
    refine XS.aloadN X0.here hexec rfl (hb hbytes d0) rfl rfl ?_
    exact Steps.refl _)
  obtain ⟨T3, X3, q3, st3⟩ := X0.oinit hexec hown (wks W (objW "java/lang/String" 1)) (g := (mkF m 1 #[.val (.ref a), .val (.ref b), .val (.int (Int32.ofNat o)), .val (.int (Int32.ofNat len)), .val .null, .unset] [.ref a])) rfl (by rw [hml]; rfl) (rest := []) rfl (hb hbytes d1) (W := 0) (by show 2 * 0 + 0 ≤ _; decide) (Nat.le_of_ble_eq_true rfl) (Nat.le_of_ble_eq_true rfl)
  have hh3 := q3.trans hh0
  have c4 : Steps p.tables e below (s₁.setTop (entryFrame m #[.ref a, .ref b, .int (Int32.ofNat o), .int (Int32.ofNat len), .null] 6)) (T3.setTop (mkF m 27 #[.val (.ref a), .val (.ref b), .val (.int (Int32.ofNat o)), .val (.int (Int32.ofNat len)), .val .null, .unset] [])) := (c2.trans (st3 _ (Steps.refl _))).trans (by
    refine XS.iloadN X3.here hexec rfl (hb hbytes d4) rfl ?_
    refine XS.ifYes X3.here hexec rfl (pc0 := 5) rfl (hb hbytes d5) rfl (i0_ne_t (nz32 (by omega) l0)) (by decide) rfl ?_
    exact Steps.refl _)
  obtain ⟨T5, X5, q5, st5⟩ := X3.sget hexec hown (wk W (.fieldLink "java/lang/String" 38 "java/lang/String" "COMPACT_STRINGS" "Z")) s1 (fun _ _ h => by rw [hh3]; exact h) (g := (mkF m 27 #[.val (.ref a), .val (.ref b), .val (.int (Int32.ofNat o)), .val (.int (Int32.ofNat len)), .val .null, .unset] [])) rfl (hb hbytes d27)
  have hh5 := q5.trans hh3
  have c6 : Steps p.tables e below (s₁.setTop (entryFrame m #[.ref a, .ref b, .int (Int32.ofNat o), .int (Int32.ofNat len), .null] 6)) (T5.setTop (mkF m 30 #[.val (.ref a), .val (.ref b), .val (.int (Int32.ofNat o)), .val (.int (Int32.ofNat len)), .val .null, .unset] [.int z])) := c4.trans (st5 _ (Steps.refl _))
  have c7 : Steps p.tables e below (s₁.setTop (entryFrame m #[.ref a, .ref b, .int (Int32.ofNat o), .int (Int32.ofNat len), .null] 6)) (T5.setTop (mkF m 36 #[.val (.ref a), .val (.ref b), .val (.int (Int32.ofNat o)), .val (.int (Int32.ofNat len)), .val .null, .unset] [.int (Int32.ofNat len), .int (Int32.ofNat o), .ref b])) := c6.trans (by
    refine XS.ifNo X5.here hexec rfl (hb hbytes d30) rfl (i0_eq_f hz) ?_
    refine XS.aloadN X5.here hexec rfl (hb hbytes d33) rfl rfl ?_
    refine XS.iloadN X5.here hexec rfl (hb hbytes d34) rfl ?_
    refine XS.iloadN X5.here hexec rfl (hb hbytes d35) rfl ?_
    exact Steps.refl _)
  obtain ⟨v8, T8, X8, E8, g8⟩ := X5.callS hexec (Cmp3.law l b A o len) hown (wks W (staticW "java/lang/String" 177 Cmp3.yN)) (wk W Cmp3.tab) (W := 0) (Nat.le_of_ble_eq_true rfl) (Nat.le_of_ble_eq_true rfl) (Nat.le_refl _) (by show 0 + len ≤ len; omega) (g := (mkF m 36 #[.val (.ref a), .val (.ref b), .val (.int (Int32.ofNat o)), .val (.int (Int32.ofNat len)), .val .null, .unset] [.int (Int32.ofNat len), .int (Int32.ofNat o), .ref b])) rfl (by rw [hml]; rfl) c7 (argsL := [.ref b, .int (Int32.ofNat o), .int (Int32.ofNat len)]) (rest := []) rfl rfl (by show 2 * 0 + 0 ≤ _; decide) (hb hbytes d36) (⟨rfl, hA.mv X5.warmed.alike hh5, l1, l2, hp⟩)
  obtain ⟨e8, z8⟩ := E8
  obtain ⟨rfl, N, n1, n2, n3, n4, n5, n6⟩ := NewArr.mv _ T5 s _ _ hh5.symm (Vm.Alike.refl _) rfl e8
  rw [hh5] at z8
  have hB1 := hB.keep X8.warmed.alike (n6 _ _ hB.1)
  have hne : s.heap.size ≠ a := (Nat.ne_of_lt (Array.getElem?_eq_some_iff.mp hB.1).1).symm
  have c9 : Steps p.tables e below (s₁.setTop (entryFrame m #[.ref a, .ref b, .int (Int32.ofNat o), .int (Int32.ofNat len), .null] 6)) (T8.setTop (mkF m 39 #[.val (.ref a), .val (.ref b), .val (.int (Int32.ofNat o)), .val (.int (Int32.ofNat len)), .val .null, .unset] [.ref s.heap.size])) := g8
  have c10 : Steps p.tables e below (s₁.setTop (entryFrame m #[.ref a, .ref b, .int (Int32.ofNat o), .int (Int32.ofNat len), .null] 6)) (T8.setTop (mkF m 45 #[.val (.ref a), .val (.ref b), .val (.int (Int32.ofNat o)), .val (.int (Int32.ofNat len)), .val .null, .val (.ref s.heap.size)] [.int (Int32.ofNat N.slots.size), .ref s.heap.size, .ref a])) := by
    have hc : Steps p.tables e below (s₁.setTop (entryFrame m #[.ref a, .ref b, .int (Int32.ofNat o), .int (Int32.ofNat len), .null] 6)) (T8.setTop (mkF m 45 #[.val (.ref a), .val (.ref b), .val (.int (Int32.ofNat o)), .val (.int (Int32.ofNat len)), .val .null, .val (.ref s.heap.size)] [.int (Int32.ofNat len), .ref s.heap.size, .ref a])) := c9.trans (by
      refine XS.astore X8.here hexec rfl (hb hbytes d39) rfl rfl rfl ?_
      refine XS.aloadN X8.here hexec rfl (hb hbytes d41) rfl rfl ?_
      refine XS.aload X8.here hexec rfl (hb hbytes d42) rfl rfl ?_
      refine XS.iloadN X8.here hexec rfl (hb hbytes d44) rfl ?_
      exact Steps.refl _)
    rw [n4]; exact hc
  obtain ⟨v11, T11, X11, E11, g11⟩ := X8.callS hexec (CodL.law l s.heap.size N) hown (wks W (staticW "java/lang/String" 47 CodL.yN)) (wk W CodL.tab) (W := 1) (Nat.le_of_ble_eq_true rfl) (Nat.le_of_ble_eq_true rfl) (Nat.le_refl _) (by show 0 + len + 0 ≤ len; omega) (g := (mkF m 45 #[.val (.ref a), .val (.ref b), .val (.int (Int32.ofNat o)), .val (.int (Int32.ofNat len)), .val .null, .val (.ref s.heap.size)] [.int (Int32.ofNat N.slots.size), .ref s.heap.size, .ref a])) rfl (by rw [hml]; rfl) c10 (argsL := [.ref s.heap.size, .int (Int32.ofNat N.slots.size)]) (rest := [.ref a]) rfl rfl (by show 2 * 0 + (1 + 0) ≤ _; decide) (hb hbytes d45) (⟨rfl, n1⟩)
  obtain ⟨rfl, q11⟩ := E11
  have hB11 := hB1.mv (X8.warmed.alike.symm.trans X11.warmed.alike) q11
  have c12 : Steps p.tables e below (s₁.setTop (entryFrame m #[.ref a, .ref b, .int (Int32.ofNat o), .int (Int32.ofNat len), .null] 6)) (T11.setTop (mkF m 48 #[.val (.ref a), .val (.ref b), .val (.int (Int32.ofNat o)), .val (.int (Int32.ofNat len)), .val .null, .val (.ref s.heap.size)] [.int 0, .ref a])) := g11
  obtain ⟨T13, X13, p13, bl13, sl13, st13⟩ := X11.finit hexec hown (wk W (.fieldLink "java/lang/String" 15 "java/lang/String" "coder" "B")) (Or.inr ⟨_, (wk W (.laysFinal "java/lang/String" "java/lang/String" "coder" "B"))⟩) (Or.inl ⟨rfl, hnm⟩) f2 (Or.inl rfl) hB11 (t := .byte) (by decide +kernel) rfl (g := (mkF m 48 #[.val (.ref a), .val (.ref b), .val (.int (Int32.ofNat o)), .val (.int (Int32.ofNat len)), .val .null, .val (.ref s.heap.size)] [.int 0, .ref a])) rfl (rest := []) rfl (hb hbytes d48)
  have c14 : Steps p.tables e below (s₁.setTop (entryFrame m #[.ref a, .ref b, .int (Int32.ofNat o), .int (Int32.ofNat len), .null] 6)) (T13.setTop (mkF m 54 #[.val (.ref a), .val (.ref b), .val (.int (Int32.ofNat o)), .val (.int (Int32.ofNat len)), .val .null, .val (.ref s.heap.size)] [.ref s.heap.size, .ref a])) := (c12.trans (st13 _ (Steps.refl _))).trans (by
    refine XS.aloadN X13.here hexec rfl (hb hbytes d51) rfl rfl ?_
    refine XS.aload X13.here hexec rfl (hb hbytes d52) rfl rfl ?_
    exact Steps.refl _)
  obtain ⟨T15, X15, p15, bl15, sl15, st15⟩ := X13.finit hexec hown (wk W (.fieldLink "java/lang/String" 9 "java/lang/String" "value" "[B")) (Or.inr ⟨_, (wk W (.laysFinal "java/lang/String" "java/lang/String" "value" "[B"))⟩) (Or.inl ⟨rfl, hnm⟩) f1 (Or.inl rfl) bl13 (t := (.array .byte)) (by decide +kernel) rfl (g := (mkF m 54 #[.val (.ref a), .val (.ref b), .val (.int (Int32.ofNat o)), .val (.int (Int32.ofNat len)), .val .null, .val (.ref s.heap.size)] [.ref s.heap.size, .ref a])) rfl (rest := []) rfl (hb hbytes d54)
  have c16 : Steps p.tables e below (s₁.setTop (entryFrame m #[.ref a, .ref b, .int (Int32.ofNat o), .int (Int32.ofNat len), .null] 6)) (T15.setTop (mkF m 57 #[.val (.ref a), .val (.ref b), .val (.int (Int32.ofNat o)), .val (.int (Int32.ofNat len)), .val .null, .val (.ref s.heap.size)] [])) := c14.trans (st15 _ (Steps.refl _))
  have ap := apart (Or.inr ⟨_, (wk W (.laysFinal "java/lang/String" "java/lang/String" "value" "[B"))⟩) (Or.inr ⟨_, (wk W (.laysFinal "java/lang/String" "java/lang/String" "coder" "B"))⟩) f1 f2 (t₁ := .array .byte) (t₂ := .byte) (by decide +kernel) (by decide +kernel) (by decide)
  have al := X8.warmed.alike.symm.trans X15.warmed.alike
  have n7 : T11.heap[s.heap.size]? = some N := by rw [q11]; exact n1.1
  exact ⟨T15, none, _, _, _, X15, by simp, rfl, by omega, (fun _ => rfl), ⟨rfl, _, N, bl15, ((Same.refl D _).set _ (by simp)).set _ (by simp), sl15, (Cell.slots_setSlot_ne _ ap).trans sl13, n1.keep al (p15.other hne (p13.other hne n7)), n2, by rw [al.findClass]; exact n3, n4, n5, fun y c h1 h2 => p15.other h1 (p13.other h1 (by rw [q11]; exact n6 y c h2)), by rw [p15.2.2, p13.2.2, q11]; exact z8⟩, fun fs hl => c16.trans (X15.returnOut hexec hret (hb hbytes d57) hl)⟩
end New4
namespace New1
def yN : MethodName := ⟨"java/lang/String", "<init>", "([C)V"⟩
abbrev yB : ByteArray := jdk_42_method_3_code
theorem d0 : decode yB 0 = .ok (.aload_n 0, 1) := by decide +kernel
theorem d1 : decode yB 1 = .ok (.aload_n 1, 1) := by decide +kernel
theorem d2 : decode yB 2 = .ok (.iconst 0, 1) := by decide +kernel
theorem d3 : decode yB 3 = .ok (.aload_n 1, 1) := by decide +kernel
theorem d4 : decode yB 4 = .ok (.arraylength, 1) := by decide +kernel
theorem d5 : decode yB 5 = .ok (.aconst_null, 1) := by decide +kernel
theorem d6 : decode yB 6 = .ok (.invokespecial 27, 3) := by decide +kernel
theorem d9 : decode yB 9 = .ok (.return_, 1) := by decide +kernel
def site : List Cond := [New4.tab] ++ initW "java/lang/String" 27 New4.yN
def tab : Cond := tabOf yN yB 2 none site
def P (a : Addr) (D : Cell) (fV fC : Field) (b : Addr) (A : Cell) (z : Int32) (args : Array Value) (s : State) : Prop := args = #[.ref a, .ref b] ∧ Blank "java/lang/String" a D s ∧ Found "java/lang/String" "value" "[B" fV s ∧ Found "java/lang/String" "coder" "B" fC s ∧ Ch b A s ∧ StaticIs s "java/lang/String" "COMPACT_STRINGS" "Z" (.int z) ∧ ¬ z = 0 ∧ 0 < A.slots.size ∧ A.slots.size ≤ 536870912 ∧ ∀ i, i < A.slots.size → ¬ 255 < cv A i
def E (a : Addr) (D : Cell) (fV fC : Field) (A : Cell) (r : Option Value) (s u : State) : Prop := Got a D fV fC A 0 A.slots.size r s u
/-- new String(chars), not empty, no char above 255: a Latin-1 String of their low bytes -/
theorem law (l : Launch) (a : Addr) (D : Cell) (fV fC : Field) (b : Addr) (A : Cell) (z : Int32) : Law l yN 2 1 3 52 yB 2 none site (P a D fV fC b A z) (E a D fV fC A) [⟨a, fC.slot⟩, ⟨a, fV.slot⟩] 1 A.slots.size := by
  refine Law.of_walk (plainFor_of_name (by decide +kernel)) (by decide +kernel) (by decide +kernel) (by decide) (fun _ _ h => by rw [h.1]; rfl) (fun _ U U' hal hh h => ⟨h.1, h.2.1.mv hal hh, h.2.2.1.al hal, h.2.2.2.1.al hal, h.2.2.2.2.1.mv hal hh, h.2.2.2.2.2.1.there hal hh, h.2.2.2.2.2.2⟩) (fun r U U' V V' h1 hal h2 h => Got.mv r U U' V V' h1 hal h2 h) ?_
  intro p e s m args below meth c s₁ X0 hexec hbytes hml hret hlk hnm hown hh0 W hP
  obtain ⟨rfl, hB, f1, f2, hA, s1, hz, l0, l2, hp⟩ := hP
  have c1 : Steps p.tables e below (s₁.setTop (entryFrame m #[.ref a, .ref b] 2)) (s₁.setTop (mkF m 0 #[.val (.ref a), .val (.ref b)] [])) := entry rfl
  have c2 : Steps p.tables e below (s₁.setTop (entryFrame m #[.ref a, .ref b] 2)) (s₁.setTop (mkF m 6 #[.val (.ref a), .val (.ref b)] [.null, .int (Int32.ofNat A.slots.size), .int 0, .ref b, .ref a])) := c1.trans (by
    refine XS.aloadN X0.here hexec rfl (hb hbytes d0) rfl rfl ?_
    refine XS.aloadN X0.here hexec rfl (hb hbytes d1) rfl rfl ?_
    refine iconstV X0.here hexec rfl 0 (hb hbytes d2) (by decide) ?_
    refine XS.aloadN X0.here hexec rfl (hb hbytes d3) rfl rfl ?_
    refine X0.alen hexec (hA.1.mv X0.warmed.alike hh0) rfl rfl (hb hbytes d4) ?_
    refine XS.aconstNull X0.here hexec rfl (hb hbytes d5) ?_
    exact Steps.refl _)
  obtain ⟨v3, T3, X3, E3, g3⟩ := X0.callN hexec (New4.law l a D fV fC b A z 0 A.slots.size) rfl hown (wks W (initW "java/lang/String" 27 New4.yN)) (W New4.tab (by simp only [site, List.mem_cons, List.mem_append, true_or, or_true])) (W := 0) (Nat.le_of_ble_eq_true rfl) (Nat.le_of_ble_eq_true rfl) (Nat.le_refl _) (by show 0 + A.slots.size ≤ A.slots.size; omega) (g := (mkF m 6 #[.val (.ref a), .val (.ref b)] [.null, .int (Int32.ofNat A.slots.size), .int (Int32.ofNat 0), .ref b, .ref a])) rfl (by rw [hml]; rfl) c2 (argsL := [.ref b, .int (Int32.ofNat 0), .int (Int32.ofNat A.slots.size), .null]) (rest := []) rfl rfl (by show 2 * 0 + 0 ≤ _; decide) (hb hbytes d6) (⟨rfl, hB.mv X0.warmed.alike hh0, f1.al X0.warmed.alike, f2.al X0.warmed.alike, hA.mv X0.warmed.alike hh0, s1.there X0.warmed.alike hh0, hz, l0, by omega, l2, fun i hi => by rw [Nat.zero_add]; exact hp i hi⟩)
  have e0 := Got.mv _ s₁ s _ _ hh0.symm (Vm.Alike.refl _) rfl E3
  obtain rfl := e0.1
  have c4 : Steps p.tables e below (s₁.setTop (entryFrame m #[.ref a, .ref b] 2)) (T3.setTop (mkF m 9 #[.val (.ref a), .val (.ref b)] [])) := g3
  exact ⟨T3, none, _, _, _, X3, by simp, rfl, by omega, (fun _ => rfl), e0, fun fs hl => c4.trans (X3.returnOut hexec hret (hb hbytes d9) hl)⟩
theorem pays {l : Launch} {R : Room} {p : Program} {e : Env} {below : List Frame} {s : State} {sargs : Array Value} {len W : Nat} (a : Addr) (D : Cell) (fV fC : Field) (b : Addr) (A : Cell) (z : Int32) (htab : tab.before sargs s = true) (hfr : 4 ≤ R.frames) (hlo : W + 65 ≤ R.locals) :
    Back l R p e below s sargs yN len W (fun A₁ a₁ => A₁.cells + 1 ≤ R.cells ∧ A₁.slots + A.slots.size ≤ R.slots ∧ P a D fV fC b A z a₁ A₁.U) (fun A₁ _ v₁ B₁ => E a D fV fC A v₁ A₁.U B₁.U ∧ B₁.locs = A₁.locs ++ [⟨a, fC.slot⟩, ⟨a, fV.slot⟩] ∧ B₁.cells = A₁.cells + 1 ∧ B₁.slots = A₁.slots + A.slots.size) :=
  (law l a D fV fC b A z).pays htab hfr (by omega)
end New1
/-- the byte, read back as charAt reads it, is the char -/
theorem lo8_mask {x : Int32} (h0 : ¬ x < 0) (h1 : ¬ 255 < x) : lo8 x &&& 255 = x := by
  have t : ∀ k : Fin 256, lo8 (Int32.ofNat k.val) &&& 255 = Int32.ofNat k.val := by decide +kernel
  rw [Int32.lt_iff_toInt_lt] at h0 h1
  have e0 : (0 : Int32).toInt = 0 := rfl
  have e1 : (255 : Int32).toInt = 255 := rfl
  obtain ⟨k, hk⟩ : ∃ k : Nat, x.toInt = k := ⟨x.toInt.toNat, by omega⟩
  have hx : x = Int32.ofNat k := Int32.toInt_inj.mp (by rw [hk, Int32.toInt_ofNat_small (by omega)])
  rw [hx]
  exact t ⟨k, by omega⟩
end StrChars
namespace StrChars.Road
open Jvm Sem ClassFile Op Lib Jvm.Stand Jvm.Free Jvm.Free.XT
open Jvm.Lib.Cold (StaticIs)
abbrev ST : String := "java/lang/String"
/-- every table word that New1's law asks, flat -/
abbrev words : List Jvm.Cond := [.code New1.yN New1.yB 2 none, .initialized ST, .methodLink ST 27 New4.yN, .instanceMethod New4.yN,
  .code New4.yN New4.yB 6 none, .fieldLink ST 38 ST "COMPACT_STRINGS" "Z", .laysFinal ST ST "value" "[B", .fieldLink ST 9 ST "value" "[B", .laysFinal ST ST "coder" "B", .fieldLink ST 15 ST "coder" "B",
  .methodLink ST 1 Lib.objectInit, .instanceMethod Lib.objectInit, .code Lib.objectInit ⟨#[0xb1]⟩ 1 none, .methodLink ST 177 Cmp3.yN, .static Cmp3.yN, .methodLink ST 47 CodL.yN, .static CodL.yN,
  .code Cmp3.yN Cmp3.yB 6 (some (.array .byte)), .initialized U16, .arrayClass .byte, .methodLink U16 115 Cmp5.yN, .static Cmp5.yN, .code Cmp5.yN Cmp5.yB 7 (some .int), .code CodL.yN CodL.yB 2 (some .byte)]
theorem tab_of {a : Array Value} {s : State} (h : ∀ w ∈ words, w.before a s = true) : New1.tab.before a s = true := by
  have h5 : Cmp5.tab.before a s = true := unparts (wk h (.code Cmp5.yN Cmp5.yB 7 (some .int))) (wks h (.initialized Cmp5.yN.cls :: Cmp5.site))
  have hc : CodL.tab.before a s = true := unparts (wk h (.code CodL.yN CodL.yB 2 (some .byte))) (wks h (.initialized CodL.yN.cls :: CodL.site))
  have q5 : ∀ w ∈ Cmp5.tab :: words, w.before a s = true := fun w hw => (List.mem_cons.mp hw).elim (fun e => e ▸ h5) (h w)
  have h3 : Cmp3.tab.before a s = true := unparts (wk q5 (.code Cmp3.yN Cmp3.yB 6 (some (.array .byte)))) (wks q5 (.initialized Cmp3.yN.cls :: Cmp3.site))
  have q3 : ∀ w ∈ Cmp3.tab :: CodL.tab :: words, w.before a s = true := fun w hw => (List.mem_cons.mp hw).elim (fun e => e ▸ h3) fun hw => (List.mem_cons.mp hw).elim (fun e => e ▸ hc) (h w)
  have h4 : New4.tab.before a s = true := unparts (wk q3 (.code New4.yN New4.yB 6 none)) (wks q3 (.initialized New4.yN.cls :: New4.site))
  have q4 : ∀ w ∈ New4.tab :: words, w.before a s = true := fun w hw => (List.mem_cons.mp hw).elim (fun e => e ▸ h4) (h w)
  exact unparts (wk q4 (.code New1.yN New1.yB 2 none)) (wks q4 (.initialized New1.yN.cls :: New1.site))
/-- the words ride from the start Z to the walk's own state -/
theorem moved {Z s : State} {a0 args : Array Value} (hZ : Z.Warmed39 s.vm) (hw : ∀ d ∈ words, d.before a0 Z = true) : ∀ d ∈ words, d.before args s = true := fun d hd => by
  have q := hw d hd
  have t : ∀ d ∈ words, d = .arrayClass .byte ∨ (d.onTables && d.keepsFace) = true := by decide +kernel
  rcases t d hd with rfl | t
  · exact RoadKit.mvA hZ q
  · exact RoadKit.mv hZ q t
/-- WHAT COMES BACK, over the tables of the start Z: h the heap at the call, h' behind it -/
def Q (Z : State) (x : Addr) (A : Cell) (h : Heap) (v : Option Value) (h' : Heap) (L : List Loc) : Prop := v = none ∧ (∀ y ∈ L, y.base = x) ∧ RoadKit.Keep h h' [x] ∧ h'.size = h.size + 1 ∧ RoadKit.Exa Z h' x ST ∧ RoadKit.Fld Z h' x ST "value" "[B" (.ref h.size) ∧ RoadKit.Fld Z h' x ST "coder" "B" (.int 0) ∧
  (∃ V : Cell, RoadKit.Arr Z h' h.size V .byte ∧ V.vm = .none ∧ Z.vm.findClass "[B" = some V.cls ∧ V.slots.size = A.slots.size ∧ ∀ j, j < A.slots.size → V.slots[j]? = some (.int (lo8 (cv A j)))) ∧
  ∀ (O n d : String) (w : Value), RoadKit.Fld Z h x O n d w → RoadKit.slotOf Z O n d ≠ RoadKit.slotOf Z ST "value" "[B" → RoadKit.slotOf Z O n d ≠ RoadKit.slotOf Z ST "coder" "B" → RoadKit.Fld Z h' x O n d w
/-- **new String(chars) AT A CALL, IN THE ROAD'S FORM**: for specialBack behind newO: x the fresh String, b the char[] with the cell A -/
theorem back {p : Program} {l : Launch} {e : Env} {R : Room} {s : State} {args : Array Value} {below : List Frame} {len W : Nat} {Z : State} {a0 : Array Value} {h : Heap} (hZ : Z.Warmed39 s.vm) (hw : ∀ d ∈ words, d.before a0 Z = true) {kI : Nat} (wi : (Jvm.Cond.instantiable ST kI).before a0 Z = true)
    {x b : Addr} {A : Cell} {z : Int32} {v0 c0 : Value} (E : RoadKit.Exa Z h x ST) (V : RoadKit.Fld Z h x ST "value" "[B" v0) (C : RoadKit.Fld Z h x ST "coder" "B" c0) (K : RoadKit.Arr Z h b A .char) (hty : Typed .char A) (S : RoadKit.Sta Z h ST "COMPACT_STRINGS" "Z" (.int z)) (hz : ¬ z = 0)
    (l0 : 0 < A.slots.size) (l2 : A.slots.size ≤ 536870912) (hp : ∀ i, i < A.slots.size → ¬ 255 < cv A i) (hfr : 4 ≤ R.frames) (hlo : W + 65 ≤ R.locals) :
    Back l R p e below s args New1.yN len W (fun P a => a = #[.ref x, .ref b] ∧ P.U.heap = h ∧ P.cells + 1 ≤ R.cells ∧ P.slots + A.slots.size ≤ R.slots)
      (fun P _ v B => ∃ L, Q Z x A h v B.U.heap L ∧ B.locs = P.locs ++ L ∧ B.cells = P.cells + 1 ∧ B.slots = P.slots + A.slots.size) := by
  intro m meth c P g ig mk a X hg hsize hdg hW hn hp'
  obtain ⟨rfl, rfl, r1, r2⟩ := hp'
  have al : Z.vm.Alike P.U.vm := hZ.alike.trans X.warmed.alike
  obtain ⟨D, cfV, kV, iV, fV, hD, gV, stV, knV, obV, asV, slV⟩ := id V
  obtain ⟨D', cfC, kC, iC, fC, hD', gC, stC, -, -, asC, slC⟩ := id C
  cases hD.symm.trans hD'
  obtain ⟨D2, kD, e1, e2, e3, e4, e5⟩ := id E
  cases hD.symm.trans e1
  obtain ⟨c2, k2, i1, i2, i3, -⟩ := Cond.instantiable_spec wi
  cases e2.symm.trans i1
  cases e3.symm.trans i2
  obtain ⟨kU, u1, u2⟩ := al.2.2 _ _ e3
  have hB : Blank ST x D P.U := ⟨hD, ⟨knV, fun q hq => by rw [hq] at obV; cases obV⟩, by rw [al.findClass]; exact e2, kU, u1, by rw [u2]; exact i3, by rw [u2]; exact e5 i3⟩
  have F1 : Found ST "value" "[B" fV P.U := ⟨SBG.found_only al ⟨cfV, kV, iV, gV⟩, stV⟩
  have F2 : Found ST "coder" "B" fC P.U := ⟨SBG.found_only al ⟨cfC, kC, iC, gC⟩, stC⟩
  have hA : Ch b A P.U := ⟨⟨K.1, State.isArrayOf_alike al K.2.1, K.2.2, by omega⟩, hty⟩
  have hS : StaticIs P.U ST "COMPACT_STRINGS" "Z" (.int z) := by
    obtain ⟨cfS, iS, kS, fS, st, cS, t1, t2, t3, t4, t5, t6, t7⟩ := S
    exact StaticIs.there (s := { Z with heap := P.U.heap }) ⟨cfS, iS, kS, fS, st, cS, t1, t2, t3, t4, t5, (fun q => by rw [q] at t6; cases t6), t7⟩ al rfl
  obtain ⟨v, B, X', ⟨⟨hv, E', V', q1, q2, q3, q4, q5, q6, q7, q8, q9, q10, q11⟩, hl, hc, hs⟩, st⟩ := New1.pays x D fV fC b A z (tab_of (moved hZ hw)) hfr hlo m meth c P g ig mk _ X hg hsize hdg hW hn ⟨r1, r2, rfl, hB, F1, F2, hA, hS, hz, l0, l2, hp⟩
  have al' : Z.vm.Alike B.U.vm := hZ.alike.trans X'.warmed.alike
  have hsz : E'.slots.size = D.slots.size := by
    obtain ⟨-, -, -, kB, w1, w2, w3⟩ := q1
    obtain ⟨kB', y1, y2⟩ := al'.2.2 _ _ e3
    rw [q2.2.1] at w1
    cases w1.symm.trans y1
    rw [w3, e5 i3, y2]
  refine ⟨v, B, X', ⟨_, ⟨hv, ?_, ⟨by omega, fun y cy hy hn' => q10 y cy (by simpa using hn') hy, fun y cy hy => ?_⟩, q11, ⟨E', _, q1.1, by rw [q2.2.1]; exact e2, by rw [q2.2.1]; exact e3, by rw [q2.1]; exact obV, fun _ => by rw [hsz]; exact e5 i3⟩,
    ⟨E', cfV, kV, iV, fV, q1.1, gV, stV, by rw [q2.1]; exact knV, by rw [q2.1]; exact obV, by rw [q2.2.1]; exact asV, q3⟩, ⟨E', cfC, kC, iC, fC, q1.1, gC, stC, by rw [q2.1]; exact knV, by rw [q2.1]; exact obV, by rw [q2.2.1]; exact asC, q4⟩,
    ⟨V', ⟨q5.1, State.isArrayOf_alike al'.symm q5.2.1, q5.2.2.1⟩, q6, by rw [← al'.findClass]; exact q7, q8, fun j hj => by have := q9 j hj; rwa [Nat.zero_add] at this⟩, fun O n d w F n1 n2 => ?_⟩, hl, hc, hs⟩, st⟩
  · intro y hy
    simp only [List.mem_cons, List.not_mem_nil, or_false] at hy
    rcases hy with rfl | rfl <;> rfl
  · by_cases q : y = x
    · subst q
      cases hD.symm.trans hy
      exact ⟨E', q1.1, q2.2.1, q2.1, hsz⟩
    · exact ⟨cy, q10 y cy q hy, rfl, rfl, rfl⟩
  · obtain ⟨D3, cf, k, i, f, g1, g2, g3, g4, g5, g6, g7⟩ := F
    cases hD.symm.trans g1
    simp only [RoadKit.slotOf, g2, gV, gC, Option.map_some, Option.getD_some] at n1 n2
    exact ⟨E', cf, k, i, f, q1.1, g2, g3, by rw [q2.1]; exact g4, by rw [q2.1]; exact g5, by rw [q2.2.1]; exact g6, by rw [q2.2.2 f.slot (by simp [n1, n2])]; exact g7⟩
end StrChars.Road
namespace StrChars.Road
open Jvm Sem ClassFile Op Lib Jvm.Stand Jvm.Free Jvm.Free.XT
/-- WHAT COMES BACK, the byte[] as a list of values -/
def QA (Z : State) (x : Addr) (zn : Int32) (cs : List Int32) (h : Heap) (v : Option Value) (h' : Heap) (L : List Loc) : Prop := v = none ∧ (∀ y ∈ L, y.base = x) ∧ RoadKit.Keep h h' [x] ∧ h'.size = h.size + 1 ∧ RoadKit.Exa Z h' x ST ∧ RoadKit.Fld Z h' x ST "value" "[B" (.ref h.size) ∧ RoadKit.Fld Z h' x ST "coder" "B" (.int 0) ∧
  (∃ kb, Z.vm.findClass "[B" = some kb ∧ RoadKit.Arv Z h' h.size kb .byte zn (cs.map fun c => .int (lo8 c)) (.int 0)) ∧
  ∀ (O n d : String) (w : Value), RoadKit.Fld Z h x O n d w → RoadKit.slotOf Z O n d ≠ RoadKit.slotOf Z ST "value" "[B" → RoadKit.slotOf Z O n d ≠ RoadKit.slotOf Z ST "coder" "B" → RoadKit.Fld Z h' x O n d w
/-- **new String(chars) AT A CALL, THE ARRAYS AS LISTS**: the char[] at b holds cs, not empty, no char above 255 -/
theorem backArv {p : Program} {l : Launch} {e : Env} {R : Room} {s : State} {args : Array Value} {below : List Frame} {len W : Nat} {Z : State} {a0 : Array Value} {h : Heap} (hZ : Z.Warmed39 s.vm) (hw : ∀ d ∈ words, d.before a0 Z = true) {kI : Nat} (wi : (Jvm.Cond.instantiable ST kI).before a0 Z = true)
    {x b : Addr} {k : ClassId} {zn z : Int32} {cs : List Int32} {dv v0 c0 : Value} (E : RoadKit.Exa Z h x ST) (V : RoadKit.Fld Z h x ST "value" "[B" v0) (C : RoadKit.Fld Z h x ST "coder" "B" c0) (K : RoadKit.Arv Z h b k .char zn (cs.map Value.int) dv) (S : RoadKit.Sta Z h ST "COMPACT_STRINGS" "Z" (.int z)) (hz : ¬ z = 0)
    (hlen : zn.toNatClampNeg = cs.length) (h0 : 0 < cs.length) (hbig : cs.length ≤ 536870912) (hall : ∀ c ∈ cs, ¬ 255 < c) (hfr : 4 ≤ R.frames) (hlo : W + 65 ≤ R.locals) :
    Back l R p e below s args New1.yN len W (fun P a => a = #[.ref x, .ref b] ∧ P.U.heap = h ∧ P.cells + 1 ≤ R.cells ∧ P.slots + cs.length ≤ R.slots)
      (fun P _ v B => ∃ L, QA Z x zn cs h v B.U.heap L ∧ B.locs = P.locs ++ L ∧ B.cells = P.cells + 1 ∧ B.slots = P.slots + cs.length) := by
  obtain ⟨A, K1, K2, K3, K4, K5, K6⟩ := K
  have e : A.slots.size = cs.length := K3.trans hlen
  have hat : ∀ (i : Nat) (hi : i < cs.length), A.slots[i]? = some (.int cs[i]) := fun i hi => by rw [K5 i (by omega)]; simp [List.getD_eq_getElem?_getD, hi]
  have hcv : ∀ (i : Nat) (hi : i < cs.length), cv A i = cs[i] := fun i hi => by unfold cv; rw [hat i hi]
  have hty : Typed .char A := fun i v hv => by
    have hi : i < A.slots.size := (Array.getElem?_eq_some_iff.mp hv).1
    have q := K5 i hi
    rw [hv] at q
    rw [Option.some.inj q]
    exact K6 i hi
  refine Back.mono (back hZ hw wi E V C K1 hty S hz (by omega) (by omega) (fun i hi => by rw [hcv i (by omega)]; exact hall _ (List.getElem_mem _)) hfr hlo) (fun P a hp => ⟨hp.1, hp.2.1, hp.2.2.1, by rw [e]; exact hp.2.2.2⟩) (fun P a v B hp hq => ?_)
  obtain ⟨L, ⟨q1, q2, q3, q4, q5, q6, q7, ⟨V', v1, v2, v3, v4, v5⟩, q9⟩, hl, hc, hs⟩ := hq
  refine ⟨L, ⟨q1, q2, q3, q4, q5, q6, q7, ⟨V'.cls, v3, V', v1, rfl, by rw [v4, e, hlen], K4, fun i hi => ?_, fun i hi => ?_⟩, q9⟩, hl, hc, by rw [hs, e]⟩
  · have hi' : i < cs.length := by omega
    rw [v5 i (by omega), hcv i hi']; simp [List.getD_eq_getElem?_getD, hi']
  · have hi' : i < cs.length := by omega
    simp only [List.getD_eq_getElem?_getD, List.getElem?_map, List.getElem?_eq_getElem hi', Option.map_some, Option.getD_some]
    exact fits_lo8 _
end StrChars.Road
namespace StrChars.Road
open Jvm Sem ClassFile Op Lib Jvm.Stand Jvm.Free Jvm.Free.XT
/-- WHAT COMES BACK, in the writer's own shape -/
def QV (Z : State) (x : Addr) (N : Int32) (bs : List Int32) (h : Heap) (n0 : Nat) (v : Option Value) (h' : Heap) (L : List Loc) : Prop := v = none ∧ RoadKit.Fr n0 L ∧ RoadKit.Keep h h' [x] ∧ RoadKit.Exa Z h' x ST ∧ RoadKit.Fld Z h' x ST "coder" "B" (.int 0) ∧
  ∃ (t : Addr) (kb : ClassId), n0 ≤ t ∧ h.size ≤ t ∧ ¬ t = x ∧ RoadKit.Fld Z h' x ST "value" "[B" (.ref t) ∧ RoadKit.Arv Z h' t kb .byte N (bs.map Value.int) (.int 0)
/-- **new String(chars) AT A CALL, FOR THE WRITER**: a char[] of n known ints, each 0 to 255 -/
theorem backV {p : Program} {l : Launch} {e : Env} {R : Room} {s : State} {args : Array Value} {below : List Frame} {len W : Nat} {Z : State} {a0 : Array Value} {h : Heap} (hZ : Z.Warmed39 s.vm) (hw : ∀ d ∈ words, d.before a0 Z = true) {kI : Nat} (wi : (Jvm.Cond.instantiable ST kI).before a0 Z = true)
    {x b : Addr} {kC : ClassId} {cs bs : List Int32} {d v0 c0 : Value} {z N : Int32} {n n0 : Nat} (hx0 : n0 ≤ x) (hh0 : n0 ≤ h.size) (E : RoadKit.Exa Z h x ST) (V : RoadKit.Fld Z h x ST "value" "[B" v0) (C : RoadKit.Fld Z h x ST "coder" "B" c0) (K : RoadKit.Arv Z h b kC .char N (cs.map Value.int) d) (S : RoadKit.Sta Z h ST "COMPACT_STRINGS" "Z" (.int z)) (hz : ¬ z = 0)
    (hn : cs.length = n) (hN : N = Int32.ofNat n) (l0 : 0 < n) (l2 : n ≤ 4000) (hp : ∀ c ∈ cs, ¬ c < 0 ∧ ¬ (255 : Int32) < c) (hb : bs = cs.map (fun c => c.toInt8.toInt32)) (hfr : 4 ≤ R.frames) (hlo : W + 65 ≤ R.locals) :
    Back l R p e below s args (⟨"java/lang/String", "<init>", "([C)V"⟩ : MethodName) len W (fun P a => a = #[.ref x, .ref b] ∧ P.U.heap = h ∧ P.cells + 1 ≤ R.cells ∧ P.slots + n ≤ R.slots)
      (fun P _ v B => ∃ L, QV Z x N bs h n0 v B.U.heap L ∧ B.locs = P.locs ++ L ∧ B.cells = P.cells + 1 ∧ B.slots = P.slots + n) := by
  subst hn hN hb
  refine Back.mono (backArv hZ hw wi E V C K S hz (n32 (by omega)) l0 (by omega) (fun c hc => (hp c hc).2) hfr hlo) (fun P a hp => hp) (fun P a v B hp hq => ?_)
  obtain ⟨L, ⟨q1, q2, q3, q4, q5, q6, q7, ⟨kb, v1, v2⟩, q9⟩, hl, hc, hs⟩ := hq
  exact ⟨L, ⟨q1, fun y hy => by rw [q2 y hy]; exact hx0, q3, q5, q7, h.size, kb, hh0, Nat.le_refl _, Nat.ne_of_gt E.lt, q6, by rw [List.map_map]; exact v2⟩, hl, hc, hs⟩
end StrChars.Road
namespace StrChars
open Jvm Sem ClassFile Op Lib Jvm.Stand Jvm.Free.XT Jvm.Free.ALB Jvm.Free.JM Jvm.Free
open Jvm.Lib.Cold (StaticIs)
def hi8 (x : Int32) : Int32 := lo8 (x >>> ((8 : Int32) &&& 31))
/-- what StringUTF16.getChar makes of two bytes -/
def pairCh (u v : Int32) : Int32 := (((u &&& 255) <<< ((0 : Int32) &&& 31)) ||| ((v &&& 255) <<< ((8 : Int32) &&& 31))).toUInt32.toUInt16.toUInt32.toInt32
theorem lo8_and (x : Int32) : (lo8 x &&& 255).toBitVec.toNat = x.toBitVec.toNat % 256 := by
  have h : (lo8 x).toBitVec = (x.toBitVec.signExtend 8).signExtend 32 := by rw [lo8, Int8.toBitVec_toInt32, Int32.toBitVec_toInt8]
  rw [Int32.toBitVec_and, BitVec.toNat_and, h]
  have e : ((x.toBitVec.signExtend 8).signExtend 32).toNat % 256 = x.toBitVec.toNat % 256 := by
    rw [BitVec.toNat_signExtend]
    have hlt := x.toBitVec.isLt
    simp only [BitVec.toNat_setWidth, BitVec.toNat_signExtend]
    split <;> split <;> omega
  rw [← e]
  exact Nat.and_two_pow_sub_one_eq_mod _ 8
theorem pair_says {c : Int32} (h0 : ¬ c < 0) (h1 : ¬ 65535 < c) : pairCh (lo8 c) (hi8 c) = c := by
  rw [Int32.lt_iff_toInt_lt] at h0 h1
  have e0 : (0 : Int32).toInt = 0 := rfl
  have e1 : (65535 : Int32).toInt = 65535 := rfl
  have hc : c.toInt = c.toBitVec.toNat := by
    have := c.toBitVec.isLt
    have e : c.toInt = c.toBitVec.toInt := rfl
    rw [e] at h0 h1
    rw [e]
    rw [BitVec.toInt_eq_toNat_cond] at h0 h1 ⊢
    split at h0 <;> split <;> omega
  have hn : c.toBitVec.toNat < 65536 := by omega
  have a1 := lo8_and c
  have a2 : (hi8 c &&& 255).toBitVec.toNat = c.toBitVec.toNat / 256 := by
    rw [hi8, lo8_and]
    have e : ((8 : Int32) &&& 31) = 8 := by decide
    rw [e, Int32.toBitVec_shiftRight]
    have e2 : ((8 : Int32).toBitVec.smod 32) = 8#32 := by decide
    rw [e2, BitVec.sshiftRight_eq', BitVec.toNat_sshiftRight_of_msb_false (by rw [BitVec.msb_eq_false_iff_two_mul_lt]; omega)]
    show c.toBitVec.toNat >>> 8 % 256 = _
    rw [Nat.shiftRight_eq_div_pow]
    omega
  unfold pairCh
  apply Int32.toBitVec_inj.mp
  apply BitVec.eq_of_toNat_eq
  have f0 : ((0 : Int32) &&& 31) = 0 := by decide
  have f8 : ((8 : Int32) &&& 31) = 8 := by decide
  rw [f0, f8]
  have g : (((lo8 c &&& 255) <<< (0 : Int32)) ||| ((hi8 c &&& 255) <<< (8 : Int32))).toBitVec.toNat = c.toBitVec.toNat := by
    rw [Int32.toBitVec_or, Int32.toBitVec_shiftLeft, Int32.toBitVec_shiftLeft]
    have s0 : ((0 : Int32).toBitVec.smod 32) = 0#32 := by decide
    have s8 : ((8 : Int32).toBitVec.smod 32) = 8#32 := by decide
    rw [s0, s8, BitVec.toNat_or]
    simp only [BitVec.shiftLeft_eq', BitVec.toNat_shiftLeft, a1, a2]
    show (c.toBitVec.toNat % 256) <<< 0 % 2 ^ 32 ||| (c.toBitVec.toNat / 256) <<< 8 % 2 ^ 32 = _
    rw [Nat.shiftLeft_zero, Nat.mod_eq_of_lt (show c.toBitVec.toNat % 256 < 2 ^ 32 by omega), Nat.mod_eq_of_lt (show (c.toBitVec.toNat / 256) <<< 8 < 2 ^ 32 by rw [Nat.shiftLeft_eq]; omega), Nat.or_comm, ← Nat.shiftLeft_add_eq_or_of_lt (by omega), Nat.shiftLeft_eq]
    omega
  show BitVec.toNat (((((lo8 c &&& 255) <<< (0 : Int32)) ||| ((hi8 c &&& 255) <<< (8 : Int32))).toBitVec.setWidth 16).setWidth 32) = _
  rw [BitVec.toNat_setWidth, BitVec.toNat_setWidth, g]
  omega
end StrChars
namespace StrChars
open Jvm Sem ClassFile Op Lib Jvm.Stand Jvm.Free.XT Jvm.Free.ALB Jvm.Free.JM Jvm.Free
open Jvm.Lib.Cold (StaticIs)
/-- the array's cell V codes the n chars f 0 .. f (n - 1) by the coder cd, as the JDK does: coder 1 just where some char is above 255 -/
def Cod (cd : Int32) (n : Nat) (f : Nat → Int32) (V : Cell) : Prop := (cd = 0 ∧ V.slots.size = n ∧ ∀ j, j < n → V.slots[j]? = some (.int (lo8 (f j))) ∧ ¬ 255 < f j) ∨ (cd = 1 ∧ V.slots.size = 2 * n ∧ (∀ j, j < n → V.slots[2 * j]? = some (.int (lo8 (f j))) ∧ V.slots[2 * j + 1]? = some (.int (hi8 (f j)))) ∧ ∃ j, j < n ∧ 255 < f j)
/-- **x is a String of the n chars f 0 .. f (n - 1)**, Latin-1 or UTF-16; its array at t has the cell V -/
def Txt (x t : Addr) (V : Cell) (cd : Int32) (n : Nat) (f : Nat → Int32) (U : State) : Prop := Exact "java/lang/String" x U ∧ Has x "java/lang/String" "value" "[B" (.ref t) U ∧ Has x "java/lang/String" "coder" "B" (.int cd) U ∧ XT.Arr .byte t V U ∧ Cod cd n f V ∧ ∀ j, j < n → ¬ f j < 0 ∧ ¬ 65535 < f j
theorem Txt.mv {x t : Addr} {V : Cell} {cd : Int32} {n : Nat} {f : Nat → Int32} {U U' : State} (h : Txt x t V cd n f U) (hal : U.vm.Alike U'.vm) (hh : U'.heap = U.heap) : Txt x t V cd n f U' := ⟨h.1.mv hal hh, h.2.1.mv hal hh, h.2.2.1.mv hal hh, h.2.2.2.1.mv hal hh, h.2.2.2.2⟩
end StrChars
namespace StrChars.Road
open Jvm Sem ClassFile Op Lib Jvm.Stand Jvm.Free Jvm.Free.XT
open Jvm.Lib.Cold (StaticIs)
theorem consq {a : Array Value} {s : State} {c : Jvm.Cond} {L : List Jvm.Cond} (h0 : c.before a s = true) (h : ∀ w ∈ L, w.before a s = true) : ∀ w ∈ c :: L, w.before a s = true := fun w hw => (List.mem_cons.mp hw).elim (fun e => e ▸ h0) (h w)
/-- the bytes of the chars cs, low before high -/
def wideBytes : List Int32 → List Value
  | [] => []
  | c :: cs => .int (lo8 c) :: .int (hi8 c) :: wideBytes cs
theorem wide_lo (d : Value) : ∀ (cs : List Int32) (j : Nat), j < cs.length → (wideBytes cs).getD (2 * j) d = .int (lo8 (cs.getD j 0))
  | [], j, h => absurd h (Nat.not_lt_zero j)
  | c :: cs, 0, _ => rfl
  | c :: cs, j + 1, h => by
    have q := wide_lo d cs j (by simpa using h)
    rw [show 2 * (j + 1) = 2 * j + 1 + 1 from by omega]
    simpa [wideBytes] using q
theorem wide_hi (d : Value) : ∀ (cs : List Int32) (j : Nat), j < cs.length → (wideBytes cs).getD (2 * j + 1) d = .int (hi8 (cs.getD j 0))
  | [], j, h => absurd h (Nat.not_lt_zero j)
  | c :: cs, 0, _ => rfl
  | c :: cs, j + 1, h => by
    have q := wide_hi d cs j (by simpa using h)
    rw [show 2 * (j + 1) + 1 = 2 * j + 1 + 1 + 1 from by omega]
    simpa [wideBytes] using q
theorem low_at (d : Value) (cs : List Int32) (j : Nat) (h : j < cs.length) : (cs.map fun c => Value.int (lo8 c)).getD j d = .int (lo8 (cs.getD j 0)) := by
  simp [List.getD_eq_getElem?_getD, h]
/-- an array of N2 bytes vs codes the chars cs by the coder cd -/
def CodA (cs : List Int32) (cd N2 : Int32) (vs : List Value) : Prop := (cd = 0 ∧ N2 = Int32.ofNat cs.length ∧ vs = (cs.map fun c => Value.int (lo8 c)) ∧ ∀ c ∈ cs, ¬ 255 < c) ∨ (cd = 1 ∧ N2 = Int32.ofNat (2 * cs.length) ∧ vs = wideBytes cs ∧ ∃ c ∈ cs, 255 < c)
theorem CodA.cod {cs : List Int32} {cd N2 : Int32} {vs : List Value} {V : Cell} (h : CodA cs cd N2 vs) (hn : 2 * cs.length < 2 ^ 31) (hs : V.slots.size = N2.toNatClampNeg) (hv : RoadKit.Has V vs (.int 0)) : Cod cd cs.length (fun j => cs.getD j 0) V := by
  rcases h with ⟨rfl, rfl, rfl, h⟩ | ⟨rfl, rfl, rfl, c, hc, hw⟩
  · rw [n32 (by omega)] at hs
    exact Or.inl ⟨rfl, hs, fun j hj => ⟨by rw [hv j (by omega), low_at _ _ _ hj], by
      have e : cs.getD j 0 = cs[j] := by simp [List.getD_eq_getElem?_getD, hj]
      show ¬ 255 < cs.getD j 0
      rw [e]; exact h _ (List.getElem_mem _)⟩⟩
  · rw [n32 (by omega)] at hs
    obtain ⟨j, hj, rfl⟩ := List.getElem_of_mem hc
    exact Or.inr ⟨rfl, hs, fun j hj => ⟨by rw [hv _ (by omega), wide_lo _ _ _ hj], by rw [hv _ (by omega), wide_hi _ _ _ hj]⟩, j, hj, by
      have e : cs.getD j 0 = cs[j] := by simp [List.getD_eq_getElem?_getD, hj]
      show 255 < cs.getD j 0
      rw [e]; exact hw⟩
/-- an object of exactly java/lang/String, its two fields found: as the laws ask it -/
theorem strObj {Z U : State} {a0 : Array Value} {kI : Nat} (wi : (Jvm.Cond.instantiable ST kI).before a0 Z = true) (al : Z.vm.Alike U.vm) {x : Addr} {v0 c0 : Value} (E : RoadKit.Exa Z U.heap x ST) (V : RoadKit.Fld Z U.heap x ST "value" "[B" v0) (C : RoadKit.Fld Z U.heap x ST "coder" "B" c0) :
    ∃ (D : Cell) (fV fC : Field), Blank ST x D U ∧ Found ST "value" "[B" fV U ∧ Found ST "coder" "B" fC U ∧ D.slots[fV.slot]? = some v0 ∧ D.slots[fC.slot]? = some c0 ∧ RoadKit.slotOf Z ST "value" "[B" = fV.slot ∧ RoadKit.slotOf Z ST "coder" "B" = fC.slot := by
  obtain ⟨D, cfV, kV, iV, fV, hD, gV, stV, knV, obV, asV, slV⟩ := V
  obtain ⟨D', cfC, kC, iC, fC, hD', gC, stC, -, -, asC, slC⟩ := C
  cases hD.symm.trans hD'
  obtain ⟨D2, kD, e1, e2, e3, e4, e5⟩ := E
  cases hD.symm.trans e1
  obtain ⟨c2, k2, i1, i2, i3, -⟩ := Cond.instantiable_spec wi
  cases e2.symm.trans i1
  cases e3.symm.trans i2
  obtain ⟨kU, u1, u2⟩ := al.2.2 _ _ e3
  exact ⟨D, fV, fC, ⟨hD, ⟨knV, fun q hq => by rw [hq] at obV; cases obV⟩, by rw [al.findClass]; exact e2, kU, u1, by rw [u2]; exact i3, by rw [u2]; exact e5 i3⟩, ⟨SBG.found_only al ⟨cfV, kV, iV, gV⟩, stV⟩, ⟨SBG.found_only al ⟨cfC, kC, iC, gC⟩, stC⟩, slV, slC, by simp [RoadKit.slotOf, gV], by simp [RoadKit.slotOf, gC]⟩
theorem sta_is {Z U : State} (al : Z.vm.Alike U.vm) {C n d : String} {v : Value} (S : RoadKit.Sta Z U.heap C n d v) : StaticIs U C n d v := by
  obtain ⟨cfS, iS, kS, fS, st, cS, t1, t2, t3, t4, t5, t6, t7⟩ := S
  exact StaticIs.there (s := { Z with heap := U.heap }) ⟨cfS, iS, kS, fS, st, cS, t1, t2, t3, t4, t5, (fun q => by rw [q] at t6; cases t6), t7⟩ al rfl
end StrChars.Road
namespace StrChars
open Jvm Sem ClassFile Op Lib Jvm.Stand Jvm.Free.XT Jvm.Free.ALB Jvm.Free.JM Jvm.Free
open Jvm.Lib.Cold (StaticIs)
/-- what place i of a byte[]'s cell holds -/
def yv (A : Cell) (i : Nat) : Int32 := match A.slots[i]? with | some (.int x) => x | _ => 0
theorem yv_get {a : Addr} {A : Cell} {U : State} (h : XT.Arr .byte a A U) (ht : Typed .byte A) {i : Nat} (hi : i < A.slots.size) : A.slots[i]? = some (.int (yv A i)) := by
  have e := Array.getElem?_eq_getElem hi
  have f := ht i _ e
  unfold yv; rw [e]
  generalize A.slots[i] = v at f
  cases v <;> simp [fits] at f ⊢
/-- the two arrays are equal, place for place -/
def EqC (A B : Cell) : Prop := A.slots.size = B.slots.size ∧ ∀ i, i < A.slots.size → yv A i = yv B i
/-- a boolean that says whether p -/
def Says01 (q : Prop) (r : Option Value) (s u : State) : Prop := ∃ v : Int32, r = some (.int v) ∧ u.heap = s.heap ∧ ((v = 1 ∧ q) ∨ (v = 0 ∧ ¬ q))
theorem Says01.mv {q : Prop} : ∀ r (U U' V V' : State), U'.heap = U.heap → V.vm.Alike V'.vm → V'.heap = V.heap → Says01 q r U V → Says01 q r U' V' :=
  fun r U U' V V' h1 _ h2 ⟨v, a, b, c⟩ => ⟨v, a, by rw [h1, h2]; exact b, c⟩
namespace LEq
def yN : MethodName := ⟨"java/lang/StringLatin1", "equals", "([B[B)Z"⟩
abbrev yB : ByteArray := jdk_43_method_13_code
theorem d0 : decode yB 0 = .ok (.aload_n 0, 1) := by decide +kernel
theorem d1 : decode yB 1 = .ok (.arraylength, 1) := by decide +kernel
theorem d2 : decode yB 2 = .ok (.aload_n 1, 1) := by decide +kernel
theorem d3 : decode yB 3 = .ok (.arraylength, 1) := by decide +kernel
theorem d4 : decode yB 4 = .ok (.if_icmp (.ne) 30, 3) := by decide +kernel
theorem d7 : decode yB 7 = .ok (.iconst 0, 1) := by decide +kernel
theorem d8 : decode yB 8 = .ok (.istore_n 2, 1) := by decide +kernel
theorem d9 : decode yB 9 = .ok (.iload_n 2, 1) := by decide +kernel
theorem d10 : decode yB 10 = .ok (.aload_n 0, 1) := by decide +kernel
theorem d11 : decode yB 11 = .ok (.arraylength, 1) := by decide +kernel
theorem d12 : decode yB 12 = .ok (.if_icmp (.ge) 20, 3) := by decide +kernel
theorem d15 : decode yB 15 = .ok (.aload_n 0, 1) := by decide +kernel
theorem d16 : decode yB 16 = .ok (.iload_n 2, 1) := by decide +kernel
theorem d17 : decode yB 17 = .ok (.baload, 1) := by decide +kernel
theorem d18 : decode yB 18 = .ok (.aload_n 1, 1) := by decide +kernel
theorem d19 : decode yB 19 = .ok (.iload_n 2, 1) := by decide +kernel
theorem d20 : decode yB 20 = .ok (.baload, 1) := by decide +kernel
theorem d21 : decode yB 21 = .ok (.if_icmp (.eq) 5, 3) := by decide +kernel
theorem d24 : decode yB 24 = .ok (.iconst 0, 1) := by decide +kernel
theorem d25 : decode yB 25 = .ok (.ireturn, 1) := by decide +kernel
theorem d26 : decode yB 26 = .ok (.iinc 2 1, 3) := by decide +kernel
theorem d29 : decode yB 29 = .ok (.goto (-20), 3) := by decide +kernel
theorem d32 : decode yB 32 = .ok (.iconst 1, 1) := by decide +kernel
theorem d33 : decode yB 33 = .ok (.ireturn, 1) := by decide +kernel
theorem d34 : decode yB 34 = .ok (.iconst 0, 1) := by decide +kernel
theorem d35 : decode yB 35 = .ok (.ireturn, 1) := by decide +kernel
def site : List Cond := []
def tab : Cond := tabOf yN yB 3 (some .boolean) site
def P (a : Addr) (A : Cell) (b : Addr) (B : Cell) (args : Array Value) (s : State) : Prop := args = #[.ref a, .ref b] ∧ XT.Arr .byte a A s ∧ Typed .byte A ∧ XT.Arr .byte b B s ∧ Typed .byte B
/-- whether two byte[] are equal, place for place -/
theorem law (l : Launch) (a : Addr) (A : Cell) (b : Addr) (B : Cell) : Law l yN 2 2 0 0 yB 3 (some .boolean) site (P a A b B) (Says01 (EqC A B)) [] 0 0 := by
  refine Law.of_walk (plainFor_of_name (by decide +kernel)) (by decide +kernel) (by decide +kernel) (by decide) (fun _ _ h => by rw [h.1]; rfl) (fun _ U U' hal hh h => ⟨h.1, h.2.1.mv hal hh, h.2.2.1, h.2.2.2.1.mv hal hh, h.2.2.2.2⟩) (fun r U U' V V' h1 hal h2 h => Says01.mv r U U' V V' h1 hal h2 h) ?_
  intro p e s m args below meth c s₁ X0 hexec hbytes hml hret hlk hnm hown hh0 W hP
  obtain ⟨rfl, hA, tA, hB, tB⟩ := hP
  have a31 := hA.2.2.2
  have b31 := hB.2.2.2
  have hA0 := hA.mv X0.warmed.alike hh0
  have hB0 := hB.mv X0.warmed.alike hh0
  have c1 : Steps p.tables e below (s₁.setTop (entryFrame m #[.ref a, .ref b] 3)) (s₁.setTop (mkF m 0 #[.val (.ref a), .val (.ref b), .unset] [])) := entry rfl
  have c2 : Steps p.tables e below (s₁.setTop (entryFrame m #[.ref a, .ref b] 3)) (s₁.setTop (mkF m 4 #[.val (.ref a), .val (.ref b), .unset] [.int (Int32.ofNat B.slots.size), .int (Int32.ofNat A.slots.size)])) := c1.trans (by
    refine XS.aloadN X0.here hexec rfl (hb hbytes d0) rfl rfl ?_
    refine X0.alen hexec hA0 rfl rfl (hb hbytes d1) ?_
    refine XS.aloadN X0.here hexec rfl (hb hbytes d2) rfl rfl ?_
    refine X0.alen hexec hB0 rfl rfl (hb hbytes d3) ?_
    exact Steps.refl _)
  by_cases hs : A.slots.size = B.slots.size
  · have c3 : Steps p.tables e below (s₁.setTop (entryFrame m #[.ref a, .ref b] 3)) (s₁.setTop (mkF m 9 #[.val (.ref a), .val (.ref b), .val (.int 0)] [])) := c2.trans (by
      refine XS.icmpNo X0.here hexec rfl (hb hbytes d4) rfl (ii_ne_f (by rw [hs])) ?_
      refine iconstV X0.here hexec rfl 0 (hb hbytes d7) (by decide) ?_
      refine XS.istoreN X0.here hexec rfl (hb hbytes d8) rfl rfl ?_
      exact Steps.refl _)
    have loop : ∀ (r i : Nat), i + r = A.slots.size → (∀ j, j < i → yv A j = yv B j) → Steps p.tables e below (s₁.setTop (entryFrame m #[.ref a, .ref b] 3)) (s₁.setTop (mkF m 9 #[.val (.ref a), .val (.ref b), .val (.int (Int32.ofNat i))] [])) → ∃ (pc : Nat) (Ls : Array Slot) (v : Int32), (pc = 25 ∨ pc = 33) ∧ ((v = 1 ∧ EqC A B) ∨ (v = 0 ∧ ¬ EqC A B)) ∧ Steps p.tables e below (s₁.setTop (entryFrame m #[.ref a, .ref b] 3)) (s₁.setTop (mkF m pc Ls [.int v])) := by
      intro r
      induction r with
      | zero =>
        intro i hi he cl
        exact ⟨33, _, 1, Or.inr rfl, Or.inl ⟨rfl, hs, fun j hj => he j (by omega)⟩, cl.trans (by
          refine XS.iloadN X0.here hexec rfl (hb hbytes d9) rfl ?_
          refine XS.aloadN X0.here hexec rfl (hb hbytes d10) rfl rfl ?_
          refine X0.alen hexec hA0 rfl rfl (hb hbytes d11) ?_
          refine XS.icmpYes X0.here hexec rfl (pc0 := 12) rfl (hb hbytes d12) rfl (ii_ge_t (nlt32 (by omega) (by omega))) (by decide) rfl ?_
          refine iconstV X0.here hexec rfl 1 (hb hbytes d32) (by decide) ?_
          exact Steps.refl _)⟩
      | succ r ih =>
        intro i hi he cl
        have c4 : Steps p.tables e below (s₁.setTop (entryFrame m #[.ref a, .ref b] 3)) (s₁.setTop (mkF m 21 #[.val (.ref a), .val (.ref b), .val (.int (Int32.ofNat i))] [.int (yv B i), .int (yv A i)])) := cl.trans (by
          refine XS.iloadN X0.here hexec rfl (hb hbytes d9) rfl ?_
          refine XS.aloadN X0.here hexec rfl (hb hbytes d10) rfl rfl ?_
          refine X0.alen hexec hA0 rfl rfl (hb hbytes d11) ?_
          refine XS.icmpNo X0.here hexec rfl (hb hbytes d12) rfl (ii_ge_f (lt32 (by omega) (by omega))) ?_
          refine XS.aloadN X0.here hexec rfl (hb hbytes d15) rfl rfl ?_
          refine XS.iloadN X0.here hexec rfl (hb hbytes d16) rfl ?_
          refine X0.aget hexec hA0 rfl (yv_get hA tA (i := i) (by omega)) rfl rfl (hb hbytes d17) ?_
          refine XS.aloadN X0.here hexec rfl (hb hbytes d18) rfl rfl ?_
          refine XS.iloadN X0.here hexec rfl (hb hbytes d19) rfl ?_
          refine X0.aget hexec hB0 rfl (yv_get hB tB (i := i) (by omega)) rfl rfl (hb hbytes d20) ?_
          exact Steps.refl _)
        by_cases hv : yv A i = yv B i
        · have c5 : Steps p.tables e below (s₁.setTop (entryFrame m #[.ref a, .ref b] 3)) (s₁.setTop (mkF m 9 #[.val (.ref a), .val (.ref b), .val (.int (Int32.ofNat i + 1))] [])) := c4.trans (by
            refine XS.icmpYes X0.here hexec rfl (pc0 := 21) rfl (hb hbytes d21) rfl (ii_eq_t hv) (by decide) rfl ?_
            refine iincV X0.here hexec rfl 1 (hb hbytes d26) (by decide) rfl rfl ?_
            refine XS.goto X0.here hexec rfl (pc0 := 29) rfl (hb hbytes d29) (by decide) rfl ?_
            exact Steps.refl _)
          rw [succ32] at c5
          exact ih (i + 1) (by omega) (fun j hj => by
            by_cases e : j = i
            · rw [e]; exact hv
            · exact he j (by omega)) c5
        · exact ⟨25, _, 0, Or.inl rfl, Or.inr ⟨rfl, fun q => hv (q.2 i (by omega))⟩, c4.trans (by
            refine XS.icmpNo X0.here hexec rfl (hb hbytes d21) rfl (ii_eq_f hv) ?_
            refine iconstV X0.here hexec rfl 0 (hb hbytes d24) (by decide) ?_
            exact Steps.refl _)⟩
    obtain ⟨pc, Ls, v, hpc, hv, cz⟩ := loop A.slots.size 0 (by omega) (fun j hj => absurd hj (Nat.not_lt_zero j)) c3
    have nv : narrow .boolean (.int v) = .int v := by rcases hv with ⟨rfl, -⟩ | ⟨rfl, -⟩ <;> rfl
    rcases hpc with rfl | rfl
    · exact ⟨s₁, some (.int v), _, _, _, X0, rfl, rfl, rfl, (fun h => by cases h), ⟨v, rfl, hh0, hv⟩, fun fs hl => cz.trans (X0.ireturnOut hexec hret nv (Or.inr (Or.inl rfl)) (hb hbytes d25) hl)⟩
    · exact ⟨s₁, some (.int v), _, _, _, X0, rfl, rfl, rfl, (fun h => by cases h), ⟨v, rfl, hh0, hv⟩, fun fs hl => cz.trans (X0.ireturnOut hexec hret nv (Or.inr (Or.inl rfl)) (hb hbytes d33) hl)⟩
  · have c3 : Steps p.tables e below (s₁.setTop (entryFrame m #[.ref a, .ref b] 3)) (s₁.setTop (mkF m 35 #[.val (.ref a), .val (.ref b), .unset] [.int 0])) := c2.trans (by
      refine XS.icmpYes X0.here hexec rfl (pc0 := 4) rfl (hb hbytes d4) rfl (ii_ne_t (ne32 a31 b31 hs)) (by decide) rfl ?_
      refine iconstV X0.here hexec rfl 0 (hb hbytes d34) (by decide) ?_
      exact Steps.refl _)
    exact ⟨s₁, some (.int 0), _, _, _, X0, rfl, rfl, rfl, (fun h => by cases h), ⟨0, rfl, hh0, Or.inr ⟨rfl, fun q => hs q.1⟩⟩, fun fs hl => c3.trans (X0.ireturnOut hexec hret rfl (Or.inr (Or.inl rfl)) (hb hbytes d35) hl)⟩
end LEq
theorem Cod.ty {cd : Int32} {n : Nat} {f : Nat → Int32} {V : Cell} (h : Cod cd n f V) : Typed .byte V := fun i v hv => by
  have hi : i < V.slots.size := (Array.getElem?_eq_some_iff.mp hv).1
  rcases h with ⟨-, k1, k2⟩ | ⟨-, k1, k2, -⟩
  · rw [(k2 i (by omega)).1] at hv; cases hv; exact fits_lo8 _
  · rcases Nat.mod_two_eq_zero_or_one i with e | e
    · obtain ⟨j, rfl⟩ : ∃ j, i = 2 * j := ⟨i / 2, by omega⟩
      rw [(k2 j (by omega)).1] at hv; cases hv; exact fits_lo8 _
    · obtain ⟨j, rfl⟩ : ∃ j, i = 2 * j + 1 := ⟨i / 2, by omega⟩
      rw [(k2 j (by omega)).2] at hv; cases hv; exact fits_lo8 _
/-- the same text -/
def SameT (n : Nat) (f : Nat → Int32) (k : Nat) (g : Nat → Int32) : Prop := n = k ∧ ∀ j, j < n → f j = g j
theorem lo8_inj {x y : Int32} (h0 : ¬ x < 0) (h1 : ¬ 255 < x) (k0 : ¬ y < 0) (k1 : ¬ 255 < y) (h : lo8 x = lo8 y) : x = y := by
  rw [← lo8_mask h0 h1, ← lo8_mask k0 k1, h]
/-- arrays coded by one coder are equal just where the texts are -/
theorem Cod.eqv {cd : Int32} {n k : Nat} {f g : Nat → Int32} {V V' : Cell} (h : Cod cd n f V) (h' : Cod cd k g V') (hf : ∀ j, j < n → ¬ f j < 0 ∧ ¬ 65535 < f j) (hg : ∀ j, j < k → ¬ g j < 0 ∧ ¬ 65535 < g j) : EqC V V' ↔ SameT n f k g := by
  have yvv : ∀ {W : Cell} {i : Nat} {x : Int32}, W.slots[i]? = some (.int x) → yv W i = x := fun q => by unfold yv; rw [q]
  rcases h with ⟨rfl, k1, k2⟩ | ⟨rfl, k1, k2, -⟩
  · rcases h' with ⟨-, m1, m2⟩ | ⟨e, -⟩
    · constructor
      · rintro ⟨e1, e2⟩
        refine ⟨by omega, fun j hj => ?_⟩
        have q := e2 j (by omega)
        rw [yvv (k2 j hj).1, yvv (m2 j (by omega)).1] at q
        exact lo8_inj (hf j hj).1 (k2 j hj).2 (hg j (by omega)).1 (m2 j (by omega)).2 q
      · rintro ⟨rfl, e2⟩
        refine ⟨by omega, fun j hj => ?_⟩
        rw [yvv (k2 j (by omega)).1, yvv (m2 j (by omega)).1, e2 j (by omega)]
    · exact absurd e (by decide)
  · rcases h' with ⟨e, -⟩ | ⟨-, m1, m2, -⟩
    · exact absurd e (by decide)
    · constructor
      · rintro ⟨e1, e2⟩
        refine ⟨by omega, fun j hj => ?_⟩
        have q1 := e2 (2 * j) (by omega)
        have q2 := e2 (2 * j + 1) (by omega)
        rw [yvv (k2 j hj).1, yvv (m2 j (by omega)).1] at q1
        rw [yvv (k2 j hj).2, yvv (m2 j (by omega)).2] at q2
        rw [← pair_says (hf j hj).1 (hf j hj).2, ← pair_says (hg j (by omega)).1 (hg j (by omega)).2, q1, q2]
      · rintro ⟨rfl, e2⟩
        refine ⟨by omega, fun i hi => ?_⟩
        rcases Nat.mod_two_eq_zero_or_one i with e | e
        · obtain ⟨j, rfl⟩ : ∃ j, i = 2 * j := ⟨i / 2, by omega⟩
          rw [yvv (k2 j (by omega)).1, yvv (m2 j (by omega)).1, e2 j (by omega)]
        · obtain ⟨j, rfl⟩ : ∃ j, i = 2 * j + 1 := ⟨i / 2, by omega⟩
          rw [yvv (k2 j (by omega)).2, yvv (m2 j (by omega)).2, e2 j (by omega)]
/-- two codings differ: so do the texts -/
theorem Cod.dif {cd cd' : Int32} {n k : Nat} {f g : Nat → Int32} {V V' : Cell} (h : Cod cd n f V) (h' : Cod cd' k g V') (hne : ¬ cd = cd') : ¬ SameT n f k g := by
  rintro ⟨rfl, e⟩
  rcases h with ⟨rfl, -, k2⟩ | ⟨rfl, -, -, j, hj, hw⟩
  · rcases h' with ⟨rfl, -⟩ | ⟨-, -, -, j, hj, hw⟩
    · exact hne rfl
    · exact (k2 j hj).2 (by rw [e j hj]; exact hw)
  · rcases h' with ⟨-, -, m2⟩ | ⟨rfl, -⟩
    · exact (m2 j hj).2 (by rw [← e j hj]; exact hw)
    · exact hne rfl
/-- an object of exactly C is an instance of C -/
theorem cinst {p : Program} {l : Launch} {e : Env} {R : Room} {s : State} {m : MethodId} {args : Array Value} {below : List Frame} {meth : Method} {c : Code} {T : State} {locs : List Loc} {cells slots : Nat} (X : Stand p l e R s m args below meth c T locs cells slots) (hexec : p.tables.exec = Jvm.exec) {own C : String} {index : Nat} (hown : s.vm.findClass own = some m.cls) (hlink : (Cond.classLink own index C).before args s = true) {a : Addr} (hE : Exact C a T)
    {g : JFrame} (hg : g.method = m) {rest : List Value} (hstack : g.stack = .ref a :: rest) (hdg : decode c.code g.pc = .ok (.instanceof index, 3)) :
    ∃ T', Stand p l e R s m args below meth c T' locs cells slots ∧ T'.heap = T.heap ∧ ∀ target, Steps p.tables e below (T'.setTop { g with pc := g.pc + 3, stack := .int 1 :: rest }) target → Steps p.tables e below (T.setTop g) target := by
  obtain ⟨cB, h1, D, h2, h3, h4⟩ := hE
  have h1' : s.vm.findClass C = some cB := by rw [← X.warmed.alike.findClass]; exact h1
  obtain ⟨vm', X', st⟩ := X.instanceofYes hexec hown hlink h2 h4 h1' (by rw [h3]; exact Jvm.Free.SB.assignable_self _ _) hg hstack hdg
  exact ⟨_, X', rfl, st⟩
theorem cself {p : Program} {l : Launch} {e : Env} {R : Room} {s : State} {m : MethodId} {args : Array Value} {below : List Frame} {meth : Method} {c : Code} {T : State} {locs : List Loc} {cells slots : Nat} (X : Stand p l e R s m args below meth c T locs cells slots) (hexec : p.tables.exec = Jvm.exec) {own C : String} {index : Nat} (hown : s.vm.findClass own = some m.cls) (hlink : (Cond.classLink own index C).before args s = true) {a : Addr} (hE : Exact C a T)
    {g : JFrame} (hg : g.method = m) {rest : List Value} (hstack : g.stack = .ref a :: rest) (hdg : decode c.code g.pc = .ok (.checkcast index, 3)) :
    ∃ T', Stand p l e R s m args below meth c T' locs cells slots ∧ T'.heap = T.heap ∧ ∀ target, Steps p.tables e below (T'.setTop { g with pc := g.pc + 3, stack := .ref a :: rest }) target → Steps p.tables e below (T.setTop g) target := by
  obtain ⟨cB, h1, D, h2, h3, h4⟩ := hE
  have h1' : s.vm.findClass C = some cB := by rw [← X.warmed.alike.findClass]; exact h1
  obtain ⟨vm', X', st⟩ := X.checkcastYes hexec hown hlink h2 h4 h1' (by rw [h3]; exact Jvm.Free.SB.assignable_self _ _) hg hstack hdg
  exact ⟨_, X', rfl, fun t h => st t (by rw [← hstack] at h; exact h)⟩
namespace SEq
def yN : MethodName := ⟨"java/lang/String", "equals", "(Ljava/lang/Object;)Z"⟩
abbrev yB : ByteArray := jdk_42_method_66_code
theorem d0 : decode yB 0 = .ok (.aload_n 0, 1) := by decide +kernel
theorem d1 : decode yB 1 = .ok (.aload_n 1, 1) := by decide +kernel
theorem d2 : decode yB 2 = .ok (.if_acmp (.ne) 5, 3) := by decide +kernel
theorem d5 : decode yB 5 = .ok (.iconst 1, 1) := by decide +kernel
theorem d6 : decode yB 6 = .ok (.ireturn, 1) := by decide +kernel
theorem d7 : decode yB 7 = .ok (.aload_n 1, 1) := by decide +kernel
theorem d8 : decode yB 8 = .ok (.instanceof 10, 3) := by decide +kernel
theorem d11 : decode yB 11 = .ok (.ifCond (.eq) 43, 3) := by decide +kernel
theorem d14 : decode yB 14 = .ok (.aload_n 1, 1) := by decide +kernel
theorem d15 : decode yB 15 = .ok (.checkcast 10, 3) := by decide +kernel
theorem d18 : decode yB 18 = .ok (.astore_n 2, 1) := by decide +kernel
theorem d19 : decode yB 19 = .ok (.getstatic 38, 3) := by decide +kernel
theorem d22 : decode yB 22 = .ok (.ifCond (.eq) 14, 3) := by decide +kernel
theorem d25 : decode yB 25 = .ok (.aload_n 0, 1) := by decide +kernel
theorem d26 : decode yB 26 = .ok (.getfield 15, 3) := by decide +kernel
theorem d29 : decode yB 29 = .ok (.aload_n 2, 1) := by decide +kernel
theorem d30 : decode yB 30 = .ok (.getfield 15, 3) := by decide +kernel
theorem d33 : decode yB 33 = .ok (.if_icmp (.ne) 21, 3) := by decide +kernel
theorem d36 : decode yB 36 = .ok (.aload_n 0, 1) := by decide +kernel
theorem d37 : decode yB 37 = .ok (.getfield 9, 3) := by decide +kernel
theorem d40 : decode yB 40 = .ok (.aload_n 2, 1) := by decide +kernel
theorem d41 : decode yB 41 = .ok (.getfield 9, 3) := by decide +kernel
theorem d44 : decode yB 44 = .ok (.invokestatic 541, 3) := by decide +kernel
theorem d47 : decode yB 47 = .ok (.ifCond (.eq) 7, 3) := by decide +kernel
theorem d50 : decode yB 50 = .ok (.iconst 1, 1) := by decide +kernel
theorem d51 : decode yB 51 = .ok (.goto 4, 3) := by decide +kernel
theorem d54 : decode yB 54 = .ok (.iconst 0, 1) := by decide +kernel
theorem d55 : decode yB 55 = .ok (.ireturn, 1) := by decide +kernel
def site : List Cond := [.classLink "java/lang/String" 10 "java/lang/String", .fieldLink "java/lang/String" 38 "java/lang/String" "COMPACT_STRINGS" "Z", .fieldLink "java/lang/String" 15 "java/lang/String" "coder" "B", .fieldLink "java/lang/String" 9 "java/lang/String" "value" "[B", LEq.tab] ++ staticW "java/lang/String" 541 LEq.yN
def tab : Cond := tabOf yN yB 3 (some .boolean) site
def P (x t : Addr) (V : Cell) (cd : Int32) (n : Nat) (f : Nat → Int32) (y t' : Addr) (V' : Cell) (cd' : Int32) (k : Nat) (g : Nat → Int32) (z : Int32) (args : Array Value) (s : State) : Prop := args = #[.ref x, .ref y] ∧ Txt x t V cd n f s ∧ Txt y t' V' cd' k g s ∧ StaticIs s "java/lang/String" "COMPACT_STRINGS" "Z" (.int z) ∧ ¬ z = 0
/-- equals(Object) of two Strings: whether the texts are the same -/
theorem law (l : Launch) (x t : Addr) (V : Cell) (cd : Int32) (n : Nat) (f : Nat → Int32) (y t' : Addr) (V' : Cell) (cd' : Int32) (k : Nat) (g : Nat → Int32) (z : Int32) : Law l yN 2 1 1 14 yB 3 (some .boolean) site (P x t V cd n f y t' V' cd' k g z) (Says01 (SameT n f k g)) [] 0 0 := by
  refine Law.of_walk (plainFor_of_name (by decide +kernel)) (by decide +kernel) (by decide +kernel) (by decide) (fun _ _ h => by rw [h.1]; rfl) (fun _ U U' hal hh h => ⟨h.1, h.2.1.mv hal hh, h.2.2.1.mv hal hh, h.2.2.2.1.there hal hh, h.2.2.2.2⟩) (fun r U U' V V' h1 hal h2 h => Says01.mv r U U' V V' h1 hal h2 h) ?_
  intro p e s m args below meth c s₁ X0 hexec hbytes hml hret hlk hnm hown hh0 W hP
  obtain ⟨rfl, hx, hy, s1, hz⟩ := hP
  have c1 : Steps p.tables e below (s₁.setTop (entryFrame m #[.ref x, .ref y] 3)) (s₁.setTop (mkF m 2 #[.val (.ref x), .val (.ref y), .unset] [.ref y, .ref x])) := Steps.trans (entry rfl) (by
    show Steps p.tables e below (s₁.setTop (mkF m 0 #[.val (.ref x), .val (.ref y), .unset] [])) _
    refine XS.aloadN X0.here hexec rfl (hb hbytes d0) rfl rfl ?_
    refine XS.aloadN X0.here hexec rfl (hb hbytes d1) rfl rfl ?_
    exact Steps.refl _)
  by_cases hxy : x = y
  · have c2 : Steps p.tables e below (s₁.setTop (entryFrame m #[.ref x, .ref y] 3)) (s₁.setTop (mkF m 6 #[.val (.ref x), .val (.ref y), .unset] [.int 1])) := c1.trans (by
      refine acmpNo X0.here hexec rfl (hb hbytes d2) rfl rfl rfl (by simp [acmp, hxy]) ?_
      refine iconstV X0.here hexec rfl 1 (hb hbytes d5) (by decide) ?_
      exact Steps.refl _)
    subst hxy
    have ec : cd = cd' := by
      obtain ⟨D, fd, a1, a2, a3⟩ := hx.2.2.1
      obtain ⟨D', fd', b1, b2, b3⟩ := hy.2.2.1
      cases a1.symm.trans b1
      obtain ⟨q1, q2, q3, q4⟩ := a2.1
      obtain ⟨r1, r2, r3, r4⟩ := b2.1
      cases q4.symm.trans r4
      cases a3.symm.trans b3; rfl
    have et : t = t' := by
      obtain ⟨D, fd, a1, a2, a3⟩ := hx.2.1
      obtain ⟨D', fd', b1, b2, b3⟩ := hy.2.1
      cases a1.symm.trans b1
      obtain ⟨q1, q2, q3, q4⟩ := a2.1
      obtain ⟨r1, r2, r3, r4⟩ := b2.1
      cases q4.symm.trans r4
      cases a3.symm.trans b3; rfl
    subst ec et
    have ev : V = V' := by cases hx.2.2.2.1.1.symm.trans hy.2.2.2.1.1; rfl
    subst ev
    have hs : SameT n f k g := (Cod.eqv hx.2.2.2.2.1 hy.2.2.2.2.1 hx.2.2.2.2.2 hy.2.2.2.2.2).mp ⟨rfl, fun _ _ => rfl⟩
    exact ⟨s₁, some (.int 1), _, _, _, X0, rfl, rfl, rfl, (fun h => by cases h), ⟨1, rfl, hh0, Or.inl ⟨rfl, hs⟩⟩, fun fs hl => c2.trans (X0.ireturnOut hexec hret rfl (Or.inr (Or.inl rfl)) (hb hbytes d6) hl)⟩
  · have c2 : Steps p.tables e below (s₁.setTop (entryFrame m #[.ref x, .ref y] 3)) (s₁.setTop (mkF m 8 #[.val (.ref x), .val (.ref y), .unset] [.ref y])) := c1.trans (by
      refine acmpYes X0.here hexec rfl (pc0 := 2) rfl (hb hbytes d2) rfl rfl rfl (by simp [acmp, hxy]) (by decide) rfl ?_
      refine XS.aloadN X0.here hexec rfl (hb hbytes d7) rfl rfl ?_
      exact Steps.refl _)
    obtain ⟨T3, X3, q3, st3⟩ := cinst X0 hexec hown (wk W (.classLink "java/lang/String" 10 "java/lang/String")) (hy.mv X0.warmed.alike hh0).1 (g := (mkF m 8 #[.val (.ref x), .val (.ref y), .unset] [.ref y])) rfl (rest := []) rfl (hb hbytes d8)
    have hh3 := q3.trans hh0
    have c4 : Steps p.tables e below (s₁.setTop (entryFrame m #[.ref x, .ref y] 3)) (T3.setTop (mkF m 15 #[.val (.ref x), .val (.ref y), .unset] [.ref y])) := (c2.trans (st3 _ (Steps.refl _))).trans (by
      refine XS.ifNo X3.here hexec rfl (hb hbytes d11) rfl (i0_eq_f (by decide)) ?_
      refine XS.aloadN X3.here hexec rfl (hb hbytes d14) rfl rfl ?_
      exact Steps.refl _)
    obtain ⟨T5, X5, q5, st5⟩ := cself X3 hexec hown (wk W (.classLink "java/lang/String" 10 "java/lang/String")) (hy.mv X3.warmed.alike hh3).1 (g := (mkF m 15 #[.val (.ref x), .val (.ref y), .unset] [.ref y])) rfl (rest := []) rfl (hb hbytes d15)
    have hh5 := q5.trans hh3
    have c6 : Steps p.tables e below (s₁.setTop (entryFrame m #[.ref x, .ref y] 3)) (T5.setTop (mkF m 19 #[.val (.ref x), .val (.ref y), .val (.ref y)] [])) := (c4.trans (st5 _ (Steps.refl _))).trans (by
      refine XS.astoreN X5.here hexec rfl (hb hbytes d18) rfl rfl rfl ?_
      exact Steps.refl _)
    obtain ⟨T7, X7, q7, st7⟩ := X5.sget hexec hown (wk W (.fieldLink "java/lang/String" 38 "java/lang/String" "COMPACT_STRINGS" "Z")) s1 (fun _ _ h => by rw [hh5]; exact h) (g := (mkF m 19 #[.val (.ref x), .val (.ref y), .val (.ref y)] [])) rfl (hb hbytes d19)
    have hh7 := q7.trans hh5
    have c8 : Steps p.tables e below (s₁.setTop (entryFrame m #[.ref x, .ref y] 3)) (T7.setTop (mkF m 26 #[.val (.ref x), .val (.ref y), .val (.ref y)] [.ref x])) := (c6.trans (st7 _ (Steps.refl _))).trans (by
      refine XS.ifNo X7.here hexec rfl (hb hbytes d22) rfl (i0_eq_f hz) ?_
      refine XS.aloadN X7.here hexec rfl (hb hbytes d25) rfl rfl ?_
      exact Steps.refl _)
    obtain ⟨T9, X9, q9, st9⟩ := X7.hget hexec hown (wk W (.fieldLink "java/lang/String" 15 "java/lang/String" "coder" "B")) (hx.mv X7.warmed.alike hh7).2.2.1 (g := (mkF m 26 #[.val (.ref x), .val (.ref y), .val (.ref y)] [.ref x])) rfl (rest := []) rfl (hb hbytes d26)
    have hh9 := q9.trans hh7
    have c10 : Steps p.tables e below (s₁.setTop (entryFrame m #[.ref x, .ref y] 3)) (T9.setTop (mkF m 30 #[.val (.ref x), .val (.ref y), .val (.ref y)] [.ref y, .int cd])) := (c8.trans (st9 _ (Steps.refl _))).trans (by
      refine XS.aloadN X9.here hexec rfl (hb hbytes d29) rfl rfl ?_
      exact Steps.refl _)
    obtain ⟨T11, X11, q11, st11⟩ := X9.hget hexec hown (wk W (.fieldLink "java/lang/String" 15 "java/lang/String" "coder" "B")) (hy.mv X9.warmed.alike hh9).2.2.1 (g := (mkF m 30 #[.val (.ref x), .val (.ref y), .val (.ref y)] [.ref y, .int cd])) rfl (rest := [.int cd]) rfl (hb hbytes d30)
    have hh11 := q11.trans hh9
    have c12 : Steps p.tables e below (s₁.setTop (entryFrame m #[.ref x, .ref y] 3)) (T11.setTop (mkF m 33 #[.val (.ref x), .val (.ref y), .val (.ref y)] [.int cd', .int cd])) := c10.trans (st11 _ (Steps.refl _))
    by_cases hcd : cd = cd'
    · subst hcd
      have c13 : Steps p.tables e below (s₁.setTop (entryFrame m #[.ref x, .ref y] 3)) (T11.setTop (mkF m 37 #[.val (.ref x), .val (.ref y), .val (.ref y)] [.ref x])) := c12.trans (by
        refine XS.icmpNo X11.here hexec rfl (hb hbytes d33) rfl (ii_ne_f rfl) ?_
        refine XS.aloadN X11.here hexec rfl (hb hbytes d36) rfl rfl ?_
        exact Steps.refl _)
      obtain ⟨T14, X14, q14, st14⟩ := X11.hget hexec hown (wk W (.fieldLink "java/lang/String" 9 "java/lang/String" "value" "[B")) (hx.mv X11.warmed.alike hh11).2.1 (g := (mkF m 37 #[.val (.ref x), .val (.ref y), .val (.ref y)] [.ref x])) rfl (rest := []) rfl (hb hbytes d37)
      have hh14 := q14.trans hh11
      have c15 : Steps p.tables e below (s₁.setTop (entryFrame m #[.ref x, .ref y] 3)) (T14.setTop (mkF m 41 #[.val (.ref x), .val (.ref y), .val (.ref y)] [.ref y, .ref t])) := (c13.trans (st14 _ (Steps.refl _))).trans (by
        refine XS.aloadN X14.here hexec rfl (hb hbytes d40) rfl rfl ?_
        exact Steps.refl _)
      obtain ⟨T16, X16, q16, st16⟩ := X14.hget hexec hown (wk W (.fieldLink "java/lang/String" 9 "java/lang/String" "value" "[B")) (hy.mv X14.warmed.alike hh14).2.1 (g := (mkF m 41 #[.val (.ref x), .val (.ref y), .val (.ref y)] [.ref y, .ref t])) rfl (rest := [.ref t]) rfl (hb hbytes d41)
      have hh16 := q16.trans hh14
      have c17 : Steps p.tables e below (s₁.setTop (entryFrame m #[.ref x, .ref y] 3)) (T16.setTop (mkF m 44 #[.val (.ref x), .val (.ref y), .val (.ref y)] [.ref t', .ref t])) := c15.trans (st16 _ (Steps.refl _))
      obtain ⟨v18, T18, X18, E18, g18⟩ := X16.callS hexec (LEq.law l t V t' V') hown (wks W (staticW "java/lang/String" 541 LEq.yN)) (wk W LEq.tab) (W := 0) (Nat.le_of_ble_eq_true rfl) (Nat.le_of_ble_eq_true rfl) (Nat.le_refl _) (Nat.le_refl _) (g := (mkF m 44 #[.val (.ref x), .val (.ref y), .val (.ref y)] [.ref t', .ref t])) rfl (by rw [hml]; rfl) c17 (argsL := [.ref t, .ref t']) (rest := []) rfl rfl (by show 2 * 0 + 0 ≤ _; decide) (hb hbytes d44) (⟨rfl, hx.2.2.2.1.mv X16.warmed.alike hh16, hx.2.2.2.2.1.ty, hy.2.2.2.1.mv X16.warmed.alike hh16, hy.2.2.2.2.1.ty⟩)
      obtain ⟨v, rfl, q18, hv⟩ := E18
      have iff := Cod.eqv hx.2.2.2.2.1 hy.2.2.2.2.1 hx.2.2.2.2.2 hy.2.2.2.2.2
      rcases hv with ⟨rfl, he⟩ | ⟨rfl, he⟩
      · have c19 : Steps p.tables e below (s₁.setTop (entryFrame m #[.ref x, .ref y] 3)) (T18.setTop (mkF m 55 #[.val (.ref x), .val (.ref y), .val (.ref y)] [.int 1])) := Steps.trans g18 (by
          refine XS.ifNo X18.here hexec rfl (hb hbytes d47) rfl (i0_eq_f (by decide)) ?_
          refine iconstV X18.here hexec rfl 1 (hb hbytes d50) (by decide) ?_
          refine XS.goto X18.here hexec rfl (pc0 := 51) rfl (hb hbytes d51) (by decide) rfl ?_
          exact Steps.refl _)
        exact ⟨T18, some (.int 1), _, _, _, X18, rfl, rfl, rfl, (fun h => by cases h), ⟨1, rfl, q18.trans hh16, Or.inl ⟨rfl, iff.mp he⟩⟩, fun fs hl => c19.trans (X18.ireturnOut hexec hret rfl (Or.inr (Or.inl rfl)) (hb hbytes d55) hl)⟩
      · have c19 : Steps p.tables e below (s₁.setTop (entryFrame m #[.ref x, .ref y] 3)) (T18.setTop (mkF m 55 #[.val (.ref x), .val (.ref y), .val (.ref y)] [.int 0])) := Steps.trans g18 (by
          refine XS.ifYes X18.here hexec rfl (pc0 := 47) rfl (hb hbytes d47) rfl (i0_eq_t rfl) (by decide) rfl ?_
          refine iconstV X18.here hexec rfl 0 (hb hbytes d54) (by decide) ?_
          exact Steps.refl _)
        exact ⟨T18, some (.int 0), _, _, _, X18, rfl, rfl, rfl, (fun h => by cases h), ⟨0, rfl, q18.trans hh16, Or.inr ⟨rfl, fun q => he (iff.mpr q)⟩⟩, fun fs hl => c19.trans (X18.ireturnOut hexec hret rfl (Or.inr (Or.inl rfl)) (hb hbytes d55) hl)⟩
    · have c13 : Steps p.tables e below (s₁.setTop (entryFrame m #[.ref x, .ref y] 3)) (T11.setTop (mkF m 55 #[.val (.ref x), .val (.ref y), .val (.ref y)] [.int 0])) := c12.trans (by
        refine XS.icmpYes X11.here hexec rfl (pc0 := 33) rfl (hb hbytes d33) rfl (ii_ne_t hcd) (by decide) rfl ?_
        refine iconstV X11.here hexec rfl 0 (hb hbytes d54) (by decide) ?_
        exact Steps.refl _)
      exact ⟨T11, some (.int 0), _, _, _, X11, rfl, rfl, rfl, (fun h => by cases h), ⟨0, rfl, hh11, Or.inr ⟨rfl, Cod.dif hx.2.2.2.2.1 hy.2.2.2.2.1 hcd⟩⟩, fun fs hl => c13.trans (X11.ireturnOut hexec hret rfl (Or.inr (Or.inl rfl)) (hb hbytes d55) hl)⟩
theorem pays {l : Launch} {R : Room} {p : Program} {e : Env} {below : List Frame} {s : State} {sargs : Array Value} {len W : Nat} (x t : Addr) (V : Cell) (cd : Int32) (n : Nat) (f : Nat → Int32) (y t' : Addr) (V' : Cell) (cd' : Int32) (k : Nat) (g : Nat → Int32) (z : Int32) (htab : tab.before sargs s = true) (hfr : 2 ≤ R.frames) (hlo : W + 28 ≤ R.locals) :
    Back l R p e below s sargs yN len W (fun A₁ a₁ => A₁.cells + 0 ≤ R.cells ∧ A₁.slots + 0 ≤ R.slots ∧ P x t V cd n f y t' V' cd' k g z a₁ A₁.U) (fun A₁ _ v₁ B₁ => Says01 (SameT n f k g) v₁ A₁.U B₁.U ∧ B₁.locs = A₁.locs ++ [] ∧ B₁.cells = A₁.cells + 0 ∧ B₁.slots = A₁.slots + 0) :=
  (law l x t V cd n f y t' V' cd' k g z).pays htab hfr (by omega)
end SEq
end StrChars
namespace StrChars.Road
open Jvm Sem ClassFile Op Lib Jvm.Stand Jvm.Free Jvm.Free.XT
open Jvm.Lib.Cold (StaticIs)
/-- the words of String.equals(Object) -/
abbrev wordsEq : List Jvm.Cond := [.code SEq.yN SEq.yB 3 (some .boolean), .initialized ST, .classLink ST 10 ST, .fieldLink ST 38 ST "COMPACT_STRINGS" "Z", .fieldLink ST 15 ST "coder" "B", .fieldLink ST 9 ST "value" "[B", .methodLink ST 541 LEq.yN, .static LEq.yN, .code LEq.yN LEq.yB 3 (some .boolean), .initialized "java/lang/StringLatin1"]
theorem tabEq_of {a : Array Value} {s : State} (h : ∀ w ∈ wordsEq, w.before a s = true) : SEq.tab.before a s = true := by
  have hl : LEq.tab.before a s = true := unparts (wk h (.code LEq.yN LEq.yB 3 (some .boolean))) (wks h (.initialized LEq.yN.cls :: LEq.site))
  have q := consq hl h
  exact unparts (wk q (.code SEq.yN SEq.yB 3 (some .boolean))) (wks q (.initialized SEq.yN.cls :: SEq.site))
theorem movedEq {Z s : State} {a0 args : Array Value} (hZ : Z.Warmed39 s.vm) (hw : ∀ d ∈ wordsEq, d.before a0 Z = true) : ∀ d ∈ wordsEq, d.before args s = true := fun d hd => by
  have t : ∀ d ∈ wordsEq, (d.onTables && d.keepsFace) = true := by decide +kernel
  exact RoadKit.mv hZ (hw d hd) (t d hd)
/-- the road's facts of a String, as the laws ask it -/
theorem txt_of {Z U : State} {a0 : Array Value} {kI : Nat} (wi : (Jvm.Cond.instantiable ST kI).before a0 Z = true) (al : Z.vm.Alike U.vm) {x t : Addr} {kb : ClassId} {cs : List Int32} {cd N2 : Int32} {vs : List Value} (E : RoadKit.Exa Z U.heap x ST) (V : RoadKit.Fld Z U.heap x ST "value" "[B" (.ref t)) (C : RoadKit.Fld Z U.heap x ST "coder" "B" (.int cd)) (K : RoadKit.Arv Z U.heap t kb .byte N2 vs (.int 0)) (hc : CodA cs cd N2 vs) (hb : ∀ c ∈ cs, ¬ c < 0 ∧ ¬ (65535 : Int32) < c) (l2 : cs.length ≤ 4000) :
    ∃ A, Txt x t A cd cs.length (fun j => cs.getD j 0) U := by
  obtain ⟨A, K1, K2, K3, K4, K5, K6⟩ := K
  have hcod := hc.cod (by omega) K3 K5
  obtain ⟨D, fV, fC, hB, F1, F2, g1, g2, -, -⟩ := strObj wi al E V C
  exact ⟨A, ⟨_, hB.2.2.1, D, hB.1, rfl, by cases q : D.vm <;> first | rfl | exact absurd q (hB.2.1.2 _)⟩, Has.of hB F1 g1, Has.of hB F2 g2, ⟨K1.1, State.isArrayOf_alike al K1.2.1, K1.2.2, by rcases hcod with ⟨-, q, -⟩ | ⟨-, q, -⟩ <;> omega⟩, hcod, fun j hj => by
    have e : cs.getD j 0 = cs[j] := by simp [List.getD_eq_getElem?_getD, hj]
    show ¬ cs.getD j 0 < 0 ∧ ¬ 65535 < cs.getD j 0
    rw [e]; exact hb _ (List.getElem_mem _)⟩
theorem same_list (cs ds : List Int32) : SameT cs.length (fun j => cs.getD j 0) ds.length (fun j => ds.getD j 0) ↔ cs = ds := by
  constructor
  · rintro ⟨e, q⟩
    refine List.ext_getElem e fun j h1 h2 => ?_
    have := q j h1
    simpa [List.getD_eq_getElem?_getD, h1, h2] using this
  · rintro rfl
    exact ⟨rfl, fun _ _ => rfl⟩
/-- **equals(Object) OF TWO SUCH STRINGS**: 1 just where the chars are the same -/
theorem eqW {p : Program} {l : Launch} {e : Env} {R : Room} {s : State} {args : Array Value} {below : List Frame} {len W : Nat} {Z : State} {a0 : Array Value} {h : Heap} (hZ : Z.Warmed39 s.vm) (hw : ∀ d ∈ wordsEq, d.before a0 Z = true) {kI : Nat} (wi : (Jvm.Cond.instantiable ST kI).before a0 Z = true)
    {x t : Addr} {kb : ClassId} {cs : List Int32} {cd N2 : Int32} {vs : List Value} (E : RoadKit.Exa Z h x ST) (V : RoadKit.Fld Z h x ST "value" "[B" (.ref t)) (C : RoadKit.Fld Z h x ST "coder" "B" (.int cd)) (K : RoadKit.Arv Z h t kb .byte N2 vs (.int 0)) (hc : CodA cs cd N2 vs) (hb : ∀ c ∈ cs, ¬ c < 0 ∧ ¬ (65535 : Int32) < c) (l2 : cs.length ≤ 4000)
    {y t' : Addr} {kb' : ClassId} {ds : List Int32} {cd' N2' : Int32} {vs' : List Value} (E' : RoadKit.Exa Z h y ST) (V' : RoadKit.Fld Z h y ST "value" "[B" (.ref t')) (C' : RoadKit.Fld Z h y ST "coder" "B" (.int cd')) (K' : RoadKit.Arv Z h t' kb' .byte N2' vs' (.int 0)) (hc' : CodA ds cd' N2' vs') (hb' : ∀ c ∈ ds, ¬ c < 0 ∧ ¬ (65535 : Int32) < c) (l2' : ds.length ≤ 4000)
    {z : Int32} (S : RoadKit.Sta Z h ST "COMPACT_STRINGS" "Z" (.int z)) (hz : ¬ z = 0) (hfr : 2 ≤ R.frames) (hlo : W + 28 ≤ R.locals) :
    Back l R p e below s args (⟨"java/lang/String", "equals", "(Ljava/lang/Object;)Z"⟩ : MethodName) len W (fun P a => a = #[.ref x, .ref y] ∧ P.U.heap = h ∧ P.cells + 0 ≤ R.cells ∧ P.slots + 0 ≤ R.slots)
      (fun P _ v B => ∃ L, (((v = some (.int 1) ∧ cs = ds) ∨ (v = some (.int 0) ∧ ¬ cs = ds)) ∧ L = [] ∧ B.U.heap = h) ∧ B.locs = P.locs ++ L ∧ B.cells = P.cells + 0 ∧ B.slots = P.slots + 0) := by
  intro m meth c P g ig mk a X hg hsize hdg hW hn hp'
  obtain ⟨rfl, rfl, r1, r2⟩ := hp'
  have al : Z.vm.Alike P.U.vm := hZ.alike.trans X.warmed.alike
  obtain ⟨A, hx⟩ := txt_of wi al E V C K hc hb l2
  obtain ⟨A', hy⟩ := txt_of wi al E' V' C' K' hc' hb' l2'
  obtain ⟨v, B, X', ⟨⟨w, hv, hh, hq⟩, hl, hk, hs⟩, st⟩ := SEq.pays x t A cd cs.length (fun j => cs.getD j 0) y t' A' cd' ds.length (fun j => ds.getD j 0) z (tabEq_of (movedEq hZ hw)) hfr hlo m meth c P g ig mk _ X hg hsize hdg hW hn ⟨r1, r2, rfl, hx, hy, sta_is al S, hz⟩
  refine ⟨v, B, X', ⟨[], ⟨?_, rfl, hh⟩, hl, hk, hs⟩, st⟩
  rcases hq with ⟨rfl, q⟩ | ⟨rfl, q⟩
  · exact Or.inl ⟨hv, (same_list cs ds).mp q⟩
  · exact Or.inr ⟨hv, fun e => q ((same_list cs ds).mpr e)⟩
end StrChars.Road
namespace StrChars.Road
open Jvm Sem ClassFile Op Lib Jvm.Stand Jvm.Free Jvm.Free.XT
open Jvm.Lib.Cold (StaticIs)
/-- what backV says of its String, as the contracts of this text ask it: cs's low bytes, coder 0 -/
theorem codOf {cs : List Int32} {n : Nat} (hn : cs.length = n) (hb : ∀ c ∈ cs, ¬ 255 < c) : CodA cs 0 (Int32.ofNat n) ((cs.map lo8).map Value.int) := Or.inl ⟨rfl, by rw [hn], by simp [List.map_map, Function.comp_def], hb⟩
end StrChars.Road
end Jvm.Pilot.@@N@@

namespace Jvm.Pilot.@@N@@
open Jvm Jvm.ClassFile Sem Op Lib Jvm.Free Jvm.Stand Jvm.LawKit Jvm.RoadKit Bundle Jvm.Pilot.@@N@@.Jvm.D
namespace Own
section Own
variable {p : Program} {l : Launch} {e : Env} {R : Room} {s : State} {m : MethodId} {args : Array Value} {below : List Frame} {meth : Method} {c : Code} {Z : State} {a0 : Array Value} {EL : List (String × Nat)} {y : MethodName} {bytes : ByteArray} {ml : Nat} {ret : Option FieldType} {w : Bool} {h0 : Heap} {ws ws' : List Addr} {vm0 vm1 : Vm} {T T' : State} {h h' h1 : Heap} {locs locs' : List Loc} {cells slots cells' slots' : Nat} {F : State → Option Value → Prop} {pc pc' : Nat} {Ls Ls' : Array Slot} {rest : List Value} {a b x : Addr}
/-- what is left of a walk: from here it comes to a return of which F is true -/
def Go (p : Program) (e : Env) (below : List Frame) (F : State → Option Value → Prop) (T : State) (g : JFrame) : Prop :=
  ∃ t v, Steps p.tables e below (T.setTop g) t ∧ t.status = .running ∧ Ended t below (.returned v) ∧ F t v
theorem Go.by {g g' : JFrame} (k : Go p e below F T' g') (st : ∀ t, Steps p.tables e below (T'.setTop g') t → Steps p.tables e below (T.setTop g) t) : Go p e below F T g := by
  obtain ⟨t, v, a, b⟩ := k; exact ⟨t, v, st t a, b⟩
theorem Go.imp {g : JFrame} {F' : State → Option Value → Prop} (k : Go p e below F T g) (f : ∀ t v, F t v → F' t v) : Go p e below F' T g := by
  obtain ⟨t, v, a, b, c, d⟩ := k; exact ⟨t, v, a, b, c, f t v d⟩
theorem extK (E : Ext h0 h) (K : Keep h h' ws) (q : ∀ x ∈ ws, h0.size ≤ x) : Ext h0 h' :=
  ⟨Nat.le_trans E.1 K.1, fun a c r => K.2.1 a c (E.2 a c r) fun z => absurd (Array.getElem?_eq_some_iff.mp r).1 (Nat.not_lt.mpr (q a z))⟩
theorem Ext.rfl' (h : Heap) : Ext h h := ⟨Nat.le_refl _, fun _ _ q => q⟩
theorem Ext.tr (E : Ext h h') (E' : Ext h' h1) : Ext h h1 := ⟨Nat.le_trans E.1 E'.1, fun a c q => E'.2 a c (E.2 a c q)⟩
theorem extN (K : Keep h h' []) : Ext h h' := ⟨K.1, fun a c q => K.2.1 a c q nin0⟩
/-- one step of the heap: what is kept; in a walk that may intern, the constants as well -/
def Ev (w : Bool) (Z : State) (EL : List (String × Nat)) (vm0 : Vm) (h : Heap) (vm1 : Vm) (h' : Heap) (ws : List Addr) : Prop := Keep h h' ws ∧ (w = true → CHr Z EL vm0 h vm1 h')
/-- the cell at x may be written -/
def Ok (w : Bool) (Z : State) (EL : List (String × Nat)) (h0 : Heap) (ws : List Addr) (vm0 : Vm) (h : Heap) (x : Addr) : Prop := x < h.size ∧ Z.heap.size ≤ x ∧ (x ∈ ws ∨ h0.size ≤ x) ∧ (w = true → Safe Z EL vm0 h x)
theorem Ok.ev (O : Ok w Z EL h0 ws vm0 h x) (V : Ev w Z EL vm0 h vm1 h' ws') : Ok w Z EL h0 ws vm1 h' x := ⟨Nat.lt_of_lt_of_le O.1 V.1.1, O.2.1, O.2.2.1, fun q => (V.2 q).safe O.1 (O.2.2.2 q)⟩
/-- where a walk stands -/
def Wk (p : Program) (l : Launch) (e : Env) (R : Room) (s : State) (m : MethodId) (args : Array Value) (below : List Frame) (meth : Method) (c : Code) (Z : State) (a0 : Array Value) (EL : List (String × Nat)) (y : MethodName) (bytes : ByteArray) (ml : Nat) (ret : Option FieldType) (w : Bool) (h0 : Heap) (ws : List Addr) (vm0 : Vm) (T : State) (h : Heap) (locs : List Loc) (cells slots : Nat) : Prop :=
  (p.tables.exec = Jvm.exec ∧ c.code = bytes ∧ c.maxLocals = ml ∧ meth.sig.returnType = ret ∧ meth.locks = false ∧ meth.name = y.name ∧ EW Z a0 EL) ∧
  Stand p l e R (s.setVm vm0) m args below meth c T locs cells slots ∧ Z.Warmed39 vm0 ∧ vm0.findClass y.cls = some m.cls ∧ T.heap = h ∧ (∃ k0, s.Since vm0 k0 ∧ k0 ≤ h.size) ∧ (w = false → vm0 = s.vm) ∧ Fr Z.heap.size locs ∧ Ext Z.heap h ∧ Keep h0 h ws ∧ (w = true → CHr Z EL s.vm h0 vm0 h)
theorem Wk.hx (X : Wk p l e R s m args below meth c Z a0 EL y bytes ml ret w h0 ws vm0 T h locs cells slots) : p.tables.exec = Jvm.exec := X.1.1
theorem Wk.hby (X : Wk p l e R s m args below meth c Z a0 EL y bytes ml ret w h0 ws vm0 T h locs cells slots) : c.code = bytes := X.1.2.1
theorem Wk.hml (X : Wk p l e R s m args below meth c Z a0 EL y bytes ml ret w h0 ws vm0 T h locs cells slots) : c.maxLocals = ml := X.1.2.2.1
theorem Wk.hret (X : Wk p l e R s m args below meth c Z a0 EL y bytes ml ret w h0 ws vm0 T h locs cells slots) : meth.sig.returnType = ret := X.1.2.2.2.1
theorem Wk.hlk (X : Wk p l e R s m args below meth c Z a0 EL y bytes ml ret w h0 ws vm0 T h locs cells slots) : meth.locks = false := X.1.2.2.2.2.1
theorem Wk.hnm (X : Wk p l e R s m args below meth c Z a0 EL y bytes ml ret w h0 ws vm0 T h locs cells slots) : meth.name = y.name := X.1.2.2.2.2.2.1
theorem Wk.hEW (X : Wk p l e R s m args below meth c Z a0 EL y bytes ml ret w h0 ws vm0 T h locs cells slots) : EW Z a0 EL := X.1.2.2.2.2.2.2
theorem Wk.st (X : Wk p l e R s m args below meth c Z a0 EL y bytes ml ret w h0 ws vm0 T h locs cells slots) : Stand p l e R (s.setVm vm0) m args below meth c T locs cells slots := X.2.1
theorem Wk.hZ (X : Wk p l e R s m args below meth c Z a0 EL y bytes ml ret w h0 ws vm0 T h locs cells slots) : Z.Warmed39 (s.setVm vm0).vm := X.2.2.1
theorem Wk.hown (X : Wk p l e R s m args below meth c Z a0 EL y bytes ml ret w h0 ws vm0 T h locs cells slots) : (s.setVm vm0).vm.findClass y.cls = some m.cls := X.2.2.2.1
theorem Wk.hT (X : Wk p l e R s m args below meth c Z a0 EL y bytes ml ret w h0 ws vm0 T h locs cells slots) : T.heap = h := X.2.2.2.2.1
theorem Wk.hS (X : Wk p l e R s m args below meth c Z a0 EL y bytes ml ret w h0 ws vm0 T h locs cells slots) : ∃ k0, s.Since vm0 k0 ∧ k0 ≤ h.size := X.2.2.2.2.2.1
theorem Wk.hv (X : Wk p l e R s m args below meth c Z a0 EL y bytes ml ret w h0 ws vm0 T h locs cells slots) : w = false → vm0 = s.vm := X.2.2.2.2.2.2.1
theorem Wk.hN (X : Wk p l e R s m args below meth c Z a0 EL y bytes ml ret w h0 ws vm0 T h locs cells slots) : Fr Z.heap.size locs := X.2.2.2.2.2.2.2.1
theorem Wk.hE (X : Wk p l e R s m args below meth c Z a0 EL y bytes ml ret w h0 ws vm0 T h locs cells slots) : Ext Z.heap h := X.2.2.2.2.2.2.2.2.1
theorem Wk.hK (X : Wk p l e R s m args below meth c Z a0 EL y bytes ml ret w h0 ws vm0 T h locs cells slots) : Keep h0 h ws := X.2.2.2.2.2.2.2.2.2.1
theorem Wk.hC (X : Wk p l e R s m args below meth c Z a0 EL y bytes ml ret w h0 ws vm0 T h locs cells slots) : w = true → CHr Z EL s.vm h0 vm0 h := X.2.2.2.2.2.2.2.2.2.2
theorem Wk.chv (X : Wk p l e R s m args below meth c Z a0 EL y bytes ml ret w h0 ws vm0 T h locs cells slots) (q : w = true) : CHv Z EL vm0 h := (X.hC q).1
theorem Wk.move (X : Wk p l e R s m args below meth c Z a0 EL y bytes ml ret w h0 ws vm0 T h locs cells slots) (St : Stand p l e R (s.setVm vm1) m args below meth c T' locs' cells' slots') (hZ : Z.Warmed39 vm1) (ho : vm1.findClass y.cls = some m.cls) (hT : T'.heap = h') (hS : ∃ k0, s.Since vm1 k0 ∧ k0 ≤ h'.size) (hv : w = false → vm1 = s.vm) (N : Fr Z.heap.size locs') (V : Ev w Z EL vm0 h vm1 h' ws') (q : ∀ x ∈ ws', Z.heap.size ≤ x ∧ (x ∈ ws ∨ h0.size ≤ x)) :
    Wk p l e R s m args below meth c Z a0 EL y bytes ml ret w h0 ws vm1 T' h' locs' cells' slots' :=
  ⟨X.1, St, hZ, ho, hT, hS, hv, N, extK X.hE V.1 fun x hx => (q x hx).1, X.hK.trans V.1 fun x hx => (q x hx).2, fun r => (X.hC r).trans (V.2 r)⟩
theorem Wk.since (X : Wk p l e R s m args below meth c Z a0 EL y bytes ml ret w h0 ws vm0 T h locs cells slots) (hg : h.size ≤ h'.size) : ∃ k0, s.Since vm0 k0 ∧ k0 ≤ h'.size := by obtain ⟨k, a, b⟩ := X.hS; exact ⟨k, a, Nat.le_trans b hg⟩
theorem Wk.same (X : Wk p l e R s m args below meth c Z a0 EL y bytes ml ret w h0 ws vm0 T h locs cells slots) (St : Stand p l e R (s.setVm vm0) m args below meth c T' locs' cells' slots') (hT : T'.heap = h') (N : Fr Z.heap.size locs') (V : Ev w Z EL vm0 h vm0 h' ws') (q : ∀ x ∈ ws', Z.heap.size ≤ x ∧ (x ∈ ws ∨ h0.size ≤ x)) :
    Wk p l e R s m args below meth c Z a0 EL y bytes ml ret w h0 ws vm0 T' h' locs' cells' slots' := X.move St X.hZ X.hown hT (X.since V.1.1) X.hv N V q
theorem Wk.evR (X : Wk p l e R s m args below meth c Z a0 EL y bytes ml ret w h0 ws vm0 T h locs cells slots) : Ev w Z EL vm0 h vm0 h [] := ⟨Keep.refl _ _, fun q => CHr.refl (X.chv q)⟩
theorem Wk.evE (X : Wk p l e R s m args below meth c Z a0 EL y bytes ml ret w h0 ws vm0 T h locs cells slots) (E : Ext h h') : Ev w Z EL vm0 h vm0 h' [] := ⟨(Keep.refl _ _).ext E, fun q => CHr.ext E (X.chv q)⟩
theorem Wk.evW {sl : Nat} {v : Value} (X : Wk p l e R s m args below meth c Z a0 EL y bytes ml ret w h0 ws vm0 T h locs cells slots) (W : Wr h h' a sl v) (O : Ok w Z EL h0 ws vm0 h a) : Ev w Z EL vm0 h vm0 h' [a] := ⟨Keep.of_wr W, fun q => CHr.wr W (O.2.2.2 q) (X.chv q)⟩
theorem Wk.evK (X : Wk p l e R s m args below meth c Z a0 EL y bytes ml ret w h0 ws vm0 T h locs cells slots) (K : Keep h h' ws') (q : ∀ x ∈ ws', Ok w Z EL h0 ws vm0 h x) : Ev w Z EL vm0 h vm0 h' ws' := ⟨K, fun r => CHr.keep K (fun x hx => (q x hx).2.2.2 r) (X.chv r)⟩
theorem Ok.two (q : ∀ x ∈ ws', Ok w Z EL h0 ws vm0 h x) : ∀ x ∈ ws', Z.heap.size ≤ x ∧ (x ∈ ws ∨ h0.size ≤ x) := fun x hx => ⟨(q x hx).2.1, (q x hx).2.2.1⟩
theorem Ok.one (O : Ok w Z EL h0 ws vm0 h a) : ∀ x ∈ [a], Ok w Z EL h0 ws vm0 h x := fun x hx => by cases List.mem_singleton.mp hx; exact O
theorem Ok.nil : ∀ x ∈ ([] : List Addr), Ok w Z EL h0 ws vm0 h x := fun _ q => nomatch q
theorem two0 : ∀ x ∈ ([] : List Addr), Z.heap.size ≤ x ∧ (x ∈ ws ∨ h0.size ≤ x) := fun _ q => nomatch q
theorem Wk.mono (X : Wk p l e R s m args below meth c Z a0 EL y bytes ml ret w h0 ws vm0 T h locs cells slots) (hc : cells ≤ cells') (hs : slots ≤ slots') : Wk p l e R s m args below meth c Z a0 EL y bytes ml ret w h0 ws vm0 T h locs cells' slots' :=
  ⟨X.1, X.st.more hc hs, X.2.2⟩
/-- the new cell at the heap's end may be written -/
theorem Wk.okNew (X : Wk p l e R s m args below meth c Z a0 EL y bytes ml ret w h0 ws vm0 T h locs cells slots) (E : Ext h h') (hlt : h.size < h'.size) : Ok w Z EL h0 ws vm0 h' h.size := ⟨hlt, X.hE.1, Or.inr X.hK.1, fun q => Safe.ext E (X.chv q) (Safe.new (Nat.le_refl _))⟩
/-! returns -/
def Done (w : Bool) (Z : State) (EL : List (String × Nat)) (rm : Room) (s : State) (h0 : Heap) (ws : List Addr) (P : Option Value → Heap → Prop) (t : State) (v : Option Value) : Prop :=
  ∃ L, (Fr Z.heap.size L ∧ Keep h0 t.heap ws ∧ P v t.heap) ∧ (w = true → CHr Z EL s.vm h0 t.vm t.heap) ∧ ReturnedEndW s (.returned v) t L rm.cells rm.slots ∧ (w = false → FrameEnd s (.returned v) t L rm.cells rm.slots)
theorem r_end {rm : Room} {P : Option Value → Heap → Prop} {g : JFrame} (X : Wk p l e R s m args below meth c Z a0 EL y bytes ml ret w h0 ws vm0 T h locs cells slots) (v : Option Value) (hv : ret = none → v = none) (hc : cells ≤ rm.cells) (hs : slots ≤ rm.slots) (hP : P v h)
    (st : ∀ fs, (∀ (f : JFrame) (acts : List Action), f.method = m → f.locked = none → f.entered = [] → (doReturn e (T.setTop f) acts v).1 = T.setFrames fs) → Steps p.tables e below (T.setTop g) (T.setFrames fs)) :
    Go p e below (Done w Z EL rm s h0 ws P) T g := by
  have hT := X.hT
  have hlk := X.hlk
  have hv' : meth.sig.returnType = none → v = none := fun q => hv (X.hret.symm.trans q)
  have hC : w = true → CHr Z EL s.vm h0 T.vm h := fun q => (X.hC q).trans (CHv.at X.st X.hZ X.hEW (X.chv q))
  cases w with
  | false =>
    have e0 := X.hv rfl
    subst e0
    have X1 : Stand p l e R s m args below meth c T locs cells slots := X.st
    obtain ⟨fs, h1, h2, h3, h4, h5⟩ := X1.leave (v := v) hv'
    refine ⟨T.setFrames fs, v, st fs h1, h2, h3, locs, ⟨X.hN, ?_, ?_⟩, nofun, ReturnedEndW.of_narrow ⟨v, rfl⟩ h4 (h5.mono hc hs), fun _ => ⟨⟨v, rfl⟩, h4, h5.mono hc hs⟩⟩
    · show Keep h0 T.heap ws; rw [hT]; exact X.hK
    · show P v T.heap; rw [hT]; exact hP
  | true =>
    obtain ⟨k0, k1, k2⟩ := X.hS
    obtain ⟨fs, h1, h2, h3, h4, h5, h6, h7⟩ := X.st.leaveW k1 (by rw [hT]; exact k2) (v := v) hv'
    refine ⟨T.setFrames fs, v, st fs h1, h2, h3, locs, ⟨X.hN, ?_, ?_⟩, fun q => ?_, ⟨h4, h5, h6, h7.mono hc hs⟩, nofun⟩
    · show Keep h0 T.heap ws; rw [hT]; exact X.hK
    · show P v T.heap; rw [hT]; exact hP
    · show CHr Z EL s.vm h0 T.vm T.heap; rw [hT]; exact hC q
theorem r_void {rm : Room} {P : Option Value → Heap → Prop} (X : Wk p l e R s m args below meth c Z a0 EL y bytes ml ret w h0 ws vm0 T h locs cells slots) (hr : ret = none) (hd : decode bytes pc = .ok (.return_, 1)) (hc : cells ≤ rm.cells) (hs : slots ≤ rm.slots) (hP : P none h) : Go p e below (Done w Z EL rm s h0 ws P) T (mkF m pc Ls []) :=
  r_end X none (fun _ => rfl) hc hs hP fun fs hl => X.st.returnOut X.hx (X.hret.trans hr) (hb X.hby hd) hl
theorem r_int {rm : Room} {P : Option Value → Heap → Prop} {z : Int32} (X : Wk p l e R s m args below meth c Z a0 EL y bytes ml ret w h0 ws vm0 T h locs cells slots) (hr : ret = some .int) (hd : decode bytes pc = .ok (.ireturn, 1)) (hc : cells ≤ rm.cells) (hs : slots ≤ rm.slots) (hP : P (some (.int z)) h) : Go p e below (Done w Z EL rm s h0 ws P) T (mkF m pc Ls (.int z :: rest)) :=
  r_end X (some (.int z)) (fun q => by rw [hr] at q; cases q) hc hs hP fun fs hl => retOut X.st X.hx (X.hret.trans hr) rfl (Or.inl ⟨rfl, Or.inl rfl, z, rfl⟩) (hb X.hby hd) hl
theorem r_nar {rm : Room} {P : Option Value → Heap → Prop} {z : Int32} {t : FieldType} (X : Wk p l e R s m args below meth c Z a0 EL y bytes ml ret w h0 ws vm0 T h locs cells slots) (hr : ret = some t) (ht : t = .boolean ∨ t = .byte ∨ t = .char ∨ t = .short) (hd : decode bytes pc = .ok (.ireturn, 1)) (hc : cells ≤ rm.cells) (hs : slots ≤ rm.slots) (hP : P (some (.int (nar t z))) h) : Go p e below (Done w Z EL rm s h0 ws P) T (mkF m pc Ls (.int z :: rest)) :=
  r_end X (some (.int (nar t z))) (fun q => by rw [hr] at q; cases q) hc hs hP fun fs hl => retN X.st X.hx (X.hret.trans hr) ht (hb X.hby hd) hl
theorem r_ref {rm : Room} {P : Option Value → Heap → Prop} {v : Value} {t : FieldType} (X : Wk p l e R s m args below meth c Z a0 EL y bytes ml ret w h0 ws vm0 T h locs cells slots) (hr : ret = some t) (ht : t.isReference = true) (hv : v.isRef = true) (hd : decode bytes pc = .ok (.areturn, 1)) (hc : cells ≤ rm.cells) (hs : slots ≤ rm.slots) (hP : P (some v) h) : Go p e below (Done w Z EL rm s h0 ws P) T (mkF m pc Ls (v :: rest)) :=
  r_end X (some v) (fun q => by rw [hr] at q; cases q) hc hs hP fun fs hl => retOut X.st X.hx (X.hret.trans hr) (by cases t <;> first | rfl | cases ht) (Or.inr (Or.inr (Or.inr (Or.inr ⟨rfl, ht, hv⟩)))) (hb X.hby hd) hl
/-! contracts -/
def Ctr (w : Bool) (l : Launch) (Z : State) (a0 : Array Value) (EL : List (String × Nat)) (y : MethodName) (bytes : ByteArray) (ml : Nat) (ret : Option FieldType) (rm : Room) (as : Array Value) (h0 : Heap) (ws : List Addr) (P : Option Value → Heap → Prop) : Prop :=
  ∀ cs : List Jvm.Cond, MetFree l y (head1 (Jvm.Cond.code y bytes ml ret :: cs) rm) (fun a U => a = as ∧ Z.Warmed39 U.vm ∧ U.heap = h0 ∧ (w = true → CHv Z EL U.vm h0 ∧ ∀ x ∈ ws, Safe Z EL U.vm h0 x)) (fun _ _ _ _ _ => True) (fun _ U o U' => ∃ v, o = .returned v ∧ Done w Z EL rm U h0 ws P U' v)
theorem Ctr.of {rm : Room} {as : Array Value} {P : Option Value → Heap → Prop} (hpn : plainFor y = true) (ef : ∀ m, entryFrame m as ml = mkF m 0 Ls []) (hE : Ext Z.heap h0) (hEW : EW Z a0 EL)
    (body : ∀ (p : Program) (e : Env) (s : State) (m : MethodId) (below : List Frame) (meth : Method) (c : Code) (T : State), Wk p l e rm s m as below meth c Z a0 EL y bytes ml ret w h0 ws s.vm T h0 [] 0 0 → (w = true → ∀ x ∈ ws, Safe Z EL s.vm h0 x) → Go p e below (Done w Z EL rm s h0 ws P) T (mkF m 0 Ls [])) :
    Ctr w l Z a0 EL y bytes ml ret rm as h0 ws P := by
  intro cs
  refine MetFree.of_bodySF hpn hisR ?_
  intro p e s m args below meth c s₁ Bd hml hP hK
  obtain ⟨rfl, hZ, hh, hC⟩ := hP
  have e0 : s₁.heap = h0 := by rw [← hh, Bd.state]; rfl
  have hS : s.Since s.vm s.heap.size := (State.WarmedH.refl s).since _
  obtain ⟨t, v, st, r1, r2, q⟩ := body p e s m below meth c s₁ ⟨⟨Bd.exec, Bd.bytes, hml, Bd.returns, Bd.notSynchronized, (name_of_methodNamed Bd.named Bd.method).1, hEW⟩, Stand.of_body Bd, hZ, findClass_of_methodNamed Bd.named, e0, ⟨_, hS, by rw [hh]; exact Nat.le_refl _⟩, fun _ => rfl, Fr.nil _, hE, Keep.refl _ _, fun q => CHr.refl (hC q).1⟩ (fun q => (hC q).2)
  exact ⟨t, .returned v, castTop (ef m) st, r1, r2, v, rfl, q⟩
theorem Ctr.back {w' : Bool} {y' : MethodName} {bytes' : ByteArray} {ml' : Nat} {ret' : Option FieldType} {rm : Room} {as : Array Value} {P : Option Value → Heap → Prop} {len W : Nat} (hw : w' = false) (H : Ctr w' l Z a0 EL y' bytes' ml' ret' rm as h ws' P) (hZ : Z.Warmed39 s.vm) (wc : (Jvm.Cond.code y' bytes' ml' ret').before a0 Z = true) (wz : (Jvm.Cond.initialized y'.cls).before a0 Z = true) (hf : rm.frames + 1 ≤ R.frames) (hl : W + (ml' + 11) + rm.locals ≤ R.locals) :
    Back l R p e below s args y' len W (fun A a => a = as ∧ A.U.heap = h ∧ A.cells + rm.cells ≤ R.cells ∧ A.slots + rm.slots ≤ R.slots) (fun A _ v B => ∃ L, (Fr Z.heap.size L ∧ Keep h B.U.heap ws' ∧ P v B.U.heap) ∧ B.locs = A.locs ++ L ∧ B.cells = A.cells + rm.cells ∧ B.slots = A.slots + rm.slots) := by
  subst hw
  refine backOf (Q := fun v h' L => Fr Z.heap.size L ∧ Keep h h' ws' ∧ P v h') (fun p e ha hc hk s m args below hf happ hP hK => ?_) hZ wc wz hf hl
  obtain ⟨n, o, r1, r2, r3, v, rfl, L, q1, -, -, q4⟩ := H [] p e ha hc hk s m args below hf happ ⟨hP.1, hP.2.1, hP.2.2, nofun⟩ hK
  exact ⟨n, _, r1, r2, r3, v, L, rfl, q1, q4 rfl⟩
theorem Ctr.backS {w' : Bool} {y' : MethodName} {bytes' : ByteArray} {ml' : Nat} {ret' : Option FieldType} {rm : Room} {as : Array Value} {P : Option Value → Heap → Prop} {len W : Nat} (hw : w' = true) (H : Ctr w' l Z a0 EL y' bytes' ml' ret' rm as h ws' P) (hZ : Z.Warmed39 vm0) (wc : (Jvm.Cond.code y' bytes' ml' ret').before a0 Z = true) (wz : (Jvm.Cond.initialized y'.cls).before a0 Z = true) (hf : rm.frames + 1 ≤ R.frames) (hl : W + (ml' + 11) + rm.locals ≤ R.locals) (hEL : EW Z a0 EL) (hC : CHv Z EL vm0 h) (hs : ∀ x ∈ ws', x < h.size ∧ Safe Z EL vm0 h x) :
    BackS l R p e below (s.setVm vm0) args y' len W (fun A a => a = as ∧ A.U.heap = h ∧ A.cells + rm.cells ≤ R.cells ∧ A.slots + rm.slots ≤ R.slots) (fun A _ v B => ∃ L, (Fr Z.heap.size L ∧ Keep h B.U.heap ws' ∧ P v B.U.heap ∧ CHr Z EL vm0 h B.U.vm B.U.heap) ∧ B.locs = A.locs ++ L ∧ B.cells = A.cells + rm.cells ∧ B.slots = A.slots + rm.slots) := by
  subst hw
  refine BackS.of_freeW (bytes := bytes') (maxL := ml') (ret := ret') (E := fun _ first o t L k n => k = rm.cells ∧ n = rm.slots ∧ (∃ v, o = .returned v ∧ Fr Z.heap.size L ∧ Keep h t.heap ws' ∧ P v t.heap) ∧ CHr Z EL first.vm h t.vm t.heap) (H []) hf hl ?_ ?_ (fun _ _ _ _ _ _ _ _ _ => trivial) ?_ ?_
  · intro m meth c A a Y hp
    have hU : Z.Warmed39 A.U.vm := wtrans (s := s.setVm vm0) hZ Y.warmed
    exact ⟨by show (Cond.and _ .tt).before a A.U = true; rw [Cond.before_and, mv hU wc]; rfl, mv hU wc, mv hU wz, hp.2.2.1, hp.2.2.2⟩
  · intro m meth c A a g mk Y hp
    have q := CHv.at Y hZ hEL hC
    exact ⟨hp.1, wtrans (s := s.setVm vm0) hZ Y.warmed, hp.2.1, fun _ => ⟨q.1, fun x hx => q.safe (hs x hx).1 (hs x hx).2⟩⟩
  · intro a first o t hq
    obtain ⟨v, rfl, L, q1, q2, q3, -⟩ := hq
    exact ⟨L, _, _, q3, rfl, rfl, ⟨v, rfl, q1⟩, q2 rfl⟩
  · intro m meth c A a g mk v t L k n Y hp _ _ hE
    obtain ⟨e1, e2, ⟨v', e3, e4⟩, e5⟩ := hE
    cases e3; subst e1 e2
    exact ⟨L, ⟨e4.1, e4.2.1, e4.2.2, (CHv.at Y hZ hEL hC).trans e5⟩, rfl, rfl, rfl⟩
/-! behind a call -/
theorem goB {G : Option Value → JFrame} {g : JFrame} {v : Option Value} {B : Pt} {Q : Option Value → Heap → List Loc → Prop} {P : Option Value → Heap → Prop} {cc ss : Nat} (X : Wk p l e R s m args below meth c Z a0 EL y bytes ml ret w h0 ws vm0 T h locs cells slots) (X' : Stand p l e R (s.setVm vm0) m args below meth c B.U B.locs B.cells B.slots)
    (hq : ∃ L, Q v B.U.heap L ∧ B.locs = locs ++ L ∧ B.cells = cells + cc ∧ B.slots = slots + ss) (st : Steps p.tables e below (T.setTop g) (B.U.setTop (G v))) (hQ : ∀ v h' L, Q v h' L → Fr Z.heap.size L ∧ Keep h h' ws' ∧ P v h') (hok : ∀ x ∈ ws', Ok w Z EL h0 ws vm0 h x)
    (k : ∀ v vm1 T' h' L, Wk p l e R s m args below meth c Z a0 EL y bytes ml ret w h0 ws vm1 T' h' (locs ++ L) (cells + cc) (slots + ss) → Ev w Z EL vm0 h vm1 h' ws' → P v h' → Go p e below F T' (G v)) : Go p e below F T g := by
  obtain ⟨L, q, e1, e2, e3⟩ := hq
  obtain ⟨n, K, hP⟩ := hQ _ _ _ q
  rw [e1, e2, e3] at X'
  have V := X.evK K hok
  exact (k v vm0 B.U B.U.heap L (X.same X' rfl (X.hN.app n) V (Ok.two hok)) V hP).by fun t r => st.trans r
theorem goS {G : Option Value → JFrame} {g : JFrame} {v : Option Value} {B : Pt} {P : Option Value → Heap → Prop} {cc ss : Nat} (hw : w = true) (X : Wk p l e R s m args below meth c Z a0 EL y bytes ml ret w h0 ws vm0 T h locs cells slots) (X' : Stand p l e R ((s.setVm vm0).setVm B.U.vm) m args below meth c B.U B.locs B.cells B.slots) (hS : (s.setVm vm0).Since B.U.vm B.U.heap.size) (hg : T.heap.size ≤ B.U.heap.size)
    (hq : ∃ L, (Fr Z.heap.size L ∧ Keep h B.U.heap ws' ∧ P v B.U.heap ∧ CHr Z EL vm0 h B.U.vm B.U.heap) ∧ B.locs = locs ++ L ∧ B.cells = cells + cc ∧ B.slots = slots + ss) (st : Steps p.tables e below (T.setTop g) (B.U.setTop (G v))) (hok : ∀ x ∈ ws', Ok w Z EL h0 ws vm0 h x)
    (k : ∀ v vm1 T' h' L, Wk p l e R s m args below meth c Z a0 EL y bytes ml ret w h0 ws vm1 T' h' (locs ++ L) (cells + cc) (slots + ss) → Ev w Z EL vm0 h vm1 h' ws' → P v h' → Go p e below F T' (G v)) : Go p e below F T g := by
  obtain ⟨L, ⟨n, K, hP, hC⟩, e1, e2, e3⟩ := hq
  rw [e1, e2, e3] at X'
  have V : Ev w Z EL vm0 h B.U.vm B.U.heap ws' := ⟨K, fun _ => hC⟩
  obtain ⟨k0, k1, k2⟩ := X.hS
  rw [X.hT] at hg
  have hZ : Z.Warmed39 B.U.vm := State.Warmed39.trans (t := s.setVm vm0) X.hZ hS.1
  refine (k v B.U.vm B.U B.U.heap L (X.move X' hZ ?_ rfl ⟨_, k1.trans hS (Nat.le_trans k2 hg), Nat.le_refl _⟩ (fun q => by rw [hw] at q; cases q) (X.hN.app n) V (Ok.two hok)) V hP).by fun t r => st.trans r
  rw [hS.1.alike.findClass]; exact X.hown
/-- never MethodHandle or VarHandle -/
abbrev Pl (y : MethodName) : Prop := y.cls ≠ "java/lang/invoke/MethodHandle" ∧ y.cls ≠ "java/lang/invoke/VarHandle"
section Calls
variable {y' z' : MethodName} {bytes' : ByteArray} {ml' idx W : Nat} {ret' : Option FieldType} {rm : Room} {P : Option Value → Heap → Prop} {w' : Bool} {S argsL : List Value} {Q : Option Value → Heap → List Loc → Prop} {cc ss : Nat} {C : String}
/-! calls paid by a Back -/
theorem b_static (X : Wk p l e R s m args below meth c Z a0 EL y bytes ml ret w h0 ws vm0 T h locs cells slots) (hd : decode bytes pc = .ok (.invokestatic idx, 3)) (w1 : (Jvm.Cond.methodLink y.cls idx y').before a0 Z = true) (w2 : (Jvm.Cond.static y').before a0 Z = true) (w3 : (Jvm.Cond.initialized y'.cls).before a0 Z = true) (w4 : (Jvm.Cond.code y' bytes' ml' ret').before a0 Z = true) (hy : Pl y')
    (argsL rest : List Value) (B : Back l R p e below (s.setVm vm0) args y' 3 W (fun A a => a = argsL.toArray ∧ A.U.heap = h ∧ A.cells + cc ≤ R.cells ∧ A.slots + ss ≤ R.slots) (fun A _ v B => ∃ L, Q v B.U.heap L ∧ B.locs = A.locs ++ L ∧ B.cells = A.cells + cc ∧ B.slots = A.slots + ss))
    (hQ : ∀ v h' L, Q v h' L → Fr Z.heap.size L ∧ Keep h h' ws' ∧ P v h') (hok : ∀ x ∈ ws', Ok w Z EL h0 ws vm0 h x) (hlen : ∀ sig, parseMethodDescriptor y'.desc = some sig → argsL.length = sig.parameters.length) (hS : S = argsL.reverse ++ rest) (hW : (rest.map fun v => v.category).sum ≤ W) (hc : cells + cc ≤ R.cells) (hs : slots + ss ≤ R.slots) (hsz : Ls.size = ml) (hp : pc + 3 = pc')
    (k : ∀ v vm1 T' h' L, Wk p l e R s m args below meth c Z a0 EL y bytes ml ret w h0 ws vm1 T' h' (locs ++ L) (cells + cc) (slots + ss) → Ev w Z EL vm0 h vm1 h' ws' → P v h' → Go p e below F T' (mkF m pc' Ls (v.toList ++ rest))) : Go p e below F T (mkF m pc Ls S) := by
  subst hp hS
  obtain ⟨v, vm, B, -, X', hq, st⟩ := Jvm.LawKit.callS X.st X.hx X.hown (mvT X.hZ w1) (mvT X.hZ w2) (mvT X.hZ w3) (mvT X.hZ w4) hy B (g := mkF m pc Ls (argsL.reverse ++ rest)) rfl (hsz.trans X.hml.symm) hlen rfl (by show 2 * 0 + _ ≤ _; omega) (hb X.hby hd) (fun _ _ => ⟨rfl, X.hT, hc, hs⟩)
  exact goB X X' hq (st _ (Steps.refl _)) hQ hok k
theorem b_special (X : Wk p l e R s m args below meth c Z a0 EL y bytes ml ret w h0 ws vm0 T h locs cells slots) (hd : decode bytes pc = .ok (.invokespecial idx, 3)) (hn : y'.name = "<init>") (w1 : (Jvm.Cond.methodLink y.cls idx y').before a0 Z = true) (w2 : (Jvm.Cond.instanceMethod y').before a0 Z = true) (w4 : (Jvm.Cond.code y' bytes' ml' none).before a0 Z = true) (hy : Pl y')
    (a : Addr) (argsL rest : List Value) (B : Back l R p e below (s.setVm vm0) args y' 3 W (fun A a' => a' = (.ref a :: argsL).toArray ∧ A.U.heap = h ∧ A.cells + cc ≤ R.cells ∧ A.slots + ss ≤ R.slots) (fun A _ v B => ∃ L, Q v B.U.heap L ∧ B.locs = A.locs ++ L ∧ B.cells = A.cells + cc ∧ B.slots = A.slots + ss))
    (hQ : ∀ v h' L, Q v h' L → Fr Z.heap.size L ∧ Keep h h' ws' ∧ P v h') (hok : ∀ x ∈ ws', Ok w Z EL h0 ws vm0 h x) (hlen : ∀ sig, parseMethodDescriptor y'.desc = some sig → argsL.length = sig.parameters.length) (hS : S = argsL.reverse ++ .ref a :: rest) (hW : (rest.map fun v => v.category).sum ≤ W) (hc : cells + cc ≤ R.cells) (hs : slots + ss ≤ R.slots) (hsz : Ls.size = ml) (hp : pc + 3 = pc')
    (k : ∀ v vm1 T' h' L, Wk p l e R s m args below meth c Z a0 EL y bytes ml ret w h0 ws vm1 T' h' (locs ++ L) (cells + cc) (slots + ss) → Ev w Z EL vm0 h vm1 h' ws' → P v h' → Go p e below F T' (mkF m pc' Ls (v.toList ++ rest))) : Go p e below F T (mkF m pc Ls S) := by
  subst hp hS
  obtain ⟨v, vm, B, -, X', hq, st⟩ := X.st.specialBack X.hx hn X.hown (mvT X.hZ w1) (mvT X.hZ w2) (mvT X.hZ w4) hy B (g := mkF m pc Ls (argsL.reverse ++ .ref a :: rest)) rfl (hsz.trans X.hml.symm) (Steps.refl _) hlen rfl (by show 2 * 0 + _ ≤ _; omega) (hb X.hby hd) (fun _ _ => ⟨rfl, X.hT, hc, hs⟩)
  exact goB X X' hq st hQ hok k
theorem b_virtual (X : Wk p l e R s m args below meth c Z a0 EL y bytes ml ret w h0 ws vm0 T h locs cells slots) (hd : decode bytes pc = .ok (.invokevirtual idx, 3)) (w1 : (Jvm.Cond.methodLink y.cls idx y').before a0 Z = true) (w2 : (Jvm.Cond.declares y').before a0 Z = true) (hnf : NotFace (s.setVm vm0) y') (w3 : (Jvm.Cond.selects C y' z').before a0 Z = true) (w4 : (Jvm.Cond.instanceMethod z').before a0 Z = true) (hy : Pl y')
    (a : Addr) (argsL rest : List Value) (E : Exa Z h a C) (B : Back l R p e below (s.setVm vm0) args z' 3 W (fun A a' => a' = (.ref a :: argsL).toArray ∧ A.U.heap = h ∧ A.cells + cc ≤ R.cells ∧ A.slots + ss ≤ R.slots) (fun A _ v B => ∃ L, Q v B.U.heap L ∧ B.locs = A.locs ++ L ∧ B.cells = A.cells + cc ∧ B.slots = A.slots + ss))
    (hQ : ∀ v h' L, Q v h' L → Fr Z.heap.size L ∧ Keep h h' ws' ∧ P v h') (hok : ∀ x ∈ ws', Ok w Z EL h0 ws vm0 h x) (hlen : ∀ sig, parseMethodDescriptor y'.desc = some sig → argsL.length = sig.parameters.length) (hS : S = argsL.reverse ++ .ref a :: rest) (hW : (rest.map fun v => v.category).sum ≤ W) (hc : cells + cc ≤ R.cells) (hs : slots + ss ≤ R.slots) (hsz : Ls.size = ml) (hp : pc + 3 = pc')
    (k : ∀ v vm1 T' h' L, Wk p l e R s m args below meth c Z a0 EL y bytes ml ret w h0 ws vm1 T' h' (locs ++ L) (cells + cc) (slots + ss) → Ev w Z EL vm0 h vm1 h' ws' → P v h' → Go p e below F T' (mkF m pc' Ls (v.toList ++ rest))) : Go p e below F T (mkF m pc Ls S) := by
  subst hp hS
  obtain ⟨cq, kq, qa, qb, qc⟩ := isOf (s := s.setVm vm0) X.hZ X.hT E
  obtain ⟨v, vm, B, -, X', hq, st⟩ := X.st.virtualBack X.hx X.hown (mvT X.hZ w1) (mvT X.hZ w2) hnf (mvT X.hZ w3) (mvT X.hZ w4) hy B qa qc (g := mkF m pc Ls (argsL.reverse ++ .ref a :: rest)) rfl (hsz.trans X.hml.symm) (Steps.refl _) hlen rfl (by show 2 * 0 + _ ≤ _; omega) (hb X.hby hd) (fun _ _ => ⟨rfl, X.hT, hc, hs⟩)
  exact goB X X' hq st hQ hok k
/-! calls paid by a contract -/
theorem c_static (X : Wk p l e R s m args below meth c Z a0 EL y bytes ml ret w h0 ws vm0 T h locs cells slots) (hd : decode bytes pc = .ok (.invokestatic idx, 3)) (w1 : (Jvm.Cond.methodLink y.cls idx y').before a0 Z = true) (w2 : (Jvm.Cond.static y').before a0 Z = true) (w3 : (Jvm.Cond.initialized y'.cls).before a0 Z = true) (w4 : (Jvm.Cond.code y' bytes' ml' ret').before a0 Z = true) (hy : Pl y')
    (argsL rest : List Value) (W : Nat) (H : Ctr w' l Z a0 EL y' bytes' ml' ret' rm argsL.toArray h ws' P) (hww : w' = true → w = true) (hok : ∀ x ∈ ws', Ok w Z EL h0 ws vm0 h x) (hlen : ∀ sig, parseMethodDescriptor y'.desc = some sig → argsL.length = sig.parameters.length) (hS : S = argsL.reverse ++ rest) (hW : (rest.map fun v => v.category).sum ≤ W) (hf : rm.frames + 1 ≤ R.frames) (hl : W + (ml' + 11) + rm.locals ≤ R.locals) (hc : cells + rm.cells ≤ R.cells) (hs : slots + rm.slots ≤ R.slots) (hsz : Ls.size = ml) (hp : pc + 3 = pc')
    (k : ∀ v vm1 T' h' L, Wk p l e R s m args below meth c Z a0 EL y bytes ml ret w h0 ws vm1 T' h' (locs ++ L) (cells + rm.cells) (slots + rm.slots) → Ev w Z EL vm0 h vm1 h' ws' → P v h' → Go p e below F T' (mkF m pc' Ls (v.toList ++ rest))) : Go p e below F T (mkF m pc Ls S) := by
  cases hw' : w' with
  | false => exact b_static X hd w1 w2 w3 w4 hy argsL rest (Ctr.back hw' H X.hZ w4 w3 hf hl) (fun v h' L q => q) hok hlen hS hW hc hs hsz hp k
  | true =>
    subst hp hS
    have hw := hww hw'
    obtain ⟨v, vm, B, -, X', hsi, hg, hq, st⟩ := callSS X.st X.hx X.hown (mvT X.hZ w1) (mvT X.hZ w2) (mvT X.hZ w3) (mvT X.hZ w4) hy (Ctr.backS hw' H X.hZ w4 w3 hf hl X.hEW (X.chv hw) fun x hx => ⟨(hok x hx).1, (hok x hx).2.2.2 hw⟩) (g := mkF m pc Ls (argsL.reverse ++ rest)) rfl (hsz.trans X.hml.symm) hlen rfl (by show 2 * 0 + _ ≤ _; omega) (hb X.hby hd) (fun _ _ => ⟨rfl, X.hT, hc, hs⟩)
    exact goS hw X X' hsi hg hq st hok k
theorem c_special (X : Wk p l e R s m args below meth c Z a0 EL y bytes ml ret w h0 ws vm0 T h locs cells slots) (hd : decode bytes pc = .ok (.invokespecial idx, 3)) (hn : y'.name = "<init>") (w1 : (Jvm.Cond.methodLink y.cls idx y').before a0 Z = true) (w2 : (Jvm.Cond.instanceMethod y').before a0 Z = true) (w3 : (Jvm.Cond.initialized y'.cls).before a0 Z = true) (w4 : (Jvm.Cond.code y' bytes' ml' none).before a0 Z = true) (hy : Pl y')
    (a : Addr) (argsL rest : List Value) (W : Nat) (H : Ctr w' l Z a0 EL y' bytes' ml' none rm (.ref a :: argsL).toArray h ws' P) (hww : w' = true → w = true) (hok : ∀ x ∈ ws', Ok w Z EL h0 ws vm0 h x) (hlen : ∀ sig, parseMethodDescriptor y'.desc = some sig → argsL.length = sig.parameters.length) (hS : S = argsL.reverse ++ .ref a :: rest) (hW : (rest.map fun v => v.category).sum ≤ W) (hf : rm.frames + 1 ≤ R.frames) (hl : W + (ml' + 11) + rm.locals ≤ R.locals) (hc : cells + rm.cells ≤ R.cells) (hs : slots + rm.slots ≤ R.slots) (hsz : Ls.size = ml) (hp : pc + 3 = pc')
    (k : ∀ v vm1 T' h' L, Wk p l e R s m args below meth c Z a0 EL y bytes ml ret w h0 ws vm1 T' h' (locs ++ L) (cells + rm.cells) (slots + rm.slots) → Ev w Z EL vm0 h vm1 h' ws' → P v h' → Go p e below F T' (mkF m pc' Ls (v.toList ++ rest))) : Go p e below F T (mkF m pc Ls S) := by
  cases hw' : w' with
  | false => exact b_special X hd hn w1 w2 w4 hy a argsL rest (Ctr.back hw' H X.hZ w4 w3 hf hl) (fun v h' L q => q) hok hlen hS hW hc hs hsz hp k
  | true =>
    subst hp hS
    have hw := hww hw'
    obtain ⟨v, vm, B, -, X', hsi, hg, hq, st⟩ := X.st.specialBackS X.hx hn X.hown (mvT X.hZ w1) (mvT X.hZ w2) (mvT X.hZ w4) hy (Ctr.backS hw' H X.hZ w4 w3 hf hl X.hEW (X.chv hw) fun x hx => ⟨(hok x hx).1, (hok x hx).2.2.2 hw⟩) (g := mkF m pc Ls (argsL.reverse ++ .ref a :: rest)) rfl (hsz.trans X.hml.symm) (Steps.refl _) hlen rfl (by show 2 * 0 + _ ≤ _; omega) (hb X.hby hd) (fun _ _ => ⟨rfl, X.hT, hc, hs⟩)
    exact goS hw X X' hsi hg hq st hok k
theorem c_virtual (X : Wk p l e R s m args below meth c Z a0 EL y bytes ml ret w h0 ws vm0 T h locs cells slots) (hd : decode bytes pc = .ok (.invokevirtual idx, 3)) (w1 : (Jvm.Cond.methodLink y.cls idx y').before a0 Z = true) (w2 : (Jvm.Cond.declares y').before a0 Z = true) (hnf : NotFace (s.setVm vm0) y') (w3 : (Jvm.Cond.selects C y' z').before a0 Z = true) (w4 : (Jvm.Cond.instanceMethod z').before a0 Z = true) (w5 : (Jvm.Cond.initialized z'.cls).before a0 Z = true) (w6 : (Jvm.Cond.code z' bytes' ml' ret').before a0 Z = true) (hy : Pl y')
    (a : Addr) (argsL rest : List Value) (W : Nat) (E : Exa Z h a C) (H : Ctr w' l Z a0 EL z' bytes' ml' ret' rm (.ref a :: argsL).toArray h ws' P) (hww : w' = true → w = true) (hok : ∀ x ∈ ws', Ok w Z EL h0 ws vm0 h x) (hlen : ∀ sig, parseMethodDescriptor y'.desc = some sig → argsL.length = sig.parameters.length) (hS : S = argsL.reverse ++ .ref a :: rest) (hW : (rest.map fun v => v.category).sum ≤ W) (hf : rm.frames + 1 ≤ R.frames) (hl : W + (ml' + 11) + rm.locals ≤ R.locals) (hc : cells + rm.cells ≤ R.cells) (hs : slots + rm.slots ≤ R.slots) (hsz : Ls.size = ml) (hp : pc + 3 = pc')
    (k : ∀ v vm1 T' h' L, Wk p l e R s m args below meth c Z a0 EL y bytes ml ret w h0 ws vm1 T' h' (locs ++ L) (cells + rm.cells) (slots + rm.slots) → Ev w Z EL vm0 h vm1 h' ws' → P v h' → Go p e below F T' (mkF m pc' Ls (v.toList ++ rest))) : Go p e below F T (mkF m pc Ls S) := by
  cases hw' : w' with
  | false => exact b_virtual X hd w1 w2 hnf w3 w4 hy a argsL rest E (Ctr.back hw' H X.hZ w6 w5 hf hl) (fun v h' L q => q) hok hlen hS hW hc hs hsz hp k
  | true =>
    subst hp hS
    have hw := hww hw'
    obtain ⟨cq, kq, qa, qb, qc⟩ := isOf (s := s.setVm vm0) X.hZ X.hT E
    obtain ⟨v, vm, B, -, X', hsi, hg, hq, st⟩ := X.st.virtualBackS X.hx X.hown (mvT X.hZ w1) (mvT X.hZ w2) hnf (mvT X.hZ w3) (mvT X.hZ w4) hy (Ctr.backS hw' H X.hZ w6 w5 hf hl X.hEW (X.chv hw) fun x hx => ⟨(hok x hx).1, (hok x hx).2.2.2 hw⟩) qa qc (g := mkF m pc Ls (argsL.reverse ++ .ref a :: rest)) rfl (hsz.trans X.hml.symm) (Steps.refl _) hlen rfl (by show 2 * 0 + _ ≤ _; omega) (hb X.hby hd) (fun _ _ => ⟨rfl, X.hT, hc, hs⟩)
    exact goS hw X X' hsi hg hq st hok k
theorem b_interface {count : Nat} (X : Wk p l e R s m args below meth c Z a0 EL y bytes ml ret w h0 ws vm0 T h locs cells slots) (hd : decode bytes pc = .ok (.invokeinterface idx count, 5)) (w1 : (Jvm.Cond.methodLink y.cls idx y').before a0 Z = true) (w2 : (Jvm.Cond.declares y').before a0 Z = true) (w3 : (Jvm.Cond.interfaceMethod y'.cls y'.cls y'.name y'.desc).before a0 Z = true) (hfc : ((Jvm.Cond.interfaceMethod y'.cls y'.cls y'.name y'.desc).onTables && (Jvm.Cond.interfaceMethod y'.cls y'.cls y'.name y'.desc).keepsFace) = true) (w4 : (Jvm.Cond.selects C y' z').before a0 Z = true) (w5 : (Jvm.Cond.instanceMethod z').before a0 Z = true) (w6 : (Jvm.Cond.publicMethod z').before a0 Z = true) (w7 : (Jvm.Cond.unhidden C y'.name y'.desc).before a0 Z = true) (w8 : (Jvm.Cond.castable C y'.cls).before a0 Z = true) (hy : Pl y')
    (a : Addr) (argsL rest : List Value) (E : Exa Z h a C) (B : Back l R p e below (s.setVm vm0) args z' 5 W (fun A a' => a' = (.ref a :: argsL).toArray ∧ A.U.heap = h ∧ A.cells + cc ≤ R.cells ∧ A.slots + ss ≤ R.slots) (fun A _ v B => ∃ L, Q v B.U.heap L ∧ B.locs = A.locs ++ L ∧ B.cells = A.cells + cc ∧ B.slots = A.slots + ss))
    (hQ : ∀ v h' L, Q v h' L → Fr Z.heap.size L ∧ Keep h h' ws' ∧ P v h') (hok : ∀ x ∈ ws', Ok w Z EL h0 ws vm0 h x) (hlen : ∀ sig, parseMethodDescriptor y'.desc = some sig → argsL.length = sig.parameters.length) (hS : S = argsL.reverse ++ .ref a :: rest) (hW : (rest.map fun v => v.category).sum ≤ W) (hc : cells + cc ≤ R.cells) (hs : slots + ss ≤ R.slots) (hsz : Ls.size = ml) (hp : pc + 5 = pc')
    (k : ∀ v vm1 T' h' L, Wk p l e R s m args below meth c Z a0 EL y bytes ml ret w h0 ws vm1 T' h' (locs ++ L) (cells + cc) (slots + ss) → Ev w Z EL vm0 h vm1 h' ws' → P v h' → Go p e below F T' (mkF m pc' Ls (v.toList ++ rest))) : Go p e below F T (mkF m pc Ls S) := by
  subst hp hS
  obtain ⟨cq, kq, qa, qb, qc⟩ := isOf (s := s.setVm vm0) X.hZ X.hT E
  obtain ⟨v, vm, B, -, X', hq, st⟩ := X.st.interfaceBack X.hx X.hown (mvT X.hZ w1) (mvT X.hZ w2) (mvT X.hZ w3 hfc) (mvT X.hZ w4) (mvT X.hZ w5) (mvT X.hZ w6) (mvT X.hZ w7) (mvT X.hZ w8) hy B qa qb qc (g := mkF m pc Ls (argsL.reverse ++ .ref a :: rest)) rfl (hsz.trans X.hml.symm) (Steps.refl _) hlen rfl (by show 2 * 0 + _ ≤ _; omega) (hb X.hby hd) (fun _ _ => ⟨rfl, X.hT, hc, hs⟩)
  exact goB X X' hq st hQ hok k
theorem c_interface {count : Nat} (X : Wk p l e R s m args below meth c Z a0 EL y bytes ml ret w h0 ws vm0 T h locs cells slots) (hd : decode bytes pc = .ok (.invokeinterface idx count, 5)) (w1 : (Jvm.Cond.methodLink y.cls idx y').before a0 Z = true) (w2 : (Jvm.Cond.declares y').before a0 Z = true) (w3 : (Jvm.Cond.interfaceMethod y'.cls y'.cls y'.name y'.desc).before a0 Z = true) (hfc : ((Jvm.Cond.interfaceMethod y'.cls y'.cls y'.name y'.desc).onTables && (Jvm.Cond.interfaceMethod y'.cls y'.cls y'.name y'.desc).keepsFace) = true) (w4 : (Jvm.Cond.selects C y' z').before a0 Z = true) (w5 : (Jvm.Cond.instanceMethod z').before a0 Z = true) (w6 : (Jvm.Cond.publicMethod z').before a0 Z = true) (w7 : (Jvm.Cond.unhidden C y'.name y'.desc).before a0 Z = true) (w8 : (Jvm.Cond.castable C y'.cls).before a0 Z = true) (wz : (Jvm.Cond.initialized z'.cls).before a0 Z = true) (wc : (Jvm.Cond.code z' bytes' ml' ret').before a0 Z = true) (hy : Pl y')
    (a : Addr) (argsL rest : List Value) (W : Nat) (E : Exa Z h a C) (H : Ctr w' l Z a0 EL z' bytes' ml' ret' rm (.ref a :: argsL).toArray h ws' P) (hww : w' = true → w = true) (hok : ∀ x ∈ ws', Ok w Z EL h0 ws vm0 h x) (hlen : ∀ sig, parseMethodDescriptor y'.desc = some sig → argsL.length = sig.parameters.length) (hS : S = argsL.reverse ++ .ref a :: rest) (hW : (rest.map fun v => v.category).sum ≤ W) (hf : rm.frames + 1 ≤ R.frames) (hl : W + (ml' + 11) + rm.locals ≤ R.locals) (hc : cells + rm.cells ≤ R.cells) (hs : slots + rm.slots ≤ R.slots) (hsz : Ls.size = ml) (hp : pc + 5 = pc')
    (k : ∀ v vm1 T' h' L, Wk p l e R s m args below meth c Z a0 EL y bytes ml ret w h0 ws vm1 T' h' (locs ++ L) (cells + rm.cells) (slots + rm.slots) → Ev w Z EL vm0 h vm1 h' ws' → P v h' → Go p e below F T' (mkF m pc' Ls (v.toList ++ rest))) : Go p e below F T (mkF m pc Ls S) := by
  cases hw' : w' with
  | false => exact b_interface X hd w1 w2 w3 hfc w4 w5 w6 w7 w8 hy a argsL rest E (Ctr.back hw' H X.hZ wc wz hf hl) (fun v h' L q => q) hok hlen hS hW hc hs hsz hp k
  | true =>
    subst hp hS
    have hw := hww hw'
    obtain ⟨cq, kq, qa, qb, qc⟩ := isOf (s := s.setVm vm0) X.hZ X.hT E
    obtain ⟨v, vm, B, -, X', hsi, hg, hq, st⟩ := X.st.interfaceBackS X.hx X.hown (mvT X.hZ w1) (mvT X.hZ w2) (mvT X.hZ w3 hfc) (mvT X.hZ w4) (mvT X.hZ w5) (mvT X.hZ w6) (mvT X.hZ w7) (mvT X.hZ w8) hy (Ctr.backS hw' H X.hZ wc wz hf hl X.hEW (X.chv hw) fun x hx => ⟨(hok x hx).1, (hok x hx).2.2.2 hw⟩) qa qb qc (g := mkF m pc Ls (argsL.reverse ++ .ref a :: rest)) rfl (hsz.trans X.hml.symm) (Steps.refl _) hlen rfl (by show 2 * 0 + _ ≤ _; omega) (hb X.hby hd) (fun _ _ => ⟨rfl, X.hT, hc, hs⟩)
    exact goS hw X X' hsi hg hq st hok k
end Calls
/-! steps that make or write -/
theorem s_initO {idx : Nat} (X : Wk p l e R s m args below meth c Z a0 EL y bytes ml ret w h0 ws vm0 T h locs cells slots) (hd : decode bytes pc = .ok (.invokespecial idx, 3)) (w1 : (Jvm.Cond.methodLink y.cls idx Lib.objectInit).before a0 Z = true) (w2 : (Jvm.Cond.instanceMethod Lib.objectInit).before a0 Z = true) (w3 : (Jvm.Cond.code Lib.objectInit ⟨#[0xb1]⟩ 1 none).before a0 Z = true) (W : Nat) (hW : (rest.map fun v => v.category).sum ≤ W) (hf : 1 ≤ R.frames) (hl : W + 12 ≤ R.locals) (hsz : Ls.size = ml) (hp : pc + 3 = pc')
    (k : ∀ T', Wk p l e R s m args below meth c Z a0 EL y bytes ml ret w h0 ws vm0 T' h locs cells slots → Go p e below F T' (mkF m pc' Ls rest)) : Go p e below F T (mkF m pc Ls (.ref a :: rest)) := by
  subst hp
  obtain ⟨T', X', e', st⟩ := initO X.st X.hx X.hZ X.hown w1 w2 w3 X.hT (g := mkF m pc Ls (.ref a :: rest)) rfl (hsz.trans X.hml.symm) rfl (hb X.hby hd) hf (W := W) (by show 2 * 0 + _ ≤ _; omega) hl
  exact (k T' (X.same X' e' X.hN X.evR two0)).by fun t r => st t r
theorem s_new {idx n : Nat} {C : String} (X : Wk p l e R s m args below meth c Z a0 EL y bytes ml ret w h0 ws vm0 T h locs cells slots) (hd : decode bytes pc = .ok (.new idx, 3)) (w1 : (Jvm.Cond.classLink y.cls idx C).before a0 Z = true) (w2 : (Jvm.Cond.instantiable C n).before a0 Z = true) (w3 : (Jvm.Cond.initialized C).before a0 Z = true) (hc : cells + 1 ≤ R.cells) (hs : slots + n ≤ R.slots) (hp : pc + 3 = pc')
    (k : ∀ a T' h', Wk p l e R s m args below meth c Z a0 EL y bytes ml ret w h0 ws vm0 T' h' locs (cells + 1) (slots + n) → Ev w Z EL vm0 h vm0 h' [] → h.size ≤ a → Exa Z h' a C → Ok w Z EL h0 ws vm0 h' a → (∀ {O nm d : String} {ty : FieldType}, Laid Z a0 C O nm d → parseFieldDescriptor d = some ty → Fld Z h' a O nm d (defaultValue ty)) → Go p e below F T' (mkF m pc' Ls (.ref a :: rest))) : Go p e below F T (mkF m pc Ls rest) := by
  subst hp
  obtain ⟨T', h', X', e', E, A, D, -, st⟩ := newO X.st X.hx X.hZ X.hown w1 w2 w3 X.hT (g := mkF m pc Ls rest) rfl (hb X.hby hd) hc hs
  have V := X.evE E
  exact (k h.size T' h' (X.same X' e' X.hN V two0) V (Nat.le_refl _) A (X.okNew E A.lt) D).by fun t r => st t r
theorem s_newarray {aty : ArrayType} {n : Int32} (X : Wk p l e R s m args below meth c Z a0 EL y bytes ml ret w h0 ws vm0 T h locs cells slots) (hd : decode bytes pc = .ok (.newarray aty, 2)) (w1 : (Jvm.Cond.arrayClass (newarray.typeOf aty)).before a0 Z = true) (hn : ¬ n < 0) (cap : Nat) (hcap : n.toNatClampNeg ≤ cap) (hbg : cap * 8 ≤ 536870912) (hc : cells + 1 ≤ R.cells) (hs : slots + cap ≤ R.slots) (hp : pc + 2 = pc')
    (k : ∀ a T' h' kc, Wk p l e R s m args below meth c Z a0 EL y bytes ml ret w h0 ws vm0 T' h' locs (cells + 1) (slots + cap) → Ev w Z EL vm0 h vm0 h' [] → h.size ≤ a → Arv Z h' a kc (newarray.typeOf aty) n [] (defaultValue (newarray.typeOf aty)) → Ok w Z EL h0 ws vm0 h' a → Go p e below F T' (mkF m pc' Ls (.ref a :: rest))) : Go p e below F T (mkF m pc Ls (.int n :: rest)) := by
  subst hp
  obtain ⟨T', h', kc, X', e', E, A, st⟩ := newP X.st X.hx X.hZ w1 X.hT (g := mkF m pc Ls (.int n :: rest)) rfl (hb X.hby hd) rfl hn hcap hbg hc hs
  have V := X.evE E
  exact (k h.size T' h' kc (X.same X' e' X.hN V two0) V (Nat.le_refl _) (Arv.new A hn) (X.okNew E A.lt)).by fun t r => st t r
theorem s_putfield {idx kk : Nat} {O nm d C : String} {old v : Value} {ty : FieldType} (X : Wk p l e R s m args below meth c Z a0 EL y bytes ml ret w h0 ws vm0 T h locs cells slots) (hd : decode bytes pc = .ok (.putfield idx, 3)) (w1 : (Jvm.Cond.fieldLink y.cls idx O nm d).before a0 Z = true) (Fo : Fld Z h a O nm d old) (E : Exa Z h a C) (L : (Jvm.Cond.lays C O nm d).before a0 Z = true ∨ ((Jvm.Cond.laysFinal C O nm d).before a0 Z = true ∧ y.cls = O ∧ y.name = "<init>")) (wi : (Jvm.Cond.instantiable C kk).before a0 Z = true) (hty : parseFieldDescriptor d = some ty) (hn : narrow ty v = v) (hf : fits ty v = true) (Oa : Ok w Z EL h0 ws vm0 h a) (hp : pc + 3 = pc')
    (k : ∀ T' h', Wk p l e R s m args below meth c Z a0 EL y bytes ml ret w h0 ws vm0 T' h' (locs ++ [⟨a, Jvm.RoadKit.slotOf Z O nm d⟩]) cells slots → Ev w Z EL vm0 h vm0 h' [a] → Wr h h' a (Jvm.RoadKit.slotOf Z O nm d) v → Go p e below F T' (mkF m pc' Ls rest)) : Go p e below F T (mkF m pc Ls (v :: .ref a :: rest)) := by
  subst hp
  obtain ⟨T', h', X', e', W, st⟩ := putF X.st X.hx X.hZ X.hown (host := "") (Or.inl w1) Via.refl X.hT Fo E (L.imp id fun q => ⟨q.1, q.2.1, X.hnm.trans q.2.2⟩) wi hty hn hf (g := mkF m pc Ls (v :: .ref a :: rest)) rfl rfl (hb X.hby hd)
  have V := X.evW W Oa
  exact (k T' h' (X.same X' e' (Fr.snoc X' X.hN Oa.2.1) V (Ok.two Oa.one)) V W).by fun t r => st t r
theorem s_putfieldN {idx kk : Nat} {O nm d C : String} {old v v' : Value} {ty : FieldType} (X : Wk p l e R s m args below meth c Z a0 EL y bytes ml ret w h0 ws vm0 T h locs cells slots) (hd : decode bytes pc = .ok (.putfield idx, 3)) (w1 : (Jvm.Cond.fieldLink y.cls idx O nm d).before a0 Z = true) (Fo : Fld Z h a O nm d old) (E : Exa Z h a C) (L : (Jvm.Cond.lays C O nm d).before a0 Z = true ∨ ((Jvm.Cond.laysFinal C O nm d).before a0 Z = true ∧ y.cls = O ∧ y.name = "<init>")) (wi : (Jvm.Cond.instantiable C kk).before a0 Z = true) (hty : parseFieldDescriptor d = some ty) (hn : narrow ty v = v') (hf : fits ty v' = true) (Oa : Ok w Z EL h0 ws vm0 h a) (hp : pc + 3 = pc')
    (k : ∀ T' h', Wk p l e R s m args below meth c Z a0 EL y bytes ml ret w h0 ws vm0 T' h' (locs ++ [⟨a, Jvm.RoadKit.slotOf Z O nm d⟩]) cells slots → Ev w Z EL vm0 h vm0 h' [a] → Wr h h' a (Jvm.RoadKit.slotOf Z O nm d) v' → Go p e below F T' (mkF m pc' Ls rest)) : Go p e below F T (mkF m pc Ls (v :: .ref a :: rest)) := by
  subst hp
  obtain ⟨T', h', X', e', W, st⟩ := putFN X.st X.hx X.hZ X.hown w1 Via.refl X.hT Fo E (L.imp id fun q => ⟨q.1, q.2.1, X.hnm.trans q.2.2⟩) wi hty hn hf (g := mkF m pc Ls (v :: .ref a :: rest)) rfl rfl (hb X.hby hd)
  have V := X.evW W Oa
  exact (k T' h' (X.same X' e' (Fr.snoc X' X.hN Oa.2.1) V (Ok.two Oa.one)) V W).by fun t r => st t r
theorem s_getfield {idx : Nat} {O nm d : String} {v : Value} (X : Wk p l e R s m args below meth c Z a0 EL y bytes ml ret w h0 ws vm0 T h locs cells slots) (hd : decode bytes pc = .ok (.getfield idx, 3)) (w1 : (Jvm.Cond.fieldLink y.cls idx O nm d).before a0 Z = true) (Fo : Fld Z h a O nm d v) (hp : pc + 3 = pc')
    (k : ∀ T', Wk p l e R s m args below meth c Z a0 EL y bytes ml ret w h0 ws vm0 T' h locs cells slots → Go p e below F T' (mkF m pc' Ls (v :: rest))) : Go p e below F T (mkF m pc Ls (.ref a :: rest)) := by
  subst hp
  obtain ⟨T', X', e', st⟩ := getF X.st X.hx X.hZ X.hown (host := "") (Or.inl w1) Via.refl X.hT Fo (g := mkF m pc Ls (.ref a :: rest)) rfl rfl (hb X.hby hd)
  exact (k T' (X.same X' e' X.hN X.evR two0)).by fun t r => st t r
theorem s_getstatic {idx : Nat} {O nm d : String} {v : Value} (X : Wk p l e R s m args below meth c Z a0 EL y bytes ml ret w h0 ws vm0 T h locs cells slots) (hd : decode bytes pc = .ok (.getstatic idx, 3)) (w1 : (Jvm.Cond.fieldLink y.cls idx O nm d).before a0 Z = true) (Fo : Sta Z h O nm d v) (hp : pc + 3 = pc')
    (k : ∀ T', Wk p l e R s m args below meth c Z a0 EL y bytes ml ret w h0 ws vm0 T' h locs cells slots → Go p e below F T' (mkF m pc' Ls (v :: rest))) : Go p e below F T (mkF m pc Ls rest) := by
  subst hp
  obtain ⟨T', X', e', st⟩ := getS2 X.st X.hx X.hZ X.hown (host := "") (Or.inl w1) Via.refl X.hT Fo (g := mkF m pc Ls rest) rfl (hb X.hby hd)
  exact (k T' (X.same X' e' X.hN X.evR two0)).by fun t r => st t r
theorem s_getstaticN {idx : Nat} {O nm d host : String} {v : Value} (X : Wk p l e R s m args below meth c Z a0 EL y bytes ml ret w h0 ws vm0 T h locs cells slots) (hd : decode bytes pc = .ok (.getstatic idx, 3)) (w1 : (Jvm.Cond.fieldLinkNest y.cls idx O nm d host).before a0 Z = true) (Fo : Sta Z h O nm d v) (hp : pc + 3 = pc')
    (k : ∀ T', Wk p l e R s m args below meth c Z a0 EL y bytes ml ret w h0 ws vm0 T' h locs cells slots → Go p e below F T' (mkF m pc' Ls (v :: rest))) : Go p e below F T (mkF m pc Ls rest) := by
  subst hp
  obtain ⟨T', X', e', st⟩ := getS2 X.st X.hx X.hZ X.hown (host := host) (Or.inr w1) Via.refl X.hT Fo (g := mkF m pc Ls rest) rfl (hb X.hby hd)
  exact (k T' (X.same X' e' X.hN X.evR two0)).by fun t r => st t r
theorem s_castore {j z n : Int32} {kc : ClassId} {vs : List Value} {dv : Value} (X : Wk p l e R s m args below meth c Z a0 EL y bytes ml ret w h0 ws vm0 T h locs cells slots) (hd : decode bytes pc = .ok (.castore, 1)) (A : Arv Z h a kc .char n vs dv) (hj : ¬ j < 0 ∧ j < n) (i : Nat) (hi : j.toNatClampNeg = i) (hlt : i < vs.length) (Oa : Ok w Z EL h0 ws vm0 h a) (hp : pc + 1 = pc')
    (k : ∀ T' h', Wk p l e R s m args below meth c Z a0 EL y bytes ml ret w h0 ws vm0 T' h' (locs ++ [⟨a, j.toNatClampNeg⟩]) cells slots → Ev w Z EL vm0 h vm0 h' [a] → Arv Z h' a kc .char n (vs.set i (.int (nar .char z))) dv → Go p e below F T' (mkF m pc' Ls rest)) : Go p e below F T (mkF m pc Ls (.int z :: .int j :: .ref a :: rest)) := by
  subst hp
  obtain ⟨cl, Ar, q1, S, q3, H, G⟩ := A
  obtain ⟨T', h', X', e', W, st⟩ := stC X.st X.hx X.hZ X.hT Ar (inb_of S hj) (g := mkF m pc Ls (.int z :: .int j :: .ref a :: rest)) rfl rfl (hb X.hby hd)
  have V := X.evW W Oa
  exact (k T' h' (X.same X' e' (Fr.snoc X' X.hN Oa.2.1) V (Ok.two Oa.one)) V (Arv.set Ar q1 S q3 H G (fits_nar_char z) W i hi hlt)).by fun t r => st t r
theorem s_bastore {j z n : Int32} {kc : ClassId} {vs : List Value} {dv : Value} (X : Wk p l e R s m args below meth c Z a0 EL y bytes ml ret w h0 ws vm0 T h locs cells slots) (hd : decode bytes pc = .ok (.bastore, 1)) (A : Arv Z h a kc .byte n vs dv) (hj : ¬ j < 0 ∧ j < n) (i : Nat) (hi : j.toNatClampNeg = i) (hlt : i < vs.length) (Oa : Ok w Z EL h0 ws vm0 h a) (hp : pc + 1 = pc')
    (k : ∀ T' h', Wk p l e R s m args below meth c Z a0 EL y bytes ml ret w h0 ws vm0 T' h' (locs ++ [⟨a, j.toNatClampNeg⟩]) cells slots → Ev w Z EL vm0 h vm0 h' [a] → Arv Z h' a kc .byte n (vs.set i (.int z.toInt8.toInt32)) dv → Go p e below F T' (mkF m pc' Ls rest)) : Go p e below F T (mkF m pc Ls (.int z :: .int j :: .ref a :: rest)) := by
  subst hp
  obtain ⟨cl, Ar, q1, S, q3, H, G⟩ := A
  obtain ⟨T', h', X', e', W, st⟩ := stB X.st X.hx X.hZ X.hT Ar (inb_of S hj) (g := mkF m pc Ls (.int z :: .int j :: .ref a :: rest)) rfl rfl (hb X.hby hd)
  have V := X.evW W Oa
  exact (k T' h' (X.same X' e' (Fr.snoc X' X.hN Oa.2.1) V (Ok.two Oa.one)) V (Arv.set Ar q1 S q3 H G (fits_nar_byte z) W i hi hlt)).by fun t r => st t r
theorem s_caload {j n z : Int32} {kc : ClassId} {vs : List Value} {dv : Value} (X : Wk p l e R s m args below meth c Z a0 EL y bytes ml ret w h0 ws vm0 T h locs cells slots) (hd : decode bytes pc = .ok (.caload, 1)) (A : Arv Z h a kc .char n vs dv) (hj : ¬ j < 0 ∧ j < n) (hz : vs.getD j.toNatClampNeg dv = .int z) (hp : pc + 1 = pc')
    (k : Go p e below F T (mkF m pc' Ls (.int z :: rest))) : Go p e below F T (mkF m pc Ls (.int j :: .ref a :: rest)) := by
  subst hp
  obtain ⟨cl, Ar, q1, S, q3, H, G⟩ := A
  exact k.by fun t r => X.st.caload X.hx (j := j) (v := .int z) (by rw [X.hT]; exact Ar.1) (State.isArrayOf_alike X.hZ.alike Ar.2.1) Ar.2.2 (inb_of S hj) (H.at (inb_of S hj) hz) (g := mkF m pc Ls (.int j :: .ref a :: rest)) rfl rfl (hb X.hby hd) t r
theorem s_baload {j n z : Int32} {kc : ClassId} {vs : List Value} {dv : Value} (X : Wk p l e R s m args below meth c Z a0 EL y bytes ml ret w h0 ws vm0 T h locs cells slots) (hd : decode bytes pc = .ok (.baload, 1)) (A : Arv Z h a kc .byte n vs dv) (hj : ¬ j < 0 ∧ j < n) (hz : vs.getD j.toNatClampNeg dv = .int z) (hp : pc + 1 = pc')
    (k : Go p e below F T (mkF m pc' Ls (.int z :: rest))) : Go p e below F T (mkF m pc Ls (.int j :: .ref a :: rest)) := by
  subst hp
  obtain ⟨cl, Ar, q1, S, q3, H, G⟩ := A
  exact k.by fun t r => X.st.baloadBytes X.hx (j := j) (v := .int z) (by rw [X.hT]; exact Ar.1) (State.isArrayOf_alike X.hZ.alike Ar.2.1) Ar.2.2 (inb_of S hj) (H.at (inb_of S hj) hz) (g := mkF m pc Ls (.int j :: .ref a :: rest)) rfl rfl (hb X.hby hd) t r
theorem s_arraylength {n : Int32} {kc : ClassId} {ty : FieldType} {vs : List Value} {dv : Value} (X : Wk p l e R s m args below meth c Z a0 EL y bytes ml ret w h0 ws vm0 T h locs cells slots) (hd : decode bytes pc = .ok (.arraylength, 1)) (A : Arv Z h a kc ty n vs dv) (hp : pc + 1 = pc')
    (k : Go p e below F T (mkF m pc' Ls (.int n :: rest))) : Go p e below F T (mkF m pc Ls (.ref a :: rest)) := by
  subst hp
  obtain ⟨cl, Ar, q1, S, q3, H, G⟩ := A
  refine k.by fun t r => X.st.arraylength X.hx (by rw [X.hT]; exact Ar.1) (State.isArrayOf_alike X.hZ.alike Ar.2.1) (g := mkF m pc Ls (.ref a :: rest)) rfl rfl (hb X.hby hd) t ?_
  rw [len_of S q3]; exact r
theorem s_castY {idx : Nat} {K : String} (X : Wk p l e R s m args below meth c Z a0 EL y bytes ml ret w h0 ws vm0 T h locs cells slots) (hd : decode bytes pc = .ok (.checkcast idx, 3)) (w1 : (Jvm.Cond.classLink y.cls idx K).before a0 Z = true) (I : Ins Z h a K true) (hp : pc + 3 = pc')
    (k : ∀ T', Wk p l e R s m args below meth c Z a0 EL y bytes ml ret w h0 ws vm0 T' h locs cells slots → Go p e below F T' (mkF m pc' Ls (.ref a :: rest))) : Go p e below F T (mkF m pc Ls (.ref a :: rest)) := by
  subst hp
  obtain ⟨T', X', e', st⟩ := castY X.st X.hx X.hZ X.hown w1 X.hT I (g := mkF m pc Ls (.ref a :: rest)) rfl rfl (hb X.hby hd)
  exact (k T' (X.same X' e' X.hN X.evR two0)).by fun t r => st t r
theorem s_castNull {idx : Nat} (X : Wk p l e R s m args below meth c Z a0 EL y bytes ml ret w h0 ws vm0 T h locs cells slots) (hd : decode bytes pc = .ok (.checkcast idx, 3)) (hp : pc + 3 = pc') (k : Go p e below F T (mkF m pc' Ls (.null :: rest))) : Go p e below F T (mkF m pc Ls (.null :: rest)) := by
  subst hp
  exact k.by fun t r => X.st.checkcastNull X.hx (g := mkF m pc Ls (.null :: rest)) rfl rfl (hb X.hby hd) t r
theorem s_instY {idx : Nat} {K : String} (X : Wk p l e R s m args below meth c Z a0 EL y bytes ml ret w h0 ws vm0 T h locs cells slots) (hd : decode bytes pc = .ok (.instanceof idx, 3)) (w1 : (Jvm.Cond.classLink y.cls idx K).before a0 Z = true) (I : Ins Z h a K true) (hp : pc + 3 = pc')
    (k : ∀ T', Wk p l e R s m args below meth c Z a0 EL y bytes ml ret w h0 ws vm0 T' h locs cells slots → Go p e below F T' (mkF m pc' Ls (.int 1 :: rest))) : Go p e below F T (mkF m pc Ls (.ref a :: rest)) := by
  subst hp
  obtain ⟨T', X', e', st⟩ := instY X.st X.hx X.hZ X.hown w1 X.hT I (g := mkF m pc Ls (.ref a :: rest)) rfl rfl (hb X.hby hd)
  exact (k T' (X.same X' e' X.hN X.evR two0)).by fun t r => st t r
theorem s_instNull {idx : Nat} (X : Wk p l e R s m args below meth c Z a0 EL y bytes ml ret w h0 ws vm0 T h locs cells slots) (hd : decode bytes pc = .ok (.instanceof idx, 3)) (hp : pc + 3 = pc') (k : Go p e below F T (mkF m pc' Ls (.int 0 :: rest))) : Go p e below F T (mkF m pc Ls (.null :: rest)) := by
  subst hp
  exact k.by fun t r => X.st.instanceofNull X.hx (g := mkF m pc Ls (.null :: rest)) rfl rfl (hb X.hby hd) t r
theorem s_ldcI {idx : Nat} {v : Int32} (X : Wk p l e R s m args below meth c Z a0 EL y bytes ml ret w h0 ws vm0 T h locs cells slots) (hd : decode bytes pc = .ok (.ldc idx, 2)) (w1 : (Jvm.Cond.constant y.cls idx v).before a0 Z = true) (hp : pc + 2 = pc') (k : Go p e below F T (mkF m pc' Ls (.int v :: rest))) : Go p e below F T (mkF m pc Ls rest) := by
  subst hp
  exact k.by fun t r => X.st.ldcI X.hx X.hown (mvT X.hZ w1) (g := mkF m pc Ls rest) rfl (hb X.hby hd) r
theorem s_ldcStr {idx : Nat} {text : String} {vs : List Value} {z : Int32} (hw : w = true) (X : Wk p l e R s m args below meth c Z a0 EL y bytes ml ret w h0 ws vm0 T h locs cells slots) (hd : decode bytes pc = .ok (.ldc idx, 2)) (w1 : (Jvm.Cond.stringLink y.cls idx text).before a0 Z = true) (wS : ∀ a ∈ Bundle.stringAtoms, a.before a0 Z = true) (hmem : (y.cls, idx) ∈ EL)
    (ht : (∀ c ∈ text.toList, c.toNat < 256) ∧ text.toList.map (fun c => Value.int (Jvm.Lit.byteI c.toNat.toUInt16)) = vs) (hz : ¬ z < 0) (hl : z.toNatClampNeg = vs.length) (n : Nat) (hn : 4 * text.toList.length ≤ n) (hbig : n ≤ 536870912) (hc : cells + 2 ≤ R.cells) (hs : slots + (n + 4) ≤ R.slots) (hp : pc + 2 = pc')
    (k : ∀ a b kc vm1 T' h', Wk p l e R s m args below meth c Z a0 EL y bytes ml ret w h0 ws vm1 T' h' locs (cells + 2) (slots + (n + 4)) → Ev w Z EL vm0 h vm1 h' [] → Exa Z h' a "java/lang/String" → Fld Z h' a "java/lang/String" "coder" "B" (.int 0) → Fld Z h' a "java/lang/String" "value" "[B" (.ref b) → Arv Z h' b kc .byte z vs (.int 0) → Go p e below F T' (mkF m pc' Ls (.ref a :: rest))) : Go p e below F T (mkF m pc Ls rest) := by
  subst hp
  obtain ⟨k0, k1, k2⟩ := X.hS
  obtain ⟨a, T', h', kk, b, kc, X', e', E, hS, hk, hZ, ho, q1, q2, q3, q4, -, -, hC, -, -, st⟩ := ldcCH X.st X.hx X.hZ X.hown w1 wS X.hT k1 k2 X.hEW hmem (X.chv hw) ht hz hl (g := mkF m pc Ls rest) rfl (hb X.hby hd) hn hbig hc hs
  have V : Ev w Z EL vm0 h T'.vm h' [] := ⟨(Keep.refl _ _).ext E, fun _ => hC⟩
  exact (k a b kc T'.vm T' h' (X.move X' hZ ho e' ⟨_, hS, hk⟩ (fun q => by rw [hw] at q; cases q) X.hN V two0) V q1 q2 q3 q4).by fun t r => st t r
theorem s_ldcOpaque {idx : Nat} {text : String} (hw : w = true) (X : Wk p l e R s m args below meth c Z a0 EL y bytes ml ret w h0 ws vm0 T h locs cells slots) (hd : decode bytes pc = .ok (.ldc idx, 2)) (w1 : (Jvm.Cond.stringLink y.cls idx text).before a0 Z = true) (wS : ∀ a ∈ Bundle.stringAtoms, a.before a0 Z = true)
    (n : Nat) (hn : 4 * text.toList.length ≤ n) (hbig : n ≤ 536870912) (hc : cells + 2 ≤ R.cells) (hs : slots + (n + 4) ≤ R.slots) (hp : pc + 2 = pc')
    (k : ∀ a vm1 T' h', Wk p l e R s m args below meth c Z a0 EL y bytes ml ret w h0 ws vm1 T' h' locs (cells + 2) (slots + (n + 4)) → Ev w Z EL vm0 h vm1 h' [] → Go p e below F T' (mkF m pc' Ls (.ref a :: rest))) : Go p e below F T (mkF m pc Ls rest) := by
  subst hp
  obtain ⟨k0, k1, k2⟩ := X.hS
  obtain ⟨a, T', h', kk, X', e', E, hS, hk, hZ, ho, hC, -, st⟩ := ldcOH X.st X.hx X.hZ X.hown w1 wS X.hT k1 k2 X.hEW (X.chv hw) (g := mkF m pc Ls rest) rfl (hb X.hby hd) hn hbig hc hs
  have V : Ev w Z EL vm0 h T'.vm h' [] := ⟨(Keep.refl _ _).ext E, fun _ => hC⟩
  exact (k a T'.vm T' h' (X.move X' hZ ho e' ⟨_, hS, hk⟩ (fun q => by rw [hw] at q; cases q) X.hN V two0) V).by fun t r => st t r
/-! plain steps -/
theorem s_aload {k : Nat} {v : Value} (X : Wk p l e R s m args below meth c Z a0 EL y bytes ml ret w h0 ws vm0 T h locs cells slots) (hd : decode bytes pc = .ok (.aload k, 2)) (hl : Ls[k]? = some (.val v)) (hv : v.isRef = true) (hp : pc + 2 = pc') (k : Go p e below F T (mkF m pc' Ls (v :: rest))) : Go p e below F T (mkF m pc Ls (rest)) := by
  subst hp
  exact k.by fun t r => XS.aload X.st.here X.hx rfl (hb X.hby hd) hl hv r
theorem s_iload {k : Nat} {v : Int32} (X : Wk p l e R s m args below meth c Z a0 EL y bytes ml ret w h0 ws vm0 T h locs cells slots) (hd : decode bytes pc = .ok (.iload k, 2)) (hl : Ls[k]? = some (.val (.int v))) (hp : pc + 2 = pc') (k : Go p e below F T (mkF m pc' Ls (.int v :: rest))) : Go p e below F T (mkF m pc Ls (rest)) := by
  subst hp
  exact k.by fun t r => XS.iload X.st.here X.hx rfl (hb X.hby hd) hl r
theorem s_lload {k : Nat} {v : Int64} (X : Wk p l e R s m args below meth c Z a0 EL y bytes ml ret w h0 ws vm0 T h locs cells slots) (hd : decode bytes pc = .ok (.lload k, 2)) (hl : Ls[k]? = some (.val (.long v))) (hp : pc + 2 = pc') (k : Go p e below F T (mkF m pc' Ls (.long v :: rest))) : Go p e below F T (mkF m pc Ls (rest)) := by
  subst hp
  exact k.by fun t r => XT.lload X.st.here X.hx rfl (hb X.hby hd) hl r
theorem s_astore {k : Nat} {v : Value} (X : Wk p l e R s m args below meth c Z a0 EL y bytes ml ret w h0 ws vm0 T h locs cells slots) (hd : decode bytes pc = .ok (.astore k, 2)) (hv : v.isRef = true) (Ls' : Array Slot) (hl : storeLocals Ls k v = some Ls') (hp : pc + 2 = pc') (k : Go p e below F T (mkF m pc' Ls' (rest))) : Go p e below F T (mkF m pc Ls (v :: rest)) := by
  subst hp
  exact k.by fun t r => XS.astore X.st.here X.hx rfl (hb X.hby hd) rfl hv hl r
theorem s_istore {k : Nat} {v : Int32} (X : Wk p l e R s m args below meth c Z a0 EL y bytes ml ret w h0 ws vm0 T h locs cells slots) (hd : decode bytes pc = .ok (.istore k, 2)) (Ls' : Array Slot) (hl : storeLocals Ls k (.int v) = some Ls') (hp : pc + 2 = pc') (k : Go p e below F T (mkF m pc' Ls' (rest))) : Go p e below F T (mkF m pc Ls (.int v :: rest)) := by
  subst hp
  exact k.by fun t r => XS.istore X.st.here X.hx rfl (hb X.hby hd) rfl hl r
theorem s_lstore {k : Nat} {v : Int64} (X : Wk p l e R s m args below meth c Z a0 EL y bytes ml ret w h0 ws vm0 T h locs cells slots) (hd : decode bytes pc = .ok (.lstore k, 2)) (Ls' : Array Slot) (hl : storeLocals Ls k (.long v) = some Ls') (hp : pc + 2 = pc') (k : Go p e below F T (mkF m pc' Ls' (rest))) : Go p e below F T (mkF m pc Ls (.long v :: rest)) := by
  subst hp
  exact k.by fun t r => XT.lstore X.st.here X.hx rfl (hb X.hby hd) rfl hl r
theorem s_aloadN {k : Fin 4} {v : Value} (X : Wk p l e R s m args below meth c Z a0 EL y bytes ml ret w h0 ws vm0 T h locs cells slots) (hd : decode bytes pc = .ok (.aload_n k, 1)) (hl : Ls[k.val]? = some (.val v)) (hv : v.isRef = true) (hp : pc + 1 = pc') (k : Go p e below F T (mkF m pc' Ls (v :: rest))) : Go p e below F T (mkF m pc Ls (rest)) := by
  subst hp
  exact k.by fun t r => XS.aloadN X.st.here X.hx rfl (hb X.hby hd) hl hv r
theorem s_iloadN {k : Fin 4} {v : Int32} (X : Wk p l e R s m args below meth c Z a0 EL y bytes ml ret w h0 ws vm0 T h locs cells slots) (hd : decode bytes pc = .ok (.iload_n k, 1)) (hl : Ls[k.val]? = some (.val (.int v))) (hp : pc + 1 = pc') (k : Go p e below F T (mkF m pc' Ls (.int v :: rest))) : Go p e below F T (mkF m pc Ls (rest)) := by
  subst hp
  exact k.by fun t r => XS.iloadN X.st.here X.hx rfl (hb X.hby hd) hl r
theorem s_lloadN {k : Fin 4} {v : Int64} (X : Wk p l e R s m args below meth c Z a0 EL y bytes ml ret w h0 ws vm0 T h locs cells slots) (hd : decode bytes pc = .ok (.lload_n k, 1)) (hl : Ls[k.val]? = some (.val (.long v))) (hp : pc + 1 = pc') (k : Go p e below F T (mkF m pc' Ls (.long v :: rest))) : Go p e below F T (mkF m pc Ls (rest)) := by
  subst hp
  exact k.by fun t r => XT.lloadN X.st.here X.hx rfl (hb X.hby hd) hl r
theorem s_astoreN {k : Fin 4} {v : Value} (X : Wk p l e R s m args below meth c Z a0 EL y bytes ml ret w h0 ws vm0 T h locs cells slots) (hd : decode bytes pc = .ok (.astore_n k, 1)) (hv : v.isRef = true) (Ls' : Array Slot) (hl : storeLocals Ls k.val v = some Ls') (hp : pc + 1 = pc') (k : Go p e below F T (mkF m pc' Ls' (rest))) : Go p e below F T (mkF m pc Ls (v :: rest)) := by
  subst hp
  exact k.by fun t r => XS.astoreN X.st.here X.hx rfl (hb X.hby hd) rfl hv hl r
theorem s_istoreN {k : Fin 4} {v : Int32} (X : Wk p l e R s m args below meth c Z a0 EL y bytes ml ret w h0 ws vm0 T h locs cells slots) (hd : decode bytes pc = .ok (.istore_n k, 1)) (Ls' : Array Slot) (hl : storeLocals Ls k.val (.int v) = some Ls') (hp : pc + 1 = pc') (k : Go p e below F T (mkF m pc' Ls' (rest))) : Go p e below F T (mkF m pc Ls (.int v :: rest)) := by
  subst hp
  exact k.by fun t r => XS.istoreN X.st.here X.hx rfl (hb X.hby hd) rfl hl r
theorem s_lstoreN {k : Fin 4} {v : Int64} (X : Wk p l e R s m args below meth c Z a0 EL y bytes ml ret w h0 ws vm0 T h locs cells slots) (hd : decode bytes pc = .ok (.lstore_n k, 1)) (Ls' : Array Slot) (hl : storeLocals Ls k.val (.long v) = some Ls') (hp : pc + 1 = pc') (k : Go p e below F T (mkF m pc' Ls' (rest))) : Go p e below F T (mkF m pc Ls (.long v :: rest)) := by
  subst hp
  exact k.by fun t r => XT.lstoreN X.st.here X.hx rfl (hb X.hby hd) rfl hl r
theorem s_iconst {i : Int} (X : Wk p l e R s m args below meth c Z a0 EL y bytes ml ret w h0 ws vm0 T h locs cells slots) (hd : decode bytes pc = .ok (.iconst i, 1)) (v : Int32) (hv : Int32.ofInt i = v) (hp : pc + 1 = pc') (k : Go p e below F T (mkF m pc' Ls (.int v :: rest))) : Go p e below F T (mkF m pc Ls (rest)) := by
  subst hp
  exact k.by fun t r => XT.iconstV X.st.here X.hx rfl v (hb X.hby hd) hv r
theorem s_bipush {i : Int} (X : Wk p l e R s m args below meth c Z a0 EL y bytes ml ret w h0 ws vm0 T h locs cells slots) (hd : decode bytes pc = .ok (.bipush i, 2)) (v : Int32) (hv : (Int8.ofInt i).toInt32 = v) (hp : pc + 2 = pc') (k : Go p e below F T (mkF m pc' Ls (.int v :: rest))) : Go p e below F T (mkF m pc Ls (rest)) := by
  subst hp
  exact k.by fun t r => XT.bipushV X.st.here X.hx rfl v (hb X.hby hd) hv r
theorem s_sipush {i : Int} (X : Wk p l e R s m args below meth c Z a0 EL y bytes ml ret w h0 ws vm0 T h locs cells slots) (hd : decode bytes pc = .ok (.sipush i, 3)) (v : Int32) (hv : (Int16.ofInt i).toInt32 = v) (hp : pc + 3 = pc') (k : Go p e below F T (mkF m pc' Ls (.int v :: rest))) : Go p e below F T (mkF m pc Ls (rest)) := by
  subst hp
  exact k.by fun t r => XT.sipushV X.st.here X.hx rfl v (hb X.hby hd) hv r
theorem s_lconst {k : Fin 2} (X : Wk p l e R s m args below meth c Z a0 EL y bytes ml ret w h0 ws vm0 T h locs cells slots) (hd : decode bytes pc = .ok (.lconst k, 1)) (v : Int64) (hv : Int64.ofNat k = v) (hp : pc + 1 = pc') (k : Go p e below F T (mkF m pc' Ls (.long v :: rest))) : Go p e below F T (mkF m pc Ls (rest)) := by
  subst hp
  exact k.by fun t r => XT.lconstV X.st.here X.hx rfl v (hb X.hby hd) hv r
theorem s_aconst_null (X : Wk p l e R s m args below meth c Z a0 EL y bytes ml ret w h0 ws vm0 T h locs cells slots) (hd : decode bytes pc = .ok (.aconst_null, 1)) (hp : pc + 1 = pc') (k : Go p e below F T (mkF m pc' Ls (.null :: rest))) : Go p e below F T (mkF m pc Ls (rest)) := by
  subst hp
  exact k.by fun t r => XS.aconstNull X.st.here X.hx rfl (hb X.hby hd) r
theorem s_iadd {u v : Int32} (X : Wk p l e R s m args below meth c Z a0 EL y bytes ml ret w h0 ws vm0 T h locs cells slots) (hd : decode bytes pc = .ok (.iadd, 1)) (hp : pc + 1 = pc') (k : Go p e below F T (mkF m pc' Ls (.int (u + v) :: rest))) : Go p e below F T (mkF m pc Ls (.int v :: .int u :: rest)) := by
  subst hp
  exact k.by fun t r => XS.iadd X.st.here X.hx rfl (hb X.hby hd) rfl r
theorem s_isub {u v : Int32} (X : Wk p l e R s m args below meth c Z a0 EL y bytes ml ret w h0 ws vm0 T h locs cells slots) (hd : decode bytes pc = .ok (.isub, 1)) (hp : pc + 1 = pc') (k : Go p e below F T (mkF m pc' Ls (.int (u - v) :: rest))) : Go p e below F T (mkF m pc Ls (.int v :: .int u :: rest)) := by
  subst hp
  exact k.by fun t r => XS.isub X.st.here X.hx rfl (hb X.hby hd) rfl r
theorem s_imul {u v : Int32} (X : Wk p l e R s m args below meth c Z a0 EL y bytes ml ret w h0 ws vm0 T h locs cells slots) (hd : decode bytes pc = .ok (.imul, 1)) (hp : pc + 1 = pc') (k : Go p e below F T (mkF m pc' Ls (.int (u * v) :: rest))) : Go p e below F T (mkF m pc Ls (.int v :: .int u :: rest)) := by
  subst hp
  exact k.by fun t r => XS.imul X.st.here X.hx rfl (hb X.hby hd) rfl r
theorem s_iand {u v : Int32} (X : Wk p l e R s m args below meth c Z a0 EL y bytes ml ret w h0 ws vm0 T h locs cells slots) (hd : decode bytes pc = .ok (.iand, 1)) (hp : pc + 1 = pc') (k : Go p e below F T (mkF m pc' Ls (.int (u &&& v) :: rest))) : Go p e below F T (mkF m pc Ls (.int v :: .int u :: rest)) := by
  subst hp
  exact k.by fun t r => XS.iand X.st.here X.hx rfl (hb X.hby hd) rfl r
theorem s_ior {u v : Int32} (X : Wk p l e R s m args below meth c Z a0 EL y bytes ml ret w h0 ws vm0 T h locs cells slots) (hd : decode bytes pc = .ok (.ior, 1)) (hp : pc + 1 = pc') (k : Go p e below F T (mkF m pc' Ls (.int (u ||| v) :: rest))) : Go p e below F T (mkF m pc Ls (.int v :: .int u :: rest)) := by
  subst hp
  exact k.by fun t r => XT.ior X.st.here X.hx rfl (hb X.hby hd) rfl r
theorem s_ixor {u v : Int32} (X : Wk p l e R s m args below meth c Z a0 EL y bytes ml ret w h0 ws vm0 T h locs cells slots) (hd : decode bytes pc = .ok (.ixor, 1)) (hp : pc + 1 = pc') (k : Go p e below F T (mkF m pc' Ls (.int (u ^^^ v) :: rest))) : Go p e below F T (mkF m pc Ls (.int v :: .int u :: rest)) := by
  subst hp
  exact k.by fun t r => XT.ixor X.st.here X.hx rfl (hb X.hby hd) rfl r
theorem s_ishl {u v : Int32} (X : Wk p l e R s m args below meth c Z a0 EL y bytes ml ret w h0 ws vm0 T h locs cells slots) (hd : decode bytes pc = .ok (.ishl, 1)) (hp : pc + 1 = pc') (k : Go p e below F T (mkF m pc' Ls (.int (u <<< (v &&& 31)) :: rest))) : Go p e below F T (mkF m pc Ls (.int v :: .int u :: rest)) := by
  subst hp
  exact k.by fun t r => XT.ishl X.st.here X.hx rfl (hb X.hby hd) rfl r
theorem s_ishr {u v : Int32} (X : Wk p l e R s m args below meth c Z a0 EL y bytes ml ret w h0 ws vm0 T h locs cells slots) (hd : decode bytes pc = .ok (.ishr, 1)) (hp : pc + 1 = pc') (k : Go p e below F T (mkF m pc' Ls (.int (u >>> (v &&& 31)) :: rest))) : Go p e below F T (mkF m pc Ls (.int v :: .int u :: rest)) := by
  subst hp
  exact k.by fun t r => XT.ishr X.st.here X.hx rfl (hb X.hby hd) rfl r
theorem s_iushr {u v : Int32} (X : Wk p l e R s m args below meth c Z a0 EL y bytes ml ret w h0 ws vm0 T h locs cells slots) (hd : decode bytes pc = .ok (.iushr, 1)) (hp : pc + 1 = pc') (k : Go p e below F T (mkF m pc' Ls (.int (XT.ushr u v) :: rest))) : Go p e below F T (mkF m pc Ls (.int v :: .int u :: rest)) := by
  subst hp
  exact k.by fun t r => XT.iushr X.st.here X.hx rfl (hb X.hby hd) rfl r
theorem s_idiv {u v : Int32} (X : Wk p l e R s m args below meth c Z a0 EL y bytes ml ret w h0 ws vm0 T h locs cells slots) (hd : decode bytes pc = .ok (.idiv, 1)) (hy : v ≠ 0) (hp : pc + 1 = pc') (k : Go p e below F T (mkF m pc' Ls (.int (u / v) :: rest))) : Go p e below F T (mkF m pc Ls (.int v :: .int u :: rest)) := by
  subst hp
  exact k.by fun t r => XS.idiv X.st.here X.hx rfl (hb X.hby hd) rfl hy r
theorem s_irem {u v : Int32} (X : Wk p l e R s m args below meth c Z a0 EL y bytes ml ret w h0 ws vm0 T h locs cells slots) (hd : decode bytes pc = .ok (.irem, 1)) (hy : v ≠ 0) (hp : pc + 1 = pc') (k : Go p e below F T (mkF m pc' Ls (.int (u % v) :: rest))) : Go p e below F T (mkF m pc Ls (.int v :: .int u :: rest)) := by
  subst hp
  exact k.by fun t r => iremM X.st X.hx (g := mkF m pc Ls (.int v :: .int u :: rest)) rfl (hb X.hby hd) rfl hy r
theorem s_ladd {u v : Int64} (X : Wk p l e R s m args below meth c Z a0 EL y bytes ml ret w h0 ws vm0 T h locs cells slots) (hd : decode bytes pc = .ok (.ladd, 1)) (hp : pc + 1 = pc') (k : Go p e below F T (mkF m pc' Ls (.long (u + v) :: rest))) : Go p e below F T (mkF m pc Ls (.long v :: .long u :: rest)) := by
  subst hp
  exact k.by fun t r => XT.ladd X.st.here X.hx rfl (hb X.hby hd) rfl r
theorem s_lsub {u v : Int64} (X : Wk p l e R s m args below meth c Z a0 EL y bytes ml ret w h0 ws vm0 T h locs cells slots) (hd : decode bytes pc = .ok (.lsub, 1)) (hp : pc + 1 = pc') (k : Go p e below F T (mkF m pc' Ls (.long (u - v) :: rest))) : Go p e below F T (mkF m pc Ls (.long v :: .long u :: rest)) := by
  subst hp
  exact k.by fun t r => XT.lsub X.st.here X.hx rfl (hb X.hby hd) rfl r
theorem s_lmul {u v : Int64} (X : Wk p l e R s m args below meth c Z a0 EL y bytes ml ret w h0 ws vm0 T h locs cells slots) (hd : decode bytes pc = .ok (.lmul, 1)) (hp : pc + 1 = pc') (k : Go p e below F T (mkF m pc' Ls (.long (u * v) :: rest))) : Go p e below F T (mkF m pc Ls (.long v :: .long u :: rest)) := by
  subst hp
  exact k.by fun t r => XT.lmul X.st.here X.hx rfl (hb X.hby hd) rfl r
theorem s_land {u v : Int64} (X : Wk p l e R s m args below meth c Z a0 EL y bytes ml ret w h0 ws vm0 T h locs cells slots) (hd : decode bytes pc = .ok (.land, 1)) (hp : pc + 1 = pc') (k : Go p e below F T (mkF m pc' Ls (.long (u &&& v) :: rest))) : Go p e below F T (mkF m pc Ls (.long v :: .long u :: rest)) := by
  subst hp
  exact k.by fun t r => XT.land X.st.here X.hx rfl (hb X.hby hd) rfl r
theorem s_lor {u v : Int64} (X : Wk p l e R s m args below meth c Z a0 EL y bytes ml ret w h0 ws vm0 T h locs cells slots) (hd : decode bytes pc = .ok (.lor, 1)) (hp : pc + 1 = pc') (k : Go p e below F T (mkF m pc' Ls (.long (u ||| v) :: rest))) : Go p e below F T (mkF m pc Ls (.long v :: .long u :: rest)) := by
  subst hp
  exact k.by fun t r => XT.lor X.st.here X.hx rfl (hb X.hby hd) rfl r
theorem s_lxor {u v : Int64} (X : Wk p l e R s m args below meth c Z a0 EL y bytes ml ret w h0 ws vm0 T h locs cells slots) (hd : decode bytes pc = .ok (.lxor, 1)) (hp : pc + 1 = pc') (k : Go p e below F T (mkF m pc' Ls (.long (u ^^^ v) :: rest))) : Go p e below F T (mkF m pc Ls (.long v :: .long u :: rest)) := by
  subst hp
  exact k.by fun t r => XT.lxor X.st.here X.hx rfl (hb X.hby hd) rfl r
theorem s_lrem {u v : Int64} (X : Wk p l e R s m args below meth c Z a0 EL y bytes ml ret w h0 ws vm0 T h locs cells slots) (hd : decode bytes pc = .ok (.lrem, 1)) (hy : v ≠ 0) (hp : pc + 1 = pc') (k : Go p e below F T (mkF m pc' Ls (.long (u - (u / v) * v) :: rest))) : Go p e below F T (mkF m pc Ls (.long v :: .long u :: rest)) := by
  subst hp
  exact k.by fun t r => XT.lrem X.st.here X.hx rfl (hb X.hby hd) rfl hy r
theorem s_lushr {u : Int64} {v : Int32} (X : Wk p l e R s m args below meth c Z a0 EL y bytes ml ret w h0 ws vm0 T h locs cells slots) (hd : decode bytes pc = .ok (.lushr, 1)) (hp : pc + 1 = pc') (k : Go p e below F T (mkF m pc' Ls (.long (XT.ushrL u v) :: rest))) : Go p e below F T (mkF m pc Ls (.int v :: .long u :: rest)) := by
  subst hp
  exact k.by fun t r => XT.lushr X.st.here X.hx rfl (hb X.hby hd) rfl r
theorem s_ineg {u : Int32} (X : Wk p l e R s m args below meth c Z a0 EL y bytes ml ret w h0 ws vm0 T h locs cells slots) (hd : decode bytes pc = .ok (.ineg, 1)) (hp : pc + 1 = pc') (k : Go p e below F T (mkF m pc' Ls (.int (-u) :: rest))) : Go p e below F T (mkF m pc Ls (.int u :: rest)) := by
  subst hp
  exact k.by fun t r => XS.ineg X.st.here X.hx rfl (hb X.hby hd) rfl r
theorem s_i2l {u : Int32} (X : Wk p l e R s m args below meth c Z a0 EL y bytes ml ret w h0 ws vm0 T h locs cells slots) (hd : decode bytes pc = .ok (.i2l, 1)) (hp : pc + 1 = pc') (k : Go p e below F T (mkF m pc' Ls (.long (u.toInt64) :: rest))) : Go p e below F T (mkF m pc Ls (.int u :: rest)) := by
  subst hp
  exact k.by fun t r => XT.i2l X.st.here X.hx rfl (hb X.hby hd) rfl r
theorem s_l2i {u : Int64} (X : Wk p l e R s m args below meth c Z a0 EL y bytes ml ret w h0 ws vm0 T h locs cells slots) (hd : decode bytes pc = .ok (.l2i, 1)) (hp : pc + 1 = pc') (k : Go p e below F T (mkF m pc' Ls (.int (u.toInt32) :: rest))) : Go p e below F T (mkF m pc Ls (.long u :: rest)) := by
  subst hp
  exact k.by fun t r => XT.l2i X.st.here X.hx rfl (hb X.hby hd) rfl r
theorem s_i2b {u : Int32} (X : Wk p l e R s m args below meth c Z a0 EL y bytes ml ret w h0 ws vm0 T h locs cells slots) (hd : decode bytes pc = .ok (.i2b, 1)) (hp : pc + 1 = pc') (k : Go p e below F T (mkF m pc' Ls (.int (u.toInt8.toInt32) :: rest))) : Go p e below F T (mkF m pc Ls (.int u :: rest)) := by
  subst hp
  exact k.by fun t r => XT.i2b X.st.here X.hx rfl (hb X.hby hd) rfl r
theorem s_i2s {u : Int32} (X : Wk p l e R s m args below meth c Z a0 EL y bytes ml ret w h0 ws vm0 T h locs cells slots) (hd : decode bytes pc = .ok (.i2s, 1)) (hp : pc + 1 = pc') (k : Go p e below F T (mkF m pc' Ls (.int (u.toInt16.toInt32) :: rest))) : Go p e below F T (mkF m pc Ls (.int u :: rest)) := by
  subst hp
  exact k.by fun t r => XT.i2s X.st.here X.hx rfl (hb X.hby hd) rfl r
theorem s_i2c {u : Int32} (X : Wk p l e R s m args below meth c Z a0 EL y bytes ml ret w h0 ws vm0 T h locs cells slots) (hd : decode bytes pc = .ok (.i2c, 1)) (hp : pc + 1 = pc') (k : Go p e below F T (mkF m pc' Ls (.int (u.toUInt32.toUInt16.toUInt32.toInt32) :: rest))) : Go p e below F T (mkF m pc Ls (.int u :: rest)) := by
  subst hp
  exact k.by fun t r => XT.i2c X.st.here X.hx rfl (hb X.hby hd) rfl r
theorem s_dup {v : Value} (X : Wk p l e R s m args below meth c Z a0 EL y bytes ml ret w h0 ws vm0 T h locs cells slots) (hd : decode bytes pc = .ok (.dup, 1)) (hc : v.category = 1) (hp : pc + 1 = pc') (k : Go p e below F T (mkF m pc' Ls (v :: v :: rest))) : Go p e below F T (mkF m pc Ls (v :: rest)) := by
  subst hp
  exact k.by fun t r => XS.dup X.st.here X.hx rfl (hb X.hby hd) rfl hc r
theorem s_pop {v : Value} (X : Wk p l e R s m args below meth c Z a0 EL y bytes ml ret w h0 ws vm0 T h locs cells slots) (hd : decode bytes pc = .ok (.pop, 1)) (hc : v.category = 1) (hp : pc + 1 = pc') (k : Go p e below F T (mkF m pc' Ls (rest))) : Go p e below F T (mkF m pc Ls (v :: rest)) := by
  subst hp
  exact k.by fun t r => XT.pop X.st.here X.hx rfl (hb X.hby hd) rfl hc r
theorem s_dup_x1 {u v : Value} (X : Wk p l e R s m args below meth c Z a0 EL y bytes ml ret w h0 ws vm0 T h locs cells slots) (hd : decode bytes pc = .ok (.dup_x1, 1)) (hc : u.category = 1) (hc' : v.category = 1) (hp : pc + 1 = pc') (k : Go p e below F T (mkF m pc' Ls (u :: v :: u :: rest))) : Go p e below F T (mkF m pc Ls (u :: v :: rest)) := by
  subst hp
  exact k.by fun t r => XT.dupX1 X.st.here X.hx rfl (hb X.hby hd) rfl hc hc' r
theorem s_iinc {k : Nat} {cst : Int} {u : Int32} (X : Wk p l e R s m args below meth c Z a0 EL y bytes ml ret w h0 ws vm0 T h locs cells slots) (hd : decode bytes pc = .ok (.iinc k cst, 3)) (v : Int32) (hv : Int32.ofInt cst = v) (hl : Ls[k]? = some (.val (.int u))) (Ls' : Array Slot) (hl' : storeLocals Ls k (.int (u + v)) = some Ls') (hp : pc + 3 = pc') (k : Go p e below F T (mkF m pc' Ls' (rest))) : Go p e below F T (mkF m pc Ls (rest)) := by
  subst hp
  exact k.by fun t r => XT.iincV X.st.here X.hx rfl v (hb X.hby hd) hv hl hl' r
theorem s_goto {o : Int} (X : Wk p l e R s m args below meth c Z a0 EL y bytes ml ret w h0 ws vm0 T h locs cells slots) (hd : decode bytes pc = .ok (.goto o, 3)) (ho : 0 ≤ (pc : Int) + o) (hp : ((pc : Int) + o).toNat = pc') (k : Go p e below F T (mkF m pc' Ls rest)) : Go p e below F T (mkF m pc Ls (rest)) :=
  k.by fun t r => XS.goto X.st.here X.hx rfl (pc0 := pc) rfl (hb X.hby hd) ho hp r
theorem s_ifT {cd : ClassFile.Cond} {u : Int32} {o : Int} (X : Wk p l e R s m args below meth c Z a0 EL y bytes ml ret w h0 ws vm0 T h locs cells slots) (hd : decode bytes pc = .ok (.ifCond cd o, 3)) (hc : ifCond.holds cd u = true) (ho : 0 ≤ (pc : Int) + o) (hp : ((pc : Int) + o).toNat = pc') (k : Go p e below F T (mkF m pc' Ls rest)) : Go p e below F T (mkF m pc Ls (.int u :: rest)) :=
  k.by fun t r => XS.ifYes X.st.here X.hx rfl (pc0 := pc) rfl (hb X.hby hd) rfl hc ho hp r
theorem s_ifF {cd : ClassFile.Cond} {u : Int32} {o : Int} (X : Wk p l e R s m args below meth c Z a0 EL y bytes ml ret w h0 ws vm0 T h locs cells slots) (hd : decode bytes pc = .ok (.ifCond cd o, 3)) (hc : ifCond.holds cd u = false) (hp : pc + 3 = pc') (k : Go p e below F T (mkF m pc' Ls rest)) : Go p e below F T (mkF m pc Ls (.int u :: rest)) := by
  subst hp
  exact k.by fun t r => XS.ifNo X.st.here X.hx rfl (hb X.hby hd) rfl hc r
theorem s_icmpT {cd : ClassFile.Cond} {u v : Int32} {o : Int} (X : Wk p l e R s m args below meth c Z a0 EL y bytes ml ret w h0 ws vm0 T h locs cells slots) (hd : decode bytes pc = .ok (.if_icmp cd o, 3)) (hc : if_icmp.holds cd u v = true) (ho : 0 ≤ (pc : Int) + o) (hp : ((pc : Int) + o).toNat = pc') (k : Go p e below F T (mkF m pc' Ls rest)) : Go p e below F T (mkF m pc Ls (.int v :: .int u :: rest)) :=
  k.by fun t r => XS.icmpYes X.st.here X.hx rfl (pc0 := pc) rfl (hb X.hby hd) rfl hc ho hp r
theorem s_icmpF {cd : ClassFile.Cond} {u v : Int32} {o : Int} (X : Wk p l e R s m args below meth c Z a0 EL y bytes ml ret w h0 ws vm0 T h locs cells slots) (hd : decode bytes pc = .ok (.if_icmp cd o, 3)) (hc : if_icmp.holds cd u v = false) (hp : pc + 3 = pc') (k : Go p e below F T (mkF m pc' Ls rest)) : Go p e below F T (mkF m pc Ls (.int v :: .int u :: rest)) := by
  subst hp
  exact k.by fun t r => XS.icmpNo X.st.here X.hx rfl (hb X.hby hd) rfl hc r
theorem s_ifnullT {o : Int} (X : Wk p l e R s m args below meth c Z a0 EL y bytes ml ret w h0 ws vm0 T h locs cells slots) (hd : decode bytes pc = .ok (.ifnull o, 3)) (ho : 0 ≤ (pc : Int) + o) (hp : ((pc : Int) + o).toNat = pc') (k : Go p e below F T (mkF m pc' Ls rest)) : Go p e below F T (mkF m pc Ls (.null :: rest)) :=
  k.by fun t r => XS.ifnullYes X.st.here X.hx rfl (pc0 := pc) rfl (hb X.hby hd) rfl ho hp r
theorem s_ifnullF {o : Int} (X : Wk p l e R s m args below meth c Z a0 EL y bytes ml ret w h0 ws vm0 T h locs cells slots) (hd : decode bytes pc = .ok (.ifnull o, 3)) (hp : pc + 3 = pc') (k : Go p e below F T (mkF m pc' Ls rest)) : Go p e below F T (mkF m pc Ls (.ref a :: rest)) := by
  subst hp
  exact k.by fun t r => XS.ifnullNo X.st.here X.hx rfl (hb X.hby hd) rfl r
theorem s_ifnonnullT {o : Int} (X : Wk p l e R s m args below meth c Z a0 EL y bytes ml ret w h0 ws vm0 T h locs cells slots) (hd : decode bytes pc = .ok (.ifnonnull o, 3)) (ho : 0 ≤ (pc : Int) + o) (hp : ((pc : Int) + o).toNat = pc') (k : Go p e below F T (mkF m pc' Ls rest)) : Go p e below F T (mkF m pc Ls (.ref a :: rest)) :=
  k.by fun t r => XT.ifnonnullYes X.st.here X.hx rfl (pc0 := pc) rfl (hb X.hby hd) rfl ho hp r
theorem s_ifnonnullF {o : Int} (X : Wk p l e R s m args below meth c Z a0 EL y bytes ml ret w h0 ws vm0 T h locs cells slots) (hd : decode bytes pc = .ok (.ifnonnull o, 3)) (hp : pc + 3 = pc') (k : Go p e below F T (mkF m pc' Ls rest)) : Go p e below F T (mkF m pc Ls (.null :: rest)) := by
  subst hp
  exact k.by fun t r => XT.ifnonnullNo X.st.here X.hx rfl (hb X.hby hd) rfl r
theorem s_acmpT {cd : ClassFile.ACond} {u v : Value} {o : Int} (X : Wk p l e R s m args below meth c Z a0 EL y bytes ml ret w h0 ws vm0 T h locs cells slots) (hd : decode bytes pc = .ok (.if_acmp cd o, 3)) (hu : u.isRef = true) (hv : v.isRef = true) (hc : XT.acmp cd u v = true) (ho : 0 ≤ (pc : Int) + o) (hp : ((pc : Int) + o).toNat = pc') (k : Go p e below F T (mkF m pc' Ls rest)) : Go p e below F T (mkF m pc Ls (v :: u :: rest)) :=
  k.by fun t r => XT.acmpYes X.st.here X.hx rfl (pc0 := pc) rfl (hb X.hby hd) rfl hu hv hc ho hp r
theorem s_acmpF {cd : ClassFile.ACond} {u v : Value} {o : Int} (X : Wk p l e R s m args below meth c Z a0 EL y bytes ml ret w h0 ws vm0 T h locs cells slots) (hd : decode bytes pc = .ok (.if_acmp cd o, 3)) (hu : u.isRef = true) (hv : v.isRef = true) (hc : XT.acmp cd u v = false) (hp : pc + 3 = pc') (k : Go p e below F T (mkF m pc' Ls rest)) : Go p e below F T (mkF m pc Ls (v :: u :: rest)) := by
  subst hp
  exact k.by fun t r => XT.acmpNo X.st.here X.hx rfl (hb X.hby hd) rfl hu hv hc r
end Own
end Own
namespace Own
theorem narR {t : FieldType} (ht : t.isReference = true) (v : Value) : narrow t v = v := by cases t <;> first | rfl | cases ht
theorem fitR {t : FieldType} (ht : t.isReference = true) {v : Value} (hv : v.isRef = true) : fits t v = true := by
  rcases ref_cases hv with rfl | ⟨a, rfl⟩ <;> cases t <;> first | rfl | cases ht
end Own

namespace Own
section Str0
variable {p : Program} {l : Launch} {e : Env} {R : Room} {s : State} {m : MethodId} {args : Array Value} {below : List Frame} {meth : Method} {c : Code} {Z : State} {a0 : Array Value} {EL : List (String × Nat)} {y : MethodName} {bytes : ByteArray} {ml : Nat} {ret : Option FieldType} {w : Bool} {h0 : Heap} {ws ws' : List Addr} {vm0 vm1 : Vm} {T T' : State} {h h' h1 : Heap} {locs locs' : List Loc} {cells slots cells' slots' : Nat} {F : State → Option Value → Prop} {pc pc' : Nat} {Ls Ls' : Array Slot} {rest : List Value} {a b x : Addr}
/-- a char that Latin-1 holds -/
def Lat (z : Int32) : Prop := ¬ z < 0 ∧ ¬ (255 : Int32) < z
def lo (z : Int32) : Int32 := z.toInt8.toInt32
theorem lat_mask (x : Int32) : Lat (x &&& (255 : Int32)) := by
  have q := c_and x 255 (by decide)
  have e2 : (255 : Int32).toInt = 255 := by decide
  refine ⟨fun r => ?_, fun r => ?_⟩
  · rw [Int32.lt_iff_toInt_lt] at r; have e1 : (0 : Int32).toInt = 0 := by decide
    omega
  · rw [Int32.lt_iff_toInt_lt] at r; omega
theorem nar_mask (x : Int32) : nar .char (x &&& (255 : Int32)) = (x &&& (255 : Int32)) := i2c_mask x
theorem lat_eq {z : Int32} (q : Lat z) : z &&& 255 = z := by
  have h1 := c_mask z 255 8 (by decide) (by decide)
  have e1 : (0 : Int32).toInt = 0 := by decide
  have e2 : (255 : Int32).toInt = 255 := by decide
  have q1 := q.1; have q2 := q.2
  rw [Int32.lt_iff_toInt_lt] at q1 q2
  apply Int32.toInt_inj.mp
  rw [h1]; omega
theorem nar_chr {z : Int32} (q : Lat z) : nar .char z = z := by
  have e := lat_eq q
  have r := nar_mask z
  rw [e] at r; exact r
theorem i2c_chr {z : Int32} (q : Lat z) : z.toUInt32.toUInt16.toUInt32.toInt32 = z := nar_chr q
theorem s_i2cM {u : Int32} (X : Wk p l e R s m args below meth c Z a0 EL y bytes ml ret w h0 ws vm0 T h locs cells slots) (hd : decode bytes pc = .ok (.i2c, 1)) (hp : pc + 1 = pc') (k : Go p e below F T (mkF m pc' Ls (.int (u &&& (255 : Int32)) :: rest))) : Go p e below F T (mkF m pc Ls (.int (u &&& (255 : Int32)) :: rest)) :=
  s_i2c X hd hp (by rw [i2c_mask]; exact k)
theorem s_i2cR {u : Int32} (X : Wk p l e R s m args below meth c Z a0 EL y bytes ml ret w h0 ws vm0 T h locs cells slots) (hd : decode bytes pc = .ok (.i2c, 1)) (q : Lat u) (hp : pc + 1 = pc') (k : Go p e below F T (mkF m pc' Ls (.int u :: rest))) : Go p e below F T (mkF m pc Ls (.int u :: rest)) :=
  s_i2c X hd hp (by rw [i2c_chr q]; exact k)
theorem s_castoreR {j z n : Int32} {kc : ClassId} {vs : List Value} {dv : Value} (X : Wk p l e R s m args below meth c Z a0 EL y bytes ml ret w h0 ws vm0 T h locs cells slots) (hd : decode bytes pc = .ok (.castore, 1)) (A : Arv Z h a kc .char n vs dv) (hj : ¬ j < 0 ∧ j < n) (i : Nat) (hi : j.toNatClampNeg = i) (hlt : i < vs.length) (hz : nar .char z = z) (Oa : Ok w Z EL h0 ws vm0 h a) (hp : pc + 1 = pc')
    (k : ∀ T' h', Wk p l e R s m args below meth c Z a0 EL y bytes ml ret w h0 ws vm0 T' h' (locs ++ [⟨a, j.toNatClampNeg⟩]) cells slots → Ev w Z EL vm0 h vm0 h' [a] → Arv Z h' a kc .char n (vs.set i (.int z)) dv → Go p e below F T' (mkF m pc' Ls rest)) : Go p e below F T (mkF m pc Ls (.int z :: .int j :: .ref a :: rest)) :=
  s_castore X hd A hj i hi hlt Oa hp (by rw [hz]; exact k)
/-- a String of Latin-1 chars -/
def Str (Z : State) (h : Heap) (a : Addr) (cs : List Int32) : Prop := (∀ c ∈ cs, Lat c) ∧ cs.length ≤ 4000 ∧ Exa Z h a "java/lang/String" ∧ Fld Z h a "java/lang/String" "coder" "B" (.int 0) ∧ ∃ (t : Addr) (kb : ClassId), Fld Z h a "java/lang/String" "value" "[B" (.ref t) ∧ Arv Z h t kb .byte (Int32.ofNat cs.length) ((cs.map lo).map Value.int) (.int 0)
theorem Str.ext {cs : List Int32} (S : Str Z h a cs) (E : Ext h h') : Str Z h' a cs := by
  obtain ⟨h1, h2, h3, h4, t, kb, h5, h6⟩ := S; exact ⟨h1, h2, h3.ext E, h4.ext E, t, kb, h5.ext E, h6.ext E⟩
theorem Str.exa {cs : List Int32} (S : Str Z h a cs) : Exa Z h a "java/lang/String" := S.2.2.1
theorem Str.lt {cs : List Int32} (S : Str Z h a cs) : a < h.size := S.exa.lt
theorem Str.mk {cs : List Int32} {t : Addr} {kb : ClassId} {z : Int32} {vs : List Value} (h1 : (∀ c ∈ cs, Lat c) ∧ (cs.map lo).map Value.int = vs) (h2 : cs.length ≤ 4000 ∧ z = Int32.ofNat cs.length) (E : Exa Z h a "java/lang/String") (C : Fld Z h a "java/lang/String" "coder" "B" (.int 0)) (V : Fld Z h a "java/lang/String" "value" "[B" (.ref t)) (A : Arv Z h t kb .byte z vs (.int 0)) : Str Z h a cs := by
  obtain ⟨q1, rfl⟩ := h1
  obtain ⟨q2, rfl⟩ := h2
  exact ⟨q1, q2, E, C, t, kb, V, A⟩
instance (z : Int32) : Decidable (Lat z) := inferInstanceAs (Decidable (_ ∧ _))
theorem up65 {cs : List Int32} (hq : ∀ c ∈ cs, Lat c) : ∀ c ∈ cs, ¬ c < 0 ∧ ¬ (65535 : Int32) < c := fun c hc => ⟨(hq c hc).1, fun q => (hq c hc).2 (by rw [Int32.lt_iff_toInt_lt] at q ⊢; have e1 : (65535 : Int32).toInt = 65535 := rfl; have e2 : (255 : Int32).toInt = 255 := rfl; omega)⟩
theorem lolo (z : Int32) : z.toInt8.toInt32.toInt8.toInt32 = lo z := by simp [lo]
/-- a String of one char, by its byte -/
theorem str1 {z : Int32} {t : Addr} {kb : ClassId} (hz : Lat z) (E : Exa Z h a "java/lang/String") (C : Fld Z h a "java/lang/String" "coder" "B" (.int 0)) (V : Fld Z h a "java/lang/String" "value" "[B" (.ref t)) (A : Arv Z h t kb .byte (1 : Int32) [(.int z.toInt8.toInt32.toInt8.toInt32)] (.int (0 : Int32))) : Str Z h a [z] := by
  rw [lolo] at A
  exact ⟨fun c hc => by cases List.mem_singleton.mp hc; exact hz, Nat.le_of_ble_eq_true rfl, E, C, t, kb, V, A⟩
/-- an object of another class is written: the String stands as it stood -/
theorem Str.keepE {cs : List Int32} {C : String} {n : Nat} (S : Str Z h a cs) (K : Keep h h' [x]) (E : Exa Z h x C) (hC : C ≠ "java/lang/String") (wi : (Jvm.Cond.instantiable C n).before a0 Z = true) : Str Z h' a cs := by
  obtain ⟨h1, h2, h3, h4, t, kb, h5, h6⟩ := S
  have n1 : a ∉ [x] := ninS (Ne.symm (Exa.ne E h3 hC)) nin0
  have n2 : t ∉ [x] := ninS (Ne.symm (Exa.neArv E h6 wi)) nin0
  exact ⟨h1, h2, h3.keep K, h4.keep K n1, t, kb, h5.keep K n1, h6.keep K n2⟩
/-- a value that is null, or a String of these chars -/
def NStr (Z : State) (h : Heap) (u : Value) : Option (List Int32) → Prop
  | none => u = .null
  | some cs => ∃ r, u = .ref r ∧ Str Z h r cs
theorem NStr.ext {u : Value} {o : Option (List Int32)} (S : NStr Z h u o) (E : Ext h h') : NStr Z h' u o := by
  cases o with
  | none => exact S
  | some cs => obtain ⟨r, e, q⟩ := S; exact ⟨r, e, q.ext E⟩
theorem NStr.keepE {u : Value} {o : Option (List Int32)} {C : String} {n : Nat} (S : NStr Z h u o) (K : Keep h h' [x]) (E : Exa Z h x C) (hC : C ≠ "java/lang/String") (wi : (Jvm.Cond.instantiable C n).before a0 Z = true) : NStr Z h' u o := by
  cases o with
  | none => exact S
  | some cs => obtain ⟨r, e, q⟩ := S; exact ⟨r, e, q.keepE K E hC wi⟩
theorem NStr.isRef {u : Value} {o : Option (List Int32)} (S : NStr Z h u o) : u.isRef = true := by
  cases o with
  | none => cases S; rfl
  | some cs => obtain ⟨r, rfl, q⟩ := S; rfl
theorem NStr.cases {u : Value} {o : Option (List Int32)} (S : NStr Z h u o) : (u = .null ∧ o = none) ∨ ∃ r cs, u = .ref r ∧ o = some cs ∧ Str Z h r cs := by
  cases o with
  | none => exact Or.inl ⟨S, rfl⟩
  | some cs => obtain ⟨r, e, q⟩ := S; exact Or.inr ⟨r, cs, e, rfl, q⟩
end Str0
end Own
namespace Own
section Own2
variable {p : Program} {l : Launch} {e : Env} {R : Room} {s : State} {m : MethodId} {args : Array Value} {below : List Frame} {meth : Method} {c : Code} {Z : State} {a0 : Array Value} {EL : List (String × Nat)} {y : MethodName} {bytes : ByteArray} {ml : Nat} {ret : Option FieldType} {w : Bool} {h0 : Heap} {ws ws' : List Addr} {vm0 vm1 : Vm} {T T' : State} {h h' h1 : Heap} {locs locs' : List Loc} {cells slots cells' slots' : Nat} {F : State → Option Value → Prop} {pc pc' : Nat} {Ls Ls' : Array Slot} {rest : List Value} {a b x : Addr}
/-- System.arraycopy between two arrays of one plain kind -/
theorem s_arraycopy {idx : Nat} {k k' : ClassId} {ty : FieldType} {z z' sp dp nn : Int32} {vs vd us vd' : List Value} {dv dd : Value} (X : Wk p l e R s m args below meth c Z a0 EL y bytes ml ret w h0 ws vm0 T h locs cells slots) (hd : decode bytes pc = .ok (.invokestatic idx, 3)) (w1 : (Jvm.Cond.methodLink y.cls idx Jvm.Stand.acN).before a0 Z = true) (w2 : (Jvm.Cond.native Jvm.Stand.acN).before a0 Z = true) (w3 : (Jvm.Cond.static Jvm.Stand.acN).before a0 Z = true) (w4 : (Jvm.Cond.initialized "java/lang/System").before a0 Z = true)
    (A : Arv Z h a k ty z vs dv) (B : Arv Z h b k' ty z' vd dd) (hty : refKind ty = false) (h1 : ¬ sp < 0) (h2 : ¬ dp < 0) (h3 : ¬ nn < 0) (h4 : sp.toNatClampNeg + nn.toNatClampNeg ≤ z.toNatClampNeg) (h5 : dp.toNatClampNeg + nn.toNatClampNeg ≤ z'.toNatClampNeg)
    (hus : us = (List.range nn.toNatClampNeg).map fun i => vs.getD (sp.toNatClampNeg + i) dv) (hl : dp.toNatClampNeg + nn.toNatClampNeg ≤ vd.length) (hvd : vd.take dp.toNatClampNeg ++ us ++ vd.drop (dp.toNatClampNeg + nn.toNatClampNeg) = vd') (Ob : Ok w Z EL h0 ws vm0 h b)
    (hsz : Ls.size = ml) (W : Nat) (hW : (rest.map fun v => v.category).sum ≤ W) (hf : 1 ≤ R.frames) (hlo : W + (nativeFrameWords "java/lang/System" "arraycopy" 5 + 11) ≤ R.locals) (hp : pc + 3 = pc')
    (kk : ∀ T' h' L, Wk p l e R s m args below meth c Z a0 EL y bytes ml ret w h0 ws vm0 T' h' L cells slots → Ev w Z EL vm0 h vm0 h' [b] → Arv Z h' b k' ty z' vd' dd → Go p e below F T' (mkF m pc' Ls rest)) : Go p e below F T (mkF m pc Ls (.int nn :: .int dp :: .ref b :: .int sp :: .ref a :: rest)) := by
  subst hp hvd
  obtain ⟨T', h', L, X', e', N, K, A', st⟩ := cpA X.st X.hx X.hZ X.hown w1 w2 w3 w4 X.hT A B (Or.inl ⟨rfl, hty⟩) h1 h2 h3 h4 h5 hus hl X.hN Ob.2.1 (g := mkF m pc Ls (.int nn :: .int dp :: .ref b :: .int sp :: .ref a :: rest)) rfl (hsz.trans X.hml.symm) rfl (hb X.hby hd) hf (W := W) (by show 2 * 0 + _ ≤ _; omega) hlo
  have V := X.evK K Ob.one
  exact (kk T' h' L (X.same X' e' N V (Ok.two Ob.one)) V A').by fun t r => st t r
theorem lo_inj {u v : Int32} (hu : Lat u) (hv : Lat v) (h : lo u = lo v) : u = v := by
  have e : ∀ {z : Int32}, Lat z → (lo z).toInt % 256 = z.toInt := fun {z} q => by
    have h1 := (c_i2b z).1
    have q1 := q.1; have q2 := q.2
    rw [Int32.lt_iff_toInt_lt] at q1 q2
    have e1 : (0 : Int32).toInt = 0 := by decide
    have e2 : (255 : Int32).toInt = 255 := by decide
    simp only [lo]
    omega
  apply Int32.toInt_inj.mp
  rw [← e hu, ← e hv, h]
/-- what stands before the first ch -/
def tw : List Int32 → Int32 → List Int32
  | [], _ => []
  | c :: r, ch => if c = ch then [] else c :: tw r ch
theorem tw_nil (ch : Int32) : tw [] ch = [] := rfl
theorem tw_hit {c ch : Int32} {r : List Int32} (h : c = ch) : tw (c :: r) ch = [] := by simp [tw, h]
theorem tw_miss {c ch : Int32} {r : List Int32} (h : ¬ c = ch) : tw (c :: r) ch = c :: tw r ch := by simp [tw, h]
theorem ofNat_toNat {n : Nat} (h : n < 2147483648) : (Int32.ofNat n).toNatClampNeg = n := by
  have hz : (Int32.size : Int) = 4294967296 := by decide
  have h1 : (Int32.ofNat n).toInt = n := by
    rw [Int32.toInt_ofNat']; exact Int.bmod_eq_of_le (by omega) (by omega)
  simp only [Int32.toNatClampNeg, h1]; omega
theorem ofNat_toInt {n : Nat} (h : n < 2147483648) : (Int32.ofNat n).toInt = n := by
  have hz : (Int32.size : Int) = 4294967296 := by decide
  rw [Int32.toInt_ofNat']; exact Int.bmod_eq_of_le (by omega) (by omega)
theorem ofNat_lt {i n : Nat} (hi : i < 2147483648) (hn : n < 2147483648) : Int32.ofNat i < Int32.ofNat n ↔ i < n := by
  rw [Int32.lt_iff_toInt_lt, ofNat_toInt hi, ofNat_toInt hn]; omega
theorem ofNat_nneg {n : Nat} (h : n < 2147483648) : ¬ Int32.ofNat n < 0 := by
  rw [Int32.lt_iff_toInt_lt, ofNat_toInt h]; have e1 : (0 : Int32).toInt = 0 := by decide
  omega
theorem ofNat_succ (n : Nat) : Int32.ofNat n + 1 = Int32.ofNat (n + 1) := by
  apply Int32.toInt_inj.mp
  rw [Int32.toInt_add, Int32.toInt_ofNat', Int32.toInt_ofNat']
  have e1 : (1 : Int32).toInt = 1 := by decide
  rw [e1]
  simp
end Own2
end Own

namespace Own
theorem latN : ∀ c ∈ ([] : List Int32), Lat c := fun _ q => nomatch q
theorem latL {z : Int32} {L : List Int32} (q : Lat z) (r : ∀ c ∈ L, Lat c) : ∀ c ∈ z :: L, Lat c := fun c hc => (List.mem_cons.mp hc).elim (fun e => e ▸ q) (r c)
end Own
namespace Own
section Str1
variable {p : Program} {l : Launch} {e : Env} {R : Room} {s : State} {args : Array Value} {below : List Frame} {Z : State} {a0 : Array Value} {h h' h1 : Heap} {rest : List Value} {a b x : Addr} {len W : Nat} {cs ds : List Int32}
/-- new String(chars) -/
theorem strNew {kC : ClassId} {d v0 c0 : Value} {z N : Int32} {n : Nat} (hZ : Z.Warmed39 s.vm) (hws : ∀ d ∈ StrChars.Road.words, d.before a0 Z = true) (wi : (Jvm.Cond.instantiable "java/lang/String" 4).before a0 Z = true) (hx0 : Z.heap.size ≤ x) (hh0 : Z.heap.size ≤ h.size) (E : Exa Z h x "java/lang/String") (V : Fld Z h x "java/lang/String" "value" "[B" v0) (C : Fld Z h x "java/lang/String" "coder" "B" c0) (K : Arv Z h b kC .char N (cs.map Value.int) d) (S : Sta Z h "java/lang/String" "COMPACT_STRINGS" "Z" (.int z)) (hz : ¬ z = 0)
    (hn : cs.length = n) (hN : N = Int32.ofNat n) (l0 : 0 < n) (l2 : n ≤ 4000) (hp : ∀ c ∈ cs, Lat c) (hfr : 4 ≤ R.frames) (hlo : W + 65 ≤ R.locals) :
    Back l R p e below s args (⟨"java/lang/String", "<init>", "([C)V"⟩ : MethodName) len W (fun P a => a = #[.ref x, .ref b] ∧ P.U.heap = h ∧ P.cells + 1 ≤ R.cells ∧ P.slots + n ≤ R.slots)
      (fun P _ v B => ∃ L, StrChars.Road.QV Z x N (cs.map fun c => c.toInt8.toInt32) h Z.heap.size v B.U.heap L ∧ B.locs = P.locs ++ L ∧ B.cells = P.cells + 1 ∧ B.slots = P.slots + n) :=
  StrChars.Road.backV hZ hws wi hx0 hh0 E V C K S hz hn hN l0 l2 hp rfl hfr hlo
theorem strNewQ {N : Int32} {n : Nat} {v : Option Value} {L : List Loc} (hn : cs.length = n) (hN : N = Int32.ofNat n) (l2 : n ≤ 4000) (hp : ∀ c ∈ cs, Lat c) (q : StrChars.Road.QV Z x N (cs.map fun c => c.toInt8.toInt32) h Z.heap.size v h' L) : Fr Z.heap.size L ∧ Keep h h' [x] ∧ (v = none ∧ Str Z h' x cs) := by
  obtain ⟨q1, q2, q3, q4, q5, t, kb, -, -, -, q6, q7⟩ := q
  subst hn hN
  exact ⟨q2, q3, q1, hp, l2, q4, q5, t, kb, q6, q7⟩
theorem strEq {z : Int32} (hZ : Z.Warmed39 s.vm) (hws : ∀ d ∈ StrChars.Road.wordsEq, d.before a0 Z = true) (wi : (Jvm.Cond.instantiable "java/lang/String" 4).before a0 Z = true) (T : Str Z h x cs) (T' : Str Z h b ds) (S : Sta Z h "java/lang/String" "COMPACT_STRINGS" "Z" (.int z)) (hz : ¬ z = 0) (hfr : 2 ≤ R.frames) (hlo : W + 28 ≤ R.locals) :
    Back l R p e below s args (⟨"java/lang/String", "equals", "(Ljava/lang/Object;)Z"⟩ : MethodName) len W (fun P a => a = #[.ref x, .ref b] ∧ P.U.heap = h ∧ P.cells + 0 ≤ R.cells ∧ P.slots + 0 ≤ R.slots)
      (fun P _ v B => ∃ L, (((v = some (.int 1) ∧ cs = ds) ∨ (v = some (.int 0) ∧ ¬ cs = ds)) ∧ L = [] ∧ B.U.heap = h) ∧ B.locs = P.locs ++ L ∧ B.cells = P.cells + 0 ∧ B.slots = P.slots + 0) := by
  obtain ⟨q1, q2, q3, q4, t, kb, q5, q6⟩ := T
  obtain ⟨r1, r2, r3, r4, t', kb', r5, r6⟩ := T'
  exact StrChars.Road.eqW hZ hws wi q3 q5 q4 q6 (StrChars.Road.codOf rfl fun c hc => (q1 c hc).2) (up65 q1) q2 r3 r5 r4 r6 (StrChars.Road.codOf rfl fun c hc => (r1 c hc).2) (up65 r1) r2 S hz hfr hlo
theorem strEqQ {v : Option Value} {L : List Loc} (q : ((v = some (.int 1) ∧ cs = ds) ∨ (v = some (.int 0) ∧ ¬ cs = ds)) ∧ L = [] ∧ h' = h) : Fr Z.heap.size L ∧ Keep h h' [] ∧ (v = some (.int (if cs = ds then 1 else 0))) := by
  obtain ⟨q, rfl, rfl⟩ := q
  refine ⟨Fr.nil _, Keep.refl _ _, ?_⟩
  rcases q with ⟨rfl, e⟩ | ⟨rfl, e⟩ <;> simp [e]
end Str1
end Own

theorem tw0 {Z : State} {a0 : Array Value} (hw : ∀ d ∈ tables_1, d.before a0 Z = true) : (Jvm.Cond.classLink "com/example/fedweave/fedweave/NameIdPolicyAllowsPinLaw" (7 : Nat) "com/example/fedweave/fedweave/AuthnRequest$NameIdPolicy").before a0 Z = true := hw _ (List.mem_of_getElem? (i := 0) rfl)
theorem tw1 {Z : State} {a0 : Array Value} (hw : ∀ d ∈ tables_1, d.before a0 Z = true) : (Jvm.Cond.instantiable "com/example/fedweave/fedweave/AuthnRequest$NameIdPolicy" (2 : Nat)).before a0 Z = true := hw _ (List.mem_of_getElem? (i := 1) rfl)
theorem tw2 {Z : State} {a0 : Array Value} (hw : ∀ d ∈ tables_1, d.before a0 Z = true) : (Jvm.Cond.initialized "com/example/fedweave/fedweave/AuthnRequest$NameIdPolicy").before a0 Z = true := hw _ (List.mem_of_getElem? (i := 2) rfl)
theorem tw3 {Z : State} {a0 : Array Value} (hw : ∀ d ∈ tables_1, d.before a0 Z = true) : (Jvm.Cond.methodLink "com/example/fedweave/fedweave/NameIdPolicyAllowsPinLaw" (9 : Nat) ({ cls := "com/example/fedweave/fedweave/NameIdPolicyAllowsPinLaw", name := "make", desc := "(II)Ljava/lang/String;" } : Jvm.MethodName)).before a0 Z = true := hw _ (List.mem_of_getElem? (i := 3) rfl)
theorem tw4 {Z : State} {a0 : Array Value} (hw : ∀ d ∈ tables_1, d.before a0 Z = true) : (Jvm.Cond.static ({ cls := "com/example/fedweave/fedweave/NameIdPolicyAllowsPinLaw", name := "make", desc := "(II)Ljava/lang/String;" } : Jvm.MethodName)).before a0 Z = true := hw _ (List.mem_of_getElem? (i := 4) rfl)
theorem tw5 {Z : State} {a0 : Array Value} (hw : ∀ d ∈ tables_1, d.before a0 Z = true) : (Jvm.Cond.initialized "com/example/fedweave/fedweave/NameIdPolicyAllowsPinLaw").before a0 Z = true := hw _ (List.mem_of_getElem? (i := 5) rfl)
theorem tw6 {Z : State} {a0 : Array Value} (hw : ∀ d ∈ tables_1, d.before a0 Z = true) : (Jvm.Cond.code ({ cls := "com/example/fedweave/fedweave/NameIdPolicyAllowsPinLaw", name := "make", desc := "(II)Ljava/lang/String;" } : Jvm.MethodName) method_3_code (2 : Nat) (Option.some (Jvm.ClassFile.FieldType.object "java/lang/String"))).before a0 Z = true := hw _ (List.mem_of_getElem? (i := 6) rfl)
theorem tw7 {Z : State} {a0 : Array Value} (hw : ∀ d ∈ tables_1, d.before a0 Z = true) : (Jvm.Cond.methodLink "com/example/fedweave/fedweave/NameIdPolicyAllowsPinLaw" (15 : Nat) ({ cls := "com/example/fedweave/fedweave/AuthnRequest$NameIdPolicy", name := "<init>", desc := "(Ljava/lang/String;Ljava/lang/String;)V" } : Jvm.MethodName)).before a0 Z = true := hw _ (List.mem_of_getElem? (i := 7) rfl)
theorem tw8 {Z : State} {a0 : Array Value} (hw : ∀ d ∈ tables_1, d.before a0 Z = true) : (Jvm.Cond.instanceMethod ({ cls := "com/example/fedweave/fedweave/AuthnRequest$NameIdPolicy", name := "<init>", desc := "(Ljava/lang/String;Ljava/lang/String;)V" } : Jvm.MethodName)).before a0 Z = true := hw _ (List.mem_of_getElem? (i := 8) rfl)
theorem tw9 {Z : State} {a0 : Array Value} (hw : ∀ d ∈ tables_1, d.before a0 Z = true) : (Jvm.Cond.code ({ cls := "com/example/fedweave/fedweave/AuthnRequest$NameIdPolicy", name := "<init>", desc := "(Ljava/lang/String;Ljava/lang/String;)V" } : Jvm.MethodName) prog_7_method_1_code (3 : Nat) (Option.none : Option Jvm.ClassFile.FieldType)).before a0 Z = true := hw _ (List.mem_of_getElem? (i := 9) rfl)
theorem tw10 {Z : State} {a0 : Array Value} (hw : ∀ d ∈ tables_1, d.before a0 Z = true) : (Jvm.Cond.methodLink "com/example/fedweave/fedweave/AuthnRequest$NameIdPolicy" (1 : Nat) ({ cls := "java/lang/Record", name := "<init>", desc := "()V" } : Jvm.MethodName)).before a0 Z = true := hw _ (List.mem_of_getElem? (i := 10) rfl)
theorem tw11 {Z : State} {a0 : Array Value} (hw : ∀ d ∈ tables_1, d.before a0 Z = true) : (Jvm.Cond.instanceMethod ({ cls := "java/lang/Record", name := "<init>", desc := "()V" } : Jvm.MethodName)).before a0 Z = true := hw _ (List.mem_of_getElem? (i := 11) rfl)
theorem tw13 {Z : State} {a0 : Array Value} (hw : ∀ d ∈ tables_1, d.before a0 Z = true) : (Jvm.Cond.initialized "java/lang/Record").before a0 Z = true := hw _ (List.mem_of_getElem? (i := 13) rfl)
theorem tw14 {Z : State} {a0 : Array Value} (hw : ∀ d ∈ tables_1, d.before a0 Z = true) : (Jvm.Cond.code ({ cls := "java/lang/Record", name := "<init>", desc := "()V" } : Jvm.MethodName) jdk_30_method_1_code (1 : Nat) (Option.none : Option Jvm.ClassFile.FieldType)).before a0 Z = true := hw _ (List.mem_of_getElem? (i := 14) rfl)
theorem tw15 {Z : State} {a0 : Array Value} (hw : ∀ d ∈ tables_1, d.before a0 Z = true) : (Jvm.Cond.methodLink "java/lang/Record" (1 : Nat) ({ cls := "java/lang/Object", name := "<init>", desc := "()V" } : Jvm.MethodName)).before a0 Z = true := hw _ (List.mem_of_getElem? (i := 15) rfl)
theorem tw16 {Z : State} {a0 : Array Value} (hw : ∀ d ∈ tables_1, d.before a0 Z = true) : (Jvm.Cond.instanceMethod ({ cls := "java/lang/Object", name := "<init>", desc := "()V" } : Jvm.MethodName)).before a0 Z = true := hw _ (List.mem_of_getElem? (i := 16) rfl)
theorem tw17 {Z : State} {a0 : Array Value} (hw : ∀ d ∈ tables_1, d.before a0 Z = true) : (Jvm.Cond.code ({ cls := "java/lang/Object", name := "<init>", desc := "()V" } : Jvm.MethodName) object_method_1_code (1 : Nat) (Option.none : Option Jvm.ClassFile.FieldType)).before a0 Z = true := hw _ (List.mem_of_getElem? (i := 17) rfl)
theorem tw18 {Z : State} {a0 : Array Value} (hw : ∀ d ∈ tables_1, d.before a0 Z = true) : (Jvm.Cond.fieldLink "com/example/fedweave/fedweave/AuthnRequest$NameIdPolicy" (7 : Nat) "com/example/fedweave/fedweave/AuthnRequest$NameIdPolicy" "format" "Ljava/lang/String;").before a0 Z = true := hw _ (List.mem_of_getElem? (i := 18) rfl)
theorem tw19 {Z : State} {a0 : Array Value} (hw : ∀ d ∈ tables_1, d.before a0 Z = true) : (Jvm.Cond.laysFinal "com/example/fedweave/fedweave/AuthnRequest$NameIdPolicy" "com/example/fedweave/fedweave/AuthnRequest$NameIdPolicy" "format" "Ljava/lang/String;").before a0 Z = true := hw _ (List.mem_of_getElem? (i := 19) rfl)
theorem tw20 {Z : State} {a0 : Array Value} (hw : ∀ d ∈ tables_1, d.before a0 Z = true) : (Jvm.Cond.fieldLink "com/example/fedweave/fedweave/AuthnRequest$NameIdPolicy" (13 : Nat) "com/example/fedweave/fedweave/AuthnRequest$NameIdPolicy" "spNameQualifier" "Ljava/lang/String;").before a0 Z = true := hw _ (List.mem_of_getElem? (i := 20) rfl)
theorem tw21 {Z : State} {a0 : Array Value} (hw : ∀ d ∈ tables_1, d.before a0 Z = true) : (Jvm.Cond.laysFinal "com/example/fedweave/fedweave/AuthnRequest$NameIdPolicy" "com/example/fedweave/fedweave/AuthnRequest$NameIdPolicy" "spNameQualifier" "Ljava/lang/String;").before a0 Z = true := hw _ (List.mem_of_getElem? (i := 21) rfl)
theorem tw22 {Z : State} {a0 : Array Value} (hw : ∀ d ∈ tables_1, d.before a0 Z = true) : (Jvm.Cond.methodLink "com/example/fedweave/fedweave/NameIdPolicyAllowsPinLaw" (18 : Nat) ({ cls := "com/example/fedweave/fedweave/AuthnRequest$NameIdPolicy", name := "allows", desc := "(Ljava/lang/String;Ljava/lang/String;)Z" } : Jvm.MethodName)).before a0 Z = true := hw _ (List.mem_of_getElem? (i := 22) rfl)
theorem tw23 {Z : State} {a0 : Array Value} (hw : ∀ d ∈ tables_1, d.before a0 Z = true) : (Jvm.Cond.declares ({ cls := "com/example/fedweave/fedweave/AuthnRequest$NameIdPolicy", name := "allows", desc := "(Ljava/lang/String;Ljava/lang/String;)Z" } : Jvm.MethodName)).before a0 Z = true := hw _ (List.mem_of_getElem? (i := 23) rfl)
theorem tw24 {Z : State} {a0 : Array Value} (hw : ∀ d ∈ tables_1, d.before a0 Z = true) : (Jvm.Cond.instanceMethod ({ cls := "com/example/fedweave/fedweave/AuthnRequest$NameIdPolicy", name := "allows", desc := "(Ljava/lang/String;Ljava/lang/String;)Z" } : Jvm.MethodName)).before a0 Z = true := hw _ (List.mem_of_getElem? (i := 24) rfl)
theorem tw25 {Z : State} {a0 : Array Value} (hw : ∀ d ∈ tables_1, d.before a0 Z = true) : (Jvm.Cond.selects "com/example/fedweave/fedweave/AuthnRequest$NameIdPolicy" ({ cls := "com/example/fedweave/fedweave/AuthnRequest$NameIdPolicy", name := "allows", desc := "(Ljava/lang/String;Ljava/lang/String;)Z" } : Jvm.MethodName) ({ cls := "com/example/fedweave/fedweave/AuthnRequest$NameIdPolicy", name := "allows", desc := "(Ljava/lang/String;Ljava/lang/String;)Z" } : Jvm.MethodName)).before a0 Z = true := hw _ (List.mem_of_getElem? (i := 25) rfl)
theorem tw26 {Z : State} {a0 : Array Value} (hw : ∀ d ∈ tables_1, d.before a0 Z = true) : (Jvm.Cond.code ({ cls := "com/example/fedweave/fedweave/AuthnRequest$NameIdPolicy", name := "allows", desc := "(Ljava/lang/String;Ljava/lang/String;)Z" } : Jvm.MethodName) prog_7_method_2_code (3 : Nat) (Option.some Jvm.ClassFile.FieldType.boolean)).before a0 Z = true := hw _ (List.mem_of_getElem? (i := 26) rfl)
theorem tw27 {Z : State} {a0 : Array Value} (hw : ∀ d ∈ tables_1, d.before a0 Z = true) : (Jvm.Cond.methodLink "com/example/fedweave/fedweave/NameIdPolicyAllowsPinLaw" (28 : Nat) ({ cls := "com/example/fedweave/fedweave/NameIdPolicyAllowsPinLaw", name := "drawn", desc := "(I)Ljava/lang/String;" } : Jvm.MethodName)).before a0 Z = true := hw _ (List.mem_of_getElem? (i := 27) rfl)
theorem tw28 {Z : State} {a0 : Array Value} (hw : ∀ d ∈ tables_1, d.before a0 Z = true) : (Jvm.Cond.static ({ cls := "com/example/fedweave/fedweave/NameIdPolicyAllowsPinLaw", name := "drawn", desc := "(I)Ljava/lang/String;" } : Jvm.MethodName)).before a0 Z = true := hw _ (List.mem_of_getElem? (i := 28) rfl)
theorem tw29 {Z : State} {a0 : Array Value} (hw : ∀ d ∈ tables_1, d.before a0 Z = true) : (Jvm.Cond.code ({ cls := "com/example/fedweave/fedweave/NameIdPolicyAllowsPinLaw", name := "drawn", desc := "(I)Ljava/lang/String;" } : Jvm.MethodName) method_5_code (2 : Nat) (Option.some (Jvm.ClassFile.FieldType.object "java/lang/String"))).before a0 Z = true := hw _ (List.mem_of_getElem? (i := 29) rfl)
theorem tw30 {Z : State} {a0 : Array Value} (hw : ∀ d ∈ tables_1, d.before a0 Z = true) : (Jvm.Cond.classLink "com/example/fedweave/fedweave/NameIdPolicyAllowsPinLaw" (32 : Nat) "java/lang/String").before a0 Z = true := hw _ (List.mem_of_getElem? (i := 30) rfl)
theorem tw31 {Z : State} {a0 : Array Value} (hw : ∀ d ∈ tables_1, d.before a0 Z = true) : (Jvm.Cond.instantiable "java/lang/String" (4 : Nat)).before a0 Z = true := hw _ (List.mem_of_getElem? (i := 31) rfl)
theorem tw32 {Z : State} {a0 : Array Value} (hw : ∀ d ∈ tables_1, d.before a0 Z = true) : (Jvm.Cond.initialized "java/lang/String").before a0 Z = true := hw _ (List.mem_of_getElem? (i := 32) rfl)
theorem tw33 {Z : State} {a0 : Array Value} (hw : ∀ d ∈ tables_1, d.before a0 Z = true) : (Jvm.Cond.arrayClass Jvm.ClassFile.FieldType.char).before a0 Z = true := hw _ (List.mem_of_getElem? (i := 33) rfl)
theorem tw34 {Z : State} {a0 : Array Value} (hw : ∀ d ∈ tables_1, d.before a0 Z = true) : (Jvm.Cond.methodLink "com/example/fedweave/fedweave/NameIdPolicyAllowsPinLaw" (34 : Nat) ({ cls := "java/lang/String", name := "<init>", desc := "([C)V" } : Jvm.MethodName)).before a0 Z = true := hw _ (List.mem_of_getElem? (i := 34) rfl)
theorem tw35 {Z : State} {a0 : Array Value} (hw : ∀ d ∈ tables_1, d.before a0 Z = true) : (Jvm.Cond.instanceMethod ({ cls := "java/lang/String", name := "<init>", desc := "([C)V" } : Jvm.MethodName)).before a0 Z = true := hw _ (List.mem_of_getElem? (i := 35) rfl)
theorem tw36 {Z : State} {a0 : Array Value} (hw : ∀ d ∈ tables_1, d.before a0 Z = true) : (Jvm.Cond.code ({ cls := "java/lang/String", name := "<init>", desc := "([C)V" } : Jvm.MethodName) jdk_42_method_3_code (2 : Nat) (Option.none : Option Jvm.ClassFile.FieldType)).before a0 Z = true := hw _ (List.mem_of_getElem? (i := 36) rfl)
theorem tw37 {Z : State} {a0 : Array Value} (hw : ∀ d ∈ tables_1, d.before a0 Z = true) : (Jvm.Cond.methodLink "java/lang/String" (27 : Nat) ({ cls := "java/lang/String", name := "<init>", desc := "([CIILjava/lang/Void;)V" } : Jvm.MethodName)).before a0 Z = true := hw _ (List.mem_of_getElem? (i := 37) rfl)
theorem tw38 {Z : State} {a0 : Array Value} (hw : ∀ d ∈ tables_1, d.before a0 Z = true) : (Jvm.Cond.instanceMethod ({ cls := "java/lang/String", name := "<init>", desc := "([CIILjava/lang/Void;)V" } : Jvm.MethodName)).before a0 Z = true := hw _ (List.mem_of_getElem? (i := 38) rfl)
theorem tw40 {Z : State} {a0 : Array Value} (hw : ∀ d ∈ tables_1, d.before a0 Z = true) : (Jvm.Cond.code ({ cls := "java/lang/String", name := "<init>", desc := "([CIILjava/lang/Void;)V" } : Jvm.MethodName) jdk_42_method_149_code (6 : Nat) (Option.none : Option Jvm.ClassFile.FieldType)).before a0 Z = true := hw _ (List.mem_of_getElem? (i := 40) rfl)
theorem tw41 {Z : State} {a0 : Array Value} (hw : ∀ d ∈ tables_1, d.before a0 Z = true) : (Jvm.Cond.methodLink "java/lang/String" (1 : Nat) ({ cls := "java/lang/Object", name := "<init>", desc := "()V" } : Jvm.MethodName)).before a0 Z = true := hw _ (List.mem_of_getElem? (i := 41) rfl)
theorem tw42 {Z : State} {a0 : Array Value} (hw : ∀ d ∈ tables_1, d.before a0 Z = true) : (Jvm.Cond.stringLink "java/lang/String" (7 : Nat) "").before a0 Z = true := hw _ (List.mem_of_getElem? (i := 42) rfl)
theorem tw43 {Z : State} {a0 : Array Value} (hw : ∀ d ∈ tables_1, d.before a0 Z = true) : (Jvm.Cond.arrayClass Jvm.ClassFile.FieldType.byte).before a0 Z = true := hw _ (List.mem_of_getElem? (i := 43) rfl)
theorem tw44 {Z : State} {a0 : Array Value} (hw : ∀ d ∈ tables_1, d.before a0 Z = true) : (Jvm.Cond.laysFinal "java/lang/String" "java/lang/String" "value" "[B").before a0 Z = true := hw _ (List.mem_of_getElem? (i := 44) rfl)
theorem tw45 {Z : State} {a0 : Array Value} (hw : ∀ d ∈ tables_1, d.before a0 Z = true) : (Jvm.Cond.laysFinal "java/lang/String" "java/lang/String" "coder" "B").before a0 Z = true := hw _ (List.mem_of_getElem? (i := 45) rfl)
theorem tw48 {Z : State} {a0 : Array Value} (hw : ∀ d ∈ tables_1, d.before a0 Z = true) : (Jvm.Cond.fieldLink "java/lang/String" (9 : Nat) "java/lang/String" "value" "[B").before a0 Z = true := hw _ (List.mem_of_getElem? (i := 48) rfl)
theorem tw49 {Z : State} {a0 : Array Value} (hw : ∀ d ∈ tables_1, d.before a0 Z = true) : (Jvm.Cond.fieldLink "java/lang/String" (15 : Nat) "java/lang/String" "coder" "B").before a0 Z = true := hw _ (List.mem_of_getElem? (i := 49) rfl)
theorem tw50 {Z : State} {a0 : Array Value} (hw : ∀ d ∈ tables_1, d.before a0 Z = true) : (Jvm.Cond.stringLink "com/example/fedweave/fedweave/AuthnRequest$NameIdPolicy" (18 : Nat) "urn:oasis:names:tc:SAML:1.1:nameid-format:unspecified").before a0 Z = true := hw _ (List.mem_of_getElem? (i := 50) rfl)
theorem tw51 {Z : State} {a0 : Array Value} (hw : ∀ d ∈ tables_1, d.before a0 Z = true) : (Jvm.Cond.methodLink "com/example/fedweave/fedweave/AuthnRequest$NameIdPolicy" (20 : Nat) ({ cls := "java/lang/String", name := "equals", desc := "(Ljava/lang/Object;)Z" } : Jvm.MethodName)).before a0 Z = true := hw _ (List.mem_of_getElem? (i := 51) rfl)
theorem tw52 {Z : State} {a0 : Array Value} (hw : ∀ d ∈ tables_1, d.before a0 Z = true) : (Jvm.Cond.declares ({ cls := "java/lang/String", name := "equals", desc := "(Ljava/lang/Object;)Z" } : Jvm.MethodName)).before a0 Z = true := hw _ (List.mem_of_getElem? (i := 52) rfl)
theorem tw53 {Z : State} {a0 : Array Value} (hw : ∀ d ∈ tables_1, d.before a0 Z = true) : (Jvm.Cond.instanceMethod ({ cls := "java/lang/String", name := "equals", desc := "(Ljava/lang/Object;)Z" } : Jvm.MethodName)).before a0 Z = true := hw _ (List.mem_of_getElem? (i := 53) rfl)
theorem tw54 {Z : State} {a0 : Array Value} (hw : ∀ d ∈ tables_1, d.before a0 Z = true) : (Jvm.Cond.selects "java/lang/String" ({ cls := "java/lang/String", name := "equals", desc := "(Ljava/lang/Object;)Z" } : Jvm.MethodName) ({ cls := "java/lang/String", name := "equals", desc := "(Ljava/lang/Object;)Z" } : Jvm.MethodName)).before a0 Z = true := hw _ (List.mem_of_getElem? (i := 54) rfl)
theorem tw55 {Z : State} {a0 : Array Value} (hw : ∀ d ∈ tables_1, d.before a0 Z = true) : (Jvm.Cond.code ({ cls := "java/lang/String", name := "equals", desc := "(Ljava/lang/Object;)Z" } : Jvm.MethodName) jdk_42_method_66_code (3 : Nat) (Option.some Jvm.ClassFile.FieldType.boolean)).before a0 Z = true := hw _ (List.mem_of_getElem? (i := 55) rfl)
theorem tw56 {Z : State} {a0 : Array Value} (hw : ∀ d ∈ tables_1, d.before a0 Z = true) : (Jvm.Cond.classLink "java/lang/String" (10 : Nat) "java/lang/String").before a0 Z = true := hw _ (List.mem_of_getElem? (i := 56) rfl)
theorem tw57 {Z : State} {a0 : Array Value} (hw : ∀ d ∈ tables_1, d.before a0 Z = true) : (Jvm.Cond.fieldLink "java/lang/String" (38 : Nat) "java/lang/String" "COMPACT_STRINGS" "Z").before a0 Z = true := hw _ (List.mem_of_getElem? (i := 57) rfl)
theorem tw60 {Z : State} {a0 : Array Value} (hw : ∀ d ∈ tables_1, d.before a0 Z = true) : (Jvm.Cond.initialized "java/lang/StringLatin1").before a0 Z = true := hw _ (List.mem_of_getElem? (i := 60) rfl)
theorem tw62 {Z : State} {a0 : Array Value} (hw : ∀ d ∈ tables_1, d.before a0 Z = true) : (Jvm.Cond.methodLink "com/example/fedweave/fedweave/NameIdPolicyAllowsPinLaw" (22 : Nat) ({ cls := "com/example/fedweave/fedweave/NameIdPolicyAllowsPinLaw", name := "eq", desc := "(IIII)Z" } : Jvm.MethodName)).before a0 Z = true := hw _ (List.mem_of_getElem? (i := 62) rfl)
theorem tw63 {Z : State} {a0 : Array Value} (hw : ∀ d ∈ tables_1, d.before a0 Z = true) : (Jvm.Cond.static ({ cls := "com/example/fedweave/fedweave/NameIdPolicyAllowsPinLaw", name := "eq", desc := "(IIII)Z" } : Jvm.MethodName)).before a0 Z = true := hw _ (List.mem_of_getElem? (i := 63) rfl)
theorem tw64 {Z : State} {a0 : Array Value} (hw : ∀ d ∈ tables_1, d.before a0 Z = true) : (Jvm.Cond.code ({ cls := "com/example/fedweave/fedweave/NameIdPolicyAllowsPinLaw", name := "eq", desc := "(IIII)Z" } : Jvm.MethodName) method_6_code (4 : Nat) (Option.some Jvm.ClassFile.FieldType.boolean)).before a0 Z = true := hw _ (List.mem_of_getElem? (i := 64) rfl)
theorem tw65 {Z : State} {a0 : Array Value} (hw : ∀ d ∈ tables_1, d.before a0 Z = true) : (Jvm.Cond.stringLink "com/example/fedweave/fedweave/NameIdPolicyAllowsPinLaw" (26 : Nat) "urn:oasis:names:tc:SAML:1.1:nameid-format:unspecified").before a0 Z = true := hw _ (List.mem_of_getElem? (i := 65) rfl)
theorem tw66 {Z : State} {a0 : Array Value} (hw : ∀ d ∈ tables_1, d.before a0 Z = true) : (Jvm.Cond.methodLink "com/example/fedweave/fedweave/NameIdPolicyAllowsPinLaw" (37 : Nat) ({ cls := "com/example/fedweave/fedweave/NameIdPolicyAllowsPinLaw", name := "ch", desc := "(II)C" } : Jvm.MethodName)).before a0 Z = true := hw _ (List.mem_of_getElem? (i := 66) rfl)
theorem tw67 {Z : State} {a0 : Array Value} (hw : ∀ d ∈ tables_1, d.before a0 Z = true) : (Jvm.Cond.static ({ cls := "com/example/fedweave/fedweave/NameIdPolicyAllowsPinLaw", name := "ch", desc := "(II)C" } : Jvm.MethodName)).before a0 Z = true := hw _ (List.mem_of_getElem? (i := 67) rfl)
theorem tw68 {Z : State} {a0 : Array Value} (hw : ∀ d ∈ tables_1, d.before a0 Z = true) : (Jvm.Cond.code ({ cls := "com/example/fedweave/fedweave/NameIdPolicyAllowsPinLaw", name := "ch", desc := "(II)C" } : Jvm.MethodName) method_4_code (2 : Nat) (Option.some Jvm.ClassFile.FieldType.char)).before a0 Z = true := hw _ (List.mem_of_getElem? (i := 68) rfl)
theorem tw69 {Z : State} {a0 : Array Value} (hw : ∀ d ∈ tables_1, d.before a0 Z = true) : (Jvm.Cond.methodLink "com/example/fedweave/fedweave/NameIdPolicyAllowsPinLaw" (41 : Nat) ({ cls := "java/lang/String", name := "valueOf", desc := "(C)Ljava/lang/String;" } : Jvm.MethodName)).before a0 Z = true := hw _ (List.mem_of_getElem? (i := 69) rfl)
theorem tw70 {Z : State} {a0 : Array Value} (hw : ∀ d ∈ tables_1, d.before a0 Z = true) : (Jvm.Cond.static ({ cls := "java/lang/String", name := "valueOf", desc := "(C)Ljava/lang/String;" } : Jvm.MethodName)).before a0 Z = true := hw _ (List.mem_of_getElem? (i := 70) rfl)
theorem tw71 {Z : State} {a0 : Array Value} (hw : ∀ d ∈ tables_1, d.before a0 Z = true) : (Jvm.Cond.code ({ cls := "java/lang/String", name := "valueOf", desc := "(C)Ljava/lang/String;" } : Jvm.MethodName) jdk_42_method_139_code (1 : Nat) (Option.some (Jvm.ClassFile.FieldType.object "java/lang/String"))).before a0 Z = true := hw _ (List.mem_of_getElem? (i := 71) rfl)
theorem tw72 {Z : State} {a0 : Array Value} (hw : ∀ d ∈ tables_1, d.before a0 Z = true) : (Jvm.Cond.methodLink "java/lang/String" (1015 : Nat) ({ cls := "java/lang/StringLatin1", name := "canEncode", desc := "(C)Z" } : Jvm.MethodName)).before a0 Z = true := hw _ (List.mem_of_getElem? (i := 72) rfl)
theorem tw73 {Z : State} {a0 : Array Value} (hw : ∀ d ∈ tables_1, d.before a0 Z = true) : (Jvm.Cond.static ({ cls := "java/lang/StringLatin1", name := "canEncode", desc := "(C)Z" } : Jvm.MethodName)).before a0 Z = true := hw _ (List.mem_of_getElem? (i := 73) rfl)
theorem tw74 {Z : State} {a0 : Array Value} (hw : ∀ d ∈ tables_1, d.before a0 Z = true) : (Jvm.Cond.code ({ cls := "java/lang/StringLatin1", name := "canEncode", desc := "(C)Z" } : Jvm.MethodName) jdk_43_method_3_code (1 : Nat) (Option.some Jvm.ClassFile.FieldType.boolean)).before a0 Z = true := hw _ (List.mem_of_getElem? (i := 74) rfl)
theorem tw75 {Z : State} {a0 : Array Value} (hw : ∀ d ∈ tables_1, d.before a0 Z = true) : (Jvm.Cond.methodLink "java/lang/String" (1018 : Nat) ({ cls := "java/lang/StringLatin1", name := "toBytes", desc := "(C)[B" } : Jvm.MethodName)).before a0 Z = true := hw _ (List.mem_of_getElem? (i := 75) rfl)
theorem tw76 {Z : State} {a0 : Array Value} (hw : ∀ d ∈ tables_1, d.before a0 Z = true) : (Jvm.Cond.static ({ cls := "java/lang/StringLatin1", name := "toBytes", desc := "(C)[B" } : Jvm.MethodName)).before a0 Z = true := hw _ (List.mem_of_getElem? (i := 76) rfl)
theorem tw77 {Z : State} {a0 : Array Value} (hw : ∀ d ∈ tables_1, d.before a0 Z = true) : (Jvm.Cond.code ({ cls := "java/lang/StringLatin1", name := "toBytes", desc := "(C)[B" } : Jvm.MethodName) jdk_43_method_46_code (1 : Nat) (Option.some (Jvm.ClassFile.FieldType.array Jvm.ClassFile.FieldType.byte))).before a0 Z = true := hw _ (List.mem_of_getElem? (i := 77) rfl)
theorem tw78 {Z : State} {a0 : Array Value} (hw : ∀ d ∈ tables_1, d.before a0 Z = true) : (Jvm.Cond.methodLink "java/lang/String" (209 : Nat) ({ cls := "java/lang/String", name := "<init>", desc := "([BB)V" } : Jvm.MethodName)).before a0 Z = true := hw _ (List.mem_of_getElem? (i := 78) rfl)
theorem tw79 {Z : State} {a0 : Array Value} (hw : ∀ d ∈ tables_1, d.before a0 Z = true) : (Jvm.Cond.instanceMethod ({ cls := "java/lang/String", name := "<init>", desc := "([BB)V" } : Jvm.MethodName)).before a0 Z = true := hw _ (List.mem_of_getElem? (i := 79) rfl)
theorem tw80 {Z : State} {a0 : Array Value} (hw : ∀ d ∈ tables_1, d.before a0 Z = true) : (Jvm.Cond.code ({ cls := "java/lang/String", name := "<init>", desc := "([BB)V" } : Jvm.MethodName) jdk_42_method_151_code (3 : Nat) (Option.none : Option Jvm.ClassFile.FieldType)).before a0 Z = true := hw _ (List.mem_of_getElem? (i := 80) rfl)
theorem tw91 {Z : State} {a0 : Array Value} (hw : ∀ d ∈ tables_1, d.before a0 Z = true) : (Jvm.Cond.methodLink "com/example/fedweave/fedweave/NameIdPolicyAllowsPinLaw" (45 : Nat) ({ cls := "com/example/fedweave/fedweave/NameIdPolicyAllowsPinLaw", name := "drawnEq", desc := "(II)Z" } : Jvm.MethodName)).before a0 Z = true := hw _ (List.mem_of_getElem? (i := 91) rfl)
theorem tw92 {Z : State} {a0 : Array Value} (hw : ∀ d ∈ tables_1, d.before a0 Z = true) : (Jvm.Cond.static ({ cls := "com/example/fedweave/fedweave/NameIdPolicyAllowsPinLaw", name := "drawnEq", desc := "(II)Z" } : Jvm.MethodName)).before a0 Z = true := hw _ (List.mem_of_getElem? (i := 92) rfl)
theorem tw93 {Z : State} {a0 : Array Value} (hw : ∀ d ∈ tables_1, d.before a0 Z = true) : (Jvm.Cond.code ({ cls := "com/example/fedweave/fedweave/NameIdPolicyAllowsPinLaw", name := "drawnEq", desc := "(II)Z" } : Jvm.MethodName) method_7_code (4 : Nat) (Option.some Jvm.ClassFile.FieldType.boolean)).before a0 Z = true := hw _ (List.mem_of_getElem? (i := 93) rfl)
theorem dc_jdk_30_method_1_0 : decode jdk_30_method_1_code 0 = .ok (.aload_n 0, 1) := by decide +kernel
theorem dc_jdk_30_method_1_1 : decode jdk_30_method_1_code 1 = .ok (.invokespecial 1, 3) := by decide +kernel
theorem dc_jdk_30_method_1_4 : decode jdk_30_method_1_code 4 = .ok (.return_, 1) := by decide +kernel
theorem dc_jdk_42_method_149_0 : decode jdk_42_method_149_code 0 = .ok (.aload_n 0, 1) := by decide +kernel
theorem dc_jdk_42_method_149_1 : decode jdk_42_method_149_code 1 = .ok (.invokespecial 1, 3) := by decide +kernel
theorem dc_jdk_42_method_149_4 : decode jdk_42_method_149_code 4 = .ok (.iload_n 3, 1) := by decide +kernel
theorem dc_jdk_42_method_149_5 : decode jdk_42_method_149_code 5 = .ok (.ifCond .ne 22, 3) := by decide +kernel
theorem dc_jdk_42_method_149_8 : decode jdk_42_method_149_code 8 = .ok (.aload_n 0, 1) := by decide +kernel
theorem dc_jdk_42_method_149_9 : decode jdk_42_method_149_code 9 = .ok (.ldc 7, 2) := by decide +kernel
theorem dc_jdk_42_method_149_11 : decode jdk_42_method_149_code 11 = .ok (.getfield 9, 3) := by decide +kernel
theorem dc_jdk_42_method_149_14 : decode jdk_42_method_149_code 14 = .ok (.putfield 9, 3) := by decide +kernel
theorem dc_jdk_42_method_149_17 : decode jdk_42_method_149_code 17 = .ok (.aload_n 0, 1) := by decide +kernel
theorem dc_jdk_42_method_149_18 : decode jdk_42_method_149_code 18 = .ok (.ldc 7, 2) := by decide +kernel
theorem dc_jdk_42_method_149_20 : decode jdk_42_method_149_code 20 = .ok (.getfield 15, 3) := by decide +kernel
theorem dc_jdk_42_method_149_23 : decode jdk_42_method_149_code 23 = .ok (.putfield 15, 3) := by decide +kernel
theorem dc_jdk_42_method_149_26 : decode jdk_42_method_149_code 26 = .ok (.return_, 1) := by decide +kernel
theorem dc_jdk_42_method_3_0 : decode jdk_42_method_3_code 0 = .ok (.aload_n 0, 1) := by decide +kernel
theorem dc_jdk_42_method_3_1 : decode jdk_42_method_3_code 1 = .ok (.aload_n 1, 1) := by decide +kernel
theorem dc_jdk_42_method_3_2 : decode jdk_42_method_3_code 2 = .ok (.iconst 0, 1) := by decide +kernel
theorem dc_jdk_42_method_3_3 : decode jdk_42_method_3_code 3 = .ok (.aload_n 1, 1) := by decide +kernel
theorem dc_jdk_42_method_3_4 : decode jdk_42_method_3_code 4 = .ok (.arraylength, 1) := by decide +kernel
theorem dc_jdk_42_method_3_5 : decode jdk_42_method_3_code 5 = .ok (.aconst_null, 1) := by decide +kernel
theorem dc_jdk_42_method_3_6 : decode jdk_42_method_3_code 6 = .ok (.invokespecial 27, 3) := by decide +kernel
theorem dc_jdk_42_method_3_9 : decode jdk_42_method_3_code 9 = .ok (.return_, 1) := by decide +kernel
theorem dc_jdk_43_method_3_0 : decode jdk_43_method_3_code 0 = .ok (.iload_n 0, 1) := by decide +kernel
theorem dc_jdk_43_method_3_1 : decode jdk_43_method_3_code 1 = .ok (.sipush 255, 3) := by decide +kernel
theorem dc_jdk_43_method_3_4 : decode jdk_43_method_3_code 4 = .ok (.if_icmp .gt 7, 3) := by decide +kernel
theorem dc_jdk_43_method_3_7 : decode jdk_43_method_3_code 7 = .ok (.iconst 1, 1) := by decide +kernel
theorem dc_jdk_43_method_3_8 : decode jdk_43_method_3_code 8 = .ok (.goto 4, 3) := by decide +kernel
theorem dc_jdk_43_method_3_12 : decode jdk_43_method_3_code 12 = .ok (.ireturn, 1) := by decide +kernel
theorem dc_jdk_43_method_46_0 : decode jdk_43_method_46_code 0 = .ok (.iconst 1, 1) := by decide +kernel
theorem dc_jdk_43_method_46_1 : decode jdk_43_method_46_code 1 = .ok (.newarray .byte, 2) := by decide +kernel
theorem dc_jdk_43_method_46_3 : decode jdk_43_method_46_code 3 = .ok (.dup, 1) := by decide +kernel
theorem dc_jdk_43_method_46_4 : decode jdk_43_method_46_code 4 = .ok (.iconst 0, 1) := by decide +kernel
theorem dc_jdk_43_method_46_5 : decode jdk_43_method_46_code 5 = .ok (.iload_n 0, 1) := by decide +kernel
theorem dc_jdk_43_method_46_6 : decode jdk_43_method_46_code 6 = .ok (.i2b, 1) := by decide +kernel
theorem dc_jdk_43_method_46_7 : decode jdk_43_method_46_code 7 = .ok (.bastore, 1) := by decide +kernel
theorem dc_jdk_43_method_46_8 : decode jdk_43_method_46_code 8 = .ok (.areturn, 1) := by decide +kernel
theorem dc_jdk_42_method_151_0 : decode jdk_42_method_151_code 0 = .ok (.aload_n 0, 1) := by decide +kernel
theorem dc_jdk_42_method_151_1 : decode jdk_42_method_151_code 1 = .ok (.invokespecial 1, 3) := by decide +kernel
theorem dc_jdk_42_method_151_4 : decode jdk_42_method_151_code 4 = .ok (.aload_n 0, 1) := by decide +kernel
theorem dc_jdk_42_method_151_5 : decode jdk_42_method_151_code 5 = .ok (.aload_n 1, 1) := by decide +kernel
theorem dc_jdk_42_method_151_6 : decode jdk_42_method_151_code 6 = .ok (.putfield 9, 3) := by decide +kernel
theorem dc_jdk_42_method_151_9 : decode jdk_42_method_151_code 9 = .ok (.aload_n 0, 1) := by decide +kernel
theorem dc_jdk_42_method_151_10 : decode jdk_42_method_151_code 10 = .ok (.iload_n 2, 1) := by decide +kernel
theorem dc_jdk_42_method_151_11 : decode jdk_42_method_151_code 11 = .ok (.putfield 15, 3) := by decide +kernel
theorem dc_jdk_42_method_151_14 : decode jdk_42_method_151_code 14 = .ok (.return_, 1) := by decide +kernel
theorem dc_jdk_42_method_139_0 : decode jdk_42_method_139_code 0 = .ok (.getstatic 38, 3) := by decide +kernel
theorem dc_jdk_42_method_139_3 : decode jdk_42_method_139_code 3 = .ok (.ifCond .eq 23, 3) := by decide +kernel
theorem dc_jdk_42_method_139_6 : decode jdk_42_method_139_code 6 = .ok (.iload_n 0, 1) := by decide +kernel
theorem dc_jdk_42_method_139_7 : decode jdk_42_method_139_code 7 = .ok (.invokestatic 1015, 3) := by decide +kernel
theorem dc_jdk_42_method_139_10 : decode jdk_42_method_139_code 10 = .ok (.ifCond .eq 16, 3) := by decide +kernel
theorem dc_jdk_42_method_139_13 : decode jdk_42_method_139_code 13 = .ok (.new 10, 3) := by decide +kernel
theorem dc_jdk_42_method_139_16 : decode jdk_42_method_139_code 16 = .ok (.dup, 1) := by decide +kernel
theorem dc_jdk_42_method_139_17 : decode jdk_42_method_139_code 17 = .ok (.iload_n 0, 1) := by decide +kernel
theorem dc_jdk_42_method_139_18 : decode jdk_42_method_139_code 18 = .ok (.invokestatic 1018, 3) := by decide +kernel
theorem dc_jdk_42_method_139_21 : decode jdk_42_method_139_code 21 = .ok (.iconst 0, 1) := by decide +kernel
theorem dc_jdk_42_method_139_22 : decode jdk_42_method_139_code 22 = .ok (.invokespecial 209, 3) := by decide +kernel
theorem dc_jdk_42_method_139_25 : decode jdk_42_method_139_code 25 = .ok (.areturn, 1) := by decide +kernel
theorem dc_jdk_42_method_66_0 : decode jdk_42_method_66_code 0 = .ok (.aload_n 0, 1) := by decide +kernel
theorem dc_jdk_42_method_66_1 : decode jdk_42_method_66_code 1 = .ok (.aload_n 1, 1) := by decide +kernel
theorem dc_jdk_42_method_66_2 : decode jdk_42_method_66_code 2 = .ok (.if_acmp .ne 5, 3) := by decide +kernel
theorem dc_jdk_42_method_66_7 : decode jdk_42_method_66_code 7 = .ok (.aload_n 1, 1) := by decide +kernel
theorem dc_jdk_42_method_66_8 : decode jdk_42_method_66_code 8 = .ok (.instanceof 10, 3) := by decide +kernel
theorem dc_jdk_42_method_66_11 : decode jdk_42_method_66_code 11 = .ok (.ifCond .eq 43, 3) := by decide +kernel
theorem dc_jdk_42_method_66_54 : decode jdk_42_method_66_code 54 = .ok (.iconst 0, 1) := by decide +kernel
theorem dc_jdk_42_method_66_55 : decode jdk_42_method_66_code 55 = .ok (.ireturn, 1) := by decide +kernel
theorem dc_method_4_0 : decode method_4_code 0 = .ok (.iload_n 0, 1) := by decide +kernel
theorem dc_method_4_1 : decode method_4_code 1 = .ok (.iconst 2, 1) := by decide +kernel
theorem dc_method_4_2 : decode method_4_code 2 = .ok (.bipush 8, 2) := by decide +kernel
theorem dc_method_4_4 : decode method_4_code 4 = .ok (.iload_n 1, 1) := by decide +kernel
theorem dc_method_4_5 : decode method_4_code 5 = .ok (.imul, 1) := by decide +kernel
theorem dc_method_4_6 : decode method_4_code 6 = .ok (.iadd, 1) := by decide +kernel
theorem dc_method_4_7 : decode method_4_code 7 = .ok (.iushr, 1) := by decide +kernel
theorem dc_method_4_8 : decode method_4_code 8 = .ok (.sipush 255, 3) := by decide +kernel
theorem dc_method_4_11 : decode method_4_code 11 = .ok (.iand, 1) := by decide +kernel
theorem dc_method_4_12 : decode method_4_code 12 = .ok (.i2c, 1) := by decide +kernel
theorem dc_method_4_13 : decode method_4_code 13 = .ok (.ireturn, 1) := by decide +kernel
theorem dc_method_5_0 : decode method_5_code 0 = .ok (.iload_n 0, 1) := by decide +kernel
theorem dc_method_5_1 : decode method_5_code 1 = .ok (.iconst 3, 1) := by decide +kernel
theorem dc_method_5_2 : decode method_5_code 2 = .ok (.iand, 1) := by decide +kernel
theorem dc_method_5_3 : decode method_5_code 3 = .ok (.istore_n 1, 1) := by decide +kernel
theorem dc_method_5_4 : decode method_5_code 4 = .ok (.iload_n 1, 1) := by decide +kernel
theorem dc_method_5_5 : decode method_5_code 5 = .ok (.ifCond .ne 14, 3) := by decide +kernel
theorem dc_method_5_8 : decode method_5_code 8 = .ok (.new 32, 3) := by decide +kernel
theorem dc_method_5_11 : decode method_5_code 11 = .ok (.dup, 1) := by decide +kernel
theorem dc_method_5_12 : decode method_5_code 12 = .ok (.iconst 0, 1) := by decide +kernel
theorem dc_method_5_13 : decode method_5_code 13 = .ok (.newarray .char, 2) := by decide +kernel
theorem dc_method_5_15 : decode method_5_code 15 = .ok (.invokespecial 34, 3) := by decide +kernel
theorem dc_method_5_18 : decode method_5_code 18 = .ok (.areturn, 1) := by decide +kernel
theorem dc_method_5_19 : decode method_5_code 19 = .ok (.iload_n 1, 1) := by decide +kernel
theorem dc_method_5_20 : decode method_5_code 20 = .ok (.iconst 1, 1) := by decide +kernel
theorem dc_method_5_21 : decode method_5_code 21 = .ok (.if_icmp .ne 12, 3) := by decide +kernel
theorem dc_method_5_24 : decode method_5_code 24 = .ok (.iload_n 0, 1) := by decide +kernel
theorem dc_method_5_25 : decode method_5_code 25 = .ok (.iconst 0, 1) := by decide +kernel
theorem dc_method_5_26 : decode method_5_code 26 = .ok (.invokestatic 37, 3) := by decide +kernel
theorem dc_method_5_29 : decode method_5_code 29 = .ok (.invokestatic 41, 3) := by decide +kernel
theorem dc_method_5_32 : decode method_5_code 32 = .ok (.areturn, 1) := by decide +kernel
theorem dc_method_5_33 : decode method_5_code 33 = .ok (.iload_n 1, 1) := by decide +kernel
theorem dc_method_5_34 : decode method_5_code 34 = .ok (.iconst 2, 1) := by decide +kernel
theorem dc_method_5_35 : decode method_5_code 35 = .ok (.if_icmp .ne 30, 3) := by decide +kernel
theorem dc_method_5_38 : decode method_5_code 38 = .ok (.new 32, 3) := by decide +kernel
theorem dc_method_5_41 : decode method_5_code 41 = .ok (.dup, 1) := by decide +kernel
theorem dc_method_5_42 : decode method_5_code 42 = .ok (.iconst 2, 1) := by decide +kernel
theorem dc_method_5_43 : decode method_5_code 43 = .ok (.newarray .char, 2) := by decide +kernel
theorem dc_method_5_45 : decode method_5_code 45 = .ok (.dup, 1) := by decide +kernel
theorem dc_method_5_46 : decode method_5_code 46 = .ok (.iconst 0, 1) := by decide +kernel
theorem dc_method_5_47 : decode method_5_code 47 = .ok (.iload_n 0, 1) := by decide +kernel
theorem dc_method_5_48 : decode method_5_code 48 = .ok (.iconst 0, 1) := by decide +kernel
theorem dc_method_5_49 : decode method_5_code 49 = .ok (.invokestatic 37, 3) := by decide +kernel
theorem dc_method_5_52 : decode method_5_code 52 = .ok (.castore, 1) := by decide +kernel
theorem dc_method_5_53 : decode method_5_code 53 = .ok (.dup, 1) := by decide +kernel
theorem dc_method_5_54 : decode method_5_code 54 = .ok (.iconst 1, 1) := by decide +kernel
theorem dc_method_5_55 : decode method_5_code 55 = .ok (.iload_n 0, 1) := by decide +kernel
theorem dc_method_5_56 : decode method_5_code 56 = .ok (.iconst 1, 1) := by decide +kernel
theorem dc_method_5_57 : decode method_5_code 57 = .ok (.invokestatic 37, 3) := by decide +kernel
theorem dc_method_5_60 : decode method_5_code 60 = .ok (.castore, 1) := by decide +kernel
theorem dc_method_5_61 : decode method_5_code 61 = .ok (.invokespecial 34, 3) := by decide +kernel
theorem dc_method_5_64 : decode method_5_code 64 = .ok (.areturn, 1) := by decide +kernel
theorem dc_method_5_65 : decode method_5_code 65 = .ok (.new 32, 3) := by decide +kernel
theorem dc_method_5_68 : decode method_5_code 68 = .ok (.dup, 1) := by decide +kernel
theorem dc_method_5_69 : decode method_5_code 69 = .ok (.iconst 3, 1) := by decide +kernel
theorem dc_method_5_70 : decode method_5_code 70 = .ok (.newarray .char, 2) := by decide +kernel
theorem dc_method_5_72 : decode method_5_code 72 = .ok (.dup, 1) := by decide +kernel
theorem dc_method_5_73 : decode method_5_code 73 = .ok (.iconst 0, 1) := by decide +kernel
theorem dc_method_5_74 : decode method_5_code 74 = .ok (.iload_n 0, 1) := by decide +kernel
theorem dc_method_5_75 : decode method_5_code 75 = .ok (.iconst 0, 1) := by decide +kernel
theorem dc_method_5_76 : decode method_5_code 76 = .ok (.invokestatic 37, 3) := by decide +kernel
theorem dc_method_5_79 : decode method_5_code 79 = .ok (.castore, 1) := by decide +kernel
theorem dc_method_5_80 : decode method_5_code 80 = .ok (.dup, 1) := by decide +kernel
theorem dc_method_5_81 : decode method_5_code 81 = .ok (.iconst 1, 1) := by decide +kernel
theorem dc_method_5_82 : decode method_5_code 82 = .ok (.iload_n 0, 1) := by decide +kernel
theorem dc_method_5_83 : decode method_5_code 83 = .ok (.iconst 1, 1) := by decide +kernel
theorem dc_method_5_84 : decode method_5_code 84 = .ok (.invokestatic 37, 3) := by decide +kernel
theorem dc_method_5_87 : decode method_5_code 87 = .ok (.castore, 1) := by decide +kernel
theorem dc_method_5_88 : decode method_5_code 88 = .ok (.dup, 1) := by decide +kernel
theorem dc_method_5_89 : decode method_5_code 89 = .ok (.iconst 2, 1) := by decide +kernel
theorem dc_method_5_90 : decode method_5_code 90 = .ok (.iload_n 0, 1) := by decide +kernel
theorem dc_method_5_91 : decode method_5_code 91 = .ok (.iconst 2, 1) := by decide +kernel
theorem dc_method_5_92 : decode method_5_code 92 = .ok (.invokestatic 37, 3) := by decide +kernel
theorem dc_method_5_95 : decode method_5_code 95 = .ok (.castore, 1) := by decide +kernel
theorem dc_method_5_96 : decode method_5_code 96 = .ok (.invokespecial 34, 3) := by decide +kernel
theorem dc_method_5_99 : decode method_5_code 99 = .ok (.areturn, 1) := by decide +kernel
theorem dc_method_3_0 : decode method_3_code 0 = .ok (.iload_n 0, 1) := by decide +kernel
theorem dc_method_3_1 : decode method_3_code 1 = .ok (.ifCond .ne 5, 3) := by decide +kernel
theorem dc_method_3_4 : decode method_3_code 4 = .ok (.aconst_null, 1) := by decide +kernel
theorem dc_method_3_5 : decode method_3_code 5 = .ok (.areturn, 1) := by decide +kernel
theorem dc_method_3_6 : decode method_3_code 6 = .ok (.iload_n 0, 1) := by decide +kernel
theorem dc_method_3_7 : decode method_3_code 7 = .ok (.iconst 1, 1) := by decide +kernel
theorem dc_method_3_8 : decode method_3_code 8 = .ok (.if_icmp .ne 6, 3) := by decide +kernel
theorem dc_method_3_11 : decode method_3_code 11 = .ok (.ldc 26, 2) := by decide +kernel
theorem dc_method_3_13 : decode method_3_code 13 = .ok (.areturn, 1) := by decide +kernel
theorem dc_method_3_14 : decode method_3_code 14 = .ok (.iload_n 1, 1) := by decide +kernel
theorem dc_method_3_15 : decode method_3_code 15 = .ok (.invokestatic 28, 3) := by decide +kernel
theorem dc_method_3_18 : decode method_3_code 18 = .ok (.areturn, 1) := by decide +kernel
theorem dc_prog_7_method_1_0 : decode prog_7_method_1_code 0 = .ok (.aload_n 0, 1) := by decide +kernel
theorem dc_prog_7_method_1_1 : decode prog_7_method_1_code 1 = .ok (.invokespecial 1, 3) := by decide +kernel
theorem dc_prog_7_method_1_4 : decode prog_7_method_1_code 4 = .ok (.aload_n 0, 1) := by decide +kernel
theorem dc_prog_7_method_1_5 : decode prog_7_method_1_code 5 = .ok (.aload_n 1, 1) := by decide +kernel
theorem dc_prog_7_method_1_6 : decode prog_7_method_1_code 6 = .ok (.putfield 7, 3) := by decide +kernel
theorem dc_prog_7_method_1_9 : decode prog_7_method_1_code 9 = .ok (.aload_n 0, 1) := by decide +kernel
theorem dc_prog_7_method_1_10 : decode prog_7_method_1_code 10 = .ok (.aload_n 2, 1) := by decide +kernel
theorem dc_prog_7_method_1_11 : decode prog_7_method_1_code 11 = .ok (.putfield 13, 3) := by decide +kernel
theorem dc_prog_7_method_1_14 : decode prog_7_method_1_code 14 = .ok (.return_, 1) := by decide +kernel
theorem dc_prog_7_method_2_0 : decode prog_7_method_2_code 0 = .ok (.aload_n 0, 1) := by decide +kernel
theorem dc_prog_7_method_2_1 : decode prog_7_method_2_code 1 = .ok (.getfield 7, 3) := by decide +kernel
theorem dc_prog_7_method_2_4 : decode prog_7_method_2_code 4 = .ok (.ifnull 26, 3) := by decide +kernel
theorem dc_prog_7_method_2_30 : decode prog_7_method_2_code 30 = .ok (.aload_n 0, 1) := by decide +kernel
theorem dc_prog_7_method_2_31 : decode prog_7_method_2_code 31 = .ok (.getfield 13, 3) := by decide +kernel
theorem dc_prog_7_method_2_34 : decode prog_7_method_2_code 34 = .ok (.ifnull 14, 3) := by decide +kernel
theorem dc_prog_7_method_2_48 : decode prog_7_method_2_code 48 = .ok (.iconst 1, 1) := by decide +kernel
theorem dc_prog_7_method_2_49 : decode prog_7_method_2_code 49 = .ok (.goto 4, 3) := by decide +kernel
theorem dc_prog_7_method_2_53 : decode prog_7_method_2_code 53 = .ok (.ireturn, 1) := by decide +kernel
theorem dc_prog_7_method_2_37 : decode prog_7_method_2_code 37 = .ok (.aload_n 0, 1) := by decide +kernel
theorem dc_prog_7_method_2_38 : decode prog_7_method_2_code 38 = .ok (.getfield 13, 3) := by decide +kernel
theorem dc_prog_7_method_2_41 : decode prog_7_method_2_code 41 = .ok (.aload_n 2, 1) := by decide +kernel
theorem dc_prog_7_method_2_42 : decode prog_7_method_2_code 42 = .ok (.invokevirtual 20, 3) := by decide +kernel
theorem dc_prog_7_method_2_45 : decode prog_7_method_2_code 45 = .ok (.ifCond .eq 7, 3) := by decide +kernel
theorem dc_prog_7_method_2_52 : decode prog_7_method_2_code 52 = .ok (.iconst 0, 1) := by decide +kernel
theorem dc_prog_7_method_2_7 : decode prog_7_method_2_code 7 = .ok (.aload_n 0, 1) := by decide +kernel
theorem dc_prog_7_method_2_8 : decode prog_7_method_2_code 8 = .ok (.getfield 7, 3) := by decide +kernel
theorem dc_prog_7_method_2_11 : decode prog_7_method_2_code 11 = .ok (.ldc 18, 2) := by decide +kernel
theorem dc_prog_7_method_2_13 : decode prog_7_method_2_code 13 = .ok (.invokevirtual 20, 3) := by decide +kernel
theorem dc_prog_7_method_2_16 : decode prog_7_method_2_code 16 = .ok (.ifCond .ne 14, 3) := by decide +kernel
theorem dc_prog_7_method_2_19 : decode prog_7_method_2_code 19 = .ok (.aload_n 0, 1) := by decide +kernel
theorem dc_prog_7_method_2_20 : decode prog_7_method_2_code 20 = .ok (.getfield 7, 3) := by decide +kernel
theorem dc_prog_7_method_2_23 : decode prog_7_method_2_code 23 = .ok (.aload_n 1, 1) := by decide +kernel
theorem dc_prog_7_method_2_24 : decode prog_7_method_2_code 24 = .ok (.invokevirtual 20, 3) := by decide +kernel
theorem dc_prog_7_method_2_27 : decode prog_7_method_2_code 27 = .ok (.ifCond .eq 25, 3) := by decide +kernel
theorem dc_method_7_0 : decode method_7_code 0 = .ok (.iload_n 0, 1) := by decide +kernel
theorem dc_method_7_1 : decode method_7_code 1 = .ok (.iconst 3, 1) := by decide +kernel
theorem dc_method_7_2 : decode method_7_code 2 = .ok (.iand, 1) := by decide +kernel
theorem dc_method_7_3 : decode method_7_code 3 = .ok (.istore_n 2, 1) := by decide +kernel
theorem dc_method_7_4 : decode method_7_code 4 = .ok (.iload_n 1, 1) := by decide +kernel
theorem dc_method_7_5 : decode method_7_code 5 = .ok (.iconst 3, 1) := by decide +kernel
theorem dc_method_7_6 : decode method_7_code 6 = .ok (.iand, 1) := by decide +kernel
theorem dc_method_7_7 : decode method_7_code 7 = .ok (.istore_n 3, 1) := by decide +kernel
theorem dc_method_7_8 : decode method_7_code 8 = .ok (.iload_n 2, 1) := by decide +kernel
theorem dc_method_7_9 : decode method_7_code 9 = .ok (.iload_n 3, 1) := by decide +kernel
theorem dc_method_7_10 : decode method_7_code 10 = .ok (.if_icmp .eq 5, 3) := by decide +kernel
theorem dc_method_7_15 : decode method_7_code 15 = .ok (.iload_n 2, 1) := by decide +kernel
theorem dc_method_7_16 : decode method_7_code 16 = .ok (.iconst 1, 1) := by decide +kernel
theorem dc_method_7_17 : decode method_7_code 17 = .ok (.if_icmp .lt 16, 3) := by decide +kernel
theorem dc_method_7_33 : decode method_7_code 33 = .ok (.iload_n 2, 1) := by decide +kernel
theorem dc_method_7_34 : decode method_7_code 34 = .ok (.iconst 2, 1) := by decide +kernel
theorem dc_method_7_35 : decode method_7_code 35 = .ok (.if_icmp .lt 16, 3) := by decide +kernel
theorem dc_method_7_51 : decode method_7_code 51 = .ok (.iload_n 2, 1) := by decide +kernel
theorem dc_method_7_52 : decode method_7_code 52 = .ok (.iconst 3, 1) := by decide +kernel
theorem dc_method_7_53 : decode method_7_code 53 = .ok (.if_icmp .lt 16, 3) := by decide +kernel
theorem dc_method_7_69 : decode method_7_code 69 = .ok (.iconst 1, 1) := by decide +kernel
theorem dc_method_7_70 : decode method_7_code 70 = .ok (.goto 4, 3) := by decide +kernel
theorem dc_method_7_74 : decode method_7_code 74 = .ok (.ireturn, 1) := by decide +kernel
theorem dc_method_7_56 : decode method_7_code 56 = .ok (.iload_n 0, 1) := by decide +kernel
theorem dc_method_7_57 : decode method_7_code 57 = .ok (.iconst 2, 1) := by decide +kernel
theorem dc_method_7_58 : decode method_7_code 58 = .ok (.invokestatic 37, 3) := by decide +kernel
theorem dc_method_7_61 : decode method_7_code 61 = .ok (.iload_n 1, 1) := by decide +kernel
theorem dc_method_7_62 : decode method_7_code 62 = .ok (.iconst 2, 1) := by decide +kernel
theorem dc_method_7_63 : decode method_7_code 63 = .ok (.invokestatic 37, 3) := by decide +kernel
theorem dc_method_7_66 : decode method_7_code 66 = .ok (.if_icmp .ne 7, 3) := by decide +kernel
theorem dc_method_7_73 : decode method_7_code 73 = .ok (.iconst 0, 1) := by decide +kernel
theorem dc_method_7_38 : decode method_7_code 38 = .ok (.iload_n 0, 1) := by decide +kernel
theorem dc_method_7_39 : decode method_7_code 39 = .ok (.iconst 1, 1) := by decide +kernel
theorem dc_method_7_40 : decode method_7_code 40 = .ok (.invokestatic 37, 3) := by decide +kernel
theorem dc_method_7_43 : decode method_7_code 43 = .ok (.iload_n 1, 1) := by decide +kernel
theorem dc_method_7_44 : decode method_7_code 44 = .ok (.iconst 1, 1) := by decide +kernel
theorem dc_method_7_45 : decode method_7_code 45 = .ok (.invokestatic 37, 3) := by decide +kernel
theorem dc_method_7_48 : decode method_7_code 48 = .ok (.if_icmp .ne 25, 3) := by decide +kernel
theorem dc_method_7_20 : decode method_7_code 20 = .ok (.iload_n 0, 1) := by decide +kernel
theorem dc_method_7_21 : decode method_7_code 21 = .ok (.iconst 0, 1) := by decide +kernel
theorem dc_method_7_22 : decode method_7_code 22 = .ok (.invokestatic 37, 3) := by decide +kernel
theorem dc_method_7_25 : decode method_7_code 25 = .ok (.iload_n 1, 1) := by decide +kernel
theorem dc_method_7_26 : decode method_7_code 26 = .ok (.iconst 0, 1) := by decide +kernel
theorem dc_method_7_27 : decode method_7_code 27 = .ok (.invokestatic 37, 3) := by decide +kernel
theorem dc_method_7_30 : decode method_7_code 30 = .ok (.if_icmp .ne 43, 3) := by decide +kernel
theorem dc_method_7_13 : decode method_7_code 13 = .ok (.iconst 0, 1) := by decide +kernel
theorem dc_method_7_14 : decode method_7_code 14 = .ok (.ireturn, 1) := by decide +kernel
theorem dc_method_6_0 : decode method_6_code 0 = .ok (.iload_n 2, 1) := by decide +kernel
theorem dc_method_6_1 : decode method_6_code 1 = .ok (.ifCond .ne 5, 3) := by decide +kernel
theorem dc_method_6_4 : decode method_6_code 4 = .ok (.iconst 0, 1) := by decide +kernel
theorem dc_method_6_5 : decode method_6_code 5 = .ok (.ireturn, 1) := by decide +kernel
theorem dc_method_6_6 : decode method_6_code 6 = .ok (.iload_n 0, 1) := by decide +kernel
theorem dc_method_6_7 : decode method_6_code 7 = .ok (.iconst 1, 1) := by decide +kernel
theorem dc_method_6_8 : decode method_6_code 8 = .ok (.if_icmp .eq 8, 3) := by decide +kernel
theorem dc_method_6_16 : decode method_6_code 16 = .ok (.iload_n 0, 1) := by decide +kernel
theorem dc_method_6_17 : decode method_6_code 17 = .ok (.iload_n 2, 1) := by decide +kernel
theorem dc_method_6_18 : decode method_6_code 18 = .ok (.if_icmp .ne 7, 3) := by decide +kernel
theorem dc_method_6_21 : decode method_6_code 21 = .ok (.iconst 1, 1) := by decide +kernel
theorem dc_method_6_22 : decode method_6_code 22 = .ok (.goto 4, 3) := by decide +kernel
theorem dc_method_6_26 : decode method_6_code 26 = .ok (.ireturn, 1) := by decide +kernel
theorem dc_method_6_25 : decode method_6_code 25 = .ok (.iconst 0, 1) := by decide +kernel
theorem dc_method_6_11 : decode method_6_code 11 = .ok (.iload_n 2, 1) := by decide +kernel
theorem dc_method_6_12 : decode method_6_code 12 = .ok (.iconst 1, 1) := by decide +kernel
theorem dc_method_6_13 : decode method_6_code 13 = .ok (.if_icmp .ne 14, 3) := by decide +kernel
theorem dc_method_6_27 : decode method_6_code 27 = .ok (.iload_n 1, 1) := by decide +kernel
theorem dc_method_6_28 : decode method_6_code 28 = .ok (.iload_n 3, 1) := by decide +kernel
theorem dc_method_6_29 : decode method_6_code 29 = .ok (.invokestatic 45, 3) := by decide +kernel
theorem dc_method_6_32 : decode method_6_code 32 = .ok (.ireturn, 1) := by decide +kernel
theorem pd_0 : parseMethodDescriptor "([CIILjava/lang/Void;)V" = some ⟨[(.array .char), .int, .int, (.object "java/lang/Void")], none⟩ := by decide +kernel
theorem pd_1 : parseMethodDescriptor "(C)Z" = some ⟨[.char], some .boolean⟩ := by decide +kernel
theorem pd_2 : parseMethodDescriptor "(C)[B" = some ⟨[.char], some (.array .byte)⟩ := by decide +kernel
theorem pd_3 : parseMethodDescriptor "([BB)V" = some ⟨[(.array .byte), .byte], none⟩ := by decide +kernel
theorem pd_4 : parseMethodDescriptor "([C)V" = some ⟨[(.array .char)], none⟩ := by decide +kernel
theorem pd_5 : parseMethodDescriptor "(II)C" = some ⟨[.int, .int], some .char⟩ := by decide +kernel
theorem pd_6 : parseMethodDescriptor "(C)Ljava/lang/String;" = some ⟨[.char], some (.object "java/lang/String")⟩ := by decide +kernel
theorem pd_7 : parseMethodDescriptor "(I)Ljava/lang/String;" = some ⟨[.int], some (.object "java/lang/String")⟩ := by decide +kernel
theorem pd_8 : parseMethodDescriptor "()V" = some ⟨[], none⟩ := by decide +kernel
theorem pd_9 : parseMethodDescriptor "(Ljava/lang/Object;)Z" = some ⟨[(.object "java/lang/Object")], some .boolean⟩ := by decide +kernel
theorem pd_10 : parseMethodDescriptor "(II)Z" = some ⟨[.int, .int], some .boolean⟩ := by decide +kernel
theorem pd_11 : parseMethodDescriptor "(II)Ljava/lang/String;" = some ⟨[.int, .int], some (.object "java/lang/String")⟩ := by decide +kernel
theorem pd_12 : parseMethodDescriptor "(Ljava/lang/String;Ljava/lang/String;)V" = some ⟨[(.object "java/lang/String"), (.object "java/lang/String")], none⟩ := by decide +kernel
theorem pd_13 : parseMethodDescriptor "(Ljava/lang/String;Ljava/lang/String;)Z" = some ⟨[(.object "java/lang/String"), (.object "java/lang/String")], some .boolean⟩ := by decide +kernel
theorem pd_14 : parseMethodDescriptor "(IIII)Z" = some ⟨[.int, .int, .int, .int], some .boolean⟩ := by decide +kernel
theorem pn_0 : plainFor (⟨"java/lang/Record", "<init>", "()V"⟩ : MethodName) = true := plainFor_of_name (by first | (simp [plainName, overriddenIn]; done) | decide +kernel)
theorem pn_1 : plainFor (⟨"java/lang/String", "<init>", "([CIILjava/lang/Void;)V"⟩ : MethodName) = true := plainFor_of_name (by first | (simp [plainName, overriddenIn]; done) | decide +kernel)
theorem pn_2 : plainFor (⟨"java/lang/String", "<init>", "([C)V"⟩ : MethodName) = true := plainFor_of_name (by first | (simp [plainName, overriddenIn]; done) | decide +kernel)
theorem pn_3 : plainFor (⟨"java/lang/StringLatin1", "canEncode", "(C)Z"⟩ : MethodName) = true := plainFor_of_name (by first | (simp [plainName, overriddenIn]; done) | decide +kernel)
theorem pn_4 : plainFor (⟨"java/lang/StringLatin1", "toBytes", "(C)[B"⟩ : MethodName) = true := plainFor_of_name (by first | (simp [plainName, overriddenIn]; done) | decide +kernel)
theorem pn_5 : plainFor (⟨"java/lang/String", "<init>", "([BB)V"⟩ : MethodName) = true := plainFor_of_name (by first | (simp [plainName, overriddenIn]; done) | decide +kernel)
theorem pn_6 : plainFor (⟨"java/lang/String", "valueOf", "(C)Ljava/lang/String;"⟩ : MethodName) = true := plainFor_of_name (by first | (simp [plainName, overriddenIn]; done) | decide +kernel)
theorem pn_7 : plainFor (⟨"java/lang/String", "equals", "(Ljava/lang/Object;)Z"⟩ : MethodName) = true := plainFor_of_name (by first | (simp [plainName, overriddenIn]; done) | decide +kernel)
theorem pn_8 : plainFor (⟨"com/example/fedweave/fedweave/NameIdPolicyAllowsPinLaw", "ch", "(II)C"⟩ : MethodName) = true := plainFor_of_name (by first | (simp [plainName, overriddenIn]; done) | decide +kernel)
theorem pn_9 : plainFor (⟨"com/example/fedweave/fedweave/NameIdPolicyAllowsPinLaw", "drawn", "(I)Ljava/lang/String;"⟩ : MethodName) = true := plainFor_of_name (by first | (simp [plainName, overriddenIn]; done) | decide +kernel)
theorem pn_10 : plainFor (⟨"com/example/fedweave/fedweave/NameIdPolicyAllowsPinLaw", "make", "(II)Ljava/lang/String;"⟩ : MethodName) = true := plainFor_of_name (by first | (simp [plainName, overriddenIn]; done) | decide +kernel)
theorem pn_11 : plainFor (⟨"com/example/fedweave/fedweave/AuthnRequest$NameIdPolicy", "<init>", "(Ljava/lang/String;Ljava/lang/String;)V"⟩ : MethodName) = true := plainFor_of_name (by first | (simp [plainName, overriddenIn]; done) | decide +kernel)
theorem pn_12 : plainFor (⟨"com/example/fedweave/fedweave/AuthnRequest$NameIdPolicy", "allows", "(Ljava/lang/String;Ljava/lang/String;)Z"⟩ : MethodName) = true := plainFor_of_name (by first | (simp [plainName, overriddenIn]; done) | decide +kernel)
theorem pn_13 : plainFor (⟨"com/example/fedweave/fedweave/NameIdPolicyAllowsPinLaw", "drawnEq", "(II)Z"⟩ : MethodName) = true := plainFor_of_name (by first | (simp [plainName, overriddenIn]; done) | decide +kernel)
theorem pn_14 : plainFor (⟨"com/example/fedweave/fedweave/NameIdPolicyAllowsPinLaw", "eq", "(IIII)Z"⟩ : MethodName) = true := plainFor_of_name (by first | (simp [plainName, overriddenIn]; done) | decide +kernel)
theorem pn_15 : plainFor x = true := plainFor_of_name (by first | (simp [plainName, overriddenIn]; done) | decide +kernel)
theorem ef_0 (x0 : Addr) (m : MethodId) : entryFrame m #[(.ref x0)] 1 = mkF m 0 #[.val (.ref x0)] [] := by first | (simp [entryFrame, mkF, argsToLocals, Value.category]; done) | rfl
theorem ef_1 (x0 : Addr) (x1 : Addr) (x2 : Int32) (x3 : Int32) (m : MethodId) : entryFrame m #[(.ref x0), (.ref x1), (.int x2), (.int x3), .null] 6 = mkF m 0 #[.val (.ref x0), .val (.ref x1), .val (.int x2), .val (.int x3), .val .null, .unset] [] := by first | (simp [entryFrame, mkF, argsToLocals, Value.category]; done) | rfl
theorem ef_2 (x0 : Addr) (x1 : Addr) (m : MethodId) : entryFrame m #[(.ref x0), (.ref x1)] 2 = mkF m 0 #[.val (.ref x0), .val (.ref x1)] [] := by first | (simp [entryFrame, mkF, argsToLocals, Value.category]; done) | rfl
theorem ef_3 (x0 : Int32) (m : MethodId) : entryFrame m #[(.int x0)] 1 = mkF m 0 #[.val (.int x0)] [] := by first | (simp [entryFrame, mkF, argsToLocals, Value.category]; done) | rfl
theorem ef_4 (x0 : Addr) (x1 : Addr) (x2 : Int32) (m : MethodId) : entryFrame m #[(.ref x0), (.ref x1), (.int x2)] 3 = mkF m 0 #[.val (.ref x0), .val (.ref x1), .val (.int x2)] [] := by first | (simp [entryFrame, mkF, argsToLocals, Value.category]; done) | rfl
theorem ef_5 (x0 : Addr) (m : MethodId) : entryFrame m #[(.ref x0), .null] 3 = mkF m 0 #[.val (.ref x0), .val .null, .unset] [] := by first | (simp [entryFrame, mkF, argsToLocals, Value.category]; done) | rfl
theorem ef_6 (x0 : Int32) (x1 : Int32) (m : MethodId) : entryFrame m #[(.int x0), (.int x1)] 2 = mkF m 0 #[.val (.int x0), .val (.int x1)] [] := by first | (simp [entryFrame, mkF, argsToLocals, Value.category]; done) | rfl
theorem ef_7 (x0 : Int32) (m : MethodId) : entryFrame m #[(.int x0)] 2 = mkF m 0 #[.val (.int x0), .unset] [] := by first | (simp [entryFrame, mkF, argsToLocals, Value.category]; done) | rfl
theorem ef_8 (x0 : Addr) (x1 : Value) (q1 : x1.isRef = true) (x2 : Value) (q2 : x2.isRef = true) (m : MethodId) : entryFrame m #[(.ref x0), x1, x2] 3 = mkF m 0 #[.val (.ref x0), .val x1, .val x2] [] := by
  rcases ref_cases q1 with rfl | ⟨_, rfl⟩ <;>
  rcases ref_cases q2 with rfl | ⟨_, rfl⟩ <;> first | (simp [entryFrame, mkF, argsToLocals, Value.category]; done) | rfl
theorem ef_9 (x0 : Int32) (x1 : Int32) (m : MethodId) : entryFrame m #[(.int x0), (.int x1)] 4 = mkF m 0 #[.val (.int x0), .val (.int x1), .unset, .unset] [] := by first | (simp [entryFrame, mkF, argsToLocals, Value.category]; done) | rfl
theorem ef_10 (x0 : Int32) (x1 : Int32) (x2 : Int32) (x3 : Int32) (m : MethodId) : entryFrame m #[(.int x0), (.int x1), (.int x2), (.int x3)] 4 = mkF m 0 #[.val (.int x0), .val (.int x1), .val (.int x2), .val (.int x3)] [] := by first | (simp [entryFrame, mkF, argsToLocals, Value.category]; done) | rfl
theorem ef_11 (x0 : Int32) (x1 : Int32) (x2 : Int32) (x3 : Int32) (x4 : Int32) (m : MethodId) : entryFrame m #[(.int x0), (.int x1), (.int x2), (.int x3), (.int x4)] maxLocals = mkF m 0 #[.val (.int x0), .val (.int x1), .val (.int x2), .val (.int x3), .val (.int x4), .unset, .unset, .unset, .unset, .unset, .unset, .unset, .unset, .unset, .unset] [] := by first | (simp [entryFrame, mkF, argsToLocals, Value.category, maxLocals]; done) | rfl
def EL : List (String × Nat) := consts_1
theorem ewEL {Z : State} {a0 : Array Value} (hw : ∀ d ∈ tables_1, d.before a0 Z = true) : EW Z a0 EL := (EW.cons (tw50 hw) (by decide) (EW.cons (tw65 hw) (by decide) (EW.cons (tw42 hw) (by decide) EW.nil)))
theorem wSA {Z : State} {a0 : Array Value} (hw : ∀ d ∈ tables_1, d.before a0 Z = true) : ∀ a ∈ Bundle.stringAtoms, a.before a0 Z = true := fun d hd => hw d ((by decide +kernel : ∀ d ∈ Bundle.stringAtoms, d ∈ tables_1) d hd)
theorem wNew {Z : State} {a0 : Array Value} (hw : ∀ d ∈ tables_1, d.before a0 Z = true) : ∀ d ∈ StrChars.Road.words, d.before a0 Z = true := fun d hd => hw d ((by decide +kernel : ∀ d ∈ StrChars.Road.words, d ∈ tables_1) d hd)
theorem wEq {Z : State} {a0 : Array Value} (hw : ∀ d ∈ tables_1, d.before a0 Z = true) : ∀ d ∈ StrChars.Road.wordsEq, d.before a0 Z = true := fun d hd => hw d ((by decide +kernel : ∀ d ∈ StrChars.Road.wordsEq, d ∈ tables_1) d hd)
/-- the plain law: what is drawn, and when two are equal -/
def own_urn : List Int32 := [(117 : Int32), (114 : Int32), (110 : Int32), (58 : Int32), (111 : Int32), (97 : Int32), (115 : Int32), (105 : Int32), (115 : Int32), (58 : Int32), (110 : Int32), (97 : Int32), (109 : Int32), (101 : Int32), (115 : Int32), (58 : Int32), (116 : Int32), (99 : Int32), (58 : Int32), (83 : Int32), (65 : Int32), (77 : Int32), (76 : Int32), (58 : Int32), (49 : Int32), (46 : Int32), (49 : Int32), (58 : Int32), (110 : Int32), (97 : Int32), (109 : Int32), (101 : Int32), (105 : Int32), (100 : Int32), (45 : Int32), (102 : Int32), (111 : Int32), (114 : Int32), (109 : Int32), (97 : Int32), (116 : Int32), (58 : Int32), (117 : Int32), (110 : Int32), (115 : Int32), (112 : Int32), (101 : Int32), (99 : Int32), (105 : Int32), (102 : Int32), (105 : Int32), (101 : Int32), (100 : Int32)]
def own_ch (p i : Int32) : Int32 := (XT.ushr p ((2 : Int32) + ((8 : Int32) * i))) &&& (255 : Int32)
def own_dl (p : Int32) : List Int32 := if p &&& 3 = 0 then [] else if p &&& 3 = 1 then [own_ch p 0] else if p &&& 3 = 2 then [own_ch p 0, own_ch p 1] else [own_ch p 0, own_ch p 1, own_ch p 2]
def own_mk (k p : Int32) : Option (List Int32) := if k = 0 then none else if k = 1 then some own_urn else some (own_dl p)
theorem own_lat (p i : Int32) : Own.Lat (own_ch p i) := Own.lat_mask _
theorem own_nar (p i : Int32) : nar .char (own_ch p i) = own_ch p i := Own.nar_mask _
theorem own_dl0 {p : Int32} (h : p &&& 3 = 0) : own_dl p = [] := by simp [own_dl, h]
theorem own_dl1 {p : Int32} (h0 : ¬ p &&& 3 = 0) (h : p &&& 3 = 1) : own_dl p = [own_ch p 0] := by unfold own_dl; rw [if_neg h0, if_pos h]
theorem own_dl2 {p : Int32} (h0 : ¬ p &&& 3 = 0) (h1 : ¬ p &&& 3 = 1) (h : p &&& 3 = 2) : own_dl p = [own_ch p 0, own_ch p 1] := by unfold own_dl; rw [if_neg h0, if_neg h1, if_pos h]
theorem own_dl3 {p : Int32} (h0 : ¬ p &&& 3 = 0) (h1 : ¬ p &&& 3 = 1) (h : ¬ p &&& 3 = 2) : own_dl p = [own_ch p 0, own_ch p 1, own_ch p 2] := by unfold own_dl; rw [if_neg h0, if_neg h1, if_neg h]
theorem own_short (p : Int32) : (own_dl p).length ≤ 3 := by
  by_cases h0 : p &&& 3 = 0
  · rw [own_dl0 h0]; decide
  · by_cases h1 : p &&& 3 = 1
    · rw [own_dl1 h0 h1]; exact Nat.le_of_ble_eq_true rfl
    · by_cases h2 : p &&& 3 = 2
      · rw [own_dl2 h0 h1 h2]; exact Nat.le_of_ble_eq_true rfl
      · rw [own_dl3 h0 h1 h2]; exact Nat.le_of_ble_eq_true rfl
theorem own_dl_urn (p : Int32) : own_dl p ≠ own_urn := fun q => by
  have h := own_short p
  rw [q] at h
  exact absurd h (by decide)
theorem own_mk0 {k p : Int32} (h : k = 0) : own_mk k p = none := by simp [own_mk, h]
theorem own_mk1 {k p : Int32} (h : k = 1) : own_mk k p = some own_urn := by subst h; rfl
theorem own_mk2 {k p : Int32} (h0 : ¬ k = 0) (h1 : ¬ k = 1) : own_mk k p = some (own_dl p) := by unfold own_mk; rw [if_neg h0, if_neg h1]
theorem own_len {p q : Int32} (h : own_dl p = own_dl q) : p &&& 3 = q &&& 3 := by
  have e : ∀ r : Int32, (own_dl r).length = (r &&& 3).toNatClampNeg := fun r => by
    have m := c_mask r 3 2 (by decide) (by decide)
    have hr : r &&& 3 = 0 ∨ r &&& 3 = 1 ∨ r &&& 3 = 2 ∨ r &&& 3 = 3 := by
      have a0 : (0 : Int32).toInt = 0 := by decide
      have a1 : (1 : Int32).toInt = 1 := by decide
      have a2 : (2 : Int32).toInt = 2 := by decide
      have a3 : (3 : Int32).toInt = 3 := by decide
      simp only [← Int32.toInt_inj, m, a0, a1, a2, a3]
      omega
    rcases hr with h | h | h | h
    · rw [own_dl0 h, h]; rfl
    · rw [own_dl1 (by rw [h]; decide) h, h]; rfl
    · rw [own_dl2 (by rw [h]; decide) (by rw [h]; decide) h, h]; rfl
    · rw [own_dl3 (by rw [h]; decide) (by rw [h]; decide) (by rw [h]; decide), h]; rfl
  have n := congrArg List.length h
  rw [e, e] at n
  have b : ∀ r : Int32, 0 ≤ (r &&& 3).toInt := fun r => (c_and r 3 (by decide)).1
  have bp := b p; have bq := b q
  apply Int32.toInt_inj.mp
  have np : ((p &&& 3).toNatClampNeg : Int) = (p &&& 3).toInt := by simp only [Int32.toNatClampNeg]; omega
  have nq : ((q &&& 3).toNatClampNeg : Int) = (q &&& 3).toInt := by simp only [Int32.toNatClampNeg]; omega
  omega
/-- what 'allows' says -/
def own_A (f s i j : Option (List Int32)) : Prop := (f = none ∨ f = some own_urn ∨ f = i) ∧ (s = none ∨ s = j)
theorem own_notF {k p : Int32} {i : Option (List Int32)} (h0 : ¬ k = 0) (h1 : ¬ k = 1) (h : ¬ own_mk k p = i) : ¬ (own_mk k p = none ∨ own_mk k p = some own_urn ∨ own_mk k p = i) := fun q => by
  rcases q with q | q | q
  · rw [own_mk2 h0 h1] at q; cases q
  · rw [own_mk2 h0 h1] at q; exact own_dl_urn p (Option.some.inj q)
  · exact h q
theorem own_notS {k p : Int32} {j : Option (List Int32)} (h0 : ¬ k = 0) (h : ¬ own_mk k p = j) : ¬ (own_mk k p = none ∨ own_mk k p = j) := fun q => by
  rcases q with q | q
  · unfold own_mk at q; rw [if_neg h0] at q; split at q <;> cases q
  · exact h q
set_option maxRecDepth 65536 in
set_option maxHeartbeats 40000000 in
theorem rm_record {l : Launch} {Z : State} {a0 : Array Value} (hw : ∀ d ∈ tables_1, d.before a0 Z = true) (a : Addr) (h0 : Heap) (hE : Ext Z.heap h0)  :
    Own.Ctr false l Z a0 EL (⟨"java/lang/Record", "<init>", "()V"⟩ : MethodName) jdk_30_method_1_code 1 (Option.none : Option Jvm.ClassFile.FieldType) ({ frames := 1, cells := 0, slots := 0, locals := 12 } : Room) #[(.ref a)] h0 [] (fun v h => v = none) := by
  refine Own.Ctr.of pn_0 (ef_0 a) hE (ewEL hw) ?_
  intro p e s m below meth c T0 X0 hsafe
  refine Own.s_aloadN X0 dc_jdk_30_method_1_0 rfl rfl rfl ?_
  refine Own.s_initO X0 dc_jdk_30_method_1_1 (tw15 hw) (tw16 hw) (tw17 hw) 0 (Nat.le_of_eq rfl) (by decide) (by decide) rfl rfl ?_
  intro T1 X1
  exact Own.r_void X1 rfl dc_jdk_30_method_1_4 (by decide) (by decide) (rfl)
set_option maxRecDepth 65536 in
set_option maxHeartbeats 40000000 in
theorem rm_str0v {l : Launch} {Z : State} {a0 : Array Value} (hw : ∀ d ∈ tables_1, d.before a0 Z = true) (a b : Addr) (kb : ClassId) (h0 : Heap) (hE : Ext Z.heap h0) (ga : Z.heap.size ≤ a) (E : Exa Z h0 a "java/lang/String") (Fv : Fld Z h0 a "java/lang/String" "value" "[B" .null) (Fc : Fld Z h0 a "java/lang/String" "coder" "B" (.int 0)) (A : Arv Z h0 b kb .char (0 : Int32) [] (.int (0 : Int32))) :
    Own.Ctr true l Z a0 EL (⟨"java/lang/String", "<init>", "([CIILjava/lang/Void;)V"⟩ : MethodName) jdk_42_method_149_code 6 (Option.none : Option Jvm.ClassFile.FieldType) ({ frames := 1, cells := 4, slots := 8, locals := 12 } : Room) #[(.ref a), (.ref b), (.int (0 : Int32)), (.int (0 : Int32)), .null] h0 [a] (fun v h => v = none ∧ Own.Str Z h a []) := by
  refine Own.Ctr.of pn_1 (ef_1 a b (0 : Int32) (0 : Int32)) hE (ewEL hw) ?_
  intro p e s m below meth c T0 X0 hsafe
  have O0 : Own.Ok true Z EL h0 [a] s.vm h0 a := ⟨E.lt, ga, Or.inl (List.mem_singleton.mpr rfl), fun q => hsafe q _ (List.mem_singleton.mpr rfl)⟩
  refine Own.s_aloadN X0 dc_jdk_42_method_149_0 rfl rfl rfl ?_
  refine Own.s_initO X0 dc_jdk_42_method_149_1 (tw41 hw) (tw16 hw) (tw17 hw) 0 (Nat.le_of_eq rfl) (by decide) (by decide) rfl rfl ?_
  intro T1 X1
  refine Own.s_iloadN X1 dc_jdk_42_method_149_4 rfl rfl ?_
  refine Own.s_ifF X1 dc_jdk_42_method_149_5 ((if0 _ _).trans (teq (show (0 : Int32) = (0 : Int32) by decide)).2) rfl ?_
  refine Own.s_aloadN X1 dc_jdk_42_method_149_8 rfl rfl rfl ?_
  refine Own.s_ldcStr rfl X1 dc_jdk_42_method_149_9 (tw42 hw) (wSA hw) (by decide) (vs := []) (z := (0 : Int32)) ⟨by decide, by decide⟩ (by decide) (by decide) 0 (by decide) (by decide) (by decide) (by decide) rfl ?_
  intro a2 b2 k2 vm2 T2 h2 X2 V2 E2 C2 U2 A2
  have S2 : Own.Str Z h2 a2 [] := Own.Str.mk (by decide) (by decide) E2 C2 U2 A2
  refine Own.s_getfield X2 dc_jdk_42_method_149_11 (tw48 hw) U2 rfl ?_
  intro T3 X3
  have ex5 : Ext h0 h2 := Own.extK (Own.Ext.rfl' h0) V2.1 all0
  have F_6 := Fld.ext ex5 Fv
  have E_7 := Exa.ext ex5 E
  have O8 := (O0.ev V2)
  refine Own.s_putfield X3 dc_jdk_42_method_149_14 (tw48 hw) F_6 E_7 (Or.inr ⟨(tw44 hw), rfl, rfl⟩) (tw31 hw) (ty := (.array .byte)) (by decide) rfl rfl O8 rfl ?_
  intro T4 h4 X4 V4 W4
  have F4 := Fld.same W4 F_6
  refine Own.s_aloadN X4 dc_jdk_42_method_149_17 rfl rfl rfl ?_
  refine Own.s_ldcStr rfl X4 dc_jdk_42_method_149_18 (tw42 hw) (wSA hw) (by decide) (vs := []) (z := (0 : Int32)) ⟨by decide, by decide⟩ (by decide) (by decide) 0 (by decide) (by decide) (by decide) (by decide) rfl ?_
  intro a9 b9 k9 vm9 T9 h9 X9 V9 E9 C9 U9 A9
  have S9 : Own.Str Z h9 a9 [] := Own.Str.mk (by decide) (by decide) E9 C9 U9 A9
  refine Own.s_getfield X9 dc_jdk_42_method_149_20 (tw49 hw) C9 rfl ?_
  intro T10 X10
  have F_12 := (Fld.ext (Own.extN V9.1) (Fld.other W4 (Fld.ext (Own.extN V2.1) Fc) (Or.inr (slot_ne (Or.inr (tw45 hw)) (Or.inr (tw44 hw)) (by decide) (t := .byte) (t' := (.array .byte)) (by decide) (by decide)))))
  have E_13 := (Exa.keep (Exa.keep E_7 V4.1) V9.1)
  have O14 := ((O8.ev V4).ev V9)
  refine Own.s_putfieldN X10 dc_jdk_42_method_149_23 (tw49 hw) F_12 E_13 (Or.inr ⟨(tw45 hw), rfl, rfl⟩) (tw31 hw) (ty := .byte) (v' := (.int (0 : Int32))) (by decide) (by decide) (by decide) O14 rfl ?_
  intro T11 h11 X11 V11 W11
  have F11 := Fld.same W11 F_12
  have E_15 := (Exa.keep E_13 V11.1)
  have F_16 := (Fld.other W11 (Fld.ext (Own.extN V9.1) F4) (Or.inr (slot_ne (Or.inr (tw44 hw)) (Or.inr (tw45 hw)) (by decide) (t := (.array .byte)) (t' := .byte) (by decide) (by decide))))
  have A_17 := (Arv.keep (Arv.ext (Arv.keep A2 V4.1 (ninS (Ne.symm (Exa.neArv E_7 A2 (tw31 hw))) nin0)) (Own.extN V9.1)) V11.1 (ninS (Ne.symm (Exa.neArv E_13 (Arv.ext (Arv.keep A2 V4.1 (ninS (Ne.symm (Exa.neArv E_7 A2 (tw31 hw))) nin0)) (Own.extN V9.1)) (tw31 hw))) nin0))
  exact Own.r_void X11 rfl dc_jdk_42_method_149_26 (by decide) (by decide) (⟨rfl, Own.Str.mk (cs := []) ⟨(fun _ q => nomatch q), rfl⟩ ⟨by decide, by decide⟩ E_15 F11 F_16 A_17⟩)
set_option maxRecDepth 65536 in
set_option maxHeartbeats 40000000 in
theorem rm_str0 {l : Launch} {Z : State} {a0 : Array Value} (hw : ∀ d ∈ tables_1, d.before a0 Z = true) (a b : Addr) (kb : ClassId) (h0 : Heap) (hE : Ext Z.heap h0) (ga : Z.heap.size ≤ a) (E : Exa Z h0 a "java/lang/String") (Fv : Fld Z h0 a "java/lang/String" "value" "[B" .null) (Fc : Fld Z h0 a "java/lang/String" "coder" "B" (.int 0)) (A : Arv Z h0 b kb .char (0 : Int32) [] (.int (0 : Int32))) :
    Own.Ctr true l Z a0 EL (⟨"java/lang/String", "<init>", "([C)V"⟩ : MethodName) jdk_42_method_3_code 2 (Option.none : Option Jvm.ClassFile.FieldType) ({ frames := 2, cells := 4, slots := 8, locals := 29 } : Room) #[(.ref a), (.ref b)] h0 [a] (fun v h => v = none ∧ Own.Str Z h a []) := by
  refine Own.Ctr.of pn_2 (ef_2 a b) hE (ewEL hw) ?_
  intro p e s m below meth c T0 X0 hsafe
  have O0 : Own.Ok true Z EL h0 [a] s.vm h0 a := ⟨E.lt, ga, Or.inl (List.mem_singleton.mpr rfl), fun q => hsafe q _ (List.mem_singleton.mpr rfl)⟩
  refine Own.s_aloadN X0 dc_jdk_42_method_3_0 rfl rfl rfl ?_
  refine Own.s_aloadN X0 dc_jdk_42_method_3_1 rfl rfl rfl ?_
  refine Own.s_iconst X0 dc_jdk_42_method_3_2 (0 : Int32) (by decide) rfl ?_
  refine Own.s_aloadN X0 dc_jdk_42_method_3_3 rfl rfl rfl ?_
  refine Own.s_arraylength X0 dc_jdk_42_method_3_4 A rfl ?_
  refine Own.s_aconst_null X0 dc_jdk_42_method_3_5 rfl ?_
  refine Own.c_special X0 dc_jdk_42_method_3_6 rfl (tw37 hw) (tw38 hw) (tw32 hw) (tw40 hw) (by decide) a [(.ref b), (.int (0 : Int32)), (.int (0 : Int32)), .null] [] 0 (rm_str0v hw a b _ h0 X0.hE O0.2.1 E Fv Fc A) (fun _ => rfl) (Own.Ok.one O0) (lenOf pd_0 rfl) rfl (Nat.le_of_eq rfl) (by decide) (by decide) (by decide) (by decide) rfl rfl ?_
  intro v1 vm1 T1 h1 L1 X1 V1 Q1
  obtain ⟨rfl, S1⟩ := Q1
  exact Own.r_void X1 rfl dc_jdk_42_method_3_9 (by decide) (by decide) (⟨rfl, S1⟩)
set_option maxRecDepth 65536 in
set_option maxHeartbeats 40000000 in
theorem rm_canEnc {l : Launch} {Z : State} {a0 : Array Value} (hw : ∀ d ∈ tables_1, d.before a0 Z = true) (z : Int32) (hz : Own.Lat z) (h0 : Heap) (hE : Ext Z.heap h0)  :
    Own.Ctr false l Z a0 EL (⟨"java/lang/StringLatin1", "canEncode", "(C)Z"⟩ : MethodName) jdk_43_method_3_code 1 (Option.some Jvm.ClassFile.FieldType.boolean) ({ frames := 0, cells := 0, slots := 0, locals := 0 } : Room) #[(.int z)] h0 [] (fun v h => v = some (.int (1 : Int32))) := by
  refine Own.Ctr.of pn_3 (ef_3 z) hE (ewEL hw) ?_
  intro p e s m below meth c T0 X0 hsafe
  refine Own.s_iloadN X0 dc_jdk_43_method_3_0 rfl rfl ?_
  refine Own.s_sipush X0 dc_jdk_43_method_3_1 (255 : Int32) (by decide) rfl ?_
  refine Own.s_icmpF X0 dc_jdk_43_method_3_4 (flt hz.2).2.2.1 rfl ?_
  refine Own.s_iconst X0 dc_jdk_43_method_3_7 (1 : Int32) (by decide) rfl ?_
  refine Own.s_goto X0 dc_jdk_43_method_3_8 (by decide) (pc' := 12) (by decide) ?_
  exact Own.r_nar X0 rfl (Or.inl rfl) dc_jdk_43_method_3_12 (by decide) (by decide) (by decide)
set_option maxRecDepth 65536 in
set_option maxHeartbeats 40000000 in
theorem rm_toBytes {l : Launch} {Z : State} {a0 : Array Value} (hw : ∀ d ∈ tables_1, d.before a0 Z = true) (z : Int32) (h0 : Heap) (hE : Ext Z.heap h0)  :
    Own.Ctr false l Z a0 EL (⟨"java/lang/StringLatin1", "toBytes", "(C)[B"⟩ : MethodName) jdk_43_method_46_code 1 (Option.some (Jvm.ClassFile.FieldType.array Jvm.ClassFile.FieldType.byte)) ({ frames := 0, cells := 1, slots := 1, locals := 0 } : Room) #[(.int z)] h0 [] (fun v h => ∃ t kb, v = some (.ref t) ∧ h0.size ≤ t ∧ Arv Z h t kb .byte (1 : Int32) [(.int z.toInt8.toInt32.toInt8.toInt32)] (.int (0 : Int32))) := by
  refine Own.Ctr.of pn_4 (ef_3 z) hE (ewEL hw) ?_
  intro p e s m below meth c T0 X0 hsafe
  refine Own.s_iconst X0 dc_jdk_43_method_46_0 (1 : Int32) (by decide) rfl ?_
  refine Own.s_newarray X0 dc_jdk_43_method_46_1 (tw43 hw) (by decide) 1 (by decide) (by decide) (by decide) (by decide) rfl ?_
  intro b1 T1 h1 k1 X1 V1 g1 A1 O1
  have B1 : Arv Z h1 b1 k1 .byte (1 : Int32) [(.int (0 : Int32))] (.int (0 : Int32)) := A1.pad (pad_rep [] (.int (0 : Int32)) 1)
  refine Own.s_dup X1 dc_jdk_43_method_46_3 rfl rfl ?_
  refine Own.s_iconst X1 dc_jdk_43_method_46_4 (0 : Int32) (by decide) rfl ?_
  refine Own.s_iloadN X1 dc_jdk_43_method_46_5 rfl rfl ?_
  refine Own.s_i2b X1 dc_jdk_43_method_46_6 rfl ?_
  refine Own.s_bastore X1 dc_jdk_43_method_46_7 B1 ⟨by decide, by decide⟩ 0 (by decide) (Nat.le_of_ble_eq_true rfl) O1 rfl ?_
  intro T2 h2 X2 V2 A2
  have B2 : Arv Z h2 b1 k1 .byte (1 : Int32) [(.int (z.toInt8.toInt32).toInt8.toInt32)] (.int (0 : Int32)) := A2
  exact Own.r_ref X2 rfl rfl rfl dc_jdk_43_method_46_8 (by decide) (by decide) (⟨b1, k1, rfl, g1, B2⟩)
set_option maxRecDepth 65536 in
set_option maxHeartbeats 40000000 in
theorem rm_strBB {l : Launch} {Z : State} {a0 : Array Value} (hw : ∀ d ∈ tables_1, d.before a0 Z = true) (a : Addr) (t : Addr)  (h0 : Heap) (hE : Ext Z.heap h0) (ga : Z.heap.size ≤ a) (E : Exa Z h0 a "java/lang/String") (F_value : Fld Z h0 a "java/lang/String" "value" "[B" .null) (F_coder : Fld Z h0 a "java/lang/String" "coder" "B" (.int 0))  :
    Own.Ctr false l Z a0 EL (⟨"java/lang/String", "<init>", "([BB)V"⟩ : MethodName) jdk_42_method_151_code 3 (Option.none : Option Jvm.ClassFile.FieldType) ({ frames := 1, cells := 0, slots := 0, locals := 12 } : Room) #[(.ref a), (.ref t), (.int (0 : Int32))] h0 [a] (fun v h => v = none ∧ Exa Z h a "java/lang/String" ∧ Fld Z h a "java/lang/String" "value" "[B" (.ref t) ∧ Fld Z h a "java/lang/String" "coder" "B" (.int (0 : Int32))) := by
  refine Own.Ctr.of pn_5 (ef_4 a t (0 : Int32)) hE (ewEL hw) ?_
  intro p e s m below meth c T0 X0 hsafe
  have O0 : Own.Ok false Z EL h0 [a] s.vm h0 a := ⟨E.lt, ga, Or.inl (List.mem_singleton.mpr rfl), fun q => hsafe q _ (List.mem_singleton.mpr rfl)⟩
  refine Own.s_aloadN X0 dc_jdk_42_method_151_0 rfl rfl rfl ?_
  refine Own.s_initO X0 dc_jdk_42_method_151_1 (tw41 hw) (tw16 hw) (tw17 hw) 0 (Nat.le_of_eq rfl) (by decide) (by decide) rfl rfl ?_
  intro T1 X1
  refine Own.s_aloadN X1 dc_jdk_42_method_151_4 rfl rfl rfl ?_
  refine Own.s_aloadN X1 dc_jdk_42_method_151_5 rfl rfl rfl ?_
  refine Own.s_putfield X1 dc_jdk_42_method_151_6 (tw48 hw) F_value E (Or.inr ⟨(tw44 hw), rfl, rfl⟩) (tw31 hw) (ty := (.array .byte)) (by decide) rfl rfl O0 rfl ?_
  intro T2 h2 X2 V2 W2
  have F2 := Fld.same W2 F_value
  refine Own.s_aloadN X2 dc_jdk_42_method_151_9 rfl rfl rfl ?_
  refine Own.s_iloadN X2 dc_jdk_42_method_151_10 rfl rfl ?_
  have F_4 := (Fld.other W2 F_coder (Or.inr (slot_ne (Or.inr (tw45 hw)) (Or.inr (tw44 hw)) (by decide) (t := .byte) (t' := (.array .byte)) (by decide) (by decide))))
  have E_5 := (Exa.keep E V2.1)
  have O6 := (O0.ev V2)
  refine Own.s_putfieldN X2 dc_jdk_42_method_151_11 (tw49 hw) F_4 E_5 (Or.inr ⟨(tw45 hw), rfl, rfl⟩) (tw31 hw) (ty := .byte) (v' := (.int (0 : Int32))) (by decide) (by decide) (by decide) O6 rfl ?_
  intro T3 h3 X3 V3 W3
  have F3 := Fld.same W3 F_4
  have E_7 := (Exa.keep E_5 V3.1)
  have F_8 := (Fld.other W3 F2 (Or.inr (slot_ne (Or.inr (tw44 hw)) (Or.inr (tw45 hw)) (by decide) (t := (.array .byte)) (t' := .byte) (by decide) (by decide))))
  exact Own.r_void X3 rfl dc_jdk_42_method_151_14 (by decide) (by decide) (⟨rfl, E_7, F_8, F3⟩)
set_option maxRecDepth 65536 in
set_option maxHeartbeats 40000000 in
theorem rm_valueOf {l : Launch} {Z : State} {a0 : Array Value} (hw : ∀ d ∈ tables_1, d.before a0 Z = true) (z : Int32) (hz : Own.Lat z) {zc : Int32} (SC : Sta Z Z.heap "java/lang/String" "COMPACT_STRINGS" "Z" (.int zc)) (hzc : ¬ zc = 0) {fm : Value} (SF : Sta Z Z.heap "jdk/internal/util/Preconditions" "SIOOBE_FORMATTER" "Ljava/util/function/BiFunction;" fm) (hfm : fm.isRef = true) (h0 : Heap) (hE : Ext Z.heap h0)  :
    Own.Ctr false l Z a0 EL (⟨"java/lang/String", "valueOf", "(C)Ljava/lang/String;"⟩ : MethodName) jdk_42_method_139_code 1 (Option.some (Jvm.ClassFile.FieldType.object "java/lang/String")) ({ frames := 2, cells := 2, slots := 5, locals := 27 } : Room) #[(.int z)] h0 [] (fun v h => ∃ r, v = some (.ref r) ∧ h0.size ≤ r ∧ Own.Str Z h r [z]) := by
  refine Own.Ctr.of pn_6 (ef_3 z) hE (ewEL hw) ?_
  intro p e s m below meth c T0 X0 hsafe
  have SC0 := Sta.ext hE SC
  have SF0 := Sta.ext hE SF
  refine Own.s_getstatic X0 dc_jdk_42_method_139_0 (tw57 hw) SC0 rfl ?_
  intro T1 X1
  refine Own.s_ifF X1 dc_jdk_42_method_139_3 ((if0 _ _).trans (feq hzc).1) rfl ?_
  refine Own.s_iloadN X1 dc_jdk_42_method_139_6 rfl rfl ?_
  refine Own.c_static X1 dc_jdk_42_method_139_7 (tw72 hw) (tw73 hw) (tw60 hw) (tw74 hw) (by decide) [(.int z)] [] 0 (rm_canEnc hw z hz h0 X1.hE) (fun q => nomatch q) Own.Ok.nil (lenOf pd_1 rfl) rfl (Nat.le_of_eq rfl) (by decide) (by decide) (by decide) (by decide) rfl rfl ?_
  intro v2 vm2 T2 h2 L2 X2 V2 Q2
  obtain rfl := Q2
  refine Own.s_ifF X2 dc_jdk_42_method_139_10 ((if0 _ _).trans (feq (show ¬ (1 : Int32) = (0 : Int32) by decide)).1) rfl ?_
  refine Own.s_new X2 dc_jdk_42_method_139_13 (tw56 hw) (tw31 hw) (tw32 hw) (by decide) (by decide) rfl ?_
  intro b3 T3 h3 X3 V3 g3 E3 O3 D3
  have F3_value : Fld Z h3 b3 "java/lang/String" "value" "[B" (.null) := D3 (Or.inr (tw44 hw)) (ty := (.array .byte)) (by decide)
  have F3_coder : Fld Z h3 b3 "java/lang/String" "coder" "B" (.int 0) := D3 (Or.inr (tw45 hw)) (ty := .byte) (by decide)
  refine Own.s_dup X3 dc_jdk_42_method_139_16 rfl rfl ?_
  refine Own.s_iloadN X3 dc_jdk_42_method_139_17 rfl rfl ?_
  refine Own.c_static X3 dc_jdk_42_method_139_18 (tw75 hw) (tw76 hw) (tw60 hw) (tw77 hw) (by decide) [(.int z)] [(.ref b3), (.ref b3)] 2 (rm_toBytes hw z h3 X3.hE) (fun q => nomatch q) Own.Ok.nil (lenOf pd_2 rfl) rfl (Nat.le_of_eq rfl) (by decide) (by decide) (by decide) (by decide) rfl rfl ?_
  intro v4 vm4 T4 h4 L4 X4 V4 Q4
  obtain ⟨t4, k4, rfl, g4, A4⟩ := Q4
  refine Own.s_iconst X4 dc_jdk_42_method_139_21 (0 : Int32) (by decide) rfl ?_
  have ex5 : Ext h3 h4 := Own.extK (Own.Ext.rfl' h3) V4.1 all0
  have F_6 := Fld.ext ex5 F3_value
  have F_7 := Fld.ext ex5 F3_coder
  have E_8 := Exa.ext ex5 E3
  have O9 := (O3.ev V4)
  refine Own.c_special X4 dc_jdk_42_method_139_22 rfl (tw78 hw) (tw79 hw) (tw32 hw) (tw80 hw) (by decide) b3 [(.ref t4), (.int (0 : Int32))] [(.ref b3)] 1 (rm_strBB hw b3 t4  h4 X4.hE O9.2.1 E_8 F_6 F_7 ) (fun q => nomatch q) (Own.Ok.one O9) (lenOf pd_3 rfl) rfl (Nat.le_of_eq rfl) (by decide) (by decide) (by decide) (by decide) rfl rfl ?_
  intro v10 vm10 T10 h10 L10 X10 V10 Q10
  obtain ⟨rfl, E10, F10_0, F10_1⟩ := Q10
  have le11 : h0.size ≤ h2.size := V2.1.1
  have ne12 : t4 ≠ b3 := (Nat.ne_of_gt (Nat.lt_of_lt_of_le E3.lt g4))
  have A_13 := (Arv.keep A4 V10.1 (ninS ne12 nin0))
  exact Own.r_ref X10 rfl rfl rfl dc_jdk_42_method_139_25 (by decide) (by decide) (⟨b3, rfl, (Nat.le_trans le11 g3), Own.str1 hz E10 F10_1 F10_0 A_13⟩)
set_option maxRecDepth 65536 in
set_option maxHeartbeats 40000000 in
theorem rm_eqNull {l : Launch} {Z : State} {a0 : Array Value} (hw : ∀ d ∈ tables_1, d.before a0 Z = true) (a : Addr) (h0 : Heap) (hE : Ext Z.heap h0)  :
    Own.Ctr false l Z a0 EL (⟨"java/lang/String", "equals", "(Ljava/lang/Object;)Z"⟩ : MethodName) jdk_42_method_66_code 3 (Option.some Jvm.ClassFile.FieldType.boolean) ({ frames := 0, cells := 0, slots := 0, locals := 0 } : Room) #[(.ref a), .null] h0 [] (fun v h => v = some (.int (0 : Int32))) := by
  refine Own.Ctr.of pn_7 (ef_5 a) hE (ewEL hw) ?_
  intro p e s m below meth c T0 X0 hsafe
  refine Own.s_aloadN X0 dc_jdk_42_method_66_0 rfl rfl rfl ?_
  refine Own.s_aloadN X0 dc_jdk_42_method_66_1 rfl rfl rfl ?_
  refine Own.s_acmpT X0 dc_jdk_42_method_66_2 rfl rfl (XT.aa_ne_t nofun) (by decide) (pc' := 7) (by decide) ?_
  refine Own.s_aloadN X0 dc_jdk_42_method_66_7 rfl rfl rfl ?_
  refine Own.s_instNull X0 dc_jdk_42_method_66_8 rfl ?_
  refine Own.s_ifT X0 dc_jdk_42_method_66_11 ((if0 _ _).trans (teq (show (0 : Int32) = (0 : Int32) by decide)).1) (by decide) (pc' := 54) (by decide) ?_
  refine Own.s_iconst X0 dc_jdk_42_method_66_54 (0 : Int32) (by decide) rfl ?_
  exact Own.r_nar X0 rfl (Or.inl rfl) dc_jdk_42_method_66_55 (by decide) (by decide) (by decide)
set_option maxRecDepth 65536 in
set_option maxHeartbeats 40000000 in
theorem rm_ch {l : Launch} {Z : State} {a0 : Array Value} (hw : ∀ d ∈ tables_1, d.before a0 Z = true) (p0 i0 : Int32) (h0 : Heap) (hE : Ext Z.heap h0)  :
    Own.Ctr false l Z a0 EL (⟨"com/example/fedweave/fedweave/NameIdPolicyAllowsPinLaw", "ch", "(II)C"⟩ : MethodName) method_4_code 2 (Option.some Jvm.ClassFile.FieldType.char) ({ frames := 0, cells := 0, slots := 0, locals := 0 } : Room) #[(.int p0), (.int i0)] h0 [] (fun v h => v = some (.int (own_ch p0 i0))) := by
  refine Own.Ctr.of pn_8 (ef_6 p0 i0) hE (ewEL hw) ?_
  intro p e s m below meth c T0 X0 hsafe
  refine Own.s_iloadN X0 dc_method_4_0 rfl rfl ?_
  refine Own.s_iconst X0 dc_method_4_1 (2 : Int32) (by decide) rfl ?_
  refine Own.s_bipush X0 dc_method_4_2 (8 : Int32) (by decide) rfl ?_
  refine Own.s_iloadN X0 dc_method_4_4 rfl rfl ?_
  refine Own.s_imul X0 dc_method_4_5 rfl ?_
  refine Own.s_iadd X0 dc_method_4_6 rfl ?_
  refine Own.s_iushr X0 dc_method_4_7 rfl ?_
  refine Own.s_sipush X0 dc_method_4_8 (255 : Int32) (by decide) rfl ?_
  refine Own.s_iand X0 dc_method_4_11 rfl ?_
  refine Own.s_i2cM X0 dc_method_4_12 rfl ?_
  exact Own.r_nar X0 rfl (Or.inr (Or.inr (Or.inl rfl))) dc_method_4_13 (by decide) (by decide) (congrArg some (congrArg Value.int (own_nar p0 i0)))
set_option maxRecDepth 65536 in
set_option maxHeartbeats 40000000 in
theorem rm_drawn {l : Launch} {Z : State} {a0 : Array Value} (hw : ∀ d ∈ tables_1, d.before a0 Z = true) (p0 : Int32) {zc : Int32} (SC : Sta Z Z.heap "java/lang/String" "COMPACT_STRINGS" "Z" (.int zc)) (hzc : ¬ zc = 0) {fm : Value} (SF : Sta Z Z.heap "jdk/internal/util/Preconditions" "SIOOBE_FORMATTER" "Ljava/util/function/BiFunction;" fm) (hfm : fm.isRef = true) (h0 : Heap) (hE : Ext Z.heap h0)  :
    Own.Ctr true l Z a0 EL (⟨"com/example/fedweave/fedweave/NameIdPolicyAllowsPinLaw", "drawn", "(I)Ljava/lang/String;"⟩ : MethodName) method_5_code 2 (Option.some (Jvm.ClassFile.FieldType.object "java/lang/String")) ({ frames := 4, cells := 6, slots := 12, locals := 66 } : Room) #[(.int p0)] h0 [] (fun v h => ∃ r, v = some (.ref r) ∧ h0.size ≤ r ∧ Own.Str Z h r (own_dl p0)) := by
  refine Own.Ctr.of pn_9 (ef_7 p0) hE (ewEL hw) ?_
  intro p e s m below meth c T0 X0 hsafe
  have SC0 := Sta.ext hE SC
  have SF0 := Sta.ext hE SF
  refine Own.s_iloadN X0 dc_method_5_0 rfl rfl ?_
  refine Own.s_iconst X0 dc_method_5_1 (3 : Int32) (by decide) rfl ?_
  refine Own.s_iand X0 dc_method_5_2 rfl ?_
  refine Own.s_istoreN X0 dc_method_5_3 #[.val (.int p0), .val (.int (p0 &&& (3 : Int32)))] rfl rfl ?_
  refine Own.s_iloadN X0 dc_method_5_4 rfl rfl ?_
  by_cases hc5_1 : (p0 &&& (3 : Int32)) = (0 : Int32)
  · refine Own.s_ifF X0 dc_method_5_5 ((if0 _ _).trans (teq hc5_1).2) rfl ?_
    refine Own.s_new X0 dc_method_5_8 (tw30 hw) (tw31 hw) (tw32 hw) (by decide) (by decide) rfl ?_
    intro b2 T2 h2 X2 V2 g2 E2 O2 D2
    have F2_value : Fld Z h2 b2 "java/lang/String" "value" "[B" (.null) := D2 (Or.inr (tw44 hw)) (ty := (.array .byte)) (by decide)
    have F2_coder : Fld Z h2 b2 "java/lang/String" "coder" "B" (.int 0) := D2 (Or.inr (tw45 hw)) (ty := .byte) (by decide)
    refine Own.s_dup X2 dc_method_5_11 rfl rfl ?_
    refine Own.s_iconst X2 dc_method_5_12 (0 : Int32) (by decide) rfl ?_
    refine Own.s_newarray X2 dc_method_5_13 (tw33 hw) (by decide) 0 (by decide) (by decide) (by decide) (by decide) rfl ?_
    intro b3 T3 h3 k3 X3 V3 g3 A3 O3
    have ex4 : Ext h2 h3 := Own.extK (Own.Ext.rfl' h2) V3.1 all0
    have E_5 := Exa.ext ex4 E2
    have F_6 := Fld.ext ex4 F2_value
    have F_7 := Fld.ext ex4 F2_coder
    have O8 := (O2.ev V3)
    refine Own.c_special X3 dc_method_5_15 rfl (tw34 hw) (tw35 hw) (tw32 hw) (tw36 hw) (by decide) b2 [(.ref b3)] [(.ref b2)] 1 (rm_str0 hw b2 b3 _ h3 X3.hE O8.2.1 E_5 F_6 F_7 A3) (fun _ => rfl) (Own.Ok.one O8) (lenOf pd_4 rfl) rfl (Nat.le_of_eq rfl) (by decide) (by decide) (by decide) (by decide) rfl rfl ?_
    intro v9 vm9 T9 h9 L9 X9 V9 Q9
    obtain ⟨rfl, S9⟩ := Q9
    exact Own.r_ref X9 rfl rfl rfl dc_method_5_18 (by decide) (by decide) (⟨b2, rfl, g2, by rw [own_dl0 hc5_1]; exact S9⟩)
  · refine Own.s_ifT X0 dc_method_5_5 ((if0 _ _).trans (feq hc5_1).2) (by decide) (pc' := 19) (by decide) ?_
    refine Own.s_iloadN X0 dc_method_5_19 rfl rfl ?_
    refine Own.s_iconst X0 dc_method_5_20 (1 : Int32) (by decide) rfl ?_
    by_cases hc21_10 : (p0 &&& (3 : Int32)) = (1 : Int32)
    · refine Own.s_icmpF X0 dc_method_5_21 (teq hc21_10).2 rfl ?_
      refine Own.s_iloadN X0 dc_method_5_24 rfl rfl ?_
      refine Own.s_iconst X0 dc_method_5_25 (0 : Int32) (by decide) rfl ?_
      refine Own.c_static X0 dc_method_5_26 (tw66 hw) (tw67 hw) (tw5 hw) (tw68 hw) (by decide) [(.int p0), (.int (0 : Int32))] [] 0 (rm_ch hw p0 (0 : Int32) h0 X0.hE) (fun q => nomatch q) Own.Ok.nil (lenOf pd_5 rfl) rfl (Nat.le_of_eq rfl) (by decide) (by decide) (by decide) (by decide) rfl rfl ?_
      intro v11 vm11 T11 h11 L11 X11 V11 Q11
      obtain rfl := Q11
      refine Own.c_static X11 dc_method_5_29 (tw69 hw) (tw70 hw) (tw32 hw) (tw71 hw) (by decide) [(.int (own_ch p0 (0 : Int32)))] [] 0 (rm_valueOf hw (own_ch p0 (0 : Int32)) (own_lat p0 (0 : Int32)) SC hzc SF hfm h11 X11.hE) (fun q => nomatch q) Own.Ok.nil (lenOf pd_6 rfl) rfl (Nat.le_of_eq rfl) (by decide) (by decide) (by decide) (by decide) rfl rfl ?_
      intro v12 vm12 T12 h12 L12 X12 V12 Q12
      obtain ⟨r12, rfl, g12, S12⟩ := Q12
      have le13 : h0.size ≤ h11.size := V11.1.1
      exact Own.r_ref X12 rfl rfl rfl dc_method_5_32 (by decide) (by decide) (⟨r12, rfl, (Nat.le_trans le13 g12), by rw [own_dl1 hc5_1 hc21_10]; exact S12⟩)
    · refine Own.s_icmpT X0 dc_method_5_21 (feq hc21_10).2 (by decide) (pc' := 33) (by decide) ?_
      refine Own.s_iloadN X0 dc_method_5_33 rfl rfl ?_
      refine Own.s_iconst X0 dc_method_5_34 (2 : Int32) (by decide) rfl ?_
      by_cases hc35_14 : (p0 &&& (3 : Int32)) = (2 : Int32)
      · refine Own.s_icmpF X0 dc_method_5_35 (teq hc35_14).2 rfl ?_
        refine Own.s_new X0 dc_method_5_38 (tw30 hw) (tw31 hw) (tw32 hw) (by decide) (by decide) rfl ?_
        intro b15 T15 h15 X15 V15 g15 E15 O15 D15
        have F15_value : Fld Z h15 b15 "java/lang/String" "value" "[B" (.null) := D15 (Or.inr (tw44 hw)) (ty := (.array .byte)) (by decide)
        have F15_coder : Fld Z h15 b15 "java/lang/String" "coder" "B" (.int 0) := D15 (Or.inr (tw45 hw)) (ty := .byte) (by decide)
        refine Own.s_dup X15 dc_method_5_41 rfl rfl ?_
        refine Own.s_iconst X15 dc_method_5_42 (2 : Int32) (by decide) rfl ?_
        refine Own.s_newarray X15 dc_method_5_43 (tw33 hw) (by decide) 2 (by decide) (by decide) (by decide) (by decide) rfl ?_
        intro b16 T16 h16 k16 X16 V16 g16 A16 O16
        have B16 : Arv Z h16 b16 k16 .char (2 : Int32) [(.int (0 : Int32)), (.int (0 : Int32))] (.int (0 : Int32)) := A16.pad (pad_rep [] (.int (0 : Int32)) 2)
        refine Own.s_dup X16 dc_method_5_45 rfl rfl ?_
        refine Own.s_iconst X16 dc_method_5_46 (0 : Int32) (by decide) rfl ?_
        refine Own.s_iloadN X16 dc_method_5_47 rfl rfl ?_
        refine Own.s_iconst X16 dc_method_5_48 (0 : Int32) (by decide) rfl ?_
        refine Own.c_static X16 dc_method_5_49 (tw66 hw) (tw67 hw) (tw5 hw) (tw68 hw) (by decide) [(.int p0), (.int (0 : Int32))] [(.int (0 : Int32)), (.ref b16), (.ref b16), (.ref b15), (.ref b15)] 5 (rm_ch hw p0 (0 : Int32) h16 X16.hE) (fun q => nomatch q) Own.Ok.nil (lenOf pd_5 rfl) rfl (Nat.le_of_eq rfl) (by decide) (by decide) (by decide) (by decide) rfl rfl ?_
        intro v17 vm17 T17 h17 L17 X17 V17 Q17
        obtain rfl := Q17
        have ex19 : Ext h16 h17 := Own.extK (Own.Ext.rfl' h16) V17.1 all0
        have A_20 := Arv.ext B16 ex19
        have O21 := (O16.ev V17)
        refine Own.s_castoreR X17 dc_method_5_52 A_20 ⟨by decide, by decide⟩ 0 (by decide) (Nat.le_of_ble_eq_true rfl) (Own.nar_chr (own_lat p0 (0 : Int32))) O21 rfl ?_
        intro T18 h18 X18 V18 A18
        have B18 : Arv Z h18 b16 k16 .char (2 : Int32) [(.int (own_ch p0 (0 : Int32))), (.int (0 : Int32))] (.int (0 : Int32)) := A18
        refine Own.s_dup X18 dc_method_5_53 rfl rfl ?_
        refine Own.s_iconst X18 dc_method_5_54 (1 : Int32) (by decide) rfl ?_
        refine Own.s_iloadN X18 dc_method_5_55 rfl rfl ?_
        refine Own.s_iconst X18 dc_method_5_56 (1 : Int32) (by decide) rfl ?_
        refine Own.c_static X18 dc_method_5_57 (tw66 hw) (tw67 hw) (tw5 hw) (tw68 hw) (by decide) [(.int p0), (.int (1 : Int32))] [(.int (1 : Int32)), (.ref b16), (.ref b16), (.ref b15), (.ref b15)] 5 (rm_ch hw p0 (1 : Int32) h18 X18.hE) (fun q => nomatch q) Own.Ok.nil (lenOf pd_5 rfl) rfl (Nat.le_of_eq rfl) (by decide) (by decide) (by decide) (by decide) rfl rfl ?_
        intro v22 vm22 T22 h22 L22 X22 V22 Q22
        obtain rfl := Q22
        have ex24 : Ext h18 h22 := Own.extK (Own.Ext.rfl' h18) V22.1 all0
        have A_25 := Arv.ext B18 ex24
        have O26 := ((O21.ev V18).ev V22)
        refine Own.s_castoreR X22 dc_method_5_60 A_25 ⟨by decide, by decide⟩ 1 (by decide) (Nat.le_of_ble_eq_true rfl) (Own.nar_chr (own_lat p0 (1 : Int32))) O26 rfl ?_
        intro T23 h23 X23 V23 A23
        have B23 : Arv Z h23 b16 k16 .char (2 : Int32) [(.int (own_ch p0 (0 : Int32))), (.int (own_ch p0 (1 : Int32)))] (.int (0 : Int32)) := A23
        have ex27 : Ext h0 h15 := Own.extK (Own.Ext.rfl' h0) V15.1 all0
        have ex28 : Ext h0 h16 := Own.extK ex27 V16.1 all0
        have ex29 : Ext h0 h17 := Own.extK ex28 V17.1 all0
        have le30 : h0.size ≤ h15.size := V15.1.1
        have ex31 : Ext h0 h18 := Own.extK ex29 V18.1 (allS (Nat.le_trans le30 g16) all0)
        have ex32 : Ext h0 h22 := Own.extK ex31 V22.1 all0
        have ex33 : Ext h0 h23 := Own.extK ex32 V23.1 (allS (Nat.le_trans le30 g16) all0)
        have Z_34 := Sta.ext ex33 SC0
        have ex35 : Ext h15 h16 := Own.extK (Own.Ext.rfl' h15) V16.1 all0
        have ex36 : Ext h15 h17 := Own.extK ex35 V17.1 all0
        have ex37 : Ext h15 h18 := Own.extK ex36 V18.1 (allS g16 all0)
        have ex38 : Ext h15 h22 := Own.extK ex37 V22.1 all0
        have ex39 : Ext h15 h23 := Own.extK ex38 V23.1 (allS g16 all0)
        have E_40 := Exa.ext ex39 E15
        have F_41 := Fld.ext ex39 F15_value
        have F_42 := Fld.ext ex39 F15_coder
        have O43 := (((((O15.ev V16).ev V17).ev V18).ev V22).ev V23)
        have lat44 : ∀ c ∈ [(own_ch p0 (0 : Int32)), (own_ch p0 (1 : Int32))], Own.Lat c := (Own.latL (own_lat p0 (0 : Int32)) (Own.latL (own_lat p0 (1 : Int32)) Own.latN))
        refine Own.b_special X23 dc_method_5_61 rfl (tw34 hw) (tw35 hw) (tw36 hw) (by decide) b15 [(.ref b16)] [(.ref b15)] (Own.strNew (W := 1) (cs := [(own_ch p0 (0 : Int32)), (own_ch p0 (1 : Int32))]) (n := 2) X23.hZ (wNew hw) (tw31 hw) O43.2.1 X23.hE.1 E_40 F_41 F_42 B23 Z_34 hzc rfl (by decide) (by decide) (by decide) lat44 (by decide) (by decide)) (fun v h' L q => Own.strNewQ (n := 2) rfl (by decide) (by decide) lat44 q) (Own.Ok.one O43) (lenOf pd_4 rfl) rfl (Nat.le_of_eq rfl) (by decide) (by decide) rfl rfl ?_
        intro v45 vm45 T45 h45 L45 X45 V45 Q45
        obtain ⟨rfl, S45⟩ := Q45
        exact Own.r_ref X45 rfl rfl rfl dc_method_5_64 (by decide) (by decide) (⟨b15, rfl, g15, by rw [own_dl2 hc5_1 hc21_10 hc35_14]; exact S45⟩)
      · refine Own.s_icmpT X0 dc_method_5_35 (feq hc35_14).2 (by decide) (pc' := 65) (by decide) ?_
        refine Own.s_new X0 dc_method_5_65 (tw30 hw) (tw31 hw) (tw32 hw) (by decide) (by decide) rfl ?_
        intro b46 T46 h46 X46 V46 g46 E46 O46 D46
        have F46_value : Fld Z h46 b46 "java/lang/String" "value" "[B" (.null) := D46 (Or.inr (tw44 hw)) (ty := (.array .byte)) (by decide)
        have F46_coder : Fld Z h46 b46 "java/lang/String" "coder" "B" (.int 0) := D46 (Or.inr (tw45 hw)) (ty := .byte) (by decide)
        refine Own.s_dup X46 dc_method_5_68 rfl rfl ?_
        refine Own.s_iconst X46 dc_method_5_69 (3 : Int32) (by decide) rfl ?_
        refine Own.s_newarray X46 dc_method_5_70 (tw33 hw) (by decide) 3 (by decide) (by decide) (by decide) (by decide) rfl ?_
        intro b47 T47 h47 k47 X47 V47 g47 A47 O47
        have B47 : Arv Z h47 b47 k47 .char (3 : Int32) [(.int (0 : Int32)), (.int (0 : Int32)), (.int (0 : Int32))] (.int (0 : Int32)) := A47.pad (pad_rep [] (.int (0 : Int32)) 3)
        refine Own.s_dup X47 dc_method_5_72 rfl rfl ?_
        refine Own.s_iconst X47 dc_method_5_73 (0 : Int32) (by decide) rfl ?_
        refine Own.s_iloadN X47 dc_method_5_74 rfl rfl ?_
        refine Own.s_iconst X47 dc_method_5_75 (0 : Int32) (by decide) rfl ?_
        refine Own.c_static X47 dc_method_5_76 (tw66 hw) (tw67 hw) (tw5 hw) (tw68 hw) (by decide) [(.int p0), (.int (0 : Int32))] [(.int (0 : Int32)), (.ref b47), (.ref b47), (.ref b46), (.ref b46)] 5 (rm_ch hw p0 (0 : Int32) h47 X47.hE) (fun q => nomatch q) Own.Ok.nil (lenOf pd_5 rfl) rfl (Nat.le_of_eq rfl) (by decide) (by decide) (by decide) (by decide) rfl rfl ?_
        intro v48 vm48 T48 h48 L48 X48 V48 Q48
        obtain rfl := Q48
        have ex50 : Ext h47 h48 := Own.extK (Own.Ext.rfl' h47) V48.1 all0
        have A_51 := Arv.ext B47 ex50
        have O52 := (O47.ev V48)
        refine Own.s_castoreR X48 dc_method_5_79 A_51 ⟨by decide, by decide⟩ 0 (by decide) (Nat.le_of_ble_eq_true rfl) (Own.nar_chr (own_lat p0 (0 : Int32))) O52 rfl ?_
        intro T49 h49 X49 V49 A49
        have B49 : Arv Z h49 b47 k47 .char (3 : Int32) [(.int (own_ch p0 (0 : Int32))), (.int (0 : Int32)), (.int (0 : Int32))] (.int (0 : Int32)) := A49
        refine Own.s_dup X49 dc_method_5_80 rfl rfl ?_
        refine Own.s_iconst X49 dc_method_5_81 (1 : Int32) (by decide) rfl ?_
        refine Own.s_iloadN X49 dc_method_5_82 rfl rfl ?_
        refine Own.s_iconst X49 dc_method_5_83 (1 : Int32) (by decide) rfl ?_
        refine Own.c_static X49 dc_method_5_84 (tw66 hw) (tw67 hw) (tw5 hw) (tw68 hw) (by decide) [(.int p0), (.int (1 : Int32))] [(.int (1 : Int32)), (.ref b47), (.ref b47), (.ref b46), (.ref b46)] 5 (rm_ch hw p0 (1 : Int32) h49 X49.hE) (fun q => nomatch q) Own.Ok.nil (lenOf pd_5 rfl) rfl (Nat.le_of_eq rfl) (by decide) (by decide) (by decide) (by decide) rfl rfl ?_
        intro v53 vm53 T53 h53 L53 X53 V53 Q53
        obtain rfl := Q53
        have ex55 : Ext h49 h53 := Own.extK (Own.Ext.rfl' h49) V53.1 all0
        have A_56 := Arv.ext B49 ex55
        have O57 := ((O52.ev V49).ev V53)
        refine Own.s_castoreR X53 dc_method_5_87 A_56 ⟨by decide, by decide⟩ 1 (by decide) (Nat.le_of_ble_eq_true rfl) (Own.nar_chr (own_lat p0 (1 : Int32))) O57 rfl ?_
        intro T54 h54 X54 V54 A54
        have B54 : Arv Z h54 b47 k47 .char (3 : Int32) [(.int (own_ch p0 (0 : Int32))), (.int (own_ch p0 (1 : Int32))), (.int (0 : Int32))] (.int (0 : Int32)) := A54
        refine Own.s_dup X54 dc_method_5_88 rfl rfl ?_
        refine Own.s_iconst X54 dc_method_5_89 (2 : Int32) (by decide) rfl ?_
        refine Own.s_iloadN X54 dc_method_5_90 rfl rfl ?_
        refine Own.s_iconst X54 dc_method_5_91 (2 : Int32) (by decide) rfl ?_
        refine Own.c_static X54 dc_method_5_92 (tw66 hw) (tw67 hw) (tw5 hw) (tw68 hw) (by decide) [(.int p0), (.int (2 : Int32))] [(.int (2 : Int32)), (.ref b47), (.ref b47), (.ref b46), (.ref b46)] 5 (rm_ch hw p0 (2 : Int32) h54 X54.hE) (fun q => nomatch q) Own.Ok.nil (lenOf pd_5 rfl) rfl (Nat.le_of_eq rfl) (by decide) (by decide) (by decide) (by decide) rfl rfl ?_
        intro v58 vm58 T58 h58 L58 X58 V58 Q58
        obtain rfl := Q58
        have ex60 : Ext h54 h58 := Own.extK (Own.Ext.rfl' h54) V58.1 all0
        have A_61 := Arv.ext B54 ex60
        have O62 := ((O57.ev V54).ev V58)
        refine Own.s_castoreR X58 dc_method_5_95 A_61 ⟨by decide, by decide⟩ 2 (by decide) (Nat.le_of_ble_eq_true rfl) (Own.nar_chr (own_lat p0 (2 : Int32))) O62 rfl ?_
        intro T59 h59 X59 V59 A59
        have B59 : Arv Z h59 b47 k47 .char (3 : Int32) [(.int (own_ch p0 (0 : Int32))), (.int (own_ch p0 (1 : Int32))), (.int (own_ch p0 (2 : Int32)))] (.int (0 : Int32)) := A59
        have ex63 : Ext h0 h46 := Own.extK (Own.Ext.rfl' h0) V46.1 all0
        have ex64 : Ext h0 h47 := Own.extK ex63 V47.1 all0
        have ex65 : Ext h0 h48 := Own.extK ex64 V48.1 all0
        have le66 : h0.size ≤ h46.size := V46.1.1
        have ex67 : Ext h0 h49 := Own.extK ex65 V49.1 (allS (Nat.le_trans le66 g47) all0)
        have ex68 : Ext h0 h53 := Own.extK ex67 V53.1 all0
        have ex69 : Ext h0 h54 := Own.extK ex68 V54.1 (allS (Nat.le_trans le66 g47) all0)
        have ex70 : Ext h0 h58 := Own.extK ex69 V58.1 all0
        have ex71 : Ext h0 h59 := Own.extK ex70 V59.1 (allS (Nat.le_trans le66 g47) all0)
        have Z_72 := Sta.ext ex71 SC0
        have ex73 : Ext h46 h47 := Own.extK (Own.Ext.rfl' h46) V47.1 all0
        have ex74 : Ext h46 h48 := Own.extK ex73 V48.1 all0
        have ex75 : Ext h46 h49 := Own.extK ex74 V49.1 (allS g47 all0)
        have ex76 : Ext h46 h53 := Own.extK ex75 V53.1 all0
        have ex77 : Ext h46 h54 := Own.extK ex76 V54.1 (allS g47 all0)
        have ex78 : Ext h46 h58 := Own.extK ex77 V58.1 all0
        have ex79 : Ext h46 h59 := Own.extK ex78 V59.1 (allS g47 all0)
        have E_80 := Exa.ext ex79 E46
        have F_81 := Fld.ext ex79 F46_value
        have F_82 := Fld.ext ex79 F46_coder
        have O83 := (((((((O46.ev V47).ev V48).ev V49).ev V53).ev V54).ev V58).ev V59)
        have lat84 : ∀ c ∈ [(own_ch p0 (0 : Int32)), (own_ch p0 (1 : Int32)), (own_ch p0 (2 : Int32))], Own.Lat c := (Own.latL (own_lat p0 (0 : Int32)) (Own.latL (own_lat p0 (1 : Int32)) (Own.latL (own_lat p0 (2 : Int32)) Own.latN)))
        refine Own.b_special X59 dc_method_5_96 rfl (tw34 hw) (tw35 hw) (tw36 hw) (by decide) b46 [(.ref b47)] [(.ref b46)] (Own.strNew (W := 1) (cs := [(own_ch p0 (0 : Int32)), (own_ch p0 (1 : Int32)), (own_ch p0 (2 : Int32))]) (n := 3) X59.hZ (wNew hw) (tw31 hw) O83.2.1 X59.hE.1 E_80 F_81 F_82 B59 Z_72 hzc rfl (by decide) (by decide) (by decide) lat84 (by decide) (by decide)) (fun v h' L q => Own.strNewQ (n := 3) rfl (by decide) (by decide) lat84 q) (Own.Ok.one O83) (lenOf pd_4 rfl) rfl (Nat.le_of_eq rfl) (by decide) (by decide) rfl rfl ?_
        intro v85 vm85 T85 h85 L85 X85 V85 Q85
        obtain ⟨rfl, S85⟩ := Q85
        exact Own.r_ref X85 rfl rfl rfl dc_method_5_99 (by decide) (by decide) (⟨b46, rfl, g46, by rw [own_dl3 hc5_1 hc21_10 hc35_14]; exact S85⟩)
set_option maxRecDepth 65536 in
set_option maxHeartbeats 40000000 in
theorem rm_make {l : Launch} {Z : State} {a0 : Array Value} (hw : ∀ d ∈ tables_1, d.before a0 Z = true) (kk p0 : Int32) {zc : Int32} (SC : Sta Z Z.heap "java/lang/String" "COMPACT_STRINGS" "Z" (.int zc)) (hzc : ¬ zc = 0) {fm : Value} (SF : Sta Z Z.heap "jdk/internal/util/Preconditions" "SIOOBE_FORMATTER" "Ljava/util/function/BiFunction;" fm) (hfm : fm.isRef = true) (h0 : Heap) (hE : Ext Z.heap h0)  :
    Own.Ctr true l Z a0 EL (⟨"com/example/fedweave/fedweave/NameIdPolicyAllowsPinLaw", "make", "(II)Ljava/lang/String;"⟩ : MethodName) method_3_code 2 (Option.some (Jvm.ClassFile.FieldType.object "java/lang/String")) ({ frames := 5, cells := 6, slots := 216, locals := 79 } : Room) #[(.int kk), (.int p0)] h0 [] (fun v h => ∃ u, v = some u ∧ Own.NStr Z h u (own_mk kk p0)) := by
  refine Own.Ctr.of pn_10 (ef_6 kk p0) hE (ewEL hw) ?_
  intro p e s m below meth c T0 X0 hsafe
  have SC0 := Sta.ext hE SC
  have SF0 := Sta.ext hE SF
  refine Own.s_iloadN X0 dc_method_3_0 rfl rfl ?_
  by_cases hc1_1 : kk = (0 : Int32)
  · refine Own.s_ifF X0 dc_method_3_1 ((if0 _ _).trans (teq hc1_1).2) rfl ?_
    refine Own.s_aconst_null X0 dc_method_3_4 rfl ?_
    exact Own.r_ref X0 rfl rfl rfl dc_method_3_5 (by decide) (by decide) (⟨.null, rfl, by rw [own_mk0 hc1_1]; exact rfl⟩)
  · refine Own.s_ifT X0 dc_method_3_1 ((if0 _ _).trans (feq hc1_1).2) (by decide) (pc' := 6) (by decide) ?_
    refine Own.s_iloadN X0 dc_method_3_6 rfl rfl ?_
    refine Own.s_iconst X0 dc_method_3_7 (1 : Int32) (by decide) rfl ?_
    by_cases hc8_2 : kk = (1 : Int32)
    · refine Own.s_icmpF X0 dc_method_3_8 (teq hc8_2).2 rfl ?_
      refine Own.s_ldcStr rfl X0 dc_method_3_11 (tw65 hw) (wSA hw) (by decide) (vs := [(.int (117 : Int32)), (.int (114 : Int32)), (.int (110 : Int32)), (.int (58 : Int32)), (.int (111 : Int32)), (.int (97 : Int32)), (.int (115 : Int32)), (.int (105 : Int32)), (.int (115 : Int32)), (.int (58 : Int32)), (.int (110 : Int32)), (.int (97 : Int32)), (.int (109 : Int32)), (.int (101 : Int32)), (.int (115 : Int32)), (.int (58 : Int32)), (.int (116 : Int32)), (.int (99 : Int32)), (.int (58 : Int32)), (.int (83 : Int32)), (.int (65 : Int32)), (.int (77 : Int32)), (.int (76 : Int32)), (.int (58 : Int32)), (.int (49 : Int32)), (.int (46 : Int32)), (.int (49 : Int32)), (.int (58 : Int32)), (.int (110 : Int32)), (.int (97 : Int32)), (.int (109 : Int32)), (.int (101 : Int32)), (.int (105 : Int32)), (.int (100 : Int32)), (.int (45 : Int32)), (.int (102 : Int32)), (.int (111 : Int32)), (.int (114 : Int32)), (.int (109 : Int32)), (.int (97 : Int32)), (.int (116 : Int32)), (.int (58 : Int32)), (.int (117 : Int32)), (.int (110 : Int32)), (.int (115 : Int32)), (.int (112 : Int32)), (.int (101 : Int32)), (.int (99 : Int32)), (.int (105 : Int32)), (.int (102 : Int32)), (.int (105 : Int32)), (.int (101 : Int32)), (.int (100 : Int32))]) (z := (53 : Int32)) ⟨by decide, by decide⟩ (by decide) (by decide) 212 (by decide) (by decide) (by decide) (by decide) rfl ?_
      intro a3 b3 k3 vm3 T3 h3 X3 V3 E3 C3 U3 A3
      have S3 : Own.Str Z h3 a3 [(117 : Int32), (114 : Int32), (110 : Int32), (58 : Int32), (111 : Int32), (97 : Int32), (115 : Int32), (105 : Int32), (115 : Int32), (58 : Int32), (110 : Int32), (97 : Int32), (109 : Int32), (101 : Int32), (115 : Int32), (58 : Int32), (116 : Int32), (99 : Int32), (58 : Int32), (83 : Int32), (65 : Int32), (77 : Int32), (76 : Int32), (58 : Int32), (49 : Int32), (46 : Int32), (49 : Int32), (58 : Int32), (110 : Int32), (97 : Int32), (109 : Int32), (101 : Int32), (105 : Int32), (100 : Int32), (45 : Int32), (102 : Int32), (111 : Int32), (114 : Int32), (109 : Int32), (97 : Int32), (116 : Int32), (58 : Int32), (117 : Int32), (110 : Int32), (115 : Int32), (112 : Int32), (101 : Int32), (99 : Int32), (105 : Int32), (102 : Int32), (105 : Int32), (101 : Int32), (100 : Int32)] := Own.Str.mk (by decide) (by decide) E3 C3 U3 A3
      exact Own.r_ref X3 rfl rfl rfl dc_method_3_13 (by decide) (by decide) (⟨.ref a3, rfl, by rw [own_mk1 hc8_2]; exact ⟨_, rfl, S3⟩⟩)
    · refine Own.s_icmpT X0 dc_method_3_8 (feq hc8_2).2 (by decide) (pc' := 14) (by decide) ?_
      refine Own.s_iloadN X0 dc_method_3_14 rfl rfl ?_
      refine Own.c_static X0 dc_method_3_15 (tw27 hw) (tw28 hw) (tw5 hw) (tw29 hw) (by decide) [(.int p0)] [] 0 (rm_drawn hw p0 SC hzc SF hfm h0 X0.hE) (fun _ => rfl) Own.Ok.nil (lenOf pd_7 rfl) rfl (Nat.le_of_eq rfl) (by decide) (by decide) (by decide) (by decide) rfl rfl ?_
      intro v4 vm4 T4 h4 L4 X4 V4 Q4
      obtain ⟨r4, rfl, g4, S4⟩ := Q4
      exact Own.r_ref X4 rfl rfl rfl dc_method_3_18 (by decide) (by decide) (⟨.ref r4, rfl, by rw [own_mk2 hc1_1 hc8_2]; exact ⟨_, rfl, S4⟩⟩)
set_option maxRecDepth 65536 in
set_option maxHeartbeats 40000000 in
theorem rm_np {l : Launch} {Z : State} {a0 : Array Value} (hw : ∀ d ∈ tables_1, d.before a0 Z = true) (a : Addr) (f1 : Value) (qf : f1.isRef = true) (s1 : Value) (qs : s1.isRef = true)  (h0 : Heap) (hE : Ext Z.heap h0) (ga : Z.heap.size ≤ a) (E : Exa Z h0 a "com/example/fedweave/fedweave/AuthnRequest$NameIdPolicy") (F_format : Fld Z h0 a "com/example/fedweave/fedweave/AuthnRequest$NameIdPolicy" "format" "Ljava/lang/String;" .null) (F_spNameQualifier : Fld Z h0 a "com/example/fedweave/fedweave/AuthnRequest$NameIdPolicy" "spNameQualifier" "Ljava/lang/String;" .null)  :
    Own.Ctr false l Z a0 EL (⟨"com/example/fedweave/fedweave/AuthnRequest$NameIdPolicy", "<init>", "(Ljava/lang/String;Ljava/lang/String;)V"⟩ : MethodName) prog_7_method_1_code 3 (Option.none : Option Jvm.ClassFile.FieldType) ({ frames := 2, cells := 0, slots := 0, locals := 24 } : Room) #[(.ref a), f1, s1] h0 [a] (fun v h => v = none ∧ Exa Z h a "com/example/fedweave/fedweave/AuthnRequest$NameIdPolicy" ∧ Fld Z h a "com/example/fedweave/fedweave/AuthnRequest$NameIdPolicy" "format" "Ljava/lang/String;" f1 ∧ Fld Z h a "com/example/fedweave/fedweave/AuthnRequest$NameIdPolicy" "spNameQualifier" "Ljava/lang/String;" s1) := by
  refine Own.Ctr.of pn_11 (ef_8 a f1 qf s1 qs) hE (ewEL hw) ?_
  intro p e s m below meth c T0 X0 hsafe
  have O0 : Own.Ok false Z EL h0 [a] s.vm h0 a := ⟨E.lt, ga, Or.inl (List.mem_singleton.mpr rfl), fun q => hsafe q _ (List.mem_singleton.mpr rfl)⟩
  refine Own.s_aloadN X0 dc_prog_7_method_1_0 rfl rfl rfl ?_
  refine Own.c_special X0 dc_prog_7_method_1_1 rfl (tw10 hw) (tw11 hw) (tw13 hw) (tw14 hw) (by decide) a [] [] 0 (rm_record hw a h0 X0.hE) (fun q => nomatch q) Own.Ok.nil (lenOf pd_8 rfl) rfl (Nat.le_of_eq rfl) (by decide) (by decide) (by decide) (by decide) rfl rfl ?_
  intro v1 vm1 T1 h1 L1 X1 V1 Q1
  obtain rfl := Q1
  refine Own.s_aloadN X1 dc_prog_7_method_1_4 rfl rfl rfl ?_
  refine Own.s_aloadN X1 dc_prog_7_method_1_5 rfl qf rfl ?_
  have ex3 : Ext h0 h1 := Own.extK (Own.Ext.rfl' h0) V1.1 all0
  have F_4 := Fld.ext ex3 F_format
  have E_5 := Exa.ext ex3 E
  have O6 := (O0.ev V1)
  refine Own.s_putfield X1 dc_prog_7_method_1_6 (tw18 hw) F_4 E_5 (Or.inr ⟨(tw19 hw), rfl, rfl⟩) (tw1 hw) (ty := (.object "java/lang/String")) (by decide) (Own.narR rfl _) (Own.fitR rfl qf) O6 rfl ?_
  intro T2 h2 X2 V2 W2
  have F2 := Fld.same W2 F_4
  refine Own.s_aloadN X2 dc_prog_7_method_1_9 rfl rfl rfl ?_
  refine Own.s_aloadN X2 dc_prog_7_method_1_10 rfl qs rfl ?_
  have F_8 := (Fld.other W2 (Fld.ext (Own.extN V1.1) F_spNameQualifier) (Or.inr (slot_ne (Or.inr (tw21 hw)) (Or.inr (tw19 hw)) (by decide) (t := (.object "java/lang/String")) (t' := (.object "java/lang/String")) (by decide) (by decide))))
  have E_9 := (Exa.keep E_5 V2.1)
  have O10 := (O6.ev V2)
  refine Own.s_putfield X2 dc_prog_7_method_1_11 (tw20 hw) F_8 E_9 (Or.inr ⟨(tw21 hw), rfl, rfl⟩) (tw1 hw) (ty := (.object "java/lang/String")) (by decide) (Own.narR rfl _) (Own.fitR rfl qs) O10 rfl ?_
  intro T7 h7 X7 V7 W7
  have F7 := Fld.same W7 F_8
  have E_11 := (Exa.keep E_9 V7.1)
  have F_12 := (Fld.other W7 F2 (Or.inr (slot_ne (Or.inr (tw19 hw)) (Or.inr (tw21 hw)) (by decide) (t := (.object "java/lang/String")) (t' := (.object "java/lang/String")) (by decide) (by decide))))
  exact Own.r_void X7 rfl dc_prog_7_method_1_14 (by decide) (by decide) (⟨rfl, E_11, F_12, F7⟩)
set_option maxRecDepth 65536 in
set_option maxHeartbeats 40000000 in
theorem rm_allows {l : Launch} {Z : State} {a0 : Array Value} (hw : ∀ d ∈ tables_1, d.before a0 Z = true) (a : Addr) (fu su iu ju : Value) (fo so io jo : Option (List Int32)) (qfu : fu.isRef = true) (qsu : su.isRef = true) (qiu : iu.isRef = true) (qju : ju.isRef = true) {zc : Int32} (SC : Sta Z Z.heap "java/lang/String" "COMPACT_STRINGS" "Z" (.int zc)) (hzc : ¬ zc = 0) {fm : Value} (SF : Sta Z Z.heap "jdk/internal/util/Preconditions" "SIOOBE_FORMATTER" "Ljava/util/function/BiFunction;" fm) (hfm : fm.isRef = true) (h0 : Heap) (hE : Ext Z.heap h0) (E : Exa Z h0 a "com/example/fedweave/fedweave/AuthnRequest$NameIdPolicy") (Ff : Fld Z h0 a "com/example/fedweave/fedweave/AuthnRequest$NameIdPolicy" "format" "Ljava/lang/String;" fu) (Fs : Fld Z h0 a "com/example/fedweave/fedweave/AuthnRequest$NameIdPolicy" "spNameQualifier" "Ljava/lang/String;" su) (Mfu : Own.NStr Z h0 fu fo) (Msu : Own.NStr Z h0 su so) (Miu : Own.NStr Z h0 iu io) (Mju : Own.NStr Z h0 ju jo) :
    Own.Ctr true l Z a0 EL (⟨"com/example/fedweave/fedweave/AuthnRequest$NameIdPolicy", "allows", "(Ljava/lang/String;Ljava/lang/String;)Z"⟩ : MethodName) prog_7_method_2_code 3 (Option.some Jvm.ClassFile.FieldType.boolean) ({ frames := 2, cells := 2, slots := 216, locals := 28 } : Room) #[(.ref a), iu, ju] h0 [] (fun v h => (v = some (.int (1 : Int32)) ∧ own_A fo so io jo) ∨ (v = some (.int (0 : Int32)) ∧ ¬ own_A fo so io jo)) := by
  refine Own.Ctr.of pn_12 (ef_8 a iu qiu ju qju) hE (ewEL hw) ?_
  intro p e s m below meth c T0 X0 hsafe
  have SC0 := Sta.ext hE SC
  have SF0 := Sta.ext hE SF
  refine Own.s_aloadN X0 dc_prog_7_method_2_0 rfl rfl rfl ?_
  refine Own.s_getfield X0 dc_prog_7_method_2_1 (tw18 hw) Ff rfl ?_
  intro T1 X1
  rcases Own.NStr.cases Mfu with ⟨rfl, ho2⟩ | ⟨r2, cs2, rfl, ho2, S2⟩
  · refine Own.s_ifnullT X1 dc_prog_7_method_2_4 (by decide) (pc' := 30) (by decide) ?_
    refine Own.s_aloadN X1 dc_prog_7_method_2_30 rfl rfl rfl ?_
    refine Own.s_getfield X1 dc_prog_7_method_2_31 (tw20 hw) Fs rfl ?_
    intro T3 X3
    rcases Own.NStr.cases Msu with ⟨rfl, ho4⟩ | ⟨r4, cs4, rfl, ho4, S4⟩
    · refine Own.s_ifnullT X3 dc_prog_7_method_2_34 (by decide) (pc' := 48) (by decide) ?_
      refine Own.s_iconst X3 dc_prog_7_method_2_48 (1 : Int32) (by decide) rfl ?_
      refine Own.s_goto X3 dc_prog_7_method_2_49 (by decide) (pc' := 53) (by decide) ?_
      exact Own.r_nar X3 rfl (Or.inl rfl) dc_prog_7_method_2_53 (by decide) (by decide) (Or.inl ⟨by decide, by rw [ho2, ho4]; exact ⟨Or.inl rfl, Or.inl rfl⟩⟩)
    · refine Own.s_ifnullF X3 dc_prog_7_method_2_34 rfl ?_
      refine Own.s_aloadN X3 dc_prog_7_method_2_37 rfl rfl rfl ?_
      refine Own.s_getfield X3 dc_prog_7_method_2_38 (tw20 hw) Fs rfl ?_
      intro T5 X5
      refine Own.s_aloadN X5 dc_prog_7_method_2_41 rfl qju rfl ?_
      rcases Own.NStr.cases Mju with ⟨rfl, ho6⟩ | ⟨r6, cs6, rfl, ho6, S6⟩
      · refine Own.c_virtual X5 dc_prog_7_method_2_42 (tw51 hw) (tw52 hw) (notFace_of_selects (args := #[]) (mvT X5.hZ (tw54 hw))) (tw54 hw) (tw53 hw) (tw32 hw) (tw55 hw) (by decide) r4 [.null] [] 0 S4.exa (rm_eqNull hw r4 h0 X5.hE) (fun q => nomatch q) Own.Ok.nil (lenOf pd_9 rfl) rfl (Nat.le_of_eq rfl) (by decide) (by decide) (by decide) (by decide) rfl rfl ?_
        intro v7 vm7 T7 h7 L7 X7 V7 Q7
        obtain rfl := Q7
        refine Own.s_ifT X7 dc_prog_7_method_2_45 ((if0 _ _).trans (teq (show (0 : Int32) = (0 : Int32) by decide)).1) (by decide) (pc' := 52) (by decide) ?_
        refine Own.s_iconst X7 dc_prog_7_method_2_52 (0 : Int32) (by decide) rfl ?_
        exact Own.r_nar X7 rfl (Or.inl rfl) dc_prog_7_method_2_53 (by decide) (by decide) (Or.inr ⟨by decide, by rw [ho2, ho4, ho6]; exact fun r => r.2.elim (fun q => nomatch q) (fun q => nomatch q)⟩)
      · refine Own.b_virtual X5 dc_prog_7_method_2_42 (tw51 hw) (tw52 hw) (notFace_of_selects (args := #[]) (mvT X5.hZ (tw54 hw))) (tw54 hw) (tw53 hw) (by decide) r4 [(.ref r6)] [] S4.exa (Own.strEq (W := 0) X5.hZ (wEq hw) (tw31 hw) S4 S6 SC0 hzc (by decide) (by decide)) (fun v h' L q => Own.strEqQ q) Own.Ok.nil (lenOf pd_9 rfl) rfl (Nat.le_of_eq rfl) (by decide) (by decide) rfl rfl ?_
        intro v8 vm8 T8 h8 L8 X8 V8 Q8
        obtain rfl := Q8
        by_cases hc45_9 : (if (cs4 : List Int32) = cs6 then 1 else 0) = (0 : Int32)
        · refine Own.s_ifT X8 dc_prog_7_method_2_45 ((if0 _ _).trans (teq hc45_9).1) (by decide) (pc' := 52) (by decide) ?_
          refine Own.s_iconst X8 dc_prog_7_method_2_52 (0 : Int32) (by decide) rfl ?_
          exact Own.r_nar X8 rfl (Or.inl rfl) dc_prog_7_method_2_53 (by decide) (by decide) (Or.inr ⟨by decide, by rw [ho2, ho4, ho6]; exact fun r => r.2.elim (fun q => nomatch q) (fun q => (fun q => absurd ((if_pos q).symm.trans hc45_9) (by decide)) (Option.some.inj q))⟩)
        · refine Own.s_ifF X8 dc_prog_7_method_2_45 ((if0 _ _).trans (feq hc45_9).1) rfl ?_
          refine Own.s_iconst X8 dc_prog_7_method_2_48 (1 : Int32) (by decide) rfl ?_
          refine Own.s_goto X8 dc_prog_7_method_2_49 (by decide) (pc' := 53) (by decide) ?_
          exact Own.r_nar X8 rfl (Or.inl rfl) dc_prog_7_method_2_53 (by decide) (by decide) (Or.inl ⟨by decide, by rw [ho2, ho4, ho6]; exact ⟨Or.inl rfl, Or.inr (congrArg some (Decidable.byContradiction fun q => absurd (if_neg q) hc45_9))⟩⟩)
  · refine Own.s_ifnullF X1 dc_prog_7_method_2_4 rfl ?_
    refine Own.s_aloadN X1 dc_prog_7_method_2_7 rfl rfl rfl ?_
    refine Own.s_getfield X1 dc_prog_7_method_2_8 (tw18 hw) Ff rfl ?_
    intro T10 X10
    refine Own.s_ldcStr rfl X10 dc_prog_7_method_2_11 (tw50 hw) (wSA hw) (by decide) (vs := [(.int (117 : Int32)), (.int (114 : Int32)), (.int (110 : Int32)), (.int (58 : Int32)), (.int (111 : Int32)), (.int (97 : Int32)), (.int (115 : Int32)), (.int (105 : Int32)), (.int (115 : Int32)), (.int (58 : Int32)), (.int (110 : Int32)), (.int (97 : Int32)), (.int (109 : Int32)), (.int (101 : Int32)), (.int (115 : Int32)), (.int (58 : Int32)), (.int (116 : Int32)), (.int (99 : Int32)), (.int (58 : Int32)), (.int (83 : Int32)), (.int (65 : Int32)), (.int (77 : Int32)), (.int (76 : Int32)), (.int (58 : Int32)), (.int (49 : Int32)), (.int (46 : Int32)), (.int (49 : Int32)), (.int (58 : Int32)), (.int (110 : Int32)), (.int (97 : Int32)), (.int (109 : Int32)), (.int (101 : Int32)), (.int (105 : Int32)), (.int (100 : Int32)), (.int (45 : Int32)), (.int (102 : Int32)), (.int (111 : Int32)), (.int (114 : Int32)), (.int (109 : Int32)), (.int (97 : Int32)), (.int (116 : Int32)), (.int (58 : Int32)), (.int (117 : Int32)), (.int (110 : Int32)), (.int (115 : Int32)), (.int (112 : Int32)), (.int (101 : Int32)), (.int (99 : Int32)), (.int (105 : Int32)), (.int (102 : Int32)), (.int (105 : Int32)), (.int (101 : Int32)), (.int (100 : Int32))]) (z := (53 : Int32)) ⟨by decide, by decide⟩ (by decide) (by decide) 212 (by decide) (by decide) (by decide) (by decide) rfl ?_
    intro a11 b11 k11 vm11 T11 h11 X11 V11 E11 C11 U11 A11
    have S11 : Own.Str Z h11 a11 [(117 : Int32), (114 : Int32), (110 : Int32), (58 : Int32), (111 : Int32), (97 : Int32), (115 : Int32), (105 : Int32), (115 : Int32), (58 : Int32), (110 : Int32), (97 : Int32), (109 : Int32), (101 : Int32), (115 : Int32), (58 : Int32), (116 : Int32), (99 : Int32), (58 : Int32), (83 : Int32), (65 : Int32), (77 : Int32), (76 : Int32), (58 : Int32), (49 : Int32), (46 : Int32), (49 : Int32), (58 : Int32), (110 : Int32), (97 : Int32), (109 : Int32), (101 : Int32), (105 : Int32), (100 : Int32), (45 : Int32), (102 : Int32), (111 : Int32), (114 : Int32), (109 : Int32), (97 : Int32), (116 : Int32), (58 : Int32), (117 : Int32), (110 : Int32), (115 : Int32), (112 : Int32), (101 : Int32), (99 : Int32), (105 : Int32), (102 : Int32), (105 : Int32), (101 : Int32), (100 : Int32)] := Own.Str.mk (by decide) (by decide) E11 C11 U11 A11
    have ex12 : Ext h0 h11 := Own.extK (Own.Ext.rfl' h0) V11.1 all0
    have S_13 := Own.Str.ext S2 ex12
    have Z_14 := Sta.ext ex12 SC0
    have E_16 := Exa.ext ex12 S2.exa
    refine Own.b_virtual X11 dc_prog_7_method_2_13 (tw51 hw) (tw52 hw) (notFace_of_selects (args := #[]) (mvT X11.hZ (tw54 hw))) (tw54 hw) (tw53 hw) (by decide) r2 [(.ref a11)] [] E_16 (Own.strEq (W := 0) X11.hZ (wEq hw) (tw31 hw) S_13 S11 Z_14 hzc (by decide) (by decide)) (fun v h' L q => Own.strEqQ q) Own.Ok.nil (lenOf pd_9 rfl) rfl (Nat.le_of_eq rfl) (by decide) (by decide) rfl rfl ?_
    intro v15 vm15 T15 h15 L15 X15 V15 Q15
    obtain rfl := Q15
    by_cases hc16_17 : (if (cs2 : List Int32) = [(117 : Int32), (114 : Int32), (110 : Int32), (58 : Int32), (111 : Int32), (97 : Int32), (115 : Int32), (105 : Int32), (115 : Int32), (58 : Int32), (110 : Int32), (97 : Int32), (109 : Int32), (101 : Int32), (115 : Int32), (58 : Int32), (116 : Int32), (99 : Int32), (58 : Int32), (83 : Int32), (65 : Int32), (77 : Int32), (76 : Int32), (58 : Int32), (49 : Int32), (46 : Int32), (49 : Int32), (58 : Int32), (110 : Int32), (97 : Int32), (109 : Int32), (101 : Int32), (105 : Int32), (100 : Int32), (45 : Int32), (102 : Int32), (111 : Int32), (114 : Int32), (109 : Int32), (97 : Int32), (116 : Int32), (58 : Int32), (117 : Int32), (110 : Int32), (115 : Int32), (112 : Int32), (101 : Int32), (99 : Int32), (105 : Int32), (102 : Int32), (105 : Int32), (101 : Int32), (100 : Int32)] then 1 else 0) = (0 : Int32)
    · refine Own.s_ifF X15 dc_prog_7_method_2_16 ((if0 _ _).trans (teq hc16_17).2) rfl ?_
      refine Own.s_aloadN X15 dc_prog_7_method_2_19 rfl rfl rfl ?_
      have ex18 : Ext h0 h15 := Own.extK ex12 V15.1 all0
      have F_19 := Fld.ext ex18 Ff
      refine Own.s_getfield X15 dc_prog_7_method_2_20 (tw18 hw) F_19 rfl ?_
      intro T20 X20
      refine Own.s_aloadN X20 dc_prog_7_method_2_23 rfl qiu rfl ?_
      have M_21 := Own.NStr.ext Miu ex18
      rcases Own.NStr.cases M_21 with ⟨rfl, ho22⟩ | ⟨r22, cs22, rfl, ho22, S22⟩
      · have ex24 : Ext h11 h15 := Own.extK (Own.Ext.rfl' h11) V15.1 all0
        have E_25 := Exa.ext ex24 E_16
        refine Own.c_virtual X20 dc_prog_7_method_2_24 (tw51 hw) (tw52 hw) (notFace_of_selects (args := #[]) (mvT X20.hZ (tw54 hw))) (tw54 hw) (tw53 hw) (tw32 hw) (tw55 hw) (by decide) r2 [.null] [] 0 E_25 (rm_eqNull hw r2 h15 X20.hE) (fun q => nomatch q) Own.Ok.nil (lenOf pd_9 rfl) rfl (Nat.le_of_eq rfl) (by decide) (by decide) (by decide) (by decide) rfl rfl ?_
        intro v23 vm23 T23 h23 L23 X23 V23 Q23
        obtain rfl := Q23
        refine Own.s_ifT X23 dc_prog_7_method_2_27 ((if0 _ _).trans (teq (show (0 : Int32) = (0 : Int32) by decide)).1) (by decide) (pc' := 52) (by decide) ?_
        refine Own.s_iconst X23 dc_prog_7_method_2_52 (0 : Int32) (by decide) rfl ?_
        exact Own.r_nar X23 rfl (Or.inl rfl) dc_prog_7_method_2_53 (by decide) (by decide) (Or.inr ⟨by decide, by rw [ho2, ho22]; exact fun r => r.1.elim (fun q => nomatch q) fun r => r.elim (fun q => (fun q => absurd ((if_pos q).symm.trans hc16_17) (by decide)) (Option.some.inj q)) (fun q => nomatch q)⟩)
      · have ex26 : Ext h11 h15 := Own.extK (Own.Ext.rfl' h11) V15.1 all0
        have S_27 := Own.Str.ext S_13 ex26
        have Z_28 := Sta.ext ex26 Z_14
        have E_30 := Exa.ext ex26 E_16
        refine Own.b_virtual X20 dc_prog_7_method_2_24 (tw51 hw) (tw52 hw) (notFace_of_selects (args := #[]) (mvT X20.hZ (tw54 hw))) (tw54 hw) (tw53 hw) (by decide) r2 [(.ref r22)] [] E_30 (Own.strEq (W := 0) X20.hZ (wEq hw) (tw31 hw) S_27 S22 Z_28 hzc (by decide) (by decide)) (fun v h' L q => Own.strEqQ q) Own.Ok.nil (lenOf pd_9 rfl) rfl (Nat.le_of_eq rfl) (by decide) (by decide) rfl rfl ?_
        intro v29 vm29 T29 h29 L29 X29 V29 Q29
        obtain rfl := Q29
        by_cases hc27_31 : (if (cs2 : List Int32) = cs22 then 1 else 0) = (0 : Int32)
        · refine Own.s_ifT X29 dc_prog_7_method_2_27 ((if0 _ _).trans (teq hc27_31).1) (by decide) (pc' := 52) (by decide) ?_
          refine Own.s_iconst X29 dc_prog_7_method_2_52 (0 : Int32) (by decide) rfl ?_
          exact Own.r_nar X29 rfl (Or.inl rfl) dc_prog_7_method_2_53 (by decide) (by decide) (Or.inr ⟨by decide, by rw [ho2, ho22]; exact fun r => r.1.elim (fun q => nomatch q) fun r => r.elim (fun q => (fun q => absurd ((if_pos q).symm.trans hc16_17) (by decide)) (Option.some.inj q)) (fun q => (fun q => absurd ((if_pos q).symm.trans hc27_31) (by decide)) (Option.some.inj q))⟩)
        · refine Own.s_ifF X29 dc_prog_7_method_2_27 ((if0 _ _).trans (feq hc27_31).1) rfl ?_
          refine Own.s_aloadN X29 dc_prog_7_method_2_30 rfl rfl rfl ?_
          have ex32 : Ext h0 h29 := Own.extK ex18 V29.1 all0
          have F_33 := Fld.ext ex32 Fs
          refine Own.s_getfield X29 dc_prog_7_method_2_31 (tw20 hw) F_33 rfl ?_
          intro T34 X34
          have M_35 := Own.NStr.ext Msu ex32
          rcases Own.NStr.cases M_35 with ⟨rfl, ho36⟩ | ⟨r36, cs36, rfl, ho36, S36⟩
          · refine Own.s_ifnullT X34 dc_prog_7_method_2_34 (by decide) (pc' := 48) (by decide) ?_
            refine Own.s_iconst X34 dc_prog_7_method_2_48 (1 : Int32) (by decide) rfl ?_
            refine Own.s_goto X34 dc_prog_7_method_2_49 (by decide) (pc' := 53) (by decide) ?_
            exact Own.r_nar X34 rfl (Or.inl rfl) dc_prog_7_method_2_53 (by decide) (by decide) (Or.inl ⟨by decide, by rw [ho2, ho22, ho36]; exact ⟨Or.inr (Or.inr (congrArg some (Decidable.byContradiction fun q => absurd (if_neg q) hc27_31))), Or.inl rfl⟩⟩)
          · refine Own.s_ifnullF X34 dc_prog_7_method_2_34 rfl ?_
            refine Own.s_aloadN X34 dc_prog_7_method_2_37 rfl rfl rfl ?_
            refine Own.s_getfield X34 dc_prog_7_method_2_38 (tw20 hw) F_33 rfl ?_
            intro T37 X37
            refine Own.s_aloadN X37 dc_prog_7_method_2_41 rfl qju rfl ?_
            have M_38 := Own.NStr.ext Mju ex32
            rcases Own.NStr.cases M_38 with ⟨rfl, ho39⟩ | ⟨r39, cs39, rfl, ho39, S39⟩
            · refine Own.c_virtual X37 dc_prog_7_method_2_42 (tw51 hw) (tw52 hw) (notFace_of_selects (args := #[]) (mvT X37.hZ (tw54 hw))) (tw54 hw) (tw53 hw) (tw32 hw) (tw55 hw) (by decide) r36 [.null] [] 0 S36.exa (rm_eqNull hw r36 h29 X37.hE) (fun q => nomatch q) Own.Ok.nil (lenOf pd_9 rfl) rfl (Nat.le_of_eq rfl) (by decide) (by decide) (by decide) (by decide) rfl rfl ?_
              intro v40 vm40 T40 h40 L40 X40 V40 Q40
              obtain rfl := Q40
              refine Own.s_ifT X40 dc_prog_7_method_2_45 ((if0 _ _).trans (teq (show (0 : Int32) = (0 : Int32) by decide)).1) (by decide) (pc' := 52) (by decide) ?_
              refine Own.s_iconst X40 dc_prog_7_method_2_52 (0 : Int32) (by decide) rfl ?_
              exact Own.r_nar X40 rfl (Or.inl rfl) dc_prog_7_method_2_53 (by decide) (by decide) (Or.inr ⟨by decide, by rw [ho2, ho22, ho36, ho39]; exact fun r => r.2.elim (fun q => nomatch q) (fun q => nomatch q)⟩)
            · have ex41 : Ext h15 h29 := Own.extK (Own.Ext.rfl' h15) V29.1 all0
              have Z_42 := Sta.ext ex41 Z_28
              refine Own.b_virtual X37 dc_prog_7_method_2_42 (tw51 hw) (tw52 hw) (notFace_of_selects (args := #[]) (mvT X37.hZ (tw54 hw))) (tw54 hw) (tw53 hw) (by decide) r36 [(.ref r39)] [] S36.exa (Own.strEq (W := 0) X37.hZ (wEq hw) (tw31 hw) S36 S39 Z_42 hzc (by decide) (by decide)) (fun v h' L q => Own.strEqQ q) Own.Ok.nil (lenOf pd_9 rfl) rfl (Nat.le_of_eq rfl) (by decide) (by decide) rfl rfl ?_
              intro v43 vm43 T43 h43 L43 X43 V43 Q43
              obtain rfl := Q43
              by_cases hc45_44 : (if (cs36 : List Int32) = cs39 then 1 else 0) = (0 : Int32)
              · refine Own.s_ifT X43 dc_prog_7_method_2_45 ((if0 _ _).trans (teq hc45_44).1) (by decide) (pc' := 52) (by decide) ?_
                refine Own.s_iconst X43 dc_prog_7_method_2_52 (0 : Int32) (by decide) rfl ?_
                exact Own.r_nar X43 rfl (Or.inl rfl) dc_prog_7_method_2_53 (by decide) (by decide) (Or.inr ⟨by decide, by rw [ho2, ho22, ho36, ho39]; exact fun r => r.2.elim (fun q => nomatch q) (fun q => (fun q => absurd ((if_pos q).symm.trans hc45_44) (by decide)) (Option.some.inj q))⟩)
              · refine Own.s_ifF X43 dc_prog_7_method_2_45 ((if0 _ _).trans (feq hc45_44).1) rfl ?_
                refine Own.s_iconst X43 dc_prog_7_method_2_48 (1 : Int32) (by decide) rfl ?_
                refine Own.s_goto X43 dc_prog_7_method_2_49 (by decide) (pc' := 53) (by decide) ?_
                exact Own.r_nar X43 rfl (Or.inl rfl) dc_prog_7_method_2_53 (by decide) (by decide) (Or.inl ⟨by decide, by rw [ho2, ho22, ho36, ho39]; exact ⟨Or.inr (Or.inr (congrArg some (Decidable.byContradiction fun q => absurd (if_neg q) hc27_31))), Or.inr (congrArg some (Decidable.byContradiction fun q => absurd (if_neg q) hc45_44))⟩⟩)
    · refine Own.s_ifT X15 dc_prog_7_method_2_16 ((if0 _ _).trans (feq hc16_17).2) (by decide) (pc' := 30) (by decide) ?_
      refine Own.s_aloadN X15 dc_prog_7_method_2_30 rfl rfl rfl ?_
      have ex45 : Ext h0 h15 := Own.extK ex12 V15.1 all0
      have F_46 := Fld.ext ex45 Fs
      refine Own.s_getfield X15 dc_prog_7_method_2_31 (tw20 hw) F_46 rfl ?_
      intro T47 X47
      have M_48 := Own.NStr.ext Msu ex45
      rcases Own.NStr.cases M_48 with ⟨rfl, ho49⟩ | ⟨r49, cs49, rfl, ho49, S49⟩
      · refine Own.s_ifnullT X47 dc_prog_7_method_2_34 (by decide) (pc' := 48) (by decide) ?_
        refine Own.s_iconst X47 dc_prog_7_method_2_48 (1 : Int32) (by decide) rfl ?_
        refine Own.s_goto X47 dc_prog_7_method_2_49 (by decide) (pc' := 53) (by decide) ?_
        exact Own.r_nar X47 rfl (Or.inl rfl) dc_prog_7_method_2_53 (by decide) (by decide) (Or.inl ⟨by decide, by rw [ho2, ho49]; exact ⟨Or.inr (Or.inl (congrArg some (Decidable.byContradiction fun q => absurd (if_neg q) hc16_17))), Or.inl rfl⟩⟩)
      · refine Own.s_ifnullF X47 dc_prog_7_method_2_34 rfl ?_
        refine Own.s_aloadN X47 dc_prog_7_method_2_37 rfl rfl rfl ?_
        refine Own.s_getfield X47 dc_prog_7_method_2_38 (tw20 hw) F_46 rfl ?_
        intro T50 X50
        refine Own.s_aloadN X50 dc_prog_7_method_2_41 rfl qju rfl ?_
        have M_51 := Own.NStr.ext Mju ex45
        rcases Own.NStr.cases M_51 with ⟨rfl, ho52⟩ | ⟨r52, cs52, rfl, ho52, S52⟩
        · refine Own.c_virtual X50 dc_prog_7_method_2_42 (tw51 hw) (tw52 hw) (notFace_of_selects (args := #[]) (mvT X50.hZ (tw54 hw))) (tw54 hw) (tw53 hw) (tw32 hw) (tw55 hw) (by decide) r49 [.null] [] 0 S49.exa (rm_eqNull hw r49 h15 X50.hE) (fun q => nomatch q) Own.Ok.nil (lenOf pd_9 rfl) rfl (Nat.le_of_eq rfl) (by decide) (by decide) (by decide) (by decide) rfl rfl ?_
          intro v53 vm53 T53 h53 L53 X53 V53 Q53
          obtain rfl := Q53
          refine Own.s_ifT X53 dc_prog_7_method_2_45 ((if0 _ _).trans (teq (show (0 : Int32) = (0 : Int32) by decide)).1) (by decide) (pc' := 52) (by decide) ?_
          refine Own.s_iconst X53 dc_prog_7_method_2_52 (0 : Int32) (by decide) rfl ?_
          exact Own.r_nar X53 rfl (Or.inl rfl) dc_prog_7_method_2_53 (by decide) (by decide) (Or.inr ⟨by decide, by rw [ho2, ho49, ho52]; exact fun r => r.2.elim (fun q => nomatch q) (fun q => nomatch q)⟩)
        · have ex54 : Ext h11 h15 := Own.extK (Own.Ext.rfl' h11) V15.1 all0
          have Z_55 := Sta.ext ex54 Z_14
          refine Own.b_virtual X50 dc_prog_7_method_2_42 (tw51 hw) (tw52 hw) (notFace_of_selects (args := #[]) (mvT X50.hZ (tw54 hw))) (tw54 hw) (tw53 hw) (by decide) r49 [(.ref r52)] [] S49.exa (Own.strEq (W := 0) X50.hZ (wEq hw) (tw31 hw) S49 S52 Z_55 hzc (by decide) (by decide)) (fun v h' L q => Own.strEqQ q) Own.Ok.nil (lenOf pd_9 rfl) rfl (Nat.le_of_eq rfl) (by decide) (by decide) rfl rfl ?_
          intro v56 vm56 T56 h56 L56 X56 V56 Q56
          obtain rfl := Q56
          by_cases hc45_57 : (if (cs49 : List Int32) = cs52 then 1 else 0) = (0 : Int32)
          · refine Own.s_ifT X56 dc_prog_7_method_2_45 ((if0 _ _).trans (teq hc45_57).1) (by decide) (pc' := 52) (by decide) ?_
            refine Own.s_iconst X56 dc_prog_7_method_2_52 (0 : Int32) (by decide) rfl ?_
            exact Own.r_nar X56 rfl (Or.inl rfl) dc_prog_7_method_2_53 (by decide) (by decide) (Or.inr ⟨by decide, by rw [ho2, ho49, ho52]; exact fun r => r.2.elim (fun q => nomatch q) (fun q => (fun q => absurd ((if_pos q).symm.trans hc45_57) (by decide)) (Option.some.inj q))⟩)
          · refine Own.s_ifF X56 dc_prog_7_method_2_45 ((if0 _ _).trans (feq hc45_57).1) rfl ?_
            refine Own.s_iconst X56 dc_prog_7_method_2_48 (1 : Int32) (by decide) rfl ?_
            refine Own.s_goto X56 dc_prog_7_method_2_49 (by decide) (pc' := 53) (by decide) ?_
            exact Own.r_nar X56 rfl (Or.inl rfl) dc_prog_7_method_2_53 (by decide) (by decide) (Or.inl ⟨by decide, by rw [ho2, ho49, ho52]; exact ⟨Or.inr (Or.inl (congrArg some (Decidable.byContradiction fun q => absurd (if_neg q) hc16_17))), Or.inr (congrArg some (Decidable.byContradiction fun q => absurd (if_neg q) hc45_57))⟩⟩)
theorem own_m3 (r : Int32) : r &&& 3 = 0 ∨ r &&& 3 = 1 ∨ r &&& 3 = 2 ∨ r &&& 3 = 3 := by
  have m := c_mask r 3 2 (by decide) (by decide)
  have a0 : (0 : Int32).toInt = 0 := by decide
  have a1 : (1 : Int32).toInt = 1 := by decide
  have a2 : (2 : Int32).toInt = 2 := by decide
  have a3 : (3 : Int32).toInt = 3 := by decide
  simp only [← Int32.toInt_inj, m, a0, a1, a2, a3]
  omega
theorem own_yes {p q : Int32} (h : p &&& 3 = q &&& 3) (h0 : p &&& 3 < 1 ∨ own_ch p 0 = own_ch q 0) (h1 : p &&& 3 < 2 ∨ own_ch p 1 = own_ch q 1) (h2 : p &&& 3 < 3 ∨ own_ch p 2 = own_ch q 2) : own_dl p = own_dl q := by
  rcases own_m3 p with e | e | e | e
  · rw [own_dl0 e, own_dl0 (h ▸ e)]
  · have e' := h ▸ e
    rw [own_dl1 (by rw [e]; decide) e, own_dl1 (by rw [e']; decide) e']
    rw [e] at h0
    rw [h0.resolve_left (by decide)]
  · have e' := h ▸ e
    rw [own_dl2 (by rw [e]; decide) (by rw [e]; decide) e, own_dl2 (by rw [e']; decide) (by rw [e']; decide) e']
    rw [e] at h0 h1
    rw [h0.resolve_left (by decide), h1.resolve_left (by decide)]
  · have e' := h ▸ e
    rw [own_dl3 (by rw [e]; decide) (by rw [e]; decide) (by rw [e]; decide), own_dl3 (by rw [e']; decide) (by rw [e']; decide) (by rw [e']; decide)]
    rw [e] at h0 h1 h2
    rw [h0.resolve_left (by decide), h1.resolve_left (by decide), h2.resolve_left (by decide)]
theorem own_all {p q : Int32} (h : own_dl p = own_dl q) : (¬ p &&& 3 < 1 → own_ch p 0 = own_ch q 0) ∧ (¬ p &&& 3 < 2 → own_ch p 1 = own_ch q 1) ∧ (¬ p &&& 3 < 3 → own_ch p 2 = own_ch q 2) := by
  have hl := own_len h
  rcases own_m3 p with e | e | e | e
  · rw [e]; exact ⟨fun r => absurd (by decide) r, fun r => absurd (by decide) r, fun r => absurd (by decide) r⟩
  · have e' := hl ▸ e
    rw [own_dl1 (by rw [e]; decide) e, own_dl1 (by rw [e']; decide) e'] at h
    simp only [List.cons.injEq, and_true] at h
    rw [e]; exact ⟨fun _ => h, fun r => absurd (by decide) r, fun r => absurd (by decide) r⟩
  · have e' := hl ▸ e
    rw [own_dl2 (by rw [e]; decide) (by rw [e]; decide) e, own_dl2 (by rw [e']; decide) (by rw [e']; decide) e'] at h
    simp only [List.cons.injEq, and_true] at h
    rw [e]; exact ⟨fun _ => h.1, fun _ => h.2, fun r => absurd (by decide) r⟩
  · have e' := hl ▸ e
    rw [own_dl3 (by rw [e]; decide) (by rw [e]; decide) (by rw [e]; decide), own_dl3 (by rw [e']; decide) (by rw [e']; decide) (by rw [e']; decide)] at h
    simp only [List.cons.injEq, and_true] at h
    exact ⟨fun _ => h.1, fun _ => h.2.1, fun _ => h.2.2⟩
theorem own_no0 {p q : Int32} (h : own_dl p = own_dl q) (r : ¬ p &&& 3 < 1) : own_ch p 0 = own_ch q 0 := (own_all h).1 r
theorem own_no1 {p q : Int32} (h : own_dl p = own_dl q) (r : ¬ p &&& 3 < 2) : own_ch p 1 = own_ch q 1 := (own_all h).2.1 r
theorem own_no2 {p q : Int32} (h : own_dl p = own_dl q) (r : ¬ p &&& 3 < 3) : own_ch p 2 = own_ch q 2 := (own_all h).2.2 r
set_option maxRecDepth 65536 in
set_option maxHeartbeats 40000000 in
theorem rm_deq {l : Launch} {Z : State} {a0 : Array Value} (hw : ∀ d ∈ tables_1, d.before a0 Z = true) (p0 p1 : Int32) (h0 : Heap) (hE : Ext Z.heap h0)  :
    Own.Ctr false l Z a0 EL (⟨"com/example/fedweave/fedweave/NameIdPolicyAllowsPinLaw", "drawnEq", "(II)Z"⟩ : MethodName) method_7_code 4 (Option.some Jvm.ClassFile.FieldType.boolean) ({ frames := 1, cells := 0, slots := 0, locals := 14 } : Room) #[(.int p0), (.int p1)] h0 [] (fun v h => (v = some (.int (1 : Int32)) ∧ own_dl p0 = own_dl p1) ∨ (v = some (.int (0 : Int32)) ∧ ¬ own_dl p0 = own_dl p1)) := by
  refine Own.Ctr.of pn_13 (ef_9 p0 p1) hE (ewEL hw) ?_
  intro p e s m below meth c T0 X0 hsafe
  refine Own.s_iloadN X0 dc_method_7_0 rfl rfl ?_
  refine Own.s_iconst X0 dc_method_7_1 (3 : Int32) (by decide) rfl ?_
  refine Own.s_iand X0 dc_method_7_2 rfl ?_
  refine Own.s_istoreN X0 dc_method_7_3 #[.val (.int p0), .val (.int p1), .val (.int (p0 &&& (3 : Int32))), .unset] rfl rfl ?_
  refine Own.s_iloadN X0 dc_method_7_4 rfl rfl ?_
  refine Own.s_iconst X0 dc_method_7_5 (3 : Int32) (by decide) rfl ?_
  refine Own.s_iand X0 dc_method_7_6 rfl ?_
  refine Own.s_istoreN X0 dc_method_7_7 #[.val (.int p0), .val (.int p1), .val (.int (p0 &&& (3 : Int32))), .val (.int (p1 &&& (3 : Int32)))] rfl rfl ?_
  refine Own.s_iloadN X0 dc_method_7_8 rfl rfl ?_
  refine Own.s_iloadN X0 dc_method_7_9 rfl rfl ?_
  by_cases hc10_1 : (p0 &&& (3 : Int32)) = (p1 &&& (3 : Int32))
  · refine Own.s_icmpT X0 dc_method_7_10 (teq hc10_1).1 (by decide) (pc' := 15) (by decide) ?_
    refine Own.s_iloadN X0 dc_method_7_15 rfl rfl ?_
    refine Own.s_iconst X0 dc_method_7_16 (1 : Int32) (by decide) rfl ?_
    by_cases hc17_2 : (p0 &&& (3 : Int32)) < (1 : Int32)
    · refine Own.s_icmpT X0 dc_method_7_17 (tlt hc17_2).1 (by decide) (pc' := 33) (by decide) ?_
      refine Own.s_iloadN X0 dc_method_7_33 rfl rfl ?_
      refine Own.s_iconst X0 dc_method_7_34 (2 : Int32) (by decide) rfl ?_
      by_cases hc35_3 : (p0 &&& (3 : Int32)) < (2 : Int32)
      · refine Own.s_icmpT X0 dc_method_7_35 (tlt hc35_3).1 (by decide) (pc' := 51) (by decide) ?_
        refine Own.s_iloadN X0 dc_method_7_51 rfl rfl ?_
        refine Own.s_iconst X0 dc_method_7_52 (3 : Int32) (by decide) rfl ?_
        by_cases hc53_4 : (p0 &&& (3 : Int32)) < (3 : Int32)
        · refine Own.s_icmpT X0 dc_method_7_53 (tlt hc53_4).1 (by decide) (pc' := 69) (by decide) ?_
          refine Own.s_iconst X0 dc_method_7_69 (1 : Int32) (by decide) rfl ?_
          refine Own.s_goto X0 dc_method_7_70 (by decide) (pc' := 74) (by decide) ?_
          exact Own.r_nar X0 rfl (Or.inl rfl) dc_method_7_74 (by decide) (by decide) (Or.inl ⟨by decide, own_yes hc10_1 (Or.inl hc17_2) (Or.inl hc35_3) (Or.inl hc53_4)⟩)
        · refine Own.s_icmpF X0 dc_method_7_53 (flt hc53_4).1 rfl ?_
          refine Own.s_iloadN X0 dc_method_7_56 rfl rfl ?_
          refine Own.s_iconst X0 dc_method_7_57 (2 : Int32) (by decide) rfl ?_
          refine Own.c_static X0 dc_method_7_58 (tw66 hw) (tw67 hw) (tw5 hw) (tw68 hw) (by decide) [(.int p0), (.int (2 : Int32))] [] 0 (rm_ch hw p0 (2 : Int32) h0 X0.hE) (fun q => nomatch q) Own.Ok.nil (lenOf pd_5 rfl) rfl (Nat.le_of_eq rfl) (by decide) (by decide) (by decide) (by decide) rfl rfl ?_
          intro v5 vm5 T5 h5 L5 X5 V5 Q5
          obtain rfl := Q5
          refine Own.s_iloadN X5 dc_method_7_61 rfl rfl ?_
          refine Own.s_iconst X5 dc_method_7_62 (2 : Int32) (by decide) rfl ?_
          refine Own.c_static X5 dc_method_7_63 (tw66 hw) (tw67 hw) (tw5 hw) (tw68 hw) (by decide) [(.int p1), (.int (2 : Int32))] [(.int (own_ch p0 (2 : Int32)))] 1 (rm_ch hw p1 (2 : Int32) h5 X5.hE) (fun q => nomatch q) Own.Ok.nil (lenOf pd_5 rfl) rfl (Nat.le_of_eq rfl) (by decide) (by decide) (by decide) (by decide) rfl rfl ?_
          intro v6 vm6 T6 h6 L6 X6 V6 Q6
          obtain rfl := Q6
          by_cases hc66_7 : (own_ch p0 (2 : Int32)) = (own_ch p1 (2 : Int32))
          · refine Own.s_icmpF X6 dc_method_7_66 (teq hc66_7).2 rfl ?_
            refine Own.s_iconst X6 dc_method_7_69 (1 : Int32) (by decide) rfl ?_
            refine Own.s_goto X6 dc_method_7_70 (by decide) (pc' := 74) (by decide) ?_
            exact Own.r_nar X6 rfl (Or.inl rfl) dc_method_7_74 (by decide) (by decide) (Or.inl ⟨by decide, own_yes hc10_1 (Or.inl hc17_2) (Or.inl hc35_3) (Or.inr hc66_7)⟩)
          · refine Own.s_icmpT X6 dc_method_7_66 (feq hc66_7).2 (by decide) (pc' := 73) (by decide) ?_
            refine Own.s_iconst X6 dc_method_7_73 (0 : Int32) (by decide) rfl ?_
            exact Own.r_nar X6 rfl (Or.inl rfl) dc_method_7_74 (by decide) (by decide) (Or.inr ⟨by decide, fun q => hc66_7 (own_no2 q hc53_4)⟩)
      · refine Own.s_icmpF X0 dc_method_7_35 (flt hc35_3).1 rfl ?_
        refine Own.s_iloadN X0 dc_method_7_38 rfl rfl ?_
        refine Own.s_iconst X0 dc_method_7_39 (1 : Int32) (by decide) rfl ?_
        refine Own.c_static X0 dc_method_7_40 (tw66 hw) (tw67 hw) (tw5 hw) (tw68 hw) (by decide) [(.int p0), (.int (1 : Int32))] [] 0 (rm_ch hw p0 (1 : Int32) h0 X0.hE) (fun q => nomatch q) Own.Ok.nil (lenOf pd_5 rfl) rfl (Nat.le_of_eq rfl) (by decide) (by decide) (by decide) (by decide) rfl rfl ?_
        intro v8 vm8 T8 h8 L8 X8 V8 Q8
        obtain rfl := Q8
        refine Own.s_iloadN X8 dc_method_7_43 rfl rfl ?_
        refine Own.s_iconst X8 dc_method_7_44 (1 : Int32) (by decide) rfl ?_
        refine Own.c_static X8 dc_method_7_45 (tw66 hw) (tw67 hw) (tw5 hw) (tw68 hw) (by decide) [(.int p1), (.int (1 : Int32))] [(.int (own_ch p0 (1 : Int32)))] 1 (rm_ch hw p1 (1 : Int32) h8 X8.hE) (fun q => nomatch q) Own.Ok.nil (lenOf pd_5 rfl) rfl (Nat.le_of_eq rfl) (by decide) (by decide) (by decide) (by decide) rfl rfl ?_
        intro v9 vm9 T9 h9 L9 X9 V9 Q9
        obtain rfl := Q9
        by_cases hc48_10 : (own_ch p0 (1 : Int32)) = (own_ch p1 (1 : Int32))
        · refine Own.s_icmpF X9 dc_method_7_48 (teq hc48_10).2 rfl ?_
          refine Own.s_iloadN X9 dc_method_7_51 rfl rfl ?_
          refine Own.s_iconst X9 dc_method_7_52 (3 : Int32) (by decide) rfl ?_
          by_cases hc53_11 : (p0 &&& (3 : Int32)) < (3 : Int32)
          · refine Own.s_icmpT X9 dc_method_7_53 (tlt hc53_11).1 (by decide) (pc' := 69) (by decide) ?_
            refine Own.s_iconst X9 dc_method_7_69 (1 : Int32) (by decide) rfl ?_
            refine Own.s_goto X9 dc_method_7_70 (by decide) (pc' := 74) (by decide) ?_
            exact Own.r_nar X9 rfl (Or.inl rfl) dc_method_7_74 (by decide) (by decide) (Or.inl ⟨by decide, own_yes hc10_1 (Or.inl hc17_2) (Or.inr hc48_10) (Or.inl hc53_11)⟩)
          · refine Own.s_icmpF X9 dc_method_7_53 (flt hc53_11).1 rfl ?_
            refine Own.s_iloadN X9 dc_method_7_56 rfl rfl ?_
            refine Own.s_iconst X9 dc_method_7_57 (2 : Int32) (by decide) rfl ?_
            refine Own.c_static X9 dc_method_7_58 (tw66 hw) (tw67 hw) (tw5 hw) (tw68 hw) (by decide) [(.int p0), (.int (2 : Int32))] [] 0 (rm_ch hw p0 (2 : Int32) h9 X9.hE) (fun q => nomatch q) Own.Ok.nil (lenOf pd_5 rfl) rfl (Nat.le_of_eq rfl) (by decide) (by decide) (by decide) (by decide) rfl rfl ?_
            intro v12 vm12 T12 h12 L12 X12 V12 Q12
            obtain rfl := Q12
            refine Own.s_iloadN X12 dc_method_7_61 rfl rfl ?_
            refine Own.s_iconst X12 dc_method_7_62 (2 : Int32) (by decide) rfl ?_
            refine Own.c_static X12 dc_method_7_63 (tw66 hw) (tw67 hw) (tw5 hw) (tw68 hw) (by decide) [(.int p1), (.int (2 : Int32))] [(.int (own_ch p0 (2 : Int32)))] 1 (rm_ch hw p1 (2 : Int32) h12 X12.hE) (fun q => nomatch q) Own.Ok.nil (lenOf pd_5 rfl) rfl (Nat.le_of_eq rfl) (by decide) (by decide) (by decide) (by decide) rfl rfl ?_
            intro v13 vm13 T13 h13 L13 X13 V13 Q13
            obtain rfl := Q13
            by_cases hc66_14 : (own_ch p0 (2 : Int32)) = (own_ch p1 (2 : Int32))
            · refine Own.s_icmpF X13 dc_method_7_66 (teq hc66_14).2 rfl ?_
              refine Own.s_iconst X13 dc_method_7_69 (1 : Int32) (by decide) rfl ?_
              refine Own.s_goto X13 dc_method_7_70 (by decide) (pc' := 74) (by decide) ?_
              exact Own.r_nar X13 rfl (Or.inl rfl) dc_method_7_74 (by decide) (by decide) (Or.inl ⟨by decide, own_yes hc10_1 (Or.inl hc17_2) (Or.inr hc48_10) (Or.inr hc66_14)⟩)
            · refine Own.s_icmpT X13 dc_method_7_66 (feq hc66_14).2 (by decide) (pc' := 73) (by decide) ?_
              refine Own.s_iconst X13 dc_method_7_73 (0 : Int32) (by decide) rfl ?_
              exact Own.r_nar X13 rfl (Or.inl rfl) dc_method_7_74 (by decide) (by decide) (Or.inr ⟨by decide, fun q => hc66_14 (own_no2 q hc53_11)⟩)
        · refine Own.s_icmpT X9 dc_method_7_48 (feq hc48_10).2 (by decide) (pc' := 73) (by decide) ?_
          refine Own.s_iconst X9 dc_method_7_73 (0 : Int32) (by decide) rfl ?_
          exact Own.r_nar X9 rfl (Or.inl rfl) dc_method_7_74 (by decide) (by decide) (Or.inr ⟨by decide, fun q => hc48_10 (own_no1 q hc35_3)⟩)
    · refine Own.s_icmpF X0 dc_method_7_17 (flt hc17_2).1 rfl ?_
      refine Own.s_iloadN X0 dc_method_7_20 rfl rfl ?_
      refine Own.s_iconst X0 dc_method_7_21 (0 : Int32) (by decide) rfl ?_
      refine Own.c_static X0 dc_method_7_22 (tw66 hw) (tw67 hw) (tw5 hw) (tw68 hw) (by decide) [(.int p0), (.int (0 : Int32))] [] 0 (rm_ch hw p0 (0 : Int32) h0 X0.hE) (fun q => nomatch q) Own.Ok.nil (lenOf pd_5 rfl) rfl (Nat.le_of_eq rfl) (by decide) (by decide) (by decide) (by decide) rfl rfl ?_
      intro v15 vm15 T15 h15 L15 X15 V15 Q15
      obtain rfl := Q15
      refine Own.s_iloadN X15 dc_method_7_25 rfl rfl ?_
      refine Own.s_iconst X15 dc_method_7_26 (0 : Int32) (by decide) rfl ?_
      refine Own.c_static X15 dc_method_7_27 (tw66 hw) (tw67 hw) (tw5 hw) (tw68 hw) (by decide) [(.int p1), (.int (0 : Int32))] [(.int (own_ch p0 (0 : Int32)))] 1 (rm_ch hw p1 (0 : Int32) h15 X15.hE) (fun q => nomatch q) Own.Ok.nil (lenOf pd_5 rfl) rfl (Nat.le_of_eq rfl) (by decide) (by decide) (by decide) (by decide) rfl rfl ?_
      intro v16 vm16 T16 h16 L16 X16 V16 Q16
      obtain rfl := Q16
      by_cases hc30_17 : (own_ch p0 (0 : Int32)) = (own_ch p1 (0 : Int32))
      · refine Own.s_icmpF X16 dc_method_7_30 (teq hc30_17).2 rfl ?_
        refine Own.s_iloadN X16 dc_method_7_33 rfl rfl ?_
        refine Own.s_iconst X16 dc_method_7_34 (2 : Int32) (by decide) rfl ?_
        by_cases hc35_18 : (p0 &&& (3 : Int32)) < (2 : Int32)
        · refine Own.s_icmpT X16 dc_method_7_35 (tlt hc35_18).1 (by decide) (pc' := 51) (by decide) ?_
          refine Own.s_iloadN X16 dc_method_7_51 rfl rfl ?_
          refine Own.s_iconst X16 dc_method_7_52 (3 : Int32) (by decide) rfl ?_
          by_cases hc53_19 : (p0 &&& (3 : Int32)) < (3 : Int32)
          · refine Own.s_icmpT X16 dc_method_7_53 (tlt hc53_19).1 (by decide) (pc' := 69) (by decide) ?_
            refine Own.s_iconst X16 dc_method_7_69 (1 : Int32) (by decide) rfl ?_
            refine Own.s_goto X16 dc_method_7_70 (by decide) (pc' := 74) (by decide) ?_
            exact Own.r_nar X16 rfl (Or.inl rfl) dc_method_7_74 (by decide) (by decide) (Or.inl ⟨by decide, own_yes hc10_1 (Or.inr hc30_17) (Or.inl hc35_18) (Or.inl hc53_19)⟩)
          · refine Own.s_icmpF X16 dc_method_7_53 (flt hc53_19).1 rfl ?_
            refine Own.s_iloadN X16 dc_method_7_56 rfl rfl ?_
            refine Own.s_iconst X16 dc_method_7_57 (2 : Int32) (by decide) rfl ?_
            refine Own.c_static X16 dc_method_7_58 (tw66 hw) (tw67 hw) (tw5 hw) (tw68 hw) (by decide) [(.int p0), (.int (2 : Int32))] [] 0 (rm_ch hw p0 (2 : Int32) h16 X16.hE) (fun q => nomatch q) Own.Ok.nil (lenOf pd_5 rfl) rfl (Nat.le_of_eq rfl) (by decide) (by decide) (by decide) (by decide) rfl rfl ?_
            intro v20 vm20 T20 h20 L20 X20 V20 Q20
            obtain rfl := Q20
            refine Own.s_iloadN X20 dc_method_7_61 rfl rfl ?_
            refine Own.s_iconst X20 dc_method_7_62 (2 : Int32) (by decide) rfl ?_
            refine Own.c_static X20 dc_method_7_63 (tw66 hw) (tw67 hw) (tw5 hw) (tw68 hw) (by decide) [(.int p1), (.int (2 : Int32))] [(.int (own_ch p0 (2 : Int32)))] 1 (rm_ch hw p1 (2 : Int32) h20 X20.hE) (fun q => nomatch q) Own.Ok.nil (lenOf pd_5 rfl) rfl (Nat.le_of_eq rfl) (by decide) (by decide) (by decide) (by decide) rfl rfl ?_
            intro v21 vm21 T21 h21 L21 X21 V21 Q21
            obtain rfl := Q21
            by_cases hc66_22 : (own_ch p0 (2 : Int32)) = (own_ch p1 (2 : Int32))
            · refine Own.s_icmpF X21 dc_method_7_66 (teq hc66_22).2 rfl ?_
              refine Own.s_iconst X21 dc_method_7_69 (1 : Int32) (by decide) rfl ?_
              refine Own.s_goto X21 dc_method_7_70 (by decide) (pc' := 74) (by decide) ?_
              exact Own.r_nar X21 rfl (Or.inl rfl) dc_method_7_74 (by decide) (by decide) (Or.inl ⟨by decide, own_yes hc10_1 (Or.inr hc30_17) (Or.inl hc35_18) (Or.inr hc66_22)⟩)
            · refine Own.s_icmpT X21 dc_method_7_66 (feq hc66_22).2 (by decide) (pc' := 73) (by decide) ?_
              refine Own.s_iconst X21 dc_method_7_73 (0 : Int32) (by decide) rfl ?_
              exact Own.r_nar X21 rfl (Or.inl rfl) dc_method_7_74 (by decide) (by decide) (Or.inr ⟨by decide, fun q => hc66_22 (own_no2 q hc53_19)⟩)
        · refine Own.s_icmpF X16 dc_method_7_35 (flt hc35_18).1 rfl ?_
          refine Own.s_iloadN X16 dc_method_7_38 rfl rfl ?_
          refine Own.s_iconst X16 dc_method_7_39 (1 : Int32) (by decide) rfl ?_
          refine Own.c_static X16 dc_method_7_40 (tw66 hw) (tw67 hw) (tw5 hw) (tw68 hw) (by decide) [(.int p0), (.int (1 : Int32))] [] 0 (rm_ch hw p0 (1 : Int32) h16 X16.hE) (fun q => nomatch q) Own.Ok.nil (lenOf pd_5 rfl) rfl (Nat.le_of_eq rfl) (by decide) (by decide) (by decide) (by decide) rfl rfl ?_
          intro v23 vm23 T23 h23 L23 X23 V23 Q23
          obtain rfl := Q23
          refine Own.s_iloadN X23 dc_method_7_43 rfl rfl ?_
          refine Own.s_iconst X23 dc_method_7_44 (1 : Int32) (by decide) rfl ?_
          refine Own.c_static X23 dc_method_7_45 (tw66 hw) (tw67 hw) (tw5 hw) (tw68 hw) (by decide) [(.int p1), (.int (1 : Int32))] [(.int (own_ch p0 (1 : Int32)))] 1 (rm_ch hw p1 (1 : Int32) h23 X23.hE) (fun q => nomatch q) Own.Ok.nil (lenOf pd_5 rfl) rfl (Nat.le_of_eq rfl) (by decide) (by decide) (by decide) (by decide) rfl rfl ?_
          intro v24 vm24 T24 h24 L24 X24 V24 Q24
          obtain rfl := Q24
          by_cases hc48_25 : (own_ch p0 (1 : Int32)) = (own_ch p1 (1 : Int32))
          · refine Own.s_icmpF X24 dc_method_7_48 (teq hc48_25).2 rfl ?_
            refine Own.s_iloadN X24 dc_method_7_51 rfl rfl ?_
            refine Own.s_iconst X24 dc_method_7_52 (3 : Int32) (by decide) rfl ?_
            by_cases hc53_26 : (p0 &&& (3 : Int32)) < (3 : Int32)
            · refine Own.s_icmpT X24 dc_method_7_53 (tlt hc53_26).1 (by decide) (pc' := 69) (by decide) ?_
              refine Own.s_iconst X24 dc_method_7_69 (1 : Int32) (by decide) rfl ?_
              refine Own.s_goto X24 dc_method_7_70 (by decide) (pc' := 74) (by decide) ?_
              exact Own.r_nar X24 rfl (Or.inl rfl) dc_method_7_74 (by decide) (by decide) (Or.inl ⟨by decide, own_yes hc10_1 (Or.inr hc30_17) (Or.inr hc48_25) (Or.inl hc53_26)⟩)
            · refine Own.s_icmpF X24 dc_method_7_53 (flt hc53_26).1 rfl ?_
              refine Own.s_iloadN X24 dc_method_7_56 rfl rfl ?_
              refine Own.s_iconst X24 dc_method_7_57 (2 : Int32) (by decide) rfl ?_
              refine Own.c_static X24 dc_method_7_58 (tw66 hw) (tw67 hw) (tw5 hw) (tw68 hw) (by decide) [(.int p0), (.int (2 : Int32))] [] 0 (rm_ch hw p0 (2 : Int32) h24 X24.hE) (fun q => nomatch q) Own.Ok.nil (lenOf pd_5 rfl) rfl (Nat.le_of_eq rfl) (by decide) (by decide) (by decide) (by decide) rfl rfl ?_
              intro v27 vm27 T27 h27 L27 X27 V27 Q27
              obtain rfl := Q27
              refine Own.s_iloadN X27 dc_method_7_61 rfl rfl ?_
              refine Own.s_iconst X27 dc_method_7_62 (2 : Int32) (by decide) rfl ?_
              refine Own.c_static X27 dc_method_7_63 (tw66 hw) (tw67 hw) (tw5 hw) (tw68 hw) (by decide) [(.int p1), (.int (2 : Int32))] [(.int (own_ch p0 (2 : Int32)))] 1 (rm_ch hw p1 (2 : Int32) h27 X27.hE) (fun q => nomatch q) Own.Ok.nil (lenOf pd_5 rfl) rfl (Nat.le_of_eq rfl) (by decide) (by decide) (by decide) (by decide) rfl rfl ?_
              intro v28 vm28 T28 h28 L28 X28 V28 Q28
              obtain rfl := Q28
              by_cases hc66_29 : (own_ch p0 (2 : Int32)) = (own_ch p1 (2 : Int32))
              · refine Own.s_icmpF X28 dc_method_7_66 (teq hc66_29).2 rfl ?_
                refine Own.s_iconst X28 dc_method_7_69 (1 : Int32) (by decide) rfl ?_
                refine Own.s_goto X28 dc_method_7_70 (by decide) (pc' := 74) (by decide) ?_
                exact Own.r_nar X28 rfl (Or.inl rfl) dc_method_7_74 (by decide) (by decide) (Or.inl ⟨by decide, own_yes hc10_1 (Or.inr hc30_17) (Or.inr hc48_25) (Or.inr hc66_29)⟩)
              · refine Own.s_icmpT X28 dc_method_7_66 (feq hc66_29).2 (by decide) (pc' := 73) (by decide) ?_
                refine Own.s_iconst X28 dc_method_7_73 (0 : Int32) (by decide) rfl ?_
                exact Own.r_nar X28 rfl (Or.inl rfl) dc_method_7_74 (by decide) (by decide) (Or.inr ⟨by decide, fun q => hc66_29 (own_no2 q hc53_26)⟩)
          · refine Own.s_icmpT X24 dc_method_7_48 (feq hc48_25).2 (by decide) (pc' := 73) (by decide) ?_
            refine Own.s_iconst X24 dc_method_7_73 (0 : Int32) (by decide) rfl ?_
            exact Own.r_nar X24 rfl (Or.inl rfl) dc_method_7_74 (by decide) (by decide) (Or.inr ⟨by decide, fun q => hc48_25 (own_no1 q hc35_18)⟩)
      · refine Own.s_icmpT X16 dc_method_7_30 (feq hc30_17).2 (by decide) (pc' := 73) (by decide) ?_
        refine Own.s_iconst X16 dc_method_7_73 (0 : Int32) (by decide) rfl ?_
        exact Own.r_nar X16 rfl (Or.inl rfl) dc_method_7_74 (by decide) (by decide) (Or.inr ⟨by decide, fun q => hc30_17 (own_no0 q hc17_2)⟩)
  · refine Own.s_icmpF X0 dc_method_7_10 (feq hc10_1).1 rfl ?_
    refine Own.s_iconst X0 dc_method_7_13 (0 : Int32) (by decide) rfl ?_
    exact Own.r_nar X0 rfl (Or.inl rfl) dc_method_7_14 (by decide) (by decide) (Or.inr ⟨by decide, fun q => hc10_1 (own_len q)⟩)
theorem own_some {k p : Int32} (h0 : ¬ k = 0) (h : own_mk k p = none) : False := by unfold own_mk at h; rw [if_neg h0] at h; split at h <;> cases h
theorem own_u1 {k p k' p' : Int32} (h : k = 1) (h0 : ¬ k' = 0) (hn : ¬ k = k') (q : own_mk k p = own_mk k' p') : False := by
  rw [own_mk1 h, own_mk2 h0 fun r => hn (h.trans r.symm)] at q; exact own_dl_urn p' (Option.some.inj q).symm
theorem own_u2 {k p k' p' : Int32} (h0 : ¬ k = 0) (h1 : ¬ k = 1) (h : k' = 1) (q : own_mk k p = own_mk k' p') : False := by
  rw [own_mk1 h, own_mk2 h0 h1] at q; exact own_dl_urn p (Option.some.inj q)
theorem own_u3 {k p k' p' : Int32} (h0 : ¬ k = 0) (h1 : ¬ k = 1) (h0' : ¬ k' = 0) (h1' : ¬ k' = 1) (q : own_mk k p = own_mk k' p') : own_dl p = own_dl p' := by
  rw [own_mk2 h0 h1, own_mk2 h0' h1'] at q; exact Option.some.inj q
set_option maxRecDepth 65536 in
set_option maxHeartbeats 40000000 in
theorem rm_eq {l : Launch} {Z : State} {a0 : Array Value} (hw : ∀ d ∈ tables_1, d.before a0 Z = true) (k0 q0 k1 q1 : Int32) (hk : ¬ k0 = 0) (h0 : Heap) (hE : Ext Z.heap h0)  :
    Own.Ctr false l Z a0 EL (⟨"com/example/fedweave/fedweave/NameIdPolicyAllowsPinLaw", "eq", "(IIII)Z"⟩ : MethodName) method_6_code 4 (Option.some Jvm.ClassFile.FieldType.boolean) ({ frames := 2, cells := 0, slots := 0, locals := 29 } : Room) #[(.int k0), (.int q0), (.int k1), (.int q1)] h0 [] (fun v h => (v = some (.int (1 : Int32)) ∧ own_mk k0 q0 = own_mk k1 q1) ∨ (v = some (.int (0 : Int32)) ∧ ¬ own_mk k0 q0 = own_mk k1 q1)) := by
  refine Own.Ctr.of pn_14 (ef_10 k0 q0 k1 q1) hE (ewEL hw) ?_
  intro p e s m below meth c T0 X0 hsafe
  refine Own.s_iloadN X0 dc_method_6_0 rfl rfl ?_
  by_cases hc1_1 : k1 = (0 : Int32)
  · refine Own.s_ifF X0 dc_method_6_1 ((if0 _ _).trans (teq hc1_1).2) rfl ?_
    refine Own.s_iconst X0 dc_method_6_4 (0 : Int32) (by decide) rfl ?_
    exact Own.r_nar X0 rfl (Or.inl rfl) dc_method_6_5 (by decide) (by decide) (Or.inr ⟨by decide, fun q => own_some hk (q.trans (own_mk0 hc1_1))⟩)
  · refine Own.s_ifT X0 dc_method_6_1 ((if0 _ _).trans (feq hc1_1).2) (by decide) (pc' := 6) (by decide) ?_
    refine Own.s_iloadN X0 dc_method_6_6 rfl rfl ?_
    refine Own.s_iconst X0 dc_method_6_7 (1 : Int32) (by decide) rfl ?_
    by_cases hc8_2 : k0 = (1 : Int32)
    · refine Own.s_icmpT X0 dc_method_6_8 (teq hc8_2).1 (by decide) (pc' := 16) (by decide) ?_
      refine Own.s_iloadN X0 dc_method_6_16 rfl rfl ?_
      refine Own.s_iloadN X0 dc_method_6_17 rfl rfl ?_
      by_cases hc18_3 : k0 = k1
      · refine Own.s_icmpF X0 dc_method_6_18 (teq hc18_3).2 rfl ?_
        refine Own.s_iconst X0 dc_method_6_21 (1 : Int32) (by decide) rfl ?_
        refine Own.s_goto X0 dc_method_6_22 (by decide) (pc' := 26) (by decide) ?_
        exact Own.r_nar X0 rfl (Or.inl rfl) dc_method_6_26 (by decide) (by decide) (Or.inl ⟨by decide, by rw [own_mk1 hc8_2, own_mk1 (hc18_3.symm.trans hc8_2)]⟩)
      · refine Own.s_icmpT X0 dc_method_6_18 (feq hc18_3).2 (by decide) (pc' := 25) (by decide) ?_
        refine Own.s_iconst X0 dc_method_6_25 (0 : Int32) (by decide) rfl ?_
        exact Own.r_nar X0 rfl (Or.inl rfl) dc_method_6_26 (by decide) (by decide) (Or.inr ⟨by decide, fun q => own_u1 hc8_2 hc1_1 hc18_3 q⟩)
    · refine Own.s_icmpF X0 dc_method_6_8 (feq hc8_2).1 rfl ?_
      refine Own.s_iloadN X0 dc_method_6_11 rfl rfl ?_
      refine Own.s_iconst X0 dc_method_6_12 (1 : Int32) (by decide) rfl ?_
      by_cases hc13_4 : k1 = (1 : Int32)
      · refine Own.s_icmpF X0 dc_method_6_13 (teq hc13_4).2 rfl ?_
        refine Own.s_iloadN X0 dc_method_6_16 rfl rfl ?_
        refine Own.s_iloadN X0 dc_method_6_17 rfl rfl ?_
        by_cases hc18_5 : k0 = k1
        · refine Own.s_icmpF X0 dc_method_6_18 (teq hc18_5).2 rfl ?_
          refine Own.s_iconst X0 dc_method_6_21 (1 : Int32) (by decide) rfl ?_
          refine Own.s_goto X0 dc_method_6_22 (by decide) (pc' := 26) (by decide) ?_
          exact Own.r_nar X0 rfl (Or.inl rfl) dc_method_6_26 (by decide) (by decide) (absurd (hc18_5.trans hc13_4) hc8_2)
        · refine Own.s_icmpT X0 dc_method_6_18 (feq hc18_5).2 (by decide) (pc' := 25) (by decide) ?_
          refine Own.s_iconst X0 dc_method_6_25 (0 : Int32) (by decide) rfl ?_
          exact Own.r_nar X0 rfl (Or.inl rfl) dc_method_6_26 (by decide) (by decide) (Or.inr ⟨by decide, fun q => own_u2 hk hc8_2 hc13_4 q⟩)
      · refine Own.s_icmpT X0 dc_method_6_13 (feq hc13_4).2 (by decide) (pc' := 27) (by decide) ?_
        refine Own.s_iloadN X0 dc_method_6_27 rfl rfl ?_
        refine Own.s_iloadN X0 dc_method_6_28 rfl rfl ?_
        refine Own.c_static X0 dc_method_6_29 (tw91 hw) (tw92 hw) (tw5 hw) (tw93 hw) (by decide) [(.int q0), (.int q1)] [] 0 (rm_deq hw q0 q1 h0 X0.hE) (fun q => nomatch q) Own.Ok.nil (lenOf pd_10 rfl) rfl (Nat.le_of_eq rfl) (by decide) (by decide) (by decide) (by decide) rfl rfl ?_
        intro v6 vm6 T6 h6 L6 X6 V6 Q6
        rcases Q6 with Q6 | Q6
        · obtain ⟨rfl, hE6⟩ := Q6
          exact Own.r_nar X6 rfl (Or.inl rfl) dc_method_6_32 (by decide) (by decide) (Or.inl ⟨by decide, by rw [own_mk2 hk hc8_2, own_mk2 hc1_1 hc13_4, hE6]⟩)
        · obtain ⟨rfl, hE6⟩ := Q6
          exact Own.r_nar X6 rfl (Or.inl rfl) dc_method_6_32 (by decide) (by decide) (Or.inr ⟨by decide, fun q => hE6 (own_u3 hk hc8_2 hc1_1 hc13_4 q)⟩)
set_option maxRecDepth 65536 in
set_option maxHeartbeats 40000000 in
theorem rm_law {l : Launch} {Z : State} {a0 : Array Value} (hw : ∀ d ∈ tables_1, d.before a0 Z = true) (p0 p1 p2 p3 p4 : Int32) {zc : Int32} (SC : Sta Z Z.heap "java/lang/String" "COMPACT_STRINGS" "Z" (.int zc)) (hzc : ¬ zc = 0) {fm : Value} (SF : Sta Z Z.heap "jdk/internal/util/Preconditions" "SIOOBE_FORMATTER" "Ljava/util/function/BiFunction;" fm) (hfm : fm.isRef = true) (h0 : Heap) (hE : Ext Z.heap h0)  :
    Own.Ctr true l Z a0 EL x code maxLocals ret room_1 #[(.int p0), (.int p1), (.int p2), (.int p3), (.int p4)] h0 [] (fun v h => v = some (.int (1 : Int32))) := by
  refine Own.Ctr.of pn_15 (ef_11 p0 p1 p2 p3 p4) hE (ewEL hw) ?_
  intro p e s m below meth c T0 X0 hsafe
  have SC0 := Sta.ext hE SC
  have SF0 := Sta.ext hE SF
  refine Own.s_iloadN X0 at_0 rfl rfl ?_
  refine Own.s_iconst X0 at_1 (3 : Int32) (by decide) rfl ?_
  refine Own.s_iand X0 at_2 rfl ?_
  refine Own.s_istore X0 at_3 #[.val (.int p0), .val (.int p1), .val (.int p2), .val (.int p3), .val (.int p4), .val (.int (p0 &&& (3 : Int32))), .unset, .unset, .unset, .unset, .unset, .unset, .unset, .unset, .unset] rfl rfl ?_
  refine Own.s_iloadN X0 at_5 rfl rfl ?_
  refine Own.s_iconst X0 at_6 (2 : Int32) (by decide) rfl ?_
  refine Own.s_iushr X0 at_7 rfl ?_
  refine Own.s_iconst X0 at_8 (3 : Int32) (by decide) rfl ?_
  refine Own.s_iand X0 at_9 rfl ?_
  refine Own.s_istore X0 at_10 #[.val (.int p0), .val (.int p1), .val (.int p2), .val (.int p3), .val (.int p4), .val (.int (p0 &&& (3 : Int32))), .val (.int ((XT.ushr p0 (2 : Int32)) &&& (3 : Int32))), .unset, .unset, .unset, .unset, .unset, .unset, .unset, .unset] rfl rfl ?_
  refine Own.s_iloadN X0 at_12 rfl rfl ?_
  refine Own.s_iconst X0 at_13 (4 : Int32) (by decide) rfl ?_
  refine Own.s_iushr X0 at_14 rfl ?_
  refine Own.s_iconst X0 at_15 (3 : Int32) (by decide) rfl ?_
  refine Own.s_iand X0 at_16 rfl ?_
  refine Own.s_istore X0 at_17 #[.val (.int p0), .val (.int p1), .val (.int p2), .val (.int p3), .val (.int p4), .val (.int (p0 &&& (3 : Int32))), .val (.int ((XT.ushr p0 (2 : Int32)) &&& (3 : Int32))), .val (.int ((XT.ushr p0 (4 : Int32)) &&& (3 : Int32))), .unset, .unset, .unset, .unset, .unset, .unset, .unset] rfl rfl ?_
  refine Own.s_iloadN X0 at_19 rfl rfl ?_
  refine Own.s_bipush X0 at_20 (6 : Int32) (by decide) rfl ?_
  refine Own.s_iushr X0 at_22 rfl ?_
  refine Own.s_iconst X0 at_23 (3 : Int32) (by decide) rfl ?_
  refine Own.s_iand X0 at_24 rfl ?_
  refine Own.s_istore X0 at_25 #[.val (.int p0), .val (.int p1), .val (.int p2), .val (.int p3), .val (.int p4), .val (.int (p0 &&& (3 : Int32))), .val (.int ((XT.ushr p0 (2 : Int32)) &&& (3 : Int32))), .val (.int ((XT.ushr p0 (4 : Int32)) &&& (3 : Int32))), .val (.int ((XT.ushr p0 (6 : Int32)) &&& (3 : Int32))), .unset, .unset, .unset, .unset, .unset, .unset] rfl rfl ?_
  refine Own.s_iload X0 at_27 rfl rfl ?_
  refine Own.s_iconst X0 at_29 (3 : Int32) (by decide) rfl ?_
  by_cases hc30_1 : ((XT.ushr p0 (2 : Int32)) &&& (3 : Int32)) = (3 : Int32)
  · refine Own.s_icmpF X0 at_30 (teq hc30_1).2 rfl ?_
    refine Own.s_iloadN X0 at_33 rfl rfl ?_
    refine Own.s_goto X0 at_34 (by decide) (pc' := 38) (by decide) ?_
    refine Own.s_istore X0 at_38 #[.val (.int p0), .val (.int p1), .val (.int p2), .val (.int p3), .val (.int p4), .val (.int (p0 &&& (3 : Int32))), .val (.int ((XT.ushr p0 (2 : Int32)) &&& (3 : Int32))), .val (.int ((XT.ushr p0 (4 : Int32)) &&& (3 : Int32))), .val (.int ((XT.ushr p0 (6 : Int32)) &&& (3 : Int32))), .val (.int p1), .unset, .unset, .unset, .unset, .unset] rfl rfl ?_
    refine Own.s_iload X0 at_40 rfl rfl ?_
    refine Own.s_iconst X0 at_42 (3 : Int32) (by decide) rfl ?_
    by_cases hc43_2 : ((XT.ushr p0 (6 : Int32)) &&& (3 : Int32)) = (3 : Int32)
    · refine Own.s_icmpF X0 at_43 (teq hc43_2).2 rfl ?_
      refine Own.s_iloadN X0 at_46 rfl rfl ?_
      refine Own.s_goto X0 at_47 (by decide) (pc' := 52) (by decide) ?_
      refine Own.s_istore X0 at_52 #[.val (.int p0), .val (.int p1), .val (.int p2), .val (.int p3), .val (.int p4), .val (.int (p0 &&& (3 : Int32))), .val (.int ((XT.ushr p0 (2 : Int32)) &&& (3 : Int32))), .val (.int ((XT.ushr p0 (4 : Int32)) &&& (3 : Int32))), .val (.int ((XT.ushr p0 (6 : Int32)) &&& (3 : Int32))), .val (.int p1), .val (.int p3), .unset, .unset, .unset, .unset] rfl rfl ?_
      refine Own.s_new X0 at_54 (tw0 hw) (tw1 hw) (tw2 hw) (by decide) (by decide) rfl ?_
      intro b3 T3 h3 X3 V3 g3 E3 O3 D3
      have F3_format : Fld Z h3 b3 "com/example/fedweave/fedweave/AuthnRequest$NameIdPolicy" "format" "Ljava/lang/String;" (.null) := D3 (Or.inr (tw19 hw)) (ty := (.object "java/lang/String")) (by decide)
      have F3_spNameQualifier : Fld Z h3 b3 "com/example/fedweave/fedweave/AuthnRequest$NameIdPolicy" "spNameQualifier" "Ljava/lang/String;" (.null) := D3 (Or.inr (tw21 hw)) (ty := (.object "java/lang/String")) (by decide)
      refine Own.s_dup X3 at_57 rfl rfl ?_
      refine Own.s_iload X3 at_58 rfl rfl ?_
      refine Own.s_iloadN X3 at_60 rfl rfl ?_
      refine Own.c_static X3 at_61 (tw3 hw) (tw4 hw) (tw5 hw) (tw6 hw) (by decide) [(.int (p0 &&& (3 : Int32))), (.int p1)] [(.ref b3), (.ref b3)] 2 (rm_make hw (p0 &&& (3 : Int32)) p1 SC hzc SF hfm h3 X3.hE) (fun _ => rfl) Own.Ok.nil (lenOf pd_11 rfl) rfl (Nat.le_of_eq rfl) (by decide) (by decide) (by decide) (by decide) rfl rfl ?_
      intro v4 vm4 T4 h4 L4 X4 V4 Q4
      obtain ⟨u4, rfl, M4⟩ := Q4
      have q4 := M4.isRef
      refine Own.s_iload X4 at_64 rfl rfl ?_
      refine Own.s_iloadN X4 at_66 rfl rfl ?_
      refine Own.c_static X4 at_67 (tw3 hw) (tw4 hw) (tw5 hw) (tw6 hw) (by decide) [(.int ((XT.ushr p0 (4 : Int32)) &&& (3 : Int32))), (.int p3)] [u4, (.ref b3), (.ref b3)] 3 (rm_make hw ((XT.ushr p0 (4 : Int32)) &&& (3 : Int32)) p3 SC hzc SF hfm h4 X4.hE) (fun _ => rfl) Own.Ok.nil (lenOf pd_11 rfl) rfl (by rcases ref_cases q4 with rfl | ⟨_, rfl⟩ <;>  exact Nat.le_of_eq rfl) (by decide) (by decide) (by decide) (by decide) rfl rfl ?_
      intro v5 vm5 T5 h5 L5 X5 V5 Q5
      obtain ⟨u5, rfl, M5⟩ := Q5
      have q5 := M5.isRef
      have ex6 : Ext h3 h4 := Own.extK (Own.Ext.rfl' h3) V4.1 all0
      have ex7 : Ext h3 h5 := Own.extK ex6 V5.1 all0
      have F_8 := Fld.ext ex7 F3_format
      have F_9 := Fld.ext ex7 F3_spNameQualifier
      have E_10 := Exa.ext ex7 E3
      have O11 := ((O3.ev V4).ev V5)
      refine Own.c_special X5 at_70 rfl (tw7 hw) (tw8 hw) (tw2 hw) (tw9 hw) (by decide) b3 [u4, u5] [(.ref b3)] 1 (rm_np hw b3 u4 q4 u5 q5  h5 X5.hE O11.2.1 E_10 F_8 F_9 ) (fun q => nomatch q) (Own.Ok.one O11) (lenOf pd_12 rfl) rfl (Nat.le_of_eq rfl) (by decide) (by decide) (by decide) (by decide) rfl rfl ?_
      intro v12 vm12 T12 h12 L12 X12 V12 Q12
      obtain ⟨rfl, E12, F12_0, F12_1⟩ := Q12
      refine Own.s_astore X12 at_73 rfl #[.val (.int p0), .val (.int p1), .val (.int p2), .val (.int p3), .val (.int p4), .val (.int (p0 &&& (3 : Int32))), .val (.int ((XT.ushr p0 (2 : Int32)) &&& (3 : Int32))), .val (.int ((XT.ushr p0 (4 : Int32)) &&& (3 : Int32))), .val (.int ((XT.ushr p0 (6 : Int32)) &&& (3 : Int32))), .val (.int p1), .val (.int p3), .val (.ref b3), .unset, .unset, .unset] rfl rfl ?_
      refine Own.s_aload X12 at_75 rfl rfl rfl ?_
      refine Own.s_iload X12 at_77 rfl rfl ?_
      refine Own.s_iload X12 at_79 rfl rfl ?_
      refine Own.c_static X12 at_81 (tw3 hw) (tw4 hw) (tw5 hw) (tw6 hw) (by decide) [(.int ((XT.ushr p0 (2 : Int32)) &&& (3 : Int32))), (.int p1)] [(.ref b3)] 1 (rm_make hw ((XT.ushr p0 (2 : Int32)) &&& (3 : Int32)) p1 SC hzc SF hfm h12 X12.hE) (fun _ => rfl) Own.Ok.nil (lenOf pd_11 rfl) rfl (Nat.le_of_eq rfl) (by decide) (by decide) (by decide) (by decide) rfl rfl ?_
      intro v13 vm13 T13 h13 L13 X13 V13 Q13
      obtain ⟨u13, rfl, M13⟩ := Q13
      have q13 := M13.isRef
      refine Own.s_iload X13 at_84 rfl rfl ?_
      refine Own.s_iload X13 at_86 rfl rfl ?_
      refine Own.c_static X13 at_88 (tw3 hw) (tw4 hw) (tw5 hw) (tw6 hw) (by decide) [(.int ((XT.ushr p0 (6 : Int32)) &&& (3 : Int32))), (.int p3)] [u13, (.ref b3)] 2 (rm_make hw ((XT.ushr p0 (6 : Int32)) &&& (3 : Int32)) p3 SC hzc SF hfm h13 X13.hE) (fun _ => rfl) Own.Ok.nil (lenOf pd_11 rfl) rfl (by rcases ref_cases q13 with rfl | ⟨_, rfl⟩ <;>  exact Nat.le_of_eq rfl) (by decide) (by decide) (by decide) (by decide) rfl rfl ?_
      intro v14 vm14 T14 h14 L14 X14 V14 Q14
      obtain ⟨u14, rfl, M14⟩ := Q14
      have q14 := M14.isRef
      have ex15 : Ext h12 h13 := Own.extK (Own.Ext.rfl' h12) V13.1 all0
      have ex16 : Ext h12 h14 := Own.extK ex15 V14.1 all0
      have E_17 := Exa.ext ex16 E12
      have F_18 := Fld.ext ex16 F12_0
      have F_19 := Fld.ext ex16 F12_1
      have M_20 := (Own.NStr.ext (Own.NStr.ext (Own.NStr.keepE (Own.NStr.ext M4 (Own.extN V5.1)) V12.1 E_10 (by decide) (tw1 hw)) (Own.extN V13.1)) (Own.extN V14.1))
      have M_21 := (Own.NStr.ext (Own.NStr.ext (Own.NStr.keepE M5 V12.1 E_10 (by decide) (tw1 hw)) (Own.extN V13.1)) (Own.extN V14.1))
      have ex22 : Ext h13 h14 := Own.extK (Own.Ext.rfl' h13) V14.1 all0
      have M_23 := Own.NStr.ext M13 ex22
      refine Own.c_virtual X14 at_91 (tw22 hw) (tw23 hw) (notFace_of_selects (args := #[]) (mvT X14.hZ (tw25 hw))) (tw25 hw) (tw24 hw) (tw2 hw) (tw26 hw) (by decide) b3 [u13, u14] [] 0 E_17 (rm_allows hw b3 u4 u5 u13 u14 (own_mk (p0 &&& (3 : Int32)) p1) (own_mk ((XT.ushr p0 (4 : Int32)) &&& (3 : Int32)) p3) (own_mk ((XT.ushr p0 (2 : Int32)) &&& (3 : Int32)) p1) (own_mk ((XT.ushr p0 (6 : Int32)) &&& (3 : Int32)) p3) q4 q5 q13 q14 SC hzc SF hfm h14 X14.hE E_17 F_18 F_19 M_20 M_21 M_23 M14) (fun _ => rfl) Own.Ok.nil (lenOf pd_13 rfl) rfl (Nat.le_of_eq rfl) (by decide) (by decide) (by decide) (by decide) rfl rfl ?_
      intro v24 vm24 T24 h24 L24 X24 V24 Q24
      rcases Q24 with Q24 | Q24
      · obtain ⟨rfl, hA24⟩ := Q24
        refine Own.s_istore X24 at_94 #[.val (.int p0), .val (.int p1), .val (.int p2), .val (.int p3), .val (.int p4), .val (.int (p0 &&& (3 : Int32))), .val (.int ((XT.ushr p0 (2 : Int32)) &&& (3 : Int32))), .val (.int ((XT.ushr p0 (4 : Int32)) &&& (3 : Int32))), .val (.int ((XT.ushr p0 (6 : Int32)) &&& (3 : Int32))), .val (.int p1), .val (.int p3), .val (.ref b3), .val (.int (1 : Int32)), .unset, .unset] rfl rfl ?_
        refine Own.s_iload X24 at_96 rfl rfl ?_
        by_cases hc98_25 : (p0 &&& (3 : Int32)) = (0 : Int32)
        · refine Own.s_ifT X24 at_98 ((if0 _ _).trans (teq hc98_25).1) (by decide) (pc' := 120) (by decide) ?_
          refine Own.s_iconst X24 at_120 (1 : Int32) (by decide) rfl ?_
          refine Own.s_goto X24 at_121 (by decide) (pc' := 125) (by decide) ?_
          refine Own.s_istore X24 at_125 #[.val (.int p0), .val (.int p1), .val (.int p2), .val (.int p3), .val (.int p4), .val (.int (p0 &&& (3 : Int32))), .val (.int ((XT.ushr p0 (2 : Int32)) &&& (3 : Int32))), .val (.int ((XT.ushr p0 (4 : Int32)) &&& (3 : Int32))), .val (.int ((XT.ushr p0 (6 : Int32)) &&& (3 : Int32))), .val (.int p1), .val (.int p3), .val (.ref b3), .val (.int (1 : Int32)), .val (.int (1 : Int32)), .unset] rfl rfl ?_
          refine Own.s_iload X24 at_127 rfl rfl ?_
          by_cases hc129_26 : ((XT.ushr p0 (4 : Int32)) &&& (3 : Int32)) = (0 : Int32)
          · refine Own.s_ifT X24 at_129 ((if0 _ _).trans (teq hc129_26).1) (by decide) (pc' := 145) (by decide) ?_
            refine Own.s_iconst X24 at_145 (1 : Int32) (by decide) rfl ?_
            refine Own.s_goto X24 at_146 (by decide) (pc' := 150) (by decide) ?_
            refine Own.s_istore X24 at_150 #[.val (.int p0), .val (.int p1), .val (.int p2), .val (.int p3), .val (.int p4), .val (.int (p0 &&& (3 : Int32))), .val (.int ((XT.ushr p0 (2 : Int32)) &&& (3 : Int32))), .val (.int ((XT.ushr p0 (4 : Int32)) &&& (3 : Int32))), .val (.int ((XT.ushr p0 (6 : Int32)) &&& (3 : Int32))), .val (.int p1), .val (.int p3), .val (.ref b3), .val (.int (1 : Int32)), .val (.int (1 : Int32)), .val (.int (1 : Int32))] rfl rfl ?_
            refine Own.s_iload X24 at_152 rfl rfl ?_
            refine Own.s_iload X24 at_154 rfl rfl ?_
            refine Own.s_ifF X24 at_156 ((if0 _ _).trans (feq (show ¬ (1 : Int32) = (0 : Int32) by decide)).1) rfl ?_
            refine Own.s_iload X24 at_159 rfl rfl ?_
            refine Own.s_ifF X24 at_161 ((if0 _ _).trans (feq (show ¬ (1 : Int32) = (0 : Int32) by decide)).1) rfl ?_
            refine Own.s_iconst X24 at_164 (1 : Int32) (by decide) rfl ?_
            refine Own.s_goto X24 at_165 (by decide) (pc' := 169) (by decide) ?_
            refine Own.s_icmpF X24 at_169 (teq (show (1 : Int32) = (1 : Int32) by decide)).2 rfl ?_
            refine Own.s_iconst X24 at_172 (1 : Int32) (by decide) rfl ?_
            refine Own.s_goto X24 at_173 (by decide) (pc' := 177) (by decide) ?_
            exact Own.r_nar X24 rfl (Or.inl rfl) at_177 (by decide) (by decide) (by decide)
          · refine Own.s_ifF X24 at_129 ((if0 _ _).trans (feq hc129_26).1) rfl ?_
            refine Own.s_iload X24 at_132 rfl rfl ?_
            refine Own.s_iloadN X24 at_134 rfl rfl ?_
            refine Own.s_iload X24 at_135 rfl rfl ?_
            refine Own.s_iload X24 at_137 rfl rfl ?_
            refine Own.c_static X24 at_139 (tw62 hw) (tw63 hw) (tw5 hw) (tw64 hw) (by decide) [(.int ((XT.ushr p0 (4 : Int32)) &&& (3 : Int32))), (.int p3), (.int ((XT.ushr p0 (6 : Int32)) &&& (3 : Int32))), (.int p3)] [] 0 (rm_eq hw ((XT.ushr p0 (4 : Int32)) &&& (3 : Int32)) p3 ((XT.ushr p0 (6 : Int32)) &&& (3 : Int32)) p3 hc129_26 h24 X24.hE) (fun q => nomatch q) Own.Ok.nil (lenOf pd_14 rfl) rfl (Nat.le_of_eq rfl) (by decide) (by decide) (by decide) (by decide) rfl rfl ?_
            intro v27 vm27 T27 h27 L27 X27 V27 Q27
            rcases Q27 with Q27 | Q27
            · obtain ⟨rfl, hE27⟩ := Q27
              refine Own.s_ifF X27 at_142 ((if0 _ _).trans (feq (show ¬ (1 : Int32) = (0 : Int32) by decide)).1) rfl ?_
              refine Own.s_iconst X27 at_145 (1 : Int32) (by decide) rfl ?_
              refine Own.s_goto X27 at_146 (by decide) (pc' := 150) (by decide) ?_
              refine Own.s_istore X27 at_150 #[.val (.int p0), .val (.int p1), .val (.int p2), .val (.int p3), .val (.int p4), .val (.int (p0 &&& (3 : Int32))), .val (.int ((XT.ushr p0 (2 : Int32)) &&& (3 : Int32))), .val (.int ((XT.ushr p0 (4 : Int32)) &&& (3 : Int32))), .val (.int ((XT.ushr p0 (6 : Int32)) &&& (3 : Int32))), .val (.int p1), .val (.int p3), .val (.ref b3), .val (.int (1 : Int32)), .val (.int (1 : Int32)), .val (.int (1 : Int32))] rfl rfl ?_
              refine Own.s_iload X27 at_152 rfl rfl ?_
              refine Own.s_iload X27 at_154 rfl rfl ?_
              refine Own.s_ifF X27 at_156 ((if0 _ _).trans (feq (show ¬ (1 : Int32) = (0 : Int32) by decide)).1) rfl ?_
              refine Own.s_iload X27 at_159 rfl rfl ?_
              refine Own.s_ifF X27 at_161 ((if0 _ _).trans (feq (show ¬ (1 : Int32) = (0 : Int32) by decide)).1) rfl ?_
              refine Own.s_iconst X27 at_164 (1 : Int32) (by decide) rfl ?_
              refine Own.s_goto X27 at_165 (by decide) (pc' := 169) (by decide) ?_
              refine Own.s_icmpF X27 at_169 (teq (show (1 : Int32) = (1 : Int32) by decide)).2 rfl ?_
              refine Own.s_iconst X27 at_172 (1 : Int32) (by decide) rfl ?_
              refine Own.s_goto X27 at_173 (by decide) (pc' := 177) (by decide) ?_
              exact Own.r_nar X27 rfl (Or.inl rfl) at_177 (by decide) (by decide) (by decide)
            · obtain ⟨rfl, hE27⟩ := Q27
              refine Own.s_ifT X27 at_142 ((if0 _ _).trans (teq (show (0 : Int32) = (0 : Int32) by decide)).1) (by decide) (pc' := 149) (by decide) ?_
              refine Own.s_iconst X27 at_149 (0 : Int32) (by decide) rfl ?_
              refine Own.s_istore X27 at_150 #[.val (.int p0), .val (.int p1), .val (.int p2), .val (.int p3), .val (.int p4), .val (.int (p0 &&& (3 : Int32))), .val (.int ((XT.ushr p0 (2 : Int32)) &&& (3 : Int32))), .val (.int ((XT.ushr p0 (4 : Int32)) &&& (3 : Int32))), .val (.int ((XT.ushr p0 (6 : Int32)) &&& (3 : Int32))), .val (.int p1), .val (.int p3), .val (.ref b3), .val (.int (1 : Int32)), .val (.int (1 : Int32)), .val (.int (0 : Int32))] rfl rfl ?_
              refine Own.s_iload X27 at_152 rfl rfl ?_
              refine Own.s_iload X27 at_154 rfl rfl ?_
              refine Own.s_ifF X27 at_156 ((if0 _ _).trans (feq (show ¬ (1 : Int32) = (0 : Int32) by decide)).1) rfl ?_
              refine Own.s_iload X27 at_159 rfl rfl ?_
              refine Own.s_ifT X27 at_161 ((if0 _ _).trans (teq (show (0 : Int32) = (0 : Int32) by decide)).1) (by decide) (pc' := 168) (by decide) ?_
              refine Own.s_iconst X27 at_168 (0 : Int32) (by decide) rfl ?_
              refine Own.s_icmpT X27 at_169 (feq (show ¬ (1 : Int32) = (0 : Int32) by decide)).2 (by decide) (pc' := 176) (by decide) ?_
              refine Own.s_iconst X27 at_176 (0 : Int32) (by decide) rfl ?_
              exact Own.r_nar X27 rfl (Or.inl rfl) at_177 (by decide) (by decide) (absurd hA24.2 (own_notS hc129_26 hE27))
        · refine Own.s_ifF X24 at_98 ((if0 _ _).trans (feq hc98_25).1) rfl ?_
          refine Own.s_iload X24 at_101 rfl rfl ?_
          refine Own.s_iconst X24 at_103 (1 : Int32) (by decide) rfl ?_
          by_cases hc104_28 : (p0 &&& (3 : Int32)) = (1 : Int32)
          · refine Own.s_icmpT X24 at_104 (teq hc104_28).1 (by decide) (pc' := 120) (by decide) ?_
            refine Own.s_iconst X24 at_120 (1 : Int32) (by decide) rfl ?_
            refine Own.s_goto X24 at_121 (by decide) (pc' := 125) (by decide) ?_
            refine Own.s_istore X24 at_125 #[.val (.int p0), .val (.int p1), .val (.int p2), .val (.int p3), .val (.int p4), .val (.int (p0 &&& (3 : Int32))), .val (.int ((XT.ushr p0 (2 : Int32)) &&& (3 : Int32))), .val (.int ((XT.ushr p0 (4 : Int32)) &&& (3 : Int32))), .val (.int ((XT.ushr p0 (6 : Int32)) &&& (3 : Int32))), .val (.int p1), .val (.int p3), .val (.ref b3), .val (.int (1 : Int32)), .val (.int (1 : Int32)), .unset] rfl rfl ?_
            refine Own.s_iload X24 at_127 rfl rfl ?_
            by_cases hc129_29 : ((XT.ushr p0 (4 : Int32)) &&& (3 : Int32)) = (0 : Int32)
            · refine Own.s_ifT X24 at_129 ((if0 _ _).trans (teq hc129_29).1) (by decide) (pc' := 145) (by decide) ?_
              refine Own.s_iconst X24 at_145 (1 : Int32) (by decide) rfl ?_
              refine Own.s_goto X24 at_146 (by decide) (pc' := 150) (by decide) ?_
              refine Own.s_istore X24 at_150 #[.val (.int p0), .val (.int p1), .val (.int p2), .val (.int p3), .val (.int p4), .val (.int (p0 &&& (3 : Int32))), .val (.int ((XT.ushr p0 (2 : Int32)) &&& (3 : Int32))), .val (.int ((XT.ushr p0 (4 : Int32)) &&& (3 : Int32))), .val (.int ((XT.ushr p0 (6 : Int32)) &&& (3 : Int32))), .val (.int p1), .val (.int p3), .val (.ref b3), .val (.int (1 : Int32)), .val (.int (1 : Int32)), .val (.int (1 : Int32))] rfl rfl ?_
              refine Own.s_iload X24 at_152 rfl rfl ?_
              refine Own.s_iload X24 at_154 rfl rfl ?_
              refine Own.s_ifF X24 at_156 ((if0 _ _).trans (feq (show ¬ (1 : Int32) = (0 : Int32) by decide)).1) rfl ?_
              refine Own.s_iload X24 at_159 rfl rfl ?_
              refine Own.s_ifF X24 at_161 ((if0 _ _).trans (feq (show ¬ (1 : Int32) = (0 : Int32) by decide)).1) rfl ?_
              refine Own.s_iconst X24 at_164 (1 : Int32) (by decide) rfl ?_
              refine Own.s_goto X24 at_165 (by decide) (pc' := 169) (by decide) ?_
              refine Own.s_icmpF X24 at_169 (teq (show (1 : Int32) = (1 : Int32) by decide)).2 rfl ?_
              refine Own.s_iconst X24 at_172 (1 : Int32) (by decide) rfl ?_
              refine Own.s_goto X24 at_173 (by decide) (pc' := 177) (by decide) ?_
              exact Own.r_nar X24 rfl (Or.inl rfl) at_177 (by decide) (by decide) (by decide)
            · refine Own.s_ifF X24 at_129 ((if0 _ _).trans (feq hc129_29).1) rfl ?_
              refine Own.s_iload X24 at_132 rfl rfl ?_
              refine Own.s_iloadN X24 at_134 rfl rfl ?_
              refine Own.s_iload X24 at_135 rfl rfl ?_
              refine Own.s_iload X24 at_137 rfl rfl ?_
              refine Own.c_static X24 at_139 (tw62 hw) (tw63 hw) (tw5 hw) (tw64 hw) (by decide) [(.int ((XT.ushr p0 (4 : Int32)) &&& (3 : Int32))), (.int p3), (.int ((XT.ushr p0 (6 : Int32)) &&& (3 : Int32))), (.int p3)] [] 0 (rm_eq hw ((XT.ushr p0 (4 : Int32)) &&& (3 : Int32)) p3 ((XT.ushr p0 (6 : Int32)) &&& (3 : Int32)) p3 hc129_29 h24 X24.hE) (fun q => nomatch q) Own.Ok.nil (lenOf pd_14 rfl) rfl (Nat.le_of_eq rfl) (by decide) (by decide) (by decide) (by decide) rfl rfl ?_
              intro v30 vm30 T30 h30 L30 X30 V30 Q30
              rcases Q30 with Q30 | Q30
              · obtain ⟨rfl, hE30⟩ := Q30
                refine Own.s_ifF X30 at_142 ((if0 _ _).trans (feq (show ¬ (1 : Int32) = (0 : Int32) by decide)).1) rfl ?_
                refine Own.s_iconst X30 at_145 (1 : Int32) (by decide) rfl ?_
                refine Own.s_goto X30 at_146 (by decide) (pc' := 150) (by decide) ?_
                refine Own.s_istore X30 at_150 #[.val (.int p0), .val (.int p1), .val (.int p2), .val (.int p3), .val (.int p4), .val (.int (p0 &&& (3 : Int32))), .val (.int ((XT.ushr p0 (2 : Int32)) &&& (3 : Int32))), .val (.int ((XT.ushr p0 (4 : Int32)) &&& (3 : Int32))), .val (.int ((XT.ushr p0 (6 : Int32)) &&& (3 : Int32))), .val (.int p1), .val (.int p3), .val (.ref b3), .val (.int (1 : Int32)), .val (.int (1 : Int32)), .val (.int (1 : Int32))] rfl rfl ?_
                refine Own.s_iload X30 at_152 rfl rfl ?_
                refine Own.s_iload X30 at_154 rfl rfl ?_
                refine Own.s_ifF X30 at_156 ((if0 _ _).trans (feq (show ¬ (1 : Int32) = (0 : Int32) by decide)).1) rfl ?_
                refine Own.s_iload X30 at_159 rfl rfl ?_
                refine Own.s_ifF X30 at_161 ((if0 _ _).trans (feq (show ¬ (1 : Int32) = (0 : Int32) by decide)).1) rfl ?_
                refine Own.s_iconst X30 at_164 (1 : Int32) (by decide) rfl ?_
                refine Own.s_goto X30 at_165 (by decide) (pc' := 169) (by decide) ?_
                refine Own.s_icmpF X30 at_169 (teq (show (1 : Int32) = (1 : Int32) by decide)).2 rfl ?_
                refine Own.s_iconst X30 at_172 (1 : Int32) (by decide) rfl ?_
                refine Own.s_goto X30 at_173 (by decide) (pc' := 177) (by decide) ?_
                exact Own.r_nar X30 rfl (Or.inl rfl) at_177 (by decide) (by decide) (by decide)
              · obtain ⟨rfl, hE30⟩ := Q30
                refine Own.s_ifT X30 at_142 ((if0 _ _).trans (teq (show (0 : Int32) = (0 : Int32) by decide)).1) (by decide) (pc' := 149) (by decide) ?_
                refine Own.s_iconst X30 at_149 (0 : Int32) (by decide) rfl ?_
                refine Own.s_istore X30 at_150 #[.val (.int p0), .val (.int p1), .val (.int p2), .val (.int p3), .val (.int p4), .val (.int (p0 &&& (3 : Int32))), .val (.int ((XT.ushr p0 (2 : Int32)) &&& (3 : Int32))), .val (.int ((XT.ushr p0 (4 : Int32)) &&& (3 : Int32))), .val (.int ((XT.ushr p0 (6 : Int32)) &&& (3 : Int32))), .val (.int p1), .val (.int p3), .val (.ref b3), .val (.int (1 : Int32)), .val (.int (1 : Int32)), .val (.int (0 : Int32))] rfl rfl ?_
                refine Own.s_iload X30 at_152 rfl rfl ?_
                refine Own.s_iload X30 at_154 rfl rfl ?_
                refine Own.s_ifF X30 at_156 ((if0 _ _).trans (feq (show ¬ (1 : Int32) = (0 : Int32) by decide)).1) rfl ?_
                refine Own.s_iload X30 at_159 rfl rfl ?_
                refine Own.s_ifT X30 at_161 ((if0 _ _).trans (teq (show (0 : Int32) = (0 : Int32) by decide)).1) (by decide) (pc' := 168) (by decide) ?_
                refine Own.s_iconst X30 at_168 (0 : Int32) (by decide) rfl ?_
                refine Own.s_icmpT X30 at_169 (feq (show ¬ (1 : Int32) = (0 : Int32) by decide)).2 (by decide) (pc' := 176) (by decide) ?_
                refine Own.s_iconst X30 at_176 (0 : Int32) (by decide) rfl ?_
                exact Own.r_nar X30 rfl (Or.inl rfl) at_177 (by decide) (by decide) (absurd hA24.2 (own_notS hc129_29 hE30))
          · refine Own.s_icmpF X24 at_104 (feq hc104_28).1 rfl ?_
            refine Own.s_iload X24 at_107 rfl rfl ?_
            refine Own.s_iloadN X24 at_109 rfl rfl ?_
            refine Own.s_iload X24 at_110 rfl rfl ?_
            refine Own.s_iload X24 at_112 rfl rfl ?_
            refine Own.c_static X24 at_114 (tw62 hw) (tw63 hw) (tw5 hw) (tw64 hw) (by decide) [(.int (p0 &&& (3 : Int32))), (.int p1), (.int ((XT.ushr p0 (2 : Int32)) &&& (3 : Int32))), (.int p1)] [] 0 (rm_eq hw (p0 &&& (3 : Int32)) p1 ((XT.ushr p0 (2 : Int32)) &&& (3 : Int32)) p1 hc98_25 h24 X24.hE) (fun q => nomatch q) Own.Ok.nil (lenOf pd_14 rfl) rfl (Nat.le_of_eq rfl) (by decide) (by decide) (by decide) (by decide) rfl rfl ?_
            intro v31 vm31 T31 h31 L31 X31 V31 Q31
            rcases Q31 with Q31 | Q31
            · obtain ⟨rfl, hE31⟩ := Q31
              refine Own.s_ifF X31 at_117 ((if0 _ _).trans (feq (show ¬ (1 : Int32) = (0 : Int32) by decide)).1) rfl ?_
              refine Own.s_iconst X31 at_120 (1 : Int32) (by decide) rfl ?_
              refine Own.s_goto X31 at_121 (by decide) (pc' := 125) (by decide) ?_
              refine Own.s_istore X31 at_125 #[.val (.int p0), .val (.int p1), .val (.int p2), .val (.int p3), .val (.int p4), .val (.int (p0 &&& (3 : Int32))), .val (.int ((XT.ushr p0 (2 : Int32)) &&& (3 : Int32))), .val (.int ((XT.ushr p0 (4 : Int32)) &&& (3 : Int32))), .val (.int ((XT.ushr p0 (6 : Int32)) &&& (3 : Int32))), .val (.int p1), .val (.int p3), .val (.ref b3), .val (.int (1 : Int32)), .val (.int (1 : Int32)), .unset] rfl rfl ?_
              refine Own.s_iload X31 at_127 rfl rfl ?_
              by_cases hc129_32 : ((XT.ushr p0 (4 : Int32)) &&& (3 : Int32)) = (0 : Int32)
              · refine Own.s_ifT X31 at_129 ((if0 _ _).trans (teq hc129_32).1) (by decide) (pc' := 145) (by decide) ?_
                refine Own.s_iconst X31 at_145 (1 : Int32) (by decide) rfl ?_
                refine Own.s_goto X31 at_146 (by decide) (pc' := 150) (by decide) ?_
                refine Own.s_istore X31 at_150 #[.val (.int p0), .val (.int p1), .val (.int p2), .val (.int p3), .val (.int p4), .val (.int (p0 &&& (3 : Int32))), .val (.int ((XT.ushr p0 (2 : Int32)) &&& (3 : Int32))), .val (.int ((XT.ushr p0 (4 : Int32)) &&& (3 : Int32))), .val (.int ((XT.ushr p0 (6 : Int32)) &&& (3 : Int32))), .val (.int p1), .val (.int p3), .val (.ref b3), .val (.int (1 : Int32)), .val (.int (1 : Int32)), .val (.int (1 : Int32))] rfl rfl ?_
                refine Own.s_iload X31 at_152 rfl rfl ?_
                refine Own.s_iload X31 at_154 rfl rfl ?_
                refine Own.s_ifF X31 at_156 ((if0 _ _).trans (feq (show ¬ (1 : Int32) = (0 : Int32) by decide)).1) rfl ?_
                refine Own.s_iload X31 at_159 rfl rfl ?_
                refine Own.s_ifF X31 at_161 ((if0 _ _).trans (feq (show ¬ (1 : Int32) = (0 : Int32) by decide)).1) rfl ?_
                refine Own.s_iconst X31 at_164 (1 : Int32) (by decide) rfl ?_
                refine Own.s_goto X31 at_165 (by decide) (pc' := 169) (by decide) ?_
                refine Own.s_icmpF X31 at_169 (teq (show (1 : Int32) = (1 : Int32) by decide)).2 rfl ?_
                refine Own.s_iconst X31 at_172 (1 : Int32) (by decide) rfl ?_
                refine Own.s_goto X31 at_173 (by decide) (pc' := 177) (by decide) ?_
                exact Own.r_nar X31 rfl (Or.inl rfl) at_177 (by decide) (by decide) (by decide)
              · refine Own.s_ifF X31 at_129 ((if0 _ _).trans (feq hc129_32).1) rfl ?_
                refine Own.s_iload X31 at_132 rfl rfl ?_
                refine Own.s_iloadN X31 at_134 rfl rfl ?_
                refine Own.s_iload X31 at_135 rfl rfl ?_
                refine Own.s_iload X31 at_137 rfl rfl ?_
                refine Own.c_static X31 at_139 (tw62 hw) (tw63 hw) (tw5 hw) (tw64 hw) (by decide) [(.int ((XT.ushr p0 (4 : Int32)) &&& (3 : Int32))), (.int p3), (.int ((XT.ushr p0 (6 : Int32)) &&& (3 : Int32))), (.int p3)] [] 0 (rm_eq hw ((XT.ushr p0 (4 : Int32)) &&& (3 : Int32)) p3 ((XT.ushr p0 (6 : Int32)) &&& (3 : Int32)) p3 hc129_32 h31 X31.hE) (fun q => nomatch q) Own.Ok.nil (lenOf pd_14 rfl) rfl (Nat.le_of_eq rfl) (by decide) (by decide) (by decide) (by decide) rfl rfl ?_
                intro v33 vm33 T33 h33 L33 X33 V33 Q33
                rcases Q33 with Q33 | Q33
                · obtain ⟨rfl, hE33⟩ := Q33
                  refine Own.s_ifF X33 at_142 ((if0 _ _).trans (feq (show ¬ (1 : Int32) = (0 : Int32) by decide)).1) rfl ?_
                  refine Own.s_iconst X33 at_145 (1 : Int32) (by decide) rfl ?_
                  refine Own.s_goto X33 at_146 (by decide) (pc' := 150) (by decide) ?_
                  refine Own.s_istore X33 at_150 #[.val (.int p0), .val (.int p1), .val (.int p2), .val (.int p3), .val (.int p4), .val (.int (p0 &&& (3 : Int32))), .val (.int ((XT.ushr p0 (2 : Int32)) &&& (3 : Int32))), .val (.int ((XT.ushr p0 (4 : Int32)) &&& (3 : Int32))), .val (.int ((XT.ushr p0 (6 : Int32)) &&& (3 : Int32))), .val (.int p1), .val (.int p3), .val (.ref b3), .val (.int (1 : Int32)), .val (.int (1 : Int32)), .val (.int (1 : Int32))] rfl rfl ?_
                  refine Own.s_iload X33 at_152 rfl rfl ?_
                  refine Own.s_iload X33 at_154 rfl rfl ?_
                  refine Own.s_ifF X33 at_156 ((if0 _ _).trans (feq (show ¬ (1 : Int32) = (0 : Int32) by decide)).1) rfl ?_
                  refine Own.s_iload X33 at_159 rfl rfl ?_
                  refine Own.s_ifF X33 at_161 ((if0 _ _).trans (feq (show ¬ (1 : Int32) = (0 : Int32) by decide)).1) rfl ?_
                  refine Own.s_iconst X33 at_164 (1 : Int32) (by decide) rfl ?_
                  refine Own.s_goto X33 at_165 (by decide) (pc' := 169) (by decide) ?_
                  refine Own.s_icmpF X33 at_169 (teq (show (1 : Int32) = (1 : Int32) by decide)).2 rfl ?_
                  refine Own.s_iconst X33 at_172 (1 : Int32) (by decide) rfl ?_
                  refine Own.s_goto X33 at_173 (by decide) (pc' := 177) (by decide) ?_
                  exact Own.r_nar X33 rfl (Or.inl rfl) at_177 (by decide) (by decide) (by decide)
                · obtain ⟨rfl, hE33⟩ := Q33
                  refine Own.s_ifT X33 at_142 ((if0 _ _).trans (teq (show (0 : Int32) = (0 : Int32) by decide)).1) (by decide) (pc' := 149) (by decide) ?_
                  refine Own.s_iconst X33 at_149 (0 : Int32) (by decide) rfl ?_
                  refine Own.s_istore X33 at_150 #[.val (.int p0), .val (.int p1), .val (.int p2), .val (.int p3), .val (.int p4), .val (.int (p0 &&& (3 : Int32))), .val (.int ((XT.ushr p0 (2 : Int32)) &&& (3 : Int32))), .val (.int ((XT.ushr p0 (4 : Int32)) &&& (3 : Int32))), .val (.int ((XT.ushr p0 (6 : Int32)) &&& (3 : Int32))), .val (.int p1), .val (.int p3), .val (.ref b3), .val (.int (1 : Int32)), .val (.int (1 : Int32)), .val (.int (0 : Int32))] rfl rfl ?_
                  refine Own.s_iload X33 at_152 rfl rfl ?_
                  refine Own.s_iload X33 at_154 rfl rfl ?_
                  refine Own.s_ifF X33 at_156 ((if0 _ _).trans (feq (show ¬ (1 : Int32) = (0 : Int32) by decide)).1) rfl ?_
                  refine Own.s_iload X33 at_159 rfl rfl ?_
                  refine Own.s_ifT X33 at_161 ((if0 _ _).trans (teq (show (0 : Int32) = (0 : Int32) by decide)).1) (by decide) (pc' := 168) (by decide) ?_
                  refine Own.s_iconst X33 at_168 (0 : Int32) (by decide) rfl ?_
                  refine Own.s_icmpT X33 at_169 (feq (show ¬ (1 : Int32) = (0 : Int32) by decide)).2 (by decide) (pc' := 176) (by decide) ?_
                  refine Own.s_iconst X33 at_176 (0 : Int32) (by decide) rfl ?_
                  exact Own.r_nar X33 rfl (Or.inl rfl) at_177 (by decide) (by decide) (absurd hA24.2 (own_notS hc129_32 hE33))
            · obtain ⟨rfl, hE31⟩ := Q31
              refine Own.s_ifT X31 at_117 ((if0 _ _).trans (teq (show (0 : Int32) = (0 : Int32) by decide)).1) (by decide) (pc' := 124) (by decide) ?_
              refine Own.s_iconst X31 at_124 (0 : Int32) (by decide) rfl ?_
              refine Own.s_istore X31 at_125 #[.val (.int p0), .val (.int p1), .val (.int p2), .val (.int p3), .val (.int p4), .val (.int (p0 &&& (3 : Int32))), .val (.int ((XT.ushr p0 (2 : Int32)) &&& (3 : Int32))), .val (.int ((XT.ushr p0 (4 : Int32)) &&& (3 : Int32))), .val (.int ((XT.ushr p0 (6 : Int32)) &&& (3 : Int32))), .val (.int p1), .val (.int p3), .val (.ref b3), .val (.int (1 : Int32)), .val (.int (0 : Int32)), .unset] rfl rfl ?_
              refine Own.s_iload X31 at_127 rfl rfl ?_
              by_cases hc129_34 : ((XT.ushr p0 (4 : Int32)) &&& (3 : Int32)) = (0 : Int32)
              · refine Own.s_ifT X31 at_129 ((if0 _ _).trans (teq hc129_34).1) (by decide) (pc' := 145) (by decide) ?_
                refine Own.s_iconst X31 at_145 (1 : Int32) (by decide) rfl ?_
                refine Own.s_goto X31 at_146 (by decide) (pc' := 150) (by decide) ?_
                refine Own.s_istore X31 at_150 #[.val (.int p0), .val (.int p1), .val (.int p2), .val (.int p3), .val (.int p4), .val (.int (p0 &&& (3 : Int32))), .val (.int ((XT.ushr p0 (2 : Int32)) &&& (3 : Int32))), .val (.int ((XT.ushr p0 (4 : Int32)) &&& (3 : Int32))), .val (.int ((XT.ushr p0 (6 : Int32)) &&& (3 : Int32))), .val (.int p1), .val (.int p3), .val (.ref b3), .val (.int (1 : Int32)), .val (.int (0 : Int32)), .val (.int (1 : Int32))] rfl rfl ?_
                refine Own.s_iload X31 at_152 rfl rfl ?_
                refine Own.s_iload X31 at_154 rfl rfl ?_
                refine Own.s_ifT X31 at_156 ((if0 _ _).trans (teq (show (0 : Int32) = (0 : Int32) by decide)).1) (by decide) (pc' := 168) (by decide) ?_
                refine Own.s_iconst X31 at_168 (0 : Int32) (by decide) rfl ?_
                refine Own.s_icmpT X31 at_169 (feq (show ¬ (1 : Int32) = (0 : Int32) by decide)).2 (by decide) (pc' := 176) (by decide) ?_
                refine Own.s_iconst X31 at_176 (0 : Int32) (by decide) rfl ?_
                exact Own.r_nar X31 rfl (Or.inl rfl) at_177 (by decide) (by decide) (absurd hA24.1 (own_notF hc98_25 hc104_28 hE31))
              · refine Own.s_ifF X31 at_129 ((if0 _ _).trans (feq hc129_34).1) rfl ?_
                refine Own.s_iload X31 at_132 rfl rfl ?_
                refine Own.s_iloadN X31 at_134 rfl rfl ?_
                refine Own.s_iload X31 at_135 rfl rfl ?_
                refine Own.s_iload X31 at_137 rfl rfl ?_
                refine Own.c_static X31 at_139 (tw62 hw) (tw63 hw) (tw5 hw) (tw64 hw) (by decide) [(.int ((XT.ushr p0 (4 : Int32)) &&& (3 : Int32))), (.int p3), (.int ((XT.ushr p0 (6 : Int32)) &&& (3 : Int32))), (.int p3)] [] 0 (rm_eq hw ((XT.ushr p0 (4 : Int32)) &&& (3 : Int32)) p3 ((XT.ushr p0 (6 : Int32)) &&& (3 : Int32)) p3 hc129_34 h31 X31.hE) (fun q => nomatch q) Own.Ok.nil (lenOf pd_14 rfl) rfl (Nat.le_of_eq rfl) (by decide) (by decide) (by decide) (by decide) rfl rfl ?_
                intro v35 vm35 T35 h35 L35 X35 V35 Q35
                rcases Q35 with Q35 | Q35
                · obtain ⟨rfl, hE35⟩ := Q35
                  refine Own.s_ifF X35 at_142 ((if0 _ _).trans (feq (show ¬ (1 : Int32) = (0 : Int32) by decide)).1) rfl ?_
                  refine Own.s_iconst X35 at_145 (1 : Int32) (by decide) rfl ?_
                  refine Own.s_goto X35 at_146 (by decide) (pc' := 150) (by decide) ?_
                  refine Own.s_istore X35 at_150 #[.val (.int p0), .val (.int p1), .val (.int p2), .val (.int p3), .val (.int p4), .val (.int (p0 &&& (3 : Int32))), .val (.int ((XT.ushr p0 (2 : Int32)) &&& (3 : Int32))), .val (.int ((XT.ushr p0 (4 : Int32)) &&& (3 : Int32))), .val (.int ((XT.ushr p0 (6 : Int32)) &&& (3 : Int32))), .val (.int p1), .val (.int p3), .val (.ref b3), .val (.int (1 : Int32)), .val (.int (0 : Int32)), .val (.int (1 : Int32))] rfl rfl ?_
                  refine Own.s_iload X35 at_152 rfl rfl ?_
                  refine Own.s_iload X35 at_154 rfl rfl ?_
                  refine Own.s_ifT X35 at_156 ((if0 _ _).trans (teq (show (0 : Int32) = (0 : Int32) by decide)).1) (by decide) (pc' := 168) (by decide) ?_
                  refine Own.s_iconst X35 at_168 (0 : Int32) (by decide) rfl ?_
                  refine Own.s_icmpT X35 at_169 (feq (show ¬ (1 : Int32) = (0 : Int32) by decide)).2 (by decide) (pc' := 176) (by decide) ?_
                  refine Own.s_iconst X35 at_176 (0 : Int32) (by decide) rfl ?_
                  exact Own.r_nar X35 rfl (Or.inl rfl) at_177 (by decide) (by decide) (absurd hA24.1 (own_notF hc98_25 hc104_28 hE31))
                · obtain ⟨rfl, hE35⟩ := Q35
                  refine Own.s_ifT X35 at_142 ((if0 _ _).trans (teq (show (0 : Int32) = (0 : Int32) by decide)).1) (by decide) (pc' := 149) (by decide) ?_
                  refine Own.s_iconst X35 at_149 (0 : Int32) (by decide) rfl ?_
                  refine Own.s_istore X35 at_150 #[.val (.int p0), .val (.int p1), .val (.int p2), .val (.int p3), .val (.int p4), .val (.int (p0 &&& (3 : Int32))), .val (.int ((XT.ushr p0 (2 : Int32)) &&& (3 : Int32))), .val (.int ((XT.ushr p0 (4 : Int32)) &&& (3 : Int32))), .val (.int ((XT.ushr p0 (6 : Int32)) &&& (3 : Int32))), .val (.int p1), .val (.int p3), .val (.ref b3), .val (.int (1 : Int32)), .val (.int (0 : Int32)), .val (.int (0 : Int32))] rfl rfl ?_
                  refine Own.s_iload X35 at_152 rfl rfl ?_
                  refine Own.s_iload X35 at_154 rfl rfl ?_
                  refine Own.s_ifT X35 at_156 ((if0 _ _).trans (teq (show (0 : Int32) = (0 : Int32) by decide)).1) (by decide) (pc' := 168) (by decide) ?_
                  refine Own.s_iconst X35 at_168 (0 : Int32) (by decide) rfl ?_
                  refine Own.s_icmpT X35 at_169 (feq (show ¬ (1 : Int32) = (0 : Int32) by decide)).2 (by decide) (pc' := 176) (by decide) ?_
                  refine Own.s_iconst X35 at_176 (0 : Int32) (by decide) rfl ?_
                  exact Own.r_nar X35 rfl (Or.inl rfl) at_177 (by decide) (by decide) (absurd hA24.1 (own_notF hc98_25 hc104_28 hE31))
      · obtain ⟨rfl, hA24⟩ := Q24
        refine Own.s_istore X24 at_94 #[.val (.int p0), .val (.int p1), .val (.int p2), .val (.int p3), .val (.int p4), .val (.int (p0 &&& (3 : Int32))), .val (.int ((XT.ushr p0 (2 : Int32)) &&& (3 : Int32))), .val (.int ((XT.ushr p0 (4 : Int32)) &&& (3 : Int32))), .val (.int ((XT.ushr p0 (6 : Int32)) &&& (3 : Int32))), .val (.int p1), .val (.int p3), .val (.ref b3), .val (.int (0 : Int32)), .unset, .unset] rfl rfl ?_
        refine Own.s_iload X24 at_96 rfl rfl ?_
        by_cases hc98_36 : (p0 &&& (3 : Int32)) = (0 : Int32)
        · refine Own.s_ifT X24 at_98 ((if0 _ _).trans (teq hc98_36).1) (by decide) (pc' := 120) (by decide) ?_
          refine Own.s_iconst X24 at_120 (1 : Int32) (by decide) rfl ?_
          refine Own.s_goto X24 at_121 (by decide) (pc' := 125) (by decide) ?_
          refine Own.s_istore X24 at_125 #[.val (.int p0), .val (.int p1), .val (.int p2), .val (.int p3), .val (.int p4), .val (.int (p0 &&& (3 : Int32))), .val (.int ((XT.ushr p0 (2 : Int32)) &&& (3 : Int32))), .val (.int ((XT.ushr p0 (4 : Int32)) &&& (3 : Int32))), .val (.int ((XT.ushr p0 (6 : Int32)) &&& (3 : Int32))), .val (.int p1), .val (.int p3), .val (.ref b3), .val (.int (0 : Int32)), .val (.int (1 : Int32)), .unset] rfl rfl ?_
          refine Own.s_iload X24 at_127 rfl rfl ?_
          by_cases hc129_37 : ((XT.ushr p0 (4 : Int32)) &&& (3 : Int32)) = (0 : Int32)
          · refine Own.s_ifT X24 at_129 ((if0 _ _).trans (teq hc129_37).1) (by decide) (pc' := 145) (by decide) ?_
            refine Own.s_iconst X24 at_145 (1 : Int32) (by decide) rfl ?_
            refine Own.s_goto X24 at_146 (by decide) (pc' := 150) (by decide) ?_
            refine Own.s_istore X24 at_150 #[.val (.int p0), .val (.int p1), .val (.int p2), .val (.int p3), .val (.int p4), .val (.int (p0 &&& (3 : Int32))), .val (.int ((XT.ushr p0 (2 : Int32)) &&& (3 : Int32))), .val (.int ((XT.ushr p0 (4 : Int32)) &&& (3 : Int32))), .val (.int ((XT.ushr p0 (6 : Int32)) &&& (3 : Int32))), .val (.int p1), .val (.int p3), .val (.ref b3), .val (.int (0 : Int32)), .val (.int (1 : Int32)), .val (.int (1 : Int32))] rfl rfl ?_
            refine Own.s_iload X24 at_152 rfl rfl ?_
            refine Own.s_iload X24 at_154 rfl rfl ?_
            refine Own.s_ifF X24 at_156 ((if0 _ _).trans (feq (show ¬ (1 : Int32) = (0 : Int32) by decide)).1) rfl ?_
            refine Own.s_iload X24 at_159 rfl rfl ?_
            refine Own.s_ifF X24 at_161 ((if0 _ _).trans (feq (show ¬ (1 : Int32) = (0 : Int32) by decide)).1) rfl ?_
            refine Own.s_iconst X24 at_164 (1 : Int32) (by decide) rfl ?_
            refine Own.s_goto X24 at_165 (by decide) (pc' := 169) (by decide) ?_
            refine Own.s_icmpT X24 at_169 (feq (show ¬ (0 : Int32) = (1 : Int32) by decide)).2 (by decide) (pc' := 176) (by decide) ?_
            refine Own.s_iconst X24 at_176 (0 : Int32) (by decide) rfl ?_
            exact Own.r_nar X24 rfl (Or.inl rfl) at_177 (by decide) (by decide) (absurd ⟨Or.inl (own_mk0 hc98_36), Or.inl (own_mk0 hc129_37)⟩ hA24)
          · refine Own.s_ifF X24 at_129 ((if0 _ _).trans (feq hc129_37).1) rfl ?_
            refine Own.s_iload X24 at_132 rfl rfl ?_
            refine Own.s_iloadN X24 at_134 rfl rfl ?_
            refine Own.s_iload X24 at_135 rfl rfl ?_
            refine Own.s_iload X24 at_137 rfl rfl ?_
            refine Own.c_static X24 at_139 (tw62 hw) (tw63 hw) (tw5 hw) (tw64 hw) (by decide) [(.int ((XT.ushr p0 (4 : Int32)) &&& (3 : Int32))), (.int p3), (.int ((XT.ushr p0 (6 : Int32)) &&& (3 : Int32))), (.int p3)] [] 0 (rm_eq hw ((XT.ushr p0 (4 : Int32)) &&& (3 : Int32)) p3 ((XT.ushr p0 (6 : Int32)) &&& (3 : Int32)) p3 hc129_37 h24 X24.hE) (fun q => nomatch q) Own.Ok.nil (lenOf pd_14 rfl) rfl (Nat.le_of_eq rfl) (by decide) (by decide) (by decide) (by decide) rfl rfl ?_
            intro v38 vm38 T38 h38 L38 X38 V38 Q38
            rcases Q38 with Q38 | Q38
            · obtain ⟨rfl, hE38⟩ := Q38
              refine Own.s_ifF X38 at_142 ((if0 _ _).trans (feq (show ¬ (1 : Int32) = (0 : Int32) by decide)).1) rfl ?_
              refine Own.s_iconst X38 at_145 (1 : Int32) (by decide) rfl ?_
              refine Own.s_goto X38 at_146 (by decide) (pc' := 150) (by decide) ?_
              refine Own.s_istore X38 at_150 #[.val (.int p0), .val (.int p1), .val (.int p2), .val (.int p3), .val (.int p4), .val (.int (p0 &&& (3 : Int32))), .val (.int ((XT.ushr p0 (2 : Int32)) &&& (3 : Int32))), .val (.int ((XT.ushr p0 (4 : Int32)) &&& (3 : Int32))), .val (.int ((XT.ushr p0 (6 : Int32)) &&& (3 : Int32))), .val (.int p1), .val (.int p3), .val (.ref b3), .val (.int (0 : Int32)), .val (.int (1 : Int32)), .val (.int (1 : Int32))] rfl rfl ?_
              refine Own.s_iload X38 at_152 rfl rfl ?_
              refine Own.s_iload X38 at_154 rfl rfl ?_
              refine Own.s_ifF X38 at_156 ((if0 _ _).trans (feq (show ¬ (1 : Int32) = (0 : Int32) by decide)).1) rfl ?_
              refine Own.s_iload X38 at_159 rfl rfl ?_
              refine Own.s_ifF X38 at_161 ((if0 _ _).trans (feq (show ¬ (1 : Int32) = (0 : Int32) by decide)).1) rfl ?_
              refine Own.s_iconst X38 at_164 (1 : Int32) (by decide) rfl ?_
              refine Own.s_goto X38 at_165 (by decide) (pc' := 169) (by decide) ?_
              refine Own.s_icmpT X38 at_169 (feq (show ¬ (0 : Int32) = (1 : Int32) by decide)).2 (by decide) (pc' := 176) (by decide) ?_
              refine Own.s_iconst X38 at_176 (0 : Int32) (by decide) rfl ?_
              exact Own.r_nar X38 rfl (Or.inl rfl) at_177 (by decide) (by decide) (absurd ⟨Or.inl (own_mk0 hc98_36), Or.inr hE38⟩ hA24)
            · obtain ⟨rfl, hE38⟩ := Q38
              refine Own.s_ifT X38 at_142 ((if0 _ _).trans (teq (show (0 : Int32) = (0 : Int32) by decide)).1) (by decide) (pc' := 149) (by decide) ?_
              refine Own.s_iconst X38 at_149 (0 : Int32) (by decide) rfl ?_
              refine Own.s_istore X38 at_150 #[.val (.int p0), .val (.int p1), .val (.int p2), .val (.int p3), .val (.int p4), .val (.int (p0 &&& (3 : Int32))), .val (.int ((XT.ushr p0 (2 : Int32)) &&& (3 : Int32))), .val (.int ((XT.ushr p0 (4 : Int32)) &&& (3 : Int32))), .val (.int ((XT.ushr p0 (6 : Int32)) &&& (3 : Int32))), .val (.int p1), .val (.int p3), .val (.ref b3), .val (.int (0 : Int32)), .val (.int (1 : Int32)), .val (.int (0 : Int32))] rfl rfl ?_
              refine Own.s_iload X38 at_152 rfl rfl ?_
              refine Own.s_iload X38 at_154 rfl rfl ?_
              refine Own.s_ifF X38 at_156 ((if0 _ _).trans (feq (show ¬ (1 : Int32) = (0 : Int32) by decide)).1) rfl ?_
              refine Own.s_iload X38 at_159 rfl rfl ?_
              refine Own.s_ifT X38 at_161 ((if0 _ _).trans (teq (show (0 : Int32) = (0 : Int32) by decide)).1) (by decide) (pc' := 168) (by decide) ?_
              refine Own.s_iconst X38 at_168 (0 : Int32) (by decide) rfl ?_
              refine Own.s_icmpF X38 at_169 (teq (show (0 : Int32) = (0 : Int32) by decide)).2 rfl ?_
              refine Own.s_iconst X38 at_172 (1 : Int32) (by decide) rfl ?_
              refine Own.s_goto X38 at_173 (by decide) (pc' := 177) (by decide) ?_
              exact Own.r_nar X38 rfl (Or.inl rfl) at_177 (by decide) (by decide) (by decide)
        · refine Own.s_ifF X24 at_98 ((if0 _ _).trans (feq hc98_36).1) rfl ?_
          refine Own.s_iload X24 at_101 rfl rfl ?_
          refine Own.s_iconst X24 at_103 (1 : Int32) (by decide) rfl ?_
          by_cases hc104_39 : (p0 &&& (3 : Int32)) = (1 : Int32)
          · refine Own.s_icmpT X24 at_104 (teq hc104_39).1 (by decide) (pc' := 120) (by decide) ?_
            refine Own.s_iconst X24 at_120 (1 : Int32) (by decide) rfl ?_
            refine Own.s_goto X24 at_121 (by decide) (pc' := 125) (by decide) ?_
            refine Own.s_istore X24 at_125 #[.val (.int p0), .val (.int p1), .val (.int p2), .val (.int p3), .val (.int p4), .val (.int (p0 &&& (3 : Int32))), .val (.int ((XT.ushr p0 (2 : Int32)) &&& (3 : Int32))), .val (.int ((XT.ushr p0 (4 : Int32)) &&& (3 : Int32))), .val (.int ((XT.ushr p0 (6 : Int32)) &&& (3 : Int32))), .val (.int p1), .val (.int p3), .val (.ref b3), .val (.int (0 : Int32)), .val (.int (1 : Int32)), .unset] rfl rfl ?_
            refine Own.s_iload X24 at_127 rfl rfl ?_
            by_cases hc129_40 : ((XT.ushr p0 (4 : Int32)) &&& (3 : Int32)) = (0 : Int32)
            · refine Own.s_ifT X24 at_129 ((if0 _ _).trans (teq hc129_40).1) (by decide) (pc' := 145) (by decide) ?_
              refine Own.s_iconst X24 at_145 (1 : Int32) (by decide) rfl ?_
              refine Own.s_goto X24 at_146 (by decide) (pc' := 150) (by decide) ?_
              refine Own.s_istore X24 at_150 #[.val (.int p0), .val (.int p1), .val (.int p2), .val (.int p3), .val (.int p4), .val (.int (p0 &&& (3 : Int32))), .val (.int ((XT.ushr p0 (2 : Int32)) &&& (3 : Int32))), .val (.int ((XT.ushr p0 (4 : Int32)) &&& (3 : Int32))), .val (.int ((XT.ushr p0 (6 : Int32)) &&& (3 : Int32))), .val (.int p1), .val (.int p3), .val (.ref b3), .val (.int (0 : Int32)), .val (.int (1 : Int32)), .val (.int (1 : Int32))] rfl rfl ?_
              refine Own.s_iload X24 at_152 rfl rfl ?_
              refine Own.s_iload X24 at_154 rfl rfl ?_
              refine Own.s_ifF X24 at_156 ((if0 _ _).trans (feq (show ¬ (1 : Int32) = (0 : Int32) by decide)).1) rfl ?_
              refine Own.s_iload X24 at_159 rfl rfl ?_
              refine Own.s_ifF X24 at_161 ((if0 _ _).trans (feq (show ¬ (1 : Int32) = (0 : Int32) by decide)).1) rfl ?_
              refine Own.s_iconst X24 at_164 (1 : Int32) (by decide) rfl ?_
              refine Own.s_goto X24 at_165 (by decide) (pc' := 169) (by decide) ?_
              refine Own.s_icmpT X24 at_169 (feq (show ¬ (0 : Int32) = (1 : Int32) by decide)).2 (by decide) (pc' := 176) (by decide) ?_
              refine Own.s_iconst X24 at_176 (0 : Int32) (by decide) rfl ?_
              exact Own.r_nar X24 rfl (Or.inl rfl) at_177 (by decide) (by decide) (absurd ⟨Or.inr (Or.inl (own_mk1 hc104_39)), Or.inl (own_mk0 hc129_40)⟩ hA24)
            · refine Own.s_ifF X24 at_129 ((if0 _ _).trans (feq hc129_40).1) rfl ?_
              refine Own.s_iload X24 at_132 rfl rfl ?_
              refine Own.s_iloadN X24 at_134 rfl rfl ?_
              refine Own.s_iload X24 at_135 rfl rfl ?_
              refine Own.s_iload X24 at_137 rfl rfl ?_
              refine Own.c_static X24 at_139 (tw62 hw) (tw63 hw) (tw5 hw) (tw64 hw) (by decide) [(.int ((XT.ushr p0 (4 : Int32)) &&& (3 : Int32))), (.int p3), (.int ((XT.ushr p0 (6 : Int32)) &&& (3 : Int32))), (.int p3)] [] 0 (rm_eq hw ((XT.ushr p0 (4 : Int32)) &&& (3 : Int32)) p3 ((XT.ushr p0 (6 : Int32)) &&& (3 : Int32)) p3 hc129_40 h24 X24.hE) (fun q => nomatch q) Own.Ok.nil (lenOf pd_14 rfl) rfl (Nat.le_of_eq rfl) (by decide) (by decide) (by decide) (by decide) rfl rfl ?_
              intro v41 vm41 T41 h41 L41 X41 V41 Q41
              rcases Q41 with Q41 | Q41
              · obtain ⟨rfl, hE41⟩ := Q41
                refine Own.s_ifF X41 at_142 ((if0 _ _).trans (feq (show ¬ (1 : Int32) = (0 : Int32) by decide)).1) rfl ?_
                refine Own.s_iconst X41 at_145 (1 : Int32) (by decide) rfl ?_
                refine Own.s_goto X41 at_146 (by decide) (pc' := 150) (by decide) ?_
                refine Own.s_istore X41 at_150 #[.val (.int p0), .val (.int p1), .val (.int p2), .val (.int p3), .val (.int p4), .val (.int (p0 &&& (3 : Int32))), .val (.int ((XT.ushr p0 (2 : Int32)) &&& (3 : Int32))), .val (.int ((XT.ushr p0 (4 : Int32)) &&& (3 : Int32))), .val (.int ((XT.ushr p0 (6 : Int32)) &&& (3 : Int32))), .val (.int p1), .val (.int p3), .val (.ref b3), .val (.int (0 : Int32)), .val (.int (1 : Int32)), .val (.int (1 : Int32))] rfl rfl ?_
                refine Own.s_iload X41 at_152 rfl rfl ?_
                refine Own.s_iload X41 at_154 rfl rfl ?_
                refine Own.s_ifF X41 at_156 ((if0 _ _).trans (feq (show ¬ (1 : Int32) = (0 : Int32) by decide)).1) rfl ?_
                refine Own.s_iload X41 at_159 rfl rfl ?_
                refine Own.s_ifF X41 at_161 ((if0 _ _).trans (feq (show ¬ (1 : Int32) = (0 : Int32) by decide)).1) rfl ?_
                refine Own.s_iconst X41 at_164 (1 : Int32) (by decide) rfl ?_
                refine Own.s_goto X41 at_165 (by decide) (pc' := 169) (by decide) ?_
                refine Own.s_icmpT X41 at_169 (feq (show ¬ (0 : Int32) = (1 : Int32) by decide)).2 (by decide) (pc' := 176) (by decide) ?_
                refine Own.s_iconst X41 at_176 (0 : Int32) (by decide) rfl ?_
                exact Own.r_nar X41 rfl (Or.inl rfl) at_177 (by decide) (by decide) (absurd ⟨Or.inr (Or.inl (own_mk1 hc104_39)), Or.inr hE41⟩ hA24)
              · obtain ⟨rfl, hE41⟩ := Q41
                refine Own.s_ifT X41 at_142 ((if0 _ _).trans (teq (show (0 : Int32) = (0 : Int32) by decide)).1) (by decide) (pc' := 149) (by decide) ?_
                refine Own.s_iconst X41 at_149 (0 : Int32) (by decide) rfl ?_
                refine Own.s_istore X41 at_150 #[.val (.int p0), .val (.int p1), .val (.int p2), .val (.int p3), .val (.int p4), .val (.int (p0 &&& (3 : Int32))), .val (.int ((XT.ushr p0 (2 : Int32)) &&& (3 : Int32))), .val (.int ((XT.ushr p0 (4 : Int32)) &&& (3 : Int32))), .val (.int ((XT.ushr p0 (6 : Int32)) &&& (3 : Int32))), .val (.int p1), .val (.int p3), .val (.ref b3), .val (.int (0 : Int32)), .val (.int (1 : Int32)), .val (.int (0 : Int32))] rfl rfl ?_
                refine Own.s_iload X41 at_152 rfl rfl ?_
                refine Own.s_iload X41 at_154 rfl rfl ?_
                refine Own.s_ifF X41 at_156 ((if0 _ _).trans (feq (show ¬ (1 : Int32) = (0 : Int32) by decide)).1) rfl ?_
                refine Own.s_iload X41 at_159 rfl rfl ?_
                refine Own.s_ifT X41 at_161 ((if0 _ _).trans (teq (show (0 : Int32) = (0 : Int32) by decide)).1) (by decide) (pc' := 168) (by decide) ?_
                refine Own.s_iconst X41 at_168 (0 : Int32) (by decide) rfl ?_
                refine Own.s_icmpF X41 at_169 (teq (show (0 : Int32) = (0 : Int32) by decide)).2 rfl ?_
                refine Own.s_iconst X41 at_172 (1 : Int32) (by decide) rfl ?_
                refine Own.s_goto X41 at_173 (by decide) (pc' := 177) (by decide) ?_
                exact Own.r_nar X41 rfl (Or.inl rfl) at_177 (by decide) (by decide) (by decide)
          · refine Own.s_icmpF X24 at_104 (feq hc104_39).1 rfl ?_
            refine Own.s_iload X24 at_107 rfl rfl ?_
            refine Own.s_iloadN X24 at_109 rfl rfl ?_
            refine Own.s_iload X24 at_110 rfl rfl ?_
            refine Own.s_iload X24 at_112 rfl rfl ?_
            refine Own.c_static X24 at_114 (tw62 hw) (tw63 hw) (tw5 hw) (tw64 hw) (by decide) [(.int (p0 &&& (3 : Int32))), (.int p1), (.int ((XT.ushr p0 (2 : Int32)) &&& (3 : Int32))), (.int p1)] [] 0 (rm_eq hw (p0 &&& (3 : Int32)) p1 ((XT.ushr p0 (2 : Int32)) &&& (3 : Int32)) p1 hc98_36 h24 X24.hE) (fun q => nomatch q) Own.Ok.nil (lenOf pd_14 rfl) rfl (Nat.le_of_eq rfl) (by decide) (by decide) (by decide) (by decide) rfl rfl ?_
            intro v42 vm42 T42 h42 L42 X42 V42 Q42
            rcases Q42 with Q42 | Q42
            · obtain ⟨rfl, hE42⟩ := Q42
              refine Own.s_ifF X42 at_117 ((if0 _ _).trans (feq (show ¬ (1 : Int32) = (0 : Int32) by decide)).1) rfl ?_
              refine Own.s_iconst X42 at_120 (1 : Int32) (by decide) rfl ?_
              refine Own.s_goto X42 at_121 (by decide) (pc' := 125) (by decide) ?_
              refine Own.s_istore X42 at_125 #[.val (.int p0), .val (.int p1), .val (.int p2), .val (.int p3), .val (.int p4), .val (.int (p0 &&& (3 : Int32))), .val (.int ((XT.ushr p0 (2 : Int32)) &&& (3 : Int32))), .val (.int ((XT.ushr p0 (4 : Int32)) &&& (3 : Int32))), .val (.int ((XT.ushr p0 (6 : Int32)) &&& (3 : Int32))), .val (.int p1), .val (.int p3), .val (.ref b3), .val (.int (0 : Int32)), .val (.int (1 : Int32)), .unset] rfl rfl ?_
              refine Own.s_iload X42 at_127 rfl rfl ?_
              by_cases hc129_43 : ((XT.ushr p0 (4 : Int32)) &&& (3 : Int32)) = (0 : Int32)
              · refine Own.s_ifT X42 at_129 ((if0 _ _).trans (teq hc129_43).1) (by decide) (pc' := 145) (by decide) ?_
                refine Own.s_iconst X42 at_145 (1 : Int32) (by decide) rfl ?_
                refine Own.s_goto X42 at_146 (by decide) (pc' := 150) (by decide) ?_
                refine Own.s_istore X42 at_150 #[.val (.int p0), .val (.int p1), .val (.int p2), .val (.int p3), .val (.int p4), .val (.int (p0 &&& (3 : Int32))), .val (.int ((XT.ushr p0 (2 : Int32)) &&& (3 : Int32))), .val (.int ((XT.ushr p0 (4 : Int32)) &&& (3 : Int32))), .val (.int ((XT.ushr p0 (6 : Int32)) &&& (3 : Int32))), .val (.int p1), .val (.int p3), .val (.ref b3), .val (.int (0 : Int32)), .val (.int (1 : Int32)), .val (.int (1 : Int32))] rfl rfl ?_
                refine Own.s_iload X42 at_152 rfl rfl ?_
                refine Own.s_iload X42 at_154 rfl rfl ?_
                refine Own.s_ifF X42 at_156 ((if0 _ _).trans (feq (show ¬ (1 : Int32) = (0 : Int32) by decide)).1) rfl ?_
                refine Own.s_iload X42 at_159 rfl rfl ?_
                refine Own.s_ifF X42 at_161 ((if0 _ _).trans (feq (show ¬ (1 : Int32) = (0 : Int32) by decide)).1) rfl ?_
                refine Own.s_iconst X42 at_164 (1 : Int32) (by decide) rfl ?_
                refine Own.s_goto X42 at_165 (by decide) (pc' := 169) (by decide) ?_
                refine Own.s_icmpT X42 at_169 (feq (show ¬ (0 : Int32) = (1 : Int32) by decide)).2 (by decide) (pc' := 176) (by decide) ?_
                refine Own.s_iconst X42 at_176 (0 : Int32) (by decide) rfl ?_
                exact Own.r_nar X42 rfl (Or.inl rfl) at_177 (by decide) (by decide) (absurd ⟨Or.inr (Or.inr hE42), Or.inl (own_mk0 hc129_43)⟩ hA24)
              · refine Own.s_ifF X42 at_129 ((if0 _ _).trans (feq hc129_43).1) rfl ?_
                refine Own.s_iload X42 at_132 rfl rfl ?_
                refine Own.s_iloadN X42 at_134 rfl rfl ?_
                refine Own.s_iload X42 at_135 rfl rfl ?_
                refine Own.s_iload X42 at_137 rfl rfl ?_
                refine Own.c_static X42 at_139 (tw62 hw) (tw63 hw) (tw5 hw) (tw64 hw) (by decide) [(.int ((XT.ushr p0 (4 : Int32)) &&& (3 : Int32))), (.int p3), (.int ((XT.ushr p0 (6 : Int32)) &&& (3 : Int32))), (.int p3)] [] 0 (rm_eq hw ((XT.ushr p0 (4 : Int32)) &&& (3 : Int32)) p3 ((XT.ushr p0 (6 : Int32)) &&& (3 : Int32)) p3 hc129_43 h42 X42.hE) (fun q => nomatch q) Own.Ok.nil (lenOf pd_14 rfl) rfl (Nat.le_of_eq rfl) (by decide) (by decide) (by decide) (by decide) rfl rfl ?_
                intro v44 vm44 T44 h44 L44 X44 V44 Q44
                rcases Q44 with Q44 | Q44
                · obtain ⟨rfl, hE44⟩ := Q44
                  refine Own.s_ifF X44 at_142 ((if0 _ _).trans (feq (show ¬ (1 : Int32) = (0 : Int32) by decide)).1) rfl ?_
                  refine Own.s_iconst X44 at_145 (1 : Int32) (by decide) rfl ?_
                  refine Own.s_goto X44 at_146 (by decide) (pc' := 150) (by decide) ?_
                  refine Own.s_istore X44 at_150 #[.val (.int p0), .val (.int p1), .val (.int p2), .val (.int p3), .val (.int p4), .val (.int (p0 &&& (3 : Int32))), .val (.int ((XT.ushr p0 (2 : Int32)) &&& (3 : Int32))), .val (.int ((XT.ushr p0 (4 : Int32)) &&& (3 : Int32))), .val (.int ((XT.ushr p0 (6 : Int32)) &&& (3 : Int32))), .val (.int p1), .val (.int p3), .val (.ref b3), .val (.int (0 : Int32)), .val (.int (1 : Int32)), .val (.int (1 : Int32))] rfl rfl ?_
                  refine Own.s_iload X44 at_152 rfl rfl ?_
                  refine Own.s_iload X44 at_154 rfl rfl ?_
                  refine Own.s_ifF X44 at_156 ((if0 _ _).trans (feq (show ¬ (1 : Int32) = (0 : Int32) by decide)).1) rfl ?_
                  refine Own.s_iload X44 at_159 rfl rfl ?_
                  refine Own.s_ifF X44 at_161 ((if0 _ _).trans (feq (show ¬ (1 : Int32) = (0 : Int32) by decide)).1) rfl ?_
                  refine Own.s_iconst X44 at_164 (1 : Int32) (by decide) rfl ?_
                  refine Own.s_goto X44 at_165 (by decide) (pc' := 169) (by decide) ?_
                  refine Own.s_icmpT X44 at_169 (feq (show ¬ (0 : Int32) = (1 : Int32) by decide)).2 (by decide) (pc' := 176) (by decide) ?_
                  refine Own.s_iconst X44 at_176 (0 : Int32) (by decide) rfl ?_
                  exact Own.r_nar X44 rfl (Or.inl rfl) at_177 (by decide) (by decide) (absurd ⟨Or.inr (Or.inr hE42), Or.inr hE44⟩ hA24)
                · obtain ⟨rfl, hE44⟩ := Q44
                  refine Own.s_ifT X44 at_142 ((if0 _ _).trans (teq (show (0 : Int32) = (0 : Int32) by decide)).1) (by decide) (pc' := 149) (by decide) ?_
                  refine Own.s_iconst X44 at_149 (0 : Int32) (by decide) rfl ?_
                  refine Own.s_istore X44 at_150 #[.val (.int p0), .val (.int p1), .val (.int p2), .val (.int p3), .val (.int p4), .val (.int (p0 &&& (3 : Int32))), .val (.int ((XT.ushr p0 (2 : Int32)) &&& (3 : Int32))), .val (.int ((XT.ushr p0 (4 : Int32)) &&& (3 : Int32))), .val (.int ((XT.ushr p0 (6 : Int32)) &&& (3 : Int32))), .val (.int p1), .val (.int p3), .val (.ref b3), .val (.int (0 : Int32)), .val (.int (1 : Int32)), .val (.int (0 : Int32))] rfl rfl ?_
                  refine Own.s_iload X44 at_152 rfl rfl ?_
                  refine Own.s_iload X44 at_154 rfl rfl ?_
                  refine Own.s_ifF X44 at_156 ((if0 _ _).trans (feq (show ¬ (1 : Int32) = (0 : Int32) by decide)).1) rfl ?_
                  refine Own.s_iload X44 at_159 rfl rfl ?_
                  refine Own.s_ifT X44 at_161 ((if0 _ _).trans (teq (show (0 : Int32) = (0 : Int32) by decide)).1) (by decide) (pc' := 168) (by decide) ?_
                  refine Own.s_iconst X44 at_168 (0 : Int32) (by decide) rfl ?_
                  refine Own.s_icmpF X44 at_169 (teq (show (0 : Int32) = (0 : Int32) by decide)).2 rfl ?_
                  refine Own.s_iconst X44 at_172 (1 : Int32) (by decide) rfl ?_
                  refine Own.s_goto X44 at_173 (by decide) (pc' := 177) (by decide) ?_
                  exact Own.r_nar X44 rfl (Or.inl rfl) at_177 (by decide) (by decide) (by decide)
            · obtain ⟨rfl, hE42⟩ := Q42
              refine Own.s_ifT X42 at_117 ((if0 _ _).trans (teq (show (0 : Int32) = (0 : Int32) by decide)).1) (by decide) (pc' := 124) (by decide) ?_
              refine Own.s_iconst X42 at_124 (0 : Int32) (by decide) rfl ?_
              refine Own.s_istore X42 at_125 #[.val (.int p0), .val (.int p1), .val (.int p2), .val (.int p3), .val (.int p4), .val (.int (p0 &&& (3 : Int32))), .val (.int ((XT.ushr p0 (2 : Int32)) &&& (3 : Int32))), .val (.int ((XT.ushr p0 (4 : Int32)) &&& (3 : Int32))), .val (.int ((XT.ushr p0 (6 : Int32)) &&& (3 : Int32))), .val (.int p1), .val (.int p3), .val (.ref b3), .val (.int (0 : Int32)), .val (.int (0 : Int32)), .unset] rfl rfl ?_
              refine Own.s_iload X42 at_127 rfl rfl ?_
              by_cases hc129_45 : ((XT.ushr p0 (4 : Int32)) &&& (3 : Int32)) = (0 : Int32)
              · refine Own.s_ifT X42 at_129 ((if0 _ _).trans (teq hc129_45).1) (by decide) (pc' := 145) (by decide) ?_
                refine Own.s_iconst X42 at_145 (1 : Int32) (by decide) rfl ?_
                refine Own.s_goto X42 at_146 (by decide) (pc' := 150) (by decide) ?_
                refine Own.s_istore X42 at_150 #[.val (.int p0), .val (.int p1), .val (.int p2), .val (.int p3), .val (.int p4), .val (.int (p0 &&& (3 : Int32))), .val (.int ((XT.ushr p0 (2 : Int32)) &&& (3 : Int32))), .val (.int ((XT.ushr p0 (4 : Int32)) &&& (3 : Int32))), .val (.int ((XT.ushr p0 (6 : Int32)) &&& (3 : Int32))), .val (.int p1), .val (.int p3), .val (.ref b3), .val (.int (0 : Int32)), .val (.int (0 : Int32)), .val (.int (1 : Int32))] rfl rfl ?_
                refine Own.s_iload X42 at_152 rfl rfl ?_
                refine Own.s_iload X42 at_154 rfl rfl ?_
                refine Own.s_ifT X42 at_156 ((if0 _ _).trans (teq (show (0 : Int32) = (0 : Int32) by decide)).1) (by decide) (pc' := 168) (by decide) ?_
                refine Own.s_iconst X42 at_168 (0 : Int32) (by decide) rfl ?_
                refine Own.s_icmpF X42 at_169 (teq (show (0 : Int32) = (0 : Int32) by decide)).2 rfl ?_
                refine Own.s_iconst X42 at_172 (1 : Int32) (by decide) rfl ?_
                refine Own.s_goto X42 at_173 (by decide) (pc' := 177) (by decide) ?_
                exact Own.r_nar X42 rfl (Or.inl rfl) at_177 (by decide) (by decide) (by decide)
              · refine Own.s_ifF X42 at_129 ((if0 _ _).trans (feq hc129_45).1) rfl ?_
                refine Own.s_iload X42 at_132 rfl rfl ?_
                refine Own.s_iloadN X42 at_134 rfl rfl ?_
                refine Own.s_iload X42 at_135 rfl rfl ?_
                refine Own.s_iload X42 at_137 rfl rfl ?_
                refine Own.c_static X42 at_139 (tw62 hw) (tw63 hw) (tw5 hw) (tw64 hw) (by decide) [(.int ((XT.ushr p0 (4 : Int32)) &&& (3 : Int32))), (.int p3), (.int ((XT.ushr p0 (6 : Int32)) &&& (3 : Int32))), (.int p3)] [] 0 (rm_eq hw ((XT.ushr p0 (4 : Int32)) &&& (3 : Int32)) p3 ((XT.ushr p0 (6 : Int32)) &&& (3 : Int32)) p3 hc129_45 h42 X42.hE) (fun q => nomatch q) Own.Ok.nil (lenOf pd_14 rfl) rfl (Nat.le_of_eq rfl) (by decide) (by decide) (by decide) (by decide) rfl rfl ?_
                intro v46 vm46 T46 h46 L46 X46 V46 Q46
                rcases Q46 with Q46 | Q46
                · obtain ⟨rfl, hE46⟩ := Q46
                  refine Own.s_ifF X46 at_142 ((if0 _ _).trans (feq (show ¬ (1 : Int32) = (0 : Int32) by decide)).1) rfl ?_
                  refine Own.s_iconst X46 at_145 (1 : Int32) (by decide) rfl ?_
                  refine Own.s_goto X46 at_146 (by decide) (pc' := 150) (by decide) ?_
                  refine Own.s_istore X46 at_150 #[.val (.int p0), .val (.int p1), .val (.int p2), .val (.int p3), .val (.int p4), .val (.int (p0 &&& (3 : Int32))), .val (.int ((XT.ushr p0 (2 : Int32)) &&& (3 : Int32))), .val (.int ((XT.ushr p0 (4 : Int32)) &&& (3 : Int32))), .val (.int ((XT.ushr p0 (6 : Int32)) &&& (3 : Int32))), .val (.int p1), .val (.int p3), .val (.ref b3), .val (.int (0 : Int32)), .val (.int (0 : Int32)), .val (.int (1 : Int32))] rfl rfl ?_
                  refine Own.s_iload X46 at_152 rfl rfl ?_
                  refine Own.s_iload X46 at_154 rfl rfl ?_
                  refine Own.s_ifT X46 at_156 ((if0 _ _).trans (teq (show (0 : Int32) = (0 : Int32) by decide)).1) (by decide) (pc' := 168) (by decide) ?_
                  refine Own.s_iconst X46 at_168 (0 : Int32) (by decide) rfl ?_
                  refine Own.s_icmpF X46 at_169 (teq (show (0 : Int32) = (0 : Int32) by decide)).2 rfl ?_
                  refine Own.s_iconst X46 at_172 (1 : Int32) (by decide) rfl ?_
                  refine Own.s_goto X46 at_173 (by decide) (pc' := 177) (by decide) ?_
                  exact Own.r_nar X46 rfl (Or.inl rfl) at_177 (by decide) (by decide) (by decide)
                · obtain ⟨rfl, hE46⟩ := Q46
                  refine Own.s_ifT X46 at_142 ((if0 _ _).trans (teq (show (0 : Int32) = (0 : Int32) by decide)).1) (by decide) (pc' := 149) (by decide) ?_
                  refine Own.s_iconst X46 at_149 (0 : Int32) (by decide) rfl ?_
                  refine Own.s_istore X46 at_150 #[.val (.int p0), .val (.int p1), .val (.int p2), .val (.int p3), .val (.int p4), .val (.int (p0 &&& (3 : Int32))), .val (.int ((XT.ushr p0 (2 : Int32)) &&& (3 : Int32))), .val (.int ((XT.ushr p0 (4 : Int32)) &&& (3 : Int32))), .val (.int ((XT.ushr p0 (6 : Int32)) &&& (3 : Int32))), .val (.int p1), .val (.int p3), .val (.ref b3), .val (.int (0 : Int32)), .val (.int (0 : Int32)), .val (.int (0 : Int32))] rfl rfl ?_
                  refine Own.s_iload X46 at_152 rfl rfl ?_
                  refine Own.s_iload X46 at_154 rfl rfl ?_
                  refine Own.s_ifT X46 at_156 ((if0 _ _).trans (teq (show (0 : Int32) = (0 : Int32) by decide)).1) (by decide) (pc' := 168) (by decide) ?_
                  refine Own.s_iconst X46 at_168 (0 : Int32) (by decide) rfl ?_
                  refine Own.s_icmpF X46 at_169 (teq (show (0 : Int32) = (0 : Int32) by decide)).2 rfl ?_
                  refine Own.s_iconst X46 at_172 (1 : Int32) (by decide) rfl ?_
                  refine Own.s_goto X46 at_173 (by decide) (pc' := 177) (by decide) ?_
                  exact Own.r_nar X46 rfl (Or.inl rfl) at_177 (by decide) (by decide) (by decide)
    · refine Own.s_icmpT X0 at_43 (feq hc43_2).2 (by decide) (pc' := 50) (by decide) ?_
      refine Own.s_iload X0 at_50 rfl rfl ?_
      refine Own.s_istore X0 at_52 #[.val (.int p0), .val (.int p1), .val (.int p2), .val (.int p3), .val (.int p4), .val (.int (p0 &&& (3 : Int32))), .val (.int ((XT.ushr p0 (2 : Int32)) &&& (3 : Int32))), .val (.int ((XT.ushr p0 (4 : Int32)) &&& (3 : Int32))), .val (.int ((XT.ushr p0 (6 : Int32)) &&& (3 : Int32))), .val (.int p1), .val (.int p4), .unset, .unset, .unset, .unset] rfl rfl ?_
      refine Own.s_new X0 at_54 (tw0 hw) (tw1 hw) (tw2 hw) (by decide) (by decide) rfl ?_
      intro b47 T47 h47 X47 V47 g47 E47 O47 D47
      have F47_format : Fld Z h47 b47 "com/example/fedweave/fedweave/AuthnRequest$NameIdPolicy" "format" "Ljava/lang/String;" (.null) := D47 (Or.inr (tw19 hw)) (ty := (.object "java/lang/String")) (by decide)
      have F47_spNameQualifier : Fld Z h47 b47 "com/example/fedweave/fedweave/AuthnRequest$NameIdPolicy" "spNameQualifier" "Ljava/lang/String;" (.null) := D47 (Or.inr (tw21 hw)) (ty := (.object "java/lang/String")) (by decide)
      refine Own.s_dup X47 at_57 rfl rfl ?_
      refine Own.s_iload X47 at_58 rfl rfl ?_
      refine Own.s_iloadN X47 at_60 rfl rfl ?_
      refine Own.c_static X47 at_61 (tw3 hw) (tw4 hw) (tw5 hw) (tw6 hw) (by decide) [(.int (p0 &&& (3 : Int32))), (.int p1)] [(.ref b47), (.ref b47)] 2 (rm_make hw (p0 &&& (3 : Int32)) p1 SC hzc SF hfm h47 X47.hE) (fun _ => rfl) Own.Ok.nil (lenOf pd_11 rfl) rfl (Nat.le_of_eq rfl) (by decide) (by decide) (by decide) (by decide) rfl rfl ?_
      intro v48 vm48 T48 h48 L48 X48 V48 Q48
      obtain ⟨u48, rfl, M48⟩ := Q48
      have q48 := M48.isRef
      refine Own.s_iload X48 at_64 rfl rfl ?_
      refine Own.s_iloadN X48 at_66 rfl rfl ?_
      refine Own.c_static X48 at_67 (tw3 hw) (tw4 hw) (tw5 hw) (tw6 hw) (by decide) [(.int ((XT.ushr p0 (4 : Int32)) &&& (3 : Int32))), (.int p3)] [u48, (.ref b47), (.ref b47)] 3 (rm_make hw ((XT.ushr p0 (4 : Int32)) &&& (3 : Int32)) p3 SC hzc SF hfm h48 X48.hE) (fun _ => rfl) Own.Ok.nil (lenOf pd_11 rfl) rfl (by rcases ref_cases q48 with rfl | ⟨_, rfl⟩ <;>  exact Nat.le_of_eq rfl) (by decide) (by decide) (by decide) (by decide) rfl rfl ?_
      intro v49 vm49 T49 h49 L49 X49 V49 Q49
      obtain ⟨u49, rfl, M49⟩ := Q49
      have q49 := M49.isRef
      have ex50 : Ext h47 h48 := Own.extK (Own.Ext.rfl' h47) V48.1 all0
      have ex51 : Ext h47 h49 := Own.extK ex50 V49.1 all0
      have F_52 := Fld.ext ex51 F47_format
      have F_53 := Fld.ext ex51 F47_spNameQualifier
      have E_54 := Exa.ext ex51 E47
      have O55 := ((O47.ev V48).ev V49)
      refine Own.c_special X49 at_70 rfl (tw7 hw) (tw8 hw) (tw2 hw) (tw9 hw) (by decide) b47 [u48, u49] [(.ref b47)] 1 (rm_np hw b47 u48 q48 u49 q49  h49 X49.hE O55.2.1 E_54 F_52 F_53 ) (fun q => nomatch q) (Own.Ok.one O55) (lenOf pd_12 rfl) rfl (Nat.le_of_eq rfl) (by decide) (by decide) (by decide) (by decide) rfl rfl ?_
      intro v56 vm56 T56 h56 L56 X56 V56 Q56
      obtain ⟨rfl, E56, F56_0, F56_1⟩ := Q56
      refine Own.s_astore X56 at_73 rfl #[.val (.int p0), .val (.int p1), .val (.int p2), .val (.int p3), .val (.int p4), .val (.int (p0 &&& (3 : Int32))), .val (.int ((XT.ushr p0 (2 : Int32)) &&& (3 : Int32))), .val (.int ((XT.ushr p0 (4 : Int32)) &&& (3 : Int32))), .val (.int ((XT.ushr p0 (6 : Int32)) &&& (3 : Int32))), .val (.int p1), .val (.int p4), .val (.ref b47), .unset, .unset, .unset] rfl rfl ?_
      refine Own.s_aload X56 at_75 rfl rfl rfl ?_
      refine Own.s_iload X56 at_77 rfl rfl ?_
      refine Own.s_iload X56 at_79 rfl rfl ?_
      refine Own.c_static X56 at_81 (tw3 hw) (tw4 hw) (tw5 hw) (tw6 hw) (by decide) [(.int ((XT.ushr p0 (2 : Int32)) &&& (3 : Int32))), (.int p1)] [(.ref b47)] 1 (rm_make hw ((XT.ushr p0 (2 : Int32)) &&& (3 : Int32)) p1 SC hzc SF hfm h56 X56.hE) (fun _ => rfl) Own.Ok.nil (lenOf pd_11 rfl) rfl (Nat.le_of_eq rfl) (by decide) (by decide) (by decide) (by decide) rfl rfl ?_
      intro v57 vm57 T57 h57 L57 X57 V57 Q57
      obtain ⟨u57, rfl, M57⟩ := Q57
      have q57 := M57.isRef
      refine Own.s_iload X57 at_84 rfl rfl ?_
      refine Own.s_iload X57 at_86 rfl rfl ?_
      refine Own.c_static X57 at_88 (tw3 hw) (tw4 hw) (tw5 hw) (tw6 hw) (by decide) [(.int ((XT.ushr p0 (6 : Int32)) &&& (3 : Int32))), (.int p4)] [u57, (.ref b47)] 2 (rm_make hw ((XT.ushr p0 (6 : Int32)) &&& (3 : Int32)) p4 SC hzc SF hfm h57 X57.hE) (fun _ => rfl) Own.Ok.nil (lenOf pd_11 rfl) rfl (by rcases ref_cases q57 with rfl | ⟨_, rfl⟩ <;>  exact Nat.le_of_eq rfl) (by decide) (by decide) (by decide) (by decide) rfl rfl ?_
      intro v58 vm58 T58 h58 L58 X58 V58 Q58
      obtain ⟨u58, rfl, M58⟩ := Q58
      have q58 := M58.isRef
      have ex59 : Ext h56 h57 := Own.extK (Own.Ext.rfl' h56) V57.1 all0
      have ex60 : Ext h56 h58 := Own.extK ex59 V58.1 all0
      have E_61 := Exa.ext ex60 E56
      have F_62 := Fld.ext ex60 F56_0
      have F_63 := Fld.ext ex60 F56_1
      have M_64 := (Own.NStr.ext (Own.NStr.ext (Own.NStr.keepE (Own.NStr.ext M48 (Own.extN V49.1)) V56.1 E_54 (by decide) (tw1 hw)) (Own.extN V57.1)) (Own.extN V58.1))
      have M_65 := (Own.NStr.ext (Own.NStr.ext (Own.NStr.keepE M49 V56.1 E_54 (by decide) (tw1 hw)) (Own.extN V57.1)) (Own.extN V58.1))
      have ex66 : Ext h57 h58 := Own.extK (Own.Ext.rfl' h57) V58.1 all0
      have M_67 := Own.NStr.ext M57 ex66
      refine Own.c_virtual X58 at_91 (tw22 hw) (tw23 hw) (notFace_of_selects (args := #[]) (mvT X58.hZ (tw25 hw))) (tw25 hw) (tw24 hw) (tw2 hw) (tw26 hw) (by decide) b47 [u57, u58] [] 0 E_61 (rm_allows hw b47 u48 u49 u57 u58 (own_mk (p0 &&& (3 : Int32)) p1) (own_mk ((XT.ushr p0 (4 : Int32)) &&& (3 : Int32)) p3) (own_mk ((XT.ushr p0 (2 : Int32)) &&& (3 : Int32)) p1) (own_mk ((XT.ushr p0 (6 : Int32)) &&& (3 : Int32)) p4) q48 q49 q57 q58 SC hzc SF hfm h58 X58.hE E_61 F_62 F_63 M_64 M_65 M_67 M58) (fun _ => rfl) Own.Ok.nil (lenOf pd_13 rfl) rfl (Nat.le_of_eq rfl) (by decide) (by decide) (by decide) (by decide) rfl rfl ?_
      intro v68 vm68 T68 h68 L68 X68 V68 Q68
      rcases Q68 with Q68 | Q68
      · obtain ⟨rfl, hA68⟩ := Q68
        refine Own.s_istore X68 at_94 #[.val (.int p0), .val (.int p1), .val (.int p2), .val (.int p3), .val (.int p4), .val (.int (p0 &&& (3 : Int32))), .val (.int ((XT.ushr p0 (2 : Int32)) &&& (3 : Int32))), .val (.int ((XT.ushr p0 (4 : Int32)) &&& (3 : Int32))), .val (.int ((XT.ushr p0 (6 : Int32)) &&& (3 : Int32))), .val (.int p1), .val (.int p4), .val (.ref b47), .val (.int (1 : Int32)), .unset, .unset] rfl rfl ?_
        refine Own.s_iload X68 at_96 rfl rfl ?_
        by_cases hc98_69 : (p0 &&& (3 : Int32)) = (0 : Int32)
        · refine Own.s_ifT X68 at_98 ((if0 _ _).trans (teq hc98_69).1) (by decide) (pc' := 120) (by decide) ?_
          refine Own.s_iconst X68 at_120 (1 : Int32) (by decide) rfl ?_
          refine Own.s_goto X68 at_121 (by decide) (pc' := 125) (by decide) ?_
          refine Own.s_istore X68 at_125 #[.val (.int p0), .val (.int p1), .val (.int p2), .val (.int p3), .val (.int p4), .val (.int (p0 &&& (3 : Int32))), .val (.int ((XT.ushr p0 (2 : Int32)) &&& (3 : Int32))), .val (.int ((XT.ushr p0 (4 : Int32)) &&& (3 : Int32))), .val (.int ((XT.ushr p0 (6 : Int32)) &&& (3 : Int32))), .val (.int p1), .val (.int p4), .val (.ref b47), .val (.int (1 : Int32)), .val (.int (1 : Int32)), .unset] rfl rfl ?_
          refine Own.s_iload X68 at_127 rfl rfl ?_
          by_cases hc129_70 : ((XT.ushr p0 (4 : Int32)) &&& (3 : Int32)) = (0 : Int32)
          · refine Own.s_ifT X68 at_129 ((if0 _ _).trans (teq hc129_70).1) (by decide) (pc' := 145) (by decide) ?_
            refine Own.s_iconst X68 at_145 (1 : Int32) (by decide) rfl ?_
            refine Own.s_goto X68 at_146 (by decide) (pc' := 150) (by decide) ?_
            refine Own.s_istore X68 at_150 #[.val (.int p0), .val (.int p1), .val (.int p2), .val (.int p3), .val (.int p4), .val (.int (p0 &&& (3 : Int32))), .val (.int ((XT.ushr p0 (2 : Int32)) &&& (3 : Int32))), .val (.int ((XT.ushr p0 (4 : Int32)) &&& (3 : Int32))), .val (.int ((XT.ushr p0 (6 : Int32)) &&& (3 : Int32))), .val (.int p1), .val (.int p4), .val (.ref b47), .val (.int (1 : Int32)), .val (.int (1 : Int32)), .val (.int (1 : Int32))] rfl rfl ?_
            refine Own.s_iload X68 at_152 rfl rfl ?_
            refine Own.s_iload X68 at_154 rfl rfl ?_
            refine Own.s_ifF X68 at_156 ((if0 _ _).trans (feq (show ¬ (1 : Int32) = (0 : Int32) by decide)).1) rfl ?_
            refine Own.s_iload X68 at_159 rfl rfl ?_
            refine Own.s_ifF X68 at_161 ((if0 _ _).trans (feq (show ¬ (1 : Int32) = (0 : Int32) by decide)).1) rfl ?_
            refine Own.s_iconst X68 at_164 (1 : Int32) (by decide) rfl ?_
            refine Own.s_goto X68 at_165 (by decide) (pc' := 169) (by decide) ?_
            refine Own.s_icmpF X68 at_169 (teq (show (1 : Int32) = (1 : Int32) by decide)).2 rfl ?_
            refine Own.s_iconst X68 at_172 (1 : Int32) (by decide) rfl ?_
            refine Own.s_goto X68 at_173 (by decide) (pc' := 177) (by decide) ?_
            exact Own.r_nar X68 rfl (Or.inl rfl) at_177 (by decide) (by decide) (by decide)
          · refine Own.s_ifF X68 at_129 ((if0 _ _).trans (feq hc129_70).1) rfl ?_
            refine Own.s_iload X68 at_132 rfl rfl ?_
            refine Own.s_iloadN X68 at_134 rfl rfl ?_
            refine Own.s_iload X68 at_135 rfl rfl ?_
            refine Own.s_iload X68 at_137 rfl rfl ?_
            refine Own.c_static X68 at_139 (tw62 hw) (tw63 hw) (tw5 hw) (tw64 hw) (by decide) [(.int ((XT.ushr p0 (4 : Int32)) &&& (3 : Int32))), (.int p3), (.int ((XT.ushr p0 (6 : Int32)) &&& (3 : Int32))), (.int p4)] [] 0 (rm_eq hw ((XT.ushr p0 (4 : Int32)) &&& (3 : Int32)) p3 ((XT.ushr p0 (6 : Int32)) &&& (3 : Int32)) p4 hc129_70 h68 X68.hE) (fun q => nomatch q) Own.Ok.nil (lenOf pd_14 rfl) rfl (Nat.le_of_eq rfl) (by decide) (by decide) (by decide) (by decide) rfl rfl ?_
            intro v71 vm71 T71 h71 L71 X71 V71 Q71
            rcases Q71 with Q71 | Q71
            · obtain ⟨rfl, hE71⟩ := Q71
              refine Own.s_ifF X71 at_142 ((if0 _ _).trans (feq (show ¬ (1 : Int32) = (0 : Int32) by decide)).1) rfl ?_
              refine Own.s_iconst X71 at_145 (1 : Int32) (by decide) rfl ?_
              refine Own.s_goto X71 at_146 (by decide) (pc' := 150) (by decide) ?_
              refine Own.s_istore X71 at_150 #[.val (.int p0), .val (.int p1), .val (.int p2), .val (.int p3), .val (.int p4), .val (.int (p0 &&& (3 : Int32))), .val (.int ((XT.ushr p0 (2 : Int32)) &&& (3 : Int32))), .val (.int ((XT.ushr p0 (4 : Int32)) &&& (3 : Int32))), .val (.int ((XT.ushr p0 (6 : Int32)) &&& (3 : Int32))), .val (.int p1), .val (.int p4), .val (.ref b47), .val (.int (1 : Int32)), .val (.int (1 : Int32)), .val (.int (1 : Int32))] rfl rfl ?_
              refine Own.s_iload X71 at_152 rfl rfl ?_
              refine Own.s_iload X71 at_154 rfl rfl ?_
              refine Own.s_ifF X71 at_156 ((if0 _ _).trans (feq (show ¬ (1 : Int32) = (0 : Int32) by decide)).1) rfl ?_
              refine Own.s_iload X71 at_159 rfl rfl ?_
              refine Own.s_ifF X71 at_161 ((if0 _ _).trans (feq (show ¬ (1 : Int32) = (0 : Int32) by decide)).1) rfl ?_
              refine Own.s_iconst X71 at_164 (1 : Int32) (by decide) rfl ?_
              refine Own.s_goto X71 at_165 (by decide) (pc' := 169) (by decide) ?_
              refine Own.s_icmpF X71 at_169 (teq (show (1 : Int32) = (1 : Int32) by decide)).2 rfl ?_
              refine Own.s_iconst X71 at_172 (1 : Int32) (by decide) rfl ?_
              refine Own.s_goto X71 at_173 (by decide) (pc' := 177) (by decide) ?_
              exact Own.r_nar X71 rfl (Or.inl rfl) at_177 (by decide) (by decide) (by decide)
            · obtain ⟨rfl, hE71⟩ := Q71
              refine Own.s_ifT X71 at_142 ((if0 _ _).trans (teq (show (0 : Int32) = (0 : Int32) by decide)).1) (by decide) (pc' := 149) (by decide) ?_
              refine Own.s_iconst X71 at_149 (0 : Int32) (by decide) rfl ?_
              refine Own.s_istore X71 at_150 #[.val (.int p0), .val (.int p1), .val (.int p2), .val (.int p3), .val (.int p4), .val (.int (p0 &&& (3 : Int32))), .val (.int ((XT.ushr p0 (2 : Int32)) &&& (3 : Int32))), .val (.int ((XT.ushr p0 (4 : Int32)) &&& (3 : Int32))), .val (.int ((XT.ushr p0 (6 : Int32)) &&& (3 : Int32))), .val (.int p1), .val (.int p4), .val (.ref b47), .val (.int (1 : Int32)), .val (.int (1 : Int32)), .val (.int (0 : Int32))] rfl rfl ?_
              refine Own.s_iload X71 at_152 rfl rfl ?_
              refine Own.s_iload X71 at_154 rfl rfl ?_
              refine Own.s_ifF X71 at_156 ((if0 _ _).trans (feq (show ¬ (1 : Int32) = (0 : Int32) by decide)).1) rfl ?_
              refine Own.s_iload X71 at_159 rfl rfl ?_
              refine Own.s_ifT X71 at_161 ((if0 _ _).trans (teq (show (0 : Int32) = (0 : Int32) by decide)).1) (by decide) (pc' := 168) (by decide) ?_
              refine Own.s_iconst X71 at_168 (0 : Int32) (by decide) rfl ?_
              refine Own.s_icmpT X71 at_169 (feq (show ¬ (1 : Int32) = (0 : Int32) by decide)).2 (by decide) (pc' := 176) (by decide) ?_
              refine Own.s_iconst X71 at_176 (0 : Int32) (by decide) rfl ?_
              exact Own.r_nar X71 rfl (Or.inl rfl) at_177 (by decide) (by decide) (absurd hA68.2 (own_notS hc129_70 hE71))
        · refine Own.s_ifF X68 at_98 ((if0 _ _).trans (feq hc98_69).1) rfl ?_
          refine Own.s_iload X68 at_101 rfl rfl ?_
          refine Own.s_iconst X68 at_103 (1 : Int32) (by decide) rfl ?_
          by_cases hc104_72 : (p0 &&& (3 : Int32)) = (1 : Int32)
          · refine Own.s_icmpT X68 at_104 (teq hc104_72).1 (by decide) (pc' := 120) (by decide) ?_
            refine Own.s_iconst X68 at_120 (1 : Int32) (by decide) rfl ?_
            refine Own.s_goto X68 at_121 (by decide) (pc' := 125) (by decide) ?_
            refine Own.s_istore X68 at_125 #[.val (.int p0), .val (.int p1), .val (.int p2), .val (.int p3), .val (.int p4), .val (.int (p0 &&& (3 : Int32))), .val (.int ((XT.ushr p0 (2 : Int32)) &&& (3 : Int32))), .val (.int ((XT.ushr p0 (4 : Int32)) &&& (3 : Int32))), .val (.int ((XT.ushr p0 (6 : Int32)) &&& (3 : Int32))), .val (.int p1), .val (.int p4), .val (.ref b47), .val (.int (1 : Int32)), .val (.int (1 : Int32)), .unset] rfl rfl ?_
            refine Own.s_iload X68 at_127 rfl rfl ?_
            by_cases hc129_73 : ((XT.ushr p0 (4 : Int32)) &&& (3 : Int32)) = (0 : Int32)
            · refine Own.s_ifT X68 at_129 ((if0 _ _).trans (teq hc129_73).1) (by decide) (pc' := 145) (by decide) ?_
              refine Own.s_iconst X68 at_145 (1 : Int32) (by decide) rfl ?_
              refine Own.s_goto X68 at_146 (by decide) (pc' := 150) (by decide) ?_
              refine Own.s_istore X68 at_150 #[.val (.int p0), .val (.int p1), .val (.int p2), .val (.int p3), .val (.int p4), .val (.int (p0 &&& (3 : Int32))), .val (.int ((XT.ushr p0 (2 : Int32)) &&& (3 : Int32))), .val (.int ((XT.ushr p0 (4 : Int32)) &&& (3 : Int32))), .val (.int ((XT.ushr p0 (6 : Int32)) &&& (3 : Int32))), .val (.int p1), .val (.int p4), .val (.ref b47), .val (.int (1 : Int32)), .val (.int (1 : Int32)), .val (.int (1 : Int32))] rfl rfl ?_
              refine Own.s_iload X68 at_152 rfl rfl ?_
              refine Own.s_iload X68 at_154 rfl rfl ?_
              refine Own.s_ifF X68 at_156 ((if0 _ _).trans (feq (show ¬ (1 : Int32) = (0 : Int32) by decide)).1) rfl ?_
              refine Own.s_iload X68 at_159 rfl rfl ?_
              refine Own.s_ifF X68 at_161 ((if0 _ _).trans (feq (show ¬ (1 : Int32) = (0 : Int32) by decide)).1) rfl ?_
              refine Own.s_iconst X68 at_164 (1 : Int32) (by decide) rfl ?_
              refine Own.s_goto X68 at_165 (by decide) (pc' := 169) (by decide) ?_
              refine Own.s_icmpF X68 at_169 (teq (show (1 : Int32) = (1 : Int32) by decide)).2 rfl ?_
              refine Own.s_iconst X68 at_172 (1 : Int32) (by decide) rfl ?_
              refine Own.s_goto X68 at_173 (by decide) (pc' := 177) (by decide) ?_
              exact Own.r_nar X68 rfl (Or.inl rfl) at_177 (by decide) (by decide) (by decide)
            · refine Own.s_ifF X68 at_129 ((if0 _ _).trans (feq hc129_73).1) rfl ?_
              refine Own.s_iload X68 at_132 rfl rfl ?_
              refine Own.s_iloadN X68 at_134 rfl rfl ?_
              refine Own.s_iload X68 at_135 rfl rfl ?_
              refine Own.s_iload X68 at_137 rfl rfl ?_
              refine Own.c_static X68 at_139 (tw62 hw) (tw63 hw) (tw5 hw) (tw64 hw) (by decide) [(.int ((XT.ushr p0 (4 : Int32)) &&& (3 : Int32))), (.int p3), (.int ((XT.ushr p0 (6 : Int32)) &&& (3 : Int32))), (.int p4)] [] 0 (rm_eq hw ((XT.ushr p0 (4 : Int32)) &&& (3 : Int32)) p3 ((XT.ushr p0 (6 : Int32)) &&& (3 : Int32)) p4 hc129_73 h68 X68.hE) (fun q => nomatch q) Own.Ok.nil (lenOf pd_14 rfl) rfl (Nat.le_of_eq rfl) (by decide) (by decide) (by decide) (by decide) rfl rfl ?_
              intro v74 vm74 T74 h74 L74 X74 V74 Q74
              rcases Q74 with Q74 | Q74
              · obtain ⟨rfl, hE74⟩ := Q74
                refine Own.s_ifF X74 at_142 ((if0 _ _).trans (feq (show ¬ (1 : Int32) = (0 : Int32) by decide)).1) rfl ?_
                refine Own.s_iconst X74 at_145 (1 : Int32) (by decide) rfl ?_
                refine Own.s_goto X74 at_146 (by decide) (pc' := 150) (by decide) ?_
                refine Own.s_istore X74 at_150 #[.val (.int p0), .val (.int p1), .val (.int p2), .val (.int p3), .val (.int p4), .val (.int (p0 &&& (3 : Int32))), .val (.int ((XT.ushr p0 (2 : Int32)) &&& (3 : Int32))), .val (.int ((XT.ushr p0 (4 : Int32)) &&& (3 : Int32))), .val (.int ((XT.ushr p0 (6 : Int32)) &&& (3 : Int32))), .val (.int p1), .val (.int p4), .val (.ref b47), .val (.int (1 : Int32)), .val (.int (1 : Int32)), .val (.int (1 : Int32))] rfl rfl ?_
                refine Own.s_iload X74 at_152 rfl rfl ?_
                refine Own.s_iload X74 at_154 rfl rfl ?_
                refine Own.s_ifF X74 at_156 ((if0 _ _).trans (feq (show ¬ (1 : Int32) = (0 : Int32) by decide)).1) rfl ?_
                refine Own.s_iload X74 at_159 rfl rfl ?_
                refine Own.s_ifF X74 at_161 ((if0 _ _).trans (feq (show ¬ (1 : Int32) = (0 : Int32) by decide)).1) rfl ?_
                refine Own.s_iconst X74 at_164 (1 : Int32) (by decide) rfl ?_
                refine Own.s_goto X74 at_165 (by decide) (pc' := 169) (by decide) ?_
                refine Own.s_icmpF X74 at_169 (teq (show (1 : Int32) = (1 : Int32) by decide)).2 rfl ?_
                refine Own.s_iconst X74 at_172 (1 : Int32) (by decide) rfl ?_
                refine Own.s_goto X74 at_173 (by decide) (pc' := 177) (by decide) ?_
                exact Own.r_nar X74 rfl (Or.inl rfl) at_177 (by decide) (by decide) (by decide)
              · obtain ⟨rfl, hE74⟩ := Q74
                refine Own.s_ifT X74 at_142 ((if0 _ _).trans (teq (show (0 : Int32) = (0 : Int32) by decide)).1) (by decide) (pc' := 149) (by decide) ?_
                refine Own.s_iconst X74 at_149 (0 : Int32) (by decide) rfl ?_
                refine Own.s_istore X74 at_150 #[.val (.int p0), .val (.int p1), .val (.int p2), .val (.int p3), .val (.int p4), .val (.int (p0 &&& (3 : Int32))), .val (.int ((XT.ushr p0 (2 : Int32)) &&& (3 : Int32))), .val (.int ((XT.ushr p0 (4 : Int32)) &&& (3 : Int32))), .val (.int ((XT.ushr p0 (6 : Int32)) &&& (3 : Int32))), .val (.int p1), .val (.int p4), .val (.ref b47), .val (.int (1 : Int32)), .val (.int (1 : Int32)), .val (.int (0 : Int32))] rfl rfl ?_
                refine Own.s_iload X74 at_152 rfl rfl ?_
                refine Own.s_iload X74 at_154 rfl rfl ?_
                refine Own.s_ifF X74 at_156 ((if0 _ _).trans (feq (show ¬ (1 : Int32) = (0 : Int32) by decide)).1) rfl ?_
                refine Own.s_iload X74 at_159 rfl rfl ?_
                refine Own.s_ifT X74 at_161 ((if0 _ _).trans (teq (show (0 : Int32) = (0 : Int32) by decide)).1) (by decide) (pc' := 168) (by decide) ?_
                refine Own.s_iconst X74 at_168 (0 : Int32) (by decide) rfl ?_
                refine Own.s_icmpT X74 at_169 (feq (show ¬ (1 : Int32) = (0 : Int32) by decide)).2 (by decide) (pc' := 176) (by decide) ?_
                refine Own.s_iconst X74 at_176 (0 : Int32) (by decide) rfl ?_
                exact Own.r_nar X74 rfl (Or.inl rfl) at_177 (by decide) (by decide) (absurd hA68.2 (own_notS hc129_73 hE74))
          · refine Own.s_icmpF X68 at_104 (feq hc104_72).1 rfl ?_
            refine Own.s_iload X68 at_107 rfl rfl ?_
            refine Own.s_iloadN X68 at_109 rfl rfl ?_
            refine Own.s_iload X68 at_110 rfl rfl ?_
            refine Own.s_iload X68 at_112 rfl rfl ?_
            refine Own.c_static X68 at_114 (tw62 hw) (tw63 hw) (tw5 hw) (tw64 hw) (by decide) [(.int (p0 &&& (3 : Int32))), (.int p1), (.int ((XT.ushr p0 (2 : Int32)) &&& (3 : Int32))), (.int p1)] [] 0 (rm_eq hw (p0 &&& (3 : Int32)) p1 ((XT.ushr p0 (2 : Int32)) &&& (3 : Int32)) p1 hc98_69 h68 X68.hE) (fun q => nomatch q) Own.Ok.nil (lenOf pd_14 rfl) rfl (Nat.le_of_eq rfl) (by decide) (by decide) (by decide) (by decide) rfl rfl ?_
            intro v75 vm75 T75 h75 L75 X75 V75 Q75
            rcases Q75 with Q75 | Q75
            · obtain ⟨rfl, hE75⟩ := Q75
              refine Own.s_ifF X75 at_117 ((if0 _ _).trans (feq (show ¬ (1 : Int32) = (0 : Int32) by decide)).1) rfl ?_
              refine Own.s_iconst X75 at_120 (1 : Int32) (by decide) rfl ?_
              refine Own.s_goto X75 at_121 (by decide) (pc' := 125) (by decide) ?_
              refine Own.s_istore X75 at_125 #[.val (.int p0), .val (.int p1), .val (.int p2), .val (.int p3), .val (.int p4), .val (.int (p0 &&& (3 : Int32))), .val (.int ((XT.ushr p0 (2 : Int32)) &&& (3 : Int32))), .val (.int ((XT.ushr p0 (4 : Int32)) &&& (3 : Int32))), .val (.int ((XT.ushr p0 (6 : Int32)) &&& (3 : Int32))), .val (.int p1), .val (.int p4), .val (.ref b47), .val (.int (1 : Int32)), .val (.int (1 : Int32)), .unset] rfl rfl ?_
              refine Own.s_iload X75 at_127 rfl rfl ?_
              by_cases hc129_76 : ((XT.ushr p0 (4 : Int32)) &&& (3 : Int32)) = (0 : Int32)
              · refine Own.s_ifT X75 at_129 ((if0 _ _).trans (teq hc129_76).1) (by decide) (pc' := 145) (by decide) ?_
                refine Own.s_iconst X75 at_145 (1 : Int32) (by decide) rfl ?_
                refine Own.s_goto X75 at_146 (by decide) (pc' := 150) (by decide) ?_
                refine Own.s_istore X75 at_150 #[.val (.int p0), .val (.int p1), .val (.int p2), .val (.int p3), .val (.int p4), .val (.int (p0 &&& (3 : Int32))), .val (.int ((XT.ushr p0 (2 : Int32)) &&& (3 : Int32))), .val (.int ((XT.ushr p0 (4 : Int32)) &&& (3 : Int32))), .val (.int ((XT.ushr p0 (6 : Int32)) &&& (3 : Int32))), .val (.int p1), .val (.int p4), .val (.ref b47), .val (.int (1 : Int32)), .val (.int (1 : Int32)), .val (.int (1 : Int32))] rfl rfl ?_
                refine Own.s_iload X75 at_152 rfl rfl ?_
                refine Own.s_iload X75 at_154 rfl rfl ?_
                refine Own.s_ifF X75 at_156 ((if0 _ _).trans (feq (show ¬ (1 : Int32) = (0 : Int32) by decide)).1) rfl ?_
                refine Own.s_iload X75 at_159 rfl rfl ?_
                refine Own.s_ifF X75 at_161 ((if0 _ _).trans (feq (show ¬ (1 : Int32) = (0 : Int32) by decide)).1) rfl ?_
                refine Own.s_iconst X75 at_164 (1 : Int32) (by decide) rfl ?_
                refine Own.s_goto X75 at_165 (by decide) (pc' := 169) (by decide) ?_
                refine Own.s_icmpF X75 at_169 (teq (show (1 : Int32) = (1 : Int32) by decide)).2 rfl ?_
                refine Own.s_iconst X75 at_172 (1 : Int32) (by decide) rfl ?_
                refine Own.s_goto X75 at_173 (by decide) (pc' := 177) (by decide) ?_
                exact Own.r_nar X75 rfl (Or.inl rfl) at_177 (by decide) (by decide) (by decide)
              · refine Own.s_ifF X75 at_129 ((if0 _ _).trans (feq hc129_76).1) rfl ?_
                refine Own.s_iload X75 at_132 rfl rfl ?_
                refine Own.s_iloadN X75 at_134 rfl rfl ?_
                refine Own.s_iload X75 at_135 rfl rfl ?_
                refine Own.s_iload X75 at_137 rfl rfl ?_
                refine Own.c_static X75 at_139 (tw62 hw) (tw63 hw) (tw5 hw) (tw64 hw) (by decide) [(.int ((XT.ushr p0 (4 : Int32)) &&& (3 : Int32))), (.int p3), (.int ((XT.ushr p0 (6 : Int32)) &&& (3 : Int32))), (.int p4)] [] 0 (rm_eq hw ((XT.ushr p0 (4 : Int32)) &&& (3 : Int32)) p3 ((XT.ushr p0 (6 : Int32)) &&& (3 : Int32)) p4 hc129_76 h75 X75.hE) (fun q => nomatch q) Own.Ok.nil (lenOf pd_14 rfl) rfl (Nat.le_of_eq rfl) (by decide) (by decide) (by decide) (by decide) rfl rfl ?_
                intro v77 vm77 T77 h77 L77 X77 V77 Q77
                rcases Q77 with Q77 | Q77
                · obtain ⟨rfl, hE77⟩ := Q77
                  refine Own.s_ifF X77 at_142 ((if0 _ _).trans (feq (show ¬ (1 : Int32) = (0 : Int32) by decide)).1) rfl ?_
                  refine Own.s_iconst X77 at_145 (1 : Int32) (by decide) rfl ?_
                  refine Own.s_goto X77 at_146 (by decide) (pc' := 150) (by decide) ?_
                  refine Own.s_istore X77 at_150 #[.val (.int p0), .val (.int p1), .val (.int p2), .val (.int p3), .val (.int p4), .val (.int (p0 &&& (3 : Int32))), .val (.int ((XT.ushr p0 (2 : Int32)) &&& (3 : Int32))), .val (.int ((XT.ushr p0 (4 : Int32)) &&& (3 : Int32))), .val (.int ((XT.ushr p0 (6 : Int32)) &&& (3 : Int32))), .val (.int p1), .val (.int p4), .val (.ref b47), .val (.int (1 : Int32)), .val (.int (1 : Int32)), .val (.int (1 : Int32))] rfl rfl ?_
                  refine Own.s_iload X77 at_152 rfl rfl ?_
                  refine Own.s_iload X77 at_154 rfl rfl ?_
                  refine Own.s_ifF X77 at_156 ((if0 _ _).trans (feq (show ¬ (1 : Int32) = (0 : Int32) by decide)).1) rfl ?_
                  refine Own.s_iload X77 at_159 rfl rfl ?_
                  refine Own.s_ifF X77 at_161 ((if0 _ _).trans (feq (show ¬ (1 : Int32) = (0 : Int32) by decide)).1) rfl ?_
                  refine Own.s_iconst X77 at_164 (1 : Int32) (by decide) rfl ?_
                  refine Own.s_goto X77 at_165 (by decide) (pc' := 169) (by decide) ?_
                  refine Own.s_icmpF X77 at_169 (teq (show (1 : Int32) = (1 : Int32) by decide)).2 rfl ?_
                  refine Own.s_iconst X77 at_172 (1 : Int32) (by decide) rfl ?_
                  refine Own.s_goto X77 at_173 (by decide) (pc' := 177) (by decide) ?_
                  exact Own.r_nar X77 rfl (Or.inl rfl) at_177 (by decide) (by decide) (by decide)
                · obtain ⟨rfl, hE77⟩ := Q77
                  refine Own.s_ifT X77 at_142 ((if0 _ _).trans (teq (show (0 : Int32) = (0 : Int32) by decide)).1) (by decide) (pc' := 149) (by decide) ?_
                  refine Own.s_iconst X77 at_149 (0 : Int32) (by decide) rfl ?_
                  refine Own.s_istore X77 at_150 #[.val (.int p0), .val (.int p1), .val (.int p2), .val (.int p3), .val (.int p4), .val (.int (p0 &&& (3 : Int32))), .val (.int ((XT.ushr p0 (2 : Int32)) &&& (3 : Int32))), .val (.int ((XT.ushr p0 (4 : Int32)) &&& (3 : Int32))), .val (.int ((XT.ushr p0 (6 : Int32)) &&& (3 : Int32))), .val (.int p1), .val (.int p4), .val (.ref b47), .val (.int (1 : Int32)), .val (.int (1 : Int32)), .val (.int (0 : Int32))] rfl rfl ?_
                  refine Own.s_iload X77 at_152 rfl rfl ?_
                  refine Own.s_iload X77 at_154 rfl rfl ?_
                  refine Own.s_ifF X77 at_156 ((if0 _ _).trans (feq (show ¬ (1 : Int32) = (0 : Int32) by decide)).1) rfl ?_
                  refine Own.s_iload X77 at_159 rfl rfl ?_
                  refine Own.s_ifT X77 at_161 ((if0 _ _).trans (teq (show (0 : Int32) = (0 : Int32) by decide)).1) (by decide) (pc' := 168) (by decide) ?_
                  refine Own.s_iconst X77 at_168 (0 : Int32) (by decide) rfl ?_
                  refine Own.s_icmpT X77 at_169 (feq (show ¬ (1 : Int32) = (0 : Int32) by decide)).2 (by decide) (pc' := 176) (by decide) ?_
                  refine Own.s_iconst X77 at_176 (0 : Int32) (by decide) rfl ?_
                  exact Own.r_nar X77 rfl (Or.inl rfl) at_177 (by decide) (by decide) (absurd hA68.2 (own_notS hc129_76 hE77))
            · obtain ⟨rfl, hE75⟩ := Q75
              refine Own.s_ifT X75 at_117 ((if0 _ _).trans (teq (show (0 : Int32) = (0 : Int32) by decide)).1) (by decide) (pc' := 124) (by decide) ?_
              refine Own.s_iconst X75 at_124 (0 : Int32) (by decide) rfl ?_
              refine Own.s_istore X75 at_125 #[.val (.int p0), .val (.int p1), .val (.int p2), .val (.int p3), .val (.int p4), .val (.int (p0 &&& (3 : Int32))), .val (.int ((XT.ushr p0 (2 : Int32)) &&& (3 : Int32))), .val (.int ((XT.ushr p0 (4 : Int32)) &&& (3 : Int32))), .val (.int ((XT.ushr p0 (6 : Int32)) &&& (3 : Int32))), .val (.int p1), .val (.int p4), .val (.ref b47), .val (.int (1 : Int32)), .val (.int (0 : Int32)), .unset] rfl rfl ?_
              refine Own.s_iload X75 at_127 rfl rfl ?_
              by_cases hc129_78 : ((XT.ushr p0 (4 : Int32)) &&& (3 : Int32)) = (0 : Int32)
              · refine Own.s_ifT X75 at_129 ((if0 _ _).trans (teq hc129_78).1) (by decide) (pc' := 145) (by decide) ?_
                refine Own.s_iconst X75 at_145 (1 : Int32) (by decide) rfl ?_
                refine Own.s_goto X75 at_146 (by decide) (pc' := 150) (by decide) ?_
                refine Own.s_istore X75 at_150 #[.val (.int p0), .val (.int p1), .val (.int p2), .val (.int p3), .val (.int p4), .val (.int (p0 &&& (3 : Int32))), .val (.int ((XT.ushr p0 (2 : Int32)) &&& (3 : Int32))), .val (.int ((XT.ushr p0 (4 : Int32)) &&& (3 : Int32))), .val (.int ((XT.ushr p0 (6 : Int32)) &&& (3 : Int32))), .val (.int p1), .val (.int p4), .val (.ref b47), .val (.int (1 : Int32)), .val (.int (0 : Int32)), .val (.int (1 : Int32))] rfl rfl ?_
                refine Own.s_iload X75 at_152 rfl rfl ?_
                refine Own.s_iload X75 at_154 rfl rfl ?_
                refine Own.s_ifT X75 at_156 ((if0 _ _).trans (teq (show (0 : Int32) = (0 : Int32) by decide)).1) (by decide) (pc' := 168) (by decide) ?_
                refine Own.s_iconst X75 at_168 (0 : Int32) (by decide) rfl ?_
                refine Own.s_icmpT X75 at_169 (feq (show ¬ (1 : Int32) = (0 : Int32) by decide)).2 (by decide) (pc' := 176) (by decide) ?_
                refine Own.s_iconst X75 at_176 (0 : Int32) (by decide) rfl ?_
                exact Own.r_nar X75 rfl (Or.inl rfl) at_177 (by decide) (by decide) (absurd hA68.1 (own_notF hc98_69 hc104_72 hE75))
              · refine Own.s_ifF X75 at_129 ((if0 _ _).trans (feq hc129_78).1) rfl ?_
                refine Own.s_iload X75 at_132 rfl rfl ?_
                refine Own.s_iloadN X75 at_134 rfl rfl ?_
                refine Own.s_iload X75 at_135 rfl rfl ?_
                refine Own.s_iload X75 at_137 rfl rfl ?_
                refine Own.c_static X75 at_139 (tw62 hw) (tw63 hw) (tw5 hw) (tw64 hw) (by decide) [(.int ((XT.ushr p0 (4 : Int32)) &&& (3 : Int32))), (.int p3), (.int ((XT.ushr p0 (6 : Int32)) &&& (3 : Int32))), (.int p4)] [] 0 (rm_eq hw ((XT.ushr p0 (4 : Int32)) &&& (3 : Int32)) p3 ((XT.ushr p0 (6 : Int32)) &&& (3 : Int32)) p4 hc129_78 h75 X75.hE) (fun q => nomatch q) Own.Ok.nil (lenOf pd_14 rfl) rfl (Nat.le_of_eq rfl) (by decide) (by decide) (by decide) (by decide) rfl rfl ?_
                intro v79 vm79 T79 h79 L79 X79 V79 Q79
                rcases Q79 with Q79 | Q79
                · obtain ⟨rfl, hE79⟩ := Q79
                  refine Own.s_ifF X79 at_142 ((if0 _ _).trans (feq (show ¬ (1 : Int32) = (0 : Int32) by decide)).1) rfl ?_
                  refine Own.s_iconst X79 at_145 (1 : Int32) (by decide) rfl ?_
                  refine Own.s_goto X79 at_146 (by decide) (pc' := 150) (by decide) ?_
                  refine Own.s_istore X79 at_150 #[.val (.int p0), .val (.int p1), .val (.int p2), .val (.int p3), .val (.int p4), .val (.int (p0 &&& (3 : Int32))), .val (.int ((XT.ushr p0 (2 : Int32)) &&& (3 : Int32))), .val (.int ((XT.ushr p0 (4 : Int32)) &&& (3 : Int32))), .val (.int ((XT.ushr p0 (6 : Int32)) &&& (3 : Int32))), .val (.int p1), .val (.int p4), .val (.ref b47), .val (.int (1 : Int32)), .val (.int (0 : Int32)), .val (.int (1 : Int32))] rfl rfl ?_
                  refine Own.s_iload X79 at_152 rfl rfl ?_
                  refine Own.s_iload X79 at_154 rfl rfl ?_
                  refine Own.s_ifT X79 at_156 ((if0 _ _).trans (teq (show (0 : Int32) = (0 : Int32) by decide)).1) (by decide) (pc' := 168) (by decide) ?_
                  refine Own.s_iconst X79 at_168 (0 : Int32) (by decide) rfl ?_
                  refine Own.s_icmpT X79 at_169 (feq (show ¬ (1 : Int32) = (0 : Int32) by decide)).2 (by decide) (pc' := 176) (by decide) ?_
                  refine Own.s_iconst X79 at_176 (0 : Int32) (by decide) rfl ?_
                  exact Own.r_nar X79 rfl (Or.inl rfl) at_177 (by decide) (by decide) (absurd hA68.1 (own_notF hc98_69 hc104_72 hE75))
                · obtain ⟨rfl, hE79⟩ := Q79
                  refine Own.s_ifT X79 at_142 ((if0 _ _).trans (teq (show (0 : Int32) = (0 : Int32) by decide)).1) (by decide) (pc' := 149) (by decide) ?_
                  refine Own.s_iconst X79 at_149 (0 : Int32) (by decide) rfl ?_
                  refine Own.s_istore X79 at_150 #[.val (.int p0), .val (.int p1), .val (.int p2), .val (.int p3), .val (.int p4), .val (.int (p0 &&& (3 : Int32))), .val (.int ((XT.ushr p0 (2 : Int32)) &&& (3 : Int32))), .val (.int ((XT.ushr p0 (4 : Int32)) &&& (3 : Int32))), .val (.int ((XT.ushr p0 (6 : Int32)) &&& (3 : Int32))), .val (.int p1), .val (.int p4), .val (.ref b47), .val (.int (1 : Int32)), .val (.int (0 : Int32)), .val (.int (0 : Int32))] rfl rfl ?_
                  refine Own.s_iload X79 at_152 rfl rfl ?_
                  refine Own.s_iload X79 at_154 rfl rfl ?_
                  refine Own.s_ifT X79 at_156 ((if0 _ _).trans (teq (show (0 : Int32) = (0 : Int32) by decide)).1) (by decide) (pc' := 168) (by decide) ?_
                  refine Own.s_iconst X79 at_168 (0 : Int32) (by decide) rfl ?_
                  refine Own.s_icmpT X79 at_169 (feq (show ¬ (1 : Int32) = (0 : Int32) by decide)).2 (by decide) (pc' := 176) (by decide) ?_
                  refine Own.s_iconst X79 at_176 (0 : Int32) (by decide) rfl ?_
                  exact Own.r_nar X79 rfl (Or.inl rfl) at_177 (by decide) (by decide) (absurd hA68.1 (own_notF hc98_69 hc104_72 hE75))
      · obtain ⟨rfl, hA68⟩ := Q68
        refine Own.s_istore X68 at_94 #[.val (.int p0), .val (.int p1), .val (.int p2), .val (.int p3), .val (.int p4), .val (.int (p0 &&& (3 : Int32))), .val (.int ((XT.ushr p0 (2 : Int32)) &&& (3 : Int32))), .val (.int ((XT.ushr p0 (4 : Int32)) &&& (3 : Int32))), .val (.int ((XT.ushr p0 (6 : Int32)) &&& (3 : Int32))), .val (.int p1), .val (.int p4), .val (.ref b47), .val (.int (0 : Int32)), .unset, .unset] rfl rfl ?_
        refine Own.s_iload X68 at_96 rfl rfl ?_
        by_cases hc98_80 : (p0 &&& (3 : Int32)) = (0 : Int32)
        · refine Own.s_ifT X68 at_98 ((if0 _ _).trans (teq hc98_80).1) (by decide) (pc' := 120) (by decide) ?_
          refine Own.s_iconst X68 at_120 (1 : Int32) (by decide) rfl ?_
          refine Own.s_goto X68 at_121 (by decide) (pc' := 125) (by decide) ?_
          refine Own.s_istore X68 at_125 #[.val (.int p0), .val (.int p1), .val (.int p2), .val (.int p3), .val (.int p4), .val (.int (p0 &&& (3 : Int32))), .val (.int ((XT.ushr p0 (2 : Int32)) &&& (3 : Int32))), .val (.int ((XT.ushr p0 (4 : Int32)) &&& (3 : Int32))), .val (.int ((XT.ushr p0 (6 : Int32)) &&& (3 : Int32))), .val (.int p1), .val (.int p4), .val (.ref b47), .val (.int (0 : Int32)), .val (.int (1 : Int32)), .unset] rfl rfl ?_
          refine Own.s_iload X68 at_127 rfl rfl ?_
          by_cases hc129_81 : ((XT.ushr p0 (4 : Int32)) &&& (3 : Int32)) = (0 : Int32)
          · refine Own.s_ifT X68 at_129 ((if0 _ _).trans (teq hc129_81).1) (by decide) (pc' := 145) (by decide) ?_
            refine Own.s_iconst X68 at_145 (1 : Int32) (by decide) rfl ?_
            refine Own.s_goto X68 at_146 (by decide) (pc' := 150) (by decide) ?_
            refine Own.s_istore X68 at_150 #[.val (.int p0), .val (.int p1), .val (.int p2), .val (.int p3), .val (.int p4), .val (.int (p0 &&& (3 : Int32))), .val (.int ((XT.ushr p0 (2 : Int32)) &&& (3 : Int32))), .val (.int ((XT.ushr p0 (4 : Int32)) &&& (3 : Int32))), .val (.int ((XT.ushr p0 (6 : Int32)) &&& (3 : Int32))), .val (.int p1), .val (.int p4), .val (.ref b47), .val (.int (0 : Int32)), .val (.int (1 : Int32)), .val (.int (1 : Int32))] rfl rfl ?_
            refine Own.s_iload X68 at_152 rfl rfl ?_
            refine Own.s_iload X68 at_154 rfl rfl ?_
            refine Own.s_ifF X68 at_156 ((if0 _ _).trans (feq (show ¬ (1 : Int32) = (0 : Int32) by decide)).1) rfl ?_
            refine Own.s_iload X68 at_159 rfl rfl ?_
            refine Own.s_ifF X68 at_161 ((if0 _ _).trans (feq (show ¬ (1 : Int32) = (0 : Int32) by decide)).1) rfl ?_
            refine Own.s_iconst X68 at_164 (1 : Int32) (by decide) rfl ?_
            refine Own.s_goto X68 at_165 (by decide) (pc' := 169) (by decide) ?_
            refine Own.s_icmpT X68 at_169 (feq (show ¬ (0 : Int32) = (1 : Int32) by decide)).2 (by decide) (pc' := 176) (by decide) ?_
            refine Own.s_iconst X68 at_176 (0 : Int32) (by decide) rfl ?_
            exact Own.r_nar X68 rfl (Or.inl rfl) at_177 (by decide) (by decide) (absurd ⟨Or.inl (own_mk0 hc98_80), Or.inl (own_mk0 hc129_81)⟩ hA68)
          · refine Own.s_ifF X68 at_129 ((if0 _ _).trans (feq hc129_81).1) rfl ?_
            refine Own.s_iload X68 at_132 rfl rfl ?_
            refine Own.s_iloadN X68 at_134 rfl rfl ?_
            refine Own.s_iload X68 at_135 rfl rfl ?_
            refine Own.s_iload X68 at_137 rfl rfl ?_
            refine Own.c_static X68 at_139 (tw62 hw) (tw63 hw) (tw5 hw) (tw64 hw) (by decide) [(.int ((XT.ushr p0 (4 : Int32)) &&& (3 : Int32))), (.int p3), (.int ((XT.ushr p0 (6 : Int32)) &&& (3 : Int32))), (.int p4)] [] 0 (rm_eq hw ((XT.ushr p0 (4 : Int32)) &&& (3 : Int32)) p3 ((XT.ushr p0 (6 : Int32)) &&& (3 : Int32)) p4 hc129_81 h68 X68.hE) (fun q => nomatch q) Own.Ok.nil (lenOf pd_14 rfl) rfl (Nat.le_of_eq rfl) (by decide) (by decide) (by decide) (by decide) rfl rfl ?_
            intro v82 vm82 T82 h82 L82 X82 V82 Q82
            rcases Q82 with Q82 | Q82
            · obtain ⟨rfl, hE82⟩ := Q82
              refine Own.s_ifF X82 at_142 ((if0 _ _).trans (feq (show ¬ (1 : Int32) = (0 : Int32) by decide)).1) rfl ?_
              refine Own.s_iconst X82 at_145 (1 : Int32) (by decide) rfl ?_
              refine Own.s_goto X82 at_146 (by decide) (pc' := 150) (by decide) ?_
              refine Own.s_istore X82 at_150 #[.val (.int p0), .val (.int p1), .val (.int p2), .val (.int p3), .val (.int p4), .val (.int (p0 &&& (3 : Int32))), .val (.int ((XT.ushr p0 (2 : Int32)) &&& (3 : Int32))), .val (.int ((XT.ushr p0 (4 : Int32)) &&& (3 : Int32))), .val (.int ((XT.ushr p0 (6 : Int32)) &&& (3 : Int32))), .val (.int p1), .val (.int p4), .val (.ref b47), .val (.int (0 : Int32)), .val (.int (1 : Int32)), .val (.int (1 : Int32))] rfl rfl ?_
              refine Own.s_iload X82 at_152 rfl rfl ?_
              refine Own.s_iload X82 at_154 rfl rfl ?_
              refine Own.s_ifF X82 at_156 ((if0 _ _).trans (feq (show ¬ (1 : Int32) = (0 : Int32) by decide)).1) rfl ?_
              refine Own.s_iload X82 at_159 rfl rfl ?_
              refine Own.s_ifF X82 at_161 ((if0 _ _).trans (feq (show ¬ (1 : Int32) = (0 : Int32) by decide)).1) rfl ?_
              refine Own.s_iconst X82 at_164 (1 : Int32) (by decide) rfl ?_
              refine Own.s_goto X82 at_165 (by decide) (pc' := 169) (by decide) ?_
              refine Own.s_icmpT X82 at_169 (feq (show ¬ (0 : Int32) = (1 : Int32) by decide)).2 (by decide) (pc' := 176) (by decide) ?_
              refine Own.s_iconst X82 at_176 (0 : Int32) (by decide) rfl ?_
              exact Own.r_nar X82 rfl (Or.inl rfl) at_177 (by decide) (by decide) (absurd ⟨Or.inl (own_mk0 hc98_80), Or.inr hE82⟩ hA68)
            · obtain ⟨rfl, hE82⟩ := Q82
              refine Own.s_ifT X82 at_142 ((if0 _ _).trans (teq (show (0 : Int32) = (0 : Int32) by decide)).1) (by decide) (pc' := 149) (by decide) ?_
              refine Own.s_iconst X82 at_149 (0 : Int32) (by decide) rfl ?_
              refine Own.s_istore X82 at_150 #[.val (.int p0), .val (.int p1), .val (.int p2), .val (.int p3), .val (.int p4), .val (.int (p0 &&& (3 : Int32))), .val (.int ((XT.ushr p0 (2 : Int32)) &&& (3 : Int32))), .val (.int ((XT.ushr p0 (4 : Int32)) &&& (3 : Int32))), .val (.int ((XT.ushr p0 (6 : Int32)) &&& (3 : Int32))), .val (.int p1), .val (.int p4), .val (.ref b47), .val (.int (0 : Int32)), .val (.int (1 : Int32)), .val (.int (0 : Int32))] rfl rfl ?_
              refine Own.s_iload X82 at_152 rfl rfl ?_
              refine Own.s_iload X82 at_154 rfl rfl ?_
              refine Own.s_ifF X82 at_156 ((if0 _ _).trans (feq (show ¬ (1 : Int32) = (0 : Int32) by decide)).1) rfl ?_
              refine Own.s_iload X82 at_159 rfl rfl ?_
              refine Own.s_ifT X82 at_161 ((if0 _ _).trans (teq (show (0 : Int32) = (0 : Int32) by decide)).1) (by decide) (pc' := 168) (by decide) ?_
              refine Own.s_iconst X82 at_168 (0 : Int32) (by decide) rfl ?_
              refine Own.s_icmpF X82 at_169 (teq (show (0 : Int32) = (0 : Int32) by decide)).2 rfl ?_
              refine Own.s_iconst X82 at_172 (1 : Int32) (by decide) rfl ?_
              refine Own.s_goto X82 at_173 (by decide) (pc' := 177) (by decide) ?_
              exact Own.r_nar X82 rfl (Or.inl rfl) at_177 (by decide) (by decide) (by decide)
        · refine Own.s_ifF X68 at_98 ((if0 _ _).trans (feq hc98_80).1) rfl ?_
          refine Own.s_iload X68 at_101 rfl rfl ?_
          refine Own.s_iconst X68 at_103 (1 : Int32) (by decide) rfl ?_
          by_cases hc104_83 : (p0 &&& (3 : Int32)) = (1 : Int32)
          · refine Own.s_icmpT X68 at_104 (teq hc104_83).1 (by decide) (pc' := 120) (by decide) ?_
            refine Own.s_iconst X68 at_120 (1 : Int32) (by decide) rfl ?_
            refine Own.s_goto X68 at_121 (by decide) (pc' := 125) (by decide) ?_
            refine Own.s_istore X68 at_125 #[.val (.int p0), .val (.int p1), .val (.int p2), .val (.int p3), .val (.int p4), .val (.int (p0 &&& (3 : Int32))), .val (.int ((XT.ushr p0 (2 : Int32)) &&& (3 : Int32))), .val (.int ((XT.ushr p0 (4 : Int32)) &&& (3 : Int32))), .val (.int ((XT.ushr p0 (6 : Int32)) &&& (3 : Int32))), .val (.int p1), .val (.int p4), .val (.ref b47), .val (.int (0 : Int32)), .val (.int (1 : Int32)), .unset] rfl rfl ?_
            refine Own.s_iload X68 at_127 rfl rfl ?_
            by_cases hc129_84 : ((XT.ushr p0 (4 : Int32)) &&& (3 : Int32)) = (0 : Int32)
            · refine Own.s_ifT X68 at_129 ((if0 _ _).trans (teq hc129_84).1) (by decide) (pc' := 145) (by decide) ?_
              refine Own.s_iconst X68 at_145 (1 : Int32) (by decide) rfl ?_
              refine Own.s_goto X68 at_146 (by decide) (pc' := 150) (by decide) ?_
              refine Own.s_istore X68 at_150 #[.val (.int p0), .val (.int p1), .val (.int p2), .val (.int p3), .val (.int p4), .val (.int (p0 &&& (3 : Int32))), .val (.int ((XT.ushr p0 (2 : Int32)) &&& (3 : Int32))), .val (.int ((XT.ushr p0 (4 : Int32)) &&& (3 : Int32))), .val (.int ((XT.ushr p0 (6 : Int32)) &&& (3 : Int32))), .val (.int p1), .val (.int p4), .val (.ref b47), .val (.int (0 : Int32)), .val (.int (1 : Int32)), .val (.int (1 : Int32))] rfl rfl ?_
              refine Own.s_iload X68 at_152 rfl rfl ?_
              refine Own.s_iload X68 at_154 rfl rfl ?_
              refine Own.s_ifF X68 at_156 ((if0 _ _).trans (feq (show ¬ (1 : Int32) = (0 : Int32) by decide)).1) rfl ?_
              refine Own.s_iload X68 at_159 rfl rfl ?_
              refine Own.s_ifF X68 at_161 ((if0 _ _).trans (feq (show ¬ (1 : Int32) = (0 : Int32) by decide)).1) rfl ?_
              refine Own.s_iconst X68 at_164 (1 : Int32) (by decide) rfl ?_
              refine Own.s_goto X68 at_165 (by decide) (pc' := 169) (by decide) ?_
              refine Own.s_icmpT X68 at_169 (feq (show ¬ (0 : Int32) = (1 : Int32) by decide)).2 (by decide) (pc' := 176) (by decide) ?_
              refine Own.s_iconst X68 at_176 (0 : Int32) (by decide) rfl ?_
              exact Own.r_nar X68 rfl (Or.inl rfl) at_177 (by decide) (by decide) (absurd ⟨Or.inr (Or.inl (own_mk1 hc104_83)), Or.inl (own_mk0 hc129_84)⟩ hA68)
            · refine Own.s_ifF X68 at_129 ((if0 _ _).trans (feq hc129_84).1) rfl ?_
              refine Own.s_iload X68 at_132 rfl rfl ?_
              refine Own.s_iloadN X68 at_134 rfl rfl ?_
              refine Own.s_iload X68 at_135 rfl rfl ?_
              refine Own.s_iload X68 at_137 rfl rfl ?_
              refine Own.c_static X68 at_139 (tw62 hw) (tw63 hw) (tw5 hw) (tw64 hw) (by decide) [(.int ((XT.ushr p0 (4 : Int32)) &&& (3 : Int32))), (.int p3), (.int ((XT.ushr p0 (6 : Int32)) &&& (3 : Int32))), (.int p4)] [] 0 (rm_eq hw ((XT.ushr p0 (4 : Int32)) &&& (3 : Int32)) p3 ((XT.ushr p0 (6 : Int32)) &&& (3 : Int32)) p4 hc129_84 h68 X68.hE) (fun q => nomatch q) Own.Ok.nil (lenOf pd_14 rfl) rfl (Nat.le_of_eq rfl) (by decide) (by decide) (by decide) (by decide) rfl rfl ?_
              intro v85 vm85 T85 h85 L85 X85 V85 Q85
              rcases Q85 with Q85 | Q85
              · obtain ⟨rfl, hE85⟩ := Q85
                refine Own.s_ifF X85 at_142 ((if0 _ _).trans (feq (show ¬ (1 : Int32) = (0 : Int32) by decide)).1) rfl ?_
                refine Own.s_iconst X85 at_145 (1 : Int32) (by decide) rfl ?_
                refine Own.s_goto X85 at_146 (by decide) (pc' := 150) (by decide) ?_
                refine Own.s_istore X85 at_150 #[.val (.int p0), .val (.int p1), .val (.int p2), .val (.int p3), .val (.int p4), .val (.int (p0 &&& (3 : Int32))), .val (.int ((XT.ushr p0 (2 : Int32)) &&& (3 : Int32))), .val (.int ((XT.ushr p0 (4 : Int32)) &&& (3 : Int32))), .val (.int ((XT.ushr p0 (6 : Int32)) &&& (3 : Int32))), .val (.int p1), .val (.int p4), .val (.ref b47), .val (.int (0 : Int32)), .val (.int (1 : Int32)), .val (.int (1 : Int32))] rfl rfl ?_
                refine Own.s_iload X85 at_152 rfl rfl ?_
                refine Own.s_iload X85 at_154 rfl rfl ?_
                refine Own.s_ifF X85 at_156 ((if0 _ _).trans (feq (show ¬ (1 : Int32) = (0 : Int32) by decide)).1) rfl ?_
                refine Own.s_iload X85 at_159 rfl rfl ?_
                refine Own.s_ifF X85 at_161 ((if0 _ _).trans (feq (show ¬ (1 : Int32) = (0 : Int32) by decide)).1) rfl ?_
                refine Own.s_iconst X85 at_164 (1 : Int32) (by decide) rfl ?_
                refine Own.s_goto X85 at_165 (by decide) (pc' := 169) (by decide) ?_
                refine Own.s_icmpT X85 at_169 (feq (show ¬ (0 : Int32) = (1 : Int32) by decide)).2 (by decide) (pc' := 176) (by decide) ?_
                refine Own.s_iconst X85 at_176 (0 : Int32) (by decide) rfl ?_
                exact Own.r_nar X85 rfl (Or.inl rfl) at_177 (by decide) (by decide) (absurd ⟨Or.inr (Or.inl (own_mk1 hc104_83)), Or.inr hE85⟩ hA68)
              · obtain ⟨rfl, hE85⟩ := Q85
                refine Own.s_ifT X85 at_142 ((if0 _ _).trans (teq (show (0 : Int32) = (0 : Int32) by decide)).1) (by decide) (pc' := 149) (by decide) ?_
                refine Own.s_iconst X85 at_149 (0 : Int32) (by decide) rfl ?_
                refine Own.s_istore X85 at_150 #[.val (.int p0), .val (.int p1), .val (.int p2), .val (.int p3), .val (.int p4), .val (.int (p0 &&& (3 : Int32))), .val (.int ((XT.ushr p0 (2 : Int32)) &&& (3 : Int32))), .val (.int ((XT.ushr p0 (4 : Int32)) &&& (3 : Int32))), .val (.int ((XT.ushr p0 (6 : Int32)) &&& (3 : Int32))), .val (.int p1), .val (.int p4), .val (.ref b47), .val (.int (0 : Int32)), .val (.int (1 : Int32)), .val (.int (0 : Int32))] rfl rfl ?_
                refine Own.s_iload X85 at_152 rfl rfl ?_
                refine Own.s_iload X85 at_154 rfl rfl ?_
                refine Own.s_ifF X85 at_156 ((if0 _ _).trans (feq (show ¬ (1 : Int32) = (0 : Int32) by decide)).1) rfl ?_
                refine Own.s_iload X85 at_159 rfl rfl ?_
                refine Own.s_ifT X85 at_161 ((if0 _ _).trans (teq (show (0 : Int32) = (0 : Int32) by decide)).1) (by decide) (pc' := 168) (by decide) ?_
                refine Own.s_iconst X85 at_168 (0 : Int32) (by decide) rfl ?_
                refine Own.s_icmpF X85 at_169 (teq (show (0 : Int32) = (0 : Int32) by decide)).2 rfl ?_
                refine Own.s_iconst X85 at_172 (1 : Int32) (by decide) rfl ?_
                refine Own.s_goto X85 at_173 (by decide) (pc' := 177) (by decide) ?_
                exact Own.r_nar X85 rfl (Or.inl rfl) at_177 (by decide) (by decide) (by decide)
          · refine Own.s_icmpF X68 at_104 (feq hc104_83).1 rfl ?_
            refine Own.s_iload X68 at_107 rfl rfl ?_
            refine Own.s_iloadN X68 at_109 rfl rfl ?_
            refine Own.s_iload X68 at_110 rfl rfl ?_
            refine Own.s_iload X68 at_112 rfl rfl ?_
            refine Own.c_static X68 at_114 (tw62 hw) (tw63 hw) (tw5 hw) (tw64 hw) (by decide) [(.int (p0 &&& (3 : Int32))), (.int p1), (.int ((XT.ushr p0 (2 : Int32)) &&& (3 : Int32))), (.int p1)] [] 0 (rm_eq hw (p0 &&& (3 : Int32)) p1 ((XT.ushr p0 (2 : Int32)) &&& (3 : Int32)) p1 hc98_80 h68 X68.hE) (fun q => nomatch q) Own.Ok.nil (lenOf pd_14 rfl) rfl (Nat.le_of_eq rfl) (by decide) (by decide) (by decide) (by decide) rfl rfl ?_
            intro v86 vm86 T86 h86 L86 X86 V86 Q86
            rcases Q86 with Q86 | Q86
            · obtain ⟨rfl, hE86⟩ := Q86
              refine Own.s_ifF X86 at_117 ((if0 _ _).trans (feq (show ¬ (1 : Int32) = (0 : Int32) by decide)).1) rfl ?_
              refine Own.s_iconst X86 at_120 (1 : Int32) (by decide) rfl ?_
              refine Own.s_goto X86 at_121 (by decide) (pc' := 125) (by decide) ?_
              refine Own.s_istore X86 at_125 #[.val (.int p0), .val (.int p1), .val (.int p2), .val (.int p3), .val (.int p4), .val (.int (p0 &&& (3 : Int32))), .val (.int ((XT.ushr p0 (2 : Int32)) &&& (3 : Int32))), .val (.int ((XT.ushr p0 (4 : Int32)) &&& (3 : Int32))), .val (.int ((XT.ushr p0 (6 : Int32)) &&& (3 : Int32))), .val (.int p1), .val (.int p4), .val (.ref b47), .val (.int (0 : Int32)), .val (.int (1 : Int32)), .unset] rfl rfl ?_
              refine Own.s_iload X86 at_127 rfl rfl ?_
              by_cases hc129_87 : ((XT.ushr p0 (4 : Int32)) &&& (3 : Int32)) = (0 : Int32)
              · refine Own.s_ifT X86 at_129 ((if0 _ _).trans (teq hc129_87).1) (by decide) (pc' := 145) (by decide) ?_
                refine Own.s_iconst X86 at_145 (1 : Int32) (by decide) rfl ?_
                refine Own.s_goto X86 at_146 (by decide) (pc' := 150) (by decide) ?_
                refine Own.s_istore X86 at_150 #[.val (.int p0), .val (.int p1), .val (.int p2), .val (.int p3), .val (.int p4), .val (.int (p0 &&& (3 : Int32))), .val (.int ((XT.ushr p0 (2 : Int32)) &&& (3 : Int32))), .val (.int ((XT.ushr p0 (4 : Int32)) &&& (3 : Int32))), .val (.int ((XT.ushr p0 (6 : Int32)) &&& (3 : Int32))), .val (.int p1), .val (.int p4), .val (.ref b47), .val (.int (0 : Int32)), .val (.int (1 : Int32)), .val (.int (1 : Int32))] rfl rfl ?_
                refine Own.s_iload X86 at_152 rfl rfl ?_
                refine Own.s_iload X86 at_154 rfl rfl ?_
                refine Own.s_ifF X86 at_156 ((if0 _ _).trans (feq (show ¬ (1 : Int32) = (0 : Int32) by decide)).1) rfl ?_
                refine Own.s_iload X86 at_159 rfl rfl ?_
                refine Own.s_ifF X86 at_161 ((if0 _ _).trans (feq (show ¬ (1 : Int32) = (0 : Int32) by decide)).1) rfl ?_
                refine Own.s_iconst X86 at_164 (1 : Int32) (by decide) rfl ?_
                refine Own.s_goto X86 at_165 (by decide) (pc' := 169) (by decide) ?_
                refine Own.s_icmpT X86 at_169 (feq (show ¬ (0 : Int32) = (1 : Int32) by decide)).2 (by decide) (pc' := 176) (by decide) ?_
                refine Own.s_iconst X86 at_176 (0 : Int32) (by decide) rfl ?_
                exact Own.r_nar X86 rfl (Or.inl rfl) at_177 (by decide) (by decide) (absurd ⟨Or.inr (Or.inr hE86), Or.inl (own_mk0 hc129_87)⟩ hA68)
              · refine Own.s_ifF X86 at_129 ((if0 _ _).trans (feq hc129_87).1) rfl ?_
                refine Own.s_iload X86 at_132 rfl rfl ?_
                refine Own.s_iloadN X86 at_134 rfl rfl ?_
                refine Own.s_iload X86 at_135 rfl rfl ?_
                refine Own.s_iload X86 at_137 rfl rfl ?_
                refine Own.c_static X86 at_139 (tw62 hw) (tw63 hw) (tw5 hw) (tw64 hw) (by decide) [(.int ((XT.ushr p0 (4 : Int32)) &&& (3 : Int32))), (.int p3), (.int ((XT.ushr p0 (6 : Int32)) &&& (3 : Int32))), (.int p4)] [] 0 (rm_eq hw ((XT.ushr p0 (4 : Int32)) &&& (3 : Int32)) p3 ((XT.ushr p0 (6 : Int32)) &&& (3 : Int32)) p4 hc129_87 h86 X86.hE) (fun q => nomatch q) Own.Ok.nil (lenOf pd_14 rfl) rfl (Nat.le_of_eq rfl) (by decide) (by decide) (by decide) (by decide) rfl rfl ?_
                intro v88 vm88 T88 h88 L88 X88 V88 Q88
                rcases Q88 with Q88 | Q88
                · obtain ⟨rfl, hE88⟩ := Q88
                  refine Own.s_ifF X88 at_142 ((if0 _ _).trans (feq (show ¬ (1 : Int32) = (0 : Int32) by decide)).1) rfl ?_
                  refine Own.s_iconst X88 at_145 (1 : Int32) (by decide) rfl ?_
                  refine Own.s_goto X88 at_146 (by decide) (pc' := 150) (by decide) ?_
                  refine Own.s_istore X88 at_150 #[.val (.int p0), .val (.int p1), .val (.int p2), .val (.int p3), .val (.int p4), .val (.int (p0 &&& (3 : Int32))), .val (.int ((XT.ushr p0 (2 : Int32)) &&& (3 : Int32))), .val (.int ((XT.ushr p0 (4 : Int32)) &&& (3 : Int32))), .val (.int ((XT.ushr p0 (6 : Int32)) &&& (3 : Int32))), .val (.int p1), .val (.int p4), .val (.ref b47), .val (.int (0 : Int32)), .val (.int (1 : Int32)), .val (.int (1 : Int32))] rfl rfl ?_
                  refine Own.s_iload X88 at_152 rfl rfl ?_
                  refine Own.s_iload X88 at_154 rfl rfl ?_
                  refine Own.s_ifF X88 at_156 ((if0 _ _).trans (feq (show ¬ (1 : Int32) = (0 : Int32) by decide)).1) rfl ?_
                  refine Own.s_iload X88 at_159 rfl rfl ?_
                  refine Own.s_ifF X88 at_161 ((if0 _ _).trans (feq (show ¬ (1 : Int32) = (0 : Int32) by decide)).1) rfl ?_
                  refine Own.s_iconst X88 at_164 (1 : Int32) (by decide) rfl ?_
                  refine Own.s_goto X88 at_165 (by decide) (pc' := 169) (by decide) ?_
                  refine Own.s_icmpT X88 at_169 (feq (show ¬ (0 : Int32) = (1 : Int32) by decide)).2 (by decide) (pc' := 176) (by decide) ?_
                  refine Own.s_iconst X88 at_176 (0 : Int32) (by decide) rfl ?_
                  exact Own.r_nar X88 rfl (Or.inl rfl) at_177 (by decide) (by decide) (absurd ⟨Or.inr (Or.inr hE86), Or.inr hE88⟩ hA68)
                · obtain ⟨rfl, hE88⟩ := Q88
                  refine Own.s_ifT X88 at_142 ((if0 _ _).trans (teq (show (0 : Int32) = (0 : Int32) by decide)).1) (by decide) (pc' := 149) (by decide) ?_
                  refine Own.s_iconst X88 at_149 (0 : Int32) (by decide) rfl ?_
                  refine Own.s_istore X88 at_150 #[.val (.int p0), .val (.int p1), .val (.int p2), .val (.int p3), .val (.int p4), .val (.int (p0 &&& (3 : Int32))), .val (.int ((XT.ushr p0 (2 : Int32)) &&& (3 : Int32))), .val (.int ((XT.ushr p0 (4 : Int32)) &&& (3 : Int32))), .val (.int ((XT.ushr p0 (6 : Int32)) &&& (3 : Int32))), .val (.int p1), .val (.int p4), .val (.ref b47), .val (.int (0 : Int32)), .val (.int (1 : Int32)), .val (.int (0 : Int32))] rfl rfl ?_
                  refine Own.s_iload X88 at_152 rfl rfl ?_
                  refine Own.s_iload X88 at_154 rfl rfl ?_
                  refine Own.s_ifF X88 at_156 ((if0 _ _).trans (feq (show ¬ (1 : Int32) = (0 : Int32) by decide)).1) rfl ?_
                  refine Own.s_iload X88 at_159 rfl rfl ?_
                  refine Own.s_ifT X88 at_161 ((if0 _ _).trans (teq (show (0 : Int32) = (0 : Int32) by decide)).1) (by decide) (pc' := 168) (by decide) ?_
                  refine Own.s_iconst X88 at_168 (0 : Int32) (by decide) rfl ?_
                  refine Own.s_icmpF X88 at_169 (teq (show (0 : Int32) = (0 : Int32) by decide)).2 rfl ?_
                  refine Own.s_iconst X88 at_172 (1 : Int32) (by decide) rfl ?_
                  refine Own.s_goto X88 at_173 (by decide) (pc' := 177) (by decide) ?_
                  exact Own.r_nar X88 rfl (Or.inl rfl) at_177 (by decide) (by decide) (by decide)
            · obtain ⟨rfl, hE86⟩ := Q86
              refine Own.s_ifT X86 at_117 ((if0 _ _).trans (teq (show (0 : Int32) = (0 : Int32) by decide)).1) (by decide) (pc' := 124) (by decide) ?_
              refine Own.s_iconst X86 at_124 (0 : Int32) (by decide) rfl ?_
              refine Own.s_istore X86 at_125 #[.val (.int p0), .val (.int p1), .val (.int p2), .val (.int p3), .val (.int p4), .val (.int (p0 &&& (3 : Int32))), .val (.int ((XT.ushr p0 (2 : Int32)) &&& (3 : Int32))), .val (.int ((XT.ushr p0 (4 : Int32)) &&& (3 : Int32))), .val (.int ((XT.ushr p0 (6 : Int32)) &&& (3 : Int32))), .val (.int p1), .val (.int p4), .val (.ref b47), .val (.int (0 : Int32)), .val (.int (0 : Int32)), .unset] rfl rfl ?_
              refine Own.s_iload X86 at_127 rfl rfl ?_
              by_cases hc129_89 : ((XT.ushr p0 (4 : Int32)) &&& (3 : Int32)) = (0 : Int32)
              · refine Own.s_ifT X86 at_129 ((if0 _ _).trans (teq hc129_89).1) (by decide) (pc' := 145) (by decide) ?_
                refine Own.s_iconst X86 at_145 (1 : Int32) (by decide) rfl ?_
                refine Own.s_goto X86 at_146 (by decide) (pc' := 150) (by decide) ?_
                refine Own.s_istore X86 at_150 #[.val (.int p0), .val (.int p1), .val (.int p2), .val (.int p3), .val (.int p4), .val (.int (p0 &&& (3 : Int32))), .val (.int ((XT.ushr p0 (2 : Int32)) &&& (3 : Int32))), .val (.int ((XT.ushr p0 (4 : Int32)) &&& (3 : Int32))), .val (.int ((XT.ushr p0 (6 : Int32)) &&& (3 : Int32))), .val (.int p1), .val (.int p4), .val (.ref b47), .val (.int (0 : Int32)), .val (.int (0 : Int32)), .val (.int (1 : Int32))] rfl rfl ?_
                refine Own.s_iload X86 at_152 rfl rfl ?_
                refine Own.s_iload X86 at_154 rfl rfl ?_
                refine Own.s_ifT X86 at_156 ((if0 _ _).trans (teq (show (0 : Int32) = (0 : Int32) by decide)).1) (by decide) (pc' := 168) (by decide) ?_
                refine Own.s_iconst X86 at_168 (0 : Int32) (by decide) rfl ?_
                refine Own.s_icmpF X86 at_169 (teq (show (0 : Int32) = (0 : Int32) by decide)).2 rfl ?_
                refine Own.s_iconst X86 at_172 (1 : Int32) (by decide) rfl ?_
                refine Own.s_goto X86 at_173 (by decide) (pc' := 177) (by decide) ?_
                exact Own.r_nar X86 rfl (Or.inl rfl) at_177 (by decide) (by decide) (by decide)
              · refine Own.s_ifF X86 at_129 ((if0 _ _).trans (feq hc129_89).1) rfl ?_
                refine Own.s_iload X86 at_132 rfl rfl ?_
                refine Own.s_iloadN X86 at_134 rfl rfl ?_
                refine Own.s_iload X86 at_135 rfl rfl ?_
                refine Own.s_iload X86 at_137 rfl rfl ?_
                refine Own.c_static X86 at_139 (tw62 hw) (tw63 hw) (tw5 hw) (tw64 hw) (by decide) [(.int ((XT.ushr p0 (4 : Int32)) &&& (3 : Int32))), (.int p3), (.int ((XT.ushr p0 (6 : Int32)) &&& (3 : Int32))), (.int p4)] [] 0 (rm_eq hw ((XT.ushr p0 (4 : Int32)) &&& (3 : Int32)) p3 ((XT.ushr p0 (6 : Int32)) &&& (3 : Int32)) p4 hc129_89 h86 X86.hE) (fun q => nomatch q) Own.Ok.nil (lenOf pd_14 rfl) rfl (Nat.le_of_eq rfl) (by decide) (by decide) (by decide) (by decide) rfl rfl ?_
                intro v90 vm90 T90 h90 L90 X90 V90 Q90
                rcases Q90 with Q90 | Q90
                · obtain ⟨rfl, hE90⟩ := Q90
                  refine Own.s_ifF X90 at_142 ((if0 _ _).trans (feq (show ¬ (1 : Int32) = (0 : Int32) by decide)).1) rfl ?_
                  refine Own.s_iconst X90 at_145 (1 : Int32) (by decide) rfl ?_
                  refine Own.s_goto X90 at_146 (by decide) (pc' := 150) (by decide) ?_
                  refine Own.s_istore X90 at_150 #[.val (.int p0), .val (.int p1), .val (.int p2), .val (.int p3), .val (.int p4), .val (.int (p0 &&& (3 : Int32))), .val (.int ((XT.ushr p0 (2 : Int32)) &&& (3 : Int32))), .val (.int ((XT.ushr p0 (4 : Int32)) &&& (3 : Int32))), .val (.int ((XT.ushr p0 (6 : Int32)) &&& (3 : Int32))), .val (.int p1), .val (.int p4), .val (.ref b47), .val (.int (0 : Int32)), .val (.int (0 : Int32)), .val (.int (1 : Int32))] rfl rfl ?_
                  refine Own.s_iload X90 at_152 rfl rfl ?_
                  refine Own.s_iload X90 at_154 rfl rfl ?_
                  refine Own.s_ifT X90 at_156 ((if0 _ _).trans (teq (show (0 : Int32) = (0 : Int32) by decide)).1) (by decide) (pc' := 168) (by decide) ?_
                  refine Own.s_iconst X90 at_168 (0 : Int32) (by decide) rfl ?_
                  refine Own.s_icmpF X90 at_169 (teq (show (0 : Int32) = (0 : Int32) by decide)).2 rfl ?_
                  refine Own.s_iconst X90 at_172 (1 : Int32) (by decide) rfl ?_
                  refine Own.s_goto X90 at_173 (by decide) (pc' := 177) (by decide) ?_
                  exact Own.r_nar X90 rfl (Or.inl rfl) at_177 (by decide) (by decide) (by decide)
                · obtain ⟨rfl, hE90⟩ := Q90
                  refine Own.s_ifT X90 at_142 ((if0 _ _).trans (teq (show (0 : Int32) = (0 : Int32) by decide)).1) (by decide) (pc' := 149) (by decide) ?_
                  refine Own.s_iconst X90 at_149 (0 : Int32) (by decide) rfl ?_
                  refine Own.s_istore X90 at_150 #[.val (.int p0), .val (.int p1), .val (.int p2), .val (.int p3), .val (.int p4), .val (.int (p0 &&& (3 : Int32))), .val (.int ((XT.ushr p0 (2 : Int32)) &&& (3 : Int32))), .val (.int ((XT.ushr p0 (4 : Int32)) &&& (3 : Int32))), .val (.int ((XT.ushr p0 (6 : Int32)) &&& (3 : Int32))), .val (.int p1), .val (.int p4), .val (.ref b47), .val (.int (0 : Int32)), .val (.int (0 : Int32)), .val (.int (0 : Int32))] rfl rfl ?_
                  refine Own.s_iload X90 at_152 rfl rfl ?_
                  refine Own.s_iload X90 at_154 rfl rfl ?_
                  refine Own.s_ifT X90 at_156 ((if0 _ _).trans (teq (show (0 : Int32) = (0 : Int32) by decide)).1) (by decide) (pc' := 168) (by decide) ?_
                  refine Own.s_iconst X90 at_168 (0 : Int32) (by decide) rfl ?_
                  refine Own.s_icmpF X90 at_169 (teq (show (0 : Int32) = (0 : Int32) by decide)).2 rfl ?_
                  refine Own.s_iconst X90 at_172 (1 : Int32) (by decide) rfl ?_
                  refine Own.s_goto X90 at_173 (by decide) (pc' := 177) (by decide) ?_
                  exact Own.r_nar X90 rfl (Or.inl rfl) at_177 (by decide) (by decide) (by decide)
  · refine Own.s_icmpT X0 at_30 (feq hc30_1).2 (by decide) (pc' := 37) (by decide) ?_
    refine Own.s_iloadN X0 at_37 rfl rfl ?_
    refine Own.s_istore X0 at_38 #[.val (.int p0), .val (.int p1), .val (.int p2), .val (.int p3), .val (.int p4), .val (.int (p0 &&& (3 : Int32))), .val (.int ((XT.ushr p0 (2 : Int32)) &&& (3 : Int32))), .val (.int ((XT.ushr p0 (4 : Int32)) &&& (3 : Int32))), .val (.int ((XT.ushr p0 (6 : Int32)) &&& (3 : Int32))), .val (.int p2), .unset, .unset, .unset, .unset, .unset] rfl rfl ?_
    refine Own.s_iload X0 at_40 rfl rfl ?_
    refine Own.s_iconst X0 at_42 (3 : Int32) (by decide) rfl ?_
    by_cases hc43_91 : ((XT.ushr p0 (6 : Int32)) &&& (3 : Int32)) = (3 : Int32)
    · refine Own.s_icmpF X0 at_43 (teq hc43_91).2 rfl ?_
      refine Own.s_iloadN X0 at_46 rfl rfl ?_
      refine Own.s_goto X0 at_47 (by decide) (pc' := 52) (by decide) ?_
      refine Own.s_istore X0 at_52 #[.val (.int p0), .val (.int p1), .val (.int p2), .val (.int p3), .val (.int p4), .val (.int (p0 &&& (3 : Int32))), .val (.int ((XT.ushr p0 (2 : Int32)) &&& (3 : Int32))), .val (.int ((XT.ushr p0 (4 : Int32)) &&& (3 : Int32))), .val (.int ((XT.ushr p0 (6 : Int32)) &&& (3 : Int32))), .val (.int p2), .val (.int p3), .unset, .unset, .unset, .unset] rfl rfl ?_
      refine Own.s_new X0 at_54 (tw0 hw) (tw1 hw) (tw2 hw) (by decide) (by decide) rfl ?_
      intro b92 T92 h92 X92 V92 g92 E92 O92 D92
      have F92_format : Fld Z h92 b92 "com/example/fedweave/fedweave/AuthnRequest$NameIdPolicy" "format" "Ljava/lang/String;" (.null) := D92 (Or.inr (tw19 hw)) (ty := (.object "java/lang/String")) (by decide)
      have F92_spNameQualifier : Fld Z h92 b92 "com/example/fedweave/fedweave/AuthnRequest$NameIdPolicy" "spNameQualifier" "Ljava/lang/String;" (.null) := D92 (Or.inr (tw21 hw)) (ty := (.object "java/lang/String")) (by decide)
      refine Own.s_dup X92 at_57 rfl rfl ?_
      refine Own.s_iload X92 at_58 rfl rfl ?_
      refine Own.s_iloadN X92 at_60 rfl rfl ?_
      refine Own.c_static X92 at_61 (tw3 hw) (tw4 hw) (tw5 hw) (tw6 hw) (by decide) [(.int (p0 &&& (3 : Int32))), (.int p1)] [(.ref b92), (.ref b92)] 2 (rm_make hw (p0 &&& (3 : Int32)) p1 SC hzc SF hfm h92 X92.hE) (fun _ => rfl) Own.Ok.nil (lenOf pd_11 rfl) rfl (Nat.le_of_eq rfl) (by decide) (by decide) (by decide) (by decide) rfl rfl ?_
      intro v93 vm93 T93 h93 L93 X93 V93 Q93
      obtain ⟨u93, rfl, M93⟩ := Q93
      have q93 := M93.isRef
      refine Own.s_iload X93 at_64 rfl rfl ?_
      refine Own.s_iloadN X93 at_66 rfl rfl ?_
      refine Own.c_static X93 at_67 (tw3 hw) (tw4 hw) (tw5 hw) (tw6 hw) (by decide) [(.int ((XT.ushr p0 (4 : Int32)) &&& (3 : Int32))), (.int p3)] [u93, (.ref b92), (.ref b92)] 3 (rm_make hw ((XT.ushr p0 (4 : Int32)) &&& (3 : Int32)) p3 SC hzc SF hfm h93 X93.hE) (fun _ => rfl) Own.Ok.nil (lenOf pd_11 rfl) rfl (by rcases ref_cases q93 with rfl | ⟨_, rfl⟩ <;>  exact Nat.le_of_eq rfl) (by decide) (by decide) (by decide) (by decide) rfl rfl ?_
      intro v94 vm94 T94 h94 L94 X94 V94 Q94
      obtain ⟨u94, rfl, M94⟩ := Q94
      have q94 := M94.isRef
      have ex95 : Ext h92 h93 := Own.extK (Own.Ext.rfl' h92) V93.1 all0
      have ex96 : Ext h92 h94 := Own.extK ex95 V94.1 all0
      have F_97 := Fld.ext ex96 F92_format
      have F_98 := Fld.ext ex96 F92_spNameQualifier
      have E_99 := Exa.ext ex96 E92
      have O100 := ((O92.ev V93).ev V94)
      refine Own.c_special X94 at_70 rfl (tw7 hw) (tw8 hw) (tw2 hw) (tw9 hw) (by decide) b92 [u93, u94] [(.ref b92)] 1 (rm_np hw b92 u93 q93 u94 q94  h94 X94.hE O100.2.1 E_99 F_97 F_98 ) (fun q => nomatch q) (Own.Ok.one O100) (lenOf pd_12 rfl) rfl (Nat.le_of_eq rfl) (by decide) (by decide) (by decide) (by decide) rfl rfl ?_
      intro v101 vm101 T101 h101 L101 X101 V101 Q101
      obtain ⟨rfl, E101, F101_0, F101_1⟩ := Q101
      refine Own.s_astore X101 at_73 rfl #[.val (.int p0), .val (.int p1), .val (.int p2), .val (.int p3), .val (.int p4), .val (.int (p0 &&& (3 : Int32))), .val (.int ((XT.ushr p0 (2 : Int32)) &&& (3 : Int32))), .val (.int ((XT.ushr p0 (4 : Int32)) &&& (3 : Int32))), .val (.int ((XT.ushr p0 (6 : Int32)) &&& (3 : Int32))), .val (.int p2), .val (.int p3), .val (.ref b92), .unset, .unset, .unset] rfl rfl ?_
      refine Own.s_aload X101 at_75 rfl rfl rfl ?_
      refine Own.s_iload X101 at_77 rfl rfl ?_
      refine Own.s_iload X101 at_79 rfl rfl ?_
      refine Own.c_static X101 at_81 (tw3 hw) (tw4 hw) (tw5 hw) (tw6 hw) (by decide) [(.int ((XT.ushr p0 (2 : Int32)) &&& (3 : Int32))), (.int p2)] [(.ref b92)] 1 (rm_make hw ((XT.ushr p0 (2 : Int32)) &&& (3 : Int32)) p2 SC hzc SF hfm h101 X101.hE) (fun _ => rfl) Own.Ok.nil (lenOf pd_11 rfl) rfl (Nat.le_of_eq rfl) (by decide) (by decide) (by decide) (by decide) rfl rfl ?_
      intro v102 vm102 T102 h102 L102 X102 V102 Q102
      obtain ⟨u102, rfl, M102⟩ := Q102
      have q102 := M102.isRef
      refine Own.s_iload X102 at_84 rfl rfl ?_
      refine Own.s_iload X102 at_86 rfl rfl ?_
      refine Own.c_static X102 at_88 (tw3 hw) (tw4 hw) (tw5 hw) (tw6 hw) (by decide) [(.int ((XT.ushr p0 (6 : Int32)) &&& (3 : Int32))), (.int p3)] [u102, (.ref b92)] 2 (rm_make hw ((XT.ushr p0 (6 : Int32)) &&& (3 : Int32)) p3 SC hzc SF hfm h102 X102.hE) (fun _ => rfl) Own.Ok.nil (lenOf pd_11 rfl) rfl (by rcases ref_cases q102 with rfl | ⟨_, rfl⟩ <;>  exact Nat.le_of_eq rfl) (by decide) (by decide) (by decide) (by decide) rfl rfl ?_
      intro v103 vm103 T103 h103 L103 X103 V103 Q103
      obtain ⟨u103, rfl, M103⟩ := Q103
      have q103 := M103.isRef
      have ex104 : Ext h101 h102 := Own.extK (Own.Ext.rfl' h101) V102.1 all0
      have ex105 : Ext h101 h103 := Own.extK ex104 V103.1 all0
      have E_106 := Exa.ext ex105 E101
      have F_107 := Fld.ext ex105 F101_0
      have F_108 := Fld.ext ex105 F101_1
      have M_109 := (Own.NStr.ext (Own.NStr.ext (Own.NStr.keepE (Own.NStr.ext M93 (Own.extN V94.1)) V101.1 E_99 (by decide) (tw1 hw)) (Own.extN V102.1)) (Own.extN V103.1))
      have M_110 := (Own.NStr.ext (Own.NStr.ext (Own.NStr.keepE M94 V101.1 E_99 (by decide) (tw1 hw)) (Own.extN V102.1)) (Own.extN V103.1))
      have ex111 : Ext h102 h103 := Own.extK (Own.Ext.rfl' h102) V103.1 all0
      have M_112 := Own.NStr.ext M102 ex111
      refine Own.c_virtual X103 at_91 (tw22 hw) (tw23 hw) (notFace_of_selects (args := #[]) (mvT X103.hZ (tw25 hw))) (tw25 hw) (tw24 hw) (tw2 hw) (tw26 hw) (by decide) b92 [u102, u103] [] 0 E_106 (rm_allows hw b92 u93 u94 u102 u103 (own_mk (p0 &&& (3 : Int32)) p1) (own_mk ((XT.ushr p0 (4 : Int32)) &&& (3 : Int32)) p3) (own_mk ((XT.ushr p0 (2 : Int32)) &&& (3 : Int32)) p2) (own_mk ((XT.ushr p0 (6 : Int32)) &&& (3 : Int32)) p3) q93 q94 q102 q103 SC hzc SF hfm h103 X103.hE E_106 F_107 F_108 M_109 M_110 M_112 M103) (fun _ => rfl) Own.Ok.nil (lenOf pd_13 rfl) rfl (Nat.le_of_eq rfl) (by decide) (by decide) (by decide) (by decide) rfl rfl ?_
      intro v113 vm113 T113 h113 L113 X113 V113 Q113
      rcases Q113 with Q113 | Q113
      · obtain ⟨rfl, hA113⟩ := Q113
        refine Own.s_istore X113 at_94 #[.val (.int p0), .val (.int p1), .val (.int p2), .val (.int p3), .val (.int p4), .val (.int (p0 &&& (3 : Int32))), .val (.int ((XT.ushr p0 (2 : Int32)) &&& (3 : Int32))), .val (.int ((XT.ushr p0 (4 : Int32)) &&& (3 : Int32))), .val (.int ((XT.ushr p0 (6 : Int32)) &&& (3 : Int32))), .val (.int p2), .val (.int p3), .val (.ref b92), .val (.int (1 : Int32)), .unset, .unset] rfl rfl ?_
        refine Own.s_iload X113 at_96 rfl rfl ?_
        by_cases hc98_114 : (p0 &&& (3 : Int32)) = (0 : Int32)
        · refine Own.s_ifT X113 at_98 ((if0 _ _).trans (teq hc98_114).1) (by decide) (pc' := 120) (by decide) ?_
          refine Own.s_iconst X113 at_120 (1 : Int32) (by decide) rfl ?_
          refine Own.s_goto X113 at_121 (by decide) (pc' := 125) (by decide) ?_
          refine Own.s_istore X113 at_125 #[.val (.int p0), .val (.int p1), .val (.int p2), .val (.int p3), .val (.int p4), .val (.int (p0 &&& (3 : Int32))), .val (.int ((XT.ushr p0 (2 : Int32)) &&& (3 : Int32))), .val (.int ((XT.ushr p0 (4 : Int32)) &&& (3 : Int32))), .val (.int ((XT.ushr p0 (6 : Int32)) &&& (3 : Int32))), .val (.int p2), .val (.int p3), .val (.ref b92), .val (.int (1 : Int32)), .val (.int (1 : Int32)), .unset] rfl rfl ?_
          refine Own.s_iload X113 at_127 rfl rfl ?_
          by_cases hc129_115 : ((XT.ushr p0 (4 : Int32)) &&& (3 : Int32)) = (0 : Int32)
          · refine Own.s_ifT X113 at_129 ((if0 _ _).trans (teq hc129_115).1) (by decide) (pc' := 145) (by decide) ?_
            refine Own.s_iconst X113 at_145 (1 : Int32) (by decide) rfl ?_
            refine Own.s_goto X113 at_146 (by decide) (pc' := 150) (by decide) ?_
            refine Own.s_istore X113 at_150 #[.val (.int p0), .val (.int p1), .val (.int p2), .val (.int p3), .val (.int p4), .val (.int (p0 &&& (3 : Int32))), .val (.int ((XT.ushr p0 (2 : Int32)) &&& (3 : Int32))), .val (.int ((XT.ushr p0 (4 : Int32)) &&& (3 : Int32))), .val (.int ((XT.ushr p0 (6 : Int32)) &&& (3 : Int32))), .val (.int p2), .val (.int p3), .val (.ref b92), .val (.int (1 : Int32)), .val (.int (1 : Int32)), .val (.int (1 : Int32))] rfl rfl ?_
            refine Own.s_iload X113 at_152 rfl rfl ?_
            refine Own.s_iload X113 at_154 rfl rfl ?_
            refine Own.s_ifF X113 at_156 ((if0 _ _).trans (feq (show ¬ (1 : Int32) = (0 : Int32) by decide)).1) rfl ?_
            refine Own.s_iload X113 at_159 rfl rfl ?_
            refine Own.s_ifF X113 at_161 ((if0 _ _).trans (feq (show ¬ (1 : Int32) = (0 : Int32) by decide)).1) rfl ?_
            refine Own.s_iconst X113 at_164 (1 : Int32) (by decide) rfl ?_
            refine Own.s_goto X113 at_165 (by decide) (pc' := 169) (by decide) ?_
            refine Own.s_icmpF X113 at_169 (teq (show (1 : Int32) = (1 : Int32) by decide)).2 rfl ?_
            refine Own.s_iconst X113 at_172 (1 : Int32) (by decide) rfl ?_
            refine Own.s_goto X113 at_173 (by decide) (pc' := 177) (by decide) ?_
            exact Own.r_nar X113 rfl (Or.inl rfl) at_177 (by decide) (by decide) (by decide)
          · refine Own.s_ifF X113 at_129 ((if0 _ _).trans (feq hc129_115).1) rfl ?_
            refine Own.s_iload X113 at_132 rfl rfl ?_
            refine Own.s_iloadN X113 at_134 rfl rfl ?_
            refine Own.s_iload X113 at_135 rfl rfl ?_
            refine Own.s_iload X113 at_137 rfl rfl ?_
            refine Own.c_static X113 at_139 (tw62 hw) (tw63 hw) (tw5 hw) (tw64 hw) (by decide) [(.int ((XT.ushr p0 (4 : Int32)) &&& (3 : Int32))), (.int p3), (.int ((XT.ushr p0 (6 : Int32)) &&& (3 : Int32))), (.int p3)] [] 0 (rm_eq hw ((XT.ushr p0 (4 : Int32)) &&& (3 : Int32)) p3 ((XT.ushr p0 (6 : Int32)) &&& (3 : Int32)) p3 hc129_115 h113 X113.hE) (fun q => nomatch q) Own.Ok.nil (lenOf pd_14 rfl) rfl (Nat.le_of_eq rfl) (by decide) (by decide) (by decide) (by decide) rfl rfl ?_
            intro v116 vm116 T116 h116 L116 X116 V116 Q116
            rcases Q116 with Q116 | Q116
            · obtain ⟨rfl, hE116⟩ := Q116
              refine Own.s_ifF X116 at_142 ((if0 _ _).trans (feq (show ¬ (1 : Int32) = (0 : Int32) by decide)).1) rfl ?_
              refine Own.s_iconst X116 at_145 (1 : Int32) (by decide) rfl ?_
              refine Own.s_goto X116 at_146 (by decide) (pc' := 150) (by decide) ?_
              refine Own.s_istore X116 at_150 #[.val (.int p0), .val (.int p1), .val (.int p2), .val (.int p3), .val (.int p4), .val (.int (p0 &&& (3 : Int32))), .val (.int ((XT.ushr p0 (2 : Int32)) &&& (3 : Int32))), .val (.int ((XT.ushr p0 (4 : Int32)) &&& (3 : Int32))), .val (.int ((XT.ushr p0 (6 : Int32)) &&& (3 : Int32))), .val (.int p2), .val (.int p3), .val (.ref b92), .val (.int (1 : Int32)), .val (.int (1 : Int32)), .val (.int (1 : Int32))] rfl rfl ?_
              refine Own.s_iload X116 at_152 rfl rfl ?_
              refine Own.s_iload X116 at_154 rfl rfl ?_
              refine Own.s_ifF X116 at_156 ((if0 _ _).trans (feq (show ¬ (1 : Int32) = (0 : Int32) by decide)).1) rfl ?_
              refine Own.s_iload X116 at_159 rfl rfl ?_
              refine Own.s_ifF X116 at_161 ((if0 _ _).trans (feq (show ¬ (1 : Int32) = (0 : Int32) by decide)).1) rfl ?_
              refine Own.s_iconst X116 at_164 (1 : Int32) (by decide) rfl ?_
              refine Own.s_goto X116 at_165 (by decide) (pc' := 169) (by decide) ?_
              refine Own.s_icmpF X116 at_169 (teq (show (1 : Int32) = (1 : Int32) by decide)).2 rfl ?_
              refine Own.s_iconst X116 at_172 (1 : Int32) (by decide) rfl ?_
              refine Own.s_goto X116 at_173 (by decide) (pc' := 177) (by decide) ?_
              exact Own.r_nar X116 rfl (Or.inl rfl) at_177 (by decide) (by decide) (by decide)
            · obtain ⟨rfl, hE116⟩ := Q116
              refine Own.s_ifT X116 at_142 ((if0 _ _).trans (teq (show (0 : Int32) = (0 : Int32) by decide)).1) (by decide) (pc' := 149) (by decide) ?_
              refine Own.s_iconst X116 at_149 (0 : Int32) (by decide) rfl ?_
              refine Own.s_istore X116 at_150 #[.val (.int p0), .val (.int p1), .val (.int p2), .val (.int p3), .val (.int p4), .val (.int (p0 &&& (3 : Int32))), .val (.int ((XT.ushr p0 (2 : Int32)) &&& (3 : Int32))), .val (.int ((XT.ushr p0 (4 : Int32)) &&& (3 : Int32))), .val (.int ((XT.ushr p0 (6 : Int32)) &&& (3 : Int32))), .val (.int p2), .val (.int p3), .val (.ref b92), .val (.int (1 : Int32)), .val (.int (1 : Int32)), .val (.int (0 : Int32))] rfl rfl ?_
              refine Own.s_iload X116 at_152 rfl rfl ?_
              refine Own.s_iload X116 at_154 rfl rfl ?_
              refine Own.s_ifF X116 at_156 ((if0 _ _).trans (feq (show ¬ (1 : Int32) = (0 : Int32) by decide)).1) rfl ?_
              refine Own.s_iload X116 at_159 rfl rfl ?_
              refine Own.s_ifT X116 at_161 ((if0 _ _).trans (teq (show (0 : Int32) = (0 : Int32) by decide)).1) (by decide) (pc' := 168) (by decide) ?_
              refine Own.s_iconst X116 at_168 (0 : Int32) (by decide) rfl ?_
              refine Own.s_icmpT X116 at_169 (feq (show ¬ (1 : Int32) = (0 : Int32) by decide)).2 (by decide) (pc' := 176) (by decide) ?_
              refine Own.s_iconst X116 at_176 (0 : Int32) (by decide) rfl ?_
              exact Own.r_nar X116 rfl (Or.inl rfl) at_177 (by decide) (by decide) (absurd hA113.2 (own_notS hc129_115 hE116))
        · refine Own.s_ifF X113 at_98 ((if0 _ _).trans (feq hc98_114).1) rfl ?_
          refine Own.s_iload X113 at_101 rfl rfl ?_
          refine Own.s_iconst X113 at_103 (1 : Int32) (by decide) rfl ?_
          by_cases hc104_117 : (p0 &&& (3 : Int32)) = (1 : Int32)
          · refine Own.s_icmpT X113 at_104 (teq hc104_117).1 (by decide) (pc' := 120) (by decide) ?_
            refine Own.s_iconst X113 at_120 (1 : Int32) (by decide) rfl ?_
            refine Own.s_goto X113 at_121 (by decide) (pc' := 125) (by decide) ?_
            refine Own.s_istore X113 at_125 #[.val (.int p0), .val (.int p1), .val (.int p2), .val (.int p3), .val (.int p4), .val (.int (p0 &&& (3 : Int32))), .val (.int ((XT.ushr p0 (2 : Int32)) &&& (3 : Int32))), .val (.int ((XT.ushr p0 (4 : Int32)) &&& (3 : Int32))), .val (.int ((XT.ushr p0 (6 : Int32)) &&& (3 : Int32))), .val (.int p2), .val (.int p3), .val (.ref b92), .val (.int (1 : Int32)), .val (.int (1 : Int32)), .unset] rfl rfl ?_
            refine Own.s_iload X113 at_127 rfl rfl ?_
            by_cases hc129_118 : ((XT.ushr p0 (4 : Int32)) &&& (3 : Int32)) = (0 : Int32)
            · refine Own.s_ifT X113 at_129 ((if0 _ _).trans (teq hc129_118).1) (by decide) (pc' := 145) (by decide) ?_
              refine Own.s_iconst X113 at_145 (1 : Int32) (by decide) rfl ?_
              refine Own.s_goto X113 at_146 (by decide) (pc' := 150) (by decide) ?_
              refine Own.s_istore X113 at_150 #[.val (.int p0), .val (.int p1), .val (.int p2), .val (.int p3), .val (.int p4), .val (.int (p0 &&& (3 : Int32))), .val (.int ((XT.ushr p0 (2 : Int32)) &&& (3 : Int32))), .val (.int ((XT.ushr p0 (4 : Int32)) &&& (3 : Int32))), .val (.int ((XT.ushr p0 (6 : Int32)) &&& (3 : Int32))), .val (.int p2), .val (.int p3), .val (.ref b92), .val (.int (1 : Int32)), .val (.int (1 : Int32)), .val (.int (1 : Int32))] rfl rfl ?_
              refine Own.s_iload X113 at_152 rfl rfl ?_
              refine Own.s_iload X113 at_154 rfl rfl ?_
              refine Own.s_ifF X113 at_156 ((if0 _ _).trans (feq (show ¬ (1 : Int32) = (0 : Int32) by decide)).1) rfl ?_
              refine Own.s_iload X113 at_159 rfl rfl ?_
              refine Own.s_ifF X113 at_161 ((if0 _ _).trans (feq (show ¬ (1 : Int32) = (0 : Int32) by decide)).1) rfl ?_
              refine Own.s_iconst X113 at_164 (1 : Int32) (by decide) rfl ?_
              refine Own.s_goto X113 at_165 (by decide) (pc' := 169) (by decide) ?_
              refine Own.s_icmpF X113 at_169 (teq (show (1 : Int32) = (1 : Int32) by decide)).2 rfl ?_
              refine Own.s_iconst X113 at_172 (1 : Int32) (by decide) rfl ?_
              refine Own.s_goto X113 at_173 (by decide) (pc' := 177) (by decide) ?_
              exact Own.r_nar X113 rfl (Or.inl rfl) at_177 (by decide) (by decide) (by decide)
            · refine Own.s_ifF X113 at_129 ((if0 _ _).trans (feq hc129_118).1) rfl ?_
              refine Own.s_iload X113 at_132 rfl rfl ?_
              refine Own.s_iloadN X113 at_134 rfl rfl ?_
              refine Own.s_iload X113 at_135 rfl rfl ?_
              refine Own.s_iload X113 at_137 rfl rfl ?_
              refine Own.c_static X113 at_139 (tw62 hw) (tw63 hw) (tw5 hw) (tw64 hw) (by decide) [(.int ((XT.ushr p0 (4 : Int32)) &&& (3 : Int32))), (.int p3), (.int ((XT.ushr p0 (6 : Int32)) &&& (3 : Int32))), (.int p3)] [] 0 (rm_eq hw ((XT.ushr p0 (4 : Int32)) &&& (3 : Int32)) p3 ((XT.ushr p0 (6 : Int32)) &&& (3 : Int32)) p3 hc129_118 h113 X113.hE) (fun q => nomatch q) Own.Ok.nil (lenOf pd_14 rfl) rfl (Nat.le_of_eq rfl) (by decide) (by decide) (by decide) (by decide) rfl rfl ?_
              intro v119 vm119 T119 h119 L119 X119 V119 Q119
              rcases Q119 with Q119 | Q119
              · obtain ⟨rfl, hE119⟩ := Q119
                refine Own.s_ifF X119 at_142 ((if0 _ _).trans (feq (show ¬ (1 : Int32) = (0 : Int32) by decide)).1) rfl ?_
                refine Own.s_iconst X119 at_145 (1 : Int32) (by decide) rfl ?_
                refine Own.s_goto X119 at_146 (by decide) (pc' := 150) (by decide) ?_
                refine Own.s_istore X119 at_150 #[.val (.int p0), .val (.int p1), .val (.int p2), .val (.int p3), .val (.int p4), .val (.int (p0 &&& (3 : Int32))), .val (.int ((XT.ushr p0 (2 : Int32)) &&& (3 : Int32))), .val (.int ((XT.ushr p0 (4 : Int32)) &&& (3 : Int32))), .val (.int ((XT.ushr p0 (6 : Int32)) &&& (3 : Int32))), .val (.int p2), .val (.int p3), .val (.ref b92), .val (.int (1 : Int32)), .val (.int (1 : Int32)), .val (.int (1 : Int32))] rfl rfl ?_
                refine Own.s_iload X119 at_152 rfl rfl ?_
                refine Own.s_iload X119 at_154 rfl rfl ?_
                refine Own.s_ifF X119 at_156 ((if0 _ _).trans (feq (show ¬ (1 : Int32) = (0 : Int32) by decide)).1) rfl ?_
                refine Own.s_iload X119 at_159 rfl rfl ?_
                refine Own.s_ifF X119 at_161 ((if0 _ _).trans (feq (show ¬ (1 : Int32) = (0 : Int32) by decide)).1) rfl ?_
                refine Own.s_iconst X119 at_164 (1 : Int32) (by decide) rfl ?_
                refine Own.s_goto X119 at_165 (by decide) (pc' := 169) (by decide) ?_
                refine Own.s_icmpF X119 at_169 (teq (show (1 : Int32) = (1 : Int32) by decide)).2 rfl ?_
                refine Own.s_iconst X119 at_172 (1 : Int32) (by decide) rfl ?_
                refine Own.s_goto X119 at_173 (by decide) (pc' := 177) (by decide) ?_
                exact Own.r_nar X119 rfl (Or.inl rfl) at_177 (by decide) (by decide) (by decide)
              · obtain ⟨rfl, hE119⟩ := Q119
                refine Own.s_ifT X119 at_142 ((if0 _ _).trans (teq (show (0 : Int32) = (0 : Int32) by decide)).1) (by decide) (pc' := 149) (by decide) ?_
                refine Own.s_iconst X119 at_149 (0 : Int32) (by decide) rfl ?_
                refine Own.s_istore X119 at_150 #[.val (.int p0), .val (.int p1), .val (.int p2), .val (.int p3), .val (.int p4), .val (.int (p0 &&& (3 : Int32))), .val (.int ((XT.ushr p0 (2 : Int32)) &&& (3 : Int32))), .val (.int ((XT.ushr p0 (4 : Int32)) &&& (3 : Int32))), .val (.int ((XT.ushr p0 (6 : Int32)) &&& (3 : Int32))), .val (.int p2), .val (.int p3), .val (.ref b92), .val (.int (1 : Int32)), .val (.int (1 : Int32)), .val (.int (0 : Int32))] rfl rfl ?_
                refine Own.s_iload X119 at_152 rfl rfl ?_
                refine Own.s_iload X119 at_154 rfl rfl ?_
                refine Own.s_ifF X119 at_156 ((if0 _ _).trans (feq (show ¬ (1 : Int32) = (0 : Int32) by decide)).1) rfl ?_
                refine Own.s_iload X119 at_159 rfl rfl ?_
                refine Own.s_ifT X119 at_161 ((if0 _ _).trans (teq (show (0 : Int32) = (0 : Int32) by decide)).1) (by decide) (pc' := 168) (by decide) ?_
                refine Own.s_iconst X119 at_168 (0 : Int32) (by decide) rfl ?_
                refine Own.s_icmpT X119 at_169 (feq (show ¬ (1 : Int32) = (0 : Int32) by decide)).2 (by decide) (pc' := 176) (by decide) ?_
                refine Own.s_iconst X119 at_176 (0 : Int32) (by decide) rfl ?_
                exact Own.r_nar X119 rfl (Or.inl rfl) at_177 (by decide) (by decide) (absurd hA113.2 (own_notS hc129_118 hE119))
          · refine Own.s_icmpF X113 at_104 (feq hc104_117).1 rfl ?_
            refine Own.s_iload X113 at_107 rfl rfl ?_
            refine Own.s_iloadN X113 at_109 rfl rfl ?_
            refine Own.s_iload X113 at_110 rfl rfl ?_
            refine Own.s_iload X113 at_112 rfl rfl ?_
            refine Own.c_static X113 at_114 (tw62 hw) (tw63 hw) (tw5 hw) (tw64 hw) (by decide) [(.int (p0 &&& (3 : Int32))), (.int p1), (.int ((XT.ushr p0 (2 : Int32)) &&& (3 : Int32))), (.int p2)] [] 0 (rm_eq hw (p0 &&& (3 : Int32)) p1 ((XT.ushr p0 (2 : Int32)) &&& (3 : Int32)) p2 hc98_114 h113 X113.hE) (fun q => nomatch q) Own.Ok.nil (lenOf pd_14 rfl) rfl (Nat.le_of_eq rfl) (by decide) (by decide) (by decide) (by decide) rfl rfl ?_
            intro v120 vm120 T120 h120 L120 X120 V120 Q120
            rcases Q120 with Q120 | Q120
            · obtain ⟨rfl, hE120⟩ := Q120
              refine Own.s_ifF X120 at_117 ((if0 _ _).trans (feq (show ¬ (1 : Int32) = (0 : Int32) by decide)).1) rfl ?_
              refine Own.s_iconst X120 at_120 (1 : Int32) (by decide) rfl ?_
              refine Own.s_goto X120 at_121 (by decide) (pc' := 125) (by decide) ?_
              refine Own.s_istore X120 at_125 #[.val (.int p0), .val (.int p1), .val (.int p2), .val (.int p3), .val (.int p4), .val (.int (p0 &&& (3 : Int32))), .val (.int ((XT.ushr p0 (2 : Int32)) &&& (3 : Int32))), .val (.int ((XT.ushr p0 (4 : Int32)) &&& (3 : Int32))), .val (.int ((XT.ushr p0 (6 : Int32)) &&& (3 : Int32))), .val (.int p2), .val (.int p3), .val (.ref b92), .val (.int (1 : Int32)), .val (.int (1 : Int32)), .unset] rfl rfl ?_
              refine Own.s_iload X120 at_127 rfl rfl ?_
              by_cases hc129_121 : ((XT.ushr p0 (4 : Int32)) &&& (3 : Int32)) = (0 : Int32)
              · refine Own.s_ifT X120 at_129 ((if0 _ _).trans (teq hc129_121).1) (by decide) (pc' := 145) (by decide) ?_
                refine Own.s_iconst X120 at_145 (1 : Int32) (by decide) rfl ?_
                refine Own.s_goto X120 at_146 (by decide) (pc' := 150) (by decide) ?_
                refine Own.s_istore X120 at_150 #[.val (.int p0), .val (.int p1), .val (.int p2), .val (.int p3), .val (.int p4), .val (.int (p0 &&& (3 : Int32))), .val (.int ((XT.ushr p0 (2 : Int32)) &&& (3 : Int32))), .val (.int ((XT.ushr p0 (4 : Int32)) &&& (3 : Int32))), .val (.int ((XT.ushr p0 (6 : Int32)) &&& (3 : Int32))), .val (.int p2), .val (.int p3), .val (.ref b92), .val (.int (1 : Int32)), .val (.int (1 : Int32)), .val (.int (1 : Int32))] rfl rfl ?_
                refine Own.s_iload X120 at_152 rfl rfl ?_
                refine Own.s_iload X120 at_154 rfl rfl ?_
                refine Own.s_ifF X120 at_156 ((if0 _ _).trans (feq (show ¬ (1 : Int32) = (0 : Int32) by decide)).1) rfl ?_
                refine Own.s_iload X120 at_159 rfl rfl ?_
                refine Own.s_ifF X120 at_161 ((if0 _ _).trans (feq (show ¬ (1 : Int32) = (0 : Int32) by decide)).1) rfl ?_
                refine Own.s_iconst X120 at_164 (1 : Int32) (by decide) rfl ?_
                refine Own.s_goto X120 at_165 (by decide) (pc' := 169) (by decide) ?_
                refine Own.s_icmpF X120 at_169 (teq (show (1 : Int32) = (1 : Int32) by decide)).2 rfl ?_
                refine Own.s_iconst X120 at_172 (1 : Int32) (by decide) rfl ?_
                refine Own.s_goto X120 at_173 (by decide) (pc' := 177) (by decide) ?_
                exact Own.r_nar X120 rfl (Or.inl rfl) at_177 (by decide) (by decide) (by decide)
              · refine Own.s_ifF X120 at_129 ((if0 _ _).trans (feq hc129_121).1) rfl ?_
                refine Own.s_iload X120 at_132 rfl rfl ?_
                refine Own.s_iloadN X120 at_134 rfl rfl ?_
                refine Own.s_iload X120 at_135 rfl rfl ?_
                refine Own.s_iload X120 at_137 rfl rfl ?_
                refine Own.c_static X120 at_139 (tw62 hw) (tw63 hw) (tw5 hw) (tw64 hw) (by decide) [(.int ((XT.ushr p0 (4 : Int32)) &&& (3 : Int32))), (.int p3), (.int ((XT.ushr p0 (6 : Int32)) &&& (3 : Int32))), (.int p3)] [] 0 (rm_eq hw ((XT.ushr p0 (4 : Int32)) &&& (3 : Int32)) p3 ((XT.ushr p0 (6 : Int32)) &&& (3 : Int32)) p3 hc129_121 h120 X120.hE) (fun q => nomatch q) Own.Ok.nil (lenOf pd_14 rfl) rfl (Nat.le_of_eq rfl) (by decide) (by decide) (by decide) (by decide) rfl rfl ?_
                intro v122 vm122 T122 h122 L122 X122 V122 Q122
                rcases Q122 with Q122 | Q122
                · obtain ⟨rfl, hE122⟩ := Q122
                  refine Own.s_ifF X122 at_142 ((if0 _ _).trans (feq (show ¬ (1 : Int32) = (0 : Int32) by decide)).1) rfl ?_
                  refine Own.s_iconst X122 at_145 (1 : Int32) (by decide) rfl ?_
                  refine Own.s_goto X122 at_146 (by decide) (pc' := 150) (by decide) ?_
                  refine Own.s_istore X122 at_150 #[.val (.int p0), .val (.int p1), .val (.int p2), .val (.int p3), .val (.int p4), .val (.int (p0 &&& (3 : Int32))), .val (.int ((XT.ushr p0 (2 : Int32)) &&& (3 : Int32))), .val (.int ((XT.ushr p0 (4 : Int32)) &&& (3 : Int32))), .val (.int ((XT.ushr p0 (6 : Int32)) &&& (3 : Int32))), .val (.int p2), .val (.int p3), .val (.ref b92), .val (.int (1 : Int32)), .val (.int (1 : Int32)), .val (.int (1 : Int32))] rfl rfl ?_
                  refine Own.s_iload X122 at_152 rfl rfl ?_
                  refine Own.s_iload X122 at_154 rfl rfl ?_
                  refine Own.s_ifF X122 at_156 ((if0 _ _).trans (feq (show ¬ (1 : Int32) = (0 : Int32) by decide)).1) rfl ?_
                  refine Own.s_iload X122 at_159 rfl rfl ?_
                  refine Own.s_ifF X122 at_161 ((if0 _ _).trans (feq (show ¬ (1 : Int32) = (0 : Int32) by decide)).1) rfl ?_
                  refine Own.s_iconst X122 at_164 (1 : Int32) (by decide) rfl ?_
                  refine Own.s_goto X122 at_165 (by decide) (pc' := 169) (by decide) ?_
                  refine Own.s_icmpF X122 at_169 (teq (show (1 : Int32) = (1 : Int32) by decide)).2 rfl ?_
                  refine Own.s_iconst X122 at_172 (1 : Int32) (by decide) rfl ?_
                  refine Own.s_goto X122 at_173 (by decide) (pc' := 177) (by decide) ?_
                  exact Own.r_nar X122 rfl (Or.inl rfl) at_177 (by decide) (by decide) (by decide)
                · obtain ⟨rfl, hE122⟩ := Q122
                  refine Own.s_ifT X122 at_142 ((if0 _ _).trans (teq (show (0 : Int32) = (0 : Int32) by decide)).1) (by decide) (pc' := 149) (by decide) ?_
                  refine Own.s_iconst X122 at_149 (0 : Int32) (by decide) rfl ?_
                  refine Own.s_istore X122 at_150 #[.val (.int p0), .val (.int p1), .val (.int p2), .val (.int p3), .val (.int p4), .val (.int (p0 &&& (3 : Int32))), .val (.int ((XT.ushr p0 (2 : Int32)) &&& (3 : Int32))), .val (.int ((XT.ushr p0 (4 : Int32)) &&& (3 : Int32))), .val (.int ((XT.ushr p0 (6 : Int32)) &&& (3 : Int32))), .val (.int p2), .val (.int p3), .val (.ref b92), .val (.int (1 : Int32)), .val (.int (1 : Int32)), .val (.int (0 : Int32))] rfl rfl ?_
                  refine Own.s_iload X122 at_152 rfl rfl ?_
                  refine Own.s_iload X122 at_154 rfl rfl ?_
                  refine Own.s_ifF X122 at_156 ((if0 _ _).trans (feq (show ¬ (1 : Int32) = (0 : Int32) by decide)).1) rfl ?_
                  refine Own.s_iload X122 at_159 rfl rfl ?_
                  refine Own.s_ifT X122 at_161 ((if0 _ _).trans (teq (show (0 : Int32) = (0 : Int32) by decide)).1) (by decide) (pc' := 168) (by decide) ?_
                  refine Own.s_iconst X122 at_168 (0 : Int32) (by decide) rfl ?_
                  refine Own.s_icmpT X122 at_169 (feq (show ¬ (1 : Int32) = (0 : Int32) by decide)).2 (by decide) (pc' := 176) (by decide) ?_
                  refine Own.s_iconst X122 at_176 (0 : Int32) (by decide) rfl ?_
                  exact Own.r_nar X122 rfl (Or.inl rfl) at_177 (by decide) (by decide) (absurd hA113.2 (own_notS hc129_121 hE122))
            · obtain ⟨rfl, hE120⟩ := Q120
              refine Own.s_ifT X120 at_117 ((if0 _ _).trans (teq (show (0 : Int32) = (0 : Int32) by decide)).1) (by decide) (pc' := 124) (by decide) ?_
              refine Own.s_iconst X120 at_124 (0 : Int32) (by decide) rfl ?_
              refine Own.s_istore X120 at_125 #[.val (.int p0), .val (.int p1), .val (.int p2), .val (.int p3), .val (.int p4), .val (.int (p0 &&& (3 : Int32))), .val (.int ((XT.ushr p0 (2 : Int32)) &&& (3 : Int32))), .val (.int ((XT.ushr p0 (4 : Int32)) &&& (3 : Int32))), .val (.int ((XT.ushr p0 (6 : Int32)) &&& (3 : Int32))), .val (.int p2), .val (.int p3), .val (.ref b92), .val (.int (1 : Int32)), .val (.int (0 : Int32)), .unset] rfl rfl ?_
              refine Own.s_iload X120 at_127 rfl rfl ?_
              by_cases hc129_123 : ((XT.ushr p0 (4 : Int32)) &&& (3 : Int32)) = (0 : Int32)
              · refine Own.s_ifT X120 at_129 ((if0 _ _).trans (teq hc129_123).1) (by decide) (pc' := 145) (by decide) ?_
                refine Own.s_iconst X120 at_145 (1 : Int32) (by decide) rfl ?_
                refine Own.s_goto X120 at_146 (by decide) (pc' := 150) (by decide) ?_
                refine Own.s_istore X120 at_150 #[.val (.int p0), .val (.int p1), .val (.int p2), .val (.int p3), .val (.int p4), .val (.int (p0 &&& (3 : Int32))), .val (.int ((XT.ushr p0 (2 : Int32)) &&& (3 : Int32))), .val (.int ((XT.ushr p0 (4 : Int32)) &&& (3 : Int32))), .val (.int ((XT.ushr p0 (6 : Int32)) &&& (3 : Int32))), .val (.int p2), .val (.int p3), .val (.ref b92), .val (.int (1 : Int32)), .val (.int (0 : Int32)), .val (.int (1 : Int32))] rfl rfl ?_
                refine Own.s_iload X120 at_152 rfl rfl ?_
                refine Own.s_iload X120 at_154 rfl rfl ?_
                refine Own.s_ifT X120 at_156 ((if0 _ _).trans (teq (show (0 : Int32) = (0 : Int32) by decide)).1) (by decide) (pc' := 168) (by decide) ?_
                refine Own.s_iconst X120 at_168 (0 : Int32) (by decide) rfl ?_
                refine Own.s_icmpT X120 at_169 (feq (show ¬ (1 : Int32) = (0 : Int32) by decide)).2 (by decide) (pc' := 176) (by decide) ?_
                refine Own.s_iconst X120 at_176 (0 : Int32) (by decide) rfl ?_
                exact Own.r_nar X120 rfl (Or.inl rfl) at_177 (by decide) (by decide) (absurd hA113.1 (own_notF hc98_114 hc104_117 hE120))
              · refine Own.s_ifF X120 at_129 ((if0 _ _).trans (feq hc129_123).1) rfl ?_
                refine Own.s_iload X120 at_132 rfl rfl ?_
                refine Own.s_iloadN X120 at_134 rfl rfl ?_
                refine Own.s_iload X120 at_135 rfl rfl ?_
                refine Own.s_iload X120 at_137 rfl rfl ?_
                refine Own.c_static X120 at_139 (tw62 hw) (tw63 hw) (tw5 hw) (tw64 hw) (by decide) [(.int ((XT.ushr p0 (4 : Int32)) &&& (3 : Int32))), (.int p3), (.int ((XT.ushr p0 (6 : Int32)) &&& (3 : Int32))), (.int p3)] [] 0 (rm_eq hw ((XT.ushr p0 (4 : Int32)) &&& (3 : Int32)) p3 ((XT.ushr p0 (6 : Int32)) &&& (3 : Int32)) p3 hc129_123 h120 X120.hE) (fun q => nomatch q) Own.Ok.nil (lenOf pd_14 rfl) rfl (Nat.le_of_eq rfl) (by decide) (by decide) (by decide) (by decide) rfl rfl ?_
                intro v124 vm124 T124 h124 L124 X124 V124 Q124
                rcases Q124 with Q124 | Q124
                · obtain ⟨rfl, hE124⟩ := Q124
                  refine Own.s_ifF X124 at_142 ((if0 _ _).trans (feq (show ¬ (1 : Int32) = (0 : Int32) by decide)).1) rfl ?_
                  refine Own.s_iconst X124 at_145 (1 : Int32) (by decide) rfl ?_
                  refine Own.s_goto X124 at_146 (by decide) (pc' := 150) (by decide) ?_
                  refine Own.s_istore X124 at_150 #[.val (.int p0), .val (.int p1), .val (.int p2), .val (.int p3), .val (.int p4), .val (.int (p0 &&& (3 : Int32))), .val (.int ((XT.ushr p0 (2 : Int32)) &&& (3 : Int32))), .val (.int ((XT.ushr p0 (4 : Int32)) &&& (3 : Int32))), .val (.int ((XT.ushr p0 (6 : Int32)) &&& (3 : Int32))), .val (.int p2), .val (.int p3), .val (.ref b92), .val (.int (1 : Int32)), .val (.int (0 : Int32)), .val (.int (1 : Int32))] rfl rfl ?_
                  refine Own.s_iload X124 at_152 rfl rfl ?_
                  refine Own.s_iload X124 at_154 rfl rfl ?_
                  refine Own.s_ifT X124 at_156 ((if0 _ _).trans (teq (show (0 : Int32) = (0 : Int32) by decide)).1) (by decide) (pc' := 168) (by decide) ?_
                  refine Own.s_iconst X124 at_168 (0 : Int32) (by decide) rfl ?_
                  refine Own.s_icmpT X124 at_169 (feq (show ¬ (1 : Int32) = (0 : Int32) by decide)).2 (by decide) (pc' := 176) (by decide) ?_
                  refine Own.s_iconst X124 at_176 (0 : Int32) (by decide) rfl ?_
                  exact Own.r_nar X124 rfl (Or.inl rfl) at_177 (by decide) (by decide) (absurd hA113.1 (own_notF hc98_114 hc104_117 hE120))
                · obtain ⟨rfl, hE124⟩ := Q124
                  refine Own.s_ifT X124 at_142 ((if0 _ _).trans (teq (show (0 : Int32) = (0 : Int32) by decide)).1) (by decide) (pc' := 149) (by decide) ?_
                  refine Own.s_iconst X124 at_149 (0 : Int32) (by decide) rfl ?_
                  refine Own.s_istore X124 at_150 #[.val (.int p0), .val (.int p1), .val (.int p2), .val (.int p3), .val (.int p4), .val (.int (p0 &&& (3 : Int32))), .val (.int ((XT.ushr p0 (2 : Int32)) &&& (3 : Int32))), .val (.int ((XT.ushr p0 (4 : Int32)) &&& (3 : Int32))), .val (.int ((XT.ushr p0 (6 : Int32)) &&& (3 : Int32))), .val (.int p2), .val (.int p3), .val (.ref b92), .val (.int (1 : Int32)), .val (.int (0 : Int32)), .val (.int (0 : Int32))] rfl rfl ?_
                  refine Own.s_iload X124 at_152 rfl rfl ?_
                  refine Own.s_iload X124 at_154 rfl rfl ?_
                  refine Own.s_ifT X124 at_156 ((if0 _ _).trans (teq (show (0 : Int32) = (0 : Int32) by decide)).1) (by decide) (pc' := 168) (by decide) ?_
                  refine Own.s_iconst X124 at_168 (0 : Int32) (by decide) rfl ?_
                  refine Own.s_icmpT X124 at_169 (feq (show ¬ (1 : Int32) = (0 : Int32) by decide)).2 (by decide) (pc' := 176) (by decide) ?_
                  refine Own.s_iconst X124 at_176 (0 : Int32) (by decide) rfl ?_
                  exact Own.r_nar X124 rfl (Or.inl rfl) at_177 (by decide) (by decide) (absurd hA113.1 (own_notF hc98_114 hc104_117 hE120))
      · obtain ⟨rfl, hA113⟩ := Q113
        refine Own.s_istore X113 at_94 #[.val (.int p0), .val (.int p1), .val (.int p2), .val (.int p3), .val (.int p4), .val (.int (p0 &&& (3 : Int32))), .val (.int ((XT.ushr p0 (2 : Int32)) &&& (3 : Int32))), .val (.int ((XT.ushr p0 (4 : Int32)) &&& (3 : Int32))), .val (.int ((XT.ushr p0 (6 : Int32)) &&& (3 : Int32))), .val (.int p2), .val (.int p3), .val (.ref b92), .val (.int (0 : Int32)), .unset, .unset] rfl rfl ?_
        refine Own.s_iload X113 at_96 rfl rfl ?_
        by_cases hc98_125 : (p0 &&& (3 : Int32)) = (0 : Int32)
        · refine Own.s_ifT X113 at_98 ((if0 _ _).trans (teq hc98_125).1) (by decide) (pc' := 120) (by decide) ?_
          refine Own.s_iconst X113 at_120 (1 : Int32) (by decide) rfl ?_
          refine Own.s_goto X113 at_121 (by decide) (pc' := 125) (by decide) ?_
          refine Own.s_istore X113 at_125 #[.val (.int p0), .val (.int p1), .val (.int p2), .val (.int p3), .val (.int p4), .val (.int (p0 &&& (3 : Int32))), .val (.int ((XT.ushr p0 (2 : Int32)) &&& (3 : Int32))), .val (.int ((XT.ushr p0 (4 : Int32)) &&& (3 : Int32))), .val (.int ((XT.ushr p0 (6 : Int32)) &&& (3 : Int32))), .val (.int p2), .val (.int p3), .val (.ref b92), .val (.int (0 : Int32)), .val (.int (1 : Int32)), .unset] rfl rfl ?_
          refine Own.s_iload X113 at_127 rfl rfl ?_
          by_cases hc129_126 : ((XT.ushr p0 (4 : Int32)) &&& (3 : Int32)) = (0 : Int32)
          · refine Own.s_ifT X113 at_129 ((if0 _ _).trans (teq hc129_126).1) (by decide) (pc' := 145) (by decide) ?_
            refine Own.s_iconst X113 at_145 (1 : Int32) (by decide) rfl ?_
            refine Own.s_goto X113 at_146 (by decide) (pc' := 150) (by decide) ?_
            refine Own.s_istore X113 at_150 #[.val (.int p0), .val (.int p1), .val (.int p2), .val (.int p3), .val (.int p4), .val (.int (p0 &&& (3 : Int32))), .val (.int ((XT.ushr p0 (2 : Int32)) &&& (3 : Int32))), .val (.int ((XT.ushr p0 (4 : Int32)) &&& (3 : Int32))), .val (.int ((XT.ushr p0 (6 : Int32)) &&& (3 : Int32))), .val (.int p2), .val (.int p3), .val (.ref b92), .val (.int (0 : Int32)), .val (.int (1 : Int32)), .val (.int (1 : Int32))] rfl rfl ?_
            refine Own.s_iload X113 at_152 rfl rfl ?_
            refine Own.s_iload X113 at_154 rfl rfl ?_
            refine Own.s_ifF X113 at_156 ((if0 _ _).trans (feq (show ¬ (1 : Int32) = (0 : Int32) by decide)).1) rfl ?_
            refine Own.s_iload X113 at_159 rfl rfl ?_
            refine Own.s_ifF X113 at_161 ((if0 _ _).trans (feq (show ¬ (1 : Int32) = (0 : Int32) by decide)).1) rfl ?_
            refine Own.s_iconst X113 at_164 (1 : Int32) (by decide) rfl ?_
            refine Own.s_goto X113 at_165 (by decide) (pc' := 169) (by decide) ?_
            refine Own.s_icmpT X113 at_169 (feq (show ¬ (0 : Int32) = (1 : Int32) by decide)).2 (by decide) (pc' := 176) (by decide) ?_
            refine Own.s_iconst X113 at_176 (0 : Int32) (by decide) rfl ?_
            exact Own.r_nar X113 rfl (Or.inl rfl) at_177 (by decide) (by decide) (absurd ⟨Or.inl (own_mk0 hc98_125), Or.inl (own_mk0 hc129_126)⟩ hA113)
          · refine Own.s_ifF X113 at_129 ((if0 _ _).trans (feq hc129_126).1) rfl ?_
            refine Own.s_iload X113 at_132 rfl rfl ?_
            refine Own.s_iloadN X113 at_134 rfl rfl ?_
            refine Own.s_iload X113 at_135 rfl rfl ?_
            refine Own.s_iload X113 at_137 rfl rfl ?_
            refine Own.c_static X113 at_139 (tw62 hw) (tw63 hw) (tw5 hw) (tw64 hw) (by decide) [(.int ((XT.ushr p0 (4 : Int32)) &&& (3 : Int32))), (.int p3), (.int ((XT.ushr p0 (6 : Int32)) &&& (3 : Int32))), (.int p3)] [] 0 (rm_eq hw ((XT.ushr p0 (4 : Int32)) &&& (3 : Int32)) p3 ((XT.ushr p0 (6 : Int32)) &&& (3 : Int32)) p3 hc129_126 h113 X113.hE) (fun q => nomatch q) Own.Ok.nil (lenOf pd_14 rfl) rfl (Nat.le_of_eq rfl) (by decide) (by decide) (by decide) (by decide) rfl rfl ?_
            intro v127 vm127 T127 h127 L127 X127 V127 Q127
            rcases Q127 with Q127 | Q127
            · obtain ⟨rfl, hE127⟩ := Q127
              refine Own.s_ifF X127 at_142 ((if0 _ _).trans (feq (show ¬ (1 : Int32) = (0 : Int32) by decide)).1) rfl ?_
              refine Own.s_iconst X127 at_145 (1 : Int32) (by decide) rfl ?_
              refine Own.s_goto X127 at_146 (by decide) (pc' := 150) (by decide) ?_
              refine Own.s_istore X127 at_150 #[.val (.int p0), .val (.int p1), .val (.int p2), .val (.int p3), .val (.int p4), .val (.int (p0 &&& (3 : Int32))), .val (.int ((XT.ushr p0 (2 : Int32)) &&& (3 : Int32))), .val (.int ((XT.ushr p0 (4 : Int32)) &&& (3 : Int32))), .val (.int ((XT.ushr p0 (6 : Int32)) &&& (3 : Int32))), .val (.int p2), .val (.int p3), .val (.ref b92), .val (.int (0 : Int32)), .val (.int (1 : Int32)), .val (.int (1 : Int32))] rfl rfl ?_
              refine Own.s_iload X127 at_152 rfl rfl ?_
              refine Own.s_iload X127 at_154 rfl rfl ?_
              refine Own.s_ifF X127 at_156 ((if0 _ _).trans (feq (show ¬ (1 : Int32) = (0 : Int32) by decide)).1) rfl ?_
              refine Own.s_iload X127 at_159 rfl rfl ?_
              refine Own.s_ifF X127 at_161 ((if0 _ _).trans (feq (show ¬ (1 : Int32) = (0 : Int32) by decide)).1) rfl ?_
              refine Own.s_iconst X127 at_164 (1 : Int32) (by decide) rfl ?_
              refine Own.s_goto X127 at_165 (by decide) (pc' := 169) (by decide) ?_
              refine Own.s_icmpT X127 at_169 (feq (show ¬ (0 : Int32) = (1 : Int32) by decide)).2 (by decide) (pc' := 176) (by decide) ?_
              refine Own.s_iconst X127 at_176 (0 : Int32) (by decide) rfl ?_
              exact Own.r_nar X127 rfl (Or.inl rfl) at_177 (by decide) (by decide) (absurd ⟨Or.inl (own_mk0 hc98_125), Or.inr hE127⟩ hA113)
            · obtain ⟨rfl, hE127⟩ := Q127
              refine Own.s_ifT X127 at_142 ((if0 _ _).trans (teq (show (0 : Int32) = (0 : Int32) by decide)).1) (by decide) (pc' := 149) (by decide) ?_
              refine Own.s_iconst X127 at_149 (0 : Int32) (by decide) rfl ?_
              refine Own.s_istore X127 at_150 #[.val (.int p0), .val (.int p1), .val (.int p2), .val (.int p3), .val (.int p4), .val (.int (p0 &&& (3 : Int32))), .val (.int ((XT.ushr p0 (2 : Int32)) &&& (3 : Int32))), .val (.int ((XT.ushr p0 (4 : Int32)) &&& (3 : Int32))), .val (.int ((XT.ushr p0 (6 : Int32)) &&& (3 : Int32))), .val (.int p2), .val (.int p3), .val (.ref b92), .val (.int (0 : Int32)), .val (.int (1 : Int32)), .val (.int (0 : Int32))] rfl rfl ?_
              refine Own.s_iload X127 at_152 rfl rfl ?_
              refine Own.s_iload X127 at_154 rfl rfl ?_
              refine Own.s_ifF X127 at_156 ((if0 _ _).trans (feq (show ¬ (1 : Int32) = (0 : Int32) by decide)).1) rfl ?_
              refine Own.s_iload X127 at_159 rfl rfl ?_
              refine Own.s_ifT X127 at_161 ((if0 _ _).trans (teq (show (0 : Int32) = (0 : Int32) by decide)).1) (by decide) (pc' := 168) (by decide) ?_
              refine Own.s_iconst X127 at_168 (0 : Int32) (by decide) rfl ?_
              refine Own.s_icmpF X127 at_169 (teq (show (0 : Int32) = (0 : Int32) by decide)).2 rfl ?_
              refine Own.s_iconst X127 at_172 (1 : Int32) (by decide) rfl ?_
              refine Own.s_goto X127 at_173 (by decide) (pc' := 177) (by decide) ?_
              exact Own.r_nar X127 rfl (Or.inl rfl) at_177 (by decide) (by decide) (by decide)
        · refine Own.s_ifF X113 at_98 ((if0 _ _).trans (feq hc98_125).1) rfl ?_
          refine Own.s_iload X113 at_101 rfl rfl ?_
          refine Own.s_iconst X113 at_103 (1 : Int32) (by decide) rfl ?_
          by_cases hc104_128 : (p0 &&& (3 : Int32)) = (1 : Int32)
          · refine Own.s_icmpT X113 at_104 (teq hc104_128).1 (by decide) (pc' := 120) (by decide) ?_
            refine Own.s_iconst X113 at_120 (1 : Int32) (by decide) rfl ?_
            refine Own.s_goto X113 at_121 (by decide) (pc' := 125) (by decide) ?_
            refine Own.s_istore X113 at_125 #[.val (.int p0), .val (.int p1), .val (.int p2), .val (.int p3), .val (.int p4), .val (.int (p0 &&& (3 : Int32))), .val (.int ((XT.ushr p0 (2 : Int32)) &&& (3 : Int32))), .val (.int ((XT.ushr p0 (4 : Int32)) &&& (3 : Int32))), .val (.int ((XT.ushr p0 (6 : Int32)) &&& (3 : Int32))), .val (.int p2), .val (.int p3), .val (.ref b92), .val (.int (0 : Int32)), .val (.int (1 : Int32)), .unset] rfl rfl ?_
            refine Own.s_iload X113 at_127 rfl rfl ?_
            by_cases hc129_129 : ((XT.ushr p0 (4 : Int32)) &&& (3 : Int32)) = (0 : Int32)
            · refine Own.s_ifT X113 at_129 ((if0 _ _).trans (teq hc129_129).1) (by decide) (pc' := 145) (by decide) ?_
              refine Own.s_iconst X113 at_145 (1 : Int32) (by decide) rfl ?_
              refine Own.s_goto X113 at_146 (by decide) (pc' := 150) (by decide) ?_
              refine Own.s_istore X113 at_150 #[.val (.int p0), .val (.int p1), .val (.int p2), .val (.int p3), .val (.int p4), .val (.int (p0 &&& (3 : Int32))), .val (.int ((XT.ushr p0 (2 : Int32)) &&& (3 : Int32))), .val (.int ((XT.ushr p0 (4 : Int32)) &&& (3 : Int32))), .val (.int ((XT.ushr p0 (6 : Int32)) &&& (3 : Int32))), .val (.int p2), .val (.int p3), .val (.ref b92), .val (.int (0 : Int32)), .val (.int (1 : Int32)), .val (.int (1 : Int32))] rfl rfl ?_
              refine Own.s_iload X113 at_152 rfl rfl ?_
              refine Own.s_iload X113 at_154 rfl rfl ?_
              refine Own.s_ifF X113 at_156 ((if0 _ _).trans (feq (show ¬ (1 : Int32) = (0 : Int32) by decide)).1) rfl ?_
              refine Own.s_iload X113 at_159 rfl rfl ?_
              refine Own.s_ifF X113 at_161 ((if0 _ _).trans (feq (show ¬ (1 : Int32) = (0 : Int32) by decide)).1) rfl ?_
              refine Own.s_iconst X113 at_164 (1 : Int32) (by decide) rfl ?_
              refine Own.s_goto X113 at_165 (by decide) (pc' := 169) (by decide) ?_
              refine Own.s_icmpT X113 at_169 (feq (show ¬ (0 : Int32) = (1 : Int32) by decide)).2 (by decide) (pc' := 176) (by decide) ?_
              refine Own.s_iconst X113 at_176 (0 : Int32) (by decide) rfl ?_
              exact Own.r_nar X113 rfl (Or.inl rfl) at_177 (by decide) (by decide) (absurd ⟨Or.inr (Or.inl (own_mk1 hc104_128)), Or.inl (own_mk0 hc129_129)⟩ hA113)
            · refine Own.s_ifF X113 at_129 ((if0 _ _).trans (feq hc129_129).1) rfl ?_
              refine Own.s_iload X113 at_132 rfl rfl ?_
              refine Own.s_iloadN X113 at_134 rfl rfl ?_
              refine Own.s_iload X113 at_135 rfl rfl ?_
              refine Own.s_iload X113 at_137 rfl rfl ?_
              refine Own.c_static X113 at_139 (tw62 hw) (tw63 hw) (tw5 hw) (tw64 hw) (by decide) [(.int ((XT.ushr p0 (4 : Int32)) &&& (3 : Int32))), (.int p3), (.int ((XT.ushr p0 (6 : Int32)) &&& (3 : Int32))), (.int p3)] [] 0 (rm_eq hw ((XT.ushr p0 (4 : Int32)) &&& (3 : Int32)) p3 ((XT.ushr p0 (6 : Int32)) &&& (3 : Int32)) p3 hc129_129 h113 X113.hE) (fun q => nomatch q) Own.Ok.nil (lenOf pd_14 rfl) rfl (Nat.le_of_eq rfl) (by decide) (by decide) (by decide) (by decide) rfl rfl ?_
              intro v130 vm130 T130 h130 L130 X130 V130 Q130
              rcases Q130 with Q130 | Q130
              · obtain ⟨rfl, hE130⟩ := Q130
                refine Own.s_ifF X130 at_142 ((if0 _ _).trans (feq (show ¬ (1 : Int32) = (0 : Int32) by decide)).1) rfl ?_
                refine Own.s_iconst X130 at_145 (1 : Int32) (by decide) rfl ?_
                refine Own.s_goto X130 at_146 (by decide) (pc' := 150) (by decide) ?_
                refine Own.s_istore X130 at_150 #[.val (.int p0), .val (.int p1), .val (.int p2), .val (.int p3), .val (.int p4), .val (.int (p0 &&& (3 : Int32))), .val (.int ((XT.ushr p0 (2 : Int32)) &&& (3 : Int32))), .val (.int ((XT.ushr p0 (4 : Int32)) &&& (3 : Int32))), .val (.int ((XT.ushr p0 (6 : Int32)) &&& (3 : Int32))), .val (.int p2), .val (.int p3), .val (.ref b92), .val (.int (0 : Int32)), .val (.int (1 : Int32)), .val (.int (1 : Int32))] rfl rfl ?_
                refine Own.s_iload X130 at_152 rfl rfl ?_
                refine Own.s_iload X130 at_154 rfl rfl ?_
                refine Own.s_ifF X130 at_156 ((if0 _ _).trans (feq (show ¬ (1 : Int32) = (0 : Int32) by decide)).1) rfl ?_
                refine Own.s_iload X130 at_159 rfl rfl ?_
                refine Own.s_ifF X130 at_161 ((if0 _ _).trans (feq (show ¬ (1 : Int32) = (0 : Int32) by decide)).1) rfl ?_
                refine Own.s_iconst X130 at_164 (1 : Int32) (by decide) rfl ?_
                refine Own.s_goto X130 at_165 (by decide) (pc' := 169) (by decide) ?_
                refine Own.s_icmpT X130 at_169 (feq (show ¬ (0 : Int32) = (1 : Int32) by decide)).2 (by decide) (pc' := 176) (by decide) ?_
                refine Own.s_iconst X130 at_176 (0 : Int32) (by decide) rfl ?_
                exact Own.r_nar X130 rfl (Or.inl rfl) at_177 (by decide) (by decide) (absurd ⟨Or.inr (Or.inl (own_mk1 hc104_128)), Or.inr hE130⟩ hA113)
              · obtain ⟨rfl, hE130⟩ := Q130
                refine Own.s_ifT X130 at_142 ((if0 _ _).trans (teq (show (0 : Int32) = (0 : Int32) by decide)).1) (by decide) (pc' := 149) (by decide) ?_
                refine Own.s_iconst X130 at_149 (0 : Int32) (by decide) rfl ?_
                refine Own.s_istore X130 at_150 #[.val (.int p0), .val (.int p1), .val (.int p2), .val (.int p3), .val (.int p4), .val (.int (p0 &&& (3 : Int32))), .val (.int ((XT.ushr p0 (2 : Int32)) &&& (3 : Int32))), .val (.int ((XT.ushr p0 (4 : Int32)) &&& (3 : Int32))), .val (.int ((XT.ushr p0 (6 : Int32)) &&& (3 : Int32))), .val (.int p2), .val (.int p3), .val (.ref b92), .val (.int (0 : Int32)), .val (.int (1 : Int32)), .val (.int (0 : Int32))] rfl rfl ?_
                refine Own.s_iload X130 at_152 rfl rfl ?_
                refine Own.s_iload X130 at_154 rfl rfl ?_
                refine Own.s_ifF X130 at_156 ((if0 _ _).trans (feq (show ¬ (1 : Int32) = (0 : Int32) by decide)).1) rfl ?_
                refine Own.s_iload X130 at_159 rfl rfl ?_
                refine Own.s_ifT X130 at_161 ((if0 _ _).trans (teq (show (0 : Int32) = (0 : Int32) by decide)).1) (by decide) (pc' := 168) (by decide) ?_
                refine Own.s_iconst X130 at_168 (0 : Int32) (by decide) rfl ?_
                refine Own.s_icmpF X130 at_169 (teq (show (0 : Int32) = (0 : Int32) by decide)).2 rfl ?_
                refine Own.s_iconst X130 at_172 (1 : Int32) (by decide) rfl ?_
                refine Own.s_goto X130 at_173 (by decide) (pc' := 177) (by decide) ?_
                exact Own.r_nar X130 rfl (Or.inl rfl) at_177 (by decide) (by decide) (by decide)
          · refine Own.s_icmpF X113 at_104 (feq hc104_128).1 rfl ?_
            refine Own.s_iload X113 at_107 rfl rfl ?_
            refine Own.s_iloadN X113 at_109 rfl rfl ?_
            refine Own.s_iload X113 at_110 rfl rfl ?_
            refine Own.s_iload X113 at_112 rfl rfl ?_
            refine Own.c_static X113 at_114 (tw62 hw) (tw63 hw) (tw5 hw) (tw64 hw) (by decide) [(.int (p0 &&& (3 : Int32))), (.int p1), (.int ((XT.ushr p0 (2 : Int32)) &&& (3 : Int32))), (.int p2)] [] 0 (rm_eq hw (p0 &&& (3 : Int32)) p1 ((XT.ushr p0 (2 : Int32)) &&& (3 : Int32)) p2 hc98_125 h113 X113.hE) (fun q => nomatch q) Own.Ok.nil (lenOf pd_14 rfl) rfl (Nat.le_of_eq rfl) (by decide) (by decide) (by decide) (by decide) rfl rfl ?_
            intro v131 vm131 T131 h131 L131 X131 V131 Q131
            rcases Q131 with Q131 | Q131
            · obtain ⟨rfl, hE131⟩ := Q131
              refine Own.s_ifF X131 at_117 ((if0 _ _).trans (feq (show ¬ (1 : Int32) = (0 : Int32) by decide)).1) rfl ?_
              refine Own.s_iconst X131 at_120 (1 : Int32) (by decide) rfl ?_
              refine Own.s_goto X131 at_121 (by decide) (pc' := 125) (by decide) ?_
              refine Own.s_istore X131 at_125 #[.val (.int p0), .val (.int p1), .val (.int p2), .val (.int p3), .val (.int p4), .val (.int (p0 &&& (3 : Int32))), .val (.int ((XT.ushr p0 (2 : Int32)) &&& (3 : Int32))), .val (.int ((XT.ushr p0 (4 : Int32)) &&& (3 : Int32))), .val (.int ((XT.ushr p0 (6 : Int32)) &&& (3 : Int32))), .val (.int p2), .val (.int p3), .val (.ref b92), .val (.int (0 : Int32)), .val (.int (1 : Int32)), .unset] rfl rfl ?_
              refine Own.s_iload X131 at_127 rfl rfl ?_
              by_cases hc129_132 : ((XT.ushr p0 (4 : Int32)) &&& (3 : Int32)) = (0 : Int32)
              · refine Own.s_ifT X131 at_129 ((if0 _ _).trans (teq hc129_132).1) (by decide) (pc' := 145) (by decide) ?_
                refine Own.s_iconst X131 at_145 (1 : Int32) (by decide) rfl ?_
                refine Own.s_goto X131 at_146 (by decide) (pc' := 150) (by decide) ?_
                refine Own.s_istore X131 at_150 #[.val (.int p0), .val (.int p1), .val (.int p2), .val (.int p3), .val (.int p4), .val (.int (p0 &&& (3 : Int32))), .val (.int ((XT.ushr p0 (2 : Int32)) &&& (3 : Int32))), .val (.int ((XT.ushr p0 (4 : Int32)) &&& (3 : Int32))), .val (.int ((XT.ushr p0 (6 : Int32)) &&& (3 : Int32))), .val (.int p2), .val (.int p3), .val (.ref b92), .val (.int (0 : Int32)), .val (.int (1 : Int32)), .val (.int (1 : Int32))] rfl rfl ?_
                refine Own.s_iload X131 at_152 rfl rfl ?_
                refine Own.s_iload X131 at_154 rfl rfl ?_
                refine Own.s_ifF X131 at_156 ((if0 _ _).trans (feq (show ¬ (1 : Int32) = (0 : Int32) by decide)).1) rfl ?_
                refine Own.s_iload X131 at_159 rfl rfl ?_
                refine Own.s_ifF X131 at_161 ((if0 _ _).trans (feq (show ¬ (1 : Int32) = (0 : Int32) by decide)).1) rfl ?_
                refine Own.s_iconst X131 at_164 (1 : Int32) (by decide) rfl ?_
                refine Own.s_goto X131 at_165 (by decide) (pc' := 169) (by decide) ?_
                refine Own.s_icmpT X131 at_169 (feq (show ¬ (0 : Int32) = (1 : Int32) by decide)).2 (by decide) (pc' := 176) (by decide) ?_
                refine Own.s_iconst X131 at_176 (0 : Int32) (by decide) rfl ?_
                exact Own.r_nar X131 rfl (Or.inl rfl) at_177 (by decide) (by decide) (absurd ⟨Or.inr (Or.inr hE131), Or.inl (own_mk0 hc129_132)⟩ hA113)
              · refine Own.s_ifF X131 at_129 ((if0 _ _).trans (feq hc129_132).1) rfl ?_
                refine Own.s_iload X131 at_132 rfl rfl ?_
                refine Own.s_iloadN X131 at_134 rfl rfl ?_
                refine Own.s_iload X131 at_135 rfl rfl ?_
                refine Own.s_iload X131 at_137 rfl rfl ?_
                refine Own.c_static X131 at_139 (tw62 hw) (tw63 hw) (tw5 hw) (tw64 hw) (by decide) [(.int ((XT.ushr p0 (4 : Int32)) &&& (3 : Int32))), (.int p3), (.int ((XT.ushr p0 (6 : Int32)) &&& (3 : Int32))), (.int p3)] [] 0 (rm_eq hw ((XT.ushr p0 (4 : Int32)) &&& (3 : Int32)) p3 ((XT.ushr p0 (6 : Int32)) &&& (3 : Int32)) p3 hc129_132 h131 X131.hE) (fun q => nomatch q) Own.Ok.nil (lenOf pd_14 rfl) rfl (Nat.le_of_eq rfl) (by decide) (by decide) (by decide) (by decide) rfl rfl ?_
                intro v133 vm133 T133 h133 L133 X133 V133 Q133
                rcases Q133 with Q133 | Q133
                · obtain ⟨rfl, hE133⟩ := Q133
                  refine Own.s_ifF X133 at_142 ((if0 _ _).trans (feq (show ¬ (1 : Int32) = (0 : Int32) by decide)).1) rfl ?_
                  refine Own.s_iconst X133 at_145 (1 : Int32) (by decide) rfl ?_
                  refine Own.s_goto X133 at_146 (by decide) (pc' := 150) (by decide) ?_
                  refine Own.s_istore X133 at_150 #[.val (.int p0), .val (.int p1), .val (.int p2), .val (.int p3), .val (.int p4), .val (.int (p0 &&& (3 : Int32))), .val (.int ((XT.ushr p0 (2 : Int32)) &&& (3 : Int32))), .val (.int ((XT.ushr p0 (4 : Int32)) &&& (3 : Int32))), .val (.int ((XT.ushr p0 (6 : Int32)) &&& (3 : Int32))), .val (.int p2), .val (.int p3), .val (.ref b92), .val (.int (0 : Int32)), .val (.int (1 : Int32)), .val (.int (1 : Int32))] rfl rfl ?_
                  refine Own.s_iload X133 at_152 rfl rfl ?_
                  refine Own.s_iload X133 at_154 rfl rfl ?_
                  refine Own.s_ifF X133 at_156 ((if0 _ _).trans (feq (show ¬ (1 : Int32) = (0 : Int32) by decide)).1) rfl ?_
                  refine Own.s_iload X133 at_159 rfl rfl ?_
                  refine Own.s_ifF X133 at_161 ((if0 _ _).trans (feq (show ¬ (1 : Int32) = (0 : Int32) by decide)).1) rfl ?_
                  refine Own.s_iconst X133 at_164 (1 : Int32) (by decide) rfl ?_
                  refine Own.s_goto X133 at_165 (by decide) (pc' := 169) (by decide) ?_
                  refine Own.s_icmpT X133 at_169 (feq (show ¬ (0 : Int32) = (1 : Int32) by decide)).2 (by decide) (pc' := 176) (by decide) ?_
                  refine Own.s_iconst X133 at_176 (0 : Int32) (by decide) rfl ?_
                  exact Own.r_nar X133 rfl (Or.inl rfl) at_177 (by decide) (by decide) (absurd ⟨Or.inr (Or.inr hE131), Or.inr hE133⟩ hA113)
                · obtain ⟨rfl, hE133⟩ := Q133
                  refine Own.s_ifT X133 at_142 ((if0 _ _).trans (teq (show (0 : Int32) = (0 : Int32) by decide)).1) (by decide) (pc' := 149) (by decide) ?_
                  refine Own.s_iconst X133 at_149 (0 : Int32) (by decide) rfl ?_
                  refine Own.s_istore X133 at_150 #[.val (.int p0), .val (.int p1), .val (.int p2), .val (.int p3), .val (.int p4), .val (.int (p0 &&& (3 : Int32))), .val (.int ((XT.ushr p0 (2 : Int32)) &&& (3 : Int32))), .val (.int ((XT.ushr p0 (4 : Int32)) &&& (3 : Int32))), .val (.int ((XT.ushr p0 (6 : Int32)) &&& (3 : Int32))), .val (.int p2), .val (.int p3), .val (.ref b92), .val (.int (0 : Int32)), .val (.int (1 : Int32)), .val (.int (0 : Int32))] rfl rfl ?_
                  refine Own.s_iload X133 at_152 rfl rfl ?_
                  refine Own.s_iload X133 at_154 rfl rfl ?_
                  refine Own.s_ifF X133 at_156 ((if0 _ _).trans (feq (show ¬ (1 : Int32) = (0 : Int32) by decide)).1) rfl ?_
                  refine Own.s_iload X133 at_159 rfl rfl ?_
                  refine Own.s_ifT X133 at_161 ((if0 _ _).trans (teq (show (0 : Int32) = (0 : Int32) by decide)).1) (by decide) (pc' := 168) (by decide) ?_
                  refine Own.s_iconst X133 at_168 (0 : Int32) (by decide) rfl ?_
                  refine Own.s_icmpF X133 at_169 (teq (show (0 : Int32) = (0 : Int32) by decide)).2 rfl ?_
                  refine Own.s_iconst X133 at_172 (1 : Int32) (by decide) rfl ?_
                  refine Own.s_goto X133 at_173 (by decide) (pc' := 177) (by decide) ?_
                  exact Own.r_nar X133 rfl (Or.inl rfl) at_177 (by decide) (by decide) (by decide)
            · obtain ⟨rfl, hE131⟩ := Q131
              refine Own.s_ifT X131 at_117 ((if0 _ _).trans (teq (show (0 : Int32) = (0 : Int32) by decide)).1) (by decide) (pc' := 124) (by decide) ?_
              refine Own.s_iconst X131 at_124 (0 : Int32) (by decide) rfl ?_
              refine Own.s_istore X131 at_125 #[.val (.int p0), .val (.int p1), .val (.int p2), .val (.int p3), .val (.int p4), .val (.int (p0 &&& (3 : Int32))), .val (.int ((XT.ushr p0 (2 : Int32)) &&& (3 : Int32))), .val (.int ((XT.ushr p0 (4 : Int32)) &&& (3 : Int32))), .val (.int ((XT.ushr p0 (6 : Int32)) &&& (3 : Int32))), .val (.int p2), .val (.int p3), .val (.ref b92), .val (.int (0 : Int32)), .val (.int (0 : Int32)), .unset] rfl rfl ?_
              refine Own.s_iload X131 at_127 rfl rfl ?_
              by_cases hc129_134 : ((XT.ushr p0 (4 : Int32)) &&& (3 : Int32)) = (0 : Int32)
              · refine Own.s_ifT X131 at_129 ((if0 _ _).trans (teq hc129_134).1) (by decide) (pc' := 145) (by decide) ?_
                refine Own.s_iconst X131 at_145 (1 : Int32) (by decide) rfl ?_
                refine Own.s_goto X131 at_146 (by decide) (pc' := 150) (by decide) ?_
                refine Own.s_istore X131 at_150 #[.val (.int p0), .val (.int p1), .val (.int p2), .val (.int p3), .val (.int p4), .val (.int (p0 &&& (3 : Int32))), .val (.int ((XT.ushr p0 (2 : Int32)) &&& (3 : Int32))), .val (.int ((XT.ushr p0 (4 : Int32)) &&& (3 : Int32))), .val (.int ((XT.ushr p0 (6 : Int32)) &&& (3 : Int32))), .val (.int p2), .val (.int p3), .val (.ref b92), .val (.int (0 : Int32)), .val (.int (0 : Int32)), .val (.int (1 : Int32))] rfl rfl ?_
                refine Own.s_iload X131 at_152 rfl rfl ?_
                refine Own.s_iload X131 at_154 rfl rfl ?_
                refine Own.s_ifT X131 at_156 ((if0 _ _).trans (teq (show (0 : Int32) = (0 : Int32) by decide)).1) (by decide) (pc' := 168) (by decide) ?_
                refine Own.s_iconst X131 at_168 (0 : Int32) (by decide) rfl ?_
                refine Own.s_icmpF X131 at_169 (teq (show (0 : Int32) = (0 : Int32) by decide)).2 rfl ?_
                refine Own.s_iconst X131 at_172 (1 : Int32) (by decide) rfl ?_
                refine Own.s_goto X131 at_173 (by decide) (pc' := 177) (by decide) ?_
                exact Own.r_nar X131 rfl (Or.inl rfl) at_177 (by decide) (by decide) (by decide)
              · refine Own.s_ifF X131 at_129 ((if0 _ _).trans (feq hc129_134).1) rfl ?_
                refine Own.s_iload X131 at_132 rfl rfl ?_
                refine Own.s_iloadN X131 at_134 rfl rfl ?_
                refine Own.s_iload X131 at_135 rfl rfl ?_
                refine Own.s_iload X131 at_137 rfl rfl ?_
                refine Own.c_static X131 at_139 (tw62 hw) (tw63 hw) (tw5 hw) (tw64 hw) (by decide) [(.int ((XT.ushr p0 (4 : Int32)) &&& (3 : Int32))), (.int p3), (.int ((XT.ushr p0 (6 : Int32)) &&& (3 : Int32))), (.int p3)] [] 0 (rm_eq hw ((XT.ushr p0 (4 : Int32)) &&& (3 : Int32)) p3 ((XT.ushr p0 (6 : Int32)) &&& (3 : Int32)) p3 hc129_134 h131 X131.hE) (fun q => nomatch q) Own.Ok.nil (lenOf pd_14 rfl) rfl (Nat.le_of_eq rfl) (by decide) (by decide) (by decide) (by decide) rfl rfl ?_
                intro v135 vm135 T135 h135 L135 X135 V135 Q135
                rcases Q135 with Q135 | Q135
                · obtain ⟨rfl, hE135⟩ := Q135
                  refine Own.s_ifF X135 at_142 ((if0 _ _).trans (feq (show ¬ (1 : Int32) = (0 : Int32) by decide)).1) rfl ?_
                  refine Own.s_iconst X135 at_145 (1 : Int32) (by decide) rfl ?_
                  refine Own.s_goto X135 at_146 (by decide) (pc' := 150) (by decide) ?_
                  refine Own.s_istore X135 at_150 #[.val (.int p0), .val (.int p1), .val (.int p2), .val (.int p3), .val (.int p4), .val (.int (p0 &&& (3 : Int32))), .val (.int ((XT.ushr p0 (2 : Int32)) &&& (3 : Int32))), .val (.int ((XT.ushr p0 (4 : Int32)) &&& (3 : Int32))), .val (.int ((XT.ushr p0 (6 : Int32)) &&& (3 : Int32))), .val (.int p2), .val (.int p3), .val (.ref b92), .val (.int (0 : Int32)), .val (.int (0 : Int32)), .val (.int (1 : Int32))] rfl rfl ?_
                  refine Own.s_iload X135 at_152 rfl rfl ?_
                  refine Own.s_iload X135 at_154 rfl rfl ?_
                  refine Own.s_ifT X135 at_156 ((if0 _ _).trans (teq (show (0 : Int32) = (0 : Int32) by decide)).1) (by decide) (pc' := 168) (by decide) ?_
                  refine Own.s_iconst X135 at_168 (0 : Int32) (by decide) rfl ?_
                  refine Own.s_icmpF X135 at_169 (teq (show (0 : Int32) = (0 : Int32) by decide)).2 rfl ?_
                  refine Own.s_iconst X135 at_172 (1 : Int32) (by decide) rfl ?_
                  refine Own.s_goto X135 at_173 (by decide) (pc' := 177) (by decide) ?_
                  exact Own.r_nar X135 rfl (Or.inl rfl) at_177 (by decide) (by decide) (by decide)
                · obtain ⟨rfl, hE135⟩ := Q135
                  refine Own.s_ifT X135 at_142 ((if0 _ _).trans (teq (show (0 : Int32) = (0 : Int32) by decide)).1) (by decide) (pc' := 149) (by decide) ?_
                  refine Own.s_iconst X135 at_149 (0 : Int32) (by decide) rfl ?_
                  refine Own.s_istore X135 at_150 #[.val (.int p0), .val (.int p1), .val (.int p2), .val (.int p3), .val (.int p4), .val (.int (p0 &&& (3 : Int32))), .val (.int ((XT.ushr p0 (2 : Int32)) &&& (3 : Int32))), .val (.int ((XT.ushr p0 (4 : Int32)) &&& (3 : Int32))), .val (.int ((XT.ushr p0 (6 : Int32)) &&& (3 : Int32))), .val (.int p2), .val (.int p3), .val (.ref b92), .val (.int (0 : Int32)), .val (.int (0 : Int32)), .val (.int (0 : Int32))] rfl rfl ?_
                  refine Own.s_iload X135 at_152 rfl rfl ?_
                  refine Own.s_iload X135 at_154 rfl rfl ?_
                  refine Own.s_ifT X135 at_156 ((if0 _ _).trans (teq (show (0 : Int32) = (0 : Int32) by decide)).1) (by decide) (pc' := 168) (by decide) ?_
                  refine Own.s_iconst X135 at_168 (0 : Int32) (by decide) rfl ?_
                  refine Own.s_icmpF X135 at_169 (teq (show (0 : Int32) = (0 : Int32) by decide)).2 rfl ?_
                  refine Own.s_iconst X135 at_172 (1 : Int32) (by decide) rfl ?_
                  refine Own.s_goto X135 at_173 (by decide) (pc' := 177) (by decide) ?_
                  exact Own.r_nar X135 rfl (Or.inl rfl) at_177 (by decide) (by decide) (by decide)
    · refine Own.s_icmpT X0 at_43 (feq hc43_91).2 (by decide) (pc' := 50) (by decide) ?_
      refine Own.s_iload X0 at_50 rfl rfl ?_
      refine Own.s_istore X0 at_52 #[.val (.int p0), .val (.int p1), .val (.int p2), .val (.int p3), .val (.int p4), .val (.int (p0 &&& (3 : Int32))), .val (.int ((XT.ushr p0 (2 : Int32)) &&& (3 : Int32))), .val (.int ((XT.ushr p0 (4 : Int32)) &&& (3 : Int32))), .val (.int ((XT.ushr p0 (6 : Int32)) &&& (3 : Int32))), .val (.int p2), .val (.int p4), .unset, .unset, .unset, .unset] rfl rfl ?_
      refine Own.s_new X0 at_54 (tw0 hw) (tw1 hw) (tw2 hw) (by decide) (by decide) rfl ?_
      intro b136 T136 h136 X136 V136 g136 E136 O136 D136
      have F136_format : Fld Z h136 b136 "com/example/fedweave/fedweave/AuthnRequest$NameIdPolicy" "format" "Ljava/lang/String;" (.null) := D136 (Or.inr (tw19 hw)) (ty := (.object "java/lang/String")) (by decide)
      have F136_spNameQualifier : Fld Z h136 b136 "com/example/fedweave/fedweave/AuthnRequest$NameIdPolicy" "spNameQualifier" "Ljava/lang/String;" (.null) := D136 (Or.inr (tw21 hw)) (ty := (.object "java/lang/String")) (by decide)
      refine Own.s_dup X136 at_57 rfl rfl ?_
      refine Own.s_iload X136 at_58 rfl rfl ?_
      refine Own.s_iloadN X136 at_60 rfl rfl ?_
      refine Own.c_static X136 at_61 (tw3 hw) (tw4 hw) (tw5 hw) (tw6 hw) (by decide) [(.int (p0 &&& (3 : Int32))), (.int p1)] [(.ref b136), (.ref b136)] 2 (rm_make hw (p0 &&& (3 : Int32)) p1 SC hzc SF hfm h136 X136.hE) (fun _ => rfl) Own.Ok.nil (lenOf pd_11 rfl) rfl (Nat.le_of_eq rfl) (by decide) (by decide) (by decide) (by decide) rfl rfl ?_
      intro v137 vm137 T137 h137 L137 X137 V137 Q137
      obtain ⟨u137, rfl, M137⟩ := Q137
      have q137 := M137.isRef
      refine Own.s_iload X137 at_64 rfl rfl ?_
      refine Own.s_iloadN X137 at_66 rfl rfl ?_
      refine Own.c_static X137 at_67 (tw3 hw) (tw4 hw) (tw5 hw) (tw6 hw) (by decide) [(.int ((XT.ushr p0 (4 : Int32)) &&& (3 : Int32))), (.int p3)] [u137, (.ref b136), (.ref b136)] 3 (rm_make hw ((XT.ushr p0 (4 : Int32)) &&& (3 : Int32)) p3 SC hzc SF hfm h137 X137.hE) (fun _ => rfl) Own.Ok.nil (lenOf pd_11 rfl) rfl (by rcases ref_cases q137 with rfl | ⟨_, rfl⟩ <;>  exact Nat.le_of_eq rfl) (by decide) (by decide) (by decide) (by decide) rfl rfl ?_
      intro v138 vm138 T138 h138 L138 X138 V138 Q138
      obtain ⟨u138, rfl, M138⟩ := Q138
      have q138 := M138.isRef
      have ex139 : Ext h136 h137 := Own.extK (Own.Ext.rfl' h136) V137.1 all0
      have ex140 : Ext h136 h138 := Own.extK ex139 V138.1 all0
      have F_141 := Fld.ext ex140 F136_format
      have F_142 := Fld.ext ex140 F136_spNameQualifier
      have E_143 := Exa.ext ex140 E136
      have O144 := ((O136.ev V137).ev V138)
      refine Own.c_special X138 at_70 rfl (tw7 hw) (tw8 hw) (tw2 hw) (tw9 hw) (by decide) b136 [u137, u138] [(.ref b136)] 1 (rm_np hw b136 u137 q137 u138 q138  h138 X138.hE O144.2.1 E_143 F_141 F_142 ) (fun q => nomatch q) (Own.Ok.one O144) (lenOf pd_12 rfl) rfl (Nat.le_of_eq rfl) (by decide) (by decide) (by decide) (by decide) rfl rfl ?_
      intro v145 vm145 T145 h145 L145 X145 V145 Q145
      obtain ⟨rfl, E145, F145_0, F145_1⟩ := Q145
      refine Own.s_astore X145 at_73 rfl #[.val (.int p0), .val (.int p1), .val (.int p2), .val (.int p3), .val (.int p4), .val (.int (p0 &&& (3 : Int32))), .val (.int ((XT.ushr p0 (2 : Int32)) &&& (3 : Int32))), .val (.int ((XT.ushr p0 (4 : Int32)) &&& (3 : Int32))), .val (.int ((XT.ushr p0 (6 : Int32)) &&& (3 : Int32))), .val (.int p2), .val (.int p4), .val (.ref b136), .unset, .unset, .unset] rfl rfl ?_
      refine Own.s_aload X145 at_75 rfl rfl rfl ?_
      refine Own.s_iload X145 at_77 rfl rfl ?_
      refine Own.s_iload X145 at_79 rfl rfl ?_
      refine Own.c_static X145 at_81 (tw3 hw) (tw4 hw) (tw5 hw) (tw6 hw) (by decide) [(.int ((XT.ushr p0 (2 : Int32)) &&& (3 : Int32))), (.int p2)] [(.ref b136)] 1 (rm_make hw ((XT.ushr p0 (2 : Int32)) &&& (3 : Int32)) p2 SC hzc SF hfm h145 X145.hE) (fun _ => rfl) Own.Ok.nil (lenOf pd_11 rfl) rfl (Nat.le_of_eq rfl) (by decide) (by decide) (by decide) (by decide) rfl rfl ?_
      intro v146 vm146 T146 h146 L146 X146 V146 Q146
      obtain ⟨u146, rfl, M146⟩ := Q146
      have q146 := M146.isRef
      refine Own.s_iload X146 at_84 rfl rfl ?_
      refine Own.s_iload X146 at_86 rfl rfl ?_
      refine Own.c_static X146 at_88 (tw3 hw) (tw4 hw) (tw5 hw) (tw6 hw) (by decide) [(.int ((XT.ushr p0 (6 : Int32)) &&& (3 : Int32))), (.int p4)] [u146, (.ref b136)] 2 (rm_make hw ((XT.ushr p0 (6 : Int32)) &&& (3 : Int32)) p4 SC hzc SF hfm h146 X146.hE) (fun _ => rfl) Own.Ok.nil (lenOf pd_11 rfl) rfl (by rcases ref_cases q146 with rfl | ⟨_, rfl⟩ <;>  exact Nat.le_of_eq rfl) (by decide) (by decide) (by decide) (by decide) rfl rfl ?_
      intro v147 vm147 T147 h147 L147 X147 V147 Q147
      obtain ⟨u147, rfl, M147⟩ := Q147
      have q147 := M147.isRef
      have ex148 : Ext h145 h146 := Own.extK (Own.Ext.rfl' h145) V146.1 all0
      have ex149 : Ext h145 h147 := Own.extK ex148 V147.1 all0
      have E_150 := Exa.ext ex149 E145
      have F_151 := Fld.ext ex149 F145_0
      have F_152 := Fld.ext ex149 F145_1
      have M_153 := (Own.NStr.ext (Own.NStr.ext (Own.NStr.keepE (Own.NStr.ext M137 (Own.extN V138.1)) V145.1 E_143 (by decide) (tw1 hw)) (Own.extN V146.1)) (Own.extN V147.1))
      have M_154 := (Own.NStr.ext (Own.NStr.ext (Own.NStr.keepE M138 V145.1 E_143 (by decide) (tw1 hw)) (Own.extN V146.1)) (Own.extN V147.1))
      have ex155 : Ext h146 h147 := Own.extK (Own.Ext.rfl' h146) V147.1 all0
      have M_156 := Own.NStr.ext M146 ex155
      refine Own.c_virtual X147 at_91 (tw22 hw) (tw23 hw) (notFace_of_selects (args := #[]) (mvT X147.hZ (tw25 hw))) (tw25 hw) (tw24 hw) (tw2 hw) (tw26 hw) (by decide) b136 [u146, u147] [] 0 E_150 (rm_allows hw b136 u137 u138 u146 u147 (own_mk (p0 &&& (3 : Int32)) p1) (own_mk ((XT.ushr p0 (4 : Int32)) &&& (3 : Int32)) p3) (own_mk ((XT.ushr p0 (2 : Int32)) &&& (3 : Int32)) p2) (own_mk ((XT.ushr p0 (6 : Int32)) &&& (3 : Int32)) p4) q137 q138 q146 q147 SC hzc SF hfm h147 X147.hE E_150 F_151 F_152 M_153 M_154 M_156 M147) (fun _ => rfl) Own.Ok.nil (lenOf pd_13 rfl) rfl (Nat.le_of_eq rfl) (by decide) (by decide) (by decide) (by decide) rfl rfl ?_
      intro v157 vm157 T157 h157 L157 X157 V157 Q157
      rcases Q157 with Q157 | Q157
      · obtain ⟨rfl, hA157⟩ := Q157
        refine Own.s_istore X157 at_94 #[.val (.int p0), .val (.int p1), .val (.int p2), .val (.int p3), .val (.int p4), .val (.int (p0 &&& (3 : Int32))), .val (.int ((XT.ushr p0 (2 : Int32)) &&& (3 : Int32))), .val (.int ((XT.ushr p0 (4 : Int32)) &&& (3 : Int32))), .val (.int ((XT.ushr p0 (6 : Int32)) &&& (3 : Int32))), .val (.int p2), .val (.int p4), .val (.ref b136), .val (.int (1 : Int32)), .unset, .unset] rfl rfl ?_
        refine Own.s_iload X157 at_96 rfl rfl ?_
        by_cases hc98_158 : (p0 &&& (3 : Int32)) = (0 : Int32)
        · refine Own.s_ifT X157 at_98 ((if0 _ _).trans (teq hc98_158).1) (by decide) (pc' := 120) (by decide) ?_
          refine Own.s_iconst X157 at_120 (1 : Int32) (by decide) rfl ?_
          refine Own.s_goto X157 at_121 (by decide) (pc' := 125) (by decide) ?_
          refine Own.s_istore X157 at_125 #[.val (.int p0), .val (.int p1), .val (.int p2), .val (.int p3), .val (.int p4), .val (.int (p0 &&& (3 : Int32))), .val (.int ((XT.ushr p0 (2 : Int32)) &&& (3 : Int32))), .val (.int ((XT.ushr p0 (4 : Int32)) &&& (3 : Int32))), .val (.int ((XT.ushr p0 (6 : Int32)) &&& (3 : Int32))), .val (.int p2), .val (.int p4), .val (.ref b136), .val (.int (1 : Int32)), .val (.int (1 : Int32)), .unset] rfl rfl ?_
          refine Own.s_iload X157 at_127 rfl rfl ?_
          by_cases hc129_159 : ((XT.ushr p0 (4 : Int32)) &&& (3 : Int32)) = (0 : Int32)
          · refine Own.s_ifT X157 at_129 ((if0 _ _).trans (teq hc129_159).1) (by decide) (pc' := 145) (by decide) ?_
            refine Own.s_iconst X157 at_145 (1 : Int32) (by decide) rfl ?_
            refine Own.s_goto X157 at_146 (by decide) (pc' := 150) (by decide) ?_
            refine Own.s_istore X157 at_150 #[.val (.int p0), .val (.int p1), .val (.int p2), .val (.int p3), .val (.int p4), .val (.int (p0 &&& (3 : Int32))), .val (.int ((XT.ushr p0 (2 : Int32)) &&& (3 : Int32))), .val (.int ((XT.ushr p0 (4 : Int32)) &&& (3 : Int32))), .val (.int ((XT.ushr p0 (6 : Int32)) &&& (3 : Int32))), .val (.int p2), .val (.int p4), .val (.ref b136), .val (.int (1 : Int32)), .val (.int (1 : Int32)), .val (.int (1 : Int32))] rfl rfl ?_
            refine Own.s_iload X157 at_152 rfl rfl ?_
            refine Own.s_iload X157 at_154 rfl rfl ?_
            refine Own.s_ifF X157 at_156 ((if0 _ _).trans (feq (show ¬ (1 : Int32) = (0 : Int32) by decide)).1) rfl ?_
            refine Own.s_iload X157 at_159 rfl rfl ?_
            refine Own.s_ifF X157 at_161 ((if0 _ _).trans (feq (show ¬ (1 : Int32) = (0 : Int32) by decide)).1) rfl ?_
            refine Own.s_iconst X157 at_164 (1 : Int32) (by decide) rfl ?_
            refine Own.s_goto X157 at_165 (by decide) (pc' := 169) (by decide) ?_
            refine Own.s_icmpF X157 at_169 (teq (show (1 : Int32) = (1 : Int32) by decide)).2 rfl ?_
            refine Own.s_iconst X157 at_172 (1 : Int32) (by decide) rfl ?_
            refine Own.s_goto X157 at_173 (by decide) (pc' := 177) (by decide) ?_
            exact Own.r_nar X157 rfl (Or.inl rfl) at_177 (by decide) (by decide) (by decide)
          · refine Own.s_ifF X157 at_129 ((if0 _ _).trans (feq hc129_159).1) rfl ?_
            refine Own.s_iload X157 at_132 rfl rfl ?_
            refine Own.s_iloadN X157 at_134 rfl rfl ?_
            refine Own.s_iload X157 at_135 rfl rfl ?_
            refine Own.s_iload X157 at_137 rfl rfl ?_
            refine Own.c_static X157 at_139 (tw62 hw) (tw63 hw) (tw5 hw) (tw64 hw) (by decide) [(.int ((XT.ushr p0 (4 : Int32)) &&& (3 : Int32))), (.int p3), (.int ((XT.ushr p0 (6 : Int32)) &&& (3 : Int32))), (.int p4)] [] 0 (rm_eq hw ((XT.ushr p0 (4 : Int32)) &&& (3 : Int32)) p3 ((XT.ushr p0 (6 : Int32)) &&& (3 : Int32)) p4 hc129_159 h157 X157.hE) (fun q => nomatch q) Own.Ok.nil (lenOf pd_14 rfl) rfl (Nat.le_of_eq rfl) (by decide) (by decide) (by decide) (by decide) rfl rfl ?_
            intro v160 vm160 T160 h160 L160 X160 V160 Q160
            rcases Q160 with Q160 | Q160
            · obtain ⟨rfl, hE160⟩ := Q160
              refine Own.s_ifF X160 at_142 ((if0 _ _).trans (feq (show ¬ (1 : Int32) = (0 : Int32) by decide)).1) rfl ?_
              refine Own.s_iconst X160 at_145 (1 : Int32) (by decide) rfl ?_
              refine Own.s_goto X160 at_146 (by decide) (pc' := 150) (by decide) ?_
              refine Own.s_istore X160 at_150 #[.val (.int p0), .val (.int p1), .val (.int p2), .val (.int p3), .val (.int p4), .val (.int (p0 &&& (3 : Int32))), .val (.int ((XT.ushr p0 (2 : Int32)) &&& (3 : Int32))), .val (.int ((XT.ushr p0 (4 : Int32)) &&& (3 : Int32))), .val (.int ((XT.ushr p0 (6 : Int32)) &&& (3 : Int32))), .val (.int p2), .val (.int p4), .val (.ref b136), .val (.int (1 : Int32)), .val (.int (1 : Int32)), .val (.int (1 : Int32))] rfl rfl ?_
              refine Own.s_iload X160 at_152 rfl rfl ?_
              refine Own.s_iload X160 at_154 rfl rfl ?_
              refine Own.s_ifF X160 at_156 ((if0 _ _).trans (feq (show ¬ (1 : Int32) = (0 : Int32) by decide)).1) rfl ?_
              refine Own.s_iload X160 at_159 rfl rfl ?_
              refine Own.s_ifF X160 at_161 ((if0 _ _).trans (feq (show ¬ (1 : Int32) = (0 : Int32) by decide)).1) rfl ?_
              refine Own.s_iconst X160 at_164 (1 : Int32) (by decide) rfl ?_
              refine Own.s_goto X160 at_165 (by decide) (pc' := 169) (by decide) ?_
              refine Own.s_icmpF X160 at_169 (teq (show (1 : Int32) = (1 : Int32) by decide)).2 rfl ?_
              refine Own.s_iconst X160 at_172 (1 : Int32) (by decide) rfl ?_
              refine Own.s_goto X160 at_173 (by decide) (pc' := 177) (by decide) ?_
              exact Own.r_nar X160 rfl (Or.inl rfl) at_177 (by decide) (by decide) (by decide)
            · obtain ⟨rfl, hE160⟩ := Q160
              refine Own.s_ifT X160 at_142 ((if0 _ _).trans (teq (show (0 : Int32) = (0 : Int32) by decide)).1) (by decide) (pc' := 149) (by decide) ?_
              refine Own.s_iconst X160 at_149 (0 : Int32) (by decide) rfl ?_
              refine Own.s_istore X160 at_150 #[.val (.int p0), .val (.int p1), .val (.int p2), .val (.int p3), .val (.int p4), .val (.int (p0 &&& (3 : Int32))), .val (.int ((XT.ushr p0 (2 : Int32)) &&& (3 : Int32))), .val (.int ((XT.ushr p0 (4 : Int32)) &&& (3 : Int32))), .val (.int ((XT.ushr p0 (6 : Int32)) &&& (3 : Int32))), .val (.int p2), .val (.int p4), .val (.ref b136), .val (.int (1 : Int32)), .val (.int (1 : Int32)), .val (.int (0 : Int32))] rfl rfl ?_
              refine Own.s_iload X160 at_152 rfl rfl ?_
              refine Own.s_iload X160 at_154 rfl rfl ?_
              refine Own.s_ifF X160 at_156 ((if0 _ _).trans (feq (show ¬ (1 : Int32) = (0 : Int32) by decide)).1) rfl ?_
              refine Own.s_iload X160 at_159 rfl rfl ?_
              refine Own.s_ifT X160 at_161 ((if0 _ _).trans (teq (show (0 : Int32) = (0 : Int32) by decide)).1) (by decide) (pc' := 168) (by decide) ?_
              refine Own.s_iconst X160 at_168 (0 : Int32) (by decide) rfl ?_
              refine Own.s_icmpT X160 at_169 (feq (show ¬ (1 : Int32) = (0 : Int32) by decide)).2 (by decide) (pc' := 176) (by decide) ?_
              refine Own.s_iconst X160 at_176 (0 : Int32) (by decide) rfl ?_
              exact Own.r_nar X160 rfl (Or.inl rfl) at_177 (by decide) (by decide) (absurd hA157.2 (own_notS hc129_159 hE160))
        · refine Own.s_ifF X157 at_98 ((if0 _ _).trans (feq hc98_158).1) rfl ?_
          refine Own.s_iload X157 at_101 rfl rfl ?_
          refine Own.s_iconst X157 at_103 (1 : Int32) (by decide) rfl ?_
          by_cases hc104_161 : (p0 &&& (3 : Int32)) = (1 : Int32)
          · refine Own.s_icmpT X157 at_104 (teq hc104_161).1 (by decide) (pc' := 120) (by decide) ?_
            refine Own.s_iconst X157 at_120 (1 : Int32) (by decide) rfl ?_
            refine Own.s_goto X157 at_121 (by decide) (pc' := 125) (by decide) ?_
            refine Own.s_istore X157 at_125 #[.val (.int p0), .val (.int p1), .val (.int p2), .val (.int p3), .val (.int p4), .val (.int (p0 &&& (3 : Int32))), .val (.int ((XT.ushr p0 (2 : Int32)) &&& (3 : Int32))), .val (.int ((XT.ushr p0 (4 : Int32)) &&& (3 : Int32))), .val (.int ((XT.ushr p0 (6 : Int32)) &&& (3 : Int32))), .val (.int p2), .val (.int p4), .val (.ref b136), .val (.int (1 : Int32)), .val (.int (1 : Int32)), .unset] rfl rfl ?_
            refine Own.s_iload X157 at_127 rfl rfl ?_
            by_cases hc129_162 : ((XT.ushr p0 (4 : Int32)) &&& (3 : Int32)) = (0 : Int32)
            · refine Own.s_ifT X157 at_129 ((if0 _ _).trans (teq hc129_162).1) (by decide) (pc' := 145) (by decide) ?_
              refine Own.s_iconst X157 at_145 (1 : Int32) (by decide) rfl ?_
              refine Own.s_goto X157 at_146 (by decide) (pc' := 150) (by decide) ?_
              refine Own.s_istore X157 at_150 #[.val (.int p0), .val (.int p1), .val (.int p2), .val (.int p3), .val (.int p4), .val (.int (p0 &&& (3 : Int32))), .val (.int ((XT.ushr p0 (2 : Int32)) &&& (3 : Int32))), .val (.int ((XT.ushr p0 (4 : Int32)) &&& (3 : Int32))), .val (.int ((XT.ushr p0 (6 : Int32)) &&& (3 : Int32))), .val (.int p2), .val (.int p4), .val (.ref b136), .val (.int (1 : Int32)), .val (.int (1 : Int32)), .val (.int (1 : Int32))] rfl rfl ?_
              refine Own.s_iload X157 at_152 rfl rfl ?_
              refine Own.s_iload X157 at_154 rfl rfl ?_
              refine Own.s_ifF X157 at_156 ((if0 _ _).trans (feq (show ¬ (1 : Int32) = (0 : Int32) by decide)).1) rfl ?_
              refine Own.s_iload X157 at_159 rfl rfl ?_
              refine Own.s_ifF X157 at_161 ((if0 _ _).trans (feq (show ¬ (1 : Int32) = (0 : Int32) by decide)).1) rfl ?_
              refine Own.s_iconst X157 at_164 (1 : Int32) (by decide) rfl ?_
              refine Own.s_goto X157 at_165 (by decide) (pc' := 169) (by decide) ?_
              refine Own.s_icmpF X157 at_169 (teq (show (1 : Int32) = (1 : Int32) by decide)).2 rfl ?_
              refine Own.s_iconst X157 at_172 (1 : Int32) (by decide) rfl ?_
              refine Own.s_goto X157 at_173 (by decide) (pc' := 177) (by decide) ?_
              exact Own.r_nar X157 rfl (Or.inl rfl) at_177 (by decide) (by decide) (by decide)
            · refine Own.s_ifF X157 at_129 ((if0 _ _).trans (feq hc129_162).1) rfl ?_
              refine Own.s_iload X157 at_132 rfl rfl ?_
              refine Own.s_iloadN X157 at_134 rfl rfl ?_
              refine Own.s_iload X157 at_135 rfl rfl ?_
              refine Own.s_iload X157 at_137 rfl rfl ?_
              refine Own.c_static X157 at_139 (tw62 hw) (tw63 hw) (tw5 hw) (tw64 hw) (by decide) [(.int ((XT.ushr p0 (4 : Int32)) &&& (3 : Int32))), (.int p3), (.int ((XT.ushr p0 (6 : Int32)) &&& (3 : Int32))), (.int p4)] [] 0 (rm_eq hw ((XT.ushr p0 (4 : Int32)) &&& (3 : Int32)) p3 ((XT.ushr p0 (6 : Int32)) &&& (3 : Int32)) p4 hc129_162 h157 X157.hE) (fun q => nomatch q) Own.Ok.nil (lenOf pd_14 rfl) rfl (Nat.le_of_eq rfl) (by decide) (by decide) (by decide) (by decide) rfl rfl ?_
              intro v163 vm163 T163 h163 L163 X163 V163 Q163
              rcases Q163 with Q163 | Q163
              · obtain ⟨rfl, hE163⟩ := Q163
                refine Own.s_ifF X163 at_142 ((if0 _ _).trans (feq (show ¬ (1 : Int32) = (0 : Int32) by decide)).1) rfl ?_
                refine Own.s_iconst X163 at_145 (1 : Int32) (by decide) rfl ?_
                refine Own.s_goto X163 at_146 (by decide) (pc' := 150) (by decide) ?_
                refine Own.s_istore X163 at_150 #[.val (.int p0), .val (.int p1), .val (.int p2), .val (.int p3), .val (.int p4), .val (.int (p0 &&& (3 : Int32))), .val (.int ((XT.ushr p0 (2 : Int32)) &&& (3 : Int32))), .val (.int ((XT.ushr p0 (4 : Int32)) &&& (3 : Int32))), .val (.int ((XT.ushr p0 (6 : Int32)) &&& (3 : Int32))), .val (.int p2), .val (.int p4), .val (.ref b136), .val (.int (1 : Int32)), .val (.int (1 : Int32)), .val (.int (1 : Int32))] rfl rfl ?_
                refine Own.s_iload X163 at_152 rfl rfl ?_
                refine Own.s_iload X163 at_154 rfl rfl ?_
                refine Own.s_ifF X163 at_156 ((if0 _ _).trans (feq (show ¬ (1 : Int32) = (0 : Int32) by decide)).1) rfl ?_
                refine Own.s_iload X163 at_159 rfl rfl ?_
                refine Own.s_ifF X163 at_161 ((if0 _ _).trans (feq (show ¬ (1 : Int32) = (0 : Int32) by decide)).1) rfl ?_
                refine Own.s_iconst X163 at_164 (1 : Int32) (by decide) rfl ?_
                refine Own.s_goto X163 at_165 (by decide) (pc' := 169) (by decide) ?_
                refine Own.s_icmpF X163 at_169 (teq (show (1 : Int32) = (1 : Int32) by decide)).2 rfl ?_
                refine Own.s_iconst X163 at_172 (1 : Int32) (by decide) rfl ?_
                refine Own.s_goto X163 at_173 (by decide) (pc' := 177) (by decide) ?_
                exact Own.r_nar X163 rfl (Or.inl rfl) at_177 (by decide) (by decide) (by decide)
              · obtain ⟨rfl, hE163⟩ := Q163
                refine Own.s_ifT X163 at_142 ((if0 _ _).trans (teq (show (0 : Int32) = (0 : Int32) by decide)).1) (by decide) (pc' := 149) (by decide) ?_
                refine Own.s_iconst X163 at_149 (0 : Int32) (by decide) rfl ?_
                refine Own.s_istore X163 at_150 #[.val (.int p0), .val (.int p1), .val (.int p2), .val (.int p3), .val (.int p4), .val (.int (p0 &&& (3 : Int32))), .val (.int ((XT.ushr p0 (2 : Int32)) &&& (3 : Int32))), .val (.int ((XT.ushr p0 (4 : Int32)) &&& (3 : Int32))), .val (.int ((XT.ushr p0 (6 : Int32)) &&& (3 : Int32))), .val (.int p2), .val (.int p4), .val (.ref b136), .val (.int (1 : Int32)), .val (.int (1 : Int32)), .val (.int (0 : Int32))] rfl rfl ?_
                refine Own.s_iload X163 at_152 rfl rfl ?_
                refine Own.s_iload X163 at_154 rfl rfl ?_
                refine Own.s_ifF X163 at_156 ((if0 _ _).trans (feq (show ¬ (1 : Int32) = (0 : Int32) by decide)).1) rfl ?_
                refine Own.s_iload X163 at_159 rfl rfl ?_
                refine Own.s_ifT X163 at_161 ((if0 _ _).trans (teq (show (0 : Int32) = (0 : Int32) by decide)).1) (by decide) (pc' := 168) (by decide) ?_
                refine Own.s_iconst X163 at_168 (0 : Int32) (by decide) rfl ?_
                refine Own.s_icmpT X163 at_169 (feq (show ¬ (1 : Int32) = (0 : Int32) by decide)).2 (by decide) (pc' := 176) (by decide) ?_
                refine Own.s_iconst X163 at_176 (0 : Int32) (by decide) rfl ?_
                exact Own.r_nar X163 rfl (Or.inl rfl) at_177 (by decide) (by decide) (absurd hA157.2 (own_notS hc129_162 hE163))
          · refine Own.s_icmpF X157 at_104 (feq hc104_161).1 rfl ?_
            refine Own.s_iload X157 at_107 rfl rfl ?_
            refine Own.s_iloadN X157 at_109 rfl rfl ?_
            refine Own.s_iload X157 at_110 rfl rfl ?_
            refine Own.s_iload X157 at_112 rfl rfl ?_
            refine Own.c_static X157 at_114 (tw62 hw) (tw63 hw) (tw5 hw) (tw64 hw) (by decide) [(.int (p0 &&& (3 : Int32))), (.int p1), (.int ((XT.ushr p0 (2 : Int32)) &&& (3 : Int32))), (.int p2)] [] 0 (rm_eq hw (p0 &&& (3 : Int32)) p1 ((XT.ushr p0 (2 : Int32)) &&& (3 : Int32)) p2 hc98_158 h157 X157.hE) (fun q => nomatch q) Own.Ok.nil (lenOf pd_14 rfl) rfl (Nat.le_of_eq rfl) (by decide) (by decide) (by decide) (by decide) rfl rfl ?_
            intro v164 vm164 T164 h164 L164 X164 V164 Q164
            rcases Q164 with Q164 | Q164
            · obtain ⟨rfl, hE164⟩ := Q164
              refine Own.s_ifF X164 at_117 ((if0 _ _).trans (feq (show ¬ (1 : Int32) = (0 : Int32) by decide)).1) rfl ?_
              refine Own.s_iconst X164 at_120 (1 : Int32) (by decide) rfl ?_
              refine Own.s_goto X164 at_121 (by decide) (pc' := 125) (by decide) ?_
              refine Own.s_istore X164 at_125 #[.val (.int p0), .val (.int p1), .val (.int p2), .val (.int p3), .val (.int p4), .val (.int (p0 &&& (3 : Int32))), .val (.int ((XT.ushr p0 (2 : Int32)) &&& (3 : Int32))), .val (.int ((XT.ushr p0 (4 : Int32)) &&& (3 : Int32))), .val (.int ((XT.ushr p0 (6 : Int32)) &&& (3 : Int32))), .val (.int p2), .val (.int p4), .val (.ref b136), .val (.int (1 : Int32)), .val (.int (1 : Int32)), .unset] rfl rfl ?_
              refine Own.s_iload X164 at_127 rfl rfl ?_
              by_cases hc129_165 : ((XT.ushr p0 (4 : Int32)) &&& (3 : Int32)) = (0 : Int32)
              · refine Own.s_ifT X164 at_129 ((if0 _ _).trans (teq hc129_165).1) (by decide) (pc' := 145) (by decide) ?_
                refine Own.s_iconst X164 at_145 (1 : Int32) (by decide) rfl ?_
                refine Own.s_goto X164 at_146 (by decide) (pc' := 150) (by decide) ?_
                refine Own.s_istore X164 at_150 #[.val (.int p0), .val (.int p1), .val (.int p2), .val (.int p3), .val (.int p4), .val (.int (p0 &&& (3 : Int32))), .val (.int ((XT.ushr p0 (2 : Int32)) &&& (3 : Int32))), .val (.int ((XT.ushr p0 (4 : Int32)) &&& (3 : Int32))), .val (.int ((XT.ushr p0 (6 : Int32)) &&& (3 : Int32))), .val (.int p2), .val (.int p4), .val (.ref b136), .val (.int (1 : Int32)), .val (.int (1 : Int32)), .val (.int (1 : Int32))] rfl rfl ?_
                refine Own.s_iload X164 at_152 rfl rfl ?_
                refine Own.s_iload X164 at_154 rfl rfl ?_
                refine Own.s_ifF X164 at_156 ((if0 _ _).trans (feq (show ¬ (1 : Int32) = (0 : Int32) by decide)).1) rfl ?_
                refine Own.s_iload X164 at_159 rfl rfl ?_
                refine Own.s_ifF X164 at_161 ((if0 _ _).trans (feq (show ¬ (1 : Int32) = (0 : Int32) by decide)).1) rfl ?_
                refine Own.s_iconst X164 at_164 (1 : Int32) (by decide) rfl ?_
                refine Own.s_goto X164 at_165 (by decide) (pc' := 169) (by decide) ?_
                refine Own.s_icmpF X164 at_169 (teq (show (1 : Int32) = (1 : Int32) by decide)).2 rfl ?_
                refine Own.s_iconst X164 at_172 (1 : Int32) (by decide) rfl ?_
                refine Own.s_goto X164 at_173 (by decide) (pc' := 177) (by decide) ?_
                exact Own.r_nar X164 rfl (Or.inl rfl) at_177 (by decide) (by decide) (by decide)
              · refine Own.s_ifF X164 at_129 ((if0 _ _).trans (feq hc129_165).1) rfl ?_
                refine Own.s_iload X164 at_132 rfl rfl ?_
                refine Own.s_iloadN X164 at_134 rfl rfl ?_
                refine Own.s_iload X164 at_135 rfl rfl ?_
                refine Own.s_iload X164 at_137 rfl rfl ?_
                refine Own.c_static X164 at_139 (tw62 hw) (tw63 hw) (tw5 hw) (tw64 hw) (by decide) [(.int ((XT.ushr p0 (4 : Int32)) &&& (3 : Int32))), (.int p3), (.int ((XT.ushr p0 (6 : Int32)) &&& (3 : Int32))), (.int p4)] [] 0 (rm_eq hw ((XT.ushr p0 (4 : Int32)) &&& (3 : Int32)) p3 ((XT.ushr p0 (6 : Int32)) &&& (3 : Int32)) p4 hc129_165 h164 X164.hE) (fun q => nomatch q) Own.Ok.nil (lenOf pd_14 rfl) rfl (Nat.le_of_eq rfl) (by decide) (by decide) (by decide) (by decide) rfl rfl ?_
                intro v166 vm166 T166 h166 L166 X166 V166 Q166
                rcases Q166 with Q166 | Q166
                · obtain ⟨rfl, hE166⟩ := Q166
                  refine Own.s_ifF X166 at_142 ((if0 _ _).trans (feq (show ¬ (1 : Int32) = (0 : Int32) by decide)).1) rfl ?_
                  refine Own.s_iconst X166 at_145 (1 : Int32) (by decide) rfl ?_
                  refine Own.s_goto X166 at_146 (by decide) (pc' := 150) (by decide) ?_
                  refine Own.s_istore X166 at_150 #[.val (.int p0), .val (.int p1), .val (.int p2), .val (.int p3), .val (.int p4), .val (.int (p0 &&& (3 : Int32))), .val (.int ((XT.ushr p0 (2 : Int32)) &&& (3 : Int32))), .val (.int ((XT.ushr p0 (4 : Int32)) &&& (3 : Int32))), .val (.int ((XT.ushr p0 (6 : Int32)) &&& (3 : Int32))), .val (.int p2), .val (.int p4), .val (.ref b136), .val (.int (1 : Int32)), .val (.int (1 : Int32)), .val (.int (1 : Int32))] rfl rfl ?_
                  refine Own.s_iload X166 at_152 rfl rfl ?_
                  refine Own.s_iload X166 at_154 rfl rfl ?_
                  refine Own.s_ifF X166 at_156 ((if0 _ _).trans (feq (show ¬ (1 : Int32) = (0 : Int32) by decide)).1) rfl ?_
                  refine Own.s_iload X166 at_159 rfl rfl ?_
                  refine Own.s_ifF X166 at_161 ((if0 _ _).trans (feq (show ¬ (1 : Int32) = (0 : Int32) by decide)).1) rfl ?_
                  refine Own.s_iconst X166 at_164 (1 : Int32) (by decide) rfl ?_
                  refine Own.s_goto X166 at_165 (by decide) (pc' := 169) (by decide) ?_
                  refine Own.s_icmpF X166 at_169 (teq (show (1 : Int32) = (1 : Int32) by decide)).2 rfl ?_
                  refine Own.s_iconst X166 at_172 (1 : Int32) (by decide) rfl ?_
                  refine Own.s_goto X166 at_173 (by decide) (pc' := 177) (by decide) ?_
                  exact Own.r_nar X166 rfl (Or.inl rfl) at_177 (by decide) (by decide) (by decide)
                · obtain ⟨rfl, hE166⟩ := Q166
                  refine Own.s_ifT X166 at_142 ((if0 _ _).trans (teq (show (0 : Int32) = (0 : Int32) by decide)).1) (by decide) (pc' := 149) (by decide) ?_
                  refine Own.s_iconst X166 at_149 (0 : Int32) (by decide) rfl ?_
                  refine Own.s_istore X166 at_150 #[.val (.int p0), .val (.int p1), .val (.int p2), .val (.int p3), .val (.int p4), .val (.int (p0 &&& (3 : Int32))), .val (.int ((XT.ushr p0 (2 : Int32)) &&& (3 : Int32))), .val (.int ((XT.ushr p0 (4 : Int32)) &&& (3 : Int32))), .val (.int ((XT.ushr p0 (6 : Int32)) &&& (3 : Int32))), .val (.int p2), .val (.int p4), .val (.ref b136), .val (.int (1 : Int32)), .val (.int (1 : Int32)), .val (.int (0 : Int32))] rfl rfl ?_
                  refine Own.s_iload X166 at_152 rfl rfl ?_
                  refine Own.s_iload X166 at_154 rfl rfl ?_
                  refine Own.s_ifF X166 at_156 ((if0 _ _).trans (feq (show ¬ (1 : Int32) = (0 : Int32) by decide)).1) rfl ?_
                  refine Own.s_iload X166 at_159 rfl rfl ?_
                  refine Own.s_ifT X166 at_161 ((if0 _ _).trans (teq (show (0 : Int32) = (0 : Int32) by decide)).1) (by decide) (pc' := 168) (by decide) ?_
                  refine Own.s_iconst X166 at_168 (0 : Int32) (by decide) rfl ?_
                  refine Own.s_icmpT X166 at_169 (feq (show ¬ (1 : Int32) = (0 : Int32) by decide)).2 (by decide) (pc' := 176) (by decide) ?_
                  refine Own.s_iconst X166 at_176 (0 : Int32) (by decide) rfl ?_
                  exact Own.r_nar X166 rfl (Or.inl rfl) at_177 (by decide) (by decide) (absurd hA157.2 (own_notS hc129_165 hE166))
            · obtain ⟨rfl, hE164⟩ := Q164
              refine Own.s_ifT X164 at_117 ((if0 _ _).trans (teq (show (0 : Int32) = (0 : Int32) by decide)).1) (by decide) (pc' := 124) (by decide) ?_
              refine Own.s_iconst X164 at_124 (0 : Int32) (by decide) rfl ?_
              refine Own.s_istore X164 at_125 #[.val (.int p0), .val (.int p1), .val (.int p2), .val (.int p3), .val (.int p4), .val (.int (p0 &&& (3 : Int32))), .val (.int ((XT.ushr p0 (2 : Int32)) &&& (3 : Int32))), .val (.int ((XT.ushr p0 (4 : Int32)) &&& (3 : Int32))), .val (.int ((XT.ushr p0 (6 : Int32)) &&& (3 : Int32))), .val (.int p2), .val (.int p4), .val (.ref b136), .val (.int (1 : Int32)), .val (.int (0 : Int32)), .unset] rfl rfl ?_
              refine Own.s_iload X164 at_127 rfl rfl ?_
              by_cases hc129_167 : ((XT.ushr p0 (4 : Int32)) &&& (3 : Int32)) = (0 : Int32)
              · refine Own.s_ifT X164 at_129 ((if0 _ _).trans (teq hc129_167).1) (by decide) (pc' := 145) (by decide) ?_
                refine Own.s_iconst X164 at_145 (1 : Int32) (by decide) rfl ?_
                refine Own.s_goto X164 at_146 (by decide) (pc' := 150) (by decide) ?_
                refine Own.s_istore X164 at_150 #[.val (.int p0), .val (.int p1), .val (.int p2), .val (.int p3), .val (.int p4), .val (.int (p0 &&& (3 : Int32))), .val (.int ((XT.ushr p0 (2 : Int32)) &&& (3 : Int32))), .val (.int ((XT.ushr p0 (4 : Int32)) &&& (3 : Int32))), .val (.int ((XT.ushr p0 (6 : Int32)) &&& (3 : Int32))), .val (.int p2), .val (.int p4), .val (.ref b136), .val (.int (1 : Int32)), .val (.int (0 : Int32)), .val (.int (1 : Int32))] rfl rfl ?_
                refine Own.s_iload X164 at_152 rfl rfl ?_
                refine Own.s_iload X164 at_154 rfl rfl ?_
                refine Own.s_ifT X164 at_156 ((if0 _ _).trans (teq (show (0 : Int32) = (0 : Int32) by decide)).1) (by decide) (pc' := 168) (by decide) ?_
                refine Own.s_iconst X164 at_168 (0 : Int32) (by decide) rfl ?_
                refine Own.s_icmpT X164 at_169 (feq (show ¬ (1 : Int32) = (0 : Int32) by decide)).2 (by decide) (pc' := 176) (by decide) ?_
                refine Own.s_iconst X164 at_176 (0 : Int32) (by decide) rfl ?_
                exact Own.r_nar X164 rfl (Or.inl rfl) at_177 (by decide) (by decide) (absurd hA157.1 (own_notF hc98_158 hc104_161 hE164))
              · refine Own.s_ifF X164 at_129 ((if0 _ _).trans (feq hc129_167).1) rfl ?_
                refine Own.s_iload X164 at_132 rfl rfl ?_
                refine Own.s_iloadN X164 at_134 rfl rfl ?_
                refine Own.s_iload X164 at_135 rfl rfl ?_
                refine Own.s_iload X164 at_137 rfl rfl ?_
                refine Own.c_static X164 at_139 (tw62 hw) (tw63 hw) (tw5 hw) (tw64 hw) (by decide) [(.int ((XT.ushr p0 (4 : Int32)) &&& (3 : Int32))), (.int p3), (.int ((XT.ushr p0 (6 : Int32)) &&& (3 : Int32))), (.int p4)] [] 0 (rm_eq hw ((XT.ushr p0 (4 : Int32)) &&& (3 : Int32)) p3 ((XT.ushr p0 (6 : Int32)) &&& (3 : Int32)) p4 hc129_167 h164 X164.hE) (fun q => nomatch q) Own.Ok.nil (lenOf pd_14 rfl) rfl (Nat.le_of_eq rfl) (by decide) (by decide) (by decide) (by decide) rfl rfl ?_
                intro v168 vm168 T168 h168 L168 X168 V168 Q168
                rcases Q168 with Q168 | Q168
                · obtain ⟨rfl, hE168⟩ := Q168
                  refine Own.s_ifF X168 at_142 ((if0 _ _).trans (feq (show ¬ (1 : Int32) = (0 : Int32) by decide)).1) rfl ?_
                  refine Own.s_iconst X168 at_145 (1 : Int32) (by decide) rfl ?_
                  refine Own.s_goto X168 at_146 (by decide) (pc' := 150) (by decide) ?_
                  refine Own.s_istore X168 at_150 #[.val (.int p0), .val (.int p1), .val (.int p2), .val (.int p3), .val (.int p4), .val (.int (p0 &&& (3 : Int32))), .val (.int ((XT.ushr p0 (2 : Int32)) &&& (3 : Int32))), .val (.int ((XT.ushr p0 (4 : Int32)) &&& (3 : Int32))), .val (.int ((XT.ushr p0 (6 : Int32)) &&& (3 : Int32))), .val (.int p2), .val (.int p4), .val (.ref b136), .val (.int (1 : Int32)), .val (.int (0 : Int32)), .val (.int (1 : Int32))] rfl rfl ?_
                  refine Own.s_iload X168 at_152 rfl rfl ?_
                  refine Own.s_iload X168 at_154 rfl rfl ?_
                  refine Own.s_ifT X168 at_156 ((if0 _ _).trans (teq (show (0 : Int32) = (0 : Int32) by decide)).1) (by decide) (pc' := 168) (by decide) ?_
                  refine Own.s_iconst X168 at_168 (0 : Int32) (by decide) rfl ?_
                  refine Own.s_icmpT X168 at_169 (feq (show ¬ (1 : Int32) = (0 : Int32) by decide)).2 (by decide) (pc' := 176) (by decide) ?_
                  refine Own.s_iconst X168 at_176 (0 : Int32) (by decide) rfl ?_
                  exact Own.r_nar X168 rfl (Or.inl rfl) at_177 (by decide) (by decide) (absurd hA157.1 (own_notF hc98_158 hc104_161 hE164))
                · obtain ⟨rfl, hE168⟩ := Q168
                  refine Own.s_ifT X168 at_142 ((if0 _ _).trans (teq (show (0 : Int32) = (0 : Int32) by decide)).1) (by decide) (pc' := 149) (by decide) ?_
                  refine Own.s_iconst X168 at_149 (0 : Int32) (by decide) rfl ?_
                  refine Own.s_istore X168 at_150 #[.val (.int p0), .val (.int p1), .val (.int p2), .val (.int p3), .val (.int p4), .val (.int (p0 &&& (3 : Int32))), .val (.int ((XT.ushr p0 (2 : Int32)) &&& (3 : Int32))), .val (.int ((XT.ushr p0 (4 : Int32)) &&& (3 : Int32))), .val (.int ((XT.ushr p0 (6 : Int32)) &&& (3 : Int32))), .val (.int p2), .val (.int p4), .val (.ref b136), .val (.int (1 : Int32)), .val (.int (0 : Int32)), .val (.int (0 : Int32))] rfl rfl ?_
                  refine Own.s_iload X168 at_152 rfl rfl ?_
                  refine Own.s_iload X168 at_154 rfl rfl ?_
                  refine Own.s_ifT X168 at_156 ((if0 _ _).trans (teq (show (0 : Int32) = (0 : Int32) by decide)).1) (by decide) (pc' := 168) (by decide) ?_
                  refine Own.s_iconst X168 at_168 (0 : Int32) (by decide) rfl ?_
                  refine Own.s_icmpT X168 at_169 (feq (show ¬ (1 : Int32) = (0 : Int32) by decide)).2 (by decide) (pc' := 176) (by decide) ?_
                  refine Own.s_iconst X168 at_176 (0 : Int32) (by decide) rfl ?_
                  exact Own.r_nar X168 rfl (Or.inl rfl) at_177 (by decide) (by decide) (absurd hA157.1 (own_notF hc98_158 hc104_161 hE164))
      · obtain ⟨rfl, hA157⟩ := Q157
        refine Own.s_istore X157 at_94 #[.val (.int p0), .val (.int p1), .val (.int p2), .val (.int p3), .val (.int p4), .val (.int (p0 &&& (3 : Int32))), .val (.int ((XT.ushr p0 (2 : Int32)) &&& (3 : Int32))), .val (.int ((XT.ushr p0 (4 : Int32)) &&& (3 : Int32))), .val (.int ((XT.ushr p0 (6 : Int32)) &&& (3 : Int32))), .val (.int p2), .val (.int p4), .val (.ref b136), .val (.int (0 : Int32)), .unset, .unset] rfl rfl ?_
        refine Own.s_iload X157 at_96 rfl rfl ?_
        by_cases hc98_169 : (p0 &&& (3 : Int32)) = (0 : Int32)
        · refine Own.s_ifT X157 at_98 ((if0 _ _).trans (teq hc98_169).1) (by decide) (pc' := 120) (by decide) ?_
          refine Own.s_iconst X157 at_120 (1 : Int32) (by decide) rfl ?_
          refine Own.s_goto X157 at_121 (by decide) (pc' := 125) (by decide) ?_
          refine Own.s_istore X157 at_125 #[.val (.int p0), .val (.int p1), .val (.int p2), .val (.int p3), .val (.int p4), .val (.int (p0 &&& (3 : Int32))), .val (.int ((XT.ushr p0 (2 : Int32)) &&& (3 : Int32))), .val (.int ((XT.ushr p0 (4 : Int32)) &&& (3 : Int32))), .val (.int ((XT.ushr p0 (6 : Int32)) &&& (3 : Int32))), .val (.int p2), .val (.int p4), .val (.ref b136), .val (.int (0 : Int32)), .val (.int (1 : Int32)), .unset] rfl rfl ?_
          refine Own.s_iload X157 at_127 rfl rfl ?_
          by_cases hc129_170 : ((XT.ushr p0 (4 : Int32)) &&& (3 : Int32)) = (0 : Int32)
          · refine Own.s_ifT X157 at_129 ((if0 _ _).trans (teq hc129_170).1) (by decide) (pc' := 145) (by decide) ?_
            refine Own.s_iconst X157 at_145 (1 : Int32) (by decide) rfl ?_
            refine Own.s_goto X157 at_146 (by decide) (pc' := 150) (by decide) ?_
            refine Own.s_istore X157 at_150 #[.val (.int p0), .val (.int p1), .val (.int p2), .val (.int p3), .val (.int p4), .val (.int (p0 &&& (3 : Int32))), .val (.int ((XT.ushr p0 (2 : Int32)) &&& (3 : Int32))), .val (.int ((XT.ushr p0 (4 : Int32)) &&& (3 : Int32))), .val (.int ((XT.ushr p0 (6 : Int32)) &&& (3 : Int32))), .val (.int p2), .val (.int p4), .val (.ref b136), .val (.int (0 : Int32)), .val (.int (1 : Int32)), .val (.int (1 : Int32))] rfl rfl ?_
            refine Own.s_iload X157 at_152 rfl rfl ?_
            refine Own.s_iload X157 at_154 rfl rfl ?_
            refine Own.s_ifF X157 at_156 ((if0 _ _).trans (feq (show ¬ (1 : Int32) = (0 : Int32) by decide)).1) rfl ?_
            refine Own.s_iload X157 at_159 rfl rfl ?_
            refine Own.s_ifF X157 at_161 ((if0 _ _).trans (feq (show ¬ (1 : Int32) = (0 : Int32) by decide)).1) rfl ?_
            refine Own.s_iconst X157 at_164 (1 : Int32) (by decide) rfl ?_
            refine Own.s_goto X157 at_165 (by decide) (pc' := 169) (by decide) ?_
            refine Own.s_icmpT X157 at_169 (feq (show ¬ (0 : Int32) = (1 : Int32) by decide)).2 (by decide) (pc' := 176) (by decide) ?_
            refine Own.s_iconst X157 at_176 (0 : Int32) (by decide) rfl ?_
            exact Own.r_nar X157 rfl (Or.inl rfl) at_177 (by decide) (by decide) (absurd ⟨Or.inl (own_mk0 hc98_169), Or.inl (own_mk0 hc129_170)⟩ hA157)
          · refine Own.s_ifF X157 at_129 ((if0 _ _).trans (feq hc129_170).1) rfl ?_
            refine Own.s_iload X157 at_132 rfl rfl ?_
            refine Own.s_iloadN X157 at_134 rfl rfl ?_
            refine Own.s_iload X157 at_135 rfl rfl ?_
            refine Own.s_iload X157 at_137 rfl rfl ?_
            refine Own.c_static X157 at_139 (tw62 hw) (tw63 hw) (tw5 hw) (tw64 hw) (by decide) [(.int ((XT.ushr p0 (4 : Int32)) &&& (3 : Int32))), (.int p3), (.int ((XT.ushr p0 (6 : Int32)) &&& (3 : Int32))), (.int p4)] [] 0 (rm_eq hw ((XT.ushr p0 (4 : Int32)) &&& (3 : Int32)) p3 ((XT.ushr p0 (6 : Int32)) &&& (3 : Int32)) p4 hc129_170 h157 X157.hE) (fun q => nomatch q) Own.Ok.nil (lenOf pd_14 rfl) rfl (Nat.le_of_eq rfl) (by decide) (by decide) (by decide) (by decide) rfl rfl ?_
            intro v171 vm171 T171 h171 L171 X171 V171 Q171
            rcases Q171 with Q171 | Q171
            · obtain ⟨rfl, hE171⟩ := Q171
              refine Own.s_ifF X171 at_142 ((if0 _ _).trans (feq (show ¬ (1 : Int32) = (0 : Int32) by decide)).1) rfl ?_
              refine Own.s_iconst X171 at_145 (1 : Int32) (by decide) rfl ?_
              refine Own.s_goto X171 at_146 (by decide) (pc' := 150) (by decide) ?_
              refine Own.s_istore X171 at_150 #[.val (.int p0), .val (.int p1), .val (.int p2), .val (.int p3), .val (.int p4), .val (.int (p0 &&& (3 : Int32))), .val (.int ((XT.ushr p0 (2 : Int32)) &&& (3 : Int32))), .val (.int ((XT.ushr p0 (4 : Int32)) &&& (3 : Int32))), .val (.int ((XT.ushr p0 (6 : Int32)) &&& (3 : Int32))), .val (.int p2), .val (.int p4), .val (.ref b136), .val (.int (0 : Int32)), .val (.int (1 : Int32)), .val (.int (1 : Int32))] rfl rfl ?_
              refine Own.s_iload X171 at_152 rfl rfl ?_
              refine Own.s_iload X171 at_154 rfl rfl ?_
              refine Own.s_ifF X171 at_156 ((if0 _ _).trans (feq (show ¬ (1 : Int32) = (0 : Int32) by decide)).1) rfl ?_
              refine Own.s_iload X171 at_159 rfl rfl ?_
              refine Own.s_ifF X171 at_161 ((if0 _ _).trans (feq (show ¬ (1 : Int32) = (0 : Int32) by decide)).1) rfl ?_
              refine Own.s_iconst X171 at_164 (1 : Int32) (by decide) rfl ?_
              refine Own.s_goto X171 at_165 (by decide) (pc' := 169) (by decide) ?_
              refine Own.s_icmpT X171 at_169 (feq (show ¬ (0 : Int32) = (1 : Int32) by decide)).2 (by decide) (pc' := 176) (by decide) ?_
              refine Own.s_iconst X171 at_176 (0 : Int32) (by decide) rfl ?_
              exact Own.r_nar X171 rfl (Or.inl rfl) at_177 (by decide) (by decide) (absurd ⟨Or.inl (own_mk0 hc98_169), Or.inr hE171⟩ hA157)
            · obtain ⟨rfl, hE171⟩ := Q171
              refine Own.s_ifT X171 at_142 ((if0 _ _).trans (teq (show (0 : Int32) = (0 : Int32) by decide)).1) (by decide) (pc' := 149) (by decide) ?_
              refine Own.s_iconst X171 at_149 (0 : Int32) (by decide) rfl ?_
              refine Own.s_istore X171 at_150 #[.val (.int p0), .val (.int p1), .val (.int p2), .val (.int p3), .val (.int p4), .val (.int (p0 &&& (3 : Int32))), .val (.int ((XT.ushr p0 (2 : Int32)) &&& (3 : Int32))), .val (.int ((XT.ushr p0 (4 : Int32)) &&& (3 : Int32))), .val (.int ((XT.ushr p0 (6 : Int32)) &&& (3 : Int32))), .val (.int p2), .val (.int p4), .val (.ref b136), .val (.int (0 : Int32)), .val (.int (1 : Int32)), .val (.int (0 : Int32))] rfl rfl ?_
              refine Own.s_iload X171 at_152 rfl rfl ?_
              refine Own.s_iload X171 at_154 rfl rfl ?_
              refine Own.s_ifF X171 at_156 ((if0 _ _).trans (feq (show ¬ (1 : Int32) = (0 : Int32) by decide)).1) rfl ?_
              refine Own.s_iload X171 at_159 rfl rfl ?_
              refine Own.s_ifT X171 at_161 ((if0 _ _).trans (teq (show (0 : Int32) = (0 : Int32) by decide)).1) (by decide) (pc' := 168) (by decide) ?_
              refine Own.s_iconst X171 at_168 (0 : Int32) (by decide) rfl ?_
              refine Own.s_icmpF X171 at_169 (teq (show (0 : Int32) = (0 : Int32) by decide)).2 rfl ?_
              refine Own.s_iconst X171 at_172 (1 : Int32) (by decide) rfl ?_
              refine Own.s_goto X171 at_173 (by decide) (pc' := 177) (by decide) ?_
              exact Own.r_nar X171 rfl (Or.inl rfl) at_177 (by decide) (by decide) (by decide)
        · refine Own.s_ifF X157 at_98 ((if0 _ _).trans (feq hc98_169).1) rfl ?_
          refine Own.s_iload X157 at_101 rfl rfl ?_
          refine Own.s_iconst X157 at_103 (1 : Int32) (by decide) rfl ?_
          by_cases hc104_172 : (p0 &&& (3 : Int32)) = (1 : Int32)
          · refine Own.s_icmpT X157 at_104 (teq hc104_172).1 (by decide) (pc' := 120) (by decide) ?_
            refine Own.s_iconst X157 at_120 (1 : Int32) (by decide) rfl ?_
            refine Own.s_goto X157 at_121 (by decide) (pc' := 125) (by decide) ?_
            refine Own.s_istore X157 at_125 #[.val (.int p0), .val (.int p1), .val (.int p2), .val (.int p3), .val (.int p4), .val (.int (p0 &&& (3 : Int32))), .val (.int ((XT.ushr p0 (2 : Int32)) &&& (3 : Int32))), .val (.int ((XT.ushr p0 (4 : Int32)) &&& (3 : Int32))), .val (.int ((XT.ushr p0 (6 : Int32)) &&& (3 : Int32))), .val (.int p2), .val (.int p4), .val (.ref b136), .val (.int (0 : Int32)), .val (.int (1 : Int32)), .unset] rfl rfl ?_
            refine Own.s_iload X157 at_127 rfl rfl ?_
            by_cases hc129_173 : ((XT.ushr p0 (4 : Int32)) &&& (3 : Int32)) = (0 : Int32)
            · refine Own.s_ifT X157 at_129 ((if0 _ _).trans (teq hc129_173).1) (by decide) (pc' := 145) (by decide) ?_
              refine Own.s_iconst X157 at_145 (1 : Int32) (by decide) rfl ?_
              refine Own.s_goto X157 at_146 (by decide) (pc' := 150) (by decide) ?_
              refine Own.s_istore X157 at_150 #[.val (.int p0), .val (.int p1), .val (.int p2), .val (.int p3), .val (.int p4), .val (.int (p0 &&& (3 : Int32))), .val (.int ((XT.ushr p0 (2 : Int32)) &&& (3 : Int32))), .val (.int ((XT.ushr p0 (4 : Int32)) &&& (3 : Int32))), .val (.int ((XT.ushr p0 (6 : Int32)) &&& (3 : Int32))), .val (.int p2), .val (.int p4), .val (.ref b136), .val (.int (0 : Int32)), .val (.int (1 : Int32)), .val (.int (1 : Int32))] rfl rfl ?_
              refine Own.s_iload X157 at_152 rfl rfl ?_
              refine Own.s_iload X157 at_154 rfl rfl ?_
              refine Own.s_ifF X157 at_156 ((if0 _ _).trans (feq (show ¬ (1 : Int32) = (0 : Int32) by decide)).1) rfl ?_
              refine Own.s_iload X157 at_159 rfl rfl ?_
              refine Own.s_ifF X157 at_161 ((if0 _ _).trans (feq (show ¬ (1 : Int32) = (0 : Int32) by decide)).1) rfl ?_
              refine Own.s_iconst X157 at_164 (1 : Int32) (by decide) rfl ?_
              refine Own.s_goto X157 at_165 (by decide) (pc' := 169) (by decide) ?_
              refine Own.s_icmpT X157 at_169 (feq (show ¬ (0 : Int32) = (1 : Int32) by decide)).2 (by decide) (pc' := 176) (by decide) ?_
              refine Own.s_iconst X157 at_176 (0 : Int32) (by decide) rfl ?_
              exact Own.r_nar X157 rfl (Or.inl rfl) at_177 (by decide) (by decide) (absurd ⟨Or.inr (Or.inl (own_mk1 hc104_172)), Or.inl (own_mk0 hc129_173)⟩ hA157)
            · refine Own.s_ifF X157 at_129 ((if0 _ _).trans (feq hc129_173).1) rfl ?_
              refine Own.s_iload X157 at_132 rfl rfl ?_
              refine Own.s_iloadN X157 at_134 rfl rfl ?_
              refine Own.s_iload X157 at_135 rfl rfl ?_
              refine Own.s_iload X157 at_137 rfl rfl ?_
              refine Own.c_static X157 at_139 (tw62 hw) (tw63 hw) (tw5 hw) (tw64 hw) (by decide) [(.int ((XT.ushr p0 (4 : Int32)) &&& (3 : Int32))), (.int p3), (.int ((XT.ushr p0 (6 : Int32)) &&& (3 : Int32))), (.int p4)] [] 0 (rm_eq hw ((XT.ushr p0 (4 : Int32)) &&& (3 : Int32)) p3 ((XT.ushr p0 (6 : Int32)) &&& (3 : Int32)) p4 hc129_173 h157 X157.hE) (fun q => nomatch q) Own.Ok.nil (lenOf pd_14 rfl) rfl (Nat.le_of_eq rfl) (by decide) (by decide) (by decide) (by decide) rfl rfl ?_
              intro v174 vm174 T174 h174 L174 X174 V174 Q174
              rcases Q174 with Q174 | Q174
              · obtain ⟨rfl, hE174⟩ := Q174
                refine Own.s_ifF X174 at_142 ((if0 _ _).trans (feq (show ¬ (1 : Int32) = (0 : Int32) by decide)).1) rfl ?_
                refine Own.s_iconst X174 at_145 (1 : Int32) (by decide) rfl ?_
                refine Own.s_goto X174 at_146 (by decide) (pc' := 150) (by decide) ?_
                refine Own.s_istore X174 at_150 #[.val (.int p0), .val (.int p1), .val (.int p2), .val (.int p3), .val (.int p4), .val (.int (p0 &&& (3 : Int32))), .val (.int ((XT.ushr p0 (2 : Int32)) &&& (3 : Int32))), .val (.int ((XT.ushr p0 (4 : Int32)) &&& (3 : Int32))), .val (.int ((XT.ushr p0 (6 : Int32)) &&& (3 : Int32))), .val (.int p2), .val (.int p4), .val (.ref b136), .val (.int (0 : Int32)), .val (.int (1 : Int32)), .val (.int (1 : Int32))] rfl rfl ?_
                refine Own.s_iload X174 at_152 rfl rfl ?_
                refine Own.s_iload X174 at_154 rfl rfl ?_
                refine Own.s_ifF X174 at_156 ((if0 _ _).trans (feq (show ¬ (1 : Int32) = (0 : Int32) by decide)).1) rfl ?_
                refine Own.s_iload X174 at_159 rfl rfl ?_
                refine Own.s_ifF X174 at_161 ((if0 _ _).trans (feq (show ¬ (1 : Int32) = (0 : Int32) by decide)).1) rfl ?_
                refine Own.s_iconst X174 at_164 (1 : Int32) (by decide) rfl ?_
                refine Own.s_goto X174 at_165 (by decide) (pc' := 169) (by decide) ?_
                refine Own.s_icmpT X174 at_169 (feq (show ¬ (0 : Int32) = (1 : Int32) by decide)).2 (by decide) (pc' := 176) (by decide) ?_
                refine Own.s_iconst X174 at_176 (0 : Int32) (by decide) rfl ?_
                exact Own.r_nar X174 rfl (Or.inl rfl) at_177 (by decide) (by decide) (absurd ⟨Or.inr (Or.inl (own_mk1 hc104_172)), Or.inr hE174⟩ hA157)
              · obtain ⟨rfl, hE174⟩ := Q174
                refine Own.s_ifT X174 at_142 ((if0 _ _).trans (teq (show (0 : Int32) = (0 : Int32) by decide)).1) (by decide) (pc' := 149) (by decide) ?_
                refine Own.s_iconst X174 at_149 (0 : Int32) (by decide) rfl ?_
                refine Own.s_istore X174 at_150 #[.val (.int p0), .val (.int p1), .val (.int p2), .val (.int p3), .val (.int p4), .val (.int (p0 &&& (3 : Int32))), .val (.int ((XT.ushr p0 (2 : Int32)) &&& (3 : Int32))), .val (.int ((XT.ushr p0 (4 : Int32)) &&& (3 : Int32))), .val (.int ((XT.ushr p0 (6 : Int32)) &&& (3 : Int32))), .val (.int p2), .val (.int p4), .val (.ref b136), .val (.int (0 : Int32)), .val (.int (1 : Int32)), .val (.int (0 : Int32))] rfl rfl ?_
                refine Own.s_iload X174 at_152 rfl rfl ?_
                refine Own.s_iload X174 at_154 rfl rfl ?_
                refine Own.s_ifF X174 at_156 ((if0 _ _).trans (feq (show ¬ (1 : Int32) = (0 : Int32) by decide)).1) rfl ?_
                refine Own.s_iload X174 at_159 rfl rfl ?_
                refine Own.s_ifT X174 at_161 ((if0 _ _).trans (teq (show (0 : Int32) = (0 : Int32) by decide)).1) (by decide) (pc' := 168) (by decide) ?_
                refine Own.s_iconst X174 at_168 (0 : Int32) (by decide) rfl ?_
                refine Own.s_icmpF X174 at_169 (teq (show (0 : Int32) = (0 : Int32) by decide)).2 rfl ?_
                refine Own.s_iconst X174 at_172 (1 : Int32) (by decide) rfl ?_
                refine Own.s_goto X174 at_173 (by decide) (pc' := 177) (by decide) ?_
                exact Own.r_nar X174 rfl (Or.inl rfl) at_177 (by decide) (by decide) (by decide)
          · refine Own.s_icmpF X157 at_104 (feq hc104_172).1 rfl ?_
            refine Own.s_iload X157 at_107 rfl rfl ?_
            refine Own.s_iloadN X157 at_109 rfl rfl ?_
            refine Own.s_iload X157 at_110 rfl rfl ?_
            refine Own.s_iload X157 at_112 rfl rfl ?_
            refine Own.c_static X157 at_114 (tw62 hw) (tw63 hw) (tw5 hw) (tw64 hw) (by decide) [(.int (p0 &&& (3 : Int32))), (.int p1), (.int ((XT.ushr p0 (2 : Int32)) &&& (3 : Int32))), (.int p2)] [] 0 (rm_eq hw (p0 &&& (3 : Int32)) p1 ((XT.ushr p0 (2 : Int32)) &&& (3 : Int32)) p2 hc98_169 h157 X157.hE) (fun q => nomatch q) Own.Ok.nil (lenOf pd_14 rfl) rfl (Nat.le_of_eq rfl) (by decide) (by decide) (by decide) (by decide) rfl rfl ?_
            intro v175 vm175 T175 h175 L175 X175 V175 Q175
            rcases Q175 with Q175 | Q175
            · obtain ⟨rfl, hE175⟩ := Q175
              refine Own.s_ifF X175 at_117 ((if0 _ _).trans (feq (show ¬ (1 : Int32) = (0 : Int32) by decide)).1) rfl ?_
              refine Own.s_iconst X175 at_120 (1 : Int32) (by decide) rfl ?_
              refine Own.s_goto X175 at_121 (by decide) (pc' := 125) (by decide) ?_
              refine Own.s_istore X175 at_125 #[.val (.int p0), .val (.int p1), .val (.int p2), .val (.int p3), .val (.int p4), .val (.int (p0 &&& (3 : Int32))), .val (.int ((XT.ushr p0 (2 : Int32)) &&& (3 : Int32))), .val (.int ((XT.ushr p0 (4 : Int32)) &&& (3 : Int32))), .val (.int ((XT.ushr p0 (6 : Int32)) &&& (3 : Int32))), .val (.int p2), .val (.int p4), .val (.ref b136), .val (.int (0 : Int32)), .val (.int (1 : Int32)), .unset] rfl rfl ?_
              refine Own.s_iload X175 at_127 rfl rfl ?_
              by_cases hc129_176 : ((XT.ushr p0 (4 : Int32)) &&& (3 : Int32)) = (0 : Int32)
              · refine Own.s_ifT X175 at_129 ((if0 _ _).trans (teq hc129_176).1) (by decide) (pc' := 145) (by decide) ?_
                refine Own.s_iconst X175 at_145 (1 : Int32) (by decide) rfl ?_
                refine Own.s_goto X175 at_146 (by decide) (pc' := 150) (by decide) ?_
                refine Own.s_istore X175 at_150 #[.val (.int p0), .val (.int p1), .val (.int p2), .val (.int p3), .val (.int p4), .val (.int (p0 &&& (3 : Int32))), .val (.int ((XT.ushr p0 (2 : Int32)) &&& (3 : Int32))), .val (.int ((XT.ushr p0 (4 : Int32)) &&& (3 : Int32))), .val (.int ((XT.ushr p0 (6 : Int32)) &&& (3 : Int32))), .val (.int p2), .val (.int p4), .val (.ref b136), .val (.int (0 : Int32)), .val (.int (1 : Int32)), .val (.int (1 : Int32))] rfl rfl ?_
                refine Own.s_iload X175 at_152 rfl rfl ?_
                refine Own.s_iload X175 at_154 rfl rfl ?_
                refine Own.s_ifF X175 at_156 ((if0 _ _).trans (feq (show ¬ (1 : Int32) = (0 : Int32) by decide)).1) rfl ?_
                refine Own.s_iload X175 at_159 rfl rfl ?_
                refine Own.s_ifF X175 at_161 ((if0 _ _).trans (feq (show ¬ (1 : Int32) = (0 : Int32) by decide)).1) rfl ?_
                refine Own.s_iconst X175 at_164 (1 : Int32) (by decide) rfl ?_
                refine Own.s_goto X175 at_165 (by decide) (pc' := 169) (by decide) ?_
                refine Own.s_icmpT X175 at_169 (feq (show ¬ (0 : Int32) = (1 : Int32) by decide)).2 (by decide) (pc' := 176) (by decide) ?_
                refine Own.s_iconst X175 at_176 (0 : Int32) (by decide) rfl ?_
                exact Own.r_nar X175 rfl (Or.inl rfl) at_177 (by decide) (by decide) (absurd ⟨Or.inr (Or.inr hE175), Or.inl (own_mk0 hc129_176)⟩ hA157)
              · refine Own.s_ifF X175 at_129 ((if0 _ _).trans (feq hc129_176).1) rfl ?_
                refine Own.s_iload X175 at_132 rfl rfl ?_
                refine Own.s_iloadN X175 at_134 rfl rfl ?_
                refine Own.s_iload X175 at_135 rfl rfl ?_
                refine Own.s_iload X175 at_137 rfl rfl ?_
                refine Own.c_static X175 at_139 (tw62 hw) (tw63 hw) (tw5 hw) (tw64 hw) (by decide) [(.int ((XT.ushr p0 (4 : Int32)) &&& (3 : Int32))), (.int p3), (.int ((XT.ushr p0 (6 : Int32)) &&& (3 : Int32))), (.int p4)] [] 0 (rm_eq hw ((XT.ushr p0 (4 : Int32)) &&& (3 : Int32)) p3 ((XT.ushr p0 (6 : Int32)) &&& (3 : Int32)) p4 hc129_176 h175 X175.hE) (fun q => nomatch q) Own.Ok.nil (lenOf pd_14 rfl) rfl (Nat.le_of_eq rfl) (by decide) (by decide) (by decide) (by decide) rfl rfl ?_
                intro v177 vm177 T177 h177 L177 X177 V177 Q177
                rcases Q177 with Q177 | Q177
                · obtain ⟨rfl, hE177⟩ := Q177
                  refine Own.s_ifF X177 at_142 ((if0 _ _).trans (feq (show ¬ (1 : Int32) = (0 : Int32) by decide)).1) rfl ?_
                  refine Own.s_iconst X177 at_145 (1 : Int32) (by decide) rfl ?_
                  refine Own.s_goto X177 at_146 (by decide) (pc' := 150) (by decide) ?_
                  refine Own.s_istore X177 at_150 #[.val (.int p0), .val (.int p1), .val (.int p2), .val (.int p3), .val (.int p4), .val (.int (p0 &&& (3 : Int32))), .val (.int ((XT.ushr p0 (2 : Int32)) &&& (3 : Int32))), .val (.int ((XT.ushr p0 (4 : Int32)) &&& (3 : Int32))), .val (.int ((XT.ushr p0 (6 : Int32)) &&& (3 : Int32))), .val (.int p2), .val (.int p4), .val (.ref b136), .val (.int (0 : Int32)), .val (.int (1 : Int32)), .val (.int (1 : Int32))] rfl rfl ?_
                  refine Own.s_iload X177 at_152 rfl rfl ?_
                  refine Own.s_iload X177 at_154 rfl rfl ?_
                  refine Own.s_ifF X177 at_156 ((if0 _ _).trans (feq (show ¬ (1 : Int32) = (0 : Int32) by decide)).1) rfl ?_
                  refine Own.s_iload X177 at_159 rfl rfl ?_
                  refine Own.s_ifF X177 at_161 ((if0 _ _).trans (feq (show ¬ (1 : Int32) = (0 : Int32) by decide)).1) rfl ?_
                  refine Own.s_iconst X177 at_164 (1 : Int32) (by decide) rfl ?_
                  refine Own.s_goto X177 at_165 (by decide) (pc' := 169) (by decide) ?_
                  refine Own.s_icmpT X177 at_169 (feq (show ¬ (0 : Int32) = (1 : Int32) by decide)).2 (by decide) (pc' := 176) (by decide) ?_
                  refine Own.s_iconst X177 at_176 (0 : Int32) (by decide) rfl ?_
                  exact Own.r_nar X177 rfl (Or.inl rfl) at_177 (by decide) (by decide) (absurd ⟨Or.inr (Or.inr hE175), Or.inr hE177⟩ hA157)
                · obtain ⟨rfl, hE177⟩ := Q177
                  refine Own.s_ifT X177 at_142 ((if0 _ _).trans (teq (show (0 : Int32) = (0 : Int32) by decide)).1) (by decide) (pc' := 149) (by decide) ?_
                  refine Own.s_iconst X177 at_149 (0 : Int32) (by decide) rfl ?_
                  refine Own.s_istore X177 at_150 #[.val (.int p0), .val (.int p1), .val (.int p2), .val (.int p3), .val (.int p4), .val (.int (p0 &&& (3 : Int32))), .val (.int ((XT.ushr p0 (2 : Int32)) &&& (3 : Int32))), .val (.int ((XT.ushr p0 (4 : Int32)) &&& (3 : Int32))), .val (.int ((XT.ushr p0 (6 : Int32)) &&& (3 : Int32))), .val (.int p2), .val (.int p4), .val (.ref b136), .val (.int (0 : Int32)), .val (.int (1 : Int32)), .val (.int (0 : Int32))] rfl rfl ?_
                  refine Own.s_iload X177 at_152 rfl rfl ?_
                  refine Own.s_iload X177 at_154 rfl rfl ?_
                  refine Own.s_ifF X177 at_156 ((if0 _ _).trans (feq (show ¬ (1 : Int32) = (0 : Int32) by decide)).1) rfl ?_
                  refine Own.s_iload X177 at_159 rfl rfl ?_
                  refine Own.s_ifT X177 at_161 ((if0 _ _).trans (teq (show (0 : Int32) = (0 : Int32) by decide)).1) (by decide) (pc' := 168) (by decide) ?_
                  refine Own.s_iconst X177 at_168 (0 : Int32) (by decide) rfl ?_
                  refine Own.s_icmpF X177 at_169 (teq (show (0 : Int32) = (0 : Int32) by decide)).2 rfl ?_
                  refine Own.s_iconst X177 at_172 (1 : Int32) (by decide) rfl ?_
                  refine Own.s_goto X177 at_173 (by decide) (pc' := 177) (by decide) ?_
                  exact Own.r_nar X177 rfl (Or.inl rfl) at_177 (by decide) (by decide) (by decide)
            · obtain ⟨rfl, hE175⟩ := Q175
              refine Own.s_ifT X175 at_117 ((if0 _ _).trans (teq (show (0 : Int32) = (0 : Int32) by decide)).1) (by decide) (pc' := 124) (by decide) ?_
              refine Own.s_iconst X175 at_124 (0 : Int32) (by decide) rfl ?_
              refine Own.s_istore X175 at_125 #[.val (.int p0), .val (.int p1), .val (.int p2), .val (.int p3), .val (.int p4), .val (.int (p0 &&& (3 : Int32))), .val (.int ((XT.ushr p0 (2 : Int32)) &&& (3 : Int32))), .val (.int ((XT.ushr p0 (4 : Int32)) &&& (3 : Int32))), .val (.int ((XT.ushr p0 (6 : Int32)) &&& (3 : Int32))), .val (.int p2), .val (.int p4), .val (.ref b136), .val (.int (0 : Int32)), .val (.int (0 : Int32)), .unset] rfl rfl ?_
              refine Own.s_iload X175 at_127 rfl rfl ?_
              by_cases hc129_178 : ((XT.ushr p0 (4 : Int32)) &&& (3 : Int32)) = (0 : Int32)
              · refine Own.s_ifT X175 at_129 ((if0 _ _).trans (teq hc129_178).1) (by decide) (pc' := 145) (by decide) ?_
                refine Own.s_iconst X175 at_145 (1 : Int32) (by decide) rfl ?_
                refine Own.s_goto X175 at_146 (by decide) (pc' := 150) (by decide) ?_
                refine Own.s_istore X175 at_150 #[.val (.int p0), .val (.int p1), .val (.int p2), .val (.int p3), .val (.int p4), .val (.int (p0 &&& (3 : Int32))), .val (.int ((XT.ushr p0 (2 : Int32)) &&& (3 : Int32))), .val (.int ((XT.ushr p0 (4 : Int32)) &&& (3 : Int32))), .val (.int ((XT.ushr p0 (6 : Int32)) &&& (3 : Int32))), .val (.int p2), .val (.int p4), .val (.ref b136), .val (.int (0 : Int32)), .val (.int (0 : Int32)), .val (.int (1 : Int32))] rfl rfl ?_
                refine Own.s_iload X175 at_152 rfl rfl ?_
                refine Own.s_iload X175 at_154 rfl rfl ?_
                refine Own.s_ifT X175 at_156 ((if0 _ _).trans (teq (show (0 : Int32) = (0 : Int32) by decide)).1) (by decide) (pc' := 168) (by decide) ?_
                refine Own.s_iconst X175 at_168 (0 : Int32) (by decide) rfl ?_
                refine Own.s_icmpF X175 at_169 (teq (show (0 : Int32) = (0 : Int32) by decide)).2 rfl ?_
                refine Own.s_iconst X175 at_172 (1 : Int32) (by decide) rfl ?_
                refine Own.s_goto X175 at_173 (by decide) (pc' := 177) (by decide) ?_
                exact Own.r_nar X175 rfl (Or.inl rfl) at_177 (by decide) (by decide) (by decide)
              · refine Own.s_ifF X175 at_129 ((if0 _ _).trans (feq hc129_178).1) rfl ?_
                refine Own.s_iload X175 at_132 rfl rfl ?_
                refine Own.s_iloadN X175 at_134 rfl rfl ?_
                refine Own.s_iload X175 at_135 rfl rfl ?_
                refine Own.s_iload X175 at_137 rfl rfl ?_
                refine Own.c_static X175 at_139 (tw62 hw) (tw63 hw) (tw5 hw) (tw64 hw) (by decide) [(.int ((XT.ushr p0 (4 : Int32)) &&& (3 : Int32))), (.int p3), (.int ((XT.ushr p0 (6 : Int32)) &&& (3 : Int32))), (.int p4)] [] 0 (rm_eq hw ((XT.ushr p0 (4 : Int32)) &&& (3 : Int32)) p3 ((XT.ushr p0 (6 : Int32)) &&& (3 : Int32)) p4 hc129_178 h175 X175.hE) (fun q => nomatch q) Own.Ok.nil (lenOf pd_14 rfl) rfl (Nat.le_of_eq rfl) (by decide) (by decide) (by decide) (by decide) rfl rfl ?_
                intro v179 vm179 T179 h179 L179 X179 V179 Q179
                rcases Q179 with Q179 | Q179
                · obtain ⟨rfl, hE179⟩ := Q179
                  refine Own.s_ifF X179 at_142 ((if0 _ _).trans (feq (show ¬ (1 : Int32) = (0 : Int32) by decide)).1) rfl ?_
                  refine Own.s_iconst X179 at_145 (1 : Int32) (by decide) rfl ?_
                  refine Own.s_goto X179 at_146 (by decide) (pc' := 150) (by decide) ?_
                  refine Own.s_istore X179 at_150 #[.val (.int p0), .val (.int p1), .val (.int p2), .val (.int p3), .val (.int p4), .val (.int (p0 &&& (3 : Int32))), .val (.int ((XT.ushr p0 (2 : Int32)) &&& (3 : Int32))), .val (.int ((XT.ushr p0 (4 : Int32)) &&& (3 : Int32))), .val (.int ((XT.ushr p0 (6 : Int32)) &&& (3 : Int32))), .val (.int p2), .val (.int p4), .val (.ref b136), .val (.int (0 : Int32)), .val (.int (0 : Int32)), .val (.int (1 : Int32))] rfl rfl ?_
                  refine Own.s_iload X179 at_152 rfl rfl ?_
                  refine Own.s_iload X179 at_154 rfl rfl ?_
                  refine Own.s_ifT X179 at_156 ((if0 _ _).trans (teq (show (0 : Int32) = (0 : Int32) by decide)).1) (by decide) (pc' := 168) (by decide) ?_
                  refine Own.s_iconst X179 at_168 (0 : Int32) (by decide) rfl ?_
                  refine Own.s_icmpF X179 at_169 (teq (show (0 : Int32) = (0 : Int32) by decide)).2 rfl ?_
                  refine Own.s_iconst X179 at_172 (1 : Int32) (by decide) rfl ?_
                  refine Own.s_goto X179 at_173 (by decide) (pc' := 177) (by decide) ?_
                  exact Own.r_nar X179 rfl (Or.inl rfl) at_177 (by decide) (by decide) (by decide)
                · obtain ⟨rfl, hE179⟩ := Q179
                  refine Own.s_ifT X179 at_142 ((if0 _ _).trans (teq (show (0 : Int32) = (0 : Int32) by decide)).1) (by decide) (pc' := 149) (by decide) ?_
                  refine Own.s_iconst X179 at_149 (0 : Int32) (by decide) rfl ?_
                  refine Own.s_istore X179 at_150 #[.val (.int p0), .val (.int p1), .val (.int p2), .val (.int p3), .val (.int p4), .val (.int (p0 &&& (3 : Int32))), .val (.int ((XT.ushr p0 (2 : Int32)) &&& (3 : Int32))), .val (.int ((XT.ushr p0 (4 : Int32)) &&& (3 : Int32))), .val (.int ((XT.ushr p0 (6 : Int32)) &&& (3 : Int32))), .val (.int p2), .val (.int p4), .val (.ref b136), .val (.int (0 : Int32)), .val (.int (0 : Int32)), .val (.int (0 : Int32))] rfl rfl ?_
                  refine Own.s_iload X179 at_152 rfl rfl ?_
                  refine Own.s_iload X179 at_154 rfl rfl ?_
                  refine Own.s_ifT X179 at_156 ((if0 _ _).trans (teq (show (0 : Int32) = (0 : Int32) by decide)).1) (by decide) (pc' := 168) (by decide) ?_
                  refine Own.s_iconst X179 at_168 (0 : Int32) (by decide) rfl ?_
                  refine Own.s_icmpF X179 at_169 (teq (show (0 : Int32) = (0 : Int32) by decide)).2 rfl ?_
                  refine Own.s_iconst X179 at_172 (1 : Int32) (by decide) rfl ?_
                  refine Own.s_goto X179 at_173 (by decide) (pc' := 177) (by decide) ?_
                  exact Own.r_nar X179 rfl (Or.inl rfl) at_177 (by decide) (by decide) (by decide)
set_option maxRecDepth 65536 in
set_option maxHeartbeats 40000000 in
theorem comes_1 {Post : Tables → Env → Array Value → State → Outcome → State → Prop} (hpost : ∀ tb e args s v u, (limb_1_1.after args s (.returned v) u = true ∧ limb_1_2.after args s (.returned v) u = true ∧ True) → ReturnedEndW s (.returned v) u (Jvm.fieldLocs frame_1_writes args s ++ Jvm.arrayLocs frame_1_arrays args s ++ Jvm.staticLocs frame_1_statics s) 40 3264 → Post tb e args s (.returned v) u) :
    ArmFor flags0 classFile x code maxLocals ret World_1 tables_1 room_1 Calls_1 rest_1 Pre_1 Post := by
  intro l hfl _ _ p e ha hc hk s m args below hf hA hF happ hP
  obtain ⟨hcalls, hrest, hpre⟩ := hP
  obtain ⟨-, -, -, hnamed, -, -, -, hat⟩ := (Spec.applies_iff hf).mp happ
  obtain ⟨hg, hn⟩ := and_e (Cond.before_iff.mp (show (Jvm.Cond.and given_1 narrow_1).before args s = true from hpre))
  obtain ⟨hcount, r0⟩ := and_e hg
  obtain ⟨q0, r1⟩ := and_e r0
  obtain ⟨q1, r2⟩ := and_e r1
  obtain ⟨q2, r3⟩ := and_e r2
  obtain ⟨q3, r4⟩ := and_e r3
  have q4 := r4
  obtain ⟨w0, w1, w2, w3, w4, rfl⟩ : ∃ w0 w1 w2 w3 w4 : Value, args = #[w0, w1, w2, w3, w4] := by
    have hs : args.size = 5 := by simpa [Cond.value, given_1] using hcount
    obtain ⟨L⟩ := args
    match L, hs with
    | [w0, w1, w2, w3, w4], _ => exact ⟨w0, w1, w2, w3, w4, rfl⟩
  have hw := fun d (hd : d ∈ tables_1) => atoms_spec (ws := Jvm.Cond.code x code maxLocals ret :: tables_1) hat d (List.mem_cons_of_mem _ hd)
  obtain ⟨hsets, hown0⟩ := atoms_of _ (rest_1_c_eq ▸ (show rest_1_c.before _ s = true from hrest))
  obtain ⟨i0, e0⟩ := is_v q0
  obtain rfl : w0 = (.int i0) := Option.some.inj e0
  obtain ⟨i1, e1⟩ := is_v q1
  obtain rfl : w1 = (.int i1) := Option.some.inj e1
  obtain ⟨i2, e2⟩ := is_v q2
  obtain rfl : w2 = (.int i2) := Option.some.inj e2
  obtain ⟨i3, e3⟩ := is_v q3
  obtain rfl : w3 = (.int i3) := Option.some.inj e3
  obtain ⟨i4, e4⟩ := is_v q4
  obtain rfl : w4 = (.int i4) := Option.some.inj e4
  have nC := not_v (Cond.before_iff.mp (hsets _ (List.mem_of_getElem? (i := 2) rfl)))
  obtain ⟨zc, eC⟩ := is_v (Cond.before_iff.mp (hsets _ (List.mem_of_getElem? (i := 1) rfl)))
  have SC : Sta s s.heap "java/lang/String" "COMPACT_STRINGS" "Z" (.int zc) := Sta.start eC (Or.inl (hsets _ (List.mem_of_getElem? (i := 0) rfl)))
  have hzc : ¬ (zc = (0 : Int32)) := gotF (Cond.eq_ints eC (Term.int_eval (0))) nC
  obtain ⟨fm, eF, hfm⟩ := isR_v (Cond.before_iff.mp (hsets _ (List.mem_of_getElem? (i := 8) rfl)))
  have SF : Sta s s.heap "jdk/internal/util/Preconditions" "SIOOBE_FORMATTER" "Ljava/util/function/BiFunction;" fm := Sta.start eF (Or.inl (hsets _ (List.mem_of_getElem? (i := 7) rfl)))
  have hCH : CHv s EL s.vm s.heap := CHv.start (ewEL hw) (fun p hp => hcalls.1 p hp) (a0 := _) (hsets _ (List.mem_of_getElem? (i := 2) rfl)) (tw43 hw) (tw31 hw)
  obtain ⟨n, o, g1, g2, g3, v, rfl, L, ⟨N, -, rfl⟩, -, hRW, hFE⟩ := rm_law hw i0 i1 i2 i3 i4 SC hzc SF hfm s.heap (Own.Ext.rfl' _) tables_1 p e ha hc hk s m _ below hf ((Spec.applies_iff_loose hf).mp happ).1 ⟨rfl, State.Warmed39.refl s, rfl, fun _ => ⟨hCH, fun _ q => nomatch q⟩⟩ trivial
  have hq := hRW
  refine ⟨n, _, g1, g2, g3, hpost _ _ _ _ _ _ ⟨Cond.after_iff.mpr rfl, Cond.after_iff.mpr (eq_i res_at (Term.int_eval (1)) rfl), trivial⟩ ⟨hq.1, hq.2.1, hq.2.2.1, (hq.2.2.2.sift fun y hy => Or.inr (N y hy)).mono (by decide) (by decide)⟩⟩
theorem main_1_1 : Claimed_1_1 := comes_1 fun _ _ _ _ _ _ h hF => ⟨h.1, hF⟩
theorem main_1_2 : Claimed_1_2 := comes_1 fun _ _ _ _ _ _ h hF => ⟨h.2.1, hF⟩
end Jvm.Pilot.@@N@@
namespace Jvm.Pilot.@@N@@
open Jvm Jvm.ClassFile Sem Op Lib Jvm.Free Jvm.Stand Jvm.Pilot.@@N@@.Jvm.D
/-! MADE BY PROGRAM (witnessworld.py) out of the Statement's table words and the real class files: 21 classes; the members and pool entries that the words name. The judged class is class 1, her method 1. -/
namespace start1
open Jvm.ClassFile
def u (s : String) : CpInfo := .utf8 (stringToUtf16 s)
/-- a pool by its gaps: so many unusable entries, then the entry; so many at the end -/
def gap : Nat → List CpInfo → List CpInfo
  | 0, r => r
  | n + 1, r => .unusable :: gap n r
def poolList (es : List (Nat × CpInfo)) (last : Nat) : List CpInfo := es.foldr (fun e r => gap e.1 (e.2 :: r)) (gap last [])
def pool (es : List (Nat × CpInfo)) (last : Nat) : Array CpInfo := ⟨poolList es last⟩
def fileOf (pool : Array CpInfo) (this : Nat) (attrs : Array Attribute := #[]) (ms : Array MethodInfo := #[]) (fl : Nat := 33) (sup : Nat := 0) (ifs : Array Nat := #[]) (fds : Array FieldInfo := #[]) : ClassFile where
  minorVersion := 0
  majorVersion := 65
  constantPool := pool
  accessFlags := fl
  thisClass := this
  superClass := sup
  interfaces := ifs
  fields := fds
  methods := ms
  attributes := attrs
def plain (name : String) (sup : Option ClassId) : Class where
  name := name
  kind := .ordinary
  loader := none
  accessFlags := 33
  super := sup
  interfaces := #[]
  cf := none
  fields := #[]
  methods := #[]
  instanceTypes := #[]
  staticTypes := #[]
  resolved := #[]
  callSites := []
  init := .initialized
  statics := none
  mirror := none

def pool0 : Array CpInfo := pool [(5, u "<init>"), (0, u "()V"), (1, .class_ 10), (1, u "java/lang/Object")] 113

def k0c0 : Code := { maxStack := 0, maxLocals := 1, code := object_method_1_code, exceptionTable := #[], attributes := #[] }
def k0m0 : Method := { name := "<init>", desc := "()V", sig := { parameters := [], returnType := none }, accessFlags := 1, code := some k0c0 }
/-- java/lang/Object -/
def k0 : Class := { plain "java/lang/Object" none with
  accessFlags := 33
  interfaces := #[]
  cf := some (fileOf pool0 8 #[] #[{ accessFlags := 1, nameIndex := 5, descriptorIndex := 6, attributes := #[] }] 33 0 #[] #[])
  fields := #[]
  methods := #[k0m0]
  instanceTypes := #[]
  staticTypes := #[]
  resolved := Array.replicate 124 none
  statics := none }

def pool1 : Array CpInfo := pool [(2, .class_ 4), (1, u "java/lang/Object"), (0, u "<init>"), (0, u "()V"), (0, .class_ 8), (0, u "com/example/fedweave/fedweave/AuthnRequest$NameIdPolicy"), (0, .methodref 10 11), (0, .class_ 12), (0, .nameAndType 13 14), (0, u "com/example/fedweave/fedweave/NameIdPolicyAllowsPinLaw"), (0, u "make"), (0, u "(II)Ljava/lang/String;"), (0, .methodref 7 16), (0, .nameAndType 5 17), (0, u "(Ljava/lang/String;Ljava/lang/String;)V"), (0, .methodref 7 19), (0, .nameAndType 20 21), (0, u "allows"), (0, u "(Ljava/lang/String;Ljava/lang/String;)Z"), (0, .methodref 10 23), (0, .nameAndType 24 25), (0, u "eq"), (0, u "(IIII)Z"), (0, .string 27), (0, u "urn:oasis:names:tc:SAML:1.1:nameid-format:unspecified"), (0, .methodref 10 29), (0, .nameAndType 30 31), (0, u "drawn"), (0, u "(I)Ljava/lang/String;"), (0, .class_ 33), (0, u "java/lang/String"), (0, .methodref 32 35), (0, .nameAndType 5 36), (0, u "([C)V"), (0, .methodref 10 38), (0, .nameAndType 39 40), (0, u "ch"), (0, u "(II)C"), (0, .methodref 32 42), (0, .nameAndType 43 44), (0, u "valueOf"), (0, u "(C)Ljava/lang/String;"), (0, .methodref 10 46), (0, .nameAndType 47 48), (0, u "drawnEq"), (0, u "(II)Z"), (2, u "law"), (0, u "(IIIII)Z")] 7

def k1m0 : Method := { name := "<init>", desc := "()V", sig := { parameters := [], returnType := none }, accessFlags := 2, code := none }
def k1c1 : Code := { maxStack := 5, maxLocals := 15, code := code, exceptionTable := #[], attributes := #[] }
def k1m1 : Method := { name := "law", desc := "(IIIII)Z", sig := { parameters := [.int, .int, .int, .int, .int], returnType := some .boolean }, accessFlags := 9, code := some k1c1 }
def k1c2 : Code := { maxStack := 2, maxLocals := 2, code := method_3_code, exceptionTable := #[], attributes := #[] }
def k1m2 : Method := { name := "make", desc := "(II)Ljava/lang/String;", sig := { parameters := [.int, .int], returnType := some (.object "java/lang/String") }, accessFlags := 10, code := some k1c2 }
def k1c3 : Code := { maxStack := 4, maxLocals := 2, code := method_4_code, exceptionTable := #[], attributes := #[] }
def k1m3 : Method := { name := "ch", desc := "(II)C", sig := { parameters := [.int, .int], returnType := some .char }, accessFlags := 10, code := some k1c3 }
def k1c4 : Code := { maxStack := 7, maxLocals := 2, code := method_5_code, exceptionTable := #[], attributes := #[] }
def k1m4 : Method := { name := "drawn", desc := "(I)Ljava/lang/String;", sig := { parameters := [.int], returnType := some (.object "java/lang/String") }, accessFlags := 10, code := some k1c4 }
def k1c5 : Code := { maxStack := 2, maxLocals := 4, code := method_6_code, exceptionTable := #[], attributes := #[] }
def k1m5 : Method := { name := "eq", desc := "(IIII)Z", sig := { parameters := [.int, .int, .int, .int], returnType := some .boolean }, accessFlags := 10, code := some k1c5 }
def k1c6 : Code := { maxStack := 3, maxLocals := 4, code := method_7_code, exceptionTable := #[], attributes := #[] }
def k1m6 : Method := { name := "drawnEq", desc := "(II)Z", sig := { parameters := [.int, .int], returnType := some .boolean }, accessFlags := 10, code := some k1c6 }
/-- com/example/fedweave/fedweave/NameIdPolicyAllowsPinLaw -/
def k1 : Class := { plain "com/example/fedweave/fedweave/NameIdPolicyAllowsPinLaw" (some 0) with
  accessFlags := 49
  interfaces := #[]
  cf := some (fileOf pool1 10 #[] #[{ accessFlags := 2, nameIndex := 5, descriptorIndex := 6, attributes := #[] }, { accessFlags := 9, nameIndex := 51, descriptorIndex := 52, attributes := #[] }, { accessFlags := 10, nameIndex := 13, descriptorIndex := 14, attributes := #[] }, { accessFlags := 10, nameIndex := 39, descriptorIndex := 40, attributes := #[] }, { accessFlags := 10, nameIndex := 30, descriptorIndex := 31, attributes := #[] }, { accessFlags := 10, nameIndex := 24, descriptorIndex := 25, attributes := #[] }, { accessFlags := 10, nameIndex := 47, descriptorIndex := 48, attributes := #[] }] 49 2 #[] #[])
  fields := #[]
  methods := #[k1m0, k1m1, k1m2, k1m3, k1m4, k1m5, k1m6]
  instanceTypes := #[]
  staticTypes := #[]
  resolved := Array.replicate 60 none
  statics := none }

def pool2 : Array CpInfo := pool [(1, .methodref 2 3), (0, .class_ 4), (0, .nameAndType 5 6), (0, u "java/lang/Object"), (0, u "<init>"), (0, u "()V"), (0, .class_ 8), (0, u "java/lang/Record")] 13

def k2c0 : Code := { maxStack := 1, maxLocals := 1, code := jdk_30_method_1_code, exceptionTable := #[], attributes := #[] }
def k2m0 : Method := { name := "<init>", desc := "()V", sig := { parameters := [], returnType := none }, accessFlags := 4, code := some k2c0 }
/-- java/lang/Record -/
def k2 : Class := { plain "java/lang/Record" (some 0) with
  accessFlags := 1057
  interfaces := #[]
  cf := some (fileOf pool2 7 #[] #[{ accessFlags := 4, nameIndex := 5, descriptorIndex := 6, attributes := #[] }] 1057 2 #[] #[])
  fields := #[]
  methods := #[k2m0]
  instanceTypes := #[]
  staticTypes := #[]
  resolved := Array.replicate 22 none
  statics := none }

def pool3 : Array CpInfo := pool [(1, .methodref 2 3), (0, .class_ 4), (0, .nameAndType 5 6), (0, u "java/lang/Record"), (0, u "<init>"), (0, u "()V"), (0, .fieldref 8 9), (0, .class_ 10), (0, .nameAndType 11 12), (0, u "com/example/fedweave/fedweave/AuthnRequest$NameIdPolicy"), (0, u "format"), (0, u "Ljava/lang/String;"), (0, .fieldref 8 14), (0, .nameAndType 15 12), (0, u "spNameQualifier"), (2, .string 19), (0, u "urn:oasis:names:tc:SAML:1.1:nameid-format:unspecified"), (0, .methodref 21 22), (0, .class_ 23), (0, .nameAndType 24 25), (0, u "java/lang/String"), (0, u "equals"), (0, u "(Ljava/lang/Object;)Z"), (11, u "(Ljava/lang/String;Ljava/lang/String;)V"), (3, u "allows"), (0, u "(Ljava/lang/String;Ljava/lang/String;)Z"), (6, .class_ 50), (0, u "com/example/fedweave/fedweave/AuthnRequest")] 23

def k3c0 : Code := { maxStack := 2, maxLocals := 3, code := prog_7_method_1_code, exceptionTable := #[], attributes := #[] }
def k3m0 : Method := { name := "<init>", desc := "(Ljava/lang/String;Ljava/lang/String;)V", sig := { parameters := [(.object "java/lang/String"), (.object "java/lang/String")], returnType := none }, accessFlags := 0, code := some k3c0 }
def k3c1 : Code := { maxStack := 2, maxLocals := 3, code := prog_7_method_2_code, exceptionTable := #[], attributes := #[] }
def k3m1 : Method := { name := "allows", desc := "(Ljava/lang/String;Ljava/lang/String;)Z", sig := { parameters := [(.object "java/lang/String"), (.object "java/lang/String")], returnType := some .boolean }, accessFlags := 0, code := some k3c1 }
/-- com/example/fedweave/fedweave/AuthnRequest$NameIdPolicy -/
def k3 : Class := { plain "com/example/fedweave/fedweave/AuthnRequest$NameIdPolicy" (some 2) with
  accessFlags := 48
  interfaces := #[]
  cf := some (fileOf pool3 8 #[.nestHost 49] #[{ accessFlags := 0, nameIndex := 5, descriptorIndex := 37, attributes := #[] }, { accessFlags := 0, nameIndex := 41, descriptorIndex := 42, attributes := #[] }] 48 2 #[] #[{ accessFlags := 18, nameIndex := 11, descriptorIndex := 12, attributes := #[] }, { accessFlags := 18, nameIndex := 15, descriptorIndex := 12, attributes := #[] }])
  fields := #[{ name := "format", type := (.object "java/lang/String"), accessFlags := 18, slot := 0, constantValue := 0 }, { name := "spNameQualifier", type := (.object "java/lang/String"), accessFlags := 18, slot := 1, constantValue := 0 }]
  methods := #[k3m0, k3m1]
  instanceTypes := #[(.object "java/lang/String"), (.object "java/lang/String")]
  staticTypes := #[]
  resolved := Array.replicate 74 none
  statics := none }

def pool4 : Array CpInfo := pool [(1, .class_ 2), (0, u "java/io/Serializable"), (0, .class_ 4), (0, u "java/lang/Object")] 2

/-- java/io/Serializable -/
def k4 : Class := { plain "java/io/Serializable" (some 0) with
  accessFlags := 1537
  interfaces := #[]
  cf := some (fileOf pool4 1 #[] #[] 1537 3 #[] #[])
  fields := #[]
  methods := #[]
  instanceTypes := #[]
  staticTypes := #[]
  resolved := Array.replicate 7 none
  statics := none }

def pool5 : Array CpInfo := pool [(1, .class_ 2), (0, u "java/lang/Comparable"), (0, .class_ 4), (0, u "java/lang/Object")] 7

/-- java/lang/Comparable -/
def k5 : Class := { plain "java/lang/Comparable" (some 0) with
  accessFlags := 1537
  interfaces := #[]
  cf := some (fileOf pool5 1 #[] #[] 1537 3 #[] #[])
  fields := #[]
  methods := #[]
  instanceTypes := #[]
  staticTypes := #[]
  resolved := Array.replicate 12 none
  statics := none }

def pool6 : Array CpInfo := pool [(2, .class_ 4), (1, u "java/lang/CharSequence"), (42, .class_ 48), (0, u "java/lang/CharSequence$1CodePointIterator"), (10, .class_ 60), (0, u "java/lang/CharSequence$1CharIterator"), (5, .class_ 67), (0, u "java/lang/Object")] 63

/-- java/lang/CharSequence -/
def k6 : Class := { plain "java/lang/CharSequence" (some 0) with
  accessFlags := 1537
  interfaces := #[]
  cf := some (fileOf pool6 2 #[.nestMembers #[47, 59]] #[] 1537 66 #[] #[])
  fields := #[]
  methods := #[]
  instanceTypes := #[]
  staticTypes := #[]
  resolved := Array.replicate 131 none
  statics := none }

def pool7 : Array CpInfo := pool [(1, .class_ 2), (0, u "java/lang/constant/Constable"), (0, .class_ 4), (0, u "java/lang/Object")] 6

/-- java/lang/constant/Constable -/
def k7 : Class := { plain "java/lang/constant/Constable" (some 0) with
  accessFlags := 1537
  interfaces := #[]
  cf := some (fileOf pool7 1 #[] #[] 1537 3 #[] #[])
  fields := #[]
  methods := #[]
  instanceTypes := #[]
  staticTypes := #[]
  resolved := Array.replicate 11 none
  statics := none }

def pool8 : Array CpInfo := pool [(1, .class_ 2), (0, u "java/lang/constant/ConstantDesc"), (0, .class_ 4), (0, u "java/lang/Object")] 32

/-- java/lang/constant/ConstantDesc -/
def k8 : Class := { plain "java/lang/constant/ConstantDesc" (some 0) with
  accessFlags := 1537
  interfaces := #[]
  cf := some (fileOf pool8 1 #[] #[] 1537 3 #[] #[])
  fields := #[]
  methods := #[]
  instanceTypes := #[]
  staticTypes := #[]
  resolved := Array.replicate 37 none
  statics := none }

def pool9 : Array CpInfo := pool [(1, .methodref 2 3), (0, .class_ 4), (0, .nameAndType 5 6), (0, u "java/lang/Object"), (0, u "<init>"), (0, u "()V"), (0, .string 8), (0, u ""), (0, .fieldref 10 11), (0, .class_ 12), (0, .nameAndType 13 14), (0, u "java/lang/String"), (0, u "value"), (0, u "[B"), (0, .fieldref 10 16), (0, .nameAndType 17 18), (0, u "coder"), (0, u "B"), (2, u "hash"), (0, u "I"), (2, u "hashIsZero"), (0, u "Z"), (0, .methodref 10 28), (0, .nameAndType 5 29), (0, u "([CIILjava/lang/Void;)V"), (8, .fieldref 10 39), (0, .nameAndType 40 26), (0, u "COMPACT_STRINGS"), (1, .class_ 44), (1, u "java/lang/StringUTF16"), (0, u "compress"), (1, .methodref 42 48), (0, .nameAndType 49 50), (0, u "coderFromArrayLen"), (0, u "([BI)B"), (2, u "toBytes"), (53, .class_ 109), (1, u "java/lang/StringLatin1"), (67, .methodref 42 178), (0, .nameAndType 45 179), (0, u "([CII)[B"), (29, .methodref 10 210), (0, .nameAndType 5 211), (0, u "([BB)V"), (157, u "(C)Z"), (171, .methodref 107 542), (0, .nameAndType 543 544), (0, u "equals"), (0, u "([B[B)Z"), (28, u "(Ljava/lang/Object;)Z"), (1, .class_ 576), (0, u "java/lang/CharSequence"), (22, u "CASE_INSENSITIVE_ORDER"), (0, u "Ljava/util/Comparator;"), (181, u "valueOf"), (0, u "(C)Ljava/lang/String;"), (226, u "([C)V"), (4, .methodref 107 1016), (0, .nameAndType 1017 369), (0, u "canEncode"), (0, .methodref 107 1019), (0, .nameAndType 53 1020), (0, u "(C)[B"), (80, u "serialPersistentFields"), (0, u "[Ljava/io/ObjectStreamField;"), (0, .class_ 1104), (0, u "java/lang/String$CaseInsensitiveComparator"), (1, .class_ 1107), (0, u "java/io/Serializable"), (0, .class_ 1109), (0, u "java/lang/Comparable"), (0, .class_ 1111), (0, u "java/lang/constant/Constable"), (0, .class_ 1113), (0, u "java/lang/constant/ConstantDesc"), (2, u "serialVersionUID"), (0, u "J"), (3, u "REPL"), (0, u "C"), (2, u "LATIN1"), (1, u "UTF16")] 323

def k9m0 : Method := { name := "<init>", desc := "()V", sig := { parameters := [], returnType := none }, accessFlags := 1, code := none }
def k9c1 : Code := { maxStack := 5, maxLocals := 2, code := jdk_42_method_3_code, exceptionTable := #[], attributes := #[] }
def k9m1 : Method := { name := "<init>", desc := "([C)V", sig := { parameters := [(.array .char)], returnType := none }, accessFlags := 1, code := some k9c1 }
def k9c2 : Code := { maxStack := 2, maxLocals := 3, code := jdk_42_method_66_code, exceptionTable := #[], attributes := #[] }
def k9m2 : Method := { name := "equals", desc := "(Ljava/lang/Object;)Z", sig := { parameters := [(.object "java/lang/Object")], returnType := some .boolean }, accessFlags := 1, code := some k9c2 }
def k9c3 : Code := { maxStack := 4, maxLocals := 1, code := jdk_42_method_139_code, exceptionTable := #[], attributes := #[] }
def k9m3 : Method := { name := "valueOf", desc := "(C)Ljava/lang/String;", sig := { parameters := [.char], returnType := some (.object "java/lang/String") }, accessFlags := 9, code := some k9c3 }
def k9c4 : Code := { maxStack := 4, maxLocals := 6, code := jdk_42_method_149_code, exceptionTable := #[], attributes := #[] }
def k9m4 : Method := { name := "<init>", desc := "([CIILjava/lang/Void;)V", sig := { parameters := [(.array .char), .int, .int, (.object "java/lang/Void")], returnType := none }, accessFlags := 2, code := some k9c4 }
def k9c5 : Code := { maxStack := 2, maxLocals := 3, code := jdk_42_method_151_code, exceptionTable := #[], attributes := #[] }
def k9m5 : Method := { name := "<init>", desc := "([BB)V", sig := { parameters := [(.array .byte), .byte], returnType := none }, accessFlags := 0, code := some k9c5 }
/-- java/lang/String -/
def k9 : Class := { plain "java/lang/String" (some 0) with
  accessFlags := 49
  interfaces := #[4, 5, 6, 7, 8]
  cf := some (fileOf pool9 10 #[.nestMembers #[1103]] #[{ accessFlags := 1, nameIndex := 5, descriptorIndex := 6, attributes := #[] }, { accessFlags := 1, nameIndex := 5, descriptorIndex := 1010, attributes := #[] }, { accessFlags := 1, nameIndex := 543, descriptorIndex := 573, attributes := #[] }, { accessFlags := 9, nameIndex := 782, descriptorIndex := 783, attributes := #[] }, { accessFlags := 2, nameIndex := 5, descriptorIndex := 29, attributes := #[] }, { accessFlags := 0, nameIndex := 5, descriptorIndex := 211, attributes := #[] }] 49 2 #[1106, 1108, 575, 1110, 1112] #[{ accessFlags := 18, nameIndex := 13, descriptorIndex := 14, attributes := #[] }, { accessFlags := 18, nameIndex := 17, descriptorIndex := 18, attributes := #[] }, { accessFlags := 2, nameIndex := 21, descriptorIndex := 22, attributes := #[] }, { accessFlags := 2, nameIndex := 25, descriptorIndex := 26, attributes := #[] }, { accessFlags := 26, nameIndex := 1116, descriptorIndex := 1117, attributes := #[] }, { accessFlags := 24, nameIndex := 40, descriptorIndex := 26, attributes := #[] }, { accessFlags := 26, nameIndex := 1101, descriptorIndex := 1102, attributes := #[] }, { accessFlags := 26, nameIndex := 1121, descriptorIndex := 1122, attributes := #[] }, { accessFlags := 25, nameIndex := 599, descriptorIndex := 600, attributes := #[] }, { accessFlags := 24, nameIndex := 1125, descriptorIndex := 18, attributes := #[] }, { accessFlags := 24, nameIndex := 1127, descriptorIndex := 18, attributes := #[] }])
  fields := #[{ name := "value", type := (.array .byte), accessFlags := 18, slot := 0, constantValue := 0 }, { name := "coder", type := .byte, accessFlags := 18, slot := 1, constantValue := 0 }, { name := "hash", type := .int, accessFlags := 2, slot := 2, constantValue := 0 }, { name := "hashIsZero", type := .boolean, accessFlags := 2, slot := 3, constantValue := 0 }, { name := "serialVersionUID", type := .long, accessFlags := 26, slot := 0, constantValue := 0 }, { name := "COMPACT_STRINGS", type := .boolean, accessFlags := 24, slot := 1, constantValue := 0 }, { name := "serialPersistentFields", type := (.array (.object "java/io/ObjectStreamField")), accessFlags := 26, slot := 2, constantValue := 0 }, { name := "REPL", type := .char, accessFlags := 26, slot := 3, constantValue := 0 }, { name := "CASE_INSENSITIVE_ORDER", type := (.object "java/util/Comparator"), accessFlags := 25, slot := 4, constantValue := 0 }, { name := "LATIN1", type := .byte, accessFlags := 24, slot := 5, constantValue := 0 }, { name := "UTF16", type := .byte, accessFlags := 24, slot := 6, constantValue := 0 }]
  methods := #[k9m0, k9m1, k9m2, k9m3, k9m4, k9m5]
  instanceTypes := #[(.array .byte), .byte, .int, .boolean]
  staticTypes := #[.long, .boolean, (.array (.object "java/io/ObjectStreamField")), .char, (.object "java/util/Comparator"), .byte, .byte]
  resolved := Array.replicate 1451 none
  statics := some 0 }

def pool10 : Array CpInfo := pool [(4, .class_ 6), (1, u "java/lang/Object"), (0, u "<init>"), (0, u "()V"), (5, .class_ 16), (1, u "java/lang/StringLatin1"), (73, u "canEncode"), (14, u "(C)Z"), (15, u "$assertionsDisabled"), (0, u "Z"), (98, .class_ 223), (1, u "java/lang/StringLatin1$LinesSpliterator"), (57, u "equals"), (0, u "([B[B)Z"), (97, u "toBytes"), (1, u "(C)[B"), (7, .class_ 391), (0, u "java/lang/StringLatin1$CharsSpliterator")] 3

def k10m0 : Method := { name := "<init>", desc := "()V", sig := { parameters := [], returnType := none }, accessFlags := 0, code := none }
def k10c1 : Code := { maxStack := 2, maxLocals := 1, code := jdk_43_method_3_code, exceptionTable := #[], attributes := #[] }
def k10m1 : Method := { name := "canEncode", desc := "(C)Z", sig := { parameters := [.char], returnType := some .boolean }, accessFlags := 9, code := some k10c1 }
def k10c2 : Code := { maxStack := 3, maxLocals := 3, code := jdk_43_method_13_code, exceptionTable := #[], attributes := #[] }
def k10m2 : Method := { name := "equals", desc := "([B[B)Z", sig := { parameters := [(.array .byte), (.array .byte)], returnType := some .boolean }, accessFlags := 9, code := some k10c2 }
def k10c3 : Code := { maxStack := 4, maxLocals := 1, code := jdk_43_method_46_code, exceptionTable := #[], attributes := #[] }
def k10m3 : Method := { name := "toBytes", desc := "(C)[B", sig := { parameters := [.char], returnType := some (.array .byte) }, accessFlags := 9, code := some k10c3 }
/-- java/lang/StringLatin1 -/
def k10 : Class := { plain "java/lang/StringLatin1" (some 0) with
  accessFlags := 48
  interfaces := #[]
  cf := some (fileOf pool10 14 #[.nestMembers #[390, 221]] #[{ accessFlags := 0, nameIndex := 7, descriptorIndex := 8, attributes := #[] }, { accessFlags := 9, nameIndex := 90, descriptorIndex := 105, attributes := #[] }, { accessFlags := 9, nameIndex := 281, descriptorIndex := 282, attributes := #[] }, { accessFlags := 9, nameIndex := 380, descriptorIndex := 382, attributes := #[] }] 48 4 #[] #[{ accessFlags := 4120, nameIndex := 121, descriptorIndex := 122, attributes := #[] }])
  fields := #[{ name := "$assertionsDisabled", type := .boolean, accessFlags := 4120, slot := 0, constantValue := 0 }]
  methods := #[k10m0, k10m1, k10m2, k10m3]
  instanceTypes := #[]
  staticTypes := #[.boolean]
  resolved := Array.replicate 395 none
  statics := none }

def pool11 : Array CpInfo := pool [(6, .class_ 8), (1, u "java/lang/Object"), (0, u "<init>"), (0, u "()V"), (1, .class_ 14), (1, u "java/lang/StringUTF16"), (31, u "$assertionsDisabled"), (0, u "Z"), (13, u "HI_BYTE_SHIFT"), (0, u "I"), (2, u "LO_BYTE_SHIFT"), (49, .methodref 12 116), (0, .nameAndType 117 118), (0, u "compress"), (0, u "([CI[BII)I"), (3, u "([CII)[B"), (138, u "coderFromArrayLen"), (0, u "([BI)B"), (106, .class_ 371), (1, u "java/lang/StringUTF16$LinesSpliterator"), (58, u "MAX_LENGTH"), (196, .class_ 628), (0, u "java/lang/StringUTF16$CodePointsSpliterator"), (0, .class_ 630), (0, u "java/lang/StringUTF16$CharsSpliterator")] 4

def k11m0 : Method := { name := "<init>", desc := "()V", sig := { parameters := [], returnType := none }, accessFlags := 0, code := none }
def k11c1 : Code := { maxStack := 2, maxLocals := 2, code := jdk_52_method_15_code, exceptionTable := #[], attributes := #[] }
def k11m1 : Method := { name := "coderFromArrayLen", desc := "([BI)B", sig := { parameters := [(.array .byte), .int], returnType := some .byte }, accessFlags := 8, code := some k11c1 }
def k11c2 : Code := { maxStack := 5, maxLocals := 6, code := jdk_52_method_16_code, exceptionTable := #[], attributes := #[] }
def k11m2 : Method := { name := "compress", desc := "([CII)[B", sig := { parameters := [(.array .char), .int, .int], returnType := some (.array .byte) }, accessFlags := 9, code := some k11c2 }
def k11c3 : Code := { maxStack := 3, maxLocals := 7, code := jdk_52_method_21_code, exceptionTable := #[], attributes := #[] }
def k11m3 : Method := { name := "compress", desc := "([CI[BII)I", sig := { parameters := [(.array .char), .int, (.array .byte), .int, .int], returnType := some .int }, accessFlags := 9, code := some k11c3 }
/-- java/lang/StringUTF16 -/
def k11 : Class := { plain "java/lang/StringUTF16" (some 0) with
  accessFlags := 48
  interfaces := #[]
  cf := some (fileOf pool11 12 #[.nestMembers #[627, 629, 369]] #[{ accessFlags := 0, nameIndex := 9, descriptorIndex := 10, attributes := #[] }, { accessFlags := 8, nameIndex := 261, descriptorIndex := 262, attributes := #[] }, { accessFlags := 9, nameIndex := 117, descriptorIndex := 122, attributes := #[] }, { accessFlags := 9, nameIndex := 117, descriptorIndex := 118, attributes := #[] }] 48 6 #[] #[{ accessFlags := 26, nameIndex := 61, descriptorIndex := 62, attributes := #[] }, { accessFlags := 26, nameIndex := 65, descriptorIndex := 62, attributes := #[] }, { accessFlags := 24, nameIndex := 430, descriptorIndex := 62, attributes := #[] }, { accessFlags := 4120, nameIndex := 46, descriptorIndex := 47, attributes := #[] }])
  fields := #[{ name := "HI_BYTE_SHIFT", type := .int, accessFlags := 26, slot := 0, constantValue := 0 }, { name := "LO_BYTE_SHIFT", type := .int, accessFlags := 26, slot := 1, constantValue := 0 }, { name := "MAX_LENGTH", type := .int, accessFlags := 24, slot := 2, constantValue := 0 }, { name := "$assertionsDisabled", type := .boolean, accessFlags := 4120, slot := 3, constantValue := 0 }]
  methods := #[k11m0, k11m1, k11m2, k11m3]
  instanceTypes := #[]
  staticTypes := #[.int, .int, .int, .boolean]
  resolved := Array.replicate 635 none
  statics := none }

def pool12 : Array CpInfo := pool [(2, .class_ 4), (1, u "java/lang/Object"), (0, u "<init>"), (0, u "()V"), (17, .class_ 26), (1, u "jdk/internal/util/Preconditions"), (28, .class_ 56), (0, u "jdk/internal/util/Preconditions$4"), (57, .class_ 115), (0, u "jdk/internal/util/Preconditions$1"), (7, u "SIOOBE_FORMATTER"), (0, u "Ljava/util/function/BiFunction;"), (0, .class_ 126), (0, u "jdk/internal/util/Preconditions$2"), (3, u "AIOOBE_FORMATTER"), (0, .class_ 132), (0, u "jdk/internal/util/Preconditions$3"), (3, u "IOOBE_FORMATTER")] 57

def k12m0 : Method := { name := "<init>", desc := "()V", sig := { parameters := [], returnType := none }, accessFlags := 1, code := none }
/-- jdk/internal/util/Preconditions -/
def k12 : Class := { plain "jdk/internal/util/Preconditions" (some 0) with
  accessFlags := 33
  interfaces := #[]
  cf := some (fileOf pool12 24 #[.nestMembers #[55, 131, 125, 114]] #[{ accessFlags := 1, nameIndex := 5, descriptorIndex := 6, attributes := #[] }] 33 2 #[] #[{ accessFlags := 25, nameIndex := 123, descriptorIndex := 124, attributes := #[] }, { accessFlags := 25, nameIndex := 130, descriptorIndex := 124, attributes := #[] }, { accessFlags := 25, nameIndex := 136, descriptorIndex := 124, attributes := #[] }])
  fields := #[{ name := "SIOOBE_FORMATTER", type := (.object "java/util/function/BiFunction"), accessFlags := 25, slot := 0, constantValue := 0 }, { name := "AIOOBE_FORMATTER", type := (.object "java/util/function/BiFunction"), accessFlags := 25, slot := 1, constantValue := 0 }, { name := "IOOBE_FORMATTER", type := (.object "java/util/function/BiFunction"), accessFlags := 25, slot := 2, constantValue := 0 }]
  methods := #[k12m0]
  instanceTypes := #[]
  staticTypes := #[(.object "java/util/function/BiFunction"), (.object "java/util/function/BiFunction"), (.object "java/util/function/BiFunction")]
  resolved := Array.replicate 194 none
  statics := some 1 }

def pool13 : Array CpInfo := pool [(9, u "<init>"), (6, .class_ 18), (1, u "java/lang/Object"), (0, u "()V"), (1, .class_ 23), (1, u "jdk/internal/util/ArraysSupport"), (0, u "LOG2_ARRAY_LONG_INDEX_SCALE"), (0, u "I"), (2, u "U"), (0, u "Ljdk/internal/misc/Unsafe;"), (8, u "BIG_ENDIAN"), (0, u "Z"), (8, u "LOG2_BYTE_BIT_SIZE"), (4, u "LOG2_ARRAY_INT_INDEX_SCALE"), (54, u "JLA"), (0, u "Ljdk/internal/access/JavaLangAccess;"), (11, u "LOG2_ARRAY_BOOLEAN_INDEX_SCALE"), (9, u "LOG2_ARRAY_BYTE_INDEX_SCALE"), (5, u "LOG2_ARRAY_CHAR_INDEX_SCALE"), (5, u "LOG2_ARRAY_SHORT_INDEX_SCALE"), (18, u "LOG2_ARRAY_FLOAT_INDEX_SCALE"), (24, u "LOG2_ARRAY_DOUBLE_INDEX_SCALE"), (89, u "T_BOOLEAN"), (2, u "T_CHAR"), (1, u "T_FLOAT"), (1, u "T_DOUBLE"), (1, u "T_BYTE"), (1, u "T_SHORT"), (1, u "T_INT"), (1, u "T_LONG"), (1, u "SOFT_MAX_ARRAY_LENGTH")] 83

def k13m0 : Method := { name := "<init>", desc := "()V", sig := { parameters := [], returnType := none }, accessFlags := 2, code := none }
/-- jdk/internal/util/ArraysSupport -/
def k13 : Class := { plain "jdk/internal/util/ArraysSupport" (some 0) with
  accessFlags := 33
  interfaces := #[]
  cf := some (fileOf pool13 21 #[] #[{ accessFlags := 2, nameIndex := 9, descriptorIndex := 19, attributes := #[] }] 33 16 #[] #[{ accessFlags := 24, nameIndex := 28, descriptorIndex := 29, attributes := #[] }, { accessFlags := 26, nameIndex := 38, descriptorIndex := 39, attributes := #[] }, { accessFlags := 25, nameIndex := 121, descriptorIndex := 25, attributes := #[] }, { accessFlags := 25, nameIndex := 131, descriptorIndex := 25, attributes := #[] }, { accessFlags := 25, nameIndex := 137, descriptorIndex := 25, attributes := #[] }, { accessFlags := 25, nameIndex := 143, descriptorIndex := 25, attributes := #[] }, { accessFlags := 25, nameIndex := 53, descriptorIndex := 25, attributes := #[] }, { accessFlags := 25, nameIndex := 24, descriptorIndex := 25, attributes := #[] }, { accessFlags := 25, nameIndex := 162, descriptorIndex := 25, attributes := #[] }, { accessFlags := 25, nameIndex := 187, descriptorIndex := 25, attributes := #[] }, { accessFlags := 26, nameIndex := 48, descriptorIndex := 25, attributes := #[] }, { accessFlags := 25, nameIndex := 277, descriptorIndex := 25, attributes := #[] }, { accessFlags := 25, nameIndex := 280, descriptorIndex := 25, attributes := #[] }, { accessFlags := 25, nameIndex := 282, descriptorIndex := 25, attributes := #[] }, { accessFlags := 25, nameIndex := 284, descriptorIndex := 25, attributes := #[] }, { accessFlags := 25, nameIndex := 286, descriptorIndex := 25, attributes := #[] }, { accessFlags := 25, nameIndex := 288, descriptorIndex := 25, attributes := #[] }, { accessFlags := 25, nameIndex := 290, descriptorIndex := 25, attributes := #[] }, { accessFlags := 25, nameIndex := 292, descriptorIndex := 25, attributes := #[] }, { accessFlags := 26, nameIndex := 108, descriptorIndex := 109, attributes := #[] }, { accessFlags := 25, nameIndex := 294, descriptorIndex := 25, attributes := #[] }])
  fields := #[{ name := "U", type := (.object "jdk/internal/misc/Unsafe"), accessFlags := 24, slot := 0, constantValue := 0 }, { name := "BIG_ENDIAN", type := .boolean, accessFlags := 26, slot := 1, constantValue := 0 }, { name := "LOG2_ARRAY_BOOLEAN_INDEX_SCALE", type := .int, accessFlags := 25, slot := 2, constantValue := 0 }, { name := "LOG2_ARRAY_BYTE_INDEX_SCALE", type := .int, accessFlags := 25, slot := 3, constantValue := 0 }, { name := "LOG2_ARRAY_CHAR_INDEX_SCALE", type := .int, accessFlags := 25, slot := 4, constantValue := 0 }, { name := "LOG2_ARRAY_SHORT_INDEX_SCALE", type := .int, accessFlags := 25, slot := 5, constantValue := 0 }, { name := "LOG2_ARRAY_INT_INDEX_SCALE", type := .int, accessFlags := 25, slot := 6, constantValue := 0 }, { name := "LOG2_ARRAY_LONG_INDEX_SCALE", type := .int, accessFlags := 25, slot := 7, constantValue := 0 }, { name := "LOG2_ARRAY_FLOAT_INDEX_SCALE", type := .int, accessFlags := 25, slot := 8, constantValue := 0 }, { name := "LOG2_ARRAY_DOUBLE_INDEX_SCALE", type := .int, accessFlags := 25, slot := 9, constantValue := 0 }, { name := "LOG2_BYTE_BIT_SIZE", type := .int, accessFlags := 26, slot := 10, constantValue := 0 }, { name := "T_BOOLEAN", type := .int, accessFlags := 25, slot := 11, constantValue := 0 }, { name := "T_CHAR", type := .int, accessFlags := 25, slot := 12, constantValue := 0 }, { name := "T_FLOAT", type := .int, accessFlags := 25, slot := 13, constantValue := 0 }, { name := "T_DOUBLE", type := .int, accessFlags := 25, slot := 14, constantValue := 0 }, { name := "T_BYTE", type := .int, accessFlags := 25, slot := 15, constantValue := 0 }, { name := "T_SHORT", type := .int, accessFlags := 25, slot := 16, constantValue := 0 }, { name := "T_INT", type := .int, accessFlags := 25, slot := 17, constantValue := 0 }, { name := "T_LONG", type := .int, accessFlags := 25, slot := 18, constantValue := 0 }, { name := "JLA", type := (.object "jdk/internal/access/JavaLangAccess"), accessFlags := 26, slot := 19, constantValue := 0 }, { name := "SOFT_MAX_ARRAY_LENGTH", type := .int, accessFlags := 25, slot := 20, constantValue := 0 }]
  methods := #[k13m0]
  instanceTypes := #[]
  staticTypes := #[(.object "jdk/internal/misc/Unsafe"), .boolean, .int, .int, .int, .int, .int, .int, .int, .int, .int, .int, .int, .int, .int, .int, .int, .int, .int, (.object "jdk/internal/access/JavaLangAccess"), .int]
  resolved := Array.replicate 378 none
  statics := none }

def pool14 : Array CpInfo := pool [(1, u "java/lang/Cloneable"), (0, .class_ 1), (0, u "java/lang/Object"), (0, .class_ 3)] 3

/-- java/lang/Cloneable -/
def k14 : Class := { plain "java/lang/Cloneable" (some 0) with
  accessFlags := 1537
  interfaces := #[]
  cf := some (fileOf pool14 2 #[] #[] 1537 4 #[] #[])
  fields := #[]
  methods := #[]
  instanceTypes := #[]
  staticTypes := #[]
  resolved := Array.replicate 8 none
  statics := none }

/-- the primitive byte -/
def k15 : Class := { plain "byte" none with kind := .primitive 'B', accessFlags := 0x411 }
/-- [B -/
def k16 : Class := { plain "[B" (some 0) with kind := .array 15 .byte, interfaces := #[14, 4], accessFlags := 1041 }

/-- the primitive char -/
def k17 : Class := { plain "char" none with kind := .primitive 'C', accessFlags := 0x411 }
/-- [C -/
def k18 : Class := { plain "[C" (some 0) with kind := .array 17 .char, interfaces := #[14, 4], accessFlags := 1041 }

/-- the primitive int -/
def k19 : Class := { plain "int" none with kind := .primitive 'I', accessFlags := 0x411 }
/-- [I -/
def k20 : Class := { plain "[I" (some 0) with kind := .array 19 .int, interfaces := #[14, 4], accessFlags := 1041 }

def heap : Heap := #[{ cls := 9, slots := #[.long 0, .int 1, .null, .int 0, .null, .int 0, .int 0], vm := .statics 9 },
  { cls := 12, slots := #[.null, .null, .null], vm := .statics 12 }]
def classes : Array Class := #[k0, k1, k2, k3, k4, k5, k6, k7, k8, k9, k10, k11, k12, k13, k14, k15, k16, k17, k18, k19, k20]
def interned : List (Array UInt16 × Addr) := []
def slotsUsed : Nat := 10
def theMethod : MethodId := ⟨1, 1⟩
def args0 : Array Value := #[.int 5, .int 5, .int 5, .int 5, .int 5]
def aboutOver (below : List Frame) : State where
  vm := { classes := classes, interned := interned.toArray }
  heap := heap
  slotsUsed := slotsUsed
  threads := #[{ frames := .invoking theMethod args0 :: below }]
def below0 : List Frame := [.native { method := ⟨0, 0⟩, args := #[] }]
def about1 : State := aboutOver below0
def p0 : Program := .bare "" "" ""
def e0 : Env := launch0.env 0 0 0
theorem w_frames : about1.frames = Frame.invoking theMethod args0 :: below0 := rfl
set_option maxRecDepth 65536 in
theorem w_args : argsFit about1.vm theMethod args0 = true := by decide +kernel
set_option maxRecDepth 65536 in
theorem w_heap : heapFits about1 = true := by decide +kernel
set_option maxRecDepth 65536 in
theorem w_runnable : about1.curStatus? = some .runnable := by decide +kernel
set_option maxRecDepth 65536 in
theorem w_alone : about1.alone = true := by decide +kernel
set_option maxRecDepth 65536 in
theorem w_named : about1.methodNamed? x = some theMethod := by decide +kernel
set_option maxRecDepth 65536 in
theorem w_hears : about1.hears theMethod below0 = true := by decide +kernel
set_option maxRecDepth 65536 in
theorem w_ripe : about1.ripe theMethod args0 below0 = true := by decide +kernel
theorem w_running : about1.status = .running := rfl
set_option maxRecDepth 65536 in
theorem w_room : about1.hasRoom e0.platform room_1 = true :=
  launch0.hasRoom_least _ room_1 (by decide +kernel) (by decide +kernel) (by decide +kernel) (by decide +kernel) (by decide +kernel) (by decide +kernel)
theorem allAtoms_all (ts : List Jvm.Cond) (a : Array Jvm.Value) (st : Jvm.State) : (allAtoms ts).before a st = ts.all (fun c => c.before a st) := by
  induction ts with
  | nil => rfl
  | cons c t ih =>
    show (Jvm.Cond.and c (allAtoms t)).before a st = _
    rw [Jvm.Cond.before_and, ih, List.all_cons]
def words1 : List Jvm.Cond := Jvm.Cond.code x code maxLocals ret :: tables_1
/-- a 'code' word, met by the world's own term for the bytes: nothing is compared byte by byte -/
theorem code_word {y : MethodName} {bytes : ByteArray} {mx : Nat} {rt : Option FieldType} {a : Array Value} {s : State} {m : MethodId} {meth : Method} {c : Code} (h1 : s.methodNamed? y = some m) (h2 : s.vm.method? m = some meth) (h3 : meth.code = some c) (h4 : c.code = bytes)
    (h5 : (c.maxLocals == mx && c.exceptionTable.isEmpty && decide (c.maxStack ≤ mostOperands) && decide (meth.sig.returnType = rt) && !meth.locks && decide (parseMethodDescriptor y.desc = some meth.sig)) = true) : (Jvm.Cond.code y bytes mx rt).before a s = true := by
  simp only [Bool.and_eq_true, beq_iff_eq, Bool.not_eq_true', decide_eq_true_eq] at h5
  obtain ⟨⟨⟨⟨⟨g1, g2⟩, g3⟩, g4⟩, g5⟩, g6⟩ := h5
  simp [Cond.before, Cond.holds, Cond.value, h1, h2, h3, h4, g1, g2, g3, g4, g5, g6]
def isCode : Jvm.Cond → Bool
  | .code _ _ _ _ => true
  | _ => false
theorem all_split {L : List Jvm.Cond} {P : Jvm.Cond → Bool} (h1 : L.all (fun c => isCode c || P c) = true) (h2 : ∀ c ∈ L.filter isCode, P c = true) : L.all P = true := by
  refine List.all_eq_true.mpr fun c hc => ?_
  have h := List.all_eq_true.mp h1 c hc
  rcases Bool.eq_false_or_eq_true (isCode c) with hi | hi
  · exact h2 c (List.mem_filter.mpr ⟨hc, hi⟩)
  · simpa [hi] using h
set_option maxRecDepth 65536 in
theorem w_c0 : (Jvm.Cond.code x code maxLocals ret).before args0 about1 = true := code_word (m := ⟨1, 1⟩) (meth := k1m1) (c := k1c1) (by decide +kernel) rfl rfl rfl (by decide +kernel)
set_option maxRecDepth 65536 in
theorem w_c1 : (Jvm.Cond.code ({ cls := "com/example/fedweave/fedweave/NameIdPolicyAllowsPinLaw", name := "make", desc := "(II)Ljava/lang/String;" } : Jvm.MethodName) method_3_code (2 : Nat) (Option.some (Jvm.ClassFile.FieldType.object "java/lang/String"))).before args0 about1 = true := code_word (m := ⟨1, 2⟩) (meth := k1m2) (c := k1c2) (by decide +kernel) rfl rfl rfl (by decide +kernel)
set_option maxRecDepth 65536 in
theorem w_c2 : (Jvm.Cond.code ({ cls := "com/example/fedweave/fedweave/AuthnRequest$NameIdPolicy", name := "<init>", desc := "(Ljava/lang/String;Ljava/lang/String;)V" } : Jvm.MethodName) prog_7_method_1_code (3 : Nat) (Option.none : Option Jvm.ClassFile.FieldType)).before args0 about1 = true := code_word (m := ⟨3, 0⟩) (meth := k3m0) (c := k3c0) (by decide +kernel) rfl rfl rfl (by decide +kernel)
set_option maxRecDepth 65536 in
theorem w_c3 : (Jvm.Cond.code ({ cls := "java/lang/Record", name := "<init>", desc := "()V" } : Jvm.MethodName) jdk_30_method_1_code (1 : Nat) (Option.none : Option Jvm.ClassFile.FieldType)).before args0 about1 = true := code_word (m := ⟨2, 0⟩) (meth := k2m0) (c := k2c0) (by decide +kernel) rfl rfl rfl (by decide +kernel)
set_option maxRecDepth 65536 in
theorem w_c4 : (Jvm.Cond.code ({ cls := "java/lang/Object", name := "<init>", desc := "()V" } : Jvm.MethodName) object_method_1_code (1 : Nat) (Option.none : Option Jvm.ClassFile.FieldType)).before args0 about1 = true := code_word (m := ⟨0, 0⟩) (meth := k0m0) (c := k0c0) (by decide +kernel) rfl rfl rfl (by decide +kernel)
set_option maxRecDepth 65536 in
theorem w_c5 : (Jvm.Cond.code ({ cls := "com/example/fedweave/fedweave/AuthnRequest$NameIdPolicy", name := "allows", desc := "(Ljava/lang/String;Ljava/lang/String;)Z" } : Jvm.MethodName) prog_7_method_2_code (3 : Nat) (Option.some Jvm.ClassFile.FieldType.boolean)).before args0 about1 = true := code_word (m := ⟨3, 1⟩) (meth := k3m1) (c := k3c1) (by decide +kernel) rfl rfl rfl (by decide +kernel)
set_option maxRecDepth 65536 in
theorem w_c6 : (Jvm.Cond.code ({ cls := "com/example/fedweave/fedweave/NameIdPolicyAllowsPinLaw", name := "drawn", desc := "(I)Ljava/lang/String;" } : Jvm.MethodName) method_5_code (2 : Nat) (Option.some (Jvm.ClassFile.FieldType.object "java/lang/String"))).before args0 about1 = true := code_word (m := ⟨1, 4⟩) (meth := k1m4) (c := k1c4) (by decide +kernel) rfl rfl rfl (by decide +kernel)
set_option maxRecDepth 65536 in
theorem w_c7 : (Jvm.Cond.code ({ cls := "java/lang/String", name := "<init>", desc := "([C)V" } : Jvm.MethodName) jdk_42_method_3_code (2 : Nat) (Option.none : Option Jvm.ClassFile.FieldType)).before args0 about1 = true := code_word (m := ⟨9, 1⟩) (meth := k9m1) (c := k9c1) (by decide +kernel) rfl rfl rfl (by decide +kernel)
set_option maxRecDepth 65536 in
theorem w_c8 : (Jvm.Cond.code ({ cls := "java/lang/String", name := "<init>", desc := "([CIILjava/lang/Void;)V" } : Jvm.MethodName) jdk_42_method_149_code (6 : Nat) (Option.none : Option Jvm.ClassFile.FieldType)).before args0 about1 = true := code_word (m := ⟨9, 4⟩) (meth := k9m4) (c := k9c4) (by decide +kernel) rfl rfl rfl (by decide +kernel)
set_option maxRecDepth 65536 in
theorem w_c9 : (Jvm.Cond.code ({ cls := "java/lang/String", name := "equals", desc := "(Ljava/lang/Object;)Z" } : Jvm.MethodName) jdk_42_method_66_code (3 : Nat) (Option.some Jvm.ClassFile.FieldType.boolean)).before args0 about1 = true := code_word (m := ⟨9, 2⟩) (meth := k9m2) (c := k9c2) (by decide +kernel) rfl rfl rfl (by decide +kernel)
set_option maxRecDepth 65536 in
theorem w_c10 : (Jvm.Cond.code ({ cls := "java/lang/StringLatin1", name := "equals", desc := "([B[B)Z" } : Jvm.MethodName) jdk_43_method_13_code (3 : Nat) (Option.some Jvm.ClassFile.FieldType.boolean)).before args0 about1 = true := code_word (m := ⟨10, 2⟩) (meth := k10m2) (c := k10c2) (by decide +kernel) rfl rfl rfl (by decide +kernel)
set_option maxRecDepth 65536 in
theorem w_c11 : (Jvm.Cond.code ({ cls := "com/example/fedweave/fedweave/NameIdPolicyAllowsPinLaw", name := "eq", desc := "(IIII)Z" } : Jvm.MethodName) method_6_code (4 : Nat) (Option.some Jvm.ClassFile.FieldType.boolean)).before args0 about1 = true := code_word (m := ⟨1, 5⟩) (meth := k1m5) (c := k1c5) (by decide +kernel) rfl rfl rfl (by decide +kernel)
set_option maxRecDepth 65536 in
theorem w_c12 : (Jvm.Cond.code ({ cls := "com/example/fedweave/fedweave/NameIdPolicyAllowsPinLaw", name := "ch", desc := "(II)C" } : Jvm.MethodName) method_4_code (2 : Nat) (Option.some Jvm.ClassFile.FieldType.char)).before args0 about1 = true := code_word (m := ⟨1, 3⟩) (meth := k1m3) (c := k1c3) (by decide +kernel) rfl rfl rfl (by decide +kernel)
set_option maxRecDepth 65536 in
theorem w_c13 : (Jvm.Cond.code ({ cls := "java/lang/String", name := "valueOf", desc := "(C)Ljava/lang/String;" } : Jvm.MethodName) jdk_42_method_139_code (1 : Nat) (Option.some (Jvm.ClassFile.FieldType.object "java/lang/String"))).before args0 about1 = true := code_word (m := ⟨9, 3⟩) (meth := k9m3) (c := k9c3) (by decide +kernel) rfl rfl rfl (by decide +kernel)
set_option maxRecDepth 65536 in
theorem w_c14 : (Jvm.Cond.code ({ cls := "java/lang/StringLatin1", name := "canEncode", desc := "(C)Z" } : Jvm.MethodName) jdk_43_method_3_code (1 : Nat) (Option.some Jvm.ClassFile.FieldType.boolean)).before args0 about1 = true := code_word (m := ⟨10, 1⟩) (meth := k10m1) (c := k10c1) (by decide +kernel) rfl rfl rfl (by decide +kernel)
set_option maxRecDepth 65536 in
theorem w_c15 : (Jvm.Cond.code ({ cls := "java/lang/StringLatin1", name := "toBytes", desc := "(C)[B" } : Jvm.MethodName) jdk_43_method_46_code (1 : Nat) (Option.some (Jvm.ClassFile.FieldType.array Jvm.ClassFile.FieldType.byte))).before args0 about1 = true := code_word (m := ⟨10, 3⟩) (meth := k10m3) (c := k10c3) (by decide +kernel) rfl rfl rfl (by decide +kernel)
set_option maxRecDepth 65536 in
theorem w_c16 : (Jvm.Cond.code ({ cls := "java/lang/String", name := "<init>", desc := "([BB)V" } : Jvm.MethodName) jdk_42_method_151_code (3 : Nat) (Option.none : Option Jvm.ClassFile.FieldType)).before args0 about1 = true := code_word (m := ⟨9, 5⟩) (meth := k9m5) (c := k9c5) (by decide +kernel) rfl rfl rfl (by decide +kernel)
set_option maxRecDepth 65536 in
theorem w_c17 : (Jvm.Cond.code ({ cls := "java/lang/StringUTF16", name := "compress", desc := "([CII)[B" } : Jvm.MethodName) jdk_52_method_16_code (6 : Nat) (Option.some (Jvm.ClassFile.FieldType.array Jvm.ClassFile.FieldType.byte))).before args0 about1 = true := code_word (m := ⟨11, 2⟩) (meth := k11m2) (c := k11c2) (by decide +kernel) rfl rfl rfl (by decide +kernel)
set_option maxRecDepth 65536 in
theorem w_c18 : (Jvm.Cond.code ({ cls := "java/lang/StringUTF16", name := "compress", desc := "([CI[BII)I" } : Jvm.MethodName) jdk_52_method_21_code (7 : Nat) (Option.some Jvm.ClassFile.FieldType.int)).before args0 about1 = true := code_word (m := ⟨11, 3⟩) (meth := k11m3) (c := k11c3) (by decide +kernel) rfl rfl rfl (by decide +kernel)
set_option maxRecDepth 65536 in
theorem w_c19 : (Jvm.Cond.code ({ cls := "java/lang/StringUTF16", name := "coderFromArrayLen", desc := "([BI)B" } : Jvm.MethodName) jdk_52_method_15_code (2 : Nat) (Option.some Jvm.ClassFile.FieldType.byte)).before args0 about1 = true := code_word (m := ⟨11, 1⟩) (meth := k11m1) (c := k11c1) (by decide +kernel) rfl rfl rfl (by decide +kernel)
set_option maxRecDepth 65536 in
theorem w_c20 : (Jvm.Cond.code ({ cls := "com/example/fedweave/fedweave/NameIdPolicyAllowsPinLaw", name := "drawnEq", desc := "(II)Z" } : Jvm.MethodName) method_7_code (4 : Nat) (Option.some Jvm.ClassFile.FieldType.boolean)).before args0 about1 = true := code_word (m := ⟨1, 6⟩) (meth := k1m6) (c := k1c6) (by decide +kernel) rfl rfl rfl (by decide +kernel)
def codes1 : List Jvm.Cond := [Jvm.Cond.code x code maxLocals ret, Jvm.Cond.code ({ cls := "com/example/fedweave/fedweave/NameIdPolicyAllowsPinLaw", name := "make", desc := "(II)Ljava/lang/String;" } : Jvm.MethodName) method_3_code (2 : Nat) (Option.some (Jvm.ClassFile.FieldType.object "java/lang/String")), Jvm.Cond.code ({ cls := "com/example/fedweave/fedweave/AuthnRequest$NameIdPolicy", name := "<init>", desc := "(Ljava/lang/String;Ljava/lang/String;)V" } : Jvm.MethodName) prog_7_method_1_code (3 : Nat) (Option.none : Option Jvm.ClassFile.FieldType), Jvm.Cond.code ({ cls := "java/lang/Record", name := "<init>", desc := "()V" } : Jvm.MethodName) jdk_30_method_1_code (1 : Nat) (Option.none : Option Jvm.ClassFile.FieldType), Jvm.Cond.code ({ cls := "java/lang/Object", name := "<init>", desc := "()V" } : Jvm.MethodName) object_method_1_code (1 : Nat) (Option.none : Option Jvm.ClassFile.FieldType), Jvm.Cond.code ({ cls := "com/example/fedweave/fedweave/AuthnRequest$NameIdPolicy", name := "allows", desc := "(Ljava/lang/String;Ljava/lang/String;)Z" } : Jvm.MethodName) prog_7_method_2_code (3 : Nat) (Option.some Jvm.ClassFile.FieldType.boolean), Jvm.Cond.code ({ cls := "com/example/fedweave/fedweave/NameIdPolicyAllowsPinLaw", name := "drawn", desc := "(I)Ljava/lang/String;" } : Jvm.MethodName) method_5_code (2 : Nat) (Option.some (Jvm.ClassFile.FieldType.object "java/lang/String")), Jvm.Cond.code ({ cls := "java/lang/String", name := "<init>", desc := "([C)V" } : Jvm.MethodName) jdk_42_method_3_code (2 : Nat) (Option.none : Option Jvm.ClassFile.FieldType), Jvm.Cond.code ({ cls := "java/lang/String", name := "<init>", desc := "([CIILjava/lang/Void;)V" } : Jvm.MethodName) jdk_42_method_149_code (6 : Nat) (Option.none : Option Jvm.ClassFile.FieldType), Jvm.Cond.code ({ cls := "java/lang/String", name := "equals", desc := "(Ljava/lang/Object;)Z" } : Jvm.MethodName) jdk_42_method_66_code (3 : Nat) (Option.some Jvm.ClassFile.FieldType.boolean), Jvm.Cond.code ({ cls := "java/lang/StringLatin1", name := "equals", desc := "([B[B)Z" } : Jvm.MethodName) jdk_43_method_13_code (3 : Nat) (Option.some Jvm.ClassFile.FieldType.boolean), Jvm.Cond.code ({ cls := "com/example/fedweave/fedweave/NameIdPolicyAllowsPinLaw", name := "eq", desc := "(IIII)Z" } : Jvm.MethodName) method_6_code (4 : Nat) (Option.some Jvm.ClassFile.FieldType.boolean), Jvm.Cond.code ({ cls := "com/example/fedweave/fedweave/NameIdPolicyAllowsPinLaw", name := "ch", desc := "(II)C" } : Jvm.MethodName) method_4_code (2 : Nat) (Option.some Jvm.ClassFile.FieldType.char), Jvm.Cond.code ({ cls := "java/lang/String", name := "valueOf", desc := "(C)Ljava/lang/String;" } : Jvm.MethodName) jdk_42_method_139_code (1 : Nat) (Option.some (Jvm.ClassFile.FieldType.object "java/lang/String")), Jvm.Cond.code ({ cls := "java/lang/StringLatin1", name := "canEncode", desc := "(C)Z" } : Jvm.MethodName) jdk_43_method_3_code (1 : Nat) (Option.some Jvm.ClassFile.FieldType.boolean), Jvm.Cond.code ({ cls := "java/lang/StringLatin1", name := "toBytes", desc := "(C)[B" } : Jvm.MethodName) jdk_43_method_46_code (1 : Nat) (Option.some (Jvm.ClassFile.FieldType.array Jvm.ClassFile.FieldType.byte)), Jvm.Cond.code ({ cls := "java/lang/String", name := "<init>", desc := "([BB)V" } : Jvm.MethodName) jdk_42_method_151_code (3 : Nat) (Option.none : Option Jvm.ClassFile.FieldType), Jvm.Cond.code ({ cls := "java/lang/StringUTF16", name := "compress", desc := "([CII)[B" } : Jvm.MethodName) jdk_52_method_16_code (6 : Nat) (Option.some (Jvm.ClassFile.FieldType.array Jvm.ClassFile.FieldType.byte)), Jvm.Cond.code ({ cls := "java/lang/StringUTF16", name := "compress", desc := "([CI[BII)I" } : Jvm.MethodName) jdk_52_method_21_code (7 : Nat) (Option.some Jvm.ClassFile.FieldType.int), Jvm.Cond.code ({ cls := "java/lang/StringUTF16", name := "coderFromArrayLen", desc := "([BI)B" } : Jvm.MethodName) jdk_52_method_15_code (2 : Nat) (Option.some Jvm.ClassFile.FieldType.byte), Jvm.Cond.code ({ cls := "com/example/fedweave/fedweave/NameIdPolicyAllowsPinLaw", name := "drawnEq", desc := "(II)Z" } : Jvm.MethodName) method_7_code (4 : Nat) (Option.some Jvm.ClassFile.FieldType.boolean)]
set_option maxRecDepth 65536 in
theorem codes_eq : words1.filter isCode = codes1 := rfl
theorem w_codes : ∀ c ∈ words1.filter isCode, c.before args0 about1 = true := by
  rw [codes_eq]
  intro c hc
  simp only [codes1, List.mem_cons, List.not_mem_nil, or_false] at hc
  rcases hc with rfl | rfl | rfl | rfl | rfl | rfl | rfl | rfl | rfl | rfl | rfl | rfl | rfl | rfl | rfl | rfl | rfl | rfl | rfl | rfl | rfl
  · exact w_c0
  · exact w_c1
  · exact w_c2
  · exact w_c3
  · exact w_c4
  · exact w_c5
  · exact w_c6
  · exact w_c7
  · exact w_c8
  · exact w_c9
  · exact w_c10
  · exact w_c11
  · exact w_c12
  · exact w_c13
  · exact w_c14
  · exact w_c15
  · exact w_c16
  · exact w_c17
  · exact w_c18
  · exact w_c19
  · exact w_c20
set_option maxRecDepth 65536 in
theorem w_t1 : (words1.take 24).all (fun c => isCode c || c.before args0 about1) = true := by decide +kernel
set_option maxRecDepth 65536 in
theorem w_t2 : ((words1.drop 24).take 24).all (fun c => isCode c || c.before args0 about1) = true := by decide +kernel
set_option maxRecDepth 65536 in
theorem w_t3 : (((words1.drop 24).drop 24).take 24).all (fun c => isCode c || c.before args0 about1) = true := by decide +kernel
set_option maxRecDepth 65536 in
theorem w_t4 : (((words1.drop 24).drop 24).drop 24).all (fun c => isCode c || c.before args0 about1) = true := by decide +kernel
theorem w_tables : (allAtoms (Jvm.Cond.code x code maxLocals ret :: tables_1)).before args0 about1 = true := by
  rw [allAtoms_all]
  show words1.all (fun c => c.before args0 about1) = true
  refine all_split ?_ w_codes
  rw [← List.take_append_drop 24 words1, List.all_append, w_t1, ← List.take_append_drop 24 (words1.drop 24), List.all_append, w_t2, ← List.take_append_drop 24 ((words1.drop 24).drop 24), List.all_append, w_t3, w_t4]
  rfl
set_option maxRecDepth 65536 in
theorem w_rest : rest_1_c.before args0 about1 = true := by decide +kernel
set_option maxRecDepth 65536 in
theorem w_case : (Jvm.Cond.and given_1 narrow_1).before args0 about1 = true := by decide +kernel
set_option maxRecDepth 65536 in
theorem w_consts : constsHeld consts_1 about1 := Jvm.Lit.constsHeldB_iff.mp (by decide +kernel)
theorem w_applies : (headSpec (Jvm.Cond.code x code maxLocals ret :: tables_1) room_1).applies x e0.platform about1 = true :=
  (Spec.applies_iff w_frames).mpr ⟨w_running, w_runnable, w_alone, w_named, w_hears, w_ripe, w_room, w_tables⟩
theorem atStart : AtStart classFile x code maxLocals ret World_1 tables_1 room_1 Calls_1 rest_1 Pre_1 launch0 p0 e0 about1 theMethod args0 below0 :=
  ⟨lists_1, trivial, launch0.admits_env _ _ _, launch0.least_env, fairChoices_fair.cas, fairChoices_fair.clock, w_frames, w_args, w_heap, w_applies, ⟨w_consts, trivial⟩, w_rest, w_case⟩
end start1
theorem witness_1 : WitnessClaimed_1 := ⟨start1.p0, start1.e0, start1.about1, start1.theMethod, start1.args0, start1.below0, start1.atStart⟩
end Jvm.Pilot.@@N@@
