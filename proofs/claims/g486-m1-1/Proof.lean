import JvmDerived
import JvmDerived.Pilot.@@N@@Statement
import JvmDerived.Pilot.@@N@@Code
set_option linter.unusedVariables false
set_option linter.unusedSimpArgs false
/- laws to paste: Road.backV, Road.lenW, Road.chN, Road.eqW, Road.codOf (cut by pick.py; bodies as the Statement names them) -/
namespace Jvm.Pilot.@@N@@
namespace StrChars
open Jvm Sem ClassFile Op Lib Jvm.Stand Jvm.Free.XT Jvm.Free.ALB Jvm.Free.JM Jvm.Free
open Jvm.Lib.Cold (StaticIs)
/-- a char array whose places are chars -/
def Ch (a : Addr) (A : Cell) (U : State) : Prop := Arr .char a A U ∧ Typed .char A
theorem Ch.mv {a : Addr} {A : Cell} {U U' : State} (h : Ch a A U) (hal : U.vm.Alike U'.vm) (hh : U'.heap = U.heap) : Ch a A U' := ⟨h.1.mv hal hh, h.2⟩
theorem Ch.keep {a : Addr} {A : Cell} {U U' : State} (h : Ch a A U) (hal : U.vm.Alike U'.vm) (hk : U'.heap[a]? = some A) : Ch a A U' := ⟨h.1.keep hal hk, h.2⟩
/-- what place i of a char[]'s cell holds -/
def cv (A : Cell) (i : Nat) : Int32 := match A.slots[i]? with | some (.int x) => x | _ => 0
theorem Ch.get {a : Addr} {A : Cell} {U : State} (h : Ch a A U) {i : Nat} (hi : i < A.slots.size) : A.slots[i]? = some (.int (cv A i)) := by
  have e := Array.getElem?_eq_getElem hi
  have f := h.2 i _ e
  unfold cv; rw [e]
  generalize A.slots[i] = v at f
  cases v <;> simp [fits] at f ⊢
/-- the byte that i2b leaves of a char -/
def lo8 (x : Int32) : Int32 := x.toInt8.toInt32
theorem fits_lo8 (y : Int32) : fits .byte (.int (lo8 y)) = true := by
  have h1 := y.toInt8.le_toInt
  have h2 := y.toInt8.toInt_lt
  simp only [lo8, fits, Bool.and_eq_true, decide_eq_true_eq, Int32.le_iff_toInt_le, Int8.toInt_toInt32, show (-128 : Int32).toInt = -128 from by decide, show (127 : Int32).toInt = 127 from by decide]
  omega
/-- A' is A but that each place j of lo .. hi - 1 holds f j -/
def Laid (A A' : Cell) (lo hi : Nat) (f : Nat → Value) : Prop := A'.cls = A.cls ∧ A'.vm = A.vm ∧ A'.slots.size = A.slots.size ∧ ∀ i, A'.slots[i]? = if lo ≤ i ∧ i < hi then some (f i) else A.slots[i]?
theorem Laid.zero (A : Cell) (lo : Nat) (f : Nat → Value) : Laid A A lo (lo + 0) f := ⟨rfl, rfl, rfl, fun i => by rw [if_neg (by omega)]⟩
theorem Laid.step {A Ak : Cell} {lo k : Nat} {f : Nat → Value} {v : Value} (h : Laid A Ak lo k f) (hlo : lo ≤ k) (hk : k < Ak.slots.size) (hv : v = f k) : Laid A (Ak.setSlot k v) lo (k + 1) f := by
  refine ⟨h.1, h.2.1, by simpa [Cell.setSlot] using h.2.2.1, fun i => ?_⟩
  by_cases e : k = i
  · subst e; rw [Cell.slots_setSlot_self v hk, if_pos (by omega), hv]
  · rw [Cell.slots_setSlot_ne v e, h.2.2.2 i]
    by_cases q : lo ≤ i ∧ i < k
    · rw [if_pos q, if_pos (by omega)]
    · rw [if_neg q, if_neg (by omega)]
def U16 : String := "java/lang/StringUTF16"
namespace Cmp5
def yN : MethodName := ⟨"java/lang/StringUTF16", "compress", "([CI[BII)I"⟩
abbrev yB : ByteArray := jdk_52_method_21_code
theorem d0 : decode yB 0 = .ok (.iconst 0, 1) := by decide +kernel
theorem d1 : decode yB 1 = .ok (.istore 5, 2) := by decide +kernel
theorem d3 : decode yB 3 = .ok (.iload 5, 2) := by decide +kernel
theorem d5 : decode yB 5 = .ok (.iload 4, 2) := by decide +kernel
theorem d7 : decode yB 7 = .ok (.if_icmp (.ge) 37, 3) := by decide +kernel
theorem d10 : decode yB 10 = .ok (.aload_n 0, 1) := by decide +kernel
theorem d11 : decode yB 11 = .ok (.iload_n 1, 1) := by decide +kernel
theorem d12 : decode yB 12 = .ok (.caload, 1) := by decide +kernel
theorem d13 : decode yB 13 = .ok (.istore 6, 2) := by decide +kernel
theorem d15 : decode yB 15 = .ok (.iload 6, 2) := by decide +kernel
theorem d17 : decode yB 17 = .ok (.sipush 255, 3) := by decide +kernel
theorem d20 : decode yB 20 = .ok (.if_icmp (.le) 6, 3) := by decide +kernel
theorem d26 : decode yB 26 = .ok (.aload_n 2, 1) := by decide +kernel
theorem d27 : decode yB 27 = .ok (.iload_n 3, 1) := by decide +kernel
theorem d28 : decode yB 28 = .ok (.iload 6, 2) := by decide +kernel
theorem d30 : decode yB 30 = .ok (.i2b, 1) := by decide +kernel
theorem d31 : decode yB 31 = .ok (.bastore, 1) := by decide +kernel
theorem d32 : decode yB 32 = .ok (.iinc 1 1, 3) := by decide +kernel
theorem d35 : decode yB 35 = .ok (.iinc 3 1, 3) := by decide +kernel
theorem d38 : decode yB 38 = .ok (.iinc 5 1, 3) := by decide +kernel
theorem d41 : decode yB 41 = .ok (.goto (-38), 3) := by decide +kernel
theorem d44 : decode yB 44 = .ok (.iload 4, 2) := by decide +kernel
theorem d46 : decode yB 46 = .ok (.ireturn, 1) := by decide +kernel
def site : List Cond := []
def tab : Cond := tabOf yN yB 7 (some .int) site
def P (b : Addr) (A : Cell) (d : Addr) (B : Cell) (o q len : Nat) (args : Array Value) (s : State) : Prop := args = #[.ref b, .int (Int32.ofNat o), .ref d, .int (Int32.ofNat q), .int (Int32.ofNat len)] ∧ Ch b A s ∧ Arr .byte d B s ∧ b ≠ d ∧ o + len ≤ A.slots.size ∧ q + len ≤ B.slots.size ∧ ∀ i, i < len → ¬ 255 < cv A (o + i)
def E (b : Addr) (A : Cell) (d : Addr) (B : Cell) (o q len : Nat) (r : Option Value) (s u : State) : Prop := r = some (.int (Int32.ofNat len)) ∧ ∃ B', Put d B' s u ∧ Laid B B' q (q + len) (fun j => Value.int (lo8 (cv A (o + (j - q)))))
/-- no char of the range above 255: len; the places written hold each char's low byte -/
theorem law (l : Launch) (b : Addr) (A : Cell) (d : Addr) (B : Cell) (o q len : Nat) : Law l yN 5 5 0 0 yB 7 (some .int) site (P b A d B o q len) (E b A d B o q len) (copyLocs d q len) 0 0 := by
  refine Law.of_walk (plainFor_of_name (by decide +kernel)) (by decide +kernel) (by decide +kernel) (by decide) (fun _ _ h => by rw [h.1]; rfl) (fun _ U U' hal hh h => ⟨h.1, h.2.1.mv hal hh, h.2.2.1.mv hal hh, h.2.2.2⟩) (fun r U U' V V' h1 hal h2 h => ⟨h.1, h.2.elim fun B' q => ⟨B', q.1.mv h1 h2, q.2⟩⟩) ?_
  intro p e s m args below meth c s₁ X0 hexec hbytes hml hret hlk hnm hown hh0 W hP
  obtain ⟨rfl, hA, hB, hne, l1, l2, hp⟩ := hP
  have c1 : Steps p.tables e below (s₁.setTop (entryFrame m #[.ref b, .int (Int32.ofNat o), .ref d, .int (Int32.ofNat q), .int (Int32.ofNat len)] 7)) (s₁.setTop (mkF m 0 #[.val (.ref b), .val (.int (Int32.ofNat o)), .val (.ref d), .val (.int (Int32.ofNat q)), .val (.int (Int32.ofNat len)), .unset, .unset] [])) := entry rfl
  have hA0 := hA.1.mv X0.warmed.alike hh0
  have hB0 := hB.mv X0.warmed.alike hh0
  have a31 := hA.1.2.2.2
  have c2 : Steps p.tables e below (s₁.setTop (entryFrame m #[.ref b, .int (Int32.ofNat o), .ref d, .int (Int32.ofNat q), .int (Int32.ofNat len)] 7)) (s₁.setTop (mkF m 3 #[.val (.ref b), .val (.int (Int32.ofNat o)), .val (.ref d), .val (.int (Int32.ofNat q)), .val (.int (Int32.ofNat len)), .val (.int 0), .unset] [])) := c1.trans (by
    refine iconstV X0.here hexec rfl 0 (hb hbytes d0) (by decide) ?_
    refine XS.istore X0.here hexec rfl (hb hbytes d1) rfl rfl ?_
    exact Steps.refl _)
  have loop : ∀ (r i : Nat), i + r = len → ∀ (z : Slot), (z = .unset ∨ ∃ w, z = .val w ∧ w.category = 1) → ∀ (Tl : State) (Bk : Cell), Stand p l e { frames := 0, locals := 0, cells := 0, slots := 0 } s m #[.ref b, .int (Int32.ofNat o), .ref d, .int (Int32.ofNat q), .int (Int32.ofNat len)] below meth c Tl ([] ++ copyLocs d q i) 0 0 → Put d Bk s₁ Tl → Laid B Bk q (q + i) (fun j => Value.int (lo8 (cv A (o + (j - q))))) →
      Steps p.tables e below (s₁.setTop (entryFrame m #[.ref b, .int (Int32.ofNat o), .ref d, .int (Int32.ofNat q), .int (Int32.ofNat len)] 7)) (Tl.setTop (mkF m 3 #[.val (.ref b), .val (.int (Int32.ofNat (o + i))), .val (.ref d), .val (.int (Int32.ofNat (q + i))), .val (.int (Int32.ofNat len)), .val (.int (Int32.ofNat i)), z] [])) → ∃ (T' : State) (B' : Cell) (z' : Slot), Stand p l e { frames := 0, locals := 0, cells := 0, slots := 0 } s m #[.ref b, .int (Int32.ofNat o), .ref d, .int (Int32.ofNat q), .int (Int32.ofNat len)] below meth c T' ([] ++ copyLocs d q len) 0 0 ∧ Put d B' s₁ T' ∧ Laid B B' q (q + len) (fun j => Value.int (lo8 (cv A (o + (j - q))))) ∧
      Steps p.tables e below (s₁.setTop (entryFrame m #[.ref b, .int (Int32.ofNat o), .ref d, .int (Int32.ofNat q), .int (Int32.ofNat len)] 7)) (T'.setTop (mkF m 3 #[.val (.ref b), .val (.int (Int32.ofNat (o + len))), .val (.ref d), .val (.int (Int32.ofNat (q + len))), .val (.int (Int32.ofNat len)), .val (.int (Int32.ofNat len)), z'] [])) := by
    intro r
    induction r with
    | zero =>
      intro i hi z hz Tl Bk Xl pl fl cl
      have hil : i = len := by omega
      rw [hil] at Xl fl cl
      exact ⟨Tl, Bk, z, Xl, pl, fl, cl⟩
    | succ r ih =>
      intro i hi z hz Tl Bk Xl pl fl cl
      have all := X0.warmed.alike.symm.trans Xl.warmed.alike
      have hAl := hA0.keep all (pl.other hne hA0.1)
      have hBk := hB0.like all pl.1 fl.1 fl.2.1 fl.2.2.1
      have hlt : q + i < Bk.slots.size := by rw [fl.2.2.1]; omega
      have c3 : Steps p.tables e below (s₁.setTop (entryFrame m #[.ref b, .int (Int32.ofNat o), .ref d, .int (Int32.ofNat q), .int (Int32.ofNat len)] 7)) (Tl.setTop (mkF m 12 #[.val (.ref b), .val (.int (Int32.ofNat (o + i))), .val (.ref d), .val (.int (Int32.ofNat (q + i))), .val (.int (Int32.ofNat len)), .val (.int (Int32.ofNat i)), z] [.int (Int32.ofNat (o + i)), .ref b])) := cl.trans (by
        refine XS.iload Xl.here hexec rfl (hb hbytes d3) rfl ?_
        refine XS.iload Xl.here hexec rfl (hb hbytes d5) rfl ?_
        refine XS.icmpNo Xl.here hexec rfl (hb hbytes d7) rfl (ii_ge_f (lt32 (by omega) (by omega))) ?_
        refine XS.aloadN Xl.here hexec rfl (hb hbytes d10) rfl rfl ?_
        refine XS.iloadN Xl.here hexec rfl (hb hbytes d11) rfl ?_
        exact Steps.refl _)
      have c4 : Steps p.tables e below (s₁.setTop (entryFrame m #[.ref b, .int (Int32.ofNat o), .ref d, .int (Int32.ofNat q), .int (Int32.ofNat len)] 7)) (Tl.setTop (mkF m 13 #[.val (.ref b), .val (.int (Int32.ofNat (o + i))), .val (.ref d), .val (.int (Int32.ofNat (q + i))), .val (.int (Int32.ofNat len)), .val (.int (Int32.ofNat i)), z] [.int (cv A (o + i))])) := c3.trans (by
        refine Xl.aget hexec hAl rfl (hA.get (i := o + i) (by omega)) rfl rfl (hb hbytes d12) ?_
        exact Steps.refl _)
      have c5 : Steps p.tables e below (s₁.setTop (entryFrame m #[.ref b, .int (Int32.ofNat o), .ref d, .int (Int32.ofNat q), .int (Int32.ofNat len)] 7)) (Tl.setTop (mkF m 15 #[.val (.ref b), .val (.int (Int32.ofNat (o + i))), .val (.ref d), .val (.int (Int32.ofNat (q + i))), .val (.int (Int32.ofNat len)), .val (.int (Int32.ofNat i)), .val (.int (cv A (o + i)))] [])) := c4.trans (by
        refine XS.istoreS Xl.here hexec rfl (hb hbytes d13) rfl rfl hz ?_
        exact Steps.refl _)
      have c6 : Steps p.tables e below (s₁.setTop (entryFrame m #[.ref b, .int (Int32.ofNat o), .ref d, .int (Int32.ofNat q), .int (Int32.ofNat len)] 7)) (Tl.setTop (mkF m 31 #[.val (.ref b), .val (.int (Int32.ofNat (o + i))), .val (.ref d), .val (.int (Int32.ofNat (q + i))), .val (.int (Int32.ofNat len)), .val (.int (Int32.ofNat i)), .val (.int (cv A (o + i)))] [.int (lo8 (cv A (o + i))), .int (Int32.ofNat (q + i)), .ref d])) := c5.trans (by
        refine XS.iload Xl.here hexec rfl (hb hbytes d15) rfl ?_
        refine sipushV Xl.here hexec rfl 255 (hb hbytes d17) (by decide) ?_
        refine XS.icmpYes Xl.here hexec rfl (pc0 := 20) rfl (hb hbytes d20) rfl (ii_le_t (hp i (by omega))) (by decide) rfl ?_
        refine XS.aloadN Xl.here hexec rfl (hb hbytes d26) rfl rfl ?_
        refine XS.iloadN Xl.here hexec rfl (hb hbytes d27) rfl ?_
        refine XS.iload Xl.here hexec rfl (hb hbytes d28) rfl ?_
        refine i2b Xl.here hexec rfl (hb hbytes d30) rfl ?_
        exact Steps.refl _)
      obtain ⟨T7, X7, p7, st7⟩ := Xl.aput hexec hBk rfl hlt rfl (fits_lo8 (cv A (o + i))) (g := (mkF m 31 #[.val (.ref b), .val (.int (Int32.ofNat (o + i))), .val (.ref d), .val (.int (Int32.ofNat (q + i))), .val (.int (Int32.ofNat len)), .val (.int (Int32.ofNat i)), .val (.int (cv A (o + i)))] [.int (lo8 (cv A (o + i))), .int (Int32.ofNat (q + i)), .ref d])) rfl (rest := []) rfl (hb hbytes d31)
      have c8 : Steps p.tables e below (s₁.setTop (entryFrame m #[.ref b, .int (Int32.ofNat o), .ref d, .int (Int32.ofNat q), .int (Int32.ofNat len)] 7)) (T7.setTop (mkF m 32 #[.val (.ref b), .val (.int (Int32.ofNat (o + i))), .val (.ref d), .val (.int (Int32.ofNat (q + i))), .val (.int (Int32.ofNat len)), .val (.int (Int32.ofNat i)), .val (.int (cv A (o + i)))] [])) := c6.trans (st7 _ (Steps.refl _))
      have c9 : Steps p.tables e below (s₁.setTop (entryFrame m #[.ref b, .int (Int32.ofNat o), .ref d, .int (Int32.ofNat q), .int (Int32.ofNat len)] 7)) (T7.setTop (mkF m 3 #[.val (.ref b), .val (.int (Int32.ofNat (o + i) + 1)), .val (.ref d), .val (.int (Int32.ofNat (q + i) + 1)), .val (.int (Int32.ofNat len)), .val (.int (Int32.ofNat i + 1)), .val (.int (cv A (o + i)))] [])) := c8.trans (by
        refine iincV X7.here hexec rfl 1 (hb hbytes d32) (by decide) rfl rfl ?_
        refine iincV X7.here hexec rfl 1 (hb hbytes d35) (by decide) rfl rfl ?_
        refine iincV X7.here hexec rfl 1 (hb hbytes d38) (by decide) rfl rfl ?_
        refine XS.goto X7.here hexec rfl (pc0 := 41) rfl (hb hbytes d41) (by decide) rfl ?_
        exact Steps.refl _)
      have c10 : Steps p.tables e below (s₁.setTop (entryFrame m #[.ref b, .int (Int32.ofNat o), .ref d, .int (Int32.ofNat q), .int (Int32.ofNat len)] 7)) (T7.setTop (mkF m 3 #[.val (.ref b), .val (.int (Int32.ofNat (o + (i + 1)))), .val (.ref d), .val (.int (Int32.ofNat (q + (i + 1)))), .val (.int (Int32.ofNat len)), .val (.int (Int32.ofNat (i + 1))), .val (.int (cv A (o + i)))] [])) := by
        have := c9
        rw [succ32, succ32, succ32] at this
        exact this
      exact ih (i + 1) (by omega) _ (Or.inr ⟨_, rfl, rfl⟩) T7 _ (by rw [copyLocs_step, ← List.append_assoc]; exact X7) (pl.trans p7) (fl.step (by omega) hlt (by simp)) c10
  obtain ⟨T9, B9, z9, X9, p9, f9, g9⟩ := loop len 0 (by omega) .unset (Or.inl rfl) s₁ B (by simpa [copyLocs] using X0) ⟨hB0.1, fun _ _ => rfl, rfl⟩ (Laid.zero _ _ _) c2
  have c11 : Steps p.tables e below (s₁.setTop (entryFrame m #[.ref b, .int (Int32.ofNat o), .ref d, .int (Int32.ofNat q), .int (Int32.ofNat len)] 7)) (T9.setTop (mkF m 46 #[.val (.ref b), .val (.int (Int32.ofNat (o + len))), .val (.ref d), .val (.int (Int32.ofNat (q + len))), .val (.int (Int32.ofNat len)), .val (.int (Int32.ofNat len)), z9] [.int (Int32.ofNat len)])) := g9.trans (by
    refine XS.iload X9.here hexec rfl (hb hbytes d3) rfl ?_
    refine XS.iload X9.here hexec rfl (hb hbytes d5) rfl ?_
    refine XS.icmpYes X9.here hexec rfl (pc0 := 7) rfl (hb hbytes d7) rfl (ii_ge_t (nlt32 (by omega) (Nat.le_refl _))) (by decide) rfl ?_
    refine XS.iload X9.here hexec rfl (hb hbytes d44) rfl ?_
    exact Steps.refl _)
  exact ⟨T9, some (.int (Int32.ofNat len)), _, _, _, X9, by simp, rfl, rfl, (fun h => by cases h), ⟨rfl, B9, p9.from hh0, f9⟩, fun fs hl => c11.trans (X9.ireturnOut hexec hret rfl (Or.inl rfl) (hb hbytes d46) hl)⟩
end Cmp5
namespace Cmp3
def yN : MethodName := ⟨"java/lang/StringUTF16", "compress", "([CII)[B"⟩
abbrev yB : ByteArray := jdk_52_method_16_code
theorem d0 : decode yB 0 = .ok (.iload_n 2, 1) := by decide +kernel
theorem d1 : decode yB 1 = .ok (.newarray .byte, 2) := by decide +kernel
theorem d3 : decode yB 3 = .ok (.astore_n 3, 1) := by decide +kernel
theorem d4 : decode yB 4 = .ok (.aload_n 0, 1) := by decide +kernel
theorem d5 : decode yB 5 = .ok (.iload_n 1, 1) := by decide +kernel
theorem d6 : decode yB 6 = .ok (.aload_n 3, 1) := by decide +kernel
theorem d7 : decode yB 7 = .ok (.iconst 0, 1) := by decide +kernel
theorem d8 : decode yB 8 = .ok (.iload_n 2, 1) := by decide +kernel
theorem d9 : decode yB 9 = .ok (.invokestatic 115, 3) := by decide +kernel
theorem d12 : decode yB 12 = .ok (.istore 4, 2) := by decide +kernel
theorem d14 : decode yB 14 = .ok (.iload 4, 2) := by decide +kernel
theorem d16 : decode yB 16 = .ok (.iload_n 2, 1) := by decide +kernel
theorem d17 : decode yB 17 = .ok (.if_icmp (.eq) 40, 3) := by decide +kernel
theorem d57 : decode yB 57 = .ok (.aload_n 3, 1) := by decide +kernel
theorem d58 : decode yB 58 = .ok (.areturn, 1) := by decide +kernel
def site : List Cond := [.arrayClass .byte, Cmp5.tab] ++ staticW U16 115 Cmp5.yN
def tab : Cond := tabOf yN yB 6 (some (.array .byte)) site
def P (b : Addr) (A : Cell) (o len : Nat) (args : Array Value) (s : State) : Prop := args = #[.ref b, .int (Int32.ofNat o), .int (Int32.ofNat len)] ∧ Ch b A s ∧ o + len ≤ A.slots.size ∧ len ≤ 536870912 ∧ ∀ i, i < len → ¬ 255 < cv A (o + i)
def E (b : Addr) (A : Cell) (o len : Nat) (r : Option Value) (s u : State) : Prop := NewArr .byte "[B" len (fun j => .int (lo8 (cv A (o + j)))) r s u ∧ u.heap.size = s.heap.size + 1
/-- no char of the range above 255: a new byte[] of their low bytes -/
theorem law (l : Launch) (b : Addr) (A : Cell) (o len : Nat) : Law l yN 3 3 1 18 yB 6 (some (.array .byte)) site (P b A o len) (E b A o len) [] 1 len := by
  refine Law.of_walk (plainFor_of_name (by decide +kernel)) (by decide +kernel) (by decide +kernel) (by decide) (fun _ _ h => by rw [h.1]; rfl) (fun _ U U' hal hh h => ⟨h.1, h.2.1.mv hal hh, h.2.2⟩) (fun r U U' V V' h1 hal h2 h => ⟨NewArr.mv r U U' V V' h1 hal h2 h.1, by rw [h1, h2]; exact h.2⟩) ?_
  intro p e s m args below meth c s₁ X0 hexec hbytes hml hret hlk hnm hown hh0 W hP
  obtain ⟨rfl, hA, l1, l2, hp⟩ := hP
  have a31 := hA.1.2.2.2
  have c1 : Steps p.tables e below (s₁.setTop (entryFrame m #[.ref b, .int (Int32.ofNat o), .int (Int32.ofNat len)] 6)) (s₁.setTop (mkF m 0 #[.val (.ref b), .val (.int (Int32.ofNat o)), .val (.int (Int32.ofNat len)), .unset, .unset, .unset] [])) := entry rfl
  have c2 : Steps p.tables e below (s₁.setTop (entryFrame m #[.ref b, .int (Int32.ofNat o), .int (Int32.ofNat len)] 6)) (s₁.setTop (mkF m 1 #[.val (.ref b), .val (.int (Int32.ofNat o)), .val (.int (Int32.ofNat len)), .unset, .unset, .unset] [.int (Int32.ofNat len)])) := c1.trans (by
    refine XS.iloadN X0.here hexec rfl (hb hbytes d0) rfl ?_
    exact Steps.refl _)
  obtain ⟨T3, B3, X3, ba3, bs3, bv3, bh3, bf3, st3⟩ := X0.anew hexec (atype := .byte) (wk W (.arrayClass .byte)) rfl (by show len * 1 ≤ _; omega) (by omega) (g := (mkF m 1 #[.val (.ref b), .val (.int (Int32.ofNat o)), .val (.int (Int32.ofNat len)), .unset, .unset, .unset] [.int (Int32.ofNat len)])) rfl (hb hbytes d1) (rest := []) rfl (Nat.le_refl _) (by show 0 + len ≤ len; omega)
  rw [hh0] at ba3 st3
  have kp3 : XT.Kept s T3 := (XT.Kept.of_eq hh0).push bh3
  have hA3 := hA.keep X3.warmed.alike (kp3 _ _ hA.1.1)
  have hne : b ≠ s.heap.size := hA.1.ne
  have c4 : Steps p.tables e below (s₁.setTop (entryFrame m #[.ref b, .int (Int32.ofNat o), .int (Int32.ofNat len)] 6)) (T3.setTop (mkF m 3 #[.val (.ref b), .val (.int (Int32.ofNat o)), .val (.int (Int32.ofNat len)), .unset, .unset, .unset] [.ref s.heap.size])) := c2.trans (st3 _ (Steps.refl _))
  have c5 : Steps p.tables e below (s₁.setTop (entryFrame m #[.ref b, .int (Int32.ofNat o), .int (Int32.ofNat len)] 6)) (T3.setTop (mkF m 9 #[.val (.ref b), .val (.int (Int32.ofNat o)), .val (.int (Int32.ofNat len)), .val (.ref s.heap.size), .unset, .unset] [.int (Int32.ofNat len), .int 0, .ref s.heap.size, .int (Int32.ofNat o), .ref b])) := c4.trans (by
    refine XS.astoreN X3.here hexec rfl (hb hbytes d3) rfl rfl rfl ?_
    refine XS.aloadN X3.here hexec rfl (hb hbytes d4) rfl rfl ?_
    refine XS.iloadN X3.here hexec rfl (hb hbytes d5) rfl ?_
    refine XS.aloadN X3.here hexec rfl (hb hbytes d6) rfl rfl ?_
    refine iconstV X3.here hexec rfl 0 (hb hbytes d7) (by decide) ?_
    refine XS.iloadN X3.here hexec rfl (hb hbytes d8) rfl ?_
    exact Steps.refl _)
  obtain ⟨v6, T6, X6, E6, g6⟩ := X3.callS hexec (Cmp5.law l b A s.heap.size B3 o 0 len) hown (wks W (staticW U16 115 Cmp5.yN)) (wk W Cmp5.tab) (W := 0) (Nat.le_of_ble_eq_true rfl) (Nat.le_of_ble_eq_true rfl) (Nat.le_refl _) (by show 0 + len + 0 ≤ len; omega) (g := (mkF m 9 #[.val (.ref b), .val (.int (Int32.ofNat o)), .val (.int (Int32.ofNat len)), .val (.ref s.heap.size), .unset, .unset] [.int (Int32.ofNat len), .int (Int32.ofNat 0), .ref s.heap.size, .int (Int32.ofNat o), .ref b])) rfl (by rw [hml]; rfl) c5 (argsL := [.ref b, .int (Int32.ofNat o), .ref s.heap.size, .int (Int32.ofNat 0), .int (Int32.ofNat len)]) (rest := []) rfl rfl (by show 2 * 0 + 0 ≤ _; decide) (hb hbytes d9) (⟨rfl, hA3, ba3, hne, l1, by rw [bs3]; simp, hp⟩)
  obtain ⟨rfl, B6, p6, f6⟩ := E6
  have c7 : Steps p.tables e below (s₁.setTop (entryFrame m #[.ref b, .int (Int32.ofNat o), .int (Int32.ofNat len)] 6)) (T6.setTop (mkF m 12 #[.val (.ref b), .val (.int (Int32.ofNat o)), .val (.int (Int32.ofNat len)), .val (.ref s.heap.size), .unset, .unset] [.int (Int32.ofNat len)])) := g6
  have c8 : Steps p.tables e below (s₁.setTop (entryFrame m #[.ref b, .int (Int32.ofNat o), .int (Int32.ofNat len)] 6)) (T6.setTop (mkF m 58 #[.val (.ref b), .val (.int (Int32.ofNat o)), .val (.int (Int32.ofNat len)), .val (.ref s.heap.size), .val (.int (Int32.ofNat len)), .unset] [.ref s.heap.size])) := c7.trans (by
    refine XS.istore X6.here hexec rfl (hb hbytes d12) rfl rfl ?_
    refine XS.iload X6.here hexec rfl (hb hbytes d14) rfl ?_
    refine XS.iloadN X6.here hexec rfl (hb hbytes d16) rfl ?_
    refine XS.icmpYes X6.here hexec rfl (pc0 := 17) rfl (hb hbytes d17) rfl (ii_eq_t rfl) (by decide) rfl ?_
    refine XS.aloadN X6.here hexec rfl (hb hbytes d57) rfl rfl ?_
    exact Steps.refl _)
  have X8 := X6.wide (L' := []) (cells' := 1) (slots' := len) (fun x hx hlt => by
    simp only [List.nil_append, copyLocs, List.mem_map, List.mem_range] at hx
    obtain ⟨i, -, rfl⟩ := hx
    exact absurd hlt (Nat.lt_irrefl _)) (Nat.le_refl _) (by omega)
  exact ⟨T6, some (.ref s.heap.size), _, _, _, X8, rfl, rfl, rfl, (fun h => by cases h), ⟨⟨rfl, B6, ba3.like (X3.warmed.alike.symm.trans X6.warmed.alike) p6.1 f6.1 f6.2.1 f6.2.2.1, f6.2.1.trans bv3, by rw [X6.warmed.alike.findClass, f6.1]; exact bf3, by rw [f6.2.2.1, bs3]; simp, fun j hj => by rw [f6.2.2.2 j, if_pos (by omega)]; rfl, kp3.put p6 (Nat.le_refl _)⟩, by rw [p6.2.2, bh3, hh0]; simp⟩, fun fs hl => c8.trans (X8.areturnOut hexec rfl hret rfl (hb hbytes d58) hl)⟩
end Cmp3
namespace CodL
def yN : MethodName := ⟨"java/lang/StringUTF16", "coderFromArrayLen", "([BI)B"⟩
abbrev yB : ByteArray := jdk_52_method_15_code
theorem d0 : decode yB 0 = .ok (.iload_n 1, 1) := by decide +kernel
theorem d1 : decode yB 1 = .ok (.aload_n 0, 1) := by decide +kernel
theorem d2 : decode yB 2 = .ok (.arraylength, 1) := by decide +kernel
theorem d3 : decode yB 3 = .ok (.isub, 1) := by decide +kernel
theorem d4 : decode yB 4 = .ok (.bipush 31, 2) := by decide +kernel
theorem d6 : decode yB 6 = .ok (.iushr, 1) := by decide +kernel
theorem d7 : decode yB 7 = .ok (.i2b, 1) := by decide +kernel
theorem d8 : decode yB 8 = .ok (.ireturn, 1) := by decide +kernel
def site : List Cond := []
def tab : Cond := tabOf yN yB 2 (some .byte) site
def P (d : Addr) (B : Cell) (args : Array Value) (s : State) : Prop := args = #[.ref d, .int (Int32.ofNat B.slots.size)] ∧ Arr .byte d B s
def E (r : Option Value) (s u : State) : Prop := XT.PureE (some (.int 0)) r s u
/-- an array as long as the number of chars: LATIN1 -/
theorem law (l : Launch) (d : Addr) (B : Cell) : Law l yN 2 2 0 0 yB 2 (some .byte) site (P d B) E [] 0 0 := by
  refine Law.of_walk (plainFor_of_name (by decide +kernel)) (by decide +kernel) (by decide +kernel) (by decide) (fun _ _ h => by rw [h.1]; rfl) (fun _ U U' hal hh h => ⟨h.1, h.2.mv hal hh⟩) (fun r U U' V V' h1 hal h2 h => XT.PureE.mv r U U' V V' h1 hal h2 h) ?_
  intro p e s m args below meth c s₁ X0 hexec hbytes hml hret hlk hnm hown hh0 W hP
  obtain ⟨rfl, hB⟩ := hP
  have hB0 := hB.mv X0.warmed.alike hh0
  have c1 : Steps p.tables e below (s₁.setTop (entryFrame m #[.ref d, .int (Int32.ofNat B.slots.size)] 2)) (s₁.setTop (mkF m 0 #[.val (.ref d), .val (.int (Int32.ofNat B.slots.size))] [])) := entry rfl
  have c2 : Steps p.tables e below (s₁.setTop (entryFrame m #[.ref d, .int (Int32.ofNat B.slots.size)] 2)) (s₁.setTop (mkF m 2 #[.val (.ref d), .val (.int (Int32.ofNat B.slots.size))] [.ref d, .int (Int32.ofNat B.slots.size)])) := c1.trans (by
    refine XS.iloadN X0.here hexec rfl (hb hbytes d0) rfl ?_
    refine XS.aloadN X0.here hexec rfl (hb hbytes d1) rfl rfl ?_
    exact Steps.refl _)
  have c3 : Steps p.tables e below (s₁.setTop (entryFrame m #[.ref d, .int (Int32.ofNat B.slots.size)] 2)) (s₁.setTop (mkF m 8 #[.val (.ref d), .val (.int (Int32.ofNat B.slots.size))] [.int (lo8 (ushr (Int32.ofNat B.slots.size - Int32.ofNat B.slots.size) 31))])) := c2.trans (by
    refine X0.alen hexec hB0 rfl rfl (hb hbytes d2) ?_
    refine XS.isub X0.here hexec rfl (hb hbytes d3) rfl ?_
    refine bipushV X0.here hexec rfl 31 (hb hbytes d4) (by decide) ?_
    refine iushr X0.here hexec rfl (hb hbytes d6) rfl ?_
    refine i2b X0.here hexec rfl (hb hbytes d7) rfl ?_
    exact Steps.refl _)
  have e0 : lo8 (ushr (Int32.ofNat B.slots.size - Int32.ofNat B.slots.size) 31) = 0 := by rw [Int32.sub_self]; decide
  rw [e0] at c3
  exact ⟨s₁, some (.int 0), _, _, _, X0, rfl, rfl, rfl, (fun h => by cases h), ⟨rfl, hh0⟩, fun fs hl => c3.trans (X0.ireturnOut hexec hret rfl (Or.inr (Or.inr (Or.inl rfl))) (hb hbytes d8) hl)⟩
end CodL
/-- the String at a is Latin-1 over a new byte[] (the heap's one new cell): the low bytes of the len chars of A from o on; every cell but a is kept -/
def Got (a : Addr) (D : Cell) (fV fC : Field) (A : Cell) (o len : Nat) (r : Option Value) (s u : State) : Prop := r = none ∧ ∃ D' V : Cell, Blank "java/lang/String" a D' u ∧ Same D D' [fV.slot, fC.slot] ∧ D'.slots[fV.slot]? = some (.ref s.heap.size) ∧ D'.slots[fC.slot]? = some (.int 0) ∧ Arr .byte s.heap.size V u ∧ V.vm = .none ∧ u.vm.findClass "[B" = some V.cls ∧ V.slots.size = len ∧ (∀ j, j < len → V.slots[j]? = some (.int (lo8 (cv A (o + j))))) ∧ (∀ (y : Addr) (c : Cell), y ≠ a → s.heap[y]? = some c → u.heap[y]? = some c) ∧ u.heap.size = s.heap.size + 1
theorem Got.mv {a : Addr} {D A : Cell} {fV fC : Field} {o len : Nat} : ∀ r (U U' V V' : State), U'.heap = U.heap → V.vm.Alike V'.vm → V'.heap = V.heap → Got a D fV fC A o len r U V → Got a D fV fC A o len r U' V' :=
  fun r U U' V V' h1 hal h2 ⟨e0, D', X, a1, a2, a3, a4, a5, a6, a7, a8, a9, a10, a11⟩ => ⟨e0, D', X, a1.mv hal h2, a2, by rw [h1]; exact a3, a4, by rw [h1]; exact a5.mv hal h2, a6, by rw [hal.findClass]; exact a7, a8, a9, by rw [h1, h2]; exact a10, by rw [h1, h2]; exact a11⟩
namespace New4
def yN : MethodName := ⟨"java/lang/String", "<init>", "([CIILjava/lang/Void;)V"⟩
abbrev yB : ByteArray := jdk_42_method_149_code
theorem d0 : decode yB 0 = .ok (.aload_n 0, 1) := by decide +kernel
theorem d1 : decode yB 1 = .ok (.invokespecial 1, 3) := by decide +kernel
theorem d4 : decode yB 4 = .ok (.iload_n 3, 1) := by decide +kernel
theorem d5 : decode yB 5 = .ok (.ifCond (.ne) 22, 3) := by decide +kernel
theorem d27 : decode yB 27 = .ok (.getstatic 38, 3) := by decide +kernel
theorem d30 : decode yB 30 = .ok (.ifCond (.eq) 28, 3) := by decide +kernel
theorem d33 : decode yB 33 = .ok (.aload_n 1, 1) := by decide +kernel
theorem d34 : decode yB 34 = .ok (.iload_n 2, 1) := by decide +kernel
theorem d35 : decode yB 35 = .ok (.iload_n 3, 1) := by decide +kernel
theorem d36 : decode yB 36 = .ok (.invokestatic 177, 3) := by decide +kernel
theorem d39 : decode yB 39 = .ok (.astore 5, 2) := by decide +kernel
theorem d41 : decode yB 41 = .ok (.aload_n 0, 1) := by decide +kernel
theorem d42 : decode yB 42 = .ok (.aload 5, 2) := by decide +kernel
theorem d44 : decode yB 44 = .ok (.iload_n 3, 1) := by decide +kernel
theorem d45 : decode yB 45 = .ok (.invokestatic 47, 3) := by decide +kernel
theorem d48 : decode yB 48 = .ok (.putfield 15, 3) := by decide +kernel
theorem d51 : decode yB 51 = .ok (.aload_n 0, 1) := by decide +kernel
theorem d52 : decode yB 52 = .ok (.aload 5, 2) := by decide +kernel
theorem d54 : decode yB 54 = .ok (.putfield 9, 3) := by decide +kernel
theorem d57 : decode yB 57 = .ok (.return_, 1) := by decide +kernel
def site : List Cond := [.fieldLink "java/lang/String" 38 "java/lang/String" "COMPACT_STRINGS" "Z", Cmp3.tab, CodL.tab, .laysFinal "java/lang/String" "java/lang/String" "value" "[B", .fieldLink "java/lang/String" 9 "java/lang/String" "value" "[B", .laysFinal "java/lang/String" "java/lang/String" "coder" "B", .fieldLink "java/lang/String" 15 "java/lang/String" "coder" "B"] ++ objW "java/lang/String" 1 ++ staticW "java/lang/String" 177 Cmp3.yN ++ staticW "java/lang/String" 47 CodL.yN
def tab : Cond := tabOf yN yB 6 none site
def P (a : Addr) (D : Cell) (fV fC : Field) (b : Addr) (A : Cell) (z : Int32) (o len : Nat) (args : Array Value) (s : State) : Prop := args = #[.ref a, .ref b, .int (Int32.ofNat o), .int (Int32.ofNat len), .null] ∧ Blank "java/lang/String" a D s ∧ Found "java/lang/String" "value" "[B" fV s ∧ Found "java/lang/String" "coder" "B" fC s ∧ Ch b A s ∧ StaticIs s "java/lang/String" "COMPACT_STRINGS" "Z" (.int z) ∧ ¬ z = 0 ∧ 0 < len ∧ o + len ≤ A.slots.size ∧ len ≤ 536870912 ∧ ∀ i, i < len → ¬ 255 < cv A (o + i)
def E (a : Addr) (D : Cell) (fV fC : Field) (A : Cell) (o len : Nat) (r : Option Value) (s u : State) : Prop := Got a D fV fC A o len r s u
/-- len > 0, no char of the range above 255: a Latin-1 String of their low bytes -/
theorem law (l : Launch) (a : Addr) (D : Cell) (fV fC : Field) (b : Addr) (A : Cell) (z : Int32) (o len : Nat) : Law l yN 5 4 2 35 yB 6 none site (P a D fV fC b A z o len) (E a D fV fC A o len) [⟨a, fC.slot⟩, ⟨a, fV.slot⟩] 1 len := by
  refine Law.of_walk (plainFor_of_name (by decide +kernel)) (by decide +kernel) (by decide +kernel) (by decide) (fun _ _ h => by rw [h.1]; rfl) (fun _ U U' hal hh h => ⟨h.1, h.2.1.mv hal hh, h.2.2.1.al hal, h.2.2.2.1.al hal, h.2.2.2.2.1.mv hal hh, h.2.2.2.2.2.1.there hal hh, h.2.2.2.2.2.2⟩) (fun r U U' V V' h1 hal h2 h => Got.mv r U U' V V' h1 hal h2 h) ?_
  intro p e s m args below meth c s₁ X0 hexec hbytes hml hret hlk hnm hown hh0 W hP
  obtain ⟨rfl, hB, f1, f2, hA, s1, hz, l0, l1, l2, hp⟩ := hP
  have a31 := hA.1.2.2.2
  have c1 : Steps p.tables e below (s₁.setTop (entryFrame m #[.ref a, .ref b, .int (Int32.ofNat o), .int (Int32.ofNat len), .null] 6)) (s₁.setTop (mkF m 0 #[.val (.ref a), .val (.ref b), .val (.int (Int32.ofNat o)), .val (.int (Int32.ofNat len)), .val .null, .unset] [])) := entry rfl
  have c2 : Steps p.tables e below (s₁.setTop (entryFrame m #[.ref a, .ref b, .int (Int32.ofNat o), .int (Int32.ofNat len), .null] 6)) (s₁.setTop (mkF m 1 #[.val (.ref a), .val (.ref b), .val (.int (Int32.ofNat o)), .val (.int (Int32.ofNat len)), .val .null, .unset] [.ref a])) := c1.trans (by
    refine XS.aloadN X0.here hexec rfl (hb hbytes d0) rfl rfl ?_
    exact Steps.refl _)
  obtain ⟨T3, X3, q3, st3⟩ := X0.oinit hexec hown (wks W (objW "java/lang/String" 1)) (g := (mkF m 1 #[.val (.ref a), .val (.ref b), .val (.int (Int32.ofNat o)), .val (.int (Int32.ofNat len)), .val .null, .unset] [.ref a])) rfl (by rw [hml]; rfl) (rest := []) rfl (hb hbytes d1) (W := 0) (by show 2 * 0 + 0 ≤ _; decide) (Nat.le_of_ble_eq_true rfl) (Nat.le_of_ble_eq_true rfl)
  have hh3 := q3.trans hh0
  have c4 : Steps p.tables e below (s₁.setTop (entryFrame m #[.ref a, .ref b, .int (Int32.ofNat o), .int (Int32.ofNat len), .null] 6)) (T3.setTop (mkF m 27 #[.val (.ref a), .val (.ref b), .val (.int (Int32.ofNat o)), .val (.int (Int32.ofNat len)), .val .null, .unset] [])) := (c2.trans (st3 _ (Steps.refl _))).trans (by
    refine XS.iloadN X3.here hexec rfl (hb hbytes d4) rfl ?_
    refine XS.ifYes X3.here hexec rfl (pc0 := 5) rfl (hb hbytes d5) rfl (i0_ne_t (nz32 (by omega) l0)) (by decide) rfl ?_
    exact Steps.refl _)
  obtain ⟨T5, X5, q5, st5⟩ := X3.sget hexec hown (wk W (.fieldLink "java/lang/String" 38 "java/lang/String" "COMPACT_STRINGS" "Z")) s1 (fun _ _ h => by rw [hh3]; exact h) (g := (mkF m 27 #[.val (.ref a), .val (.ref b), .val (.int (Int32.ofNat o)), .val (.int (Int32.ofNat len)), .val .null, .unset] [])) rfl (hb hbytes d27)
  have hh5 := q5.trans hh3
  have c6 : Steps p.tables e below (s₁.setTop (entryFrame m #[.ref a, .ref b, .int (Int32.ofNat o), .int (Int32.ofNat len), .null] 6)) (T5.setTop (mkF m 30 #[.val (.ref a), .val (.ref b), .val (.int (Int32.ofNat o)), .val (.int (Int32.ofNat len)), .val .null, .unset] [.int z])) := c4.trans (st5 _ (Steps.refl _))
  have c7 : Steps p.tables e below (s₁.setTop (entryFrame m #[.ref a, .ref b, .int (Int32.ofNat o), .int (Int32.ofNat len), .null] 6)) (T5.setTop (mkF m 36 #[.val (.ref a), .val (.ref b), .val (.int (Int32.ofNat o)), .val (.int (Int32.ofNat len)), .val .null, .unset] [.int (Int32.ofNat len), .int (Int32.ofNat o), .ref b])) := c6.trans (by
    refine XS.ifNo X5.here hexec rfl (hb hbytes d30) rfl (i0_eq_f hz) ?_
    refine XS.aloadN X5.here hexec rfl (hb hbytes d33) rfl rfl ?_
    refine XS.iloadN X5.here hexec rfl (hb hbytes d34) rfl ?_
    refine XS.iloadN X5.here hexec rfl (hb hbytes d35) rfl ?_
    exact Steps.refl _)
  obtain ⟨v8, T8, X8, E8, g8⟩ := X5.callS hexec (Cmp3.law l b A o len) hown (wks W (staticW "java/lang/String" 177 Cmp3.yN)) (wk W Cmp3.tab) (W := 0) (Nat.le_of_ble_eq_true rfl) (Nat.le_of_ble_eq_true rfl) (Nat.le_refl _) (by show 0 + len ≤ len; omega) (g := (mkF m 36 #[.val (.ref a), .val (.ref b), .val (.int (Int32.ofNat o)), .val (.int (Int32.ofNat len)), .val .null, .unset] [.int (Int32.ofNat len), .int (Int32.ofNat o), .ref b])) rfl (by rw [hml]; rfl) c7 (argsL := [.ref b, .int (Int32.ofNat o), .int (Int32.ofNat len)]) (rest := []) rfl rfl (by show 2 * 0 + 0 ≤ _; decide) (hb hbytes d36) (⟨rfl, hA.mv X5.warmed.alike hh5, l1, l2, hp⟩)
  obtain ⟨e8, z8⟩ := E8
  obtain ⟨rfl, N, n1, n2, n3, n4, n5, n6⟩ := NewArr.mv _ T5 s _ _ hh5.symm (Vm.Alike.refl _) rfl e8
  rw [hh5] at z8
  have hB1 := hB.keep X8.warmed.alike (n6 _ _ hB.1)
  have hne : s.heap.size ≠ a := (Nat.ne_of_lt (Array.getElem?_eq_some_iff.mp hB.1).1).symm
  have c9 : Steps p.tables e below (s₁.setTop (entryFrame m #[.ref a, .ref b, .int (Int32.ofNat o), .int (Int32.ofNat len), .null] 6)) (T8.setTop (mkF m 39 #[.val (.ref a), .val (.ref b), .val (.int (Int32.ofNat o)), .val (.int (Int32.ofNat len)), .val .null, .unset] [.ref s.heap.size])) := g8
  have c10 : Steps p.tables e below (s₁.setTop (entryFrame m #[.ref a, .ref b, .int (Int32.ofNat o), .int (Int32.ofNat len), .null] 6)) (T8.setTop (mkF m 45 #[.val (.ref a), .val (.ref b), .val (.int (Int32.ofNat o)), .val (.int (Int32.ofNat len)), .val .null, .val (.ref s.heap.size)] [.int (Int32.ofNat N.slots.size), .ref s.heap.size, .ref a])) := by
    have hc : Steps p.tables e below (s₁.setTop (entryFrame m #[.ref a, .ref b, .int (Int32.ofNat o), .int (Int32.ofNat len), .null] 6)) (T8.setTop (mkF m 45 #[.val (.ref a), .val (.ref b), .val (.int (Int32.ofNat o)), .val (.int (Int32.ofNat len)), .val .null, .val (.ref s.heap.size)] [.int (Int32.ofNat len), .ref s.heap.size, .ref a])) := c9.trans (by
      refine XS.astore X8.here hexec rfl (hb hbytes d39) rfl rfl rfl ?_
      refine XS.aloadN X8.here hexec rfl (hb hbytes d41) rfl rfl ?_
      refine XS.aload X8.here hexec rfl (hb hbytes d42) rfl rfl ?_
      refine XS.iloadN X8.here hexec rfl (hb hbytes d44) rfl ?_
      exact Steps.refl _)
    rw [n4]; exact hc
  obtain ⟨v11, T11, X11, E11, g11⟩ := X8.callS hexec (CodL.law l s.heap.size N) hown (wks W (staticW "java/lang/String" 47 CodL.yN)) (wk W CodL.tab) (W := 1) (Nat.le_of_ble_eq_true rfl) (Nat.le_of_ble_eq_true rfl) (Nat.le_refl _) (by show 0 + len + 0 ≤ len; omega) (g := (mkF m 45 #[.val (.ref a), .val (.ref b), .val (.int (Int32.ofNat o)), .val (.int (Int32.ofNat len)), .val .null, .val (.ref s.heap.size)] [.int (Int32.ofNat N.slots.size), .ref s.heap.size, .ref a])) rfl (by rw [hml]; rfl) c10 (argsL := [.ref s.heap.size, .int (Int32.ofNat N.slots.size)]) (rest := [.ref a]) rfl rfl (by show 2 * 0 + (1 + 0) ≤ _; decide) (hb hbytes d45) (⟨rfl, n1⟩)
  obtain ⟨rfl, q11⟩ := E11
  have hB11 := hB1.mv (X8.warmed.alike.symm.trans X11.warmed.alike) q11
  have c12 : Steps p.tables e below (s₁.setTop (entryFrame m #[.ref a, .ref b, .int (Int32.ofNat o), .int (Int32.ofNat len), .null] 6)) (T11.setTop (mkF m 48 #[.val (.ref a), .val (.ref b), .val (.int (Int32.ofNat o)), .val (.int (Int32.ofNat len)), .val .null, .val (.ref s.heap.size)] [.int 0, .ref a])) := g11
  obtain ⟨T13, X13, p13, bl13, sl13, st13⟩ := X11.finit hexec hown (wk W (.fieldLink "java/lang/String" 15 "java/lang/String" "coder" "B")) (Or.inr ⟨_, (wk W (.laysFinal "java/lang/String" "java/lang/String" "coder" "B"))⟩) (Or.inl ⟨rfl, hnm⟩) f2 (Or.inl rfl) hB11 (t := .byte) (by decide +kernel) rfl (g := (mkF m 48 #[.val (.ref a), .val (.ref b), .val (.int (Int32.ofNat o)), .val (.int (Int32.ofNat len)), .val .null, .val (.ref s.heap.size)] [.int 0, .ref a])) rfl (rest := []) rfl (hb hbytes d48)
  have c14 : Steps p.tables e below (s₁.setTop (entryFrame m #[.ref a, .ref b, .int (Int32.ofNat o), .int (Int32.ofNat len), .null] 6)) (T13.setTop (mkF m 54 #[.val (.ref a), .val (.ref b), .val (.int (Int32.ofNat o)), .val (.int (Int32.ofNat len)), .val .null, .val (.ref s.heap.size)] [.ref s.heap.size, .ref a])) := (c12.trans (st13 _ (Steps.refl _))).trans (by
    refine XS.aloadN X13.here hexec rfl (hb hbytes d51) rfl rfl ?_
    refine XS.aload X13.here hexec rfl (hb hbytes d52) rfl rfl ?_
    exact Steps.refl _)
  obtain ⟨T15, X15, p15, bl15, sl15, st15⟩ := X13.finit hexec hown (wk W (.fieldLink "java/lang/String" 9 "java/lang/String" "value" "[B")) (Or.inr ⟨_, (wk W (.laysFinal "java/lang/String" "java/lang/String" "value" "[B"))⟩) (Or.inl ⟨rfl, hnm⟩) f1 (Or.inl rfl) bl13 (t := (.array .byte)) (by decide +kernel) rfl (g := (mkF m 54 #[.val (.ref a), .val (.ref b), .val (.int (Int32.ofNat o)), .val (.int (Int32.ofNat len)), .val .null, .val (.ref s.heap.size)] [.ref s.heap.size, .ref a])) rfl (rest := []) rfl (hb hbytes d54)
  have c16 : Steps p.tables e below (s₁.setTop (entryFrame m #[.ref a, .ref b, .int (Int32.ofNat o), .int (Int32.ofNat len), .null] 6)) (T15.setTop (mkF m 57 #[.val (.ref a), .val (.ref b), .val (.int (Int32.ofNat o)), .val (.int (Int32.ofNat len)), .val .null, .val (.ref s.heap.size)] [])) := c14.trans (st15 _ (Steps.refl _))
  have ap := apart (Or.inr ⟨_, (wk W (.laysFinal "java/lang/String" "java/lang/String" "value" "[B"))⟩) (Or.inr ⟨_, (wk W (.laysFinal "java/lang/String" "java/lang/String" "coder" "B"))⟩) f1 f2 (t₁ := .array .byte) (t₂ := .byte) (by decide +kernel) (by decide +kernel) (by decide)
  have al := X8.warmed.alike.symm.trans X15.warmed.alike
  have n7 : T11.heap[s.heap.size]? = some N := by rw [q11]; exact n1.1
  exact ⟨T15, none, _, _, _, X15, by simp, rfl, by omega, (fun _ => rfl), ⟨rfl, _, N, bl15, ((Same.refl D _).set _ (by simp)).set _ (by simp), sl15, (Cell.slots_setSlot_ne _ ap).trans sl13, n1.keep al (p15.other hne (p13.other hne n7)), n2, by rw [al.findClass]; exact n3, n4, n5, fun y c h1 h2 => p15.other h1 (p13.other h1 (by rw [q11]; exact n6 y c h2)), by rw [p15.2.2, p13.2.2, q11]; exact z8⟩, fun fs hl => c16.trans (X15.returnOut hexec hret (hb hbytes d57) hl)⟩
end New4
namespace New1
def yN : MethodName := ⟨"java/lang/String", "<init>", "([C)V"⟩
abbrev yB : ByteArray := jdk_42_method_3_code
theorem d0 : decode yB 0 = .ok (.aload_n 0, 1) := by decide +kernel
theorem d1 : decode yB 1 = .ok (.aload_n 1, 1) := by decide +kernel
theorem d2 : decode yB 2 = .ok (.iconst 0, 1) := by decide +kernel
theorem d3 : decode yB 3 = .ok (.aload_n 1, 1) := by decide +kernel
theorem d4 : decode yB 4 = .ok (.arraylength, 1) := by decide +kernel
theorem d5 : decode yB 5 = .ok (.aconst_null, 1) := by decide +kernel
theorem d6 : decode yB 6 = .ok (.invokespecial 27, 3) := by decide +kernel
theorem d9 : decode yB 9 = .ok (.return_, 1) := by decide +kernel
def site : List Cond := [New4.tab] ++ initW "java/lang/String" 27 New4.yN
def tab : Cond := tabOf yN yB 2 none site
def P (a : Addr) (D : Cell) (fV fC : Field) (b : Addr) (A : Cell) (z : Int32) (args : Array Value) (s : State) : Prop := args = #[.ref a, .ref b] ∧ Blank "java/lang/String" a D s ∧ Found "java/lang/String" "value" "[B" fV s ∧ Found "java/lang/String" "coder" "B" fC s ∧ Ch b A s ∧ StaticIs s "java/lang/String" "COMPACT_STRINGS" "Z" (.int z) ∧ ¬ z = 0 ∧ 0 < A.slots.size ∧ A.slots.size ≤ 536870912 ∧ ∀ i, i < A.slots.size → ¬ 255 < cv A i
def E (a : Addr) (D : Cell) (fV fC : Field) (A : Cell) (r : Option Value) (s u : State) : Prop := Got a D fV fC A 0 A.slots.size r s u
/-- new String(chars), not empty, no char above 255: a Latin-1 String of their low bytes -/
theorem law (l : Launch) (a : Addr) (D : Cell) (fV fC : Field) (b : Addr) (A : Cell) (z : Int32) : Law l yN 2 1 3 52 yB 2 none site (P a D fV fC b A z) (E a D fV fC A) [⟨a, fC.slot⟩, ⟨a, fV.slot⟩] 1 A.slots.size := by
  refine Law.of_walk (plainFor_of_name (by decide +kernel)) (by decide +kernel) (by decide +kernel) (by decide) (fun _ _ h => by rw [h.1]; rfl) (fun _ U U' hal hh h => ⟨h.1, h.2.1.mv hal hh, h.2.2.1.al hal, h.2.2.2.1.al hal, h.2.2.2.2.1.mv hal hh, h.2.2.2.2.2.1.there hal hh, h.2.2.2.2.2.2⟩) (fun r U U' V V' h1 hal h2 h => Got.mv r U U' V V' h1 hal h2 h) ?_
  intro p e s m args below meth c s₁ X0 hexec hbytes hml hret hlk hnm hown hh0 W hP
  obtain ⟨rfl, hB, f1, f2, hA, s1, hz, l0, l2, hp⟩ := hP
  have c1 : Steps p.tables e below (s₁.setTop (entryFrame m #[.ref a, .ref b] 2)) (s₁.setTop (mkF m 0 #[.val (.ref a), .val (.ref b)] [])) := entry rfl
  have c2 : Steps p.tables e below (s₁.setTop (entryFrame m #[.ref a, .ref b] 2)) (s₁.setTop (mkF m 6 #[.val (.ref a), .val (.ref b)] [.null, .int (Int32.ofNat A.slots.size), .int 0, .ref b, .ref a])) := c1.trans (by
    refine XS.aloadN X0.here hexec rfl (hb hbytes d0) rfl rfl ?_
    refine XS.aloadN X0.here hexec rfl (hb hbytes d1) rfl rfl ?_
    refine iconstV X0.here hexec rfl 0 (hb hbytes d2) (by decide) ?_
    refine XS.aloadN X0.here hexec rfl (hb hbytes d3) rfl rfl ?_
    refine X0.alen hexec (hA.1.mv X0.warmed.alike hh0) rfl rfl (hb hbytes d4) ?_
    refine XS.aconstNull X0.here hexec rfl (hb hbytes d5) ?_
    exact Steps.refl _)
  obtain ⟨v3, T3, X3, E3, g3⟩ := X0.callN hexec (New4.law l a D fV fC b A z 0 A.slots.size) rfl hown (wks W (initW "java/lang/String" 27 New4.yN)) (W New4.tab (by simp only [site, List.mem_cons, List.mem_append, true_or, or_true])) (W := 0) (Nat.le_of_ble_eq_true rfl) (Nat.le_of_ble_eq_true rfl) (Nat.le_refl _) (by show 0 + A.slots.size ≤ A.slots.size; omega) (g := (mkF m 6 #[.val (.ref a), .val (.ref b)] [.null, .int (Int32.ofNat A.slots.size), .int (Int32.ofNat 0), .ref b, .ref a])) rfl (by rw [hml]; rfl) c2 (argsL := [.ref b, .int (Int32.ofNat 0), .int (Int32.ofNat A.slots.size), .null]) (rest := []) rfl rfl (by show 2 * 0 + 0 ≤ _; decide) (hb hbytes d6) (⟨rfl, hB.mv X0.warmed.alike hh0, f1.al X0.warmed.alike, f2.al X0.warmed.alike, hA.mv X0.warmed.alike hh0, s1.there X0.warmed.alike hh0, hz, l0, by omega, l2, fun i hi => by rw [Nat.zero_add]; exact hp i hi⟩)
  have e0 := Got.mv _ s₁ s _ _ hh0.symm (Vm.Alike.refl _) rfl E3
  obtain rfl := e0.1
  have c4 : Steps p.tables e below (s₁.setTop (entryFrame m #[.ref a, .ref b] 2)) (T3.setTop (mkF m 9 #[.val (.ref a), .val (.ref b)] [])) := g3
  exact ⟨T3, none, _, _, _, X3, by simp, rfl, by omega, (fun _ => rfl), e0, fun fs hl => c4.trans (X3.returnOut hexec hret (hb hbytes d9) hl)⟩
theorem pays {l : Launch} {R : Room} {p : Program} {e : Env} {below : List Frame} {s : State} {sargs : Array Value} {len W : Nat} (a : Addr) (D : Cell) (fV fC : Field) (b : Addr) (A : Cell) (z : Int32) (htab : tab.before sargs s = true) (hfr : 4 ≤ R.frames) (hlo : W + 65 ≤ R.locals) :
    Back l R p e below s sargs yN len W (fun A₁ a₁ => A₁.cells + 1 ≤ R.cells ∧ A₁.slots + A.slots.size ≤ R.slots ∧ P a D fV fC b A z a₁ A₁.U) (fun A₁ _ v₁ B₁ => E a D fV fC A v₁ A₁.U B₁.U ∧ B₁.locs = A₁.locs ++ [⟨a, fC.slot⟩, ⟨a, fV.slot⟩] ∧ B₁.cells = A₁.cells + 1 ∧ B₁.slots = A₁.slots + A.slots.size) :=
  (law l a D fV fC b A z).pays htab hfr (by omega)
end New1
/-- the byte, read back as charAt reads it, is the char -/
theorem lo8_mask {x : Int32} (h0 : ¬ x < 0) (h1 : ¬ 255 < x) : lo8 x &&& 255 = x := by
  have t : ∀ k : Fin 256, lo8 (Int32.ofNat k.val) &&& 255 = Int32.ofNat k.val := by decide +kernel
  rw [Int32.lt_iff_toInt_lt] at h0 h1
  have e0 : (0 : Int32).toInt = 0 := rfl
  have e1 : (255 : Int32).toInt = 255 := rfl
  obtain ⟨k, hk⟩ : ∃ k : Nat, x.toInt = k := ⟨x.toInt.toNat, by omega⟩
  have hx : x = Int32.ofNat k := Int32.toInt_inj.mp (by rw [hk, Int32.toInt_ofNat_small (by omega)])
  rw [hx]
  exact t ⟨k, by omega⟩
end StrChars
namespace StrChars.Road
open Jvm Sem ClassFile Op Lib Jvm.Stand Jvm.Free Jvm.Free.XT
open Jvm.Lib.Cold (StaticIs)
abbrev ST : String := "java/lang/String"
/-- every table word that New1's law asks, flat -/
abbrev words : List Jvm.Cond := [.code New1.yN New1.yB 2 none, .initialized ST, .methodLink ST 27 New4.yN, .instanceMethod New4.yN,
  .code New4.yN New4.yB 6 none, .fieldLink ST 38 ST "COMPACT_STRINGS" "Z", .laysFinal ST ST "value" "[B", .fieldLink ST 9 ST "value" "[B", .laysFinal ST ST "coder" "B", .fieldLink ST 15 ST "coder" "B",
  .methodLink ST 1 Lib.objectInit, .instanceMethod Lib.objectInit, .code Lib.objectInit ⟨#[0xb1]⟩ 1 none, .methodLink ST 177 Cmp3.yN, .static Cmp3.yN, .methodLink ST 47 CodL.yN, .static CodL.yN,
  .code Cmp3.yN Cmp3.yB 6 (some (.array .byte)), .initialized U16, .arrayClass .byte, .methodLink U16 115 Cmp5.yN, .static Cmp5.yN, .code Cmp5.yN Cmp5.yB 7 (some .int), .code CodL.yN CodL.yB 2 (some .byte)]
theorem tab_of {a : Array Value} {s : State} (h : ∀ w ∈ words, w.before a s = true) : New1.tab.before a s = true := by
  have h5 : Cmp5.tab.before a s = true := unparts (wk h (.code Cmp5.yN Cmp5.yB 7 (some .int))) (wks h (.initialized Cmp5.yN.cls :: Cmp5.site))
  have hc : CodL.tab.before a s = true := unparts (wk h (.code CodL.yN CodL.yB 2 (some .byte))) (wks h (.initialized CodL.yN.cls :: CodL.site))
  have q5 : ∀ w ∈ Cmp5.tab :: words, w.before a s = true := fun w hw => (List.mem_cons.mp hw).elim (fun e => e ▸ h5) (h w)
  have h3 : Cmp3.tab.before a s = true := unparts (wk q5 (.code Cmp3.yN Cmp3.yB 6 (some (.array .byte)))) (wks q5 (.initialized Cmp3.yN.cls :: Cmp3.site))
  have q3 : ∀ w ∈ Cmp3.tab :: CodL.tab :: words, w.before a s = true := fun w hw => (List.mem_cons.mp hw).elim (fun e => e ▸ h3) fun hw => (List.mem_cons.mp hw).elim (fun e => e ▸ hc) (h w)
  have h4 : New4.tab.before a s = true := unparts (wk q3 (.code New4.yN New4.yB 6 none)) (wks q3 (.initialized New4.yN.cls :: New4.site))
  have q4 : ∀ w ∈ New4.tab :: words, w.before a s = true := fun w hw => (List.mem_cons.mp hw).elim (fun e => e ▸ h4) (h w)
  exact unparts (wk q4 (.code New1.yN New1.yB 2 none)) (wks q4 (.initialized New1.yN.cls :: New1.site))
/-- the words ride from the start Z to the walk's own state -/
theorem moved {Z s : State} {a0 args : Array Value} (hZ : Z.Warmed39 s.vm) (hw : ∀ d ∈ words, d.before a0 Z = true) : ∀ d ∈ words, d.before args s = true := fun d hd => by
  have q := hw d hd
  have t : ∀ d ∈ words, d = .arrayClass .byte ∨ (d.onTables && d.keepsFace) = true := by decide +kernel
  rcases t d hd with rfl | t
  · exact RoadKit.mvA hZ q
  · exact RoadKit.mv hZ q t
/-- WHAT COMES BACK, over the tables of the start Z: h the heap at the call, h' behind it -/
def Q (Z : State) (x : Addr) (A : Cell) (h : Heap) (v : Option Value) (h' : Heap) (L : List Loc) : Prop := v = none ∧ (∀ y ∈ L, y.base = x) ∧ RoadKit.Keep h h' [x] ∧ h'.size = h.size + 1 ∧ RoadKit.Exa Z h' x ST ∧ RoadKit.Fld Z h' x ST "value" "[B" (.ref h.size) ∧ RoadKit.Fld Z h' x ST "coder" "B" (.int 0) ∧
  (∃ V : Cell, RoadKit.Arr Z h' h.size V .byte ∧ V.vm = .none ∧ Z.vm.findClass "[B" = some V.cls ∧ V.slots.size = A.slots.size ∧ ∀ j, j < A.slots.size → V.slots[j]? = some (.int (lo8 (cv A j)))) ∧
  ∀ (O n d : String) (w : Value), RoadKit.Fld Z h x O n d w → RoadKit.slotOf Z O n d ≠ RoadKit.slotOf Z ST "value" "[B" → RoadKit.slotOf Z O n d ≠ RoadKit.slotOf Z ST "coder" "B" → RoadKit.Fld Z h' x O n d w
/-- **new String(chars) AT A CALL, IN THE ROAD'S FORM**: for specialBack behind newO: x the fresh String, b the char[] with the cell A -/
theorem back {p : Program} {l : Launch} {e : Env} {R : Room} {s : State} {args : Array Value} {below : List Frame} {len W : Nat} {Z : State} {a0 : Array Value} {h : Heap} (hZ : Z.Warmed39 s.vm) (hw : ∀ d ∈ words, d.before a0 Z = true) {kI : Nat} (wi : (Jvm.Cond.instantiable ST kI).before a0 Z = true)
    {x b : Addr} {A : Cell} {z : Int32} {v0 c0 : Value} (E : RoadKit.Exa Z h x ST) (V : RoadKit.Fld Z h x ST "value" "[B" v0) (C : RoadKit.Fld Z h x ST "coder" "B" c0) (K : RoadKit.Arr Z h b A .char) (hty : Typed .char A) (S : RoadKit.Sta Z h ST "COMPACT_STRINGS" "Z" (.int z)) (hz : ¬ z = 0)
    (l0 : 0 < A.slots.size) (l2 : A.slots.size ≤ 536870912) (hp : ∀ i, i < A.slots.size → ¬ 255 < cv A i) (hfr : 4 ≤ R.frames) (hlo : W + 65 ≤ R.locals) :
    Back l R p e below s args New1.yN len W (fun P a => a = #[.ref x, .ref b] ∧ P.U.heap = h ∧ P.cells + 1 ≤ R.cells ∧ P.slots + A.slots.size ≤ R.slots)
      (fun P _ v B => ∃ L, Q Z x A h v B.U.heap L ∧ B.locs = P.locs ++ L ∧ B.cells = P.cells + 1 ∧ B.slots = P.slots + A.slots.size) := by
  intro m meth c P g ig mk a X hg hsize hdg hW hn hp'
  obtain ⟨rfl, rfl, r1, r2⟩ := hp'
  have al : Z.vm.Alike P.U.vm := hZ.alike.trans X.warmed.alike
  obtain ⟨D, cfV, kV, iV, fV, hD, gV, stV, knV, obV, asV, slV⟩ := id V
  obtain ⟨D', cfC, kC, iC, fC, hD', gC, stC, -, -, asC, slC⟩ := id C
  cases hD.symm.trans hD'
  obtain ⟨D2, kD, e1, e2, e3, e4, e5⟩ := id E
  cases hD.symm.trans e1
  obtain ⟨c2, k2, i1, i2, i3, -⟩ := Cond.instantiable_spec wi
  cases e2.symm.trans i1
  cases e3.symm.trans i2
  obtain ⟨kU, u1, u2⟩ := al.2.2 _ _ e3
  have hB : Blank ST x D P.U := ⟨hD, ⟨knV, fun q hq => by rw [hq] at obV; cases obV⟩, by rw [al.findClass]; exact e2, kU, u1, by rw [u2]; exact i3, by rw [u2]; exact e5 i3⟩
  have F1 : Found ST "value" "[B" fV P.U := ⟨SBG.found_only al ⟨cfV, kV, iV, gV⟩, stV⟩
  have F2 : Found ST "coder" "B" fC P.U := ⟨SBG.found_only al ⟨cfC, kC, iC, gC⟩, stC⟩
  have hA : Ch b A P.U := ⟨⟨K.1, State.isArrayOf_alike al K.2.1, K.2.2, by omega⟩, hty⟩
  have hS : StaticIs P.U ST "COMPACT_STRINGS" "Z" (.int z) := by
    obtain ⟨cfS, iS, kS, fS, st, cS, t1, t2, t3, t4, t5, t6, t7⟩ := S
    exact StaticIs.there (s := { Z with heap := P.U.heap }) ⟨cfS, iS, kS, fS, st, cS, t1, t2, t3, t4, t5, (fun q => by rw [q] at t6; cases t6), t7⟩ al rfl
  obtain ⟨v, B, X', ⟨⟨hv, E', V', q1, q2, q3, q4, q5, q6, q7, q8, q9, q10, q11⟩, hl, hc, hs⟩, st⟩ := New1.pays x D fV fC b A z (tab_of (moved hZ hw)) hfr hlo m meth c P g ig mk _ X hg hsize hdg hW hn ⟨r1, r2, rfl, hB, F1, F2, hA, hS, hz, l0, l2, hp⟩
  have al' : Z.vm.Alike B.U.vm := hZ.alike.trans X'.warmed.alike
  have hsz : E'.slots.size = D.slots.size := by
    obtain ⟨-, -, -, kB, w1, w2, w3⟩ := q1
    obtain ⟨kB', y1, y2⟩ := al'.2.2 _ _ e3
    rw [q2.2.1] at w1
    cases w1.symm.trans y1
    rw [w3, e5 i3, y2]
  refine ⟨v, B, X', ⟨_, ⟨hv, ?_, ⟨by omega, fun y cy hy hn' => q10 y cy (by simpa using hn') hy, fun y cy hy => ?_⟩, q11, ⟨E', _, q1.1, by rw [q2.2.1]; exact e2, by rw [q2.2.1]; exact e3, by rw [q2.1]; exact obV, fun _ => by rw [hsz]; exact e5 i3⟩,
    ⟨E', cfV, kV, iV, fV, q1.1, gV, stV, by rw [q2.1]; exact knV, by rw [q2.1]; exact obV, by rw [q2.2.1]; exact asV, q3⟩, ⟨E', cfC, kC, iC, fC, q1.1, gC, stC, by rw [q2.1]; exact knV, by rw [q2.1]; exact obV, by rw [q2.2.1]; exact asC, q4⟩,
    ⟨V', ⟨q5.1, State.isArrayOf_alike al'.symm q5.2.1, q5.2.2.1⟩, q6, by rw [← al'.findClass]; exact q7, q8, fun j hj => by have := q9 j hj; rwa [Nat.zero_add] at this⟩, fun O n d w F n1 n2 => ?_⟩, hl, hc, hs⟩, st⟩
  · intro y hy
    simp only [List.mem_cons, List.not_mem_nil, or_false] at hy
    rcases hy with rfl | rfl <;> rfl
  · by_cases q : y = x
    · subst q
      cases hD.symm.trans hy
      exact ⟨E', q1.1, q2.2.1, q2.1, hsz⟩
    · exact ⟨cy, q10 y cy q hy, rfl, rfl, rfl⟩
  · obtain ⟨D3, cf, k, i, f, g1, g2, g3, g4, g5, g6, g7⟩ := F
    cases hD.symm.trans g1
    simp only [RoadKit.slotOf, g2, gV, gC, Option.map_some, Option.getD_some] at n1 n2
    exact ⟨E', cf, k, i, f, q1.1, g2, g3, by rw [q2.1]; exact g4, by rw [q2.1]; exact g5, by rw [q2.2.1]; exact g6, by rw [q2.2.2 f.slot (by simp [n1, n2])]; exact g7⟩
end StrChars.Road
namespace StrChars.Road
open Jvm Sem ClassFile Op Lib Jvm.Stand Jvm.Free Jvm.Free.XT
/-- WHAT COMES BACK, the byte[] as a list of values -/
def QA (Z : State) (x : Addr) (zn : Int32) (cs : List Int32) (h : Heap) (v : Option Value) (h' : Heap) (L : List Loc) : Prop := v = none ∧ (∀ y ∈ L, y.base = x) ∧ RoadKit.Keep h h' [x] ∧ h'.size = h.size + 1 ∧ RoadKit.Exa Z h' x ST ∧ RoadKit.Fld Z h' x ST "value" "[B" (.ref h.size) ∧ RoadKit.Fld Z h' x ST "coder" "B" (.int 0) ∧
  (∃ kb, Z.vm.findClass "[B" = some kb ∧ RoadKit.Arv Z h' h.size kb .byte zn (cs.map fun c => .int (lo8 c)) (.int 0)) ∧
  ∀ (O n d : String) (w : Value), RoadKit.Fld Z h x O n d w → RoadKit.slotOf Z O n d ≠ RoadKit.slotOf Z ST "value" "[B" → RoadKit.slotOf Z O n d ≠ RoadKit.slotOf Z ST "coder" "B" → RoadKit.Fld Z h' x O n d w
/-- **new String(chars) AT A CALL, THE ARRAYS AS LISTS**: the char[] at b holds cs, not empty, no char above 255 -/
theorem backArv {p : Program} {l : Launch} {e : Env} {R : Room} {s : State} {args : Array Value} {below : List Frame} {len W : Nat} {Z : State} {a0 : Array Value} {h : Heap} (hZ : Z.Warmed39 s.vm) (hw : ∀ d ∈ words, d.before a0 Z = true) {kI : Nat} (wi : (Jvm.Cond.instantiable ST kI).before a0 Z = true)
    {x b : Addr} {k : ClassId} {zn z : Int32} {cs : List Int32} {dv v0 c0 : Value} (E : RoadKit.Exa Z h x ST) (V : RoadKit.Fld Z h x ST "value" "[B" v0) (C : RoadKit.Fld Z h x ST "coder" "B" c0) (K : RoadKit.Arv Z h b k .char zn (cs.map Value.int) dv) (S : RoadKit.Sta Z h ST "COMPACT_STRINGS" "Z" (.int z)) (hz : ¬ z = 0)
    (hlen : zn.toNatClampNeg = cs.length) (h0 : 0 < cs.length) (hbig : cs.length ≤ 536870912) (hall : ∀ c ∈ cs, ¬ 255 < c) (hfr : 4 ≤ R.frames) (hlo : W + 65 ≤ R.locals) :
    Back l R p e below s args New1.yN len W (fun P a => a = #[.ref x, .ref b] ∧ P.U.heap = h ∧ P.cells + 1 ≤ R.cells ∧ P.slots + cs.length ≤ R.slots)
      (fun P _ v B => ∃ L, QA Z x zn cs h v B.U.heap L ∧ B.locs = P.locs ++ L ∧ B.cells = P.cells + 1 ∧ B.slots = P.slots + cs.length) := by
  obtain ⟨A, K1, K2, K3, K4, K5, K6⟩ := K
  have e : A.slots.size = cs.length := K3.trans hlen
  have hat : ∀ (i : Nat) (hi : i < cs.length), A.slots[i]? = some (.int cs[i]) := fun i hi => by rw [K5 i (by omega)]; simp [List.getD_eq_getElem?_getD, hi]
  have hcv : ∀ (i : Nat) (hi : i < cs.length), cv A i = cs[i] := fun i hi => by unfold cv; rw [hat i hi]
  have hty : Typed .char A := fun i v hv => by
    have hi : i < A.slots.size := (Array.getElem?_eq_some_iff.mp hv).1
    have q := K5 i hi
    rw [hv] at q
    rw [Option.some.inj q]
    exact K6 i hi
  refine Back.mono (back hZ hw wi E V C K1 hty S hz (by omega) (by omega) (fun i hi => by rw [hcv i (by omega)]; exact hall _ (List.getElem_mem _)) hfr hlo) (fun P a hp => ⟨hp.1, hp.2.1, hp.2.2.1, by rw [e]; exact hp.2.2.2⟩) (fun P a v B hp hq => ?_)
  obtain ⟨L, ⟨q1, q2, q3, q4, q5, q6, q7, ⟨V', v1, v2, v3, v4, v5⟩, q9⟩, hl, hc, hs⟩ := hq
  refine ⟨L, ⟨q1, q2, q3, q4, q5, q6, q7, ⟨V'.cls, v3, V', v1, rfl, by rw [v4, e, hlen], K4, fun i hi => ?_, fun i hi => ?_⟩, q9⟩, hl, hc, by rw [hs, e]⟩
  · have hi' : i < cs.length := by omega
    rw [v5 i (by omega), hcv i hi']; simp [List.getD_eq_getElem?_getD, hi']
  · have hi' : i < cs.length := by omega
    simp only [List.getD_eq_getElem?_getD, List.getElem?_map, List.getElem?_eq_getElem hi', Option.map_some, Option.getD_some]
    exact fits_lo8 _
end StrChars.Road
namespace StrChars.Road
open Jvm Sem ClassFile Op Lib Jvm.Stand Jvm.Free Jvm.Free.XT
/-- WHAT COMES BACK, in the writer's own shape -/
def QV (Z : State) (x : Addr) (N : Int32) (bs : List Int32) (h : Heap) (n0 : Nat) (v : Option Value) (h' : Heap) (L : List Loc) : Prop := v = none ∧ RoadKit.Fr n0 L ∧ RoadKit.Keep h h' [x] ∧ RoadKit.Exa Z h' x ST ∧ RoadKit.Fld Z h' x ST "coder" "B" (.int 0) ∧
  ∃ (t : Addr) (kb : ClassId), n0 ≤ t ∧ h.size ≤ t ∧ ¬ t = x ∧ RoadKit.Fld Z h' x ST "value" "[B" (.ref t) ∧ RoadKit.Arv Z h' t kb .byte N (bs.map Value.int) (.int 0)
/-- **new String(chars) AT A CALL, FOR THE WRITER**: a char[] of n known ints, each 0 to 255 -/
theorem backV {p : Program} {l : Launch} {e : Env} {R : Room} {s : State} {args : Array Value} {below : List Frame} {len W : Nat} {Z : State} {a0 : Array Value} {h : Heap} (hZ : Z.Warmed39 s.vm) (hw : ∀ d ∈ words, d.before a0 Z = true) {kI : Nat} (wi : (Jvm.Cond.instantiable ST kI).before a0 Z = true)
    {x b : Addr} {kC : ClassId} {cs bs : List Int32} {d v0 c0 : Value} {z N : Int32} {n n0 : Nat} (hx0 : n0 ≤ x) (hh0 : n0 ≤ h.size) (E : RoadKit.Exa Z h x ST) (V : RoadKit.Fld Z h x ST "value" "[B" v0) (C : RoadKit.Fld Z h x ST "coder" "B" c0) (K : RoadKit.Arv Z h b kC .char N (cs.map Value.int) d) (S : RoadKit.Sta Z h ST "COMPACT_STRINGS" "Z" (.int z)) (hz : ¬ z = 0)
    (hn : cs.length = n) (hN : N = Int32.ofNat n) (l0 : 0 < n) (l2 : n ≤ 4000) (hp : ∀ c ∈ cs, ¬ c < 0 ∧ ¬ (255 : Int32) < c) (hb : bs = cs.map (fun c => c.toInt8.toInt32)) (hfr : 4 ≤ R.frames) (hlo : W + 65 ≤ R.locals) :
    Back l R p e below s args (⟨"java/lang/String", "<init>", "([C)V"⟩ : MethodName) len W (fun P a => a = #[.ref x, .ref b] ∧ P.U.heap = h ∧ P.cells + 1 ≤ R.cells ∧ P.slots + n ≤ R.slots)
      (fun P _ v B => ∃ L, QV Z x N bs h n0 v B.U.heap L ∧ B.locs = P.locs ++ L ∧ B.cells = P.cells + 1 ∧ B.slots = P.slots + n) := by
  subst hn hN hb
  refine Back.mono (backArv hZ hw wi E V C K S hz (n32 (by omega)) l0 (by omega) (fun c hc => (hp c hc).2) hfr hlo) (fun P a hp => hp) (fun P a v B hp hq => ?_)
  obtain ⟨L, ⟨q1, q2, q3, q4, q5, q6, q7, ⟨kb, v1, v2⟩, q9⟩, hl, hc, hs⟩ := hq
  exact ⟨L, ⟨q1, fun y hy => by rw [q2 y hy]; exact hx0, q3, q5, q7, h.size, kb, hh0, Nat.le_refl _, Nat.ne_of_gt E.lt, q6, by rw [List.map_map]; exact v2⟩, hl, hc, hs⟩
end StrChars.Road
namespace StrChars
open Jvm Sem ClassFile Op Lib Jvm.Stand Jvm.Free.XT Jvm.Free.ALB Jvm.Free.JM Jvm.Free
open Jvm.Lib.Cold (StaticIs)
def hi8 (x : Int32) : Int32 := lo8 (x >>> ((8 : Int32) &&& 31))
/-- what StringUTF16.getChar makes of two bytes -/
def pairCh (u v : Int32) : Int32 := (((u &&& 255) <<< ((0 : Int32) &&& 31)) ||| ((v &&& 255) <<< ((8 : Int32) &&& 31))).toUInt32.toUInt16.toUInt32.toInt32
theorem shr0 (c : Int32) : c >>> ((0 : Int32) &&& 31) = c := by
  have e : ((0 : Int32) &&& 31) = 0 := by decide
  rw [e]
  apply Int32.toBitVec_inj.mp
  rw [Int32.toBitVec_shiftRight]
  have e1 : ((0 : Int32).toBitVec.smod 32) = 0#32 := by decide
  rw [e1, BitVec.sshiftRight_eq']
  exact BitVec.sshiftRight_zero
theorem lo8_and (x : Int32) : (lo8 x &&& 255).toBitVec.toNat = x.toBitVec.toNat % 256 := by
  have h : (lo8 x).toBitVec = (x.toBitVec.signExtend 8).signExtend 32 := by rw [lo8, Int8.toBitVec_toInt32, Int32.toBitVec_toInt8]
  rw [Int32.toBitVec_and, BitVec.toNat_and, h]
  have e : ((x.toBitVec.signExtend 8).signExtend 32).toNat % 256 = x.toBitVec.toNat % 256 := by
    rw [BitVec.toNat_signExtend]
    have hlt := x.toBitVec.isLt
    simp only [BitVec.toNat_setWidth, BitVec.toNat_signExtend]
    split <;> split <;> omega
  rw [← e]
  exact Nat.and_two_pow_sub_one_eq_mod _ 8
theorem pair_says {c : Int32} (h0 : ¬ c < 0) (h1 : ¬ 65535 < c) : pairCh (lo8 c) (hi8 c) = c := by
  rw [Int32.lt_iff_toInt_lt] at h0 h1
  have e0 : (0 : Int32).toInt = 0 := rfl
  have e1 : (65535 : Int32).toInt = 65535 := rfl
  have hc : c.toInt = c.toBitVec.toNat := by
    have := c.toBitVec.isLt
    have e : c.toInt = c.toBitVec.toInt := rfl
    rw [e] at h0 h1
    rw [e]
    rw [BitVec.toInt_eq_toNat_cond] at h0 h1 ⊢
    split at h0 <;> split <;> omega
  have hn : c.toBitVec.toNat < 65536 := by omega
  have a1 := lo8_and c
  have a2 : (hi8 c &&& 255).toBitVec.toNat = c.toBitVec.toNat / 256 := by
    rw [hi8, lo8_and]
    have e : ((8 : Int32) &&& 31) = 8 := by decide
    rw [e, Int32.toBitVec_shiftRight]
    have e2 : ((8 : Int32).toBitVec.smod 32) = 8#32 := by decide
    rw [e2, BitVec.sshiftRight_eq', BitVec.toNat_sshiftRight_of_msb_false (by rw [BitVec.msb_eq_false_iff_two_mul_lt]; omega)]
    show c.toBitVec.toNat >>> 8 % 256 = _
    rw [Nat.shiftRight_eq_div_pow]
    omega
  unfold pairCh
  apply Int32.toBitVec_inj.mp
  apply BitVec.eq_of_toNat_eq
  have f0 : ((0 : Int32) &&& 31) = 0 := by decide
  have f8 : ((8 : Int32) &&& 31) = 8 := by decide
  rw [f0, f8]
  have g : (((lo8 c &&& 255) <<< (0 : Int32)) ||| ((hi8 c &&& 255) <<< (8 : Int32))).toBitVec.toNat = c.toBitVec.toNat := by
    rw [Int32.toBitVec_or, Int32.toBitVec_shiftLeft, Int32.toBitVec_shiftLeft]
    have s0 : ((0 : Int32).toBitVec.smod 32) = 0#32 := by decide
    have s8 : ((8 : Int32).toBitVec.smod 32) = 8#32 := by decide
    rw [s0, s8, BitVec.toNat_or]
    simp only [BitVec.shiftLeft_eq', BitVec.toNat_shiftLeft, a1, a2]
    show (c.toBitVec.toNat % 256) <<< 0 % 2 ^ 32 ||| (c.toBitVec.toNat / 256) <<< 8 % 2 ^ 32 = _
    rw [Nat.shiftLeft_zero, Nat.mod_eq_of_lt (show c.toBitVec.toNat % 256 < 2 ^ 32 by omega), Nat.mod_eq_of_lt (show (c.toBitVec.toNat / 256) <<< 8 < 2 ^ 32 by rw [Nat.shiftLeft_eq]; omega), Nat.or_comm, ← Nat.shiftLeft_add_eq_or_of_lt (by omega), Nat.shiftLeft_eq]
    omega
  show BitVec.toNat (((((lo8 c &&& 255) <<< (0 : Int32)) ||| ((hi8 c &&& 255) <<< (8 : Int32))).toBitVec.setWidth 16).setWidth 32) = _
  rw [BitVec.toNat_setWidth, BitVec.toNat_setWidth, g]
  omega
end StrChars
namespace StrChars
open Jvm Sem ClassFile Op Lib Jvm.Stand Jvm.Free.XT Jvm.Free.ALB Jvm.Free.JM Jvm.Free
open Jvm.Lib.Cold (StaticIs)
theorem shr1 {n : Nat} (h : 2 * n < 2 ^ 31) : Int32.ofNat (2 * n) >>> ((1 : Int32) &&& 31) = Int32.ofNat n := by
  have e : ((1 : Int32) &&& 31) = 1 := by decide
  rw [e]
  apply Int32.toBitVec_inj.mp
  rw [Int32.toBitVec_shiftRight]
  have e1 : ((1 : Int32).toBitVec.smod 32) = 1#32 := by decide
  have hm : (BitVec.ofNat 32 (2 * n)).toNat = 2 * n := by rw [BitVec.toNat_ofNat, Nat.mod_eq_of_lt (by omega)]
  rw [e1, BitVec.sshiftRight_eq']
  apply BitVec.eq_of_toNat_eq
  show ((BitVec.ofNat 32 (2 * n)).sshiftRight 1).toNat = (BitVec.ofNat 32 n).toNat
  rw [BitVec.toNat_sshiftRight_of_msb_false (by rw [BitVec.msb_eq_false_iff_two_mul_lt, hm]; omega), hm, BitVec.toNat_ofNat, Nat.shiftRight_eq_div_pow]
  omega
/-- charAt's cast of a byte read back -/
def chr8 (u : Int32) : Int32 := (u &&& 255).toUInt32.toUInt16.toUInt32.toInt32
theorem chr8_lo8 {c : Int32} (h0 : ¬ c < 0) (h1 : ¬ 255 < c) : chr8 (lo8 c) = c := by
  have t : ∀ k : Fin 256, (Int32.ofNat k.val).toUInt32.toUInt16.toUInt32.toInt32 = Int32.ofNat k.val := by decide +kernel
  unfold chr8
  rw [lo8_mask h0 h1]
  rw [Int32.lt_iff_toInt_lt] at h0 h1
  have e0 : (0 : Int32).toInt = 0 := rfl
  have e1 : (255 : Int32).toInt = 255 := rfl
  obtain ⟨k, hk⟩ : ∃ k : Nat, c.toInt = k := ⟨c.toInt.toNat, by omega⟩
  have hx : c = Int32.ofNat k := Int32.toInt_inj.mp (by rw [hk, Int32.toInt_ofNat_small (by omega)])
  rw [hx]
  exact t ⟨k, by omega⟩
theorem narrow_ch {c : Int32} (h0 : ¬ c < 0) (h1 : ¬ 65535 < c) : narrow .char (.int c) = .int c := by
  have q : narrow .char (.int (pairCh (lo8 c) (hi8 c))) = .int (pairCh (lo8 c) (hi8 c)) := narrow_c _
  rwa [pair_says h0 h1] at q
/-- the array's cell V codes the n chars f 0 .. f (n - 1) by the coder cd, as the JDK does: coder 1 just where some char is above 255 -/
def Cod (cd : Int32) (n : Nat) (f : Nat → Int32) (V : Cell) : Prop := (cd = 0 ∧ V.slots.size = n ∧ ∀ j, j < n → V.slots[j]? = some (.int (lo8 (f j))) ∧ ¬ 255 < f j) ∨ (cd = 1 ∧ V.slots.size = 2 * n ∧ (∀ j, j < n → V.slots[2 * j]? = some (.int (lo8 (f j))) ∧ V.slots[2 * j + 1]? = some (.int (hi8 (f j)))) ∧ ∃ j, j < n ∧ 255 < f j)
theorem Cod.cd {cd : Int32} {n : Nat} {f : Nat → Int32} {V : Cell} (h : Cod cd n f V) : cd = 0 ∨ cd = 1 := h.imp (fun q => q.1) fun q => q.1
theorem Cod.len {cd : Int32} {n : Nat} {f : Nat → Int32} {V : Cell} (h : Cod cd n f V) (hs : V.slots.size < 2 ^ 31) : Int32.ofNat V.slots.size >>> (cd &&& 31) = Int32.ofNat n := by
  rcases h with ⟨rfl, h, -⟩ | ⟨rfl, h, -⟩
  · rw [shr0, h]
  · rw [h, shr1 (by omega)]
/-- **x is a String of the n chars f 0 .. f (n - 1)**, Latin-1 or UTF-16; its array at t has the cell V -/
def Txt (x t : Addr) (V : Cell) (cd : Int32) (n : Nat) (f : Nat → Int32) (U : State) : Prop := Exact "java/lang/String" x U ∧ Has x "java/lang/String" "value" "[B" (.ref t) U ∧ Has x "java/lang/String" "coder" "B" (.int cd) U ∧ XT.Arr .byte t V U ∧ Cod cd n f V ∧ ∀ j, j < n → ¬ f j < 0 ∧ ¬ 65535 < f j
theorem Txt.mv {x t : Addr} {V : Cell} {cd : Int32} {n : Nat} {f : Nat → Int32} {U U' : State} (h : Txt x t V cd n f U) (hal : U.vm.Alike U'.vm) (hh : U'.heap = U.heap) : Txt x t V cd n f U' := ⟨h.1.mv hal hh, h.2.1.mv hal hh, h.2.2.1.mv hal hh, h.2.2.2.1.mv hal hh, h.2.2.2.2⟩
namespace Cdr
def yN : MethodName := ⟨"java/lang/String", "coder", "()B"⟩
abbrev yB : ByteArray := jdk_42_method_152_code
theorem d0 : decode yB 0 = .ok (.getstatic 38, 3) := by decide +kernel
theorem d3 : decode yB 3 = .ok (.ifCond (.eq) 10, 3) := by decide +kernel
theorem d6 : decode yB 6 = .ok (.aload_n 0, 1) := by decide +kernel
theorem d7 : decode yB 7 = .ok (.getfield 15, 3) := by decide +kernel
theorem d10 : decode yB 10 = .ok (.goto 4, 3) := by decide +kernel
theorem d14 : decode yB 14 = .ok (.ireturn, 1) := by decide +kernel
def site : List Cond := [.fieldLink "java/lang/String" 38 "java/lang/String" "COMPACT_STRINGS" "Z", .fieldLink "java/lang/String" 15 "java/lang/String" "coder" "B"]
def tab : Cond := tabOf yN yB 1 (some .byte) site
def P (x : Addr) (cd z : Int32) (args : Array Value) (s : State) : Prop := args = #[.ref x] ∧ Has x "java/lang/String" "coder" "B" (.int cd) s ∧ (cd = 0 ∨ cd = 1) ∧ StaticIs s "java/lang/String" "COMPACT_STRINGS" "Z" (.int z) ∧ ¬ z = 0
def E (cd : Int32) (r : Option Value) (s u : State) : Prop := XT.PureE (some (.int cd)) r s u
theorem law (l : Launch) (x : Addr) (cd z : Int32) : Law l yN 1 0 0 0 yB 1 (some .byte) site (P x cd z) (E cd) [] 0 0 := by
  refine Law.of_walk (plainFor_of_name (by decide +kernel)) (by decide +kernel) (by decide +kernel) (by decide) (fun _ _ h => by rw [h.1]; rfl) (fun _ U U' hal hh h => ⟨h.1, h.2.1.mv hal hh, h.2.2.1, h.2.2.2.1.there hal hh, h.2.2.2.2⟩) (fun r U U' V V' h1 hal h2 h => XT.PureE.mv r U U' V V' h1 hal h2 h) ?_
  intro p e s m args below meth c s₁ X0 hexec hbytes hml hret hlk hnm hown hh0 W hP
  obtain ⟨rfl, hx, hc, s1, hz⟩ := hP
  have c1 : Steps p.tables e below (s₁.setTop (entryFrame m #[.ref x] 1)) (s₁.setTop (mkF m 0 #[.val (.ref x)] [])) := entry rfl
  obtain ⟨T2, X2, q2, st2⟩ := X0.sget hexec hown (wk W (.fieldLink "java/lang/String" 38 "java/lang/String" "COMPACT_STRINGS" "Z")) s1 (fun _ _ h => by rw [hh0]; exact h) (g := (mkF m 0 #[.val (.ref x)] [])) rfl (hb hbytes d0)
  have hh2 := q2.trans hh0
  have c3 : Steps p.tables e below (s₁.setTop (entryFrame m #[.ref x] 1)) (T2.setTop (mkF m 7 #[.val (.ref x)] [.ref x])) := (c1.trans (st2 _ (Steps.refl _))).trans (by
    refine XS.ifNo X2.here hexec rfl (hb hbytes d3) rfl (i0_eq_f hz) ?_
    refine XS.aloadN X2.here hexec rfl (hb hbytes d6) rfl rfl ?_
    exact Steps.refl _)
  obtain ⟨T4, X4, q4, st4⟩ := X2.hget hexec hown (wk W (.fieldLink "java/lang/String" 15 "java/lang/String" "coder" "B")) (hx.mv X2.warmed.alike hh2) (g := (mkF m 7 #[.val (.ref x)] [.ref x])) rfl (rest := []) rfl (hb hbytes d7)
  have c5 : Steps p.tables e below (s₁.setTop (entryFrame m #[.ref x] 1)) (T4.setTop (mkF m 14 #[.val (.ref x)] [.int cd])) := (c3.trans (st4 _ (Steps.refl _))).trans (by
    refine XS.goto X4.here hexec rfl (pc0 := 10) rfl (hb hbytes d10) (by decide) rfl ?_
    exact Steps.refl _)
  exact ⟨T4, some (.int cd), _, _, _, X4, rfl, rfl, rfl, (fun h => by cases h), ⟨rfl, q4.trans hh2⟩, fun fs hl => c5.trans (X4.ireturnOut hexec hret (by rcases hc with rfl | rfl <;> rfl) (Or.inr (Or.inr (Or.inl rfl))) (hb hbytes d14) hl)⟩
end Cdr
namespace Len
def yN : MethodName := ⟨"java/lang/String", "length", "()I"⟩
abbrev yB : ByteArray := jdk_42_method_54_code
theorem d0 : decode yB 0 = .ok (.aload_n 0, 1) := by decide +kernel
theorem d1 : decode yB 1 = .ok (.getfield 9, 3) := by decide +kernel
theorem d4 : decode yB 4 = .ok (.arraylength, 1) := by decide +kernel
theorem d5 : decode yB 5 = .ok (.aload_n 0, 1) := by decide +kernel
theorem d6 : decode yB 6 = .ok (.invokevirtual 335, 3) := by decide +kernel
theorem d9 : decode yB 9 = .ok (.ishr, 1) := by decide +kernel
theorem d10 : decode yB 10 = .ok (.ireturn, 1) := by decide +kernel
def site : List Cond := [.fieldLink "java/lang/String" 9 "java/lang/String" "value" "[B", Cdr.tab] ++ virtW "java/lang/String" 335 "java/lang/String" Cdr.yN Cdr.yN
def tab : Cond := tabOf yN yB 1 (some .int) site
def P (x t : Addr) (V : Cell) (cd : Int32) (n : Nat) (f : Nat → Int32) (z : Int32) (args : Array Value) (s : State) : Prop := args = #[.ref x] ∧ Txt x t V cd n f s ∧ StaticIs s "java/lang/String" "COMPACT_STRINGS" "Z" (.int z) ∧ ¬ z = 0
def E (n : Nat) (r : Option Value) (s u : State) : Prop := XT.PureE (some (.int (Int32.ofNat n))) r s u
/-- length() of a String of n chars, in either coding -/
theorem law (l : Launch) (x t : Addr) (V : Cell) (cd : Int32) (n : Nat) (f : Nat → Int32) (z : Int32) : Law l yN 1 0 1 13 yB 1 (some .int) site (P x t V cd n f z) (E n) [] 0 0 := by
  refine Law.of_walk (plainFor_of_name (by decide +kernel)) (by decide +kernel) (by decide +kernel) (by decide) (fun _ _ h => by rw [h.1]; rfl) (fun _ U U' hal hh h => ⟨h.1, h.2.1.mv hal hh, h.2.2.1.there hal hh, h.2.2.2⟩) (fun r U U' V V' h1 hal h2 h => XT.PureE.mv r U U' V V' h1 hal h2 h) ?_
  intro p e s m args below meth c s₁ X0 hexec hbytes hml hret hlk hnm hown hh0 W hP
  obtain ⟨rfl, hx, s1, hz⟩ := hP
  have v31 := hx.2.2.2.1.2.2.2
  have c1 : Steps p.tables e below (s₁.setTop (entryFrame m #[.ref x] 1)) (s₁.setTop (mkF m 1 #[.val (.ref x)] [.ref x])) := Steps.trans (entry rfl) (by
    show Steps p.tables e below (s₁.setTop (mkF m 0 #[.val (.ref x)] [])) _
    refine XS.aloadN X0.here hexec rfl (hb hbytes d0) rfl rfl ?_
    exact Steps.refl _)
  obtain ⟨T2, X2, q2, st2⟩ := X0.hget hexec hown (wk W (.fieldLink "java/lang/String" 9 "java/lang/String" "value" "[B")) (hx.mv X0.warmed.alike hh0).2.1 (g := (mkF m 1 #[.val (.ref x)] [.ref x])) rfl (rest := []) rfl (hb hbytes d1)
  have hh2 := q2.trans hh0
  have hx2 := hx.mv X2.warmed.alike hh2
  have c3 : Steps p.tables e below (s₁.setTop (entryFrame m #[.ref x] 1)) (T2.setTop (mkF m 6 #[.val (.ref x)] [.ref x, .int (Int32.ofNat V.slots.size)])) := (c1.trans (st2 _ (Steps.refl _))).trans (by
    refine X2.alen hexec hx2.2.2.2.1 rfl rfl (hb hbytes d4) ?_
    refine XS.aloadN X2.here hexec rfl (hb hbytes d5) rfl rfl ?_
    exact Steps.refl _)
  obtain ⟨v4, T4, X4, E4, g4⟩ := X2.callV hexec (Cdr.law l x cd z) hown (wks W (virtW "java/lang/String" 335 "java/lang/String" Cdr.yN Cdr.yN)) rfl (by decide) (wk W Cdr.tab) (W := 1) (Nat.le_of_ble_eq_true rfl) (Nat.le_of_ble_eq_true rfl) (Nat.le_refl _) (Nat.le_refl _) (hx2.1.fc X2.warmed.alike) hx2.1.is (g := (mkF m 6 #[.val (.ref x)] [.ref x, .int (Int32.ofNat V.slots.size)])) rfl (by rw [hml]; rfl) c3 (argsL := []) (rest := [.int (Int32.ofNat V.slots.size)]) rfl rfl (by show 2 * 0 + (1 + 0) ≤ _; decide) (hb hbytes d6) (⟨rfl, hx2.2.2.1, hx.2.2.2.2.1.cd, s1.there X2.warmed.alike hh2, hz⟩)
  obtain ⟨rfl, q4⟩ := E4
  have c5 : Steps p.tables e below (s₁.setTop (entryFrame m #[.ref x] 1)) (T4.setTop (mkF m 10 #[.val (.ref x)] [.int (Int32.ofNat V.slots.size >>> (cd &&& 31))])) := Steps.trans g4 (by
    refine ishr X4.here hexec rfl (hb hbytes d9) rfl ?_
    exact Steps.refl _)
  rw [hx.2.2.2.2.1.len v31] at c5
  exact ⟨T4, some (.int (Int32.ofNat n)), _, _, _, X4, rfl, rfl, rfl, (fun h => by cases h), ⟨rfl, q4.trans hh2⟩, fun fs hl => c5.trans (X4.ireturnOut hexec hret rfl (Or.inl rfl) (hb hbytes d10) hl)⟩
theorem pays {l : Launch} {R : Room} {p : Program} {e : Env} {below : List Frame} {s : State} {sargs : Array Value} {len W : Nat} (x t : Addr) (V : Cell) (cd : Int32) (n : Nat) (f : Nat → Int32) (z : Int32) (htab : tab.before sargs s = true) (hfr : 2 ≤ R.frames) (hlo : W + 25 ≤ R.locals) :
    Back l R p e below s sargs yN len W (fun A₁ a₁ => A₁.cells + 0 ≤ R.cells ∧ A₁.slots + 0 ≤ R.slots ∧ P x t V cd n f z a₁ A₁.U) (fun A₁ _ v₁ B₁ => E n v₁ A₁.U B₁.U ∧ B₁.locs = A₁.locs ++ [] ∧ B₁.cells = A₁.cells + 0 ∧ B₁.slots = A₁.slots + 0) :=
  (law l x t V cd n f z).pays htab hfr (by omega)
end Len
namespace IsL
def yN : MethodName := ⟨"java/lang/String", "isLatin1", "()Z"⟩
abbrev yB : ByteArray := jdk_42_method_154_code
theorem d0 : decode yB 0 = .ok (.getstatic 38, 3) := by decide +kernel
theorem d3 : decode yB 3 = .ok (.ifCond (.eq) 14, 3) := by decide +kernel
theorem d6 : decode yB 6 = .ok (.aload_n 0, 1) := by decide +kernel
theorem d7 : decode yB 7 = .ok (.getfield 15, 3) := by decide +kernel
theorem d10 : decode yB 10 = .ok (.ifCond (.ne) 7, 3) := by decide +kernel
theorem d13 : decode yB 13 = .ok (.iconst 1, 1) := by decide +kernel
theorem d14 : decode yB 14 = .ok (.goto 4, 3) := by decide +kernel
theorem d17 : decode yB 17 = .ok (.iconst 0, 1) := by decide +kernel
theorem d18 : decode yB 18 = .ok (.ireturn, 1) := by decide +kernel
def site : List Cond := [.fieldLink "java/lang/String" 38 "java/lang/String" "COMPACT_STRINGS" "Z", .fieldLink "java/lang/String" 15 "java/lang/String" "coder" "B"]
def tab : Cond := tabOf yN yB 1 (some .boolean) site
def P (x : Addr) (cd z : Int32) (args : Array Value) (s : State) : Prop := args = #[.ref x] ∧ Has x "java/lang/String" "coder" "B" (.int cd) s ∧ (cd = 0 ∨ cd = 1) ∧ StaticIs s "java/lang/String" "COMPACT_STRINGS" "Z" (.int z) ∧ ¬ z = 0
def E (cd : Int32) (r : Option Value) (s u : State) : Prop := XT.PureE (some (.int (1 - cd))) r s u
theorem law (l : Launch) (x : Addr) (cd z : Int32) : Law l yN 1 0 0 0 yB 1 (some .boolean) site (P x cd z) (E cd) [] 0 0 := by
  refine Law.of_walk (plainFor_of_name (by decide +kernel)) (by decide +kernel) (by decide +kernel) (by decide) (fun _ _ h => by rw [h.1]; rfl) (fun _ U U' hal hh h => ⟨h.1, h.2.1.mv hal hh, h.2.2.1, h.2.2.2.1.there hal hh, h.2.2.2.2⟩) (fun r U U' V V' h1 hal h2 h => XT.PureE.mv r U U' V V' h1 hal h2 h) ?_
  intro p e s m args below meth c s₁ X0 hexec hbytes hml hret hlk hnm hown hh0 W hP
  obtain ⟨rfl, hx, hc, s1, hz⟩ := hP
  have c1 : Steps p.tables e below (s₁.setTop (entryFrame m #[.ref x] 1)) (s₁.setTop (mkF m 0 #[.val (.ref x)] [])) := entry rfl
  obtain ⟨T2, X2, q2, st2⟩ := X0.sget hexec hown (wk W (.fieldLink "java/lang/String" 38 "java/lang/String" "COMPACT_STRINGS" "Z")) s1 (fun _ _ h => by rw [hh0]; exact h) (g := (mkF m 0 #[.val (.ref x)] [])) rfl (hb hbytes d0)
  have hh2 := q2.trans hh0
  have c3 : Steps p.tables e below (s₁.setTop (entryFrame m #[.ref x] 1)) (T2.setTop (mkF m 7 #[.val (.ref x)] [.ref x])) := (c1.trans (st2 _ (Steps.refl _))).trans (by
    refine XS.ifNo X2.here hexec rfl (hb hbytes d3) rfl (i0_eq_f hz) ?_
    refine XS.aloadN X2.here hexec rfl (hb hbytes d6) rfl rfl ?_
    exact Steps.refl _)
  obtain ⟨T4, X4, q4, st4⟩ := X2.hget hexec hown (wk W (.fieldLink "java/lang/String" 15 "java/lang/String" "coder" "B")) (hx.mv X2.warmed.alike hh2) (g := (mkF m 7 #[.val (.ref x)] [.ref x])) rfl (rest := []) rfl (hb hbytes d7)
  have c5 : Steps p.tables e below (s₁.setTop (entryFrame m #[.ref x] 1)) (T4.setTop (mkF m 10 #[.val (.ref x)] [.int cd])) := c3.trans (st4 _ (Steps.refl _))
  have c6 : Steps p.tables e below (s₁.setTop (entryFrame m #[.ref x] 1)) (T4.setTop (mkF m 18 #[.val (.ref x)] [.int (1 - cd)])) := by
    rcases hc with rfl | rfl
    · exact c5.trans (by
        refine XS.ifNo X4.here hexec rfl (hb hbytes d10) rfl (i0_ne_f rfl) ?_
        refine iconstV X4.here hexec rfl 1 (hb hbytes d13) (by decide) ?_
        refine XS.goto X4.here hexec rfl (pc0 := 14) rfl (hb hbytes d14) (by decide) rfl ?_
        exact Steps.refl _)
    · exact c5.trans (by
        refine XS.ifYes X4.here hexec rfl (pc0 := 10) rfl (hb hbytes d10) rfl (i0_ne_t (by decide)) (by decide) rfl ?_
        refine iconstV X4.here hexec rfl 0 (hb hbytes d17) (by decide) ?_
        exact Steps.refl _)
  exact ⟨T4, some (.int (1 - cd)), _, _, _, X4, rfl, rfl, rfl, (fun h => by cases h), ⟨rfl, q4.trans hh2⟩, fun fs hl => c6.trans (X4.ireturnOut hexec hret (by rcases hc with rfl | rfl <;> rfl) (Or.inr (Or.inl rfl)) (hb hbytes d18) hl)⟩
end IsL
namespace LChA
def yN : MethodName := ⟨"java/lang/StringLatin1", "charAt", "([BI)C"⟩
abbrev yB : ByteArray := jdk_43_method_2_code
theorem d0 : decode yB 0 = .ok (.iload_n 1, 1) := by decide +kernel
theorem d1 : decode yB 1 = .ok (.aload_n 0, 1) := by decide +kernel
theorem d2 : decode yB 2 = .ok (.arraylength, 1) := by decide +kernel
theorem d3 : decode yB 3 = .ok (.invokestatic 9, 3) := by decide +kernel
theorem d6 : decode yB 6 = .ok (.aload_n 0, 1) := by decide +kernel
theorem d7 : decode yB 7 = .ok (.iload_n 1, 1) := by decide +kernel
theorem d8 : decode yB 8 = .ok (.baload, 1) := by decide +kernel
theorem d9 : decode yB 9 = .ok (.sipush 255, 3) := by decide +kernel
theorem d12 : decode yB 12 = .ok (.iand, 1) := by decide +kernel
theorem d13 : decode yB 13 = .ok (.i2c, 1) := by decide +kernel
theorem d14 : decode yB 14 = .ok (.ireturn, 1) := by decide +kernel
def site : List Cond := [JO.Str_checkIndex.tab] ++ staticW "java/lang/StringLatin1" 9 JO.Str_checkIndex.yN
def tab : Cond := tabOf yN yB 2 (some .char) site
def P (t : Addr) (V : Cell) (i : Nat) (u : Int32) (fm : Value) (args : Array Value) (s : State) : Prop := args = #[.ref t, .int (Int32.ofNat i)] ∧ XT.Arr .byte t V s ∧ V.slots[i]? = some (.int u) ∧ (StaticIs s "jdk/internal/util/Preconditions" "SIOOBE_FORMATTER" "Ljava/util/function/BiFunction;" fm ∧ fm.isRef = true)
def E (u : Int32) (r : Option Value) (s w : State) : Prop := XT.PureE (some (.int (chr8 u))) r s w
theorem law (l : Launch) (t : Addr) (V : Cell) (i : Nat) (u : Int32) (fm : Value) : Law l yN 2 2 2 27 yB 2 (some .char) site (P t V i u fm) (E u) [] 0 0 := by
  refine Law.of_walk (plainFor_of_name (by decide +kernel)) (by decide +kernel) (by decide +kernel) (by decide) (fun _ _ h => by rw [h.1]; rfl) (fun _ U U' hal hh h => ⟨h.1, h.2.1.mv hal hh, h.2.2.1, h.2.2.2.1.there hal hh, h.2.2.2.2⟩) (fun r U U' V V' h1 hal h2 h => XT.PureE.mv r U U' V V' h1 hal h2 h) ?_
  intro p e s m args below meth c s₁ X0 hexec hbytes hml hret hlk hnm hown hh0 W hP
  obtain ⟨rfl, hV, hu, s1, rf⟩ := hP
  have v31 := hV.2.2.2
  have hi : i < V.slots.size := (Array.getElem?_eq_some_iff.mp hu).1
  have c1 : Steps p.tables e below (s₁.setTop (entryFrame m #[.ref t, .int (Int32.ofNat i)] 2)) (s₁.setTop (mkF m 0 #[.val (.ref t), .val (.int (Int32.ofNat i))] [])) := entry rfl
  have c2 : Steps p.tables e below (s₁.setTop (entryFrame m #[.ref t, .int (Int32.ofNat i)] 2)) (s₁.setTop (mkF m 3 #[.val (.ref t), .val (.int (Int32.ofNat i))] [.int (Int32.ofNat V.slots.size), .int (Int32.ofNat i)])) := c1.trans (by
    refine XS.iloadN X0.here hexec rfl (hb hbytes d0) rfl ?_
    refine XS.aloadN X0.here hexec rfl (hb hbytes d1) rfl rfl ?_
    refine X0.alen hexec (hV.mv X0.warmed.alike hh0) rfl rfl (hb hbytes d2) ?_
    exact Steps.refl _)
  obtain ⟨v3, T3, X3, E3, g3⟩ := X0.callS hexec (JO.Str_checkIndex.law l (Int32.ofNat i) (Int32.ofNat V.slots.size) fm) hown (wks W (staticW "java/lang/StringLatin1" 9 JO.Str_checkIndex.yN)) (wk W JO.Str_checkIndex.tab) (W := 0) (Nat.le_of_ble_eq_true rfl) (Nat.le_of_ble_eq_true rfl) (Nat.le_refl _) (Nat.le_refl _) (g := (mkF m 3 #[.val (.ref t), .val (.int (Int32.ofNat i))] [.int (Int32.ofNat V.slots.size), .int (Int32.ofNat i)])) rfl (by rw [hml]; rfl) c2 (argsL := [.int (Int32.ofNat i), .int (Int32.ofNat V.slots.size)]) (rest := []) rfl rfl (by show 2 * 0 + 0 ≤ _; decide) (hb hbytes d3) (⟨rfl, rf, s1.there X0.warmed.alike hh0, Int32.ofNat_not_neg (by omega), lt32 v31 hi⟩)
  obtain ⟨rfl, q3⟩ := E3
  have hh3 := q3.trans hh0
  have c4 : Steps p.tables e below (s₁.setTop (entryFrame m #[.ref t, .int (Int32.ofNat i)] 2)) (T3.setTop (mkF m 14 #[.val (.ref t), .val (.int (Int32.ofNat i))] [.int (chr8 u)])) := Steps.trans g3 (by
    refine XS.aloadN X3.here hexec rfl (hb hbytes d6) rfl rfl ?_
    refine XS.iloadN X3.here hexec rfl (hb hbytes d7) rfl ?_
    refine X3.aget hexec (hV.mv X3.warmed.alike hh3) rfl hu rfl rfl (hb hbytes d8) ?_
    refine sipushV X3.here hexec rfl 255 (hb hbytes d9) (by decide) ?_
    refine XS.iand X3.here hexec rfl (hb hbytes d12) rfl ?_
    refine i2c X3.here hexec rfl (hb hbytes d13) rfl ?_
    exact Steps.refl _)
  exact ⟨T3, some (.int (chr8 u)), _, _, _, X3, rfl, rfl, rfl, (fun h => by cases h), ⟨rfl, hh3⟩, fun fs hl => c4.trans (X3.ireturnOut hexec hret (narrow_c _) (Or.inr (Or.inr (Or.inr (Or.inl rfl)))) (hb hbytes d14) hl)⟩
end LChA
end StrChars
namespace StrChars.Road
open Jvm Sem ClassFile Op Lib Jvm.Stand Jvm.Free Jvm.Free.XT
open Jvm.Lib.Cold (StaticIs)
theorem consq {a : Array Value} {s : State} {c : Jvm.Cond} {L : List Jvm.Cond} (h0 : c.before a s = true) (h : ∀ w ∈ L, w.before a s = true) : ∀ w ∈ c :: L, w.before a s = true := fun w hw => (List.mem_cons.mp hw).elim (fun e => e ▸ h0) (h w)
/-- the words of String.length(), either coding -/
abbrev wordsLen : List Jvm.Cond := [.code Len.yN Len.yB 1 (some .int), .initialized ST, .fieldLink ST 9 ST "value" "[B", .fieldLink ST 38 ST "COMPACT_STRINGS" "Z", .fieldLink ST 15 ST "coder" "B", .code Cdr.yN Cdr.yB 1 (some .byte), .methodLink ST 335 Cdr.yN, .declares Cdr.yN, .selects ST Cdr.yN Cdr.yN, .instanceMethod Cdr.yN]
theorem tabLen_of {a : Array Value} {s : State} (h : ∀ w ∈ wordsLen, w.before a s = true) : Len.tab.before a s = true := by
  have hc : Cdr.tab.before a s = true := unparts (wk h (.code Cdr.yN Cdr.yB 1 (some .byte))) (wks h (.initialized Cdr.yN.cls :: Cdr.site))
  have q := consq hc h
  exact unparts (wk q (.code Len.yN Len.yB 1 (some .int))) (wks q (.initialized Len.yN.cls :: Len.site))
theorem movedLen {Z s : State} {a0 args : Array Value} (hZ : Z.Warmed39 s.vm) (hw : ∀ d ∈ wordsLen, d.before a0 Z = true) : ∀ d ∈ wordsLen, d.before args s = true := fun d hd => by
  have q := hw d hd
  have t : ∀ d ∈ wordsLen, d = .arrayClass .byte ∨ (d.onTables && d.keepsFace) = true := by decide +kernel
  rcases t d hd with rfl | t
  · exact RoadKit.mvA hZ q
  · exact RoadKit.mv hZ q t
/-- the bytes of the chars cs, low before high -/
def wideBytes : List Int32 → List Value
  | [] => []
  | c :: cs => .int (lo8 c) :: .int (hi8 c) :: wideBytes cs
theorem wide_lo (d : Value) : ∀ (cs : List Int32) (j : Nat), j < cs.length → (wideBytes cs).getD (2 * j) d = .int (lo8 (cs.getD j 0))
  | [], j, h => absurd h (Nat.not_lt_zero j)
  | c :: cs, 0, _ => rfl
  | c :: cs, j + 1, h => by
    have q := wide_lo d cs j (by simpa using h)
    rw [show 2 * (j + 1) = 2 * j + 1 + 1 from by omega]
    simpa [wideBytes] using q
theorem wide_hi (d : Value) : ∀ (cs : List Int32) (j : Nat), j < cs.length → (wideBytes cs).getD (2 * j + 1) d = .int (hi8 (cs.getD j 0))
  | [], j, h => absurd h (Nat.not_lt_zero j)
  | c :: cs, 0, _ => rfl
  | c :: cs, j + 1, h => by
    have q := wide_hi d cs j (by simpa using h)
    rw [show 2 * (j + 1) + 1 = 2 * j + 1 + 1 + 1 from by omega]
    simpa [wideBytes] using q
theorem low_at (d : Value) (cs : List Int32) (j : Nat) (h : j < cs.length) : (cs.map fun c => Value.int (lo8 c)).getD j d = .int (lo8 (cs.getD j 0)) := by
  simp [List.getD_eq_getElem?_getD, h]
/-- an array of N2 bytes vs codes the chars cs by the coder cd -/
def CodA (cs : List Int32) (cd N2 : Int32) (vs : List Value) : Prop := (cd = 0 ∧ N2 = Int32.ofNat cs.length ∧ vs = (cs.map fun c => Value.int (lo8 c)) ∧ ∀ c ∈ cs, ¬ 255 < c) ∨ (cd = 1 ∧ N2 = Int32.ofNat (2 * cs.length) ∧ vs = wideBytes cs ∧ ∃ c ∈ cs, 255 < c)
theorem CodA.cod {cs : List Int32} {cd N2 : Int32} {vs : List Value} {V : Cell} (h : CodA cs cd N2 vs) (hn : 2 * cs.length < 2 ^ 31) (hs : V.slots.size = N2.toNatClampNeg) (hv : RoadKit.Has V vs (.int 0)) : Cod cd cs.length (fun j => cs.getD j 0) V := by
  rcases h with ⟨rfl, rfl, rfl, h⟩ | ⟨rfl, rfl, rfl, c, hc, hw⟩
  · rw [n32 (by omega)] at hs
    exact Or.inl ⟨rfl, hs, fun j hj => ⟨by rw [hv j (by omega), low_at _ _ _ hj], by
      have e : cs.getD j 0 = cs[j] := by simp [List.getD_eq_getElem?_getD, hj]
      show ¬ 255 < cs.getD j 0
      rw [e]; exact h _ (List.getElem_mem _)⟩⟩
  · rw [n32 (by omega)] at hs
    obtain ⟨j, hj, rfl⟩ := List.getElem_of_mem hc
    exact Or.inr ⟨rfl, hs, fun j hj => ⟨by rw [hv _ (by omega), wide_lo _ _ _ hj], by rw [hv _ (by omega), wide_hi _ _ _ hj]⟩, j, hj, by
      have e : cs.getD j 0 = cs[j] := by simp [List.getD_eq_getElem?_getD, hj]
      show 255 < cs.getD j 0
      rw [e]; exact hw⟩
/-- an object of exactly java/lang/String, its two fields found: as the laws ask it -/
theorem strObj {Z U : State} {a0 : Array Value} {kI : Nat} (wi : (Jvm.Cond.instantiable ST kI).before a0 Z = true) (al : Z.vm.Alike U.vm) {x : Addr} {v0 c0 : Value} (E : RoadKit.Exa Z U.heap x ST) (V : RoadKit.Fld Z U.heap x ST "value" "[B" v0) (C : RoadKit.Fld Z U.heap x ST "coder" "B" c0) :
    ∃ (D : Cell) (fV fC : Field), Blank ST x D U ∧ Found ST "value" "[B" fV U ∧ Found ST "coder" "B" fC U ∧ D.slots[fV.slot]? = some v0 ∧ D.slots[fC.slot]? = some c0 ∧ RoadKit.slotOf Z ST "value" "[B" = fV.slot ∧ RoadKit.slotOf Z ST "coder" "B" = fC.slot := by
  obtain ⟨D, cfV, kV, iV, fV, hD, gV, stV, knV, obV, asV, slV⟩ := V
  obtain ⟨D', cfC, kC, iC, fC, hD', gC, stC, -, -, asC, slC⟩ := C
  cases hD.symm.trans hD'
  obtain ⟨D2, kD, e1, e2, e3, e4, e5⟩ := E
  cases hD.symm.trans e1
  obtain ⟨c2, k2, i1, i2, i3, -⟩ := Cond.instantiable_spec wi
  cases e2.symm.trans i1
  cases e3.symm.trans i2
  obtain ⟨kU, u1, u2⟩ := al.2.2 _ _ e3
  exact ⟨D, fV, fC, ⟨hD, ⟨knV, fun q hq => by rw [hq] at obV; cases obV⟩, by rw [al.findClass]; exact e2, kU, u1, by rw [u2]; exact i3, by rw [u2]; exact e5 i3⟩, ⟨SBG.found_only al ⟨cfV, kV, iV, gV⟩, stV⟩, ⟨SBG.found_only al ⟨cfC, kC, iC, gC⟩, stC⟩, slV, slC, by simp [RoadKit.slotOf, gV], by simp [RoadKit.slotOf, gC]⟩
theorem sta_is {Z U : State} (al : Z.vm.Alike U.vm) {C n d : String} {v : Value} (S : RoadKit.Sta Z U.heap C n d v) : StaticIs U C n d v := by
  obtain ⟨cfS, iS, kS, fS, st, cS, t1, t2, t3, t4, t5, t6, t7⟩ := S
  exact StaticIs.there (s := { Z with heap := U.heap }) ⟨cfS, iS, kS, fS, st, cS, t1, t2, t3, t4, t5, (fun q => by rw [q] at t6; cases t6), t7⟩ al rfl
/-- **length() OF SUCH A STRING** -/
theorem lenW {p : Program} {l : Launch} {e : Env} {R : Room} {s : State} {args : Array Value} {below : List Frame} {len W : Nat} {Z : State} {a0 : Array Value} {h : Heap} (hZ : Z.Warmed39 s.vm) (hw : ∀ d ∈ wordsLen, d.before a0 Z = true) {kI : Nat} (wi : (Jvm.Cond.instantiable ST kI).before a0 Z = true)
    {x t : Addr} {kb : ClassId} {cs : List Int32} {cd N2 z : Int32} {vs : List Value} (E : RoadKit.Exa Z h x ST) (V : RoadKit.Fld Z h x ST "value" "[B" (.ref t)) (C : RoadKit.Fld Z h x ST "coder" "B" (.int cd)) (K : RoadKit.Arv Z h t kb .byte N2 vs (.int 0)) (hc : CodA cs cd N2 vs) (hb : ∀ c ∈ cs, ¬ c < 0 ∧ ¬ (65535 : Int32) < c)
    (S : RoadKit.Sta Z h ST "COMPACT_STRINGS" "Z" (.int z)) (hz : ¬ z = 0) (l2 : cs.length ≤ 4000) (hfr : 2 ≤ R.frames) (hlo : W + 25 ≤ R.locals) :
    Back l R p e below s args (⟨"java/lang/String", "length", "()I"⟩ : MethodName) len W (fun P a => a = #[.ref x] ∧ P.U.heap = h ∧ P.cells + 0 ≤ R.cells ∧ P.slots + 0 ≤ R.slots)
      (fun P _ v B => ∃ L, (v = some (.int (Int32.ofNat cs.length)) ∧ L = [] ∧ B.U.heap = h) ∧ B.locs = P.locs ++ L ∧ B.cells = P.cells + 0 ∧ B.slots = P.slots + 0) := by
  obtain ⟨A, K1, K2, K3, K4, K5, K6⟩ := K
  have hcod := hc.cod (by omega) K3 K5
  intro m meth c P g ig mk a X hg hsize hdg hW hn hp'
  obtain ⟨rfl, rfl, r1, r2⟩ := hp'
  have al : Z.vm.Alike P.U.vm := hZ.alike.trans X.warmed.alike
  obtain ⟨D, fV, fC, hB, F1, F2, g1, g2, -, -⟩ := strObj wi al E V C
  have hx : Txt x t A cd cs.length (fun j => cs.getD j 0) P.U := ⟨⟨_, hB.2.2.1, D, hB.1, rfl, by cases q : D.vm <;> first | rfl | exact absurd q (hB.2.1.2 _)⟩, Has.of hB F1 g1, Has.of hB F2 g2, ⟨K1.1, State.isArrayOf_alike al K1.2.1, K1.2.2, by rcases hcod with ⟨-, q, -⟩ | ⟨-, q, -⟩ <;> omega⟩, hcod, fun j hj => by
    have e : cs.getD j 0 = cs[j] := by simp [List.getD_eq_getElem?_getD, hj]
    show ¬ cs.getD j 0 < 0 ∧ ¬ 65535 < cs.getD j 0
    rw [e]; exact hb _ (List.getElem_mem _)⟩
  obtain ⟨v, B, X', ⟨⟨hv, hh⟩, hl, hk, hs⟩, st⟩ := Len.pays x t A cd cs.length (fun j => cs.getD j 0) z (tabLen_of (movedLen hZ hw)) hfr hlo m meth c P g ig mk _ X hg hsize hdg hW hn ⟨r1, r2, rfl, hx, sta_is al S, hz⟩
  exact ⟨v, B, X', ⟨[], ⟨hv, rfl, hh⟩, hl, hk, hs⟩, st⟩
end StrChars.Road
namespace StrChars
open Jvm Sem ClassFile Op Lib Jvm.Stand Jvm.Free.XT Jvm.Free.ALB Jvm.Free.JM Jvm.Free
open Jvm.Lib.Cold (StaticIs)
/-- what place i of a byte[]'s cell holds -/
def yv (A : Cell) (i : Nat) : Int32 := match A.slots[i]? with | some (.int x) => x | _ => 0
theorem yv_get {a : Addr} {A : Cell} {U : State} (h : XT.Arr .byte a A U) (ht : Typed .byte A) {i : Nat} (hi : i < A.slots.size) : A.slots[i]? = some (.int (yv A i)) := by
  have e := Array.getElem?_eq_getElem hi
  have f := ht i _ e
  unfold yv; rw [e]
  generalize A.slots[i] = v at f
  cases v <;> simp [fits] at f ⊢
/-- the two arrays are equal, place for place -/
def EqC (A B : Cell) : Prop := A.slots.size = B.slots.size ∧ ∀ i, i < A.slots.size → yv A i = yv B i
/-- a boolean that says whether p -/
def Says01 (q : Prop) (r : Option Value) (s u : State) : Prop := ∃ v : Int32, r = some (.int v) ∧ u.heap = s.heap ∧ ((v = 1 ∧ q) ∨ (v = 0 ∧ ¬ q))
theorem Says01.mv {q : Prop} : ∀ r (U U' V V' : State), U'.heap = U.heap → V.vm.Alike V'.vm → V'.heap = V.heap → Says01 q r U V → Says01 q r U' V' :=
  fun r U U' V V' h1 _ h2 ⟨v, a, b, c⟩ => ⟨v, a, by rw [h1, h2]; exact b, c⟩
namespace LEq
def yN : MethodName := ⟨"java/lang/StringLatin1", "equals", "([B[B)Z"⟩
abbrev yB : ByteArray := jdk_43_method_13_code
theorem d0 : decode yB 0 = .ok (.aload_n 0, 1) := by decide +kernel
theorem d1 : decode yB 1 = .ok (.arraylength, 1) := by decide +kernel
theorem d2 : decode yB 2 = .ok (.aload_n 1, 1) := by decide +kernel
theorem d3 : decode yB 3 = .ok (.arraylength, 1) := by decide +kernel
theorem d4 : decode yB 4 = .ok (.if_icmp (.ne) 30, 3) := by decide +kernel
theorem d7 : decode yB 7 = .ok (.iconst 0, 1) := by decide +kernel
theorem d8 : decode yB 8 = .ok (.istore_n 2, 1) := by decide +kernel
theorem d9 : decode yB 9 = .ok (.iload_n 2, 1) := by decide +kernel
theorem d10 : decode yB 10 = .ok (.aload_n 0, 1) := by decide +kernel
theorem d11 : decode yB 11 = .ok (.arraylength, 1) := by decide +kernel
theorem d12 : decode yB 12 = .ok (.if_icmp (.ge) 20, 3) := by decide +kernel
theorem d15 : decode yB 15 = .ok (.aload_n 0, 1) := by decide +kernel
theorem d16 : decode yB 16 = .ok (.iload_n 2, 1) := by decide +kernel
theorem d17 : decode yB 17 = .ok (.baload, 1) := by decide +kernel
theorem d18 : decode yB 18 = .ok (.aload_n 1, 1) := by decide +kernel
theorem d19 : decode yB 19 = .ok (.iload_n 2, 1) := by decide +kernel
theorem d20 : decode yB 20 = .ok (.baload, 1) := by decide +kernel
theorem d21 : decode yB 21 = .ok (.if_icmp (.eq) 5, 3) := by decide +kernel
theorem d24 : decode yB 24 = .ok (.iconst 0, 1) := by decide +kernel
theorem d25 : decode yB 25 = .ok (.ireturn, 1) := by decide +kernel
theorem d26 : decode yB 26 = .ok (.iinc 2 1, 3) := by decide +kernel
theorem d29 : decode yB 29 = .ok (.goto (-20), 3) := by decide +kernel
theorem d32 : decode yB 32 = .ok (.iconst 1, 1) := by decide +kernel
theorem d33 : decode yB 33 = .ok (.ireturn, 1) := by decide +kernel
theorem d34 : decode yB 34 = .ok (.iconst 0, 1) := by decide +kernel
theorem d35 : decode yB 35 = .ok (.ireturn, 1) := by decide +kernel
def site : List Cond := []
def tab : Cond := tabOf yN yB 3 (some .boolean) site
def P (a : Addr) (A : Cell) (b : Addr) (B : Cell) (args : Array Value) (s : State) : Prop := args = #[.ref a, .ref b] ∧ XT.Arr .byte a A s ∧ Typed .byte A ∧ XT.Arr .byte b B s ∧ Typed .byte B
/-- whether two byte[] are equal, place for place -/
theorem law (l : Launch) (a : Addr) (A : Cell) (b : Addr) (B : Cell) : Law l yN 2 2 0 0 yB 3 (some .boolean) site (P a A b B) (Says01 (EqC A B)) [] 0 0 := by
  refine Law.of_walk (plainFor_of_name (by decide +kernel)) (by decide +kernel) (by decide +kernel) (by decide) (fun _ _ h => by rw [h.1]; rfl) (fun _ U U' hal hh h => ⟨h.1, h.2.1.mv hal hh, h.2.2.1, h.2.2.2.1.mv hal hh, h.2.2.2.2⟩) (fun r U U' V V' h1 hal h2 h => Says01.mv r U U' V V' h1 hal h2 h) ?_
  intro p e s m args below meth c s₁ X0 hexec hbytes hml hret hlk hnm hown hh0 W hP
  obtain ⟨rfl, hA, tA, hB, tB⟩ := hP
  have a31 := hA.2.2.2
  have b31 := hB.2.2.2
  have hA0 := hA.mv X0.warmed.alike hh0
  have hB0 := hB.mv X0.warmed.alike hh0
  have c1 : Steps p.tables e below (s₁.setTop (entryFrame m #[.ref a, .ref b] 3)) (s₁.setTop (mkF m 0 #[.val (.ref a), .val (.ref b), .unset] [])) := entry rfl
  have c2 : Steps p.tables e below (s₁.setTop (entryFrame m #[.ref a, .ref b] 3)) (s₁.setTop (mkF m 4 #[.val (.ref a), .val (.ref b), .unset] [.int (Int32.ofNat B.slots.size), .int (Int32.ofNat A.slots.size)])) := c1.trans (by
    refine XS.aloadN X0.here hexec rfl (hb hbytes d0) rfl rfl ?_
    refine X0.alen hexec hA0 rfl rfl (hb hbytes d1) ?_
    refine XS.aloadN X0.here hexec rfl (hb hbytes d2) rfl rfl ?_
    refine X0.alen hexec hB0 rfl rfl (hb hbytes d3) ?_
    exact Steps.refl _)
  by_cases hs : A.slots.size = B.slots.size
  · have c3 : Steps p.tables e below (s₁.setTop (entryFrame m #[.ref a, .ref b] 3)) (s₁.setTop (mkF m 9 #[.val (.ref a), .val (.ref b), .val (.int 0)] [])) := c2.trans (by
      refine XS.icmpNo X0.here hexec rfl (hb hbytes d4) rfl (ii_ne_f (by rw [hs])) ?_
      refine iconstV X0.here hexec rfl 0 (hb hbytes d7) (by decide) ?_
      refine XS.istoreN X0.here hexec rfl (hb hbytes d8) rfl rfl ?_
      exact Steps.refl _)
    have loop : ∀ (r i : Nat), i + r = A.slots.size → (∀ j, j < i → yv A j = yv B j) → Steps p.tables e below (s₁.setTop (entryFrame m #[.ref a, .ref b] 3)) (s₁.setTop (mkF m 9 #[.val (.ref a), .val (.ref b), .val (.int (Int32.ofNat i))] [])) → ∃ (pc : Nat) (Ls : Array Slot) (v : Int32), (pc = 25 ∨ pc = 33) ∧ ((v = 1 ∧ EqC A B) ∨ (v = 0 ∧ ¬ EqC A B)) ∧ Steps p.tables e below (s₁.setTop (entryFrame m #[.ref a, .ref b] 3)) (s₁.setTop (mkF m pc Ls [.int v])) := by
      intro r
      induction r with
      | zero =>
        intro i hi he cl
        exact ⟨33, _, 1, Or.inr rfl, Or.inl ⟨rfl, hs, fun j hj => he j (by omega)⟩, cl.trans (by
          refine XS.iloadN X0.here hexec rfl (hb hbytes d9) rfl ?_
          refine XS.aloadN X0.here hexec rfl (hb hbytes d10) rfl rfl ?_
          refine X0.alen hexec hA0 rfl rfl (hb hbytes d11) ?_
          refine XS.icmpYes X0.here hexec rfl (pc0 := 12) rfl (hb hbytes d12) rfl (ii_ge_t (nlt32 (by omega) (by omega))) (by decide) rfl ?_
          refine iconstV X0.here hexec rfl 1 (hb hbytes d32) (by decide) ?_
          exact Steps.refl _)⟩
      | succ r ih =>
        intro i hi he cl
        have c4 : Steps p.tables e below (s₁.setTop (entryFrame m #[.ref a, .ref b] 3)) (s₁.setTop (mkF m 21 #[.val (.ref a), .val (.ref b), .val (.int (Int32.ofNat i))] [.int (yv B i), .int (yv A i)])) := cl.trans (by
          refine XS.iloadN X0.here hexec rfl (hb hbytes d9) rfl ?_
          refine XS.aloadN X0.here hexec rfl (hb hbytes d10) rfl rfl ?_
          refine X0.alen hexec hA0 rfl rfl (hb hbytes d11) ?_
          refine XS.icmpNo X0.here hexec rfl (hb hbytes d12) rfl (ii_ge_f (lt32 (by omega) (by omega))) ?_
          refine XS.aloadN X0.here hexec rfl (hb hbytes d15) rfl rfl ?_
          refine XS.iloadN X0.here hexec rfl (hb hbytes d16) rfl ?_
          refine X0.aget hexec hA0 rfl (yv_get hA tA (i := i) (by omega)) rfl rfl (hb hbytes d17) ?_
          refine XS.aloadN X0.here hexec rfl (hb hbytes d18) rfl rfl ?_
          refine XS.iloadN X0.here hexec rfl (hb hbytes d19) rfl ?_
          refine X0.aget hexec hB0 rfl (yv_get hB tB (i := i) (by omega)) rfl rfl (hb hbytes d20) ?_
          exact Steps.refl _)
        by_cases hv : yv A i = yv B i
        · have c5 : Steps p.tables e below (s₁.setTop (entryFrame m #[.ref a, .ref b] 3)) (s₁.setTop (mkF m 9 #[.val (.ref a), .val (.ref b), .val (.int (Int32.ofNat i + 1))] [])) := c4.trans (by
            refine XS.icmpYes X0.here hexec rfl (pc0 := 21) rfl (hb hbytes d21) rfl (ii_eq_t hv) (by decide) rfl ?_
            refine iincV X0.here hexec rfl 1 (hb hbytes d26) (by decide) rfl rfl ?_
            refine XS.goto X0.here hexec rfl (pc0 := 29) rfl (hb hbytes d29) (by decide) rfl ?_
            exact Steps.refl _)
          rw [succ32] at c5
          exact ih (i + 1) (by omega) (fun j hj => by
            by_cases e : j = i
            · rw [e]; exact hv
            · exact he j (by omega)) c5
        · exact ⟨25, _, 0, Or.inl rfl, Or.inr ⟨rfl, fun q => hv (q.2 i (by omega))⟩, c4.trans (by
            refine XS.icmpNo X0.here hexec rfl (hb hbytes d21) rfl (ii_eq_f hv) ?_
            refine iconstV X0.here hexec rfl 0 (hb hbytes d24) (by decide) ?_
            exact Steps.refl _)⟩
    obtain ⟨pc, Ls, v, hpc, hv, cz⟩ := loop A.slots.size 0 (by omega) (fun j hj => absurd hj (Nat.not_lt_zero j)) c3
    have nv : narrow .boolean (.int v) = .int v := by rcases hv with ⟨rfl, -⟩ | ⟨rfl, -⟩ <;> rfl
    rcases hpc with rfl | rfl
    · exact ⟨s₁, some (.int v), _, _, _, X0, rfl, rfl, rfl, (fun h => by cases h), ⟨v, rfl, hh0, hv⟩, fun fs hl => cz.trans (X0.ireturnOut hexec hret nv (Or.inr (Or.inl rfl)) (hb hbytes d25) hl)⟩
    · exact ⟨s₁, some (.int v), _, _, _, X0, rfl, rfl, rfl, (fun h => by cases h), ⟨v, rfl, hh0, hv⟩, fun fs hl => cz.trans (X0.ireturnOut hexec hret nv (Or.inr (Or.inl rfl)) (hb hbytes d33) hl)⟩
  · have c3 : Steps p.tables e below (s₁.setTop (entryFrame m #[.ref a, .ref b] 3)) (s₁.setTop (mkF m 35 #[.val (.ref a), .val (.ref b), .unset] [.int 0])) := c2.trans (by
      refine XS.icmpYes X0.here hexec rfl (pc0 := 4) rfl (hb hbytes d4) rfl (ii_ne_t (ne32 a31 b31 hs)) (by decide) rfl ?_
      refine iconstV X0.here hexec rfl 0 (hb hbytes d34) (by decide) ?_
      exact Steps.refl _)
    exact ⟨s₁, some (.int 0), _, _, _, X0, rfl, rfl, rfl, (fun h => by cases h), ⟨0, rfl, hh0, Or.inr ⟨rfl, fun q => hs q.1⟩⟩, fun fs hl => c3.trans (X0.ireturnOut hexec hret rfl (Or.inr (Or.inl rfl)) (hb hbytes d35) hl)⟩
end LEq
theorem Cod.ty {cd : Int32} {n : Nat} {f : Nat → Int32} {V : Cell} (h : Cod cd n f V) : Typed .byte V := fun i v hv => by
  have hi : i < V.slots.size := (Array.getElem?_eq_some_iff.mp hv).1
  rcases h with ⟨-, k1, k2⟩ | ⟨-, k1, k2, -⟩
  · rw [(k2 i (by omega)).1] at hv; cases hv; exact fits_lo8 _
  · rcases Nat.mod_two_eq_zero_or_one i with e | e
    · obtain ⟨j, rfl⟩ : ∃ j, i = 2 * j := ⟨i / 2, by omega⟩
      rw [(k2 j (by omega)).1] at hv; cases hv; exact fits_lo8 _
    · obtain ⟨j, rfl⟩ : ∃ j, i = 2 * j + 1 := ⟨i / 2, by omega⟩
      rw [(k2 j (by omega)).2] at hv; cases hv; exact fits_lo8 _
/-- the same text -/
def SameT (n : Nat) (f : Nat → Int32) (k : Nat) (g : Nat → Int32) : Prop := n = k ∧ ∀ j, j < n → f j = g j
theorem lo8_inj {x y : Int32} (h0 : ¬ x < 0) (h1 : ¬ 255 < x) (k0 : ¬ y < 0) (k1 : ¬ 255 < y) (h : lo8 x = lo8 y) : x = y := by
  rw [← lo8_mask h0 h1, ← lo8_mask k0 k1, h]
/-- arrays coded by one coder are equal just where the texts are -/
theorem Cod.eqv {cd : Int32} {n k : Nat} {f g : Nat → Int32} {V V' : Cell} (h : Cod cd n f V) (h' : Cod cd k g V') (hf : ∀ j, j < n → ¬ f j < 0 ∧ ¬ 65535 < f j) (hg : ∀ j, j < k → ¬ g j < 0 ∧ ¬ 65535 < g j) : EqC V V' ↔ SameT n f k g := by
  have yvv : ∀ {W : Cell} {i : Nat} {x : Int32}, W.slots[i]? = some (.int x) → yv W i = x := fun q => by unfold yv; rw [q]
  rcases h with ⟨rfl, k1, k2⟩ | ⟨rfl, k1, k2, -⟩
  · rcases h' with ⟨-, m1, m2⟩ | ⟨e, -⟩
    · constructor
      · rintro ⟨e1, e2⟩
        refine ⟨by omega, fun j hj => ?_⟩
        have q := e2 j (by omega)
        rw [yvv (k2 j hj).1, yvv (m2 j (by omega)).1] at q
        exact lo8_inj (hf j hj).1 (k2 j hj).2 (hg j (by omega)).1 (m2 j (by omega)).2 q
      · rintro ⟨rfl, e2⟩
        refine ⟨by omega, fun j hj => ?_⟩
        rw [yvv (k2 j (by omega)).1, yvv (m2 j (by omega)).1, e2 j (by omega)]
    · exact absurd e (by decide)
  · rcases h' with ⟨e, -⟩ | ⟨-, m1, m2, -⟩
    · exact absurd e (by decide)
    · constructor
      · rintro ⟨e1, e2⟩
        refine ⟨by omega, fun j hj => ?_⟩
        have q1 := e2 (2 * j) (by omega)
        have q2 := e2 (2 * j + 1) (by omega)
        rw [yvv (k2 j hj).1, yvv (m2 j (by omega)).1] at q1
        rw [yvv (k2 j hj).2, yvv (m2 j (by omega)).2] at q2
        rw [← pair_says (hf j hj).1 (hf j hj).2, ← pair_says (hg j (by omega)).1 (hg j (by omega)).2, q1, q2]
      · rintro ⟨rfl, e2⟩
        refine ⟨by omega, fun i hi => ?_⟩
        rcases Nat.mod_two_eq_zero_or_one i with e | e
        · obtain ⟨j, rfl⟩ : ∃ j, i = 2 * j := ⟨i / 2, by omega⟩
          rw [yvv (k2 j (by omega)).1, yvv (m2 j (by omega)).1, e2 j (by omega)]
        · obtain ⟨j, rfl⟩ : ∃ j, i = 2 * j + 1 := ⟨i / 2, by omega⟩
          rw [yvv (k2 j (by omega)).2, yvv (m2 j (by omega)).2, e2 j (by omega)]
/-- two codings differ: so do the texts -/
theorem Cod.dif {cd cd' : Int32} {n k : Nat} {f g : Nat → Int32} {V V' : Cell} (h : Cod cd n f V) (h' : Cod cd' k g V') (hne : ¬ cd = cd') : ¬ SameT n f k g := by
  rintro ⟨rfl, e⟩
  rcases h with ⟨rfl, -, k2⟩ | ⟨rfl, -, -, j, hj, hw⟩
  · rcases h' with ⟨rfl, -⟩ | ⟨-, -, -, j, hj, hw⟩
    · exact hne rfl
    · exact (k2 j hj).2 (by rw [e j hj]; exact hw)
  · rcases h' with ⟨-, -, m2⟩ | ⟨rfl, -⟩
    · exact (m2 j hj).2 (by rw [← e j hj]; exact hw)
    · exact hne rfl
/-- an object of exactly C is an instance of C -/
theorem cinst {p : Program} {l : Launch} {e : Env} {R : Room} {s : State} {m : MethodId} {args : Array Value} {below : List Frame} {meth : Method} {c : Code} {T : State} {locs : List Loc} {cells slots : Nat} (X : Stand p l e R s m args below meth c T locs cells slots) (hexec : p.tables.exec = Jvm.exec) {own C : String} {index : Nat} (hown : s.vm.findClass own = some m.cls) (hlink : (Cond.classLink own index C).before args s = true) {a : Addr} (hE : Exact C a T)
    {g : JFrame} (hg : g.method = m) {rest : List Value} (hstack : g.stack = .ref a :: rest) (hdg : decode c.code g.pc = .ok (.instanceof index, 3)) :
    ∃ T', Stand p l e R s m args below meth c T' locs cells slots ∧ T'.heap = T.heap ∧ ∀ target, Steps p.tables e below (T'.setTop { g with pc := g.pc + 3, stack := .int 1 :: rest }) target → Steps p.tables e below (T.setTop g) target := by
  obtain ⟨cB, h1, D, h2, h3, h4⟩ := hE
  have h1' : s.vm.findClass C = some cB := by rw [← X.warmed.alike.findClass]; exact h1
  obtain ⟨vm', X', st⟩ := X.instanceofYes hexec hown hlink h2 h4 h1' (by rw [h3]; exact Jvm.Free.SB.assignable_self _ _) hg hstack hdg
  exact ⟨_, X', rfl, st⟩
theorem cself {p : Program} {l : Launch} {e : Env} {R : Room} {s : State} {m : MethodId} {args : Array Value} {below : List Frame} {meth : Method} {c : Code} {T : State} {locs : List Loc} {cells slots : Nat} (X : Stand p l e R s m args below meth c T locs cells slots) (hexec : p.tables.exec = Jvm.exec) {own C : String} {index : Nat} (hown : s.vm.findClass own = some m.cls) (hlink : (Cond.classLink own index C).before args s = true) {a : Addr} (hE : Exact C a T)
    {g : JFrame} (hg : g.method = m) {rest : List Value} (hstack : g.stack = .ref a :: rest) (hdg : decode c.code g.pc = .ok (.checkcast index, 3)) :
    ∃ T', Stand p l e R s m args below meth c T' locs cells slots ∧ T'.heap = T.heap ∧ ∀ target, Steps p.tables e below (T'.setTop { g with pc := g.pc + 3, stack := .ref a :: rest }) target → Steps p.tables e below (T.setTop g) target := by
  obtain ⟨cB, h1, D, h2, h3, h4⟩ := hE
  have h1' : s.vm.findClass C = some cB := by rw [← X.warmed.alike.findClass]; exact h1
  obtain ⟨vm', X', st⟩ := X.checkcastYes hexec hown hlink h2 h4 h1' (by rw [h3]; exact Jvm.Free.SB.assignable_self _ _) hg hstack hdg
  exact ⟨_, X', rfl, fun t h => st t (by rw [← hstack] at h; exact h)⟩
namespace SEq
def yN : MethodName := ⟨"java/lang/String", "equals", "(Ljava/lang/Object;)Z"⟩
abbrev yB : ByteArray := jdk_42_method_66_code
theorem d0 : decode yB 0 = .ok (.aload_n 0, 1) := by decide +kernel
theorem d1 : decode yB 1 = .ok (.aload_n 1, 1) := by decide +kernel
theorem d2 : decode yB 2 = .ok (.if_acmp (.ne) 5, 3) := by decide +kernel
theorem d5 : decode yB 5 = .ok (.iconst 1, 1) := by decide +kernel
theorem d6 : decode yB 6 = .ok (.ireturn, 1) := by decide +kernel
theorem d7 : decode yB 7 = .ok (.aload_n 1, 1) := by decide +kernel
theorem d8 : decode yB 8 = .ok (.instanceof 10, 3) := by decide +kernel
theorem d11 : decode yB 11 = .ok (.ifCond (.eq) 43, 3) := by decide +kernel
theorem d14 : decode yB 14 = .ok (.aload_n 1, 1) := by decide +kernel
theorem d15 : decode yB 15 = .ok (.checkcast 10, 3) := by decide +kernel
theorem d18 : decode yB 18 = .ok (.astore_n 2, 1) := by decide +kernel
theorem d19 : decode yB 19 = .ok (.getstatic 38, 3) := by decide +kernel
theorem d22 : decode yB 22 = .ok (.ifCond (.eq) 14, 3) := by decide +kernel
theorem d25 : decode yB 25 = .ok (.aload_n 0, 1) := by decide +kernel
theorem d26 : decode yB 26 = .ok (.getfield 15, 3) := by decide +kernel
theorem d29 : decode yB 29 = .ok (.aload_n 2, 1) := by decide +kernel
theorem d30 : decode yB 30 = .ok (.getfield 15, 3) := by decide +kernel
theorem d33 : decode yB 33 = .ok (.if_icmp (.ne) 21, 3) := by decide +kernel
theorem d36 : decode yB 36 = .ok (.aload_n 0, 1) := by decide +kernel
theorem d37 : decode yB 37 = .ok (.getfield 9, 3) := by decide +kernel
theorem d40 : decode yB 40 = .ok (.aload_n 2, 1) := by decide +kernel
theorem d41 : decode yB 41 = .ok (.getfield 9, 3) := by decide +kernel
theorem d44 : decode yB 44 = .ok (.invokestatic 541, 3) := by decide +kernel
theorem d47 : decode yB 47 = .ok (.ifCond (.eq) 7, 3) := by decide +kernel
theorem d50 : decode yB 50 = .ok (.iconst 1, 1) := by decide +kernel
theorem d51 : decode yB 51 = .ok (.goto 4, 3) := by decide +kernel
theorem d54 : decode yB 54 = .ok (.iconst 0, 1) := by decide +kernel
theorem d55 : decode yB 55 = .ok (.ireturn, 1) := by decide +kernel
def site : List Cond := [.classLink "java/lang/String" 10 "java/lang/String", .fieldLink "java/lang/String" 38 "java/lang/String" "COMPACT_STRINGS" "Z", .fieldLink "java/lang/String" 15 "java/lang/String" "coder" "B", .fieldLink "java/lang/String" 9 "java/lang/String" "value" "[B", LEq.tab] ++ staticW "java/lang/String" 541 LEq.yN
def tab : Cond := tabOf yN yB 3 (some .boolean) site
def P (x t : Addr) (V : Cell) (cd : Int32) (n : Nat) (f : Nat → Int32) (y t' : Addr) (V' : Cell) (cd' : Int32) (k : Nat) (g : Nat → Int32) (z : Int32) (args : Array Value) (s : State) : Prop := args = #[.ref x, .ref y] ∧ Txt x t V cd n f s ∧ Txt y t' V' cd' k g s ∧ StaticIs s "java/lang/String" "COMPACT_STRINGS" "Z" (.int z) ∧ ¬ z = 0
/-- equals(Object) of two Strings: whether the texts are the same -/
theorem law (l : Launch) (x t : Addr) (V : Cell) (cd : Int32) (n : Nat) (f : Nat → Int32) (y t' : Addr) (V' : Cell) (cd' : Int32) (k : Nat) (g : Nat → Int32) (z : Int32) : Law l yN 2 1 1 14 yB 3 (some .boolean) site (P x t V cd n f y t' V' cd' k g z) (Says01 (SameT n f k g)) [] 0 0 := by
  refine Law.of_walk (plainFor_of_name (by decide +kernel)) (by decide +kernel) (by decide +kernel) (by decide) (fun _ _ h => by rw [h.1]; rfl) (fun _ U U' hal hh h => ⟨h.1, h.2.1.mv hal hh, h.2.2.1.mv hal hh, h.2.2.2.1.there hal hh, h.2.2.2.2⟩) (fun r U U' V V' h1 hal h2 h => Says01.mv r U U' V V' h1 hal h2 h) ?_
  intro p e s m args below meth c s₁ X0 hexec hbytes hml hret hlk hnm hown hh0 W hP
  obtain ⟨rfl, hx, hy, s1, hz⟩ := hP
  have c1 : Steps p.tables e below (s₁.setTop (entryFrame m #[.ref x, .ref y] 3)) (s₁.setTop (mkF m 2 #[.val (.ref x), .val (.ref y), .unset] [.ref y, .ref x])) := Steps.trans (entry rfl) (by
    show Steps p.tables e below (s₁.setTop (mkF m 0 #[.val (.ref x), .val (.ref y), .unset] [])) _
    refine XS.aloadN X0.here hexec rfl (hb hbytes d0) rfl rfl ?_
    refine XS.aloadN X0.here hexec rfl (hb hbytes d1) rfl rfl ?_
    exact Steps.refl _)
  by_cases hxy : x = y
  · have c2 : Steps p.tables e below (s₁.setTop (entryFrame m #[.ref x, .ref y] 3)) (s₁.setTop (mkF m 6 #[.val (.ref x), .val (.ref y), .unset] [.int 1])) := c1.trans (by
      refine acmpNo X0.here hexec rfl (hb hbytes d2) rfl rfl rfl (by simp [acmp, hxy]) ?_
      refine iconstV X0.here hexec rfl 1 (hb hbytes d5) (by decide) ?_
      exact Steps.refl _)
    subst hxy
    have ec : cd = cd' := by
      obtain ⟨D, fd, a1, a2, a3⟩ := hx.2.2.1
      obtain ⟨D', fd', b1, b2, b3⟩ := hy.2.2.1
      cases a1.symm.trans b1
      obtain ⟨q1, q2, q3, q4⟩ := a2.1
      obtain ⟨r1, r2, r3, r4⟩ := b2.1
      cases q4.symm.trans r4
      cases a3.symm.trans b3; rfl
    have et : t = t' := by
      obtain ⟨D, fd, a1, a2, a3⟩ := hx.2.1
      obtain ⟨D', fd', b1, b2, b3⟩ := hy.2.1
      cases a1.symm.trans b1
      obtain ⟨q1, q2, q3, q4⟩ := a2.1
      obtain ⟨r1, r2, r3, r4⟩ := b2.1
      cases q4.symm.trans r4
      cases a3.symm.trans b3; rfl
    subst ec et
    have ev : V = V' := by cases hx.2.2.2.1.1.symm.trans hy.2.2.2.1.1; rfl
    subst ev
    have hs : SameT n f k g := (Cod.eqv hx.2.2.2.2.1 hy.2.2.2.2.1 hx.2.2.2.2.2 hy.2.2.2.2.2).mp ⟨rfl, fun _ _ => rfl⟩
    exact ⟨s₁, some (.int 1), _, _, _, X0, rfl, rfl, rfl, (fun h => by cases h), ⟨1, rfl, hh0, Or.inl ⟨rfl, hs⟩⟩, fun fs hl => c2.trans (X0.ireturnOut hexec hret rfl (Or.inr (Or.inl rfl)) (hb hbytes d6) hl)⟩
  · have c2 : Steps p.tables e below (s₁.setTop (entryFrame m #[.ref x, .ref y] 3)) (s₁.setTop (mkF m 8 #[.val (.ref x), .val (.ref y), .unset] [.ref y])) := c1.trans (by
      refine acmpYes X0.here hexec rfl (pc0 := 2) rfl (hb hbytes d2) rfl rfl rfl (by simp [acmp, hxy]) (by decide) rfl ?_
      refine XS.aloadN X0.here hexec rfl (hb hbytes d7) rfl rfl ?_
      exact Steps.refl _)
    obtain ⟨T3, X3, q3, st3⟩ := cinst X0 hexec hown (wk W (.classLink "java/lang/String" 10 "java/lang/String")) (hy.mv X0.warmed.alike hh0).1 (g := (mkF m 8 #[.val (.ref x), .val (.ref y), .unset] [.ref y])) rfl (rest := []) rfl (hb hbytes d8)
    have hh3 := q3.trans hh0
    have c4 : Steps p.tables e below (s₁.setTop (entryFrame m #[.ref x, .ref y] 3)) (T3.setTop (mkF m 15 #[.val (.ref x), .val (.ref y), .unset] [.ref y])) := (c2.trans (st3 _ (Steps.refl _))).trans (by
      refine XS.ifNo X3.here hexec rfl (hb hbytes d11) rfl (i0_eq_f (by decide)) ?_
      refine XS.aloadN X3.here hexec rfl (hb hbytes d14) rfl rfl ?_
      exact Steps.refl _)
    obtain ⟨T5, X5, q5, st5⟩ := cself X3 hexec hown (wk W (.classLink "java/lang/String" 10 "java/lang/String")) (hy.mv X3.warmed.alike hh3).1 (g := (mkF m 15 #[.val (.ref x), .val (.ref y), .unset] [.ref y])) rfl (rest := []) rfl (hb hbytes d15)
    have hh5 := q5.trans hh3
    have c6 : Steps p.tables e below (s₁.setTop (entryFrame m #[.ref x, .ref y] 3)) (T5.setTop (mkF m 19 #[.val (.ref x), .val (.ref y), .val (.ref y)] [])) := (c4.trans (st5 _ (Steps.refl _))).trans (by
      refine XS.astoreN X5.here hexec rfl (hb hbytes d18) rfl rfl rfl ?_
      exact Steps.refl _)
    obtain ⟨T7, X7, q7, st7⟩ := X5.sget hexec hown (wk W (.fieldLink "java/lang/String" 38 "java/lang/String" "COMPACT_STRINGS" "Z")) s1 (fun _ _ h => by rw [hh5]; exact h) (g := (mkF m 19 #[.val (.ref x), .val (.ref y), .val (.ref y)] [])) rfl (hb hbytes d19)
    have hh7 := q7.trans hh5
    have c8 : Steps p.tables e below (s₁.setTop (entryFrame m #[.ref x, .ref y] 3)) (T7.setTop (mkF m 26 #[.val (.ref x), .val (.ref y), .val (.ref y)] [.ref x])) := (c6.trans (st7 _ (Steps.refl _))).trans (by
      refine XS.ifNo X7.here hexec rfl (hb hbytes d22) rfl (i0_eq_f hz) ?_
      refine XS.aloadN X7.here hexec rfl (hb hbytes d25) rfl rfl ?_
      exact Steps.refl _)
    obtain ⟨T9, X9, q9, st9⟩ := X7.hget hexec hown (wk W (.fieldLink "java/lang/String" 15 "java/lang/String" "coder" "B")) (hx.mv X7.warmed.alike hh7).2.2.1 (g := (mkF m 26 #[.val (.ref x), .val (.ref y), .val (.ref y)] [.ref x])) rfl (rest := []) rfl (hb hbytes d26)
    have hh9 := q9.trans hh7
    have c10 : Steps p.tables e below (s₁.setTop (entryFrame m #[.ref x, .ref y] 3)) (T9.setTop (mkF m 30 #[.val (.ref x), .val (.ref y), .val (.ref y)] [.ref y, .int cd])) := (c8.trans (st9 _ (Steps.refl _))).trans (by
      refine XS.aloadN X9.here hexec rfl (hb hbytes d29) rfl rfl ?_
      exact Steps.refl _)
    obtain ⟨T11, X11, q11, st11⟩ := X9.hget hexec hown (wk W (.fieldLink "java/lang/String" 15 "java/lang/String" "coder" "B")) (hy.mv X9.warmed.alike hh9).2.2.1 (g := (mkF m 30 #[.val (.ref x), .val (.ref y), .val (.ref y)] [.ref y, .int cd])) rfl (rest := [.int cd]) rfl (hb hbytes d30)
    have hh11 := q11.trans hh9
    have c12 : Steps p.tables e below (s₁.setTop (entryFrame m #[.ref x, .ref y] 3)) (T11.setTop (mkF m 33 #[.val (.ref x), .val (.ref y), .val (.ref y)] [.int cd', .int cd])) := c10.trans (st11 _ (Steps.refl _))
    by_cases hcd : cd = cd'
    · subst hcd
      have c13 : Steps p.tables e below (s₁.setTop (entryFrame m #[.ref x, .ref y] 3)) (T11.setTop (mkF m 37 #[.val (.ref x), .val (.ref y), .val (.ref y)] [.ref x])) := c12.trans (by
        refine XS.icmpNo X11.here hexec rfl (hb hbytes d33) rfl (ii_ne_f rfl) ?_
        refine XS.aloadN X11.here hexec rfl (hb hbytes d36) rfl rfl ?_
        exact Steps.refl _)
      obtain ⟨T14, X14, q14, st14⟩ := X11.hget hexec hown (wk W (.fieldLink "java/lang/String" 9 "java/lang/String" "value" "[B")) (hx.mv X11.warmed.alike hh11).2.1 (g := (mkF m 37 #[.val (.ref x), .val (.ref y), .val (.ref y)] [.ref x])) rfl (rest := []) rfl (hb hbytes d37)
      have hh14 := q14.trans hh11
      have c15 : Steps p.tables e below (s₁.setTop (entryFrame m #[.ref x, .ref y] 3)) (T14.setTop (mkF m 41 #[.val (.ref x), .val (.ref y), .val (.ref y)] [.ref y, .ref t])) := (c13.trans (st14 _ (Steps.refl _))).trans (by
        refine XS.aloadN X14.here hexec rfl (hb hbytes d40) rfl rfl ?_
        exact Steps.refl _)
      obtain ⟨T16, X16, q16, st16⟩ := X14.hget hexec hown (wk W (.fieldLink "java/lang/String" 9 "java/lang/String" "value" "[B")) (hy.mv X14.warmed.alike hh14).2.1 (g := (mkF m 41 #[.val (.ref x), .val (.ref y), .val (.ref y)] [.ref y, .ref t])) rfl (rest := [.ref t]) rfl (hb hbytes d41)
      have hh16 := q16.trans hh14
      have c17 : Steps p.tables e below (s₁.setTop (entryFrame m #[.ref x, .ref y] 3)) (T16.setTop (mkF m 44 #[.val (.ref x), .val (.ref y), .val (.ref y)] [.ref t', .ref t])) := c15.trans (st16 _ (Steps.refl _))
      obtain ⟨v18, T18, X18, E18, g18⟩ := X16.callS hexec (LEq.law l t V t' V') hown (wks W (staticW "java/lang/String" 541 LEq.yN)) (wk W LEq.tab) (W := 0) (Nat.le_of_ble_eq_true rfl) (Nat.le_of_ble_eq_true rfl) (Nat.le_refl _) (Nat.le_refl _) (g := (mkF m 44 #[.val (.ref x), .val (.ref y), .val (.ref y)] [.ref t', .ref t])) rfl (by rw [hml]; rfl) c17 (argsL := [.ref t, .ref t']) (rest := []) rfl rfl (by show 2 * 0 + 0 ≤ _; decide) (hb hbytes d44) (⟨rfl, hx.2.2.2.1.mv X16.warmed.alike hh16, hx.2.2.2.2.1.ty, hy.2.2.2.1.mv X16.warmed.alike hh16, hy.2.2.2.2.1.ty⟩)
      obtain ⟨v, rfl, q18, hv⟩ := E18
      have iff := Cod.eqv hx.2.2.2.2.1 hy.2.2.2.2.1 hx.2.2.2.2.2 hy.2.2.2.2.2
      rcases hv with ⟨rfl, he⟩ | ⟨rfl, he⟩
      · have c19 : Steps p.tables e below (s₁.setTop (entryFrame m #[.ref x, .ref y] 3)) (T18.setTop (mkF m 55 #[.val (.ref x), .val (.ref y), .val (.ref y)] [.int 1])) := Steps.trans g18 (by
          refine XS.ifNo X18.here hexec rfl (hb hbytes d47) rfl (i0_eq_f (by decide)) ?_
          refine iconstV X18.here hexec rfl 1 (hb hbytes d50) (by decide) ?_
          refine XS.goto X18.here hexec rfl (pc0 := 51) rfl (hb hbytes d51) (by decide) rfl ?_
          exact Steps.refl _)
        exact ⟨T18, some (.int 1), _, _, _, X18, rfl, rfl, rfl, (fun h => by cases h), ⟨1, rfl, q18.trans hh16, Or.inl ⟨rfl, iff.mp he⟩⟩, fun fs hl => c19.trans (X18.ireturnOut hexec hret rfl (Or.inr (Or.inl rfl)) (hb hbytes d55) hl)⟩
      · have c19 : Steps p.tables e below (s₁.setTop (entryFrame m #[.ref x, .ref y] 3)) (T18.setTop (mkF m 55 #[.val (.ref x), .val (.ref y), .val (.ref y)] [.int 0])) := Steps.trans g18 (by
          refine XS.ifYes X18.here hexec rfl (pc0 := 47) rfl (hb hbytes d47) rfl (i0_eq_t rfl) (by decide) rfl ?_
          refine iconstV X18.here hexec rfl 0 (hb hbytes d54) (by decide) ?_
          exact Steps.refl _)
        exact ⟨T18, some (.int 0), _, _, _, X18, rfl, rfl, rfl, (fun h => by cases h), ⟨0, rfl, q18.trans hh16, Or.inr ⟨rfl, fun q => he (iff.mpr q)⟩⟩, fun fs hl => c19.trans (X18.ireturnOut hexec hret rfl (Or.inr (Or.inl rfl)) (hb hbytes d55) hl)⟩
    · have c13 : Steps p.tables e below (s₁.setTop (entryFrame m #[.ref x, .ref y] 3)) (T11.setTop (mkF m 55 #[.val (.ref x), .val (.ref y), .val (.ref y)] [.int 0])) := c12.trans (by
        refine XS.icmpYes X11.here hexec rfl (pc0 := 33) rfl (hb hbytes d33) rfl (ii_ne_t hcd) (by decide) rfl ?_
        refine iconstV X11.here hexec rfl 0 (hb hbytes d54) (by decide) ?_
        exact Steps.refl _)
      exact ⟨T11, some (.int 0), _, _, _, X11, rfl, rfl, rfl, (fun h => by cases h), ⟨0, rfl, hh11, Or.inr ⟨rfl, Cod.dif hx.2.2.2.2.1 hy.2.2.2.2.1 hcd⟩⟩, fun fs hl => c13.trans (X11.ireturnOut hexec hret rfl (Or.inr (Or.inl rfl)) (hb hbytes d55) hl)⟩
theorem pays {l : Launch} {R : Room} {p : Program} {e : Env} {below : List Frame} {s : State} {sargs : Array Value} {len W : Nat} (x t : Addr) (V : Cell) (cd : Int32) (n : Nat) (f : Nat → Int32) (y t' : Addr) (V' : Cell) (cd' : Int32) (k : Nat) (g : Nat → Int32) (z : Int32) (htab : tab.before sargs s = true) (hfr : 2 ≤ R.frames) (hlo : W + 28 ≤ R.locals) :
    Back l R p e below s sargs yN len W (fun A₁ a₁ => A₁.cells + 0 ≤ R.cells ∧ A₁.slots + 0 ≤ R.slots ∧ P x t V cd n f y t' V' cd' k g z a₁ A₁.U) (fun A₁ _ v₁ B₁ => Says01 (SameT n f k g) v₁ A₁.U B₁.U ∧ B₁.locs = A₁.locs ++ [] ∧ B₁.cells = A₁.cells + 0 ∧ B₁.slots = A₁.slots + 0) :=
  (law l x t V cd n f y t' V' cd' k g z).pays htab hfr (by omega)
end SEq
end StrChars
namespace StrChars.Road
open Jvm Sem ClassFile Op Lib Jvm.Stand Jvm.Free Jvm.Free.XT
open Jvm.Lib.Cold (StaticIs)
/-- the words of String.equals(Object) -/
abbrev wordsEq : List Jvm.Cond := [.code SEq.yN SEq.yB 3 (some .boolean), .initialized ST, .classLink ST 10 ST, .fieldLink ST 38 ST "COMPACT_STRINGS" "Z", .fieldLink ST 15 ST "coder" "B", .fieldLink ST 9 ST "value" "[B", .methodLink ST 541 LEq.yN, .static LEq.yN, .code LEq.yN LEq.yB 3 (some .boolean), .initialized "java/lang/StringLatin1"]
theorem tabEq_of {a : Array Value} {s : State} (h : ∀ w ∈ wordsEq, w.before a s = true) : SEq.tab.before a s = true := by
  have hl : LEq.tab.before a s = true := unparts (wk h (.code LEq.yN LEq.yB 3 (some .boolean))) (wks h (.initialized LEq.yN.cls :: LEq.site))
  have q := consq hl h
  exact unparts (wk q (.code SEq.yN SEq.yB 3 (some .boolean))) (wks q (.initialized SEq.yN.cls :: SEq.site))
theorem movedEq {Z s : State} {a0 args : Array Value} (hZ : Z.Warmed39 s.vm) (hw : ∀ d ∈ wordsEq, d.before a0 Z = true) : ∀ d ∈ wordsEq, d.before args s = true := fun d hd => by
  have t : ∀ d ∈ wordsEq, (d.onTables && d.keepsFace) = true := by decide +kernel
  exact RoadKit.mv hZ (hw d hd) (t d hd)
/-- the road's facts of a String, as the laws ask it -/
theorem txt_of {Z U : State} {a0 : Array Value} {kI : Nat} (wi : (Jvm.Cond.instantiable ST kI).before a0 Z = true) (al : Z.vm.Alike U.vm) {x t : Addr} {kb : ClassId} {cs : List Int32} {cd N2 : Int32} {vs : List Value} (E : RoadKit.Exa Z U.heap x ST) (V : RoadKit.Fld Z U.heap x ST "value" "[B" (.ref t)) (C : RoadKit.Fld Z U.heap x ST "coder" "B" (.int cd)) (K : RoadKit.Arv Z U.heap t kb .byte N2 vs (.int 0)) (hc : CodA cs cd N2 vs) (hb : ∀ c ∈ cs, ¬ c < 0 ∧ ¬ (65535 : Int32) < c) (l2 : cs.length ≤ 4000) :
    ∃ A, Txt x t A cd cs.length (fun j => cs.getD j 0) U := by
  obtain ⟨A, K1, K2, K3, K4, K5, K6⟩ := K
  have hcod := hc.cod (by omega) K3 K5
  obtain ⟨D, fV, fC, hB, F1, F2, g1, g2, -, -⟩ := strObj wi al E V C
  exact ⟨A, ⟨_, hB.2.2.1, D, hB.1, rfl, by cases q : D.vm <;> first | rfl | exact absurd q (hB.2.1.2 _)⟩, Has.of hB F1 g1, Has.of hB F2 g2, ⟨K1.1, State.isArrayOf_alike al K1.2.1, K1.2.2, by rcases hcod with ⟨-, q, -⟩ | ⟨-, q, -⟩ <;> omega⟩, hcod, fun j hj => by
    have e : cs.getD j 0 = cs[j] := by simp [List.getD_eq_getElem?_getD, hj]
    show ¬ cs.getD j 0 < 0 ∧ ¬ 65535 < cs.getD j 0
    rw [e]; exact hb _ (List.getElem_mem _)⟩
theorem same_list (cs ds : List Int32) : SameT cs.length (fun j => cs.getD j 0) ds.length (fun j => ds.getD j 0) ↔ cs = ds := by
  constructor
  · rintro ⟨e, q⟩
    refine List.ext_getElem e fun j h1 h2 => ?_
    have := q j h1
    simpa [List.getD_eq_getElem?_getD, h1, h2] using this
  · rintro rfl
    exact ⟨rfl, fun _ _ => rfl⟩
/-- **equals(Object) OF TWO SUCH STRINGS**: 1 just where the chars are the same -/
theorem eqW {p : Program} {l : Launch} {e : Env} {R : Room} {s : State} {args : Array Value} {below : List Frame} {len W : Nat} {Z : State} {a0 : Array Value} {h : Heap} (hZ : Z.Warmed39 s.vm) (hw : ∀ d ∈ wordsEq, d.before a0 Z = true) {kI : Nat} (wi : (Jvm.Cond.instantiable ST kI).before a0 Z = true)
    {x t : Addr} {kb : ClassId} {cs : List Int32} {cd N2 : Int32} {vs : List Value} (E : RoadKit.Exa Z h x ST) (V : RoadKit.Fld Z h x ST "value" "[B" (.ref t)) (C : RoadKit.Fld Z h x ST "coder" "B" (.int cd)) (K : RoadKit.Arv Z h t kb .byte N2 vs (.int 0)) (hc : CodA cs cd N2 vs) (hb : ∀ c ∈ cs, ¬ c < 0 ∧ ¬ (65535 : Int32) < c) (l2 : cs.length ≤ 4000)
    {y t' : Addr} {kb' : ClassId} {ds : List Int32} {cd' N2' : Int32} {vs' : List Value} (E' : RoadKit.Exa Z h y ST) (V' : RoadKit.Fld Z h y ST "value" "[B" (.ref t')) (C' : RoadKit.Fld Z h y ST "coder" "B" (.int cd')) (K' : RoadKit.Arv Z h t' kb' .byte N2' vs' (.int 0)) (hc' : CodA ds cd' N2' vs') (hb' : ∀ c ∈ ds, ¬ c < 0 ∧ ¬ (65535 : Int32) < c) (l2' : ds.length ≤ 4000)
    {z : Int32} (S : RoadKit.Sta Z h ST "COMPACT_STRINGS" "Z" (.int z)) (hz : ¬ z = 0) (hfr : 2 ≤ R.frames) (hlo : W + 28 ≤ R.locals) :
    Back l R p e below s args (⟨"java/lang/String", "equals", "(Ljava/lang/Object;)Z"⟩ : MethodName) len W (fun P a => a = #[.ref x, .ref y] ∧ P.U.heap = h ∧ P.cells + 0 ≤ R.cells ∧ P.slots + 0 ≤ R.slots)
      (fun P _ v B => ∃ L, (((v = some (.int 1) ∧ cs = ds) ∨ (v = some (.int 0) ∧ ¬ cs = ds)) ∧ L = [] ∧ B.U.heap = h) ∧ B.locs = P.locs ++ L ∧ B.cells = P.cells + 0 ∧ B.slots = P.slots + 0) := by
  intro m meth c P g ig mk a X hg hsize hdg hW hn hp'
  obtain ⟨rfl, rfl, r1, r2⟩ := hp'
  have al : Z.vm.Alike P.U.vm := hZ.alike.trans X.warmed.alike
  obtain ⟨A, hx⟩ := txt_of wi al E V C K hc hb l2
  obtain ⟨A', hy⟩ := txt_of wi al E' V' C' K' hc' hb' l2'
  obtain ⟨v, B, X', ⟨⟨w, hv, hh, hq⟩, hl, hk, hs⟩, st⟩ := SEq.pays x t A cd cs.length (fun j => cs.getD j 0) y t' A' cd' ds.length (fun j => ds.getD j 0) z (tabEq_of (movedEq hZ hw)) hfr hlo m meth c P g ig mk _ X hg hsize hdg hW hn ⟨r1, r2, rfl, hx, hy, sta_is al S, hz⟩
  refine ⟨v, B, X', ⟨[], ⟨?_, rfl, hh⟩, hl, hk, hs⟩, st⟩
  rcases hq with ⟨rfl, q⟩ | ⟨rfl, q⟩
  · exact Or.inl ⟨hv, (same_list cs ds).mp q⟩
  · exact Or.inr ⟨hv, fun e => q ((same_list cs ds).mpr e)⟩
end StrChars.Road
namespace StrChars
open Jvm Sem ClassFile Op Lib Jvm.Stand Jvm.Free.XT Jvm.Free.ALB Jvm.Free.JM Jvm.Free
open Jvm.Lib.Cold (StaticIs)
namespace ChN
def yN : MethodName := ⟨"java/lang/String", "charAt", "(I)C"⟩
abbrev yB : ByteArray := jdk_42_method_56_code
theorem d0 : decode yB 0 = .ok (.aload_n 0, 1) := by decide +kernel
theorem d1 : decode yB 1 = .ok (.invokevirtual 492, 3) := by decide +kernel
theorem d4 : decode yB 4 = .ok (.ifCond (.eq) 12, 3) := by decide +kernel
theorem d7 : decode yB 7 = .ok (.aload_n 0, 1) := by decide +kernel
theorem d8 : decode yB 8 = .ok (.getfield 9, 3) := by decide +kernel
theorem d11 : decode yB 11 = .ok (.iload_n 1, 1) := by decide +kernel
theorem d12 : decode yB 12 = .ok (.invokestatic 495, 3) := by decide +kernel
theorem d15 : decode yB 15 = .ok (.ireturn, 1) := by decide +kernel
def site : List Cond := [.fieldLink "java/lang/String" 9 "java/lang/String" "value" "[B", IsL.tab, LChA.tab] ++ virtW "java/lang/String" 492 "java/lang/String" IsL.yN IsL.yN ++ staticW "java/lang/String" 495 LChA.yN
def tab : Cond := tabOf yN yB 2 (some .char) site
def P (x t : Addr) (V : Cell) (n : Nat) (f : Nat → Int32) (z : Int32) (fm : Value) (i : Nat) (args : Array Value) (s : State) : Prop := args = #[.ref x, .int (Int32.ofNat i)] ∧ Txt x t V 0 n f s ∧ i < n ∧ StaticIs s "java/lang/String" "COMPACT_STRINGS" "Z" (.int z) ∧ ¬ z = 0 ∧ StaticIs s "jdk/internal/util/Preconditions" "SIOOBE_FORMATTER" "Ljava/util/function/BiFunction;" fm ∧ fm.isRef = true
def E (f : Nat → Int32) (i : Nat) (r : Option Value) (s u : State) : Prop := XT.PureE (some (.int (f i))) r s u
/-- charAt(i) of a Latin-1 String of n chars, i < n: f i -/
theorem law (l : Launch) (x t : Addr) (V : Cell) (n : Nat) (f : Nat → Int32) (z : Int32) (fm : Value) (i : Nat) : Law l yN 2 1 3 40 yB 2 (some .char) site (P x t V n f z fm i) (E f i) [] 0 0 := by
  refine Law.of_walk (plainFor_of_name (by decide +kernel)) (by decide +kernel) (by decide +kernel) (by decide) (fun _ _ h => by rw [h.1]; rfl) (fun _ U U' hal hh h => ⟨h.1, h.2.1.mv hal hh, h.2.2.1, h.2.2.2.1.there hal hh, h.2.2.2.2.1, h.2.2.2.2.2.1.there hal hh, h.2.2.2.2.2.2⟩) (fun r U U' V V' h1 hal h2 h => XT.PureE.mv r U U' V V' h1 hal h2 h) ?_
  intro p e s m args below meth c s₁ X0 hexec hbytes hml hret hlk hnm hown hh0 W hP
  obtain ⟨rfl, hx, hi, s1, hz, s3, rf⟩ := hP
  have v31 := hx.2.2.2.1.2.2.2
  have hr := hx.2.2.2.2.2 i hi
  have hx0 := hx.mv X0.warmed.alike hh0
  have c1 : Steps p.tables e below (s₁.setTop (entryFrame m #[.ref x, .int (Int32.ofNat i)] 2)) (s₁.setTop (mkF m 1 #[.val (.ref x), .val (.int (Int32.ofNat i))] [.ref x])) := Steps.trans (entry rfl) (by
    show Steps p.tables e below (s₁.setTop (mkF m 0 #[.val (.ref x), .val (.int (Int32.ofNat i))] [])) _
    refine XS.aloadN X0.here hexec rfl (hb hbytes d0) rfl rfl ?_
    exact Steps.refl _)
  obtain ⟨v2, T2, X2, E2, g2⟩ := X0.callV hexec (IsL.law l x 0 z) hown (wks W (virtW "java/lang/String" 492 "java/lang/String" IsL.yN IsL.yN)) rfl (by decide) (wk W IsL.tab) (W := 0) (Nat.le_of_ble_eq_true rfl) (Nat.le_of_ble_eq_true rfl) (Nat.le_refl _) (Nat.le_refl _) (hx0.1.fc X0.warmed.alike) hx0.1.is (g := (mkF m 1 #[.val (.ref x), .val (.int (Int32.ofNat i))] [.ref x])) rfl (by rw [hml]; rfl) c1 (argsL := []) (rest := []) rfl rfl (by show 2 * 0 + 0 ≤ _; decide) (hb hbytes d1) (⟨rfl, hx0.2.2.1, hx.2.2.2.2.1.cd, s1.there X0.warmed.alike hh0, hz⟩)
  obtain ⟨rfl, q2⟩ := E2
  have hh2 := q2.trans hh0
  have hx2 := hx.mv X2.warmed.alike hh2
  obtain ⟨-, k1, k2⟩ | ⟨k0, -⟩ := hx.2.2.2.2.1
  · have c3 : Steps p.tables e below (s₁.setTop (entryFrame m #[.ref x, .int (Int32.ofNat i)] 2)) (T2.setTop (mkF m 8 #[.val (.ref x), .val (.int (Int32.ofNat i))] [.ref x])) := Steps.trans g2 (by
      refine XS.ifNo X2.here hexec rfl (hb hbytes d4) rfl (i0_eq_f (by decide)) ?_
      refine XS.aloadN X2.here hexec rfl (hb hbytes d7) rfl rfl ?_
      exact Steps.refl _)
    obtain ⟨T4, X4, q4, st4⟩ := X2.hget hexec hown (wk W (.fieldLink "java/lang/String" 9 "java/lang/String" "value" "[B")) hx2.2.1 (g := (mkF m 8 #[.val (.ref x), .val (.int (Int32.ofNat i))] [.ref x])) rfl (rest := []) rfl (hb hbytes d8)
    have hh4 := q4.trans hh2
    have c5 : Steps p.tables e below (s₁.setTop (entryFrame m #[.ref x, .int (Int32.ofNat i)] 2)) (T4.setTop (mkF m 12 #[.val (.ref x), .val (.int (Int32.ofNat i))] [.int (Int32.ofNat i), .ref t])) := (c3.trans (st4 _ (Steps.refl _))).trans (by
      refine XS.iloadN X4.here hexec rfl (hb hbytes d11) rfl ?_
      exact Steps.refl _)
    obtain ⟨v6, T6, X6, E6, g6⟩ := X4.callS hexec (LChA.law l t V i (lo8 (f i)) fm) hown (wks W (staticW "java/lang/String" 495 LChA.yN)) (wk W LChA.tab) (W := 0) (Nat.le_of_ble_eq_true rfl) (Nat.le_of_ble_eq_true rfl) (Nat.le_refl _) (Nat.le_refl _) (g := (mkF m 12 #[.val (.ref x), .val (.int (Int32.ofNat i))] [.int (Int32.ofNat i), .ref t])) rfl (by rw [hml]; rfl) c5 (argsL := [.ref t, .int (Int32.ofNat i)]) (rest := []) rfl rfl (by show 2 * 0 + 0 ≤ _; decide) (hb hbytes d12) (⟨rfl, hx.2.2.2.1.mv X4.warmed.alike hh4, (k2 i hi).1, s3.there X4.warmed.alike hh4, rf⟩)
    obtain ⟨rfl, q6⟩ := E6
    rw [chr8_lo8 hr.1 (k2 i hi).2] at g6
    exact ⟨T6, some (.int (f i)), _, _, _, X6, rfl, rfl, rfl, (fun h => by cases h), ⟨rfl, q6.trans hh4⟩, fun fs hl => Steps.trans g6 (X6.ireturnOut hexec hret (narrow_ch hr.1 hr.2) (Or.inr (Or.inr (Or.inr (Or.inl rfl)))) (hb hbytes d15) hl)⟩
  · exact absurd k0 (by decide)
theorem pays {l : Launch} {R : Room} {p : Program} {e : Env} {below : List Frame} {s : State} {sargs : Array Value} {len W : Nat} (x t : Addr) (V : Cell) (n : Nat) (f : Nat → Int32) (z : Int32) (fm : Value) (i : Nat) (htab : tab.before sargs s = true) (hfr : 4 ≤ R.frames) (hlo : W + 53 ≤ R.locals) :
    Back l R p e below s sargs yN len W (fun A₁ a₁ => A₁.cells + 0 ≤ R.cells ∧ A₁.slots + 0 ≤ R.slots ∧ P x t V n f z fm i a₁ A₁.U) (fun A₁ _ v₁ B₁ => E f i v₁ A₁.U B₁.U ∧ B₁.locs = A₁.locs ++ [] ∧ B₁.cells = A₁.cells + 0 ∧ B₁.slots = A₁.slots + 0) :=
  (law l x t V n f z fm i).pays htab hfr (by omega)
end ChN
end StrChars
namespace StrChars.Road
open Jvm Sem ClassFile Op Lib Jvm.Stand Jvm.Free Jvm.Free.XT
open Jvm.Lib.Cold (StaticIs)
/-- the words of String.charAt(int), the Latin-1 road alone -/
abbrev wordsChN : List Jvm.Cond := [.code ChN.yN ChN.yB 2 (some .char), .initialized ST, .fieldLink ST 9 ST "value" "[B", .fieldLink ST 38 ST "COMPACT_STRINGS" "Z", .fieldLink ST 15 ST "coder" "B", .code IsL.yN IsL.yB 1 (some .boolean), .methodLink ST 492 IsL.yN, .declares IsL.yN, .selects ST IsL.yN IsL.yN, .instanceMethod IsL.yN,
  .methodLink ST 495 LChA.yN, .static LChA.yN, .code LChA.yN LChA.yB 2 (some .char), .initialized "java/lang/StringLatin1", .methodLink "java/lang/StringLatin1" 9 JO.Str_checkIndex.yN, .static JO.Str_checkIndex.yN, .code JO.Str_checkIndex.yN JO.Str_checkIndex.yB 2 none,
  .fieldLink ST 1053 "jdk/internal/util/Preconditions" "SIOOBE_FORMATTER" "Ljava/util/function/BiFunction;", .methodLink ST 1059 JC.PreCheck.yN, .static JC.PreCheck.yN, .code JC.PreCheck.yN JC.PreCheck.yB 3 (some .int), .initialized "jdk/internal/util/Preconditions"]
theorem tabChN_of {a : Array Value} {s : State} (h : ∀ w ∈ wordsChN, w.before a s = true) : ChN.tab.before a s = true := by
  have hp : JC.PreCheck.tab.before a s = true := unparts (wk h (.code JC.PreCheck.yN JC.PreCheck.yB 3 (some .int))) (wks h (.initialized JC.PreCheck.yN.cls :: JC.PreCheck.site))
  have qk := consq hp h
  have hk : JO.Str_checkIndex.tab.before a s = true := unparts (wk qk (.code JO.Str_checkIndex.yN JO.Str_checkIndex.yB 2 none)) (wks qk (.initialized JO.Str_checkIndex.yN.cls :: JO.Str_checkIndex.site))
  have ql := consq hk h
  have hl : LChA.tab.before a s = true := unparts (wk ql (.code LChA.yN LChA.yB 2 (some .char))) (wks ql (.initialized LChA.yN.cls :: LChA.site))
  have hi : IsL.tab.before a s = true := unparts (wk h (.code IsL.yN IsL.yB 1 (some .boolean))) (wks h (.initialized IsL.yN.cls :: IsL.site))
  have q := consq hi (consq hl h)
  exact unparts (wk q (.code ChN.yN ChN.yB 2 (some .char))) (wks q (.initialized ChN.yN.cls :: ChN.site))
theorem movedChN {Z s : State} {a0 args : Array Value} (hZ : Z.Warmed39 s.vm) (hw : ∀ d ∈ wordsChN, d.before a0 Z = true) : ∀ d ∈ wordsChN, d.before args s = true := fun d hd => by
  have t : ∀ d ∈ wordsChN, (d.onTables && d.keepsFace) = true := by decide +kernel
  exact RoadKit.mv hZ (hw d hd) (t d hd)
/-- **charAt(i) OF A LATIN-1 STRING**, i < n: the char -/
theorem chN {p : Program} {l : Launch} {e : Env} {R : Room} {s : State} {args : Array Value} {below : List Frame} {len W : Nat} {Z : State} {a0 : Array Value} {h : Heap} (hZ : Z.Warmed39 s.vm) (hw : ∀ d ∈ wordsChN, d.before a0 Z = true) {kI : Nat} (wi : (Jvm.Cond.instantiable ST kI).before a0 Z = true)
    {x t : Addr} {kb : ClassId} {cs : List Int32} {N2 z : Int32} {vs : List Value} {fm : Value} {i : Nat} {j : Int32} (E : RoadKit.Exa Z h x ST) (V : RoadKit.Fld Z h x ST "value" "[B" (.ref t)) (C : RoadKit.Fld Z h x ST "coder" "B" (.int 0)) (K : RoadKit.Arv Z h t kb .byte N2 vs (.int 0)) (hc : CodA cs 0 N2 vs) (hb : ∀ c ∈ cs, ¬ c < 0 ∧ ¬ (65535 : Int32) < c)
    (S : RoadKit.Sta Z h ST "COMPACT_STRINGS" "Z" (.int z)) (hz : ¬ z = 0) (F : RoadKit.Sta Z h "jdk/internal/util/Preconditions" "SIOOBE_FORMATTER" "Ljava/util/function/BiFunction;" fm) (rf : fm.isRef = true) (l2 : cs.length ≤ 4000) (hi : i < cs.length) (hj : j = Int32.ofNat i) (hfr : 4 ≤ R.frames) (hlo : W + 53 ≤ R.locals) :
    Back l R p e below s args (⟨"java/lang/String", "charAt", "(I)C"⟩ : MethodName) len W (fun P a => a = #[.ref x, .int j] ∧ P.U.heap = h ∧ P.cells + 0 ≤ R.cells ∧ P.slots + 0 ≤ R.slots)
      (fun P _ v B => ∃ L, (v = some (.int (cs.getD i 0)) ∧ L = [] ∧ B.U.heap = h) ∧ B.locs = P.locs ++ L ∧ B.cells = P.cells + 0 ∧ B.slots = P.slots + 0) := by
  subst hj
  intro m meth c P g ig mk a X hg hsize hdg hW hn hp'
  obtain ⟨rfl, rfl, r1, r2⟩ := hp'
  have al : Z.vm.Alike P.U.vm := hZ.alike.trans X.warmed.alike
  obtain ⟨A, hx⟩ := txt_of wi al E V C K hc hb l2
  obtain ⟨v, B, X', ⟨⟨hv, hh⟩, hl, hk, hs⟩, st⟩ := ChN.pays x t A cs.length (fun j => cs.getD j 0) z fm i (tabChN_of (movedChN hZ hw)) hfr hlo m meth c P g ig mk _ X hg hsize hdg hW hn ⟨r1, r2, rfl, hx, hi, sta_is al S, hz, sta_is al F, rf⟩
  exact ⟨v, B, X', ⟨[], ⟨hv, rfl, hh⟩, hl, hk, hs⟩, st⟩
/-- what backV says of its String, as the contracts of this text ask it: cs's low bytes, coder 0 -/
theorem codOf {cs : List Int32} {n : Nat} (hn : cs.length = n) (hb : ∀ c ∈ cs, ¬ 255 < c) : CodA cs 0 (Int32.ofNat n) ((cs.map lo8).map Value.int) := Or.inl ⟨rfl, by rw [hn], by simp [List.map_map, Function.comp_def], hb⟩
end StrChars.Road
end Jvm.Pilot.@@N@@

namespace Jvm.Pilot.@@N@@
open Jvm Jvm.ClassFile Sem Op Lib Jvm.Free Jvm.Stand Jvm.LawKit Jvm.RoadKit Bundle Jvm.Pilot.@@N@@.Jvm.D
namespace Own
section Own
variable {p : Program} {l : Launch} {e : Env} {R : Room} {s : State} {m : MethodId} {args : Array Value} {below : List Frame} {meth : Method} {c : Code} {Z : State} {a0 : Array Value} {EL : List (String × Nat)} {y : MethodName} {bytes : ByteArray} {ml : Nat} {ret : Option FieldType} {w : Bool} {h0 : Heap} {ws ws' : List Addr} {vm0 vm1 : Vm} {T T' : State} {h h' h1 : Heap} {locs locs' : List Loc} {cells slots cells' slots' : Nat} {F : State → Option Value → Prop} {pc pc' : Nat} {Ls Ls' : Array Slot} {rest : List Value} {a b x : Addr}
/-- what is left of a walk: from here it comes to a return of which F is true -/
def Go (p : Program) (e : Env) (below : List Frame) (F : State → Option Value → Prop) (T : State) (g : JFrame) : Prop :=
  ∃ t v, Steps p.tables e below (T.setTop g) t ∧ t.status = .running ∧ Ended t below (.returned v) ∧ F t v
theorem Go.by {g g' : JFrame} (k : Go p e below F T' g') (st : ∀ t, Steps p.tables e below (T'.setTop g') t → Steps p.tables e below (T.setTop g) t) : Go p e below F T g := by
  obtain ⟨t, v, a, b⟩ := k; exact ⟨t, v, st t a, b⟩
theorem Go.imp {g : JFrame} {F' : State → Option Value → Prop} (k : Go p e below F T g) (f : ∀ t v, F t v → F' t v) : Go p e below F' T g := by
  obtain ⟨t, v, a, b, c, d⟩ := k; exact ⟨t, v, a, b, c, f t v d⟩
theorem extK (E : Ext h0 h) (K : Keep h h' ws) (q : ∀ x ∈ ws, h0.size ≤ x) : Ext h0 h' :=
  ⟨Nat.le_trans E.1 K.1, fun a c r => K.2.1 a c (E.2 a c r) fun z => absurd (Array.getElem?_eq_some_iff.mp r).1 (Nat.not_lt.mpr (q a z))⟩
theorem Ext.rfl' (h : Heap) : Ext h h := ⟨Nat.le_refl _, fun _ _ q => q⟩
theorem Ext.tr (E : Ext h h') (E' : Ext h' h1) : Ext h h1 := ⟨Nat.le_trans E.1 E'.1, fun a c q => E'.2 a c (E.2 a c q)⟩
theorem extN (K : Keep h h' []) : Ext h h' := ⟨K.1, fun a c q => K.2.1 a c q nin0⟩
/-- one step of the heap: what is kept; in a walk that may intern, the constants as well -/
def Ev (w : Bool) (Z : State) (EL : List (String × Nat)) (vm0 : Vm) (h : Heap) (vm1 : Vm) (h' : Heap) (ws : List Addr) : Prop := Keep h h' ws ∧ (w = true → CHr Z EL vm0 h vm1 h')
/-- the cell at x may be written -/
def Ok (w : Bool) (Z : State) (EL : List (String × Nat)) (h0 : Heap) (ws : List Addr) (vm0 : Vm) (h : Heap) (x : Addr) : Prop := x < h.size ∧ Z.heap.size ≤ x ∧ (x ∈ ws ∨ h0.size ≤ x) ∧ (w = true → Safe Z EL vm0 h x)
theorem Ok.ev (O : Ok w Z EL h0 ws vm0 h x) (V : Ev w Z EL vm0 h vm1 h' ws') : Ok w Z EL h0 ws vm1 h' x := ⟨Nat.lt_of_lt_of_le O.1 V.1.1, O.2.1, O.2.2.1, fun q => (V.2 q).safe O.1 (O.2.2.2 q)⟩
/-- where a walk stands -/
def Wk (p : Program) (l : Launch) (e : Env) (R : Room) (s : State) (m : MethodId) (args : Array Value) (below : List Frame) (meth : Method) (c : Code) (Z : State) (a0 : Array Value) (EL : List (String × Nat)) (y : MethodName) (bytes : ByteArray) (ml : Nat) (ret : Option FieldType) (w : Bool) (h0 : Heap) (ws : List Addr) (vm0 : Vm) (T : State) (h : Heap) (locs : List Loc) (cells slots : Nat) : Prop :=
  (p.tables.exec = Jvm.exec ∧ c.code = bytes ∧ c.maxLocals = ml ∧ meth.sig.returnType = ret ∧ meth.locks = false ∧ meth.name = y.name ∧ EW Z a0 EL) ∧
  Stand p l e R (s.setVm vm0) m args below meth c T locs cells slots ∧ Z.Warmed39 vm0 ∧ vm0.findClass y.cls = some m.cls ∧ T.heap = h ∧ (∃ k0, s.Since vm0 k0 ∧ k0 ≤ h.size) ∧ (w = false → vm0 = s.vm) ∧ Fr Z.heap.size locs ∧ Ext Z.heap h ∧ Keep h0 h ws ∧ (w = true → CHr Z EL s.vm h0 vm0 h)
theorem Wk.hx (X : Wk p l e R s m args below meth c Z a0 EL y bytes ml ret w h0 ws vm0 T h locs cells slots) : p.tables.exec = Jvm.exec := X.1.1
theorem Wk.hby (X : Wk p l e R s m args below meth c Z a0 EL y bytes ml ret w h0 ws vm0 T h locs cells slots) : c.code = bytes := X.1.2.1
theorem Wk.hml (X : Wk p l e R s m args below meth c Z a0 EL y bytes ml ret w h0 ws vm0 T h locs cells slots) : c.maxLocals = ml := X.1.2.2.1
theorem Wk.hret (X : Wk p l e R s m args below meth c Z a0 EL y bytes ml ret w h0 ws vm0 T h locs cells slots) : meth.sig.returnType = ret := X.1.2.2.2.1
theorem Wk.hlk (X : Wk p l e R s m args below meth c Z a0 EL y bytes ml ret w h0 ws vm0 T h locs cells slots) : meth.locks = false := X.1.2.2.2.2.1
theorem Wk.hnm (X : Wk p l e R s m args below meth c Z a0 EL y bytes ml ret w h0 ws vm0 T h locs cells slots) : meth.name = y.name := X.1.2.2.2.2.2.1
theorem Wk.hEW (X : Wk p l e R s m args below meth c Z a0 EL y bytes ml ret w h0 ws vm0 T h locs cells slots) : EW Z a0 EL := X.1.2.2.2.2.2.2
theorem Wk.st (X : Wk p l e R s m args below meth c Z a0 EL y bytes ml ret w h0 ws vm0 T h locs cells slots) : Stand p l e R (s.setVm vm0) m args below meth c T locs cells slots := X.2.1
theorem Wk.hZ (X : Wk p l e R s m args below meth c Z a0 EL y bytes ml ret w h0 ws vm0 T h locs cells slots) : Z.Warmed39 (s.setVm vm0).vm := X.2.2.1
theorem Wk.hown (X : Wk p l e R s m args below meth c Z a0 EL y bytes ml ret w h0 ws vm0 T h locs cells slots) : (s.setVm vm0).vm.findClass y.cls = some m.cls := X.2.2.2.1
theorem Wk.hT (X : Wk p l e R s m args below meth c Z a0 EL y bytes ml ret w h0 ws vm0 T h locs cells slots) : T.heap = h := X.2.2.2.2.1
theorem Wk.hS (X : Wk p l e R s m args below meth c Z a0 EL y bytes ml ret w h0 ws vm0 T h locs cells slots) : ∃ k0, s.Since vm0 k0 ∧ k0 ≤ h.size := X.2.2.2.2.2.1
theorem Wk.hv (X : Wk p l e R s m args below meth c Z a0 EL y bytes ml ret w h0 ws vm0 T h locs cells slots) : w = false → vm0 = s.vm := X.2.2.2.2.2.2.1
theorem Wk.hN (X : Wk p l e R s m args below meth c Z a0 EL y bytes ml ret w h0 ws vm0 T h locs cells slots) : Fr Z.heap.size locs := X.2.2.2.2.2.2.2.1
theorem Wk.hE (X : Wk p l e R s m args below meth c Z a0 EL y bytes ml ret w h0 ws vm0 T h locs cells slots) : Ext Z.heap h := X.2.2.2.2.2.2.2.2.1
theorem Wk.hK (X : Wk p l e R s m args below meth c Z a0 EL y bytes ml ret w h0 ws vm0 T h locs cells slots) : Keep h0 h ws := X.2.2.2.2.2.2.2.2.2.1
theorem Wk.hC (X : Wk p l e R s m args below meth c Z a0 EL y bytes ml ret w h0 ws vm0 T h locs cells slots) : w = true → CHr Z EL s.vm h0 vm0 h := X.2.2.2.2.2.2.2.2.2.2
theorem Wk.chv (X : Wk p l e R s m args below meth c Z a0 EL y bytes ml ret w h0 ws vm0 T h locs cells slots) (q : w = true) : CHv Z EL vm0 h := (X.hC q).1
theorem Wk.move (X : Wk p l e R s m args below meth c Z a0 EL y bytes ml ret w h0 ws vm0 T h locs cells slots) (St : Stand p l e R (s.setVm vm1) m args below meth c T' locs' cells' slots') (hZ : Z.Warmed39 vm1) (ho : vm1.findClass y.cls = some m.cls) (hT : T'.heap = h') (hS : ∃ k0, s.Since vm1 k0 ∧ k0 ≤ h'.size) (hv : w = false → vm1 = s.vm) (N : Fr Z.heap.size locs') (V : Ev w Z EL vm0 h vm1 h' ws') (q : ∀ x ∈ ws', Z.heap.size ≤ x ∧ (x ∈ ws ∨ h0.size ≤ x)) :
    Wk p l e R s m args below meth c Z a0 EL y bytes ml ret w h0 ws vm1 T' h' locs' cells' slots' :=
  ⟨X.1, St, hZ, ho, hT, hS, hv, N, extK X.hE V.1 fun x hx => (q x hx).1, X.hK.trans V.1 fun x hx => (q x hx).2, fun r => (X.hC r).trans (V.2 r)⟩
theorem Wk.since (X : Wk p l e R s m args below meth c Z a0 EL y bytes ml ret w h0 ws vm0 T h locs cells slots) (hg : h.size ≤ h'.size) : ∃ k0, s.Since vm0 k0 ∧ k0 ≤ h'.size := by obtain ⟨k, a, b⟩ := X.hS; exact ⟨k, a, Nat.le_trans b hg⟩
theorem Wk.same (X : Wk p l e R s m args below meth c Z a0 EL y bytes ml ret w h0 ws vm0 T h locs cells slots) (St : Stand p l e R (s.setVm vm0) m args below meth c T' locs' cells' slots') (hT : T'.heap = h') (N : Fr Z.heap.size locs') (V : Ev w Z EL vm0 h vm0 h' ws') (q : ∀ x ∈ ws', Z.heap.size ≤ x ∧ (x ∈ ws ∨ h0.size ≤ x)) :
    Wk p l e R s m args below meth c Z a0 EL y bytes ml ret w h0 ws vm0 T' h' locs' cells' slots' := X.move St X.hZ X.hown hT (X.since V.1.1) X.hv N V q
theorem Wk.evR (X : Wk p l e R s m args below meth c Z a0 EL y bytes ml ret w h0 ws vm0 T h locs cells slots) : Ev w Z EL vm0 h vm0 h [] := ⟨Keep.refl _ _, fun q => CHr.refl (X.chv q)⟩
theorem Wk.evE (X : Wk p l e R s m args below meth c Z a0 EL y bytes ml ret w h0 ws vm0 T h locs cells slots) (E : Ext h h') : Ev w Z EL vm0 h vm0 h' [] := ⟨(Keep.refl _ _).ext E, fun q => CHr.ext E (X.chv q)⟩
theorem Wk.evW {sl : Nat} {v : Value} (X : Wk p l e R s m args below meth c Z a0 EL y bytes ml ret w h0 ws vm0 T h locs cells slots) (W : Wr h h' a sl v) (O : Ok w Z EL h0 ws vm0 h a) : Ev w Z EL vm0 h vm0 h' [a] := ⟨Keep.of_wr W, fun q => CHr.wr W (O.2.2.2 q) (X.chv q)⟩
theorem Wk.evK (X : Wk p l e R s m args below meth c Z a0 EL y bytes ml ret w h0 ws vm0 T h locs cells slots) (K : Keep h h' ws') (q : ∀ x ∈ ws', Ok w Z EL h0 ws vm0 h x) : Ev w Z EL vm0 h vm0 h' ws' := ⟨K, fun r => CHr.keep K (fun x hx => (q x hx).2.2.2 r) (X.chv r)⟩
theorem Ok.two (q : ∀ x ∈ ws', Ok w Z EL h0 ws vm0 h x) : ∀ x ∈ ws', Z.heap.size ≤ x ∧ (x ∈ ws ∨ h0.size ≤ x) := fun x hx => ⟨(q x hx).2.1, (q x hx).2.2.1⟩
theorem Ok.one (O : Ok w Z EL h0 ws vm0 h a) : ∀ x ∈ [a], Ok w Z EL h0 ws vm0 h x := fun x hx => by cases List.mem_singleton.mp hx; exact O
theorem Ok.nil : ∀ x ∈ ([] : List Addr), Ok w Z EL h0 ws vm0 h x := fun _ q => nomatch q
theorem two0 : ∀ x ∈ ([] : List Addr), Z.heap.size ≤ x ∧ (x ∈ ws ∨ h0.size ≤ x) := fun _ q => nomatch q
theorem Wk.mono (X : Wk p l e R s m args below meth c Z a0 EL y bytes ml ret w h0 ws vm0 T h locs cells slots) (hc : cells ≤ cells') (hs : slots ≤ slots') : Wk p l e R s m args below meth c Z a0 EL y bytes ml ret w h0 ws vm0 T h locs cells' slots' :=
  ⟨X.1, X.st.more hc hs, X.2.2⟩
/-- the new cell at the heap's end may be written -/
theorem Wk.okNew (X : Wk p l e R s m args below meth c Z a0 EL y bytes ml ret w h0 ws vm0 T h locs cells slots) (E : Ext h h') (hlt : h.size < h'.size) : Ok w Z EL h0 ws vm0 h' h.size := ⟨hlt, X.hE.1, Or.inr X.hK.1, fun q => Safe.ext E (X.chv q) (Safe.new (Nat.le_refl _))⟩
/-! returns -/
def Done (w : Bool) (Z : State) (EL : List (String × Nat)) (rm : Room) (s : State) (h0 : Heap) (ws : List Addr) (P : Option Value → Heap → Prop) (t : State) (v : Option Value) : Prop :=
  ∃ L, (Fr Z.heap.size L ∧ Keep h0 t.heap ws ∧ P v t.heap) ∧ (w = true → CHr Z EL s.vm h0 t.vm t.heap) ∧ ReturnedEndW s (.returned v) t L rm.cells rm.slots ∧ (w = false → FrameEnd s (.returned v) t L rm.cells rm.slots)
theorem r_end {rm : Room} {P : Option Value → Heap → Prop} {g : JFrame} (X : Wk p l e R s m args below meth c Z a0 EL y bytes ml ret w h0 ws vm0 T h locs cells slots) (v : Option Value) (hv : ret = none → v = none) (hc : cells ≤ rm.cells) (hs : slots ≤ rm.slots) (hP : P v h)
    (st : ∀ fs, (∀ (f : JFrame) (acts : List Action), f.method = m → f.locked = none → f.entered = [] → (doReturn e (T.setTop f) acts v).1 = T.setFrames fs) → Steps p.tables e below (T.setTop g) (T.setFrames fs)) :
    Go p e below (Done w Z EL rm s h0 ws P) T g := by
  have hT := X.hT
  have hlk := X.hlk
  have hv' : meth.sig.returnType = none → v = none := fun q => hv (X.hret.symm.trans q)
  have hC : w = true → CHr Z EL s.vm h0 T.vm h := fun q => (X.hC q).trans (CHv.at X.st X.hZ X.hEW (X.chv q))
  cases w with
  | false =>
    have e0 := X.hv rfl
    subst e0
    have X1 : Stand p l e R s m args below meth c T locs cells slots := X.st
    obtain ⟨fs, h1, h2, h3, h4, h5⟩ := X1.leave (v := v) hv'
    refine ⟨T.setFrames fs, v, st fs h1, h2, h3, locs, ⟨X.hN, ?_, ?_⟩, nofun, ReturnedEndW.of_narrow ⟨v, rfl⟩ h4 (h5.mono hc hs), fun _ => ⟨⟨v, rfl⟩, h4, h5.mono hc hs⟩⟩
    · show Keep h0 T.heap ws; rw [hT]; exact X.hK
    · show P v T.heap; rw [hT]; exact hP
  | true =>
    obtain ⟨k0, k1, k2⟩ := X.hS
    obtain ⟨fs, h1, h2, h3, h4, h5, h6, h7⟩ := X.st.leaveW k1 (by rw [hT]; exact k2) (v := v) hv'
    refine ⟨T.setFrames fs, v, st fs h1, h2, h3, locs, ⟨X.hN, ?_, ?_⟩, fun q => ?_, ⟨h4, h5, h6, h7.mono hc hs⟩, nofun⟩
    · show Keep h0 T.heap ws; rw [hT]; exact X.hK
    · show P v T.heap; rw [hT]; exact hP
    · show CHr Z EL s.vm h0 T.vm T.heap; rw [hT]; exact hC q
theorem r_void {rm : Room} {P : Option Value → Heap → Prop} (X : Wk p l e R s m args below meth c Z a0 EL y bytes ml ret w h0 ws vm0 T h locs cells slots) (hr : ret = none) (hd : decode bytes pc = .ok (.return_, 1)) (hc : cells ≤ rm.cells) (hs : slots ≤ rm.slots) (hP : P none h) : Go p e below (Done w Z EL rm s h0 ws P) T (mkF m pc Ls []) :=
  r_end X none (fun _ => rfl) hc hs hP fun fs hl => X.st.returnOut X.hx (X.hret.trans hr) (hb X.hby hd) hl
theorem r_int {rm : Room} {P : Option Value → Heap → Prop} {z : Int32} (X : Wk p l e R s m args below meth c Z a0 EL y bytes ml ret w h0 ws vm0 T h locs cells slots) (hr : ret = some .int) (hd : decode bytes pc = .ok (.ireturn, 1)) (hc : cells ≤ rm.cells) (hs : slots ≤ rm.slots) (hP : P (some (.int z)) h) : Go p e below (Done w Z EL rm s h0 ws P) T (mkF m pc Ls (.int z :: rest)) :=
  r_end X (some (.int z)) (fun q => by rw [hr] at q; cases q) hc hs hP fun fs hl => retOut X.st X.hx (X.hret.trans hr) rfl (Or.inl ⟨rfl, Or.inl rfl, z, rfl⟩) (hb X.hby hd) hl
theorem r_nar {rm : Room} {P : Option Value → Heap → Prop} {z : Int32} {t : FieldType} (X : Wk p l e R s m args below meth c Z a0 EL y bytes ml ret w h0 ws vm0 T h locs cells slots) (hr : ret = some t) (ht : t = .boolean ∨ t = .byte ∨ t = .char ∨ t = .short) (hd : decode bytes pc = .ok (.ireturn, 1)) (hc : cells ≤ rm.cells) (hs : slots ≤ rm.slots) (hP : P (some (.int (nar t z))) h) : Go p e below (Done w Z EL rm s h0 ws P) T (mkF m pc Ls (.int z :: rest)) :=
  r_end X (some (.int (nar t z))) (fun q => by rw [hr] at q; cases q) hc hs hP fun fs hl => retN X.st X.hx (X.hret.trans hr) ht (hb X.hby hd) hl
theorem r_ref {rm : Room} {P : Option Value → Heap → Prop} {v : Value} {t : FieldType} (X : Wk p l e R s m args below meth c Z a0 EL y bytes ml ret w h0 ws vm0 T h locs cells slots) (hr : ret = some t) (ht : t.isReference = true) (hv : v.isRef = true) (hd : decode bytes pc = .ok (.areturn, 1)) (hc : cells ≤ rm.cells) (hs : slots ≤ rm.slots) (hP : P (some v) h) : Go p e below (Done w Z EL rm s h0 ws P) T (mkF m pc Ls (v :: rest)) :=
  r_end X (some v) (fun q => by rw [hr] at q; cases q) hc hs hP fun fs hl => retOut X.st X.hx (X.hret.trans hr) (by cases t <;> first | rfl | cases ht) (Or.inr (Or.inr (Or.inr (Or.inr ⟨rfl, ht, hv⟩)))) (hb X.hby hd) hl
/-! contracts -/
def Ctr (w : Bool) (l : Launch) (Z : State) (a0 : Array Value) (EL : List (String × Nat)) (y : MethodName) (bytes : ByteArray) (ml : Nat) (ret : Option FieldType) (rm : Room) (as : Array Value) (h0 : Heap) (ws : List Addr) (P : Option Value → Heap → Prop) : Prop :=
  ∀ cs : List Jvm.Cond, MetFree l y (head1 (Jvm.Cond.code y bytes ml ret :: cs) rm) (fun a U => a = as ∧ Z.Warmed39 U.vm ∧ U.heap = h0 ∧ (w = true → CHv Z EL U.vm h0 ∧ ∀ x ∈ ws, Safe Z EL U.vm h0 x)) (fun _ _ _ _ _ => True) (fun _ U o U' => ∃ v, o = .returned v ∧ Done w Z EL rm U h0 ws P U' v)
theorem Ctr.of {rm : Room} {as : Array Value} {P : Option Value → Heap → Prop} (hpn : plainFor y = true) (ef : ∀ m, entryFrame m as ml = mkF m 0 Ls []) (hE : Ext Z.heap h0) (hEW : EW Z a0 EL)
    (body : ∀ (p : Program) (e : Env) (s : State) (m : MethodId) (below : List Frame) (meth : Method) (c : Code) (T : State), Wk p l e rm s m as below meth c Z a0 EL y bytes ml ret w h0 ws s.vm T h0 [] 0 0 → (w = true → ∀ x ∈ ws, Safe Z EL s.vm h0 x) → Go p e below (Done w Z EL rm s h0 ws P) T (mkF m 0 Ls [])) :
    Ctr w l Z a0 EL y bytes ml ret rm as h0 ws P := by
  intro cs
  refine MetFree.of_bodySF hpn hisR ?_
  intro p e s m args below meth c s₁ Bd hml hP hK
  obtain ⟨rfl, hZ, hh, hC⟩ := hP
  have e0 : s₁.heap = h0 := by rw [← hh, Bd.state]; rfl
  have hS : s.Since s.vm s.heap.size := (State.WarmedH.refl s).since _
  obtain ⟨t, v, st, r1, r2, q⟩ := body p e s m below meth c s₁ ⟨⟨Bd.exec, Bd.bytes, hml, Bd.returns, Bd.notSynchronized, (name_of_methodNamed Bd.named Bd.method).1, hEW⟩, Stand.of_body Bd, hZ, findClass_of_methodNamed Bd.named, e0, ⟨_, hS, by rw [hh]; exact Nat.le_refl _⟩, fun _ => rfl, Fr.nil _, hE, Keep.refl _ _, fun q => CHr.refl (hC q).1⟩ (fun q => (hC q).2)
  exact ⟨t, .returned v, castTop (ef m) st, r1, r2, v, rfl, q⟩
theorem Ctr.back {w' : Bool} {y' : MethodName} {bytes' : ByteArray} {ml' : Nat} {ret' : Option FieldType} {rm : Room} {as : Array Value} {P : Option Value → Heap → Prop} {len W : Nat} (hw : w' = false) (H : Ctr w' l Z a0 EL y' bytes' ml' ret' rm as h ws' P) (hZ : Z.Warmed39 s.vm) (wc : (Jvm.Cond.code y' bytes' ml' ret').before a0 Z = true) (wz : (Jvm.Cond.initialized y'.cls).before a0 Z = true) (hf : rm.frames + 1 ≤ R.frames) (hl : W + (ml' + 11) + rm.locals ≤ R.locals) :
    Back l R p e below s args y' len W (fun A a => a = as ∧ A.U.heap = h ∧ A.cells + rm.cells ≤ R.cells ∧ A.slots + rm.slots ≤ R.slots) (fun A _ v B => ∃ L, (Fr Z.heap.size L ∧ Keep h B.U.heap ws' ∧ P v B.U.heap) ∧ B.locs = A.locs ++ L ∧ B.cells = A.cells + rm.cells ∧ B.slots = A.slots + rm.slots) := by
  subst hw
  refine backOf (Q := fun v h' L => Fr Z.heap.size L ∧ Keep h h' ws' ∧ P v h') (fun p e ha hc hk s m args below hf happ hP hK => ?_) hZ wc wz hf hl
  obtain ⟨n, o, r1, r2, r3, v, rfl, L, q1, -, -, q4⟩ := H [] p e ha hc hk s m args below hf happ ⟨hP.1, hP.2.1, hP.2.2, nofun⟩ hK
  exact ⟨n, _, r1, r2, r3, v, L, rfl, q1, q4 rfl⟩
theorem Ctr.backS {w' : Bool} {y' : MethodName} {bytes' : ByteArray} {ml' : Nat} {ret' : Option FieldType} {rm : Room} {as : Array Value} {P : Option Value → Heap → Prop} {len W : Nat} (hw : w' = true) (H : Ctr w' l Z a0 EL y' bytes' ml' ret' rm as h ws' P) (hZ : Z.Warmed39 vm0) (wc : (Jvm.Cond.code y' bytes' ml' ret').before a0 Z = true) (wz : (Jvm.Cond.initialized y'.cls).before a0 Z = true) (hf : rm.frames + 1 ≤ R.frames) (hl : W + (ml' + 11) + rm.locals ≤ R.locals) (hEL : EW Z a0 EL) (hC : CHv Z EL vm0 h) (hs : ∀ x ∈ ws', x < h.size ∧ Safe Z EL vm0 h x) :
    BackS l R p e below (s.setVm vm0) args y' len W (fun A a => a = as ∧ A.U.heap = h ∧ A.cells + rm.cells ≤ R.cells ∧ A.slots + rm.slots ≤ R.slots) (fun A _ v B => ∃ L, (Fr Z.heap.size L ∧ Keep h B.U.heap ws' ∧ P v B.U.heap ∧ CHr Z EL vm0 h B.U.vm B.U.heap) ∧ B.locs = A.locs ++ L ∧ B.cells = A.cells + rm.cells ∧ B.slots = A.slots + rm.slots) := by
  subst hw
  refine BackS.of_freeW (bytes := bytes') (maxL := ml') (ret := ret') (E := fun _ first o t L k n => k = rm.cells ∧ n = rm.slots ∧ (∃ v, o = .returned v ∧ Fr Z.heap.size L ∧ Keep h t.heap ws' ∧ P v t.heap) ∧ CHr Z EL first.vm h t.vm t.heap) (H []) hf hl ?_ ?_ (fun _ _ _ _ _ _ _ _ _ => trivial) ?_ ?_
  · intro m meth c A a Y hp
    have hU : Z.Warmed39 A.U.vm := wtrans (s := s.setVm vm0) hZ Y.warmed
    exact ⟨by show (Cond.and _ .tt).before a A.U = true; rw [Cond.before_and, mv hU wc]; rfl, mv hU wc, mv hU wz, hp.2.2.1, hp.2.2.2⟩
  · intro m meth c A a g mk Y hp
    have q := CHv.at Y hZ hEL hC
    exact ⟨hp.1, wtrans (s := s.setVm vm0) hZ Y.warmed, hp.2.1, fun _ => ⟨q.1, fun x hx => q.safe (hs x hx).1 (hs x hx).2⟩⟩
  · intro a first o t hq
    obtain ⟨v, rfl, L, q1, q2, q3, -⟩ := hq
    exact ⟨L, _, _, q3, rfl, rfl, ⟨v, rfl, q1⟩, q2 rfl⟩
  · intro m meth c A a g mk v t L k n Y hp _ _ hE
    obtain ⟨e1, e2, ⟨v', e3, e4⟩, e5⟩ := hE
    cases e3; subst e1 e2
    exact ⟨L, ⟨e4.1, e4.2.1, e4.2.2, (CHv.at Y hZ hEL hC).trans e5⟩, rfl, rfl, rfl⟩
/-! behind a call -/
theorem goB {G : Option Value → JFrame} {g : JFrame} {v : Option Value} {B : Pt} {Q : Option Value → Heap → List Loc → Prop} {P : Option Value → Heap → Prop} {cc ss : Nat} (X : Wk p l e R s m args below meth c Z a0 EL y bytes ml ret w h0 ws vm0 T h locs cells slots) (X' : Stand p l e R (s.setVm vm0) m args below meth c B.U B.locs B.cells B.slots)
    (hq : ∃ L, Q v B.U.heap L ∧ B.locs = locs ++ L ∧ B.cells = cells + cc ∧ B.slots = slots + ss) (st : Steps p.tables e below (T.setTop g) (B.U.setTop (G v))) (hQ : ∀ v h' L, Q v h' L → Fr Z.heap.size L ∧ Keep h h' ws' ∧ P v h') (hok : ∀ x ∈ ws', Ok w Z EL h0 ws vm0 h x)
    (k : ∀ v vm1 T' h' L, Wk p l e R s m args below meth c Z a0 EL y bytes ml ret w h0 ws vm1 T' h' (locs ++ L) (cells + cc) (slots + ss) → Ev w Z EL vm0 h vm1 h' ws' → P v h' → Go p e below F T' (G v)) : Go p e below F T g := by
  obtain ⟨L, q, e1, e2, e3⟩ := hq
  obtain ⟨n, K, hP⟩ := hQ _ _ _ q
  rw [e1, e2, e3] at X'
  have V := X.evK K hok
  exact (k v vm0 B.U B.U.heap L (X.same X' rfl (X.hN.app n) V (Ok.two hok)) V hP).by fun t r => st.trans r
theorem goS {G : Option Value → JFrame} {g : JFrame} {v : Option Value} {B : Pt} {P : Option Value → Heap → Prop} {cc ss : Nat} (hw : w = true) (X : Wk p l e R s m args below meth c Z a0 EL y bytes ml ret w h0 ws vm0 T h locs cells slots) (X' : Stand p l e R ((s.setVm vm0).setVm B.U.vm) m args below meth c B.U B.locs B.cells B.slots) (hS : (s.setVm vm0).Since B.U.vm B.U.heap.size) (hg : T.heap.size ≤ B.U.heap.size)
    (hq : ∃ L, (Fr Z.heap.size L ∧ Keep h B.U.heap ws' ∧ P v B.U.heap ∧ CHr Z EL vm0 h B.U.vm B.U.heap) ∧ B.locs = locs ++ L ∧ B.cells = cells + cc ∧ B.slots = slots + ss) (st : Steps p.tables e below (T.setTop g) (B.U.setTop (G v))) (hok : ∀ x ∈ ws', Ok w Z EL h0 ws vm0 h x)
    (k : ∀ v vm1 T' h' L, Wk p l e R s m args below meth c Z a0 EL y bytes ml ret w h0 ws vm1 T' h' (locs ++ L) (cells + cc) (slots + ss) → Ev w Z EL vm0 h vm1 h' ws' → P v h' → Go p e below F T' (G v)) : Go p e below F T g := by
  obtain ⟨L, ⟨n, K, hP, hC⟩, e1, e2, e3⟩ := hq
  rw [e1, e2, e3] at X'
  have V : Ev w Z EL vm0 h B.U.vm B.U.heap ws' := ⟨K, fun _ => hC⟩
  obtain ⟨k0, k1, k2⟩ := X.hS
  rw [X.hT] at hg
  have hZ : Z.Warmed39 B.U.vm := State.Warmed39.trans (t := s.setVm vm0) X.hZ hS.1
  refine (k v B.U.vm B.U B.U.heap L (X.move X' hZ ?_ rfl ⟨_, k1.trans hS (Nat.le_trans k2 hg), Nat.le_refl _⟩ (fun q => by rw [hw] at q; cases q) (X.hN.app n) V (Ok.two hok)) V hP).by fun t r => st.trans r
  rw [hS.1.alike.findClass]; exact X.hown
/-- never MethodHandle or VarHandle -/
abbrev Pl (y : MethodName) : Prop := y.cls ≠ "java/lang/invoke/MethodHandle" ∧ y.cls ≠ "java/lang/invoke/VarHandle"
section Calls
variable {y' z' : MethodName} {bytes' : ByteArray} {ml' idx W : Nat} {ret' : Option FieldType} {rm : Room} {P : Option Value → Heap → Prop} {w' : Bool} {S argsL : List Value} {Q : Option Value → Heap → List Loc → Prop} {cc ss : Nat} {C : String}
/-! calls paid by a Back -/
theorem b_static (X : Wk p l e R s m args below meth c Z a0 EL y bytes ml ret w h0 ws vm0 T h locs cells slots) (hd : decode bytes pc = .ok (.invokestatic idx, 3)) (w1 : (Jvm.Cond.methodLink y.cls idx y').before a0 Z = true) (w2 : (Jvm.Cond.static y').before a0 Z = true) (w3 : (Jvm.Cond.initialized y'.cls).before a0 Z = true) (w4 : (Jvm.Cond.code y' bytes' ml' ret').before a0 Z = true) (hy : Pl y')
    (argsL rest : List Value) (B : Back l R p e below (s.setVm vm0) args y' 3 W (fun A a => a = argsL.toArray ∧ A.U.heap = h ∧ A.cells + cc ≤ R.cells ∧ A.slots + ss ≤ R.slots) (fun A _ v B => ∃ L, Q v B.U.heap L ∧ B.locs = A.locs ++ L ∧ B.cells = A.cells + cc ∧ B.slots = A.slots + ss))
    (hQ : ∀ v h' L, Q v h' L → Fr Z.heap.size L ∧ Keep h h' ws' ∧ P v h') (hok : ∀ x ∈ ws', Ok w Z EL h0 ws vm0 h x) (hlen : ∀ sig, parseMethodDescriptor y'.desc = some sig → argsL.length = sig.parameters.length) (hS : S = argsL.reverse ++ rest) (hW : (rest.map fun v => v.category).sum ≤ W) (hc : cells + cc ≤ R.cells) (hs : slots + ss ≤ R.slots) (hsz : Ls.size = ml) (hp : pc + 3 = pc')
    (k : ∀ v vm1 T' h' L, Wk p l e R s m args below meth c Z a0 EL y bytes ml ret w h0 ws vm1 T' h' (locs ++ L) (cells + cc) (slots + ss) → Ev w Z EL vm0 h vm1 h' ws' → P v h' → Go p e below F T' (mkF m pc' Ls (v.toList ++ rest))) : Go p e below F T (mkF m pc Ls S) := by
  subst hp hS
  obtain ⟨v, vm, B, -, X', hq, st⟩ := Jvm.LawKit.callS X.st X.hx X.hown (mvT X.hZ w1) (mvT X.hZ w2) (mvT X.hZ w3) (mvT X.hZ w4) hy B (g := mkF m pc Ls (argsL.reverse ++ rest)) rfl (hsz.trans X.hml.symm) hlen rfl (by show 2 * 0 + _ ≤ _; omega) (hb X.hby hd) (fun _ _ => ⟨rfl, X.hT, hc, hs⟩)
  exact goB X X' hq (st _ (Steps.refl _)) hQ hok k
theorem b_special (X : Wk p l e R s m args below meth c Z a0 EL y bytes ml ret w h0 ws vm0 T h locs cells slots) (hd : decode bytes pc = .ok (.invokespecial idx, 3)) (hn : y'.name = "<init>") (w1 : (Jvm.Cond.methodLink y.cls idx y').before a0 Z = true) (w2 : (Jvm.Cond.instanceMethod y').before a0 Z = true) (w4 : (Jvm.Cond.code y' bytes' ml' none).before a0 Z = true) (hy : Pl y')
    (a : Addr) (argsL rest : List Value) (B : Back l R p e below (s.setVm vm0) args y' 3 W (fun A a' => a' = (.ref a :: argsL).toArray ∧ A.U.heap = h ∧ A.cells + cc ≤ R.cells ∧ A.slots + ss ≤ R.slots) (fun A _ v B => ∃ L, Q v B.U.heap L ∧ B.locs = A.locs ++ L ∧ B.cells = A.cells + cc ∧ B.slots = A.slots + ss))
    (hQ : ∀ v h' L, Q v h' L → Fr Z.heap.size L ∧ Keep h h' ws' ∧ P v h') (hok : ∀ x ∈ ws', Ok w Z EL h0 ws vm0 h x) (hlen : ∀ sig, parseMethodDescriptor y'.desc = some sig → argsL.length = sig.parameters.length) (hS : S = argsL.reverse ++ .ref a :: rest) (hW : (rest.map fun v => v.category).sum ≤ W) (hc : cells + cc ≤ R.cells) (hs : slots + ss ≤ R.slots) (hsz : Ls.size = ml) (hp : pc + 3 = pc')
    (k : ∀ v vm1 T' h' L, Wk p l e R s m args below meth c Z a0 EL y bytes ml ret w h0 ws vm1 T' h' (locs ++ L) (cells + cc) (slots + ss) → Ev w Z EL vm0 h vm1 h' ws' → P v h' → Go p e below F T' (mkF m pc' Ls (v.toList ++ rest))) : Go p e below F T (mkF m pc Ls S) := by
  subst hp hS
  obtain ⟨v, vm, B, -, X', hq, st⟩ := X.st.specialBack X.hx hn X.hown (mvT X.hZ w1) (mvT X.hZ w2) (mvT X.hZ w4) hy B (g := mkF m pc Ls (argsL.reverse ++ .ref a :: rest)) rfl (hsz.trans X.hml.symm) (Steps.refl _) hlen rfl (by show 2 * 0 + _ ≤ _; omega) (hb X.hby hd) (fun _ _ => ⟨rfl, X.hT, hc, hs⟩)
  exact goB X X' hq st hQ hok k
theorem b_virtual (X : Wk p l e R s m args below meth c Z a0 EL y bytes ml ret w h0 ws vm0 T h locs cells slots) (hd : decode bytes pc = .ok (.invokevirtual idx, 3)) (w1 : (Jvm.Cond.methodLink y.cls idx y').before a0 Z = true) (w2 : (Jvm.Cond.declares y').before a0 Z = true) (hnf : NotFace (s.setVm vm0) y') (w3 : (Jvm.Cond.selects C y' z').before a0 Z = true) (w4 : (Jvm.Cond.instanceMethod z').before a0 Z = true) (hy : Pl y')
    (a : Addr) (argsL rest : List Value) (E : Exa Z h a C) (B : Back l R p e below (s.setVm vm0) args z' 3 W (fun A a' => a' = (.ref a :: argsL).toArray ∧ A.U.heap = h ∧ A.cells + cc ≤ R.cells ∧ A.slots + ss ≤ R.slots) (fun A _ v B => ∃ L, Q v B.U.heap L ∧ B.locs = A.locs ++ L ∧ B.cells = A.cells + cc ∧ B.slots = A.slots + ss))
    (hQ : ∀ v h' L, Q v h' L → Fr Z.heap.size L ∧ Keep h h' ws' ∧ P v h') (hok : ∀ x ∈ ws', Ok w Z EL h0 ws vm0 h x) (hlen : ∀ sig, parseMethodDescriptor y'.desc = some sig → argsL.length = sig.parameters.length) (hS : S = argsL.reverse ++ .ref a :: rest) (hW : (rest.map fun v => v.category).sum ≤ W) (hc : cells + cc ≤ R.cells) (hs : slots + ss ≤ R.slots) (hsz : Ls.size = ml) (hp : pc + 3 = pc')
    (k : ∀ v vm1 T' h' L, Wk p l e R s m args below meth c Z a0 EL y bytes ml ret w h0 ws vm1 T' h' (locs ++ L) (cells + cc) (slots + ss) → Ev w Z EL vm0 h vm1 h' ws' → P v h' → Go p e below F T' (mkF m pc' Ls (v.toList ++ rest))) : Go p e below F T (mkF m pc Ls S) := by
  subst hp hS
  obtain ⟨cq, kq, qa, qb, qc⟩ := isOf (s := s.setVm vm0) X.hZ X.hT E
  obtain ⟨v, vm, B, -, X', hq, st⟩ := X.st.virtualBack X.hx X.hown (mvT X.hZ w1) (mvT X.hZ w2) hnf (mvT X.hZ w3) (mvT X.hZ w4) hy B qa qc (g := mkF m pc Ls (argsL.reverse ++ .ref a :: rest)) rfl (hsz.trans X.hml.symm) (Steps.refl _) hlen rfl (by show 2 * 0 + _ ≤ _; omega) (hb X.hby hd) (fun _ _ => ⟨rfl, X.hT, hc, hs⟩)
  exact goB X X' hq st hQ hok k
/-! calls paid by a contract -/
theorem c_static (X : Wk p l e R s m args below meth c Z a0 EL y bytes ml ret w h0 ws vm0 T h locs cells slots) (hd : decode bytes pc = .ok (.invokestatic idx, 3)) (w1 : (Jvm.Cond.methodLink y.cls idx y').before a0 Z = true) (w2 : (Jvm.Cond.static y').before a0 Z = true) (w3 : (Jvm.Cond.initialized y'.cls).before a0 Z = true) (w4 : (Jvm.Cond.code y' bytes' ml' ret').before a0 Z = true) (hy : Pl y')
    (argsL rest : List Value) (W : Nat) (H : Ctr w' l Z a0 EL y' bytes' ml' ret' rm argsL.toArray h ws' P) (hww : w' = true → w = true) (hok : ∀ x ∈ ws', Ok w Z EL h0 ws vm0 h x) (hlen : ∀ sig, parseMethodDescriptor y'.desc = some sig → argsL.length = sig.parameters.length) (hS : S = argsL.reverse ++ rest) (hW : (rest.map fun v => v.category).sum ≤ W) (hf : rm.frames + 1 ≤ R.frames) (hl : W + (ml' + 11) + rm.locals ≤ R.locals) (hc : cells + rm.cells ≤ R.cells) (hs : slots + rm.slots ≤ R.slots) (hsz : Ls.size = ml) (hp : pc + 3 = pc')
    (k : ∀ v vm1 T' h' L, Wk p l e R s m args below meth c Z a0 EL y bytes ml ret w h0 ws vm1 T' h' (locs ++ L) (cells + rm.cells) (slots + rm.slots) → Ev w Z EL vm0 h vm1 h' ws' → P v h' → Go p e below F T' (mkF m pc' Ls (v.toList ++ rest))) : Go p e below F T (mkF m pc Ls S) := by
  cases hw' : w' with
  | false => exact b_static X hd w1 w2 w3 w4 hy argsL rest (Ctr.back hw' H X.hZ w4 w3 hf hl) (fun v h' L q => q) hok hlen hS hW hc hs hsz hp k
  | true =>
    subst hp hS
    have hw := hww hw'
    obtain ⟨v, vm, B, -, X', hsi, hg, hq, st⟩ := callSS X.st X.hx X.hown (mvT X.hZ w1) (mvT X.hZ w2) (mvT X.hZ w3) (mvT X.hZ w4) hy (Ctr.backS hw' H X.hZ w4 w3 hf hl X.hEW (X.chv hw) fun x hx => ⟨(hok x hx).1, (hok x hx).2.2.2 hw⟩) (g := mkF m pc Ls (argsL.reverse ++ rest)) rfl (hsz.trans X.hml.symm) hlen rfl (by show 2 * 0 + _ ≤ _; omega) (hb X.hby hd) (fun _ _ => ⟨rfl, X.hT, hc, hs⟩)
    exact goS hw X X' hsi hg hq st hok k
theorem c_special (X : Wk p l e R s m args below meth c Z a0 EL y bytes ml ret w h0 ws vm0 T h locs cells slots) (hd : decode bytes pc = .ok (.invokespecial idx, 3)) (hn : y'.name = "<init>") (w1 : (Jvm.Cond.methodLink y.cls idx y').before a0 Z = true) (w2 : (Jvm.Cond.instanceMethod y').before a0 Z = true) (w3 : (Jvm.Cond.initialized y'.cls).before a0 Z = true) (w4 : (Jvm.Cond.code y' bytes' ml' none).before a0 Z = true) (hy : Pl y')
    (a : Addr) (argsL rest : List Value) (W : Nat) (H : Ctr w' l Z a0 EL y' bytes' ml' none rm (.ref a :: argsL).toArray h ws' P) (hww : w' = true → w = true) (hok : ∀ x ∈ ws', Ok w Z EL h0 ws vm0 h x) (hlen : ∀ sig, parseMethodDescriptor y'.desc = some sig → argsL.length = sig.parameters.length) (hS : S = argsL.reverse ++ .ref a :: rest) (hW : (rest.map fun v => v.category).sum ≤ W) (hf : rm.frames + 1 ≤ R.frames) (hl : W + (ml' + 11) + rm.locals ≤ R.locals) (hc : cells + rm.cells ≤ R.cells) (hs : slots + rm.slots ≤ R.slots) (hsz : Ls.size = ml) (hp : pc + 3 = pc')
    (k : ∀ v vm1 T' h' L, Wk p l e R s m args below meth c Z a0 EL y bytes ml ret w h0 ws vm1 T' h' (locs ++ L) (cells + rm.cells) (slots + rm.slots) → Ev w Z EL vm0 h vm1 h' ws' → P v h' → Go p e below F T' (mkF m pc' Ls (v.toList ++ rest))) : Go p e below F T (mkF m pc Ls S) := by
  cases hw' : w' with
  | false => exact b_special X hd hn w1 w2 w4 hy a argsL rest (Ctr.back hw' H X.hZ w4 w3 hf hl) (fun v h' L q => q) hok hlen hS hW hc hs hsz hp k
  | true =>
    subst hp hS
    have hw := hww hw'
    obtain ⟨v, vm, B, -, X', hsi, hg, hq, st⟩ := X.st.specialBackS X.hx hn X.hown (mvT X.hZ w1) (mvT X.hZ w2) (mvT X.hZ w4) hy (Ctr.backS hw' H X.hZ w4 w3 hf hl X.hEW (X.chv hw) fun x hx => ⟨(hok x hx).1, (hok x hx).2.2.2 hw⟩) (g := mkF m pc Ls (argsL.reverse ++ .ref a :: rest)) rfl (hsz.trans X.hml.symm) (Steps.refl _) hlen rfl (by show 2 * 0 + _ ≤ _; omega) (hb X.hby hd) (fun _ _ => ⟨rfl, X.hT, hc, hs⟩)
    exact goS hw X X' hsi hg hq st hok k
theorem c_virtual (X : Wk p l e R s m args below meth c Z a0 EL y bytes ml ret w h0 ws vm0 T h locs cells slots) (hd : decode bytes pc = .ok (.invokevirtual idx, 3)) (w1 : (Jvm.Cond.methodLink y.cls idx y').before a0 Z = true) (w2 : (Jvm.Cond.declares y').before a0 Z = true) (hnf : NotFace (s.setVm vm0) y') (w3 : (Jvm.Cond.selects C y' z').before a0 Z = true) (w4 : (Jvm.Cond.instanceMethod z').before a0 Z = true) (w5 : (Jvm.Cond.initialized z'.cls).before a0 Z = true) (w6 : (Jvm.Cond.code z' bytes' ml' ret').before a0 Z = true) (hy : Pl y')
    (a : Addr) (argsL rest : List Value) (W : Nat) (E : Exa Z h a C) (H : Ctr w' l Z a0 EL z' bytes' ml' ret' rm (.ref a :: argsL).toArray h ws' P) (hww : w' = true → w = true) (hok : ∀ x ∈ ws', Ok w Z EL h0 ws vm0 h x) (hlen : ∀ sig, parseMethodDescriptor y'.desc = some sig → argsL.length = sig.parameters.length) (hS : S = argsL.reverse ++ .ref a :: rest) (hW : (rest.map fun v => v.category).sum ≤ W) (hf : rm.frames + 1 ≤ R.frames) (hl : W + (ml' + 11) + rm.locals ≤ R.locals) (hc : cells + rm.cells ≤ R.cells) (hs : slots + rm.slots ≤ R.slots) (hsz : Ls.size = ml) (hp : pc + 3 = pc')
    (k : ∀ v vm1 T' h' L, Wk p l e R s m args below meth c Z a0 EL y bytes ml ret w h0 ws vm1 T' h' (locs ++ L) (cells + rm.cells) (slots + rm.slots) → Ev w Z EL vm0 h vm1 h' ws' → P v h' → Go p e below F T' (mkF m pc' Ls (v.toList ++ rest))) : Go p e below F T (mkF m pc Ls S) := by
  cases hw' : w' with
  | false => exact b_virtual X hd w1 w2 hnf w3 w4 hy a argsL rest E (Ctr.back hw' H X.hZ w6 w5 hf hl) (fun v h' L q => q) hok hlen hS hW hc hs hsz hp k
  | true =>
    subst hp hS
    have hw := hww hw'
    obtain ⟨cq, kq, qa, qb, qc⟩ := isOf (s := s.setVm vm0) X.hZ X.hT E
    obtain ⟨v, vm, B, -, X', hsi, hg, hq, st⟩ := X.st.virtualBackS X.hx X.hown (mvT X.hZ w1) (mvT X.hZ w2) hnf (mvT X.hZ w3) (mvT X.hZ w4) hy (Ctr.backS hw' H X.hZ w6 w5 hf hl X.hEW (X.chv hw) fun x hx => ⟨(hok x hx).1, (hok x hx).2.2.2 hw⟩) qa qc (g := mkF m pc Ls (argsL.reverse ++ .ref a :: rest)) rfl (hsz.trans X.hml.symm) (Steps.refl _) hlen rfl (by show 2 * 0 + _ ≤ _; omega) (hb X.hby hd) (fun _ _ => ⟨rfl, X.hT, hc, hs⟩)
    exact goS hw X X' hsi hg hq st hok k
theorem b_interface {count : Nat} (X : Wk p l e R s m args below meth c Z a0 EL y bytes ml ret w h0 ws vm0 T h locs cells slots) (hd : decode bytes pc = .ok (.invokeinterface idx count, 5)) (w1 : (Jvm.Cond.methodLink y.cls idx y').before a0 Z = true) (w2 : (Jvm.Cond.declares y').before a0 Z = true) (w3 : (Jvm.Cond.interfaceMethod y'.cls y'.cls y'.name y'.desc).before a0 Z = true) (hfc : ((Jvm.Cond.interfaceMethod y'.cls y'.cls y'.name y'.desc).onTables && (Jvm.Cond.interfaceMethod y'.cls y'.cls y'.name y'.desc).keepsFace) = true) (w4 : (Jvm.Cond.selects C y' z').before a0 Z = true) (w5 : (Jvm.Cond.instanceMethod z').before a0 Z = true) (w6 : (Jvm.Cond.publicMethod z').before a0 Z = true) (w7 : (Jvm.Cond.unhidden C y'.name y'.desc).before a0 Z = true) (w8 : (Jvm.Cond.castable C y'.cls).before a0 Z = true) (hy : Pl y')
    (a : Addr) (argsL rest : List Value) (E : Exa Z h a C) (B : Back l R p e below (s.setVm vm0) args z' 5 W (fun A a' => a' = (.ref a :: argsL).toArray ∧ A.U.heap = h ∧ A.cells + cc ≤ R.cells ∧ A.slots + ss ≤ R.slots) (fun A _ v B => ∃ L, Q v B.U.heap L ∧ B.locs = A.locs ++ L ∧ B.cells = A.cells + cc ∧ B.slots = A.slots + ss))
    (hQ : ∀ v h' L, Q v h' L → Fr Z.heap.size L ∧ Keep h h' ws' ∧ P v h') (hok : ∀ x ∈ ws', Ok w Z EL h0 ws vm0 h x) (hlen : ∀ sig, parseMethodDescriptor y'.desc = some sig → argsL.length = sig.parameters.length) (hS : S = argsL.reverse ++ .ref a :: rest) (hW : (rest.map fun v => v.category).sum ≤ W) (hc : cells + cc ≤ R.cells) (hs : slots + ss ≤ R.slots) (hsz : Ls.size = ml) (hp : pc + 5 = pc')
    (k : ∀ v vm1 T' h' L, Wk p l e R s m args below meth c Z a0 EL y bytes ml ret w h0 ws vm1 T' h' (locs ++ L) (cells + cc) (slots + ss) → Ev w Z EL vm0 h vm1 h' ws' → P v h' → Go p e below F T' (mkF m pc' Ls (v.toList ++ rest))) : Go p e below F T (mkF m pc Ls S) := by
  subst hp hS
  obtain ⟨cq, kq, qa, qb, qc⟩ := isOf (s := s.setVm vm0) X.hZ X.hT E
  obtain ⟨v, vm, B, -, X', hq, st⟩ := X.st.interfaceBack X.hx X.hown (mvT X.hZ w1) (mvT X.hZ w2) (mvT X.hZ w3 hfc) (mvT X.hZ w4) (mvT X.hZ w5) (mvT X.hZ w6) (mvT X.hZ w7) (mvT X.hZ w8) hy B qa qb qc (g := mkF m pc Ls (argsL.reverse ++ .ref a :: rest)) rfl (hsz.trans X.hml.symm) (Steps.refl _) hlen rfl (by show 2 * 0 + _ ≤ _; omega) (hb X.hby hd) (fun _ _ => ⟨rfl, X.hT, hc, hs⟩)
  exact goB X X' hq st hQ hok k
theorem c_interface {count : Nat} (X : Wk p l e R s m args below meth c Z a0 EL y bytes ml ret w h0 ws vm0 T h locs cells slots) (hd : decode bytes pc = .ok (.invokeinterface idx count, 5)) (w1 : (Jvm.Cond.methodLink y.cls idx y').before a0 Z = true) (w2 : (Jvm.Cond.declares y').before a0 Z = true) (w3 : (Jvm.Cond.interfaceMethod y'.cls y'.cls y'.name y'.desc).before a0 Z = true) (hfc : ((Jvm.Cond.interfaceMethod y'.cls y'.cls y'.name y'.desc).onTables && (Jvm.Cond.interfaceMethod y'.cls y'.cls y'.name y'.desc).keepsFace) = true) (w4 : (Jvm.Cond.selects C y' z').before a0 Z = true) (w5 : (Jvm.Cond.instanceMethod z').before a0 Z = true) (w6 : (Jvm.Cond.publicMethod z').before a0 Z = true) (w7 : (Jvm.Cond.unhidden C y'.name y'.desc).before a0 Z = true) (w8 : (Jvm.Cond.castable C y'.cls).before a0 Z = true) (wz : (Jvm.Cond.initialized z'.cls).before a0 Z = true) (wc : (Jvm.Cond.code z' bytes' ml' ret').before a0 Z = true) (hy : Pl y')
    (a : Addr) (argsL rest : List Value) (W : Nat) (E : Exa Z h a C) (H : Ctr w' l Z a0 EL z' bytes' ml' ret' rm (.ref a :: argsL).toArray h ws' P) (hww : w' = true → w = true) (hok : ∀ x ∈ ws', Ok w Z EL h0 ws vm0 h x) (hlen : ∀ sig, parseMethodDescriptor y'.desc = some sig → argsL.length = sig.parameters.length) (hS : S = argsL.reverse ++ .ref a :: rest) (hW : (rest.map fun v => v.category).sum ≤ W) (hf : rm.frames + 1 ≤ R.frames) (hl : W + (ml' + 11) + rm.locals ≤ R.locals) (hc : cells + rm.cells ≤ R.cells) (hs : slots + rm.slots ≤ R.slots) (hsz : Ls.size = ml) (hp : pc + 5 = pc')
    (k : ∀ v vm1 T' h' L, Wk p l e R s m args below meth c Z a0 EL y bytes ml ret w h0 ws vm1 T' h' (locs ++ L) (cells + rm.cells) (slots + rm.slots) → Ev w Z EL vm0 h vm1 h' ws' → P v h' → Go p e below F T' (mkF m pc' Ls (v.toList ++ rest))) : Go p e below F T (mkF m pc Ls S) := by
  cases hw' : w' with
  | false => exact b_interface X hd w1 w2 w3 hfc w4 w5 w6 w7 w8 hy a argsL rest E (Ctr.back hw' H X.hZ wc wz hf hl) (fun v h' L q => q) hok hlen hS hW hc hs hsz hp k
  | true =>
    subst hp hS
    have hw := hww hw'
    obtain ⟨cq, kq, qa, qb, qc⟩ := isOf (s := s.setVm vm0) X.hZ X.hT E
    obtain ⟨v, vm, B, -, X', hsi, hg, hq, st⟩ := X.st.interfaceBackS X.hx X.hown (mvT X.hZ w1) (mvT X.hZ w2) (mvT X.hZ w3 hfc) (mvT X.hZ w4) (mvT X.hZ w5) (mvT X.hZ w6) (mvT X.hZ w7) (mvT X.hZ w8) hy (Ctr.backS hw' H X.hZ wc wz hf hl X.hEW (X.chv hw) fun x hx => ⟨(hok x hx).1, (hok x hx).2.2.2 hw⟩) qa qb qc (g := mkF m pc Ls (argsL.reverse ++ .ref a :: rest)) rfl (hsz.trans X.hml.symm) (Steps.refl _) hlen rfl (by show 2 * 0 + _ ≤ _; omega) (hb X.hby hd) (fun _ _ => ⟨rfl, X.hT, hc, hs⟩)
    exact goS hw X X' hsi hg hq st hok k
end Calls
/-! steps that make or write -/
theorem s_initO {idx : Nat} (X : Wk p l e R s m args below meth c Z a0 EL y bytes ml ret w h0 ws vm0 T h locs cells slots) (hd : decode bytes pc = .ok (.invokespecial idx, 3)) (w1 : (Jvm.Cond.methodLink y.cls idx Lib.objectInit).before a0 Z = true) (w2 : (Jvm.Cond.instanceMethod Lib.objectInit).before a0 Z = true) (w3 : (Jvm.Cond.code Lib.objectInit ⟨#[0xb1]⟩ 1 none).before a0 Z = true) (W : Nat) (hW : (rest.map fun v => v.category).sum ≤ W) (hf : 1 ≤ R.frames) (hl : W + 12 ≤ R.locals) (hsz : Ls.size = ml) (hp : pc + 3 = pc')
    (k : ∀ T', Wk p l e R s m args below meth c Z a0 EL y bytes ml ret w h0 ws vm0 T' h locs cells slots → Go p e below F T' (mkF m pc' Ls rest)) : Go p e below F T (mkF m pc Ls (.ref a :: rest)) := by
  subst hp
  obtain ⟨T', X', e', st⟩ := initO X.st X.hx X.hZ X.hown w1 w2 w3 X.hT (g := mkF m pc Ls (.ref a :: rest)) rfl (hsz.trans X.hml.symm) rfl (hb X.hby hd) hf (W := W) (by show 2 * 0 + _ ≤ _; omega) hl
  exact (k T' (X.same X' e' X.hN X.evR two0)).by fun t r => st t r
theorem s_new {idx n : Nat} {C : String} (X : Wk p l e R s m args below meth c Z a0 EL y bytes ml ret w h0 ws vm0 T h locs cells slots) (hd : decode bytes pc = .ok (.new idx, 3)) (w1 : (Jvm.Cond.classLink y.cls idx C).before a0 Z = true) (w2 : (Jvm.Cond.instantiable C n).before a0 Z = true) (w3 : (Jvm.Cond.initialized C).before a0 Z = true) (hc : cells + 1 ≤ R.cells) (hs : slots + n ≤ R.slots) (hp : pc + 3 = pc')
    (k : ∀ a T' h', Wk p l e R s m args below meth c Z a0 EL y bytes ml ret w h0 ws vm0 T' h' locs (cells + 1) (slots + n) → Ev w Z EL vm0 h vm0 h' [] → h.size ≤ a → Exa Z h' a C → Ok w Z EL h0 ws vm0 h' a → (∀ {O nm d : String} {ty : FieldType}, Laid Z a0 C O nm d → parseFieldDescriptor d = some ty → Fld Z h' a O nm d (defaultValue ty)) → Go p e below F T' (mkF m pc' Ls (.ref a :: rest))) : Go p e below F T (mkF m pc Ls rest) := by
  subst hp
  obtain ⟨T', h', X', e', E, A, D, -, st⟩ := newO X.st X.hx X.hZ X.hown w1 w2 w3 X.hT (g := mkF m pc Ls rest) rfl (hb X.hby hd) hc hs
  have V := X.evE E
  exact (k h.size T' h' (X.same X' e' X.hN V two0) V (Nat.le_refl _) A (X.okNew E A.lt) D).by fun t r => st t r
theorem s_newarray {aty : ArrayType} {n : Int32} (X : Wk p l e R s m args below meth c Z a0 EL y bytes ml ret w h0 ws vm0 T h locs cells slots) (hd : decode bytes pc = .ok (.newarray aty, 2)) (w1 : (Jvm.Cond.arrayClass (newarray.typeOf aty)).before a0 Z = true) (hn : ¬ n < 0) (cap : Nat) (hcap : n.toNatClampNeg ≤ cap) (hbg : cap * 8 ≤ 536870912) (hc : cells + 1 ≤ R.cells) (hs : slots + cap ≤ R.slots) (hp : pc + 2 = pc')
    (k : ∀ a T' h' kc, Wk p l e R s m args below meth c Z a0 EL y bytes ml ret w h0 ws vm0 T' h' locs (cells + 1) (slots + cap) → Ev w Z EL vm0 h vm0 h' [] → h.size ≤ a → Arv Z h' a kc (newarray.typeOf aty) n [] (defaultValue (newarray.typeOf aty)) → Ok w Z EL h0 ws vm0 h' a → Go p e below F T' (mkF m pc' Ls (.ref a :: rest))) : Go p e below F T (mkF m pc Ls (.int n :: rest)) := by
  subst hp
  obtain ⟨T', h', kc, X', e', E, A, st⟩ := newP X.st X.hx X.hZ w1 X.hT (g := mkF m pc Ls (.int n :: rest)) rfl (hb X.hby hd) rfl hn hcap hbg hc hs
  have V := X.evE E
  exact (k h.size T' h' kc (X.same X' e' X.hN V two0) V (Nat.le_refl _) (Arv.new A hn) (X.okNew E A.lt)).by fun t r => st t r
theorem s_putfield {idx kk : Nat} {O nm d C : String} {old v : Value} {ty : FieldType} (X : Wk p l e R s m args below meth c Z a0 EL y bytes ml ret w h0 ws vm0 T h locs cells slots) (hd : decode bytes pc = .ok (.putfield idx, 3)) (w1 : (Jvm.Cond.fieldLink y.cls idx O nm d).before a0 Z = true) (Fo : Fld Z h a O nm d old) (E : Exa Z h a C) (L : (Jvm.Cond.lays C O nm d).before a0 Z = true ∨ ((Jvm.Cond.laysFinal C O nm d).before a0 Z = true ∧ y.cls = O ∧ y.name = "<init>")) (wi : (Jvm.Cond.instantiable C kk).before a0 Z = true) (hty : parseFieldDescriptor d = some ty) (hn : narrow ty v = v) (hf : fits ty v = true) (Oa : Ok w Z EL h0 ws vm0 h a) (hp : pc + 3 = pc')
    (k : ∀ T' h', Wk p l e R s m args below meth c Z a0 EL y bytes ml ret w h0 ws vm0 T' h' (locs ++ [⟨a, Jvm.RoadKit.slotOf Z O nm d⟩]) cells slots → Ev w Z EL vm0 h vm0 h' [a] → Wr h h' a (Jvm.RoadKit.slotOf Z O nm d) v → Go p e below F T' (mkF m pc' Ls rest)) : Go p e below F T (mkF m pc Ls (v :: .ref a :: rest)) := by
  subst hp
  obtain ⟨T', h', X', e', W, st⟩ := putF X.st X.hx X.hZ X.hown (host := "") (Or.inl w1) Via.refl X.hT Fo E (L.imp id fun q => ⟨q.1, q.2.1, X.hnm.trans q.2.2⟩) wi hty hn hf (g := mkF m pc Ls (v :: .ref a :: rest)) rfl rfl (hb X.hby hd)
  have V := X.evW W Oa
  exact (k T' h' (X.same X' e' (Fr.snoc X' X.hN Oa.2.1) V (Ok.two Oa.one)) V W).by fun t r => st t r
theorem s_putfieldN {idx kk : Nat} {O nm d C : String} {old v v' : Value} {ty : FieldType} (X : Wk p l e R s m args below meth c Z a0 EL y bytes ml ret w h0 ws vm0 T h locs cells slots) (hd : decode bytes pc = .ok (.putfield idx, 3)) (w1 : (Jvm.Cond.fieldLink y.cls idx O nm d).before a0 Z = true) (Fo : Fld Z h a O nm d old) (E : Exa Z h a C) (L : (Jvm.Cond.lays C O nm d).before a0 Z = true ∨ ((Jvm.Cond.laysFinal C O nm d).before a0 Z = true ∧ y.cls = O ∧ y.name = "<init>")) (wi : (Jvm.Cond.instantiable C kk).before a0 Z = true) (hty : parseFieldDescriptor d = some ty) (hn : narrow ty v = v') (hf : fits ty v' = true) (Oa : Ok w Z EL h0 ws vm0 h a) (hp : pc + 3 = pc')
    (k : ∀ T' h', Wk p l e R s m args below meth c Z a0 EL y bytes ml ret w h0 ws vm0 T' h' (locs ++ [⟨a, Jvm.RoadKit.slotOf Z O nm d⟩]) cells slots → Ev w Z EL vm0 h vm0 h' [a] → Wr h h' a (Jvm.RoadKit.slotOf Z O nm d) v' → Go p e below F T' (mkF m pc' Ls rest)) : Go p e below F T (mkF m pc Ls (v :: .ref a :: rest)) := by
  subst hp
  obtain ⟨T', h', X', e', W, st⟩ := putFN X.st X.hx X.hZ X.hown w1 Via.refl X.hT Fo E (L.imp id fun q => ⟨q.1, q.2.1, X.hnm.trans q.2.2⟩) wi hty hn hf (g := mkF m pc Ls (v :: .ref a :: rest)) rfl rfl (hb X.hby hd)
  have V := X.evW W Oa
  exact (k T' h' (X.same X' e' (Fr.snoc X' X.hN Oa.2.1) V (Ok.two Oa.one)) V W).by fun t r => st t r
theorem s_getfield {idx : Nat} {O nm d : String} {v : Value} (X : Wk p l e R s m args below meth c Z a0 EL y bytes ml ret w h0 ws vm0 T h locs cells slots) (hd : decode bytes pc = .ok (.getfield idx, 3)) (w1 : (Jvm.Cond.fieldLink y.cls idx O nm d).before a0 Z = true) (Fo : Fld Z h a O nm d v) (hp : pc + 3 = pc')
    (k : ∀ T', Wk p l e R s m args below meth c Z a0 EL y bytes ml ret w h0 ws vm0 T' h locs cells slots → Go p e below F T' (mkF m pc' Ls (v :: rest))) : Go p e below F T (mkF m pc Ls (.ref a :: rest)) := by
  subst hp
  obtain ⟨T', X', e', st⟩ := getF X.st X.hx X.hZ X.hown (host := "") (Or.inl w1) Via.refl X.hT Fo (g := mkF m pc Ls (.ref a :: rest)) rfl rfl (hb X.hby hd)
  exact (k T' (X.same X' e' X.hN X.evR two0)).by fun t r => st t r
theorem s_getstatic {idx : Nat} {O nm d : String} {v : Value} (X : Wk p l e R s m args below meth c Z a0 EL y bytes ml ret w h0 ws vm0 T h locs cells slots) (hd : decode bytes pc = .ok (.getstatic idx, 3)) (w1 : (Jvm.Cond.fieldLink y.cls idx O nm d).before a0 Z = true) (Fo : Sta Z h O nm d v) (hp : pc + 3 = pc')
    (k : ∀ T', Wk p l e R s m args below meth c Z a0 EL y bytes ml ret w h0 ws vm0 T' h locs cells slots → Go p e below F T' (mkF m pc' Ls (v :: rest))) : Go p e below F T (mkF m pc Ls rest) := by
  subst hp
  obtain ⟨T', X', e', st⟩ := getS2 X.st X.hx X.hZ X.hown (host := "") (Or.inl w1) Via.refl X.hT Fo (g := mkF m pc Ls rest) rfl (hb X.hby hd)
  exact (k T' (X.same X' e' X.hN X.evR two0)).by fun t r => st t r
theorem s_getstaticN {idx : Nat} {O nm d host : String} {v : Value} (X : Wk p l e R s m args below meth c Z a0 EL y bytes ml ret w h0 ws vm0 T h locs cells slots) (hd : decode bytes pc = .ok (.getstatic idx, 3)) (w1 : (Jvm.Cond.fieldLinkNest y.cls idx O nm d host).before a0 Z = true) (Fo : Sta Z h O nm d v) (hp : pc + 3 = pc')
    (k : ∀ T', Wk p l e R s m args below meth c Z a0 EL y bytes ml ret w h0 ws vm0 T' h locs cells slots → Go p e below F T' (mkF m pc' Ls (v :: rest))) : Go p e below F T (mkF m pc Ls rest) := by
  subst hp
  obtain ⟨T', X', e', st⟩ := getS2 X.st X.hx X.hZ X.hown (host := host) (Or.inr w1) Via.refl X.hT Fo (g := mkF m pc Ls rest) rfl (hb X.hby hd)
  exact (k T' (X.same X' e' X.hN X.evR two0)).by fun t r => st t r
theorem s_castore {j z n : Int32} {kc : ClassId} {vs : List Value} {dv : Value} (X : Wk p l e R s m args below meth c Z a0 EL y bytes ml ret w h0 ws vm0 T h locs cells slots) (hd : decode bytes pc = .ok (.castore, 1)) (A : Arv Z h a kc .char n vs dv) (hj : ¬ j < 0 ∧ j < n) (i : Nat) (hi : j.toNatClampNeg = i) (hlt : i < vs.length) (Oa : Ok w Z EL h0 ws vm0 h a) (hp : pc + 1 = pc')
    (k : ∀ T' h', Wk p l e R s m args below meth c Z a0 EL y bytes ml ret w h0 ws vm0 T' h' (locs ++ [⟨a, j.toNatClampNeg⟩]) cells slots → Ev w Z EL vm0 h vm0 h' [a] → Arv Z h' a kc .char n (vs.set i (.int (nar .char z))) dv → Go p e below F T' (mkF m pc' Ls rest)) : Go p e below F T (mkF m pc Ls (.int z :: .int j :: .ref a :: rest)) := by
  subst hp
  obtain ⟨cl, Ar, q1, S, q3, H, G⟩ := A
  obtain ⟨T', h', X', e', W, st⟩ := stC X.st X.hx X.hZ X.hT Ar (inb_of S hj) (g := mkF m pc Ls (.int z :: .int j :: .ref a :: rest)) rfl rfl (hb X.hby hd)
  have V := X.evW W Oa
  exact (k T' h' (X.same X' e' (Fr.snoc X' X.hN Oa.2.1) V (Ok.two Oa.one)) V (Arv.set Ar q1 S q3 H G (fits_nar_char z) W i hi hlt)).by fun t r => st t r
theorem s_bastore {j z n : Int32} {kc : ClassId} {vs : List Value} {dv : Value} (X : Wk p l e R s m args below meth c Z a0 EL y bytes ml ret w h0 ws vm0 T h locs cells slots) (hd : decode bytes pc = .ok (.bastore, 1)) (A : Arv Z h a kc .byte n vs dv) (hj : ¬ j < 0 ∧ j < n) (i : Nat) (hi : j.toNatClampNeg = i) (hlt : i < vs.length) (Oa : Ok w Z EL h0 ws vm0 h a) (hp : pc + 1 = pc')
    (k : ∀ T' h', Wk p l e R s m args below meth c Z a0 EL y bytes ml ret w h0 ws vm0 T' h' (locs ++ [⟨a, j.toNatClampNeg⟩]) cells slots → Ev w Z EL vm0 h vm0 h' [a] → Arv Z h' a kc .byte n (vs.set i (.int z.toInt8.toInt32)) dv → Go p e below F T' (mkF m pc' Ls rest)) : Go p e below F T (mkF m pc Ls (.int z :: .int j :: .ref a :: rest)) := by
  subst hp
  obtain ⟨cl, Ar, q1, S, q3, H, G⟩ := A
  obtain ⟨T', h', X', e', W, st⟩ := stB X.st X.hx X.hZ X.hT Ar (inb_of S hj) (g := mkF m pc Ls (.int z :: .int j :: .ref a :: rest)) rfl rfl (hb X.hby hd)
  have V := X.evW W Oa
  exact (k T' h' (X.same X' e' (Fr.snoc X' X.hN Oa.2.1) V (Ok.two Oa.one)) V (Arv.set Ar q1 S q3 H G (fits_nar_byte z) W i hi hlt)).by fun t r => st t r
theorem s_caload {j n z : Int32} {kc : ClassId} {vs : List Value} {dv : Value} (X : Wk p l e R s m args below meth c Z a0 EL y bytes ml ret w h0 ws vm0 T h locs cells slots) (hd : decode bytes pc = .ok (.caload, 1)) (A : Arv Z h a kc .char n vs dv) (hj : ¬ j < 0 ∧ j < n) (hz : vs.getD j.toNatClampNeg dv = .int z) (hp : pc + 1 = pc')
    (k : Go p e below F T (mkF m pc' Ls (.int z :: rest))) : Go p e below F T (mkF m pc Ls (.int j :: .ref a :: rest)) := by
  subst hp
  obtain ⟨cl, Ar, q1, S, q3, H, G⟩ := A
  exact k.by fun t r => X.st.caload X.hx (j := j) (v := .int z) (by rw [X.hT]; exact Ar.1) (State.isArrayOf_alike X.hZ.alike Ar.2.1) Ar.2.2 (inb_of S hj) (H.at (inb_of S hj) hz) (g := mkF m pc Ls (.int j :: .ref a :: rest)) rfl rfl (hb X.hby hd) t r
theorem s_baload {j n z : Int32} {kc : ClassId} {vs : List Value} {dv : Value} (X : Wk p l e R s m args below meth c Z a0 EL y bytes ml ret w h0 ws vm0 T h locs cells slots) (hd : decode bytes pc = .ok (.baload, 1)) (A : Arv Z h a kc .byte n vs dv) (hj : ¬ j < 0 ∧ j < n) (hz : vs.getD j.toNatClampNeg dv = .int z) (hp : pc + 1 = pc')
    (k : Go p e below F T (mkF m pc' Ls (.int z :: rest))) : Go p e below F T (mkF m pc Ls (.int j :: .ref a :: rest)) := by
  subst hp
  obtain ⟨cl, Ar, q1, S, q3, H, G⟩ := A
  exact k.by fun t r => X.st.baloadBytes X.hx (j := j) (v := .int z) (by rw [X.hT]; exact Ar.1) (State.isArrayOf_alike X.hZ.alike Ar.2.1) Ar.2.2 (inb_of S hj) (H.at (inb_of S hj) hz) (g := mkF m pc Ls (.int j :: .ref a :: rest)) rfl rfl (hb X.hby hd) t r
theorem s_arraylength {n : Int32} {kc : ClassId} {ty : FieldType} {vs : List Value} {dv : Value} (X : Wk p l e R s m args below meth c Z a0 EL y bytes ml ret w h0 ws vm0 T h locs cells slots) (hd : decode bytes pc = .ok (.arraylength, 1)) (A : Arv Z h a kc ty n vs dv) (hp : pc + 1 = pc')
    (k : Go p e below F T (mkF m pc' Ls (.int n :: rest))) : Go p e below F T (mkF m pc Ls (.ref a :: rest)) := by
  subst hp
  obtain ⟨cl, Ar, q1, S, q3, H, G⟩ := A
  refine k.by fun t r => X.st.arraylength X.hx (by rw [X.hT]; exact Ar.1) (State.isArrayOf_alike X.hZ.alike Ar.2.1) (g := mkF m pc Ls (.ref a :: rest)) rfl rfl (hb X.hby hd) t ?_
  rw [len_of S q3]; exact r
theorem s_castY {idx : Nat} {K : String} (X : Wk p l e R s m args below meth c Z a0 EL y bytes ml ret w h0 ws vm0 T h locs cells slots) (hd : decode bytes pc = .ok (.checkcast idx, 3)) (w1 : (Jvm.Cond.classLink y.cls idx K).before a0 Z = true) (I : Ins Z h a K true) (hp : pc + 3 = pc')
    (k : ∀ T', Wk p l e R s m args below meth c Z a0 EL y bytes ml ret w h0 ws vm0 T' h locs cells slots → Go p e below F T' (mkF m pc' Ls (.ref a :: rest))) : Go p e below F T (mkF m pc Ls (.ref a :: rest)) := by
  subst hp
  obtain ⟨T', X', e', st⟩ := castY X.st X.hx X.hZ X.hown w1 X.hT I (g := mkF m pc Ls (.ref a :: rest)) rfl rfl (hb X.hby hd)
  exact (k T' (X.same X' e' X.hN X.evR two0)).by fun t r => st t r
theorem s_castNull {idx : Nat} (X : Wk p l e R s m args below meth c Z a0 EL y bytes ml ret w h0 ws vm0 T h locs cells slots) (hd : decode bytes pc = .ok (.checkcast idx, 3)) (hp : pc + 3 = pc') (k : Go p e below F T (mkF m pc' Ls (.null :: rest))) : Go p e below F T (mkF m pc Ls (.null :: rest)) := by
  subst hp
  exact k.by fun t r => X.st.checkcastNull X.hx (g := mkF m pc Ls (.null :: rest)) rfl rfl (hb X.hby hd) t r
theorem s_instY {idx : Nat} {K : String} (X : Wk p l e R s m args below meth c Z a0 EL y bytes ml ret w h0 ws vm0 T h locs cells slots) (hd : decode bytes pc = .ok (.instanceof idx, 3)) (w1 : (Jvm.Cond.classLink y.cls idx K).before a0 Z = true) (I : Ins Z h a K true) (hp : pc + 3 = pc')
    (k : ∀ T', Wk p l e R s m args below meth c Z a0 EL y bytes ml ret w h0 ws vm0 T' h locs cells slots → Go p e below F T' (mkF m pc' Ls (.int 1 :: rest))) : Go p e below F T (mkF m pc Ls (.ref a :: rest)) := by
  subst hp
  obtain ⟨T', X', e', st⟩ := instY X.st X.hx X.hZ X.hown w1 X.hT I (g := mkF m pc Ls (.ref a :: rest)) rfl rfl (hb X.hby hd)
  exact (k T' (X.same X' e' X.hN X.evR two0)).by fun t r => st t r
theorem s_instNull {idx : Nat} (X : Wk p l e R s m args below meth c Z a0 EL y bytes ml ret w h0 ws vm0 T h locs cells slots) (hd : decode bytes pc = .ok (.instanceof idx, 3)) (hp : pc + 3 = pc') (k : Go p e below F T (mkF m pc' Ls (.int 0 :: rest))) : Go p e below F T (mkF m pc Ls (.null :: rest)) := by
  subst hp
  exact k.by fun t r => X.st.instanceofNull X.hx (g := mkF m pc Ls (.null :: rest)) rfl rfl (hb X.hby hd) t r
theorem s_ldcI {idx : Nat} {v : Int32} (X : Wk p l e R s m args below meth c Z a0 EL y bytes ml ret w h0 ws vm0 T h locs cells slots) (hd : decode bytes pc = .ok (.ldc idx, 2)) (w1 : (Jvm.Cond.constant y.cls idx v).before a0 Z = true) (hp : pc + 2 = pc') (k : Go p e below F T (mkF m pc' Ls (.int v :: rest))) : Go p e below F T (mkF m pc Ls rest) := by
  subst hp
  exact k.by fun t r => X.st.ldcI X.hx X.hown (mvT X.hZ w1) (g := mkF m pc Ls rest) rfl (hb X.hby hd) r
theorem s_ldcStr {idx : Nat} {text : String} {vs : List Value} {z : Int32} (hw : w = true) (X : Wk p l e R s m args below meth c Z a0 EL y bytes ml ret w h0 ws vm0 T h locs cells slots) (hd : decode bytes pc = .ok (.ldc idx, 2)) (w1 : (Jvm.Cond.stringLink y.cls idx text).before a0 Z = true) (wS : ∀ a ∈ Bundle.stringAtoms, a.before a0 Z = true) (hmem : (y.cls, idx) ∈ EL)
    (ht : (∀ c ∈ text.toList, c.toNat < 256) ∧ text.toList.map (fun c => Value.int (Jvm.Lit.byteI c.toNat.toUInt16)) = vs) (hz : ¬ z < 0) (hl : z.toNatClampNeg = vs.length) (n : Nat) (hn : 4 * text.toList.length ≤ n) (hbig : n ≤ 536870912) (hc : cells + 2 ≤ R.cells) (hs : slots + (n + 4) ≤ R.slots) (hp : pc + 2 = pc')
    (k : ∀ a b kc vm1 T' h', Wk p l e R s m args below meth c Z a0 EL y bytes ml ret w h0 ws vm1 T' h' locs (cells + 2) (slots + (n + 4)) → Ev w Z EL vm0 h vm1 h' [] → Exa Z h' a "java/lang/String" → Fld Z h' a "java/lang/String" "coder" "B" (.int 0) → Fld Z h' a "java/lang/String" "value" "[B" (.ref b) → Arv Z h' b kc .byte z vs (.int 0) → Go p e below F T' (mkF m pc' Ls (.ref a :: rest))) : Go p e below F T (mkF m pc Ls rest) := by
  subst hp
  obtain ⟨k0, k1, k2⟩ := X.hS
  obtain ⟨a, T', h', kk, b, kc, X', e', E, hS, hk, hZ, ho, q1, q2, q3, q4, -, -, hC, -, -, st⟩ := ldcCH X.st X.hx X.hZ X.hown w1 wS X.hT k1 k2 X.hEW hmem (X.chv hw) ht hz hl (g := mkF m pc Ls rest) rfl (hb X.hby hd) hn hbig hc hs
  have V : Ev w Z EL vm0 h T'.vm h' [] := ⟨(Keep.refl _ _).ext E, fun _ => hC⟩
  exact (k a b kc T'.vm T' h' (X.move X' hZ ho e' ⟨_, hS, hk⟩ (fun q => by rw [hw] at q; cases q) X.hN V two0) V q1 q2 q3 q4).by fun t r => st t r
theorem s_ldcOpaque {idx : Nat} {text : String} (hw : w = true) (X : Wk p l e R s m args below meth c Z a0 EL y bytes ml ret w h0 ws vm0 T h locs cells slots) (hd : decode bytes pc = .ok (.ldc idx, 2)) (w1 : (Jvm.Cond.stringLink y.cls idx text).before a0 Z = true) (wS : ∀ a ∈ Bundle.stringAtoms, a.before a0 Z = true)
    (n : Nat) (hn : 4 * text.toList.length ≤ n) (hbig : n ≤ 536870912) (hc : cells + 2 ≤ R.cells) (hs : slots + (n + 4) ≤ R.slots) (hp : pc + 2 = pc')
    (k : ∀ a vm1 T' h', Wk p l e R s m args below meth c Z a0 EL y bytes ml ret w h0 ws vm1 T' h' locs (cells + 2) (slots + (n + 4)) → Ev w Z EL vm0 h vm1 h' [] → Go p e below F T' (mkF m pc' Ls (.ref a :: rest))) : Go p e below F T (mkF m pc Ls rest) := by
  subst hp
  obtain ⟨k0, k1, k2⟩ := X.hS
  obtain ⟨a, T', h', kk, X', e', E, hS, hk, hZ, ho, hC, -, st⟩ := ldcOH X.st X.hx X.hZ X.hown w1 wS X.hT k1 k2 X.hEW (X.chv hw) (g := mkF m pc Ls rest) rfl (hb X.hby hd) hn hbig hc hs
  have V : Ev w Z EL vm0 h T'.vm h' [] := ⟨(Keep.refl _ _).ext E, fun _ => hC⟩
  exact (k a T'.vm T' h' (X.move X' hZ ho e' ⟨_, hS, hk⟩ (fun q => by rw [hw] at q; cases q) X.hN V two0) V).by fun t r => st t r
/-! plain steps -/
theorem s_aload {k : Nat} {v : Value} (X : Wk p l e R s m args below meth c Z a0 EL y bytes ml ret w h0 ws vm0 T h locs cells slots) (hd : decode bytes pc = .ok (.aload k, 2)) (hl : Ls[k]? = some (.val v)) (hv : v.isRef = true) (hp : pc + 2 = pc') (k : Go p e below F T (mkF m pc' Ls (v :: rest))) : Go p e below F T (mkF m pc Ls (rest)) := by
  subst hp
  exact k.by fun t r => XS.aload X.st.here X.hx rfl (hb X.hby hd) hl hv r
theorem s_iload {k : Nat} {v : Int32} (X : Wk p l e R s m args below meth c Z a0 EL y bytes ml ret w h0 ws vm0 T h locs cells slots) (hd : decode bytes pc = .ok (.iload k, 2)) (hl : Ls[k]? = some (.val (.int v))) (hp : pc + 2 = pc') (k : Go p e below F T (mkF m pc' Ls (.int v :: rest))) : Go p e below F T (mkF m pc Ls (rest)) := by
  subst hp
  exact k.by fun t r => XS.iload X.st.here X.hx rfl (hb X.hby hd) hl r
theorem s_lload {k : Nat} {v : Int64} (X : Wk p l e R s m args below meth c Z a0 EL y bytes ml ret w h0 ws vm0 T h locs cells slots) (hd : decode bytes pc = .ok (.lload k, 2)) (hl : Ls[k]? = some (.val (.long v))) (hp : pc + 2 = pc') (k : Go p e below F T (mkF m pc' Ls (.long v :: rest))) : Go p e below F T (mkF m pc Ls (rest)) := by
  subst hp
  exact k.by fun t r => XT.lload X.st.here X.hx rfl (hb X.hby hd) hl r
theorem s_astore {k : Nat} {v : Value} (X : Wk p l e R s m args below meth c Z a0 EL y bytes ml ret w h0 ws vm0 T h locs cells slots) (hd : decode bytes pc = .ok (.astore k, 2)) (hv : v.isRef = true) (Ls' : Array Slot) (hl : storeLocals Ls k v = some Ls') (hp : pc + 2 = pc') (k : Go p e below F T (mkF m pc' Ls' (rest))) : Go p e below F T (mkF m pc Ls (v :: rest)) := by
  subst hp
  exact k.by fun t r => XS.astore X.st.here X.hx rfl (hb X.hby hd) rfl hv hl r
theorem s_istore {k : Nat} {v : Int32} (X : Wk p l e R s m args below meth c Z a0 EL y bytes ml ret w h0 ws vm0 T h locs cells slots) (hd : decode bytes pc = .ok (.istore k, 2)) (Ls' : Array Slot) (hl : storeLocals Ls k (.int v) = some Ls') (hp : pc + 2 = pc') (k : Go p e below F T (mkF m pc' Ls' (rest))) : Go p e below F T (mkF m pc Ls (.int v :: rest)) := by
  subst hp
  exact k.by fun t r => XS.istore X.st.here X.hx rfl (hb X.hby hd) rfl hl r
theorem s_lstore {k : Nat} {v : Int64} (X : Wk p l e R s m args below meth c Z a0 EL y bytes ml ret w h0 ws vm0 T h locs cells slots) (hd : decode bytes pc = .ok (.lstore k, 2)) (Ls' : Array Slot) (hl : storeLocals Ls k (.long v) = some Ls') (hp : pc + 2 = pc') (k : Go p e below F T (mkF m pc' Ls' (rest))) : Go p e below F T (mkF m pc Ls (.long v :: rest)) := by
  subst hp
  exact k.by fun t r => XT.lstore X.st.here X.hx rfl (hb X.hby hd) rfl hl r
theorem s_aloadN {k : Fin 4} {v : Value} (X : Wk p l e R s m args below meth c Z a0 EL y bytes ml ret w h0 ws vm0 T h locs cells slots) (hd : decode bytes pc = .ok (.aload_n k, 1)) (hl : Ls[k.val]? = some (.val v)) (hv : v.isRef = true) (hp : pc + 1 = pc') (k : Go p e below F T (mkF m pc' Ls (v :: rest))) : Go p e below F T (mkF m pc Ls (rest)) := by
  subst hp
  exact k.by fun t r => XS.aloadN X.st.here X.hx rfl (hb X.hby hd) hl hv r
theorem s_iloadN {k : Fin 4} {v : Int32} (X : Wk p l e R s m args below meth c Z a0 EL y bytes ml ret w h0 ws vm0 T h locs cells slots) (hd : decode bytes pc = .ok (.iload_n k, 1)) (hl : Ls[k.val]? = some (.val (.int v))) (hp : pc + 1 = pc') (k : Go p e below F T (mkF m pc' Ls (.int v :: rest))) : Go p e below F T (mkF m pc Ls (rest)) := by
  subst hp
  exact k.by fun t r => XS.iloadN X.st.here X.hx rfl (hb X.hby hd) hl r
theorem s_lloadN {k : Fin 4} {v : Int64} (X : Wk p l e R s m args below meth c Z a0 EL y bytes ml ret w h0 ws vm0 T h locs cells slots) (hd : decode bytes pc = .ok (.lload_n k, 1)) (hl : Ls[k.val]? = some (.val (.long v))) (hp : pc + 1 = pc') (k : Go p e below F T (mkF m pc' Ls (.long v :: rest))) : Go p e below F T (mkF m pc Ls (rest)) := by
  subst hp
  exact k.by fun t r => XT.lloadN X.st.here X.hx rfl (hb X.hby hd) hl r
theorem s_astoreN {k : Fin 4} {v : Value} (X : Wk p l e R s m args below meth c Z a0 EL y bytes ml ret w h0 ws vm0 T h locs cells slots) (hd : decode bytes pc = .ok (.astore_n k, 1)) (hv : v.isRef = true) (Ls' : Array Slot) (hl : storeLocals Ls k.val v = some Ls') (hp : pc + 1 = pc') (k : Go p e below F T (mkF m pc' Ls' (rest))) : Go p e below F T (mkF m pc Ls (v :: rest)) := by
  subst hp
  exact k.by fun t r => XS.astoreN X.st.here X.hx rfl (hb X.hby hd) rfl hv hl r
theorem s_istoreN {k : Fin 4} {v : Int32} (X : Wk p l e R s m args below meth c Z a0 EL y bytes ml ret w h0 ws vm0 T h locs cells slots) (hd : decode bytes pc = .ok (.istore_n k, 1)) (Ls' : Array Slot) (hl : storeLocals Ls k.val (.int v) = some Ls') (hp : pc + 1 = pc') (k : Go p e below F T (mkF m pc' Ls' (rest))) : Go p e below F T (mkF m pc Ls (.int v :: rest)) := by
  subst hp
  exact k.by fun t r => XS.istoreN X.st.here X.hx rfl (hb X.hby hd) rfl hl r
theorem s_lstoreN {k : Fin 4} {v : Int64} (X : Wk p l e R s m args below meth c Z a0 EL y bytes ml ret w h0 ws vm0 T h locs cells slots) (hd : decode bytes pc = .ok (.lstore_n k, 1)) (Ls' : Array Slot) (hl : storeLocals Ls k.val (.long v) = some Ls') (hp : pc + 1 = pc') (k : Go p e below F T (mkF m pc' Ls' (rest))) : Go p e below F T (mkF m pc Ls (.long v :: rest)) := by
  subst hp
  exact k.by fun t r => XT.lstoreN X.st.here X.hx rfl (hb X.hby hd) rfl hl r
theorem s_iconst {i : Int} (X : Wk p l e R s m args below meth c Z a0 EL y bytes ml ret w h0 ws vm0 T h locs cells slots) (hd : decode bytes pc = .ok (.iconst i, 1)) (v : Int32) (hv : Int32.ofInt i = v) (hp : pc + 1 = pc') (k : Go p e below F T (mkF m pc' Ls (.int v :: rest))) : Go p e below F T (mkF m pc Ls (rest)) := by
  subst hp
  exact k.by fun t r => XT.iconstV X.st.here X.hx rfl v (hb X.hby hd) hv r
theorem s_bipush {i : Int} (X : Wk p l e R s m args below meth c Z a0 EL y bytes ml ret w h0 ws vm0 T h locs cells slots) (hd : decode bytes pc = .ok (.bipush i, 2)) (v : Int32) (hv : (Int8.ofInt i).toInt32 = v) (hp : pc + 2 = pc') (k : Go p e below F T (mkF m pc' Ls (.int v :: rest))) : Go p e below F T (mkF m pc Ls (rest)) := by
  subst hp
  exact k.by fun t r => XT.bipushV X.st.here X.hx rfl v (hb X.hby hd) hv r
theorem s_sipush {i : Int} (X : Wk p l e R s m args below meth c Z a0 EL y bytes ml ret w h0 ws vm0 T h locs cells slots) (hd : decode bytes pc = .ok (.sipush i, 3)) (v : Int32) (hv : (Int16.ofInt i).toInt32 = v) (hp : pc + 3 = pc') (k : Go p e below F T (mkF m pc' Ls (.int v :: rest))) : Go p e below F T (mkF m pc Ls (rest)) := by
  subst hp
  exact k.by fun t r => XT.sipushV X.st.here X.hx rfl v (hb X.hby hd) hv r
theorem s_lconst {k : Fin 2} (X : Wk p l e R s m args below meth c Z a0 EL y bytes ml ret w h0 ws vm0 T h locs cells slots) (hd : decode bytes pc = .ok (.lconst k, 1)) (v : Int64) (hv : Int64.ofNat k = v) (hp : pc + 1 = pc') (k : Go p e below F T (mkF m pc' Ls (.long v :: rest))) : Go p e below F T (mkF m pc Ls (rest)) := by
  subst hp
  exact k.by fun t r => XT.lconstV X.st.here X.hx rfl v (hb X.hby hd) hv r
theorem s_aconst_null (X : Wk p l e R s m args below meth c Z a0 EL y bytes ml ret w h0 ws vm0 T h locs cells slots) (hd : decode bytes pc = .ok (.aconst_null, 1)) (hp : pc + 1 = pc') (k : Go p e below F T (mkF m pc' Ls (.null :: rest))) : Go p e below F T (mkF m pc Ls (rest)) := by
  subst hp
  exact k.by fun t r => XS.aconstNull X.st.here X.hx rfl (hb X.hby hd) r
theorem s_iadd {u v : Int32} (X : Wk p l e R s m args below meth c Z a0 EL y bytes ml ret w h0 ws vm0 T h locs cells slots) (hd : decode bytes pc = .ok (.iadd, 1)) (hp : pc + 1 = pc') (k : Go p e below F T (mkF m pc' Ls (.int (u + v) :: rest))) : Go p e below F T (mkF m pc Ls (.int v :: .int u :: rest)) := by
  subst hp
  exact k.by fun t r => XS.iadd X.st.here X.hx rfl (hb X.hby hd) rfl r
theorem s_isub {u v : Int32} (X : Wk p l e R s m args below meth c Z a0 EL y bytes ml ret w h0 ws vm0 T h locs cells slots) (hd : decode bytes pc = .ok (.isub, 1)) (hp : pc + 1 = pc') (k : Go p e below F T (mkF m pc' Ls (.int (u - v) :: rest))) : Go p e below F T (mkF m pc Ls (.int v :: .int u :: rest)) := by
  subst hp
  exact k.by fun t r => XS.isub X.st.here X.hx rfl (hb X.hby hd) rfl r
theorem s_imul {u v : Int32} (X : Wk p l e R s m args below meth c Z a0 EL y bytes ml ret w h0 ws vm0 T h locs cells slots) (hd : decode bytes pc = .ok (.imul, 1)) (hp : pc + 1 = pc') (k : Go p e below F T (mkF m pc' Ls (.int (u * v) :: rest))) : Go p e below F T (mkF m pc Ls (.int v :: .int u :: rest)) := by
  subst hp
  exact k.by fun t r => XS.imul X.st.here X.hx rfl (hb X.hby hd) rfl r
theorem s_iand {u v : Int32} (X : Wk p l e R s m args below meth c Z a0 EL y bytes ml ret w h0 ws vm0 T h locs cells slots) (hd : decode bytes pc = .ok (.iand, 1)) (hp : pc + 1 = pc') (k : Go p e below F T (mkF m pc' Ls (.int (u &&& v) :: rest))) : Go p e below F T (mkF m pc Ls (.int v :: .int u :: rest)) := by
  subst hp
  exact k.by fun t r => XS.iand X.st.here X.hx rfl (hb X.hby hd) rfl r
theorem s_ior {u v : Int32} (X : Wk p l e R s m args below meth c Z a0 EL y bytes ml ret w h0 ws vm0 T h locs cells slots) (hd : decode bytes pc = .ok (.ior, 1)) (hp : pc + 1 = pc') (k : Go p e below F T (mkF m pc' Ls (.int (u ||| v) :: rest))) : Go p e below F T (mkF m pc Ls (.int v :: .int u :: rest)) := by
  subst hp
  exact k.by fun t r => XT.ior X.st.here X.hx rfl (hb X.hby hd) rfl r
theorem s_ixor {u v : Int32} (X : Wk p l e R s m args below meth c Z a0 EL y bytes ml ret w h0 ws vm0 T h locs cells slots) (hd : decode bytes pc = .ok (.ixor, 1)) (hp : pc + 1 = pc') (k : Go p e below F T (mkF m pc' Ls (.int (u ^^^ v) :: rest))) : Go p e below F T (mkF m pc Ls (.int v :: .int u :: rest)) := by
  subst hp
  exact k.by fun t r => XT.ixor X.st.here X.hx rfl (hb X.hby hd) rfl r
theorem s_ishl {u v : Int32} (X : Wk p l e R s m args below meth c Z a0 EL y bytes ml ret w h0 ws vm0 T h locs cells slots) (hd : decode bytes pc = .ok (.ishl, 1)) (hp : pc + 1 = pc') (k : Go p e below F T (mkF m pc' Ls (.int (u <<< (v &&& 31)) :: rest))) : Go p e below F T (mkF m pc Ls (.int v :: .int u :: rest)) := by
  subst hp
  exact k.by fun t r => XT.ishl X.st.here X.hx rfl (hb X.hby hd) rfl r
theorem s_ishr {u v : Int32} (X : Wk p l e R s m args below meth c Z a0 EL y bytes ml ret w h0 ws vm0 T h locs cells slots) (hd : decode bytes pc = .ok (.ishr, 1)) (hp : pc + 1 = pc') (k : Go p e below F T (mkF m pc' Ls (.int (u >>> (v &&& 31)) :: rest))) : Go p e below F T (mkF m pc Ls (.int v :: .int u :: rest)) := by
  subst hp
  exact k.by fun t r => XT.ishr X.st.here X.hx rfl (hb X.hby hd) rfl r
theorem s_iushr {u v : Int32} (X : Wk p l e R s m args below meth c Z a0 EL y bytes ml ret w h0 ws vm0 T h locs cells slots) (hd : decode bytes pc = .ok (.iushr, 1)) (hp : pc + 1 = pc') (k : Go p e below F T (mkF m pc' Ls (.int (XT.ushr u v) :: rest))) : Go p e below F T (mkF m pc Ls (.int v :: .int u :: rest)) := by
  subst hp
  exact k.by fun t r => XT.iushr X.st.here X.hx rfl (hb X.hby hd) rfl r
theorem s_idiv {u v : Int32} (X : Wk p l e R s m args below meth c Z a0 EL y bytes ml ret w h0 ws vm0 T h locs cells slots) (hd : decode bytes pc = .ok (.idiv, 1)) (hy : v ≠ 0) (hp : pc + 1 = pc') (k : Go p e below F T (mkF m pc' Ls (.int (u / v) :: rest))) : Go p e below F T (mkF m pc Ls (.int v :: .int u :: rest)) := by
  subst hp
  exact k.by fun t r => XS.idiv X.st.here X.hx rfl (hb X.hby hd) rfl hy r
theorem s_irem {u v : Int32} (X : Wk p l e R s m args below meth c Z a0 EL y bytes ml ret w h0 ws vm0 T h locs cells slots) (hd : decode bytes pc = .ok (.irem, 1)) (hy : v ≠ 0) (hp : pc + 1 = pc') (k : Go p e below F T (mkF m pc' Ls (.int (u % v) :: rest))) : Go p e below F T (mkF m pc Ls (.int v :: .int u :: rest)) := by
  subst hp
  exact k.by fun t r => iremM X.st X.hx (g := mkF m pc Ls (.int v :: .int u :: rest)) rfl (hb X.hby hd) rfl hy r
theorem s_ladd {u v : Int64} (X : Wk p l e R s m args below meth c Z a0 EL y bytes ml ret w h0 ws vm0 T h locs cells slots) (hd : decode bytes pc = .ok (.ladd, 1)) (hp : pc + 1 = pc') (k : Go p e below F T (mkF m pc' Ls (.long (u + v) :: rest))) : Go p e below F T (mkF m pc Ls (.long v :: .long u :: rest)) := by
  subst hp
  exact k.by fun t r => XT.ladd X.st.here X.hx rfl (hb X.hby hd) rfl r
theorem s_lsub {u v : Int64} (X : Wk p l e R s m args below meth c Z a0 EL y bytes ml ret w h0 ws vm0 T h locs cells slots) (hd : decode bytes pc = .ok (.lsub, 1)) (hp : pc + 1 = pc') (k : Go p e below F T (mkF m pc' Ls (.long (u - v) :: rest))) : Go p e below F T (mkF m pc Ls (.long v :: .long u :: rest)) := by
  subst hp
  exact k.by fun t r => XT.lsub X.st.here X.hx rfl (hb X.hby hd) rfl r
theorem s_lmul {u v : Int64} (X : Wk p l e R s m args below meth c Z a0 EL y bytes ml ret w h0 ws vm0 T h locs cells slots) (hd : decode bytes pc = .ok (.lmul, 1)) (hp : pc + 1 = pc') (k : Go p e below F T (mkF m pc' Ls (.long (u * v) :: rest))) : Go p e below F T (mkF m pc Ls (.long v :: .long u :: rest)) := by
  subst hp
  exact k.by fun t r => XT.lmul X.st.here X.hx rfl (hb X.hby hd) rfl r
theorem s_land {u v : Int64} (X : Wk p l e R s m args below meth c Z a0 EL y bytes ml ret w h0 ws vm0 T h locs cells slots) (hd : decode bytes pc = .ok (.land, 1)) (hp : pc + 1 = pc') (k : Go p e below F T (mkF m pc' Ls (.long (u &&& v) :: rest))) : Go p e below F T (mkF m pc Ls (.long v :: .long u :: rest)) := by
  subst hp
  exact k.by fun t r => XT.land X.st.here X.hx rfl (hb X.hby hd) rfl r
theorem s_lor {u v : Int64} (X : Wk p l e R s m args below meth c Z a0 EL y bytes ml ret w h0 ws vm0 T h locs cells slots) (hd : decode bytes pc = .ok (.lor, 1)) (hp : pc + 1 = pc') (k : Go p e below F T (mkF m pc' Ls (.long (u ||| v) :: rest))) : Go p e below F T (mkF m pc Ls (.long v :: .long u :: rest)) := by
  subst hp
  exact k.by fun t r => XT.lor X.st.here X.hx rfl (hb X.hby hd) rfl r
theorem s_lxor {u v : Int64} (X : Wk p l e R s m args below meth c Z a0 EL y bytes ml ret w h0 ws vm0 T h locs cells slots) (hd : decode bytes pc = .ok (.lxor, 1)) (hp : pc + 1 = pc') (k : Go p e below F T (mkF m pc' Ls (.long (u ^^^ v) :: rest))) : Go p e below F T (mkF m pc Ls (.long v :: .long u :: rest)) := by
  subst hp
  exact k.by fun t r => XT.lxor X.st.here X.hx rfl (hb X.hby hd) rfl r
theorem s_lrem {u v : Int64} (X : Wk p l e R s m args below meth c Z a0 EL y bytes ml ret w h0 ws vm0 T h locs cells slots) (hd : decode bytes pc = .ok (.lrem, 1)) (hy : v ≠ 0) (hp : pc + 1 = pc') (k : Go p e below F T (mkF m pc' Ls (.long (u - (u / v) * v) :: rest))) : Go p e below F T (mkF m pc Ls (.long v :: .long u :: rest)) := by
  subst hp
  exact k.by fun t r => XT.lrem X.st.here X.hx rfl (hb X.hby hd) rfl hy r
theorem s_lushr {u : Int64} {v : Int32} (X : Wk p l e R s m args below meth c Z a0 EL y bytes ml ret w h0 ws vm0 T h locs cells slots) (hd : decode bytes pc = .ok (.lushr, 1)) (hp : pc + 1 = pc') (k : Go p e below F T (mkF m pc' Ls (.long (XT.ushrL u v) :: rest))) : Go p e below F T (mkF m pc Ls (.int v :: .long u :: rest)) := by
  subst hp
  exact k.by fun t r => XT.lushr X.st.here X.hx rfl (hb X.hby hd) rfl r
theorem s_ineg {u : Int32} (X : Wk p l e R s m args below meth c Z a0 EL y bytes ml ret w h0 ws vm0 T h locs cells slots) (hd : decode bytes pc = .ok (.ineg, 1)) (hp : pc + 1 = pc') (k : Go p e below F T (mkF m pc' Ls (.int (-u) :: rest))) : Go p e below F T (mkF m pc Ls (.int u :: rest)) := by
  subst hp
  exact k.by fun t r => XS.ineg X.st.here X.hx rfl (hb X.hby hd) rfl r
theorem s_i2l {u : Int32} (X : Wk p l e R s m args below meth c Z a0 EL y bytes ml ret w h0 ws vm0 T h locs cells slots) (hd : decode bytes pc = .ok (.i2l, 1)) (hp : pc + 1 = pc') (k : Go p e below F T (mkF m pc' Ls (.long (u.toInt64) :: rest))) : Go p e below F T (mkF m pc Ls (.int u :: rest)) := by
  subst hp
  exact k.by fun t r => XT.i2l X.st.here X.hx rfl (hb X.hby hd) rfl r
theorem s_l2i {u : Int64} (X : Wk p l e R s m args below meth c Z a0 EL y bytes ml ret w h0 ws vm0 T h locs cells slots) (hd : decode bytes pc = .ok (.l2i, 1)) (hp : pc + 1 = pc') (k : Go p e below F T (mkF m pc' Ls (.int (u.toInt32) :: rest))) : Go p e below F T (mkF m pc Ls (.long u :: rest)) := by
  subst hp
  exact k.by fun t r => XT.l2i X.st.here X.hx rfl (hb X.hby hd) rfl r
theorem s_i2b {u : Int32} (X : Wk p l e R s m args below meth c Z a0 EL y bytes ml ret w h0 ws vm0 T h locs cells slots) (hd : decode bytes pc = .ok (.i2b, 1)) (hp : pc + 1 = pc') (k : Go p e below F T (mkF m pc' Ls (.int (u.toInt8.toInt32) :: rest))) : Go p e below F T (mkF m pc Ls (.int u :: rest)) := by
  subst hp
  exact k.by fun t r => XT.i2b X.st.here X.hx rfl (hb X.hby hd) rfl r
theorem s_i2s {u : Int32} (X : Wk p l e R s m args below meth c Z a0 EL y bytes ml ret w h0 ws vm0 T h locs cells slots) (hd : decode bytes pc = .ok (.i2s, 1)) (hp : pc + 1 = pc') (k : Go p e below F T (mkF m pc' Ls (.int (u.toInt16.toInt32) :: rest))) : Go p e below F T (mkF m pc Ls (.int u :: rest)) := by
  subst hp
  exact k.by fun t r => XT.i2s X.st.here X.hx rfl (hb X.hby hd) rfl r
theorem s_i2c {u : Int32} (X : Wk p l e R s m args below meth c Z a0 EL y bytes ml ret w h0 ws vm0 T h locs cells slots) (hd : decode bytes pc = .ok (.i2c, 1)) (hp : pc + 1 = pc') (k : Go p e below F T (mkF m pc' Ls (.int (u.toUInt32.toUInt16.toUInt32.toInt32) :: rest))) : Go p e below F T (mkF m pc Ls (.int u :: rest)) := by
  subst hp
  exact k.by fun t r => XT.i2c X.st.here X.hx rfl (hb X.hby hd) rfl r
theorem s_dup {v : Value} (X : Wk p l e R s m args below meth c Z a0 EL y bytes ml ret w h0 ws vm0 T h locs cells slots) (hd : decode bytes pc = .ok (.dup, 1)) (hc : v.category = 1) (hp : pc + 1 = pc') (k : Go p e below F T (mkF m pc' Ls (v :: v :: rest))) : Go p e below F T (mkF m pc Ls (v :: rest)) := by
  subst hp
  exact k.by fun t r => XS.dup X.st.here X.hx rfl (hb X.hby hd) rfl hc r
theorem s_pop {v : Value} (X : Wk p l e R s m args below meth c Z a0 EL y bytes ml ret w h0 ws vm0 T h locs cells slots) (hd : decode bytes pc = .ok (.pop, 1)) (hc : v.category = 1) (hp : pc + 1 = pc') (k : Go p e below F T (mkF m pc' Ls (rest))) : Go p e below F T (mkF m pc Ls (v :: rest)) := by
  subst hp
  exact k.by fun t r => XT.pop X.st.here X.hx rfl (hb X.hby hd) rfl hc r
theorem s_dup_x1 {u v : Value} (X : Wk p l e R s m args below meth c Z a0 EL y bytes ml ret w h0 ws vm0 T h locs cells slots) (hd : decode bytes pc = .ok (.dup_x1, 1)) (hc : u.category = 1) (hc' : v.category = 1) (hp : pc + 1 = pc') (k : Go p e below F T (mkF m pc' Ls (u :: v :: u :: rest))) : Go p e below F T (mkF m pc Ls (u :: v :: rest)) := by
  subst hp
  exact k.by fun t r => XT.dupX1 X.st.here X.hx rfl (hb X.hby hd) rfl hc hc' r
theorem s_iinc {k : Nat} {cst : Int} {u : Int32} (X : Wk p l e R s m args below meth c Z a0 EL y bytes ml ret w h0 ws vm0 T h locs cells slots) (hd : decode bytes pc = .ok (.iinc k cst, 3)) (v : Int32) (hv : Int32.ofInt cst = v) (hl : Ls[k]? = some (.val (.int u))) (Ls' : Array Slot) (hl' : storeLocals Ls k (.int (u + v)) = some Ls') (hp : pc + 3 = pc') (k : Go p e below F T (mkF m pc' Ls' (rest))) : Go p e below F T (mkF m pc Ls (rest)) := by
  subst hp
  exact k.by fun t r => XT.iincV X.st.here X.hx rfl v (hb X.hby hd) hv hl hl' r
theorem s_goto {o : Int} (X : Wk p l e R s m args below meth c Z a0 EL y bytes ml ret w h0 ws vm0 T h locs cells slots) (hd : decode bytes pc = .ok (.goto o, 3)) (ho : 0 ≤ (pc : Int) + o) (hp : ((pc : Int) + o).toNat = pc') (k : Go p e below F T (mkF m pc' Ls rest)) : Go p e below F T (mkF m pc Ls (rest)) :=
  k.by fun t r => XS.goto X.st.here X.hx rfl (pc0 := pc) rfl (hb X.hby hd) ho hp r
theorem s_ifT {cd : ClassFile.Cond} {u : Int32} {o : Int} (X : Wk p l e R s m args below meth c Z a0 EL y bytes ml ret w h0 ws vm0 T h locs cells slots) (hd : decode bytes pc = .ok (.ifCond cd o, 3)) (hc : ifCond.holds cd u = true) (ho : 0 ≤ (pc : Int) + o) (hp : ((pc : Int) + o).toNat = pc') (k : Go p e below F T (mkF m pc' Ls rest)) : Go p e below F T (mkF m pc Ls (.int u :: rest)) :=
  k.by fun t r => XS.ifYes X.st.here X.hx rfl (pc0 := pc) rfl (hb X.hby hd) rfl hc ho hp r
theorem s_ifF {cd : ClassFile.Cond} {u : Int32} {o : Int} (X : Wk p l e R s m args below meth c Z a0 EL y bytes ml ret w h0 ws vm0 T h locs cells slots) (hd : decode bytes pc = .ok (.ifCond cd o, 3)) (hc : ifCond.holds cd u = false) (hp : pc + 3 = pc') (k : Go p e below F T (mkF m pc' Ls rest)) : Go p e below F T (mkF m pc Ls (.int u :: rest)) := by
  subst hp
  exact k.by fun t r => XS.ifNo X.st.here X.hx rfl (hb X.hby hd) rfl hc r
theorem s_icmpT {cd : ClassFile.Cond} {u v : Int32} {o : Int} (X : Wk p l e R s m args below meth c Z a0 EL y bytes ml ret w h0 ws vm0 T h locs cells slots) (hd : decode bytes pc = .ok (.if_icmp cd o, 3)) (hc : if_icmp.holds cd u v = true) (ho : 0 ≤ (pc : Int) + o) (hp : ((pc : Int) + o).toNat = pc') (k : Go p e below F T (mkF m pc' Ls rest)) : Go p e below F T (mkF m pc Ls (.int v :: .int u :: rest)) :=
  k.by fun t r => XS.icmpYes X.st.here X.hx rfl (pc0 := pc) rfl (hb X.hby hd) rfl hc ho hp r
theorem s_icmpF {cd : ClassFile.Cond} {u v : Int32} {o : Int} (X : Wk p l e R s m args below meth c Z a0 EL y bytes ml ret w h0 ws vm0 T h locs cells slots) (hd : decode bytes pc = .ok (.if_icmp cd o, 3)) (hc : if_icmp.holds cd u v = false) (hp : pc + 3 = pc') (k : Go p e below F T (mkF m pc' Ls rest)) : Go p e below F T (mkF m pc Ls (.int v :: .int u :: rest)) := by
  subst hp
  exact k.by fun t r => XS.icmpNo X.st.here X.hx rfl (hb X.hby hd) rfl hc r
theorem s_ifnullT {o : Int} (X : Wk p l e R s m args below meth c Z a0 EL y bytes ml ret w h0 ws vm0 T h locs cells slots) (hd : decode bytes pc = .ok (.ifnull o, 3)) (ho : 0 ≤ (pc : Int) + o) (hp : ((pc : Int) + o).toNat = pc') (k : Go p e below F T (mkF m pc' Ls rest)) : Go p e below F T (mkF m pc Ls (.null :: rest)) :=
  k.by fun t r => XS.ifnullYes X.st.here X.hx rfl (pc0 := pc) rfl (hb X.hby hd) rfl ho hp r
theorem s_ifnullF {o : Int} (X : Wk p l e R s m args below meth c Z a0 EL y bytes ml ret w h0 ws vm0 T h locs cells slots) (hd : decode bytes pc = .ok (.ifnull o, 3)) (hp : pc + 3 = pc') (k : Go p e below F T (mkF m pc' Ls rest)) : Go p e below F T (mkF m pc Ls (.ref a :: rest)) := by
  subst hp
  exact k.by fun t r => XS.ifnullNo X.st.here X.hx rfl (hb X.hby hd) rfl r
theorem s_ifnonnullT {o : Int} (X : Wk p l e R s m args below meth c Z a0 EL y bytes ml ret w h0 ws vm0 T h locs cells slots) (hd : decode bytes pc = .ok (.ifnonnull o, 3)) (ho : 0 ≤ (pc : Int) + o) (hp : ((pc : Int) + o).toNat = pc') (k : Go p e below F T (mkF m pc' Ls rest)) : Go p e below F T (mkF m pc Ls (.ref a :: rest)) :=
  k.by fun t r => XT.ifnonnullYes X.st.here X.hx rfl (pc0 := pc) rfl (hb X.hby hd) rfl ho hp r
theorem s_ifnonnullF {o : Int} (X : Wk p l e R s m args below meth c Z a0 EL y bytes ml ret w h0 ws vm0 T h locs cells slots) (hd : decode bytes pc = .ok (.ifnonnull o, 3)) (hp : pc + 3 = pc') (k : Go p e below F T (mkF m pc' Ls rest)) : Go p e below F T (mkF m pc Ls (.null :: rest)) := by
  subst hp
  exact k.by fun t r => XT.ifnonnullNo X.st.here X.hx rfl (hb X.hby hd) rfl r
theorem s_acmpT {cd : ClassFile.ACond} {u v : Value} {o : Int} (X : Wk p l e R s m args below meth c Z a0 EL y bytes ml ret w h0 ws vm0 T h locs cells slots) (hd : decode bytes pc = .ok (.if_acmp cd o, 3)) (hu : u.isRef = true) (hv : v.isRef = true) (hc : XT.acmp cd u v = true) (ho : 0 ≤ (pc : Int) + o) (hp : ((pc : Int) + o).toNat = pc') (k : Go p e below F T (mkF m pc' Ls rest)) : Go p e below F T (mkF m pc Ls (v :: u :: rest)) :=
  k.by fun t r => XT.acmpYes X.st.here X.hx rfl (pc0 := pc) rfl (hb X.hby hd) rfl hu hv hc ho hp r
theorem s_acmpF {cd : ClassFile.ACond} {u v : Value} {o : Int} (X : Wk p l e R s m args below meth c Z a0 EL y bytes ml ret w h0 ws vm0 T h locs cells slots) (hd : decode bytes pc = .ok (.if_acmp cd o, 3)) (hu : u.isRef = true) (hv : v.isRef = true) (hc : XT.acmp cd u v = false) (hp : pc + 3 = pc') (k : Go p e below F T (mkF m pc' Ls rest)) : Go p e below F T (mkF m pc Ls (v :: u :: rest)) := by
  subst hp
  exact k.by fun t r => XT.acmpNo X.st.here X.hx rfl (hb X.hby hd) rfl hu hv hc r
end Own
end Own
namespace Own
theorem narR {t : FieldType} (ht : t.isReference = true) (v : Value) : narrow t v = v := by cases t <;> first | rfl | cases ht
theorem fitR {t : FieldType} (ht : t.isReference = true) {v : Value} (hv : v.isRef = true) : fits t v = true := by
  rcases ref_cases hv with rfl | ⟨a, rfl⟩ <;> cases t <;> first | rfl | cases ht
end Own

namespace Own
section Str0
variable {p : Program} {l : Launch} {e : Env} {R : Room} {s : State} {m : MethodId} {args : Array Value} {below : List Frame} {meth : Method} {c : Code} {Z : State} {a0 : Array Value} {EL : List (String × Nat)} {y : MethodName} {bytes : ByteArray} {ml : Nat} {ret : Option FieldType} {w : Bool} {h0 : Heap} {ws ws' : List Addr} {vm0 vm1 : Vm} {T T' : State} {h h' h1 : Heap} {locs locs' : List Loc} {cells slots cells' slots' : Nat} {F : State → Option Value → Prop} {pc pc' : Nat} {Ls Ls' : Array Slot} {rest : List Value} {a b x : Addr}
/-- a char that Latin-1 holds -/
def Lat (z : Int32) : Prop := ¬ z < 0 ∧ ¬ (255 : Int32) < z
def lo (z : Int32) : Int32 := z.toInt8.toInt32
theorem lat_mask (x : Int32) : Lat (x &&& (255 : Int32)) := by
  have q := c_and x 255 (by decide)
  have e2 : (255 : Int32).toInt = 255 := by decide
  refine ⟨fun r => ?_, fun r => ?_⟩
  · rw [Int32.lt_iff_toInt_lt] at r; have e1 : (0 : Int32).toInt = 0 := by decide
    omega
  · rw [Int32.lt_iff_toInt_lt] at r; omega
theorem nar_mask (x : Int32) : nar .char (x &&& (255 : Int32)) = (x &&& (255 : Int32)) := i2c_mask x
theorem lat_eq {z : Int32} (q : Lat z) : z &&& 255 = z := by
  have h1 := c_mask z 255 8 (by decide) (by decide)
  have e1 : (0 : Int32).toInt = 0 := by decide
  have e2 : (255 : Int32).toInt = 255 := by decide
  have q1 := q.1; have q2 := q.2
  rw [Int32.lt_iff_toInt_lt] at q1 q2
  apply Int32.toInt_inj.mp
  rw [h1]; omega
theorem nar_chr {z : Int32} (q : Lat z) : nar .char z = z := by
  have e := lat_eq q
  have r := nar_mask z
  rw [e] at r; exact r
theorem i2c_chr {z : Int32} (q : Lat z) : z.toUInt32.toUInt16.toUInt32.toInt32 = z := nar_chr q
theorem s_i2cM {u : Int32} (X : Wk p l e R s m args below meth c Z a0 EL y bytes ml ret w h0 ws vm0 T h locs cells slots) (hd : decode bytes pc = .ok (.i2c, 1)) (hp : pc + 1 = pc') (k : Go p e below F T (mkF m pc' Ls (.int (u &&& (255 : Int32)) :: rest))) : Go p e below F T (mkF m pc Ls (.int (u &&& (255 : Int32)) :: rest)) :=
  s_i2c X hd hp (by rw [i2c_mask]; exact k)
theorem s_i2cR {u : Int32} (X : Wk p l e R s m args below meth c Z a0 EL y bytes ml ret w h0 ws vm0 T h locs cells slots) (hd : decode bytes pc = .ok (.i2c, 1)) (q : Lat u) (hp : pc + 1 = pc') (k : Go p e below F T (mkF m pc' Ls (.int u :: rest))) : Go p e below F T (mkF m pc Ls (.int u :: rest)) :=
  s_i2c X hd hp (by rw [i2c_chr q]; exact k)
theorem s_castoreR {j z n : Int32} {kc : ClassId} {vs : List Value} {dv : Value} (X : Wk p l e R s m args below meth c Z a0 EL y bytes ml ret w h0 ws vm0 T h locs cells slots) (hd : decode bytes pc = .ok (.castore, 1)) (A : Arv Z h a kc .char n vs dv) (hj : ¬ j < 0 ∧ j < n) (i : Nat) (hi : j.toNatClampNeg = i) (hlt : i < vs.length) (hz : nar .char z = z) (Oa : Ok w Z EL h0 ws vm0 h a) (hp : pc + 1 = pc')
    (k : ∀ T' h', Wk p l e R s m args below meth c Z a0 EL y bytes ml ret w h0 ws vm0 T' h' (locs ++ [⟨a, j.toNatClampNeg⟩]) cells slots → Ev w Z EL vm0 h vm0 h' [a] → Arv Z h' a kc .char n (vs.set i (.int z)) dv → Go p e below F T' (mkF m pc' Ls rest)) : Go p e below F T (mkF m pc Ls (.int z :: .int j :: .ref a :: rest)) :=
  s_castore X hd A hj i hi hlt Oa hp (by rw [hz]; exact k)
/-- a String of Latin-1 chars -/
def Str (Z : State) (h : Heap) (a : Addr) (cs : List Int32) : Prop := (∀ c ∈ cs, Lat c) ∧ cs.length ≤ 4000 ∧ Exa Z h a "java/lang/String" ∧ Fld Z h a "java/lang/String" "coder" "B" (.int 0) ∧ ∃ (t : Addr) (kb : ClassId), Fld Z h a "java/lang/String" "value" "[B" (.ref t) ∧ Arv Z h t kb .byte (Int32.ofNat cs.length) ((cs.map lo).map Value.int) (.int 0)
theorem Str.ext {cs : List Int32} (S : Str Z h a cs) (E : Ext h h') : Str Z h' a cs := by
  obtain ⟨h1, h2, h3, h4, t, kb, h5, h6⟩ := S; exact ⟨h1, h2, h3.ext E, h4.ext E, t, kb, h5.ext E, h6.ext E⟩
theorem Str.exa {cs : List Int32} (S : Str Z h a cs) : Exa Z h a "java/lang/String" := S.2.2.1
theorem Str.lt {cs : List Int32} (S : Str Z h a cs) : a < h.size := S.exa.lt
theorem Str.mk {cs : List Int32} {t : Addr} {kb : ClassId} {z : Int32} {vs : List Value} (h1 : (∀ c ∈ cs, Lat c) ∧ (cs.map lo).map Value.int = vs) (h2 : cs.length ≤ 4000 ∧ z = Int32.ofNat cs.length) (E : Exa Z h a "java/lang/String") (C : Fld Z h a "java/lang/String" "coder" "B" (.int 0)) (V : Fld Z h a "java/lang/String" "value" "[B" (.ref t)) (A : Arv Z h t kb .byte z vs (.int 0)) : Str Z h a cs := by
  obtain ⟨q1, rfl⟩ := h1
  obtain ⟨q2, rfl⟩ := h2
  exact ⟨q1, q2, E, C, t, kb, V, A⟩
instance (z : Int32) : Decidable (Lat z) := inferInstanceAs (Decidable (_ ∧ _))
theorem up65 {cs : List Int32} (hq : ∀ c ∈ cs, Lat c) : ∀ c ∈ cs, ¬ c < 0 ∧ ¬ (65535 : Int32) < c := fun c hc => ⟨(hq c hc).1, fun q => (hq c hc).2 (by rw [Int32.lt_iff_toInt_lt] at q ⊢; have e1 : (65535 : Int32).toInt = 65535 := rfl; have e2 : (255 : Int32).toInt = 255 := rfl; omega)⟩
theorem lolo (z : Int32) : z.toInt8.toInt32.toInt8.toInt32 = lo z := by simp [lo]
/-- a String of one char, by its byte -/
theorem str1 {z : Int32} {t : Addr} {kb : ClassId} (hz : Lat z) (E : Exa Z h a "java/lang/String") (C : Fld Z h a "java/lang/String" "coder" "B" (.int 0)) (V : Fld Z h a "java/lang/String" "value" "[B" (.ref t)) (A : Arv Z h t kb .byte (1 : Int32) [(.int z.toInt8.toInt32.toInt8.toInt32)] (.int (0 : Int32))) : Str Z h a [z] := by
  rw [lolo] at A
  exact ⟨fun c hc => by cases List.mem_singleton.mp hc; exact hz, Nat.le_of_ble_eq_true rfl, E, C, t, kb, V, A⟩
/-- an object of another class is written: the String stands as it stood -/
theorem Str.keepE {cs : List Int32} {C : String} {n : Nat} (S : Str Z h a cs) (K : Keep h h' [x]) (E : Exa Z h x C) (hC : C ≠ "java/lang/String") (wi : (Jvm.Cond.instantiable C n).before a0 Z = true) : Str Z h' a cs := by
  obtain ⟨h1, h2, h3, h4, t, kb, h5, h6⟩ := S
  have n1 : a ∉ [x] := ninS (Ne.symm (Exa.ne E h3 hC)) nin0
  have n2 : t ∉ [x] := ninS (Ne.symm (Exa.neArv E h6 wi)) nin0
  exact ⟨h1, h2, h3.keep K, h4.keep K n1, t, kb, h5.keep K n1, h6.keep K n2⟩
/-- a value that is null, or a String of these chars -/
def NStr (Z : State) (h : Heap) (u : Value) : Option (List Int32) → Prop
  | none => u = .null
  | some cs => ∃ r, u = .ref r ∧ Str Z h r cs
theorem NStr.ext {u : Value} {o : Option (List Int32)} (S : NStr Z h u o) (E : Ext h h') : NStr Z h' u o := by
  cases o with
  | none => exact S
  | some cs => obtain ⟨r, e, q⟩ := S; exact ⟨r, e, q.ext E⟩
theorem NStr.keepE {u : Value} {o : Option (List Int32)} {C : String} {n : Nat} (S : NStr Z h u o) (K : Keep h h' [x]) (E : Exa Z h x C) (hC : C ≠ "java/lang/String") (wi : (Jvm.Cond.instantiable C n).before a0 Z = true) : NStr Z h' u o := by
  cases o with
  | none => exact S
  | some cs => obtain ⟨r, e, q⟩ := S; exact ⟨r, e, q.keepE K E hC wi⟩
theorem NStr.isRef {u : Value} {o : Option (List Int32)} (S : NStr Z h u o) : u.isRef = true := by
  cases o with
  | none => cases S; rfl
  | some cs => obtain ⟨r, rfl, q⟩ := S; rfl
theorem NStr.cases {u : Value} {o : Option (List Int32)} (S : NStr Z h u o) : (u = .null ∧ o = none) ∨ ∃ r cs, u = .ref r ∧ o = some cs ∧ Str Z h r cs := by
  cases o with
  | none => exact Or.inl ⟨S, rfl⟩
  | some cs => obtain ⟨r, e, q⟩ := S; exact Or.inr ⟨r, cs, e, rfl, q⟩
end Str0
end Own
namespace Own
section Own2
variable {p : Program} {l : Launch} {e : Env} {R : Room} {s : State} {m : MethodId} {args : Array Value} {below : List Frame} {meth : Method} {c : Code} {Z : State} {a0 : Array Value} {EL : List (String × Nat)} {y : MethodName} {bytes : ByteArray} {ml : Nat} {ret : Option FieldType} {w : Bool} {h0 : Heap} {ws ws' : List Addr} {vm0 vm1 : Vm} {T T' : State} {h h' h1 : Heap} {locs locs' : List Loc} {cells slots cells' slots' : Nat} {F : State → Option Value → Prop} {pc pc' : Nat} {Ls Ls' : Array Slot} {rest : List Value} {a b x : Addr}
/-- System.arraycopy between two arrays of one plain kind -/
theorem s_arraycopy {idx : Nat} {k k' : ClassId} {ty : FieldType} {z z' sp dp nn : Int32} {vs vd us vd' : List Value} {dv dd : Value} (X : Wk p l e R s m args below meth c Z a0 EL y bytes ml ret w h0 ws vm0 T h locs cells slots) (hd : decode bytes pc = .ok (.invokestatic idx, 3)) (w1 : (Jvm.Cond.methodLink y.cls idx Jvm.Stand.acN).before a0 Z = true) (w2 : (Jvm.Cond.native Jvm.Stand.acN).before a0 Z = true) (w3 : (Jvm.Cond.static Jvm.Stand.acN).before a0 Z = true) (w4 : (Jvm.Cond.initialized "java/lang/System").before a0 Z = true)
    (A : Arv Z h a k ty z vs dv) (B : Arv Z h b k' ty z' vd dd) (hty : refKind ty = false) (h1 : ¬ sp < 0) (h2 : ¬ dp < 0) (h3 : ¬ nn < 0) (h4 : sp.toNatClampNeg + nn.toNatClampNeg ≤ z.toNatClampNeg) (h5 : dp.toNatClampNeg + nn.toNatClampNeg ≤ z'.toNatClampNeg)
    (hus : us = (List.range nn.toNatClampNeg).map fun i => vs.getD (sp.toNatClampNeg + i) dv) (hl : dp.toNatClampNeg + nn.toNatClampNeg ≤ vd.length) (hvd : vd.take dp.toNatClampNeg ++ us ++ vd.drop (dp.toNatClampNeg + nn.toNatClampNeg) = vd') (Ob : Ok w Z EL h0 ws vm0 h b)
    (hsz : Ls.size = ml) (W : Nat) (hW : (rest.map fun v => v.category).sum ≤ W) (hf : 1 ≤ R.frames) (hlo : W + (nativeFrameWords "java/lang/System" "arraycopy" 5 + 11) ≤ R.locals) (hp : pc + 3 = pc')
    (kk : ∀ T' h' L, Wk p l e R s m args below meth c Z a0 EL y bytes ml ret w h0 ws vm0 T' h' L cells slots → Ev w Z EL vm0 h vm0 h' [b] → Arv Z h' b k' ty z' vd' dd → Go p e below F T' (mkF m pc' Ls rest)) : Go p e below F T (mkF m pc Ls (.int nn :: .int dp :: .ref b :: .int sp :: .ref a :: rest)) := by
  subst hp hvd
  obtain ⟨T', h', L, X', e', N, K, A', st⟩ := cpA X.st X.hx X.hZ X.hown w1 w2 w3 w4 X.hT A B (Or.inl ⟨rfl, hty⟩) h1 h2 h3 h4 h5 hus hl X.hN Ob.2.1 (g := mkF m pc Ls (.int nn :: .int dp :: .ref b :: .int sp :: .ref a :: rest)) rfl (hsz.trans X.hml.symm) rfl (hb X.hby hd) hf (W := W) (by show 2 * 0 + _ ≤ _; omega) hlo
  have V := X.evK K Ob.one
  exact (kk T' h' L (X.same X' e' N V (Ok.two Ob.one)) V A').by fun t r => st t r
theorem lo_inj {u v : Int32} (hu : Lat u) (hv : Lat v) (h : lo u = lo v) : u = v := by
  have e : ∀ {z : Int32}, Lat z → (lo z).toInt % 256 = z.toInt := fun {z} q => by
    have h1 := (c_i2b z).1
    have q1 := q.1; have q2 := q.2
    rw [Int32.lt_iff_toInt_lt] at q1 q2
    have e1 : (0 : Int32).toInt = 0 := by decide
    have e2 : (255 : Int32).toInt = 255 := by decide
    simp only [lo]
    omega
  apply Int32.toInt_inj.mp
  rw [← e hu, ← e hv, h]
/-- what stands before the first ch -/
def tw : List Int32 → Int32 → List Int32
  | [], _ => []
  | c :: r, ch => if c = ch then [] else c :: tw r ch
theorem tw_nil (ch : Int32) : tw [] ch = [] := rfl
theorem tw_hit {c ch : Int32} {r : List Int32} (h : c = ch) : tw (c :: r) ch = [] := by simp [tw, h]
theorem tw_miss {c ch : Int32} {r : List Int32} (h : ¬ c = ch) : tw (c :: r) ch = c :: tw r ch := by simp [tw, h]
theorem ofNat_toNat {n : Nat} (h : n < 2147483648) : (Int32.ofNat n).toNatClampNeg = n := by
  have hz : (Int32.size : Int) = 4294967296 := by decide
  have h1 : (Int32.ofNat n).toInt = n := by
    rw [Int32.toInt_ofNat']; exact Int.bmod_eq_of_le (by omega) (by omega)
  simp only [Int32.toNatClampNeg, h1]; omega
theorem ofNat_toInt {n : Nat} (h : n < 2147483648) : (Int32.ofNat n).toInt = n := by
  have hz : (Int32.size : Int) = 4294967296 := by decide
  rw [Int32.toInt_ofNat']; exact Int.bmod_eq_of_le (by omega) (by omega)
theorem ofNat_lt {i n : Nat} (hi : i < 2147483648) (hn : n < 2147483648) : Int32.ofNat i < Int32.ofNat n ↔ i < n := by
  rw [Int32.lt_iff_toInt_lt, ofNat_toInt hi, ofNat_toInt hn]; omega
theorem ofNat_nneg {n : Nat} (h : n < 2147483648) : ¬ Int32.ofNat n < 0 := by
  rw [Int32.lt_iff_toInt_lt, ofNat_toInt h]; have e1 : (0 : Int32).toInt = 0 := by decide
  omega
theorem ofNat_succ (n : Nat) : Int32.ofNat n + 1 = Int32.ofNat (n + 1) := by
  apply Int32.toInt_inj.mp
  rw [Int32.toInt_add, Int32.toInt_ofNat', Int32.toInt_ofNat']
  have e1 : (1 : Int32).toInt = 1 := by decide
  rw [e1]
  simp
end Own2
end Own

namespace Own
theorem latN : ∀ c ∈ ([] : List Int32), Lat c := fun _ q => nomatch q
theorem latL {z : Int32} {L : List Int32} (q : Lat z) (r : ∀ c ∈ L, Lat c) : ∀ c ∈ z :: L, Lat c := fun c hc => (List.mem_cons.mp hc).elim (fun e => e ▸ q) (r c)
end Own
namespace Own
section Str1
variable {p : Program} {l : Launch} {e : Env} {R : Room} {s : State} {args : Array Value} {below : List Frame} {Z : State} {a0 : Array Value} {h h' h1 : Heap} {rest : List Value} {a b x : Addr} {len W : Nat} {cs ds : List Int32}
/-- new String(chars) -/
theorem strNew {kC : ClassId} {d v0 c0 : Value} {z N : Int32} {n : Nat} (hZ : Z.Warmed39 s.vm) (hws : ∀ d ∈ StrChars.Road.words, d.before a0 Z = true) (wi : (Jvm.Cond.instantiable "java/lang/String" 4).before a0 Z = true) (hx0 : Z.heap.size ≤ x) (hh0 : Z.heap.size ≤ h.size) (E : Exa Z h x "java/lang/String") (V : Fld Z h x "java/lang/String" "value" "[B" v0) (C : Fld Z h x "java/lang/String" "coder" "B" c0) (K : Arv Z h b kC .char N (cs.map Value.int) d) (S : Sta Z h "java/lang/String" "COMPACT_STRINGS" "Z" (.int z)) (hz : ¬ z = 0)
    (hn : cs.length = n) (hN : N = Int32.ofNat n) (l0 : 0 < n) (l2 : n ≤ 4000) (hp : ∀ c ∈ cs, Lat c) (hfr : 4 ≤ R.frames) (hlo : W + 65 ≤ R.locals) :
    Back l R p e below s args (⟨"java/lang/String", "<init>", "([C)V"⟩ : MethodName) len W (fun P a => a = #[.ref x, .ref b] ∧ P.U.heap = h ∧ P.cells + 1 ≤ R.cells ∧ P.slots + n ≤ R.slots)
      (fun P _ v B => ∃ L, StrChars.Road.QV Z x N (cs.map fun c => c.toInt8.toInt32) h Z.heap.size v B.U.heap L ∧ B.locs = P.locs ++ L ∧ B.cells = P.cells + 1 ∧ B.slots = P.slots + n) :=
  StrChars.Road.backV hZ hws wi hx0 hh0 E V C K S hz hn hN l0 l2 hp rfl hfr hlo
theorem strNewQ {N : Int32} {n : Nat} {v : Option Value} {L : List Loc} (hn : cs.length = n) (hN : N = Int32.ofNat n) (l2 : n ≤ 4000) (hp : ∀ c ∈ cs, Lat c) (q : StrChars.Road.QV Z x N (cs.map fun c => c.toInt8.toInt32) h Z.heap.size v h' L) : Fr Z.heap.size L ∧ Keep h h' [x] ∧ (v = none ∧ Str Z h' x cs) := by
  obtain ⟨q1, q2, q3, q4, q5, t, kb, -, -, -, q6, q7⟩ := q
  subst hn hN
  exact ⟨q2, q3, q1, hp, l2, q4, q5, t, kb, q6, q7⟩
theorem strLen {z : Int32} (hZ : Z.Warmed39 s.vm) (hws : ∀ d ∈ StrChars.Road.wordsLen, d.before a0 Z = true) (wi : (Jvm.Cond.instantiable "java/lang/String" 4).before a0 Z = true) (T : Str Z h x cs) (S : Sta Z h "java/lang/String" "COMPACT_STRINGS" "Z" (.int z)) (hz : ¬ z = 0) (hfr : 2 ≤ R.frames) (hlo : W + 25 ≤ R.locals) :
    Back l R p e below s args (⟨"java/lang/String", "length", "()I"⟩ : MethodName) len W (fun P a => a = #[.ref x] ∧ P.U.heap = h ∧ P.cells + 0 ≤ R.cells ∧ P.slots + 0 ≤ R.slots)
      (fun P _ v B => ∃ L, (v = some (.int (Int32.ofNat cs.length)) ∧ L = [] ∧ B.U.heap = h) ∧ B.locs = P.locs ++ L ∧ B.cells = P.cells + 0 ∧ B.slots = P.slots + 0) := by
  obtain ⟨q1, q2, q3, q4, t, kb, q5, q6⟩ := T
  exact StrChars.Road.lenW hZ hws wi q3 q5 q4 q6 (StrChars.Road.codOf rfl fun c hc => (q1 c hc).2) (up65 q1) S hz q2 hfr hlo
theorem strLenQ {v : Option Value} {L : List Loc} {N : Int32} (hN : Int32.ofNat cs.length = N) (q : v = some (.int (Int32.ofNat cs.length)) ∧ L = [] ∧ h' = h) : Fr Z.heap.size L ∧ Keep h h' [] ∧ (v = some (.int N)) := by
  obtain ⟨rfl, rfl, rfl⟩ := q; exact ⟨Fr.nil _, Keep.refl _ _, by rw [hN]⟩
theorem strAt {z : Int32} {fm : Value} {i : Nat} {j : Int32} (hZ : Z.Warmed39 s.vm) (hws : ∀ d ∈ StrChars.Road.wordsChN, d.before a0 Z = true) (wi : (Jvm.Cond.instantiable "java/lang/String" 4).before a0 Z = true) (T : Str Z h x cs) (S : Sta Z h "java/lang/String" "COMPACT_STRINGS" "Z" (.int z)) (hz : ¬ z = 0) (F : Sta Z h "jdk/internal/util/Preconditions" "SIOOBE_FORMATTER" "Ljava/util/function/BiFunction;" fm) (rf : fm.isRef = true) (hi : i < cs.length) (hj : j = Int32.ofNat i) (hfr : 4 ≤ R.frames) (hlo : W + 53 ≤ R.locals) :
    Back l R p e below s args (⟨"java/lang/String", "charAt", "(I)C"⟩ : MethodName) len W (fun P a => a = #[.ref x, .int j] ∧ P.U.heap = h ∧ P.cells + 0 ≤ R.cells ∧ P.slots + 0 ≤ R.slots)
      (fun P _ v B => ∃ L, (v = some (.int (cs.getD i 0)) ∧ L = [] ∧ B.U.heap = h) ∧ B.locs = P.locs ++ L ∧ B.cells = P.cells + 0 ∧ B.slots = P.slots + 0) := by
  obtain ⟨q1, q2, q3, q4, t, kb, q5, q6⟩ := T
  exact StrChars.Road.chN hZ hws wi q3 q5 q4 q6 (StrChars.Road.codOf rfl fun c hc => (q1 c hc).2) (up65 q1) S hz F rf q2 hi hj hfr hlo
theorem strAtQ {v : Option Value} {L : List Loc} {i : Nat} {z : Int32} (hz : cs.getD i 0 = z) (q : v = some (.int (cs.getD i 0)) ∧ L = [] ∧ h' = h) : Fr Z.heap.size L ∧ Keep h h' [] ∧ (v = some (.int z)) := by
  obtain ⟨rfl, rfl, rfl⟩ := q; exact ⟨Fr.nil _, Keep.refl _ _, by rw [hz]⟩
theorem strEq {z : Int32} (hZ : Z.Warmed39 s.vm) (hws : ∀ d ∈ StrChars.Road.wordsEq, d.before a0 Z = true) (wi : (Jvm.Cond.instantiable "java/lang/String" 4).before a0 Z = true) (T : Str Z h x cs) (T' : Str Z h b ds) (S : Sta Z h "java/lang/String" "COMPACT_STRINGS" "Z" (.int z)) (hz : ¬ z = 0) (hfr : 2 ≤ R.frames) (hlo : W + 28 ≤ R.locals) :
    Back l R p e below s args (⟨"java/lang/String", "equals", "(Ljava/lang/Object;)Z"⟩ : MethodName) len W (fun P a => a = #[.ref x, .ref b] ∧ P.U.heap = h ∧ P.cells + 0 ≤ R.cells ∧ P.slots + 0 ≤ R.slots)
      (fun P _ v B => ∃ L, (((v = some (.int 1) ∧ cs = ds) ∨ (v = some (.int 0) ∧ ¬ cs = ds)) ∧ L = [] ∧ B.U.heap = h) ∧ B.locs = P.locs ++ L ∧ B.cells = P.cells + 0 ∧ B.slots = P.slots + 0) := by
  obtain ⟨q1, q2, q3, q4, t, kb, q5, q6⟩ := T
  obtain ⟨r1, r2, r3, r4, t', kb', r5, r6⟩ := T'
  exact StrChars.Road.eqW hZ hws wi q3 q5 q4 q6 (StrChars.Road.codOf rfl fun c hc => (q1 c hc).2) (up65 q1) q2 r3 r5 r4 r6 (StrChars.Road.codOf rfl fun c hc => (r1 c hc).2) (up65 r1) r2 S hz hfr hlo
theorem strEqQ {v : Option Value} {L : List Loc} (q : ((v = some (.int 1) ∧ cs = ds) ∨ (v = some (.int 0) ∧ ¬ cs = ds)) ∧ L = [] ∧ h' = h) : Fr Z.heap.size L ∧ Keep h h' [] ∧ (v = some (.int (if cs = ds then 1 else 0))) := by
  obtain ⟨q, rfl, rfl⟩ := q
  refine ⟨Fr.nil _, Keep.refl _ _, ?_⟩
  rcases q with ⟨rfl, e⟩ | ⟨rfl, e⟩ <;> simp [e]
end Str1
end Own

theorem tw0 {Z : State} {a0 : Array Value} (hw : ∀ d ∈ tables_1, d.before a0 Z = true) : (Jvm.Cond.classLink "com/example/carelane/carelane/registry/LegalEntityIsAtWorkPinLaw" (7 : Nat) "java/lang/String").before a0 Z = true := hw _ (List.mem_of_getElem? (i := 0) rfl)
theorem tw1 {Z : State} {a0 : Array Value} (hw : ∀ d ∈ tables_1, d.before a0 Z = true) : (Jvm.Cond.instantiable "java/lang/String" (4 : Nat)).before a0 Z = true := hw _ (List.mem_of_getElem? (i := 1) rfl)
theorem tw2 {Z : State} {a0 : Array Value} (hw : ∀ d ∈ tables_1, d.before a0 Z = true) : (Jvm.Cond.initialized "java/lang/String").before a0 Z = true := hw _ (List.mem_of_getElem? (i := 2) rfl)
theorem tw3 {Z : State} {a0 : Array Value} (hw : ∀ d ∈ tables_1, d.before a0 Z = true) : (Jvm.Cond.arrayClass Jvm.ClassFile.FieldType.char).before a0 Z = true := hw _ (List.mem_of_getElem? (i := 3) rfl)
theorem tw4 {Z : State} {a0 : Array Value} (hw : ∀ d ∈ tables_1, d.before a0 Z = true) : (Jvm.Cond.methodLink "com/example/carelane/carelane/registry/LegalEntityIsAtWorkPinLaw" (9 : Nat) ({ cls := "java/lang/String", name := "<init>", desc := "([C)V" } : Jvm.MethodName)).before a0 Z = true := hw _ (List.mem_of_getElem? (i := 4) rfl)
theorem tw5 {Z : State} {a0 : Array Value} (hw : ∀ d ∈ tables_1, d.before a0 Z = true) : (Jvm.Cond.instanceMethod ({ cls := "java/lang/String", name := "<init>", desc := "([C)V" } : Jvm.MethodName)).before a0 Z = true := hw _ (List.mem_of_getElem? (i := 5) rfl)
theorem tw6 {Z : State} {a0 : Array Value} (hw : ∀ d ∈ tables_1, d.before a0 Z = true) : (Jvm.Cond.code ({ cls := "java/lang/String", name := "<init>", desc := "([C)V" } : Jvm.MethodName) jdk_42_method_3_code (2 : Nat) (Option.none : Option Jvm.ClassFile.FieldType)).before a0 Z = true := hw _ (List.mem_of_getElem? (i := 6) rfl)
theorem tw11 {Z : State} {a0 : Array Value} (hw : ∀ d ∈ tables_1, d.before a0 Z = true) : (Jvm.Cond.methodLink "java/lang/String" (1 : Nat) ({ cls := "java/lang/Object", name := "<init>", desc := "()V" } : Jvm.MethodName)).before a0 Z = true := hw _ (List.mem_of_getElem? (i := 11) rfl)
theorem tw12 {Z : State} {a0 : Array Value} (hw : ∀ d ∈ tables_1, d.before a0 Z = true) : (Jvm.Cond.instanceMethod ({ cls := "java/lang/Object", name := "<init>", desc := "()V" } : Jvm.MethodName)).before a0 Z = true := hw _ (List.mem_of_getElem? (i := 12) rfl)
theorem tw13 {Z : State} {a0 : Array Value} (hw : ∀ d ∈ tables_1, d.before a0 Z = true) : (Jvm.Cond.code ({ cls := "java/lang/Object", name := "<init>", desc := "()V" } : Jvm.MethodName) object_method_1_code (1 : Nat) (Option.none : Option Jvm.ClassFile.FieldType)).before a0 Z = true := hw _ (List.mem_of_getElem? (i := 13) rfl)
theorem tw14 {Z : State} {a0 : Array Value} (hw : ∀ d ∈ tables_1, d.before a0 Z = true) : (Jvm.Cond.fieldLink "java/lang/String" (38 : Nat) "java/lang/String" "COMPACT_STRINGS" "Z").before a0 Z = true := hw _ (List.mem_of_getElem? (i := 14) rfl)
theorem tw19 {Z : State} {a0 : Array Value} (hw : ∀ d ∈ tables_1, d.before a0 Z = true) : (Jvm.Cond.arrayClass Jvm.ClassFile.FieldType.byte).before a0 Z = true := hw _ (List.mem_of_getElem? (i := 19) rfl)
theorem tw26 {Z : State} {a0 : Array Value} (hw : ∀ d ∈ tables_1, d.before a0 Z = true) : (Jvm.Cond.fieldLink "java/lang/String" (15 : Nat) "java/lang/String" "coder" "B").before a0 Z = true := hw _ (List.mem_of_getElem? (i := 26) rfl)
theorem tw27 {Z : State} {a0 : Array Value} (hw : ∀ d ∈ tables_1, d.before a0 Z = true) : (Jvm.Cond.laysFinal "java/lang/String" "java/lang/String" "coder" "B").before a0 Z = true := hw _ (List.mem_of_getElem? (i := 27) rfl)
theorem tw28 {Z : State} {a0 : Array Value} (hw : ∀ d ∈ tables_1, d.before a0 Z = true) : (Jvm.Cond.fieldLink "java/lang/String" (9 : Nat) "java/lang/String" "value" "[B").before a0 Z = true := hw _ (List.mem_of_getElem? (i := 28) rfl)
theorem tw29 {Z : State} {a0 : Array Value} (hw : ∀ d ∈ tables_1, d.before a0 Z = true) : (Jvm.Cond.laysFinal "java/lang/String" "java/lang/String" "value" "[B").before a0 Z = true := hw _ (List.mem_of_getElem? (i := 29) rfl)
theorem tw30 {Z : State} {a0 : Array Value} (hw : ∀ d ∈ tables_1, d.before a0 Z = true) : (Jvm.Cond.methodLink "com/example/carelane/carelane/registry/LegalEntityIsAtWorkPinLaw" (12 : Nat) ({ cls := "java/lang/String", name := "valueOf", desc := "(C)Ljava/lang/String;" } : Jvm.MethodName)).before a0 Z = true := hw _ (List.mem_of_getElem? (i := 30) rfl)
theorem tw31 {Z : State} {a0 : Array Value} (hw : ∀ d ∈ tables_1, d.before a0 Z = true) : (Jvm.Cond.static ({ cls := "java/lang/String", name := "valueOf", desc := "(C)Ljava/lang/String;" } : Jvm.MethodName)).before a0 Z = true := hw _ (List.mem_of_getElem? (i := 31) rfl)
theorem tw32 {Z : State} {a0 : Array Value} (hw : ∀ d ∈ tables_1, d.before a0 Z = true) : (Jvm.Cond.code ({ cls := "java/lang/String", name := "valueOf", desc := "(C)Ljava/lang/String;" } : Jvm.MethodName) jdk_42_method_139_code (1 : Nat) (Option.some (Jvm.ClassFile.FieldType.object "java/lang/String"))).before a0 Z = true := hw _ (List.mem_of_getElem? (i := 32) rfl)
theorem tw33 {Z : State} {a0 : Array Value} (hw : ∀ d ∈ tables_1, d.before a0 Z = true) : (Jvm.Cond.methodLink "java/lang/String" (1015 : Nat) ({ cls := "java/lang/StringLatin1", name := "canEncode", desc := "(C)Z" } : Jvm.MethodName)).before a0 Z = true := hw _ (List.mem_of_getElem? (i := 33) rfl)
theorem tw34 {Z : State} {a0 : Array Value} (hw : ∀ d ∈ tables_1, d.before a0 Z = true) : (Jvm.Cond.static ({ cls := "java/lang/StringLatin1", name := "canEncode", desc := "(C)Z" } : Jvm.MethodName)).before a0 Z = true := hw _ (List.mem_of_getElem? (i := 34) rfl)
theorem tw35 {Z : State} {a0 : Array Value} (hw : ∀ d ∈ tables_1, d.before a0 Z = true) : (Jvm.Cond.initialized "java/lang/StringLatin1").before a0 Z = true := hw _ (List.mem_of_getElem? (i := 35) rfl)
theorem tw36 {Z : State} {a0 : Array Value} (hw : ∀ d ∈ tables_1, d.before a0 Z = true) : (Jvm.Cond.code ({ cls := "java/lang/StringLatin1", name := "canEncode", desc := "(C)Z" } : Jvm.MethodName) jdk_43_method_3_code (1 : Nat) (Option.some Jvm.ClassFile.FieldType.boolean)).before a0 Z = true := hw _ (List.mem_of_getElem? (i := 36) rfl)
theorem tw37 {Z : State} {a0 : Array Value} (hw : ∀ d ∈ tables_1, d.before a0 Z = true) : (Jvm.Cond.classLink "java/lang/String" (10 : Nat) "java/lang/String").before a0 Z = true := hw _ (List.mem_of_getElem? (i := 37) rfl)
theorem tw38 {Z : State} {a0 : Array Value} (hw : ∀ d ∈ tables_1, d.before a0 Z = true) : (Jvm.Cond.methodLink "java/lang/String" (1018 : Nat) ({ cls := "java/lang/StringLatin1", name := "toBytes", desc := "(C)[B" } : Jvm.MethodName)).before a0 Z = true := hw _ (List.mem_of_getElem? (i := 38) rfl)
theorem tw39 {Z : State} {a0 : Array Value} (hw : ∀ d ∈ tables_1, d.before a0 Z = true) : (Jvm.Cond.static ({ cls := "java/lang/StringLatin1", name := "toBytes", desc := "(C)[B" } : Jvm.MethodName)).before a0 Z = true := hw _ (List.mem_of_getElem? (i := 39) rfl)
theorem tw40 {Z : State} {a0 : Array Value} (hw : ∀ d ∈ tables_1, d.before a0 Z = true) : (Jvm.Cond.code ({ cls := "java/lang/StringLatin1", name := "toBytes", desc := "(C)[B" } : Jvm.MethodName) jdk_43_method_46_code (1 : Nat) (Option.some (Jvm.ClassFile.FieldType.array Jvm.ClassFile.FieldType.byte))).before a0 Z = true := hw _ (List.mem_of_getElem? (i := 40) rfl)
theorem tw41 {Z : State} {a0 : Array Value} (hw : ∀ d ∈ tables_1, d.before a0 Z = true) : (Jvm.Cond.methodLink "java/lang/String" (209 : Nat) ({ cls := "java/lang/String", name := "<init>", desc := "([BB)V" } : Jvm.MethodName)).before a0 Z = true := hw _ (List.mem_of_getElem? (i := 41) rfl)
theorem tw42 {Z : State} {a0 : Array Value} (hw : ∀ d ∈ tables_1, d.before a0 Z = true) : (Jvm.Cond.instanceMethod ({ cls := "java/lang/String", name := "<init>", desc := "([BB)V" } : Jvm.MethodName)).before a0 Z = true := hw _ (List.mem_of_getElem? (i := 42) rfl)
theorem tw43 {Z : State} {a0 : Array Value} (hw : ∀ d ∈ tables_1, d.before a0 Z = true) : (Jvm.Cond.code ({ cls := "java/lang/String", name := "<init>", desc := "([BB)V" } : Jvm.MethodName) jdk_42_method_151_code (3 : Nat) (Option.none : Option Jvm.ClassFile.FieldType)).before a0 Z = true := hw _ (List.mem_of_getElem? (i := 43) rfl)
theorem tw44 {Z : State} {a0 : Array Value} (hw : ∀ d ∈ tables_1, d.before a0 Z = true) : (Jvm.Cond.classLink "com/example/carelane/carelane/registry/LegalEntityIsAtWorkPinLaw" (16 : Nat) "com/example/carelane/carelane/registry/LegalEntity").before a0 Z = true := hw _ (List.mem_of_getElem? (i := 44) rfl)
theorem tw45 {Z : State} {a0 : Array Value} (hw : ∀ d ∈ tables_1, d.before a0 Z = true) : (Jvm.Cond.instantiable "com/example/carelane/carelane/registry/LegalEntity" (4 : Nat)).before a0 Z = true := hw _ (List.mem_of_getElem? (i := 45) rfl)
theorem tw46 {Z : State} {a0 : Array Value} (hw : ∀ d ∈ tables_1, d.before a0 Z = true) : (Jvm.Cond.initialized "com/example/carelane/carelane/registry/LegalEntity").before a0 Z = true := hw _ (List.mem_of_getElem? (i := 46) rfl)
theorem tw47 {Z : State} {a0 : Array Value} (hw : ∀ d ∈ tables_1, d.before a0 Z = true) : (Jvm.Cond.methodLink "com/example/carelane/carelane/registry/LegalEntityIsAtWorkPinLaw" (18 : Nat) ({ cls := "com/example/carelane/carelane/registry/LegalEntity", name := "<init>", desc := "(Ljava/lang/String;Ljava/lang/String;Ljava/lang/String;Z)V" } : Jvm.MethodName)).before a0 Z = true := hw _ (List.mem_of_getElem? (i := 47) rfl)
theorem tw48 {Z : State} {a0 : Array Value} (hw : ∀ d ∈ tables_1, d.before a0 Z = true) : (Jvm.Cond.instanceMethod ({ cls := "com/example/carelane/carelane/registry/LegalEntity", name := "<init>", desc := "(Ljava/lang/String;Ljava/lang/String;Ljava/lang/String;Z)V" } : Jvm.MethodName)).before a0 Z = true := hw _ (List.mem_of_getElem? (i := 48) rfl)
theorem tw49 {Z : State} {a0 : Array Value} (hw : ∀ d ∈ tables_1, d.before a0 Z = true) : (Jvm.Cond.code ({ cls := "com/example/carelane/carelane/registry/LegalEntity", name := "<init>", desc := "(Ljava/lang/String;Ljava/lang/String;Ljava/lang/String;Z)V" } : Jvm.MethodName) prog_23_method_1_code (5 : Nat) (Option.none : Option Jvm.ClassFile.FieldType)).before a0 Z = true := hw _ (List.mem_of_getElem? (i := 49) rfl)
theorem tw50 {Z : State} {a0 : Array Value} (hw : ∀ d ∈ tables_1, d.before a0 Z = true) : (Jvm.Cond.methodLink "com/example/carelane/carelane/registry/LegalEntity" (1 : Nat) ({ cls := "java/lang/Record", name := "<init>", desc := "()V" } : Jvm.MethodName)).before a0 Z = true := hw _ (List.mem_of_getElem? (i := 50) rfl)
theorem tw51 {Z : State} {a0 : Array Value} (hw : ∀ d ∈ tables_1, d.before a0 Z = true) : (Jvm.Cond.instanceMethod ({ cls := "java/lang/Record", name := "<init>", desc := "()V" } : Jvm.MethodName)).before a0 Z = true := hw _ (List.mem_of_getElem? (i := 51) rfl)
theorem tw53 {Z : State} {a0 : Array Value} (hw : ∀ d ∈ tables_1, d.before a0 Z = true) : (Jvm.Cond.initialized "java/lang/Record").before a0 Z = true := hw _ (List.mem_of_getElem? (i := 53) rfl)
theorem tw54 {Z : State} {a0 : Array Value} (hw : ∀ d ∈ tables_1, d.before a0 Z = true) : (Jvm.Cond.code ({ cls := "java/lang/Record", name := "<init>", desc := "()V" } : Jvm.MethodName) jdk_30_method_1_code (1 : Nat) (Option.none : Option Jvm.ClassFile.FieldType)).before a0 Z = true := hw _ (List.mem_of_getElem? (i := 54) rfl)
theorem tw55 {Z : State} {a0 : Array Value} (hw : ∀ d ∈ tables_1, d.before a0 Z = true) : (Jvm.Cond.methodLink "java/lang/Record" (1 : Nat) ({ cls := "java/lang/Object", name := "<init>", desc := "()V" } : Jvm.MethodName)).before a0 Z = true := hw _ (List.mem_of_getElem? (i := 55) rfl)
theorem tw56 {Z : State} {a0 : Array Value} (hw : ∀ d ∈ tables_1, d.before a0 Z = true) : (Jvm.Cond.fieldLink "com/example/carelane/carelane/registry/LegalEntity" (7 : Nat) "com/example/carelane/carelane/registry/LegalEntity" "id" "Ljava/lang/String;").before a0 Z = true := hw _ (List.mem_of_getElem? (i := 56) rfl)
theorem tw57 {Z : State} {a0 : Array Value} (hw : ∀ d ∈ tables_1, d.before a0 Z = true) : (Jvm.Cond.laysFinal "com/example/carelane/carelane/registry/LegalEntity" "com/example/carelane/carelane/registry/LegalEntity" "id" "Ljava/lang/String;").before a0 Z = true := hw _ (List.mem_of_getElem? (i := 57) rfl)
theorem tw58 {Z : State} {a0 : Array Value} (hw : ∀ d ∈ tables_1, d.before a0 Z = true) : (Jvm.Cond.fieldLink "com/example/carelane/carelane/registry/LegalEntity" (13 : Nat) "com/example/carelane/carelane/registry/LegalEntity" "type" "Ljava/lang/String;").before a0 Z = true := hw _ (List.mem_of_getElem? (i := 58) rfl)
theorem tw59 {Z : State} {a0 : Array Value} (hw : ∀ d ∈ tables_1, d.before a0 Z = true) : (Jvm.Cond.laysFinal "com/example/carelane/carelane/registry/LegalEntity" "com/example/carelane/carelane/registry/LegalEntity" "type" "Ljava/lang/String;").before a0 Z = true := hw _ (List.mem_of_getElem? (i := 59) rfl)
theorem tw60 {Z : State} {a0 : Array Value} (hw : ∀ d ∈ tables_1, d.before a0 Z = true) : (Jvm.Cond.fieldLink "com/example/carelane/carelane/registry/LegalEntity" (16 : Nat) "com/example/carelane/carelane/registry/LegalEntity" "status" "Ljava/lang/String;").before a0 Z = true := hw _ (List.mem_of_getElem? (i := 60) rfl)
theorem tw61 {Z : State} {a0 : Array Value} (hw : ∀ d ∈ tables_1, d.before a0 Z = true) : (Jvm.Cond.laysFinal "com/example/carelane/carelane/registry/LegalEntity" "com/example/carelane/carelane/registry/LegalEntity" "status" "Ljava/lang/String;").before a0 Z = true := hw _ (List.mem_of_getElem? (i := 61) rfl)
theorem tw62 {Z : State} {a0 : Array Value} (hw : ∀ d ∈ tables_1, d.before a0 Z = true) : (Jvm.Cond.fieldLink "com/example/carelane/carelane/registry/LegalEntity" (19 : Nat) "com/example/carelane/carelane/registry/LegalEntity" "isActive" "Z").before a0 Z = true := hw _ (List.mem_of_getElem? (i := 62) rfl)
theorem tw63 {Z : State} {a0 : Array Value} (hw : ∀ d ∈ tables_1, d.before a0 Z = true) : (Jvm.Cond.laysFinal "com/example/carelane/carelane/registry/LegalEntity" "com/example/carelane/carelane/registry/LegalEntity" "isActive" "Z").before a0 Z = true := hw _ (List.mem_of_getElem? (i := 63) rfl)
theorem tw64 {Z : State} {a0 : Array Value} (hw : ∀ d ∈ tables_1, d.before a0 Z = true) : (Jvm.Cond.methodLink "com/example/carelane/carelane/registry/LegalEntityIsAtWorkPinLaw" (21 : Nat) ({ cls := "com/example/carelane/carelane/registry/LegalEntity", name := "isAtWork", desc := "()Z" } : Jvm.MethodName)).before a0 Z = true := hw _ (List.mem_of_getElem? (i := 64) rfl)
theorem tw65 {Z : State} {a0 : Array Value} (hw : ∀ d ∈ tables_1, d.before a0 Z = true) : (Jvm.Cond.declares ({ cls := "com/example/carelane/carelane/registry/LegalEntity", name := "isAtWork", desc := "()Z" } : Jvm.MethodName)).before a0 Z = true := hw _ (List.mem_of_getElem? (i := 65) rfl)
theorem tw66 {Z : State} {a0 : Array Value} (hw : ∀ d ∈ tables_1, d.before a0 Z = true) : (Jvm.Cond.instanceMethod ({ cls := "com/example/carelane/carelane/registry/LegalEntity", name := "isAtWork", desc := "()Z" } : Jvm.MethodName)).before a0 Z = true := hw _ (List.mem_of_getElem? (i := 66) rfl)
theorem tw67 {Z : State} {a0 : Array Value} (hw : ∀ d ∈ tables_1, d.before a0 Z = true) : (Jvm.Cond.selects "com/example/carelane/carelane/registry/LegalEntity" ({ cls := "com/example/carelane/carelane/registry/LegalEntity", name := "isAtWork", desc := "()Z" } : Jvm.MethodName) ({ cls := "com/example/carelane/carelane/registry/LegalEntity", name := "isAtWork", desc := "()Z" } : Jvm.MethodName)).before a0 Z = true := hw _ (List.mem_of_getElem? (i := 67) rfl)
theorem tw68 {Z : State} {a0 : Array Value} (hw : ∀ d ∈ tables_1, d.before a0 Z = true) : (Jvm.Cond.code ({ cls := "com/example/carelane/carelane/registry/LegalEntity", name := "isAtWork", desc := "()Z" } : Jvm.MethodName) prog_23_method_2_code (1 : Nat) (Option.some Jvm.ClassFile.FieldType.boolean)).before a0 Z = true := hw _ (List.mem_of_getElem? (i := 68) rfl)
theorem tw69 {Z : State} {a0 : Array Value} (hw : ∀ d ∈ tables_1, d.before a0 Z = true) : (Jvm.Cond.stringLink "com/example/carelane/carelane/registry/LegalEntity" (23 : Nat) "ACTIVE").before a0 Z = true := hw _ (List.mem_of_getElem? (i := 69) rfl)
theorem tw72 {Z : State} {a0 : Array Value} (hw : ∀ d ∈ tables_1, d.before a0 Z = true) : (Jvm.Cond.methodLink "com/example/carelane/carelane/registry/LegalEntity" (25 : Nat) ({ cls := "java/lang/String", name := "equals", desc := "(Ljava/lang/Object;)Z" } : Jvm.MethodName)).before a0 Z = true := hw _ (List.mem_of_getElem? (i := 72) rfl)
theorem tw73 {Z : State} {a0 : Array Value} (hw : ∀ d ∈ tables_1, d.before a0 Z = true) : (Jvm.Cond.declares ({ cls := "java/lang/String", name := "equals", desc := "(Ljava/lang/Object;)Z" } : Jvm.MethodName)).before a0 Z = true := hw _ (List.mem_of_getElem? (i := 73) rfl)
theorem tw74 {Z : State} {a0 : Array Value} (hw : ∀ d ∈ tables_1, d.before a0 Z = true) : (Jvm.Cond.instanceMethod ({ cls := "java/lang/String", name := "equals", desc := "(Ljava/lang/Object;)Z" } : Jvm.MethodName)).before a0 Z = true := hw _ (List.mem_of_getElem? (i := 74) rfl)
theorem tw75 {Z : State} {a0 : Array Value} (hw : ∀ d ∈ tables_1, d.before a0 Z = true) : (Jvm.Cond.selects "java/lang/String" ({ cls := "java/lang/String", name := "equals", desc := "(Ljava/lang/Object;)Z" } : Jvm.MethodName) ({ cls := "java/lang/String", name := "equals", desc := "(Ljava/lang/Object;)Z" } : Jvm.MethodName)).before a0 Z = true := hw _ (List.mem_of_getElem? (i := 75) rfl)
theorem tw76 {Z : State} {a0 : Array Value} (hw : ∀ d ∈ tables_1, d.before a0 Z = true) : (Jvm.Cond.code ({ cls := "java/lang/String", name := "equals", desc := "(Ljava/lang/Object;)Z" } : Jvm.MethodName) jdk_42_method_66_code (3 : Nat) (Option.some Jvm.ClassFile.FieldType.boolean)).before a0 Z = true := hw _ (List.mem_of_getElem? (i := 76) rfl)
theorem tw80 {Z : State} {a0 : Array Value} (hw : ∀ d ∈ tables_1, d.before a0 Z = true) : (Jvm.Cond.methodLink "com/example/carelane/carelane/registry/LegalEntityIsAtWorkPinLaw" (25 : Nat) ({ cls := "java/lang/String", name := "length", desc := "()I" } : Jvm.MethodName)).before a0 Z = true := hw _ (List.mem_of_getElem? (i := 80) rfl)
theorem tw81 {Z : State} {a0 : Array Value} (hw : ∀ d ∈ tables_1, d.before a0 Z = true) : (Jvm.Cond.declares ({ cls := "java/lang/String", name := "length", desc := "()I" } : Jvm.MethodName)).before a0 Z = true := hw _ (List.mem_of_getElem? (i := 81) rfl)
theorem tw82 {Z : State} {a0 : Array Value} (hw : ∀ d ∈ tables_1, d.before a0 Z = true) : (Jvm.Cond.instanceMethod ({ cls := "java/lang/String", name := "length", desc := "()I" } : Jvm.MethodName)).before a0 Z = true := hw _ (List.mem_of_getElem? (i := 82) rfl)
theorem tw83 {Z : State} {a0 : Array Value} (hw : ∀ d ∈ tables_1, d.before a0 Z = true) : (Jvm.Cond.selects "java/lang/String" ({ cls := "java/lang/String", name := "length", desc := "()I" } : Jvm.MethodName) ({ cls := "java/lang/String", name := "length", desc := "()I" } : Jvm.MethodName)).before a0 Z = true := hw _ (List.mem_of_getElem? (i := 83) rfl)
theorem tw90 {Z : State} {a0 : Array Value} (hw : ∀ d ∈ tables_1, d.before a0 Z = true) : (Jvm.Cond.methodLink "com/example/carelane/carelane/registry/LegalEntityIsAtWorkPinLaw" (29 : Nat) ({ cls := "java/lang/String", name := "charAt", desc := "(I)C" } : Jvm.MethodName)).before a0 Z = true := hw _ (List.mem_of_getElem? (i := 90) rfl)
theorem tw91 {Z : State} {a0 : Array Value} (hw : ∀ d ∈ tables_1, d.before a0 Z = true) : (Jvm.Cond.declares ({ cls := "java/lang/String", name := "charAt", desc := "(I)C" } : Jvm.MethodName)).before a0 Z = true := hw _ (List.mem_of_getElem? (i := 91) rfl)
theorem tw92 {Z : State} {a0 : Array Value} (hw : ∀ d ∈ tables_1, d.before a0 Z = true) : (Jvm.Cond.instanceMethod ({ cls := "java/lang/String", name := "charAt", desc := "(I)C" } : Jvm.MethodName)).before a0 Z = true := hw _ (List.mem_of_getElem? (i := 92) rfl)
theorem tw93 {Z : State} {a0 : Array Value} (hw : ∀ d ∈ tables_1, d.before a0 Z = true) : (Jvm.Cond.selects "java/lang/String" ({ cls := "java/lang/String", name := "charAt", desc := "(I)C" } : Jvm.MethodName) ({ cls := "java/lang/String", name := "charAt", desc := "(I)C" } : Jvm.MethodName)).before a0 Z = true := hw _ (List.mem_of_getElem? (i := 93) rfl)
theorem dc_jdk_30_method_1_0 : decode jdk_30_method_1_code 0 = .ok (.aload_n 0, 1) := by decide +kernel
theorem dc_jdk_30_method_1_1 : decode jdk_30_method_1_code 1 = .ok (.invokespecial 1, 3) := by decide +kernel
theorem dc_jdk_30_method_1_4 : decode jdk_30_method_1_code 4 = .ok (.return_, 1) := by decide +kernel
theorem dc_jdk_43_method_3_0 : decode jdk_43_method_3_code 0 = .ok (.iload_n 0, 1) := by decide +kernel
theorem dc_jdk_43_method_3_1 : decode jdk_43_method_3_code 1 = .ok (.sipush 255, 3) := by decide +kernel
theorem dc_jdk_43_method_3_4 : decode jdk_43_method_3_code 4 = .ok (.if_icmp .gt 7, 3) := by decide +kernel
theorem dc_jdk_43_method_3_7 : decode jdk_43_method_3_code 7 = .ok (.iconst 1, 1) := by decide +kernel
theorem dc_jdk_43_method_3_8 : decode jdk_43_method_3_code 8 = .ok (.goto 4, 3) := by decide +kernel
theorem dc_jdk_43_method_3_12 : decode jdk_43_method_3_code 12 = .ok (.ireturn, 1) := by decide +kernel
theorem dc_jdk_43_method_46_0 : decode jdk_43_method_46_code 0 = .ok (.iconst 1, 1) := by decide +kernel
theorem dc_jdk_43_method_46_1 : decode jdk_43_method_46_code 1 = .ok (.newarray .byte, 2) := by decide +kernel
theorem dc_jdk_43_method_46_3 : decode jdk_43_method_46_code 3 = .ok (.dup, 1) := by decide +kernel
theorem dc_jdk_43_method_46_4 : decode jdk_43_method_46_code 4 = .ok (.iconst 0, 1) := by decide +kernel
theorem dc_jdk_43_method_46_5 : decode jdk_43_method_46_code 5 = .ok (.iload_n 0, 1) := by decide +kernel
theorem dc_jdk_43_method_46_6 : decode jdk_43_method_46_code 6 = .ok (.i2b, 1) := by decide +kernel
theorem dc_jdk_43_method_46_7 : decode jdk_43_method_46_code 7 = .ok (.bastore, 1) := by decide +kernel
theorem dc_jdk_43_method_46_8 : decode jdk_43_method_46_code 8 = .ok (.areturn, 1) := by decide +kernel
theorem dc_jdk_42_method_151_0 : decode jdk_42_method_151_code 0 = .ok (.aload_n 0, 1) := by decide +kernel
theorem dc_jdk_42_method_151_1 : decode jdk_42_method_151_code 1 = .ok (.invokespecial 1, 3) := by decide +kernel
theorem dc_jdk_42_method_151_4 : decode jdk_42_method_151_code 4 = .ok (.aload_n 0, 1) := by decide +kernel
theorem dc_jdk_42_method_151_5 : decode jdk_42_method_151_code 5 = .ok (.aload_n 1, 1) := by decide +kernel
theorem dc_jdk_42_method_151_6 : decode jdk_42_method_151_code 6 = .ok (.putfield 9, 3) := by decide +kernel
theorem dc_jdk_42_method_151_9 : decode jdk_42_method_151_code 9 = .ok (.aload_n 0, 1) := by decide +kernel
theorem dc_jdk_42_method_151_10 : decode jdk_42_method_151_code 10 = .ok (.iload_n 2, 1) := by decide +kernel
theorem dc_jdk_42_method_151_11 : decode jdk_42_method_151_code 11 = .ok (.putfield 15, 3) := by decide +kernel
theorem dc_jdk_42_method_151_14 : decode jdk_42_method_151_code 14 = .ok (.return_, 1) := by decide +kernel
theorem dc_jdk_42_method_139_0 : decode jdk_42_method_139_code 0 = .ok (.getstatic 38, 3) := by decide +kernel
theorem dc_jdk_42_method_139_3 : decode jdk_42_method_139_code 3 = .ok (.ifCond .eq 23, 3) := by decide +kernel
theorem dc_jdk_42_method_139_6 : decode jdk_42_method_139_code 6 = .ok (.iload_n 0, 1) := by decide +kernel
theorem dc_jdk_42_method_139_7 : decode jdk_42_method_139_code 7 = .ok (.invokestatic 1015, 3) := by decide +kernel
theorem dc_jdk_42_method_139_10 : decode jdk_42_method_139_code 10 = .ok (.ifCond .eq 16, 3) := by decide +kernel
theorem dc_jdk_42_method_139_13 : decode jdk_42_method_139_code 13 = .ok (.new 10, 3) := by decide +kernel
theorem dc_jdk_42_method_139_16 : decode jdk_42_method_139_code 16 = .ok (.dup, 1) := by decide +kernel
theorem dc_jdk_42_method_139_17 : decode jdk_42_method_139_code 17 = .ok (.iload_n 0, 1) := by decide +kernel
theorem dc_jdk_42_method_139_18 : decode jdk_42_method_139_code 18 = .ok (.invokestatic 1018, 3) := by decide +kernel
theorem dc_jdk_42_method_139_21 : decode jdk_42_method_139_code 21 = .ok (.iconst 0, 1) := by decide +kernel
theorem dc_jdk_42_method_139_22 : decode jdk_42_method_139_code 22 = .ok (.invokespecial 209, 3) := by decide +kernel
theorem dc_jdk_42_method_139_25 : decode jdk_42_method_139_code 25 = .ok (.areturn, 1) := by decide +kernel
theorem dc_jdk_42_method_66_0 : decode jdk_42_method_66_code 0 = .ok (.aload_n 0, 1) := by decide +kernel
theorem dc_jdk_42_method_66_1 : decode jdk_42_method_66_code 1 = .ok (.aload_n 1, 1) := by decide +kernel
theorem dc_jdk_42_method_66_2 : decode jdk_42_method_66_code 2 = .ok (.if_acmp .ne 5, 3) := by decide +kernel
theorem dc_jdk_42_method_66_7 : decode jdk_42_method_66_code 7 = .ok (.aload_n 1, 1) := by decide +kernel
theorem dc_jdk_42_method_66_8 : decode jdk_42_method_66_code 8 = .ok (.instanceof 10, 3) := by decide +kernel
theorem dc_jdk_42_method_66_11 : decode jdk_42_method_66_code 11 = .ok (.ifCond .eq 43, 3) := by decide +kernel
theorem dc_jdk_42_method_66_54 : decode jdk_42_method_66_code 54 = .ok (.iconst 0, 1) := by decide +kernel
theorem dc_jdk_42_method_66_55 : decode jdk_42_method_66_code 55 = .ok (.ireturn, 1) := by decide +kernel
theorem dc_prog_23_method_1_0 : decode prog_23_method_1_code 0 = .ok (.aload_n 0, 1) := by decide +kernel
theorem dc_prog_23_method_1_1 : decode prog_23_method_1_code 1 = .ok (.invokespecial 1, 3) := by decide +kernel
theorem dc_prog_23_method_1_4 : decode prog_23_method_1_code 4 = .ok (.aload_n 0, 1) := by decide +kernel
theorem dc_prog_23_method_1_5 : decode prog_23_method_1_code 5 = .ok (.aload_n 1, 1) := by decide +kernel
theorem dc_prog_23_method_1_6 : decode prog_23_method_1_code 6 = .ok (.putfield 7, 3) := by decide +kernel
theorem dc_prog_23_method_1_9 : decode prog_23_method_1_code 9 = .ok (.aload_n 0, 1) := by decide +kernel
theorem dc_prog_23_method_1_10 : decode prog_23_method_1_code 10 = .ok (.aload_n 2, 1) := by decide +kernel
theorem dc_prog_23_method_1_11 : decode prog_23_method_1_code 11 = .ok (.putfield 13, 3) := by decide +kernel
theorem dc_prog_23_method_1_14 : decode prog_23_method_1_code 14 = .ok (.aload_n 0, 1) := by decide +kernel
theorem dc_prog_23_method_1_15 : decode prog_23_method_1_code 15 = .ok (.aload_n 3, 1) := by decide +kernel
theorem dc_prog_23_method_1_16 : decode prog_23_method_1_code 16 = .ok (.putfield 16, 3) := by decide +kernel
theorem dc_prog_23_method_1_19 : decode prog_23_method_1_code 19 = .ok (.aload_n 0, 1) := by decide +kernel
theorem dc_prog_23_method_1_20 : decode prog_23_method_1_code 20 = .ok (.iload 4, 2) := by decide +kernel
theorem dc_prog_23_method_1_22 : decode prog_23_method_1_code 22 = .ok (.putfield 19, 3) := by decide +kernel
theorem dc_prog_23_method_1_25 : decode prog_23_method_1_code 25 = .ok (.return_, 1) := by decide +kernel
theorem dc_prog_23_method_2_0 : decode prog_23_method_2_code 0 = .ok (.ldc 23, 2) := by decide +kernel
theorem dc_prog_23_method_2_2 : decode prog_23_method_2_code 2 = .ok (.aload_n 0, 1) := by decide +kernel
theorem dc_prog_23_method_2_3 : decode prog_23_method_2_code 3 = .ok (.getfield 16, 3) := by decide +kernel
theorem dc_prog_23_method_2_6 : decode prog_23_method_2_code 6 = .ok (.invokevirtual 25, 3) := by decide +kernel
theorem dc_prog_23_method_2_9 : decode prog_23_method_2_code 9 = .ok (.ifCond .eq 14, 3) := by decide +kernel
theorem dc_prog_23_method_2_23 : decode prog_23_method_2_code 23 = .ok (.iconst 0, 1) := by decide +kernel
theorem dc_prog_23_method_2_24 : decode prog_23_method_2_code 24 = .ok (.ireturn, 1) := by decide +kernel
theorem dc_prog_23_method_2_12 : decode prog_23_method_2_code 12 = .ok (.aload_n 0, 1) := by decide +kernel
theorem dc_prog_23_method_2_13 : decode prog_23_method_2_code 13 = .ok (.getfield 19, 3) := by decide +kernel
theorem dc_prog_23_method_2_16 : decode prog_23_method_2_code 16 = .ok (.ifCond .eq 7, 3) := by decide +kernel
theorem dc_prog_23_method_2_19 : decode prog_23_method_2_code 19 = .ok (.iconst 1, 1) := by decide +kernel
theorem dc_prog_23_method_2_20 : decode prog_23_method_2_code 20 = .ok (.goto 4, 3) := by decide +kernel
theorem pd_0 : parseMethodDescriptor "(C)Z" = some ⟨[.char], some .boolean⟩ := by decide +kernel
theorem pd_1 : parseMethodDescriptor "(C)[B" = some ⟨[.char], some (.array .byte)⟩ := by decide +kernel
theorem pd_2 : parseMethodDescriptor "([BB)V" = some ⟨[(.array .byte), .byte], none⟩ := by decide +kernel
theorem pd_3 : parseMethodDescriptor "()V" = some ⟨[], none⟩ := by decide +kernel
theorem pd_4 : parseMethodDescriptor "(Ljava/lang/Object;)Z" = some ⟨[(.object "java/lang/Object")], some .boolean⟩ := by decide +kernel
theorem pd_5 : parseMethodDescriptor "(C)Ljava/lang/String;" = some ⟨[.char], some (.object "java/lang/String")⟩ := by decide +kernel
theorem pd_6 : parseMethodDescriptor "(Ljava/lang/String;Ljava/lang/String;Ljava/lang/String;Z)V" = some ⟨[(.object "java/lang/String"), (.object "java/lang/String"), (.object "java/lang/String"), .boolean], none⟩ := by decide +kernel
theorem pd_7 : parseMethodDescriptor "()Z" = some ⟨[], some .boolean⟩ := by decide +kernel
theorem pd_8 : parseMethodDescriptor "([C)V" = some ⟨[(.array .char)], none⟩ := by decide +kernel
theorem pd_9 : parseMethodDescriptor "()I" = some ⟨[], some .int⟩ := by decide +kernel
theorem pd_10 : parseMethodDescriptor "(I)C" = some ⟨[.int], some .char⟩ := by decide +kernel
theorem pn_0 : plainFor (⟨"java/lang/Record", "<init>", "()V"⟩ : MethodName) = true := plainFor_of_name (by first | (simp [plainName, overriddenIn]; done) | decide +kernel)
theorem pn_1 : plainFor (⟨"java/lang/StringLatin1", "canEncode", "(C)Z"⟩ : MethodName) = true := plainFor_of_name (by first | (simp [plainName, overriddenIn]; done) | decide +kernel)
theorem pn_2 : plainFor (⟨"java/lang/StringLatin1", "toBytes", "(C)[B"⟩ : MethodName) = true := plainFor_of_name (by first | (simp [plainName, overriddenIn]; done) | decide +kernel)
theorem pn_3 : plainFor (⟨"java/lang/String", "<init>", "([BB)V"⟩ : MethodName) = true := plainFor_of_name (by first | (simp [plainName, overriddenIn]; done) | decide +kernel)
theorem pn_4 : plainFor (⟨"java/lang/String", "valueOf", "(C)Ljava/lang/String;"⟩ : MethodName) = true := plainFor_of_name (by first | (simp [plainName, overriddenIn]; done) | decide +kernel)
theorem pn_5 : plainFor (⟨"java/lang/String", "equals", "(Ljava/lang/Object;)Z"⟩ : MethodName) = true := plainFor_of_name (by first | (simp [plainName, overriddenIn]; done) | decide +kernel)
theorem pn_6 : plainFor (⟨"com/example/carelane/carelane/registry/LegalEntity", "<init>", "(Ljava/lang/String;Ljava/lang/String;Ljava/lang/String;Z)V"⟩ : MethodName) = true := plainFor_of_name (by first | (simp [plainName, overriddenIn]; done) | decide +kernel)
theorem pn_7 : plainFor (⟨"com/example/carelane/carelane/registry/LegalEntity", "isAtWork", "()Z"⟩ : MethodName) = true := plainFor_of_name (by first | (simp [plainName, overriddenIn]; done) | decide +kernel)
theorem pn_8 : plainFor x = true := plainFor_of_name (by first | (simp [plainName, overriddenIn]; done) | decide +kernel)
theorem ef_0 (x0 : Addr) (m : MethodId) : entryFrame m #[(.ref x0)] 1 = mkF m 0 #[.val (.ref x0)] [] := by first | (simp [entryFrame, mkF, argsToLocals, Value.category]; done) | rfl
theorem ef_1 (x0 : Int32) (m : MethodId) : entryFrame m #[(.int x0)] 1 = mkF m 0 #[.val (.int x0)] [] := by first | (simp [entryFrame, mkF, argsToLocals, Value.category]; done) | rfl
theorem ef_2 (x0 : Addr) (x1 : Addr) (x2 : Int32) (m : MethodId) : entryFrame m #[(.ref x0), (.ref x1), (.int x2)] 3 = mkF m 0 #[.val (.ref x0), .val (.ref x1), .val (.int x2)] [] := by first | (simp [entryFrame, mkF, argsToLocals, Value.category]; done) | rfl
theorem ef_3 (x0 : Addr) (m : MethodId) : entryFrame m #[(.ref x0), .null] 3 = mkF m 0 #[.val (.ref x0), .val .null, .unset] [] := by first | (simp [entryFrame, mkF, argsToLocals, Value.category]; done) | rfl
theorem ef_4 (x0 : Addr) (x1 : Addr) (x2 : Addr) (x3 : Value) (q3 : x3.isRef = true) (x4 : Int32) (m : MethodId) : entryFrame m #[(.ref x0), (.ref x1), (.ref x2), x3, (.int x4)] 5 = mkF m 0 #[.val (.ref x0), .val (.ref x1), .val (.ref x2), .val x3, .val (.int x4)] [] := by
  rcases ref_cases q3 with rfl | ⟨_, rfl⟩ <;> first | (simp [entryFrame, mkF, argsToLocals, Value.category]; done) | rfl
theorem ef_5 (x0 : Int32) (x1 : Int32) (x2 : Int32) (x3 : Int32) (m : MethodId) : entryFrame m #[(.int x0), (.int x1), (.int x2), (.int x3)] maxLocals = mkF m 0 #[.val (.int x0), .val (.int x1), .val (.int x2), .val (.int x3), .unset, .unset, .unset, .unset, .unset, .unset, .unset, .unset, .unset, .unset, .unset, .unset, .unset, .unset, .unset, .unset] [] := by first | (simp [entryFrame, mkF, argsToLocals, Value.category, maxLocals]; done) | rfl
def EL : List (String × Nat) := consts_1
theorem ewEL {Z : State} {a0 : Array Value} (hw : ∀ d ∈ tables_1, d.before a0 Z = true) : EW Z a0 EL := (EW.cons (tw69 hw) (by decide) EW.nil)
theorem wSA {Z : State} {a0 : Array Value} (hw : ∀ d ∈ tables_1, d.before a0 Z = true) : ∀ a ∈ Bundle.stringAtoms, a.before a0 Z = true := fun d hd => hw d ((by decide +kernel : ∀ d ∈ Bundle.stringAtoms, d ∈ tables_1) d hd)
theorem wNew {Z : State} {a0 : Array Value} (hw : ∀ d ∈ tables_1, d.before a0 Z = true) : ∀ d ∈ StrChars.Road.words, d.before a0 Z = true := fun d hd => hw d ((by decide +kernel : ∀ d ∈ StrChars.Road.words, d ∈ tables_1) d hd)
theorem wLen {Z : State} {a0 : Array Value} (hw : ∀ d ∈ tables_1, d.before a0 Z = true) : ∀ d ∈ StrChars.Road.wordsLen, d.before a0 Z = true := fun d hd => hw d ((by decide +kernel : ∀ d ∈ StrChars.Road.wordsLen, d ∈ tables_1) d hd)
theorem wChN {Z : State} {a0 : Array Value} (hw : ∀ d ∈ tables_1, d.before a0 Z = true) : ∀ d ∈ StrChars.Road.wordsChN, d.before a0 Z = true := fun d hd => hw d ((by decide +kernel : ∀ d ∈ StrChars.Road.wordsChN, d ∈ tables_1) d hd)
theorem wEq {Z : State} {a0 : Array Value} (hw : ∀ d ∈ tables_1, d.before a0 Z = true) : ∀ d ∈ StrChars.Road.wordsEq, d.before a0 Z = true := fun d hd => hw d ((by decide +kernel : ∀ d ∈ StrChars.Road.wordsEq, d ∈ tables_1) d hd)
set_option maxRecDepth 65536 in
set_option maxHeartbeats 40000000 in
theorem rm_record {l : Launch} {Z : State} {a0 : Array Value} (hw : ∀ d ∈ tables_1, d.before a0 Z = true) (a : Addr) (h0 : Heap) (hE : Ext Z.heap h0)  :
    Own.Ctr false l Z a0 EL (⟨"java/lang/Record", "<init>", "()V"⟩ : MethodName) jdk_30_method_1_code 1 (Option.none : Option Jvm.ClassFile.FieldType) ({ frames := 1, cells := 0, slots := 0, locals := 12 } : Room) #[(.ref a)] h0 [] (fun v h => v = none) := by
  refine Own.Ctr.of pn_0 (ef_0 a) hE (ewEL hw) ?_
  intro p e s m below meth c T0 X0 hsafe
  refine Own.s_aloadN X0 dc_jdk_30_method_1_0 rfl rfl rfl ?_
  refine Own.s_initO X0 dc_jdk_30_method_1_1 (tw55 hw) (tw12 hw) (tw13 hw) 0 (Nat.le_of_eq rfl) (by decide) (by decide) rfl rfl ?_
  intro T1 X1
  exact Own.r_void X1 rfl dc_jdk_30_method_1_4 (by decide) (by decide) (rfl)
set_option maxRecDepth 65536 in
set_option maxHeartbeats 40000000 in
theorem rm_canEnc {l : Launch} {Z : State} {a0 : Array Value} (hw : ∀ d ∈ tables_1, d.before a0 Z = true) (z : Int32) (hz : Own.Lat z) (h0 : Heap) (hE : Ext Z.heap h0)  :
    Own.Ctr false l Z a0 EL (⟨"java/lang/StringLatin1", "canEncode", "(C)Z"⟩ : MethodName) jdk_43_method_3_code 1 (Option.some Jvm.ClassFile.FieldType.boolean) ({ frames := 0, cells := 0, slots := 0, locals := 0 } : Room) #[(.int z)] h0 [] (fun v h => v = some (.int (1 : Int32))) := by
  refine Own.Ctr.of pn_1 (ef_1 z) hE (ewEL hw) ?_
  intro p e s m below meth c T0 X0 hsafe
  refine Own.s_iloadN X0 dc_jdk_43_method_3_0 rfl rfl ?_
  refine Own.s_sipush X0 dc_jdk_43_method_3_1 (255 : Int32) (by decide) rfl ?_
  refine Own.s_icmpF X0 dc_jdk_43_method_3_4 (flt hz.2).2.2.1 rfl ?_
  refine Own.s_iconst X0 dc_jdk_43_method_3_7 (1 : Int32) (by decide) rfl ?_
  refine Own.s_goto X0 dc_jdk_43_method_3_8 (by decide) (pc' := 12) (by decide) ?_
  exact Own.r_nar X0 rfl (Or.inl rfl) dc_jdk_43_method_3_12 (by decide) (by decide) (by decide)
set_option maxRecDepth 65536 in
set_option maxHeartbeats 40000000 in
theorem rm_toBytes {l : Launch} {Z : State} {a0 : Array Value} (hw : ∀ d ∈ tables_1, d.before a0 Z = true) (z : Int32) (h0 : Heap) (hE : Ext Z.heap h0)  :
    Own.Ctr false l Z a0 EL (⟨"java/lang/StringLatin1", "toBytes", "(C)[B"⟩ : MethodName) jdk_43_method_46_code 1 (Option.some (Jvm.ClassFile.FieldType.array Jvm.ClassFile.FieldType.byte)) ({ frames := 0, cells := 1, slots := 1, locals := 0 } : Room) #[(.int z)] h0 [] (fun v h => ∃ t kb, v = some (.ref t) ∧ h0.size ≤ t ∧ Arv Z h t kb .byte (1 : Int32) [(.int z.toInt8.toInt32.toInt8.toInt32)] (.int (0 : Int32))) := by
  refine Own.Ctr.of pn_2 (ef_1 z) hE (ewEL hw) ?_
  intro p e s m below meth c T0 X0 hsafe
  refine Own.s_iconst X0 dc_jdk_43_method_46_0 (1 : Int32) (by decide) rfl ?_
  refine Own.s_newarray X0 dc_jdk_43_method_46_1 (tw19 hw) (by decide) 1 (by decide) (by decide) (by decide) (by decide) rfl ?_
  intro b1 T1 h1 k1 X1 V1 g1 A1 O1
  have B1 : Arv Z h1 b1 k1 .byte (1 : Int32) [(.int (0 : Int32))] (.int (0 : Int32)) := A1.pad (pad_rep [] (.int (0 : Int32)) 1)
  refine Own.s_dup X1 dc_jdk_43_method_46_3 rfl rfl ?_
  refine Own.s_iconst X1 dc_jdk_43_method_46_4 (0 : Int32) (by decide) rfl ?_
  refine Own.s_iloadN X1 dc_jdk_43_method_46_5 rfl rfl ?_
  refine Own.s_i2b X1 dc_jdk_43_method_46_6 rfl ?_
  refine Own.s_bastore X1 dc_jdk_43_method_46_7 B1 ⟨by decide, by decide⟩ 0 (by decide) (Nat.le_of_ble_eq_true rfl) O1 rfl ?_
  intro T2 h2 X2 V2 A2
  have B2 : Arv Z h2 b1 k1 .byte (1 : Int32) [(.int (z.toInt8.toInt32).toInt8.toInt32)] (.int (0 : Int32)) := A2
  exact Own.r_ref X2 rfl rfl rfl dc_jdk_43_method_46_8 (by decide) (by decide) (⟨b1, k1, rfl, g1, B2⟩)
set_option maxRecDepth 65536 in
set_option maxHeartbeats 40000000 in
theorem rm_strBB {l : Launch} {Z : State} {a0 : Array Value} (hw : ∀ d ∈ tables_1, d.before a0 Z = true) (a : Addr) (t : Addr)  (h0 : Heap) (hE : Ext Z.heap h0) (ga : Z.heap.size ≤ a) (E : Exa Z h0 a "java/lang/String") (F_value : Fld Z h0 a "java/lang/String" "value" "[B" .null) (F_coder : Fld Z h0 a "java/lang/String" "coder" "B" (.int 0))  :
    Own.Ctr false l Z a0 EL (⟨"java/lang/String", "<init>", "([BB)V"⟩ : MethodName) jdk_42_method_151_code 3 (Option.none : Option Jvm.ClassFile.FieldType) ({ frames := 1, cells := 0, slots := 0, locals := 12 } : Room) #[(.ref a), (.ref t), (.int (0 : Int32))] h0 [a] (fun v h => v = none ∧ Exa Z h a "java/lang/String" ∧ Fld Z h a "java/lang/String" "value" "[B" (.ref t) ∧ Fld Z h a "java/lang/String" "coder" "B" (.int (0 : Int32))) := by
  refine Own.Ctr.of pn_3 (ef_2 a t (0 : Int32)) hE (ewEL hw) ?_
  intro p e s m below meth c T0 X0 hsafe
  have O0 : Own.Ok false Z EL h0 [a] s.vm h0 a := ⟨E.lt, ga, Or.inl (List.mem_singleton.mpr rfl), fun q => hsafe q _ (List.mem_singleton.mpr rfl)⟩
  refine Own.s_aloadN X0 dc_jdk_42_method_151_0 rfl rfl rfl ?_
  refine Own.s_initO X0 dc_jdk_42_method_151_1 (tw11 hw) (tw12 hw) (tw13 hw) 0 (Nat.le_of_eq rfl) (by decide) (by decide) rfl rfl ?_
  intro T1 X1
  refine Own.s_aloadN X1 dc_jdk_42_method_151_4 rfl rfl rfl ?_
  refine Own.s_aloadN X1 dc_jdk_42_method_151_5 rfl rfl rfl ?_
  refine Own.s_putfield X1 dc_jdk_42_method_151_6 (tw28 hw) F_value E (Or.inr ⟨(tw29 hw), rfl, rfl⟩) (tw1 hw) (ty := (.array .byte)) (by decide) rfl rfl O0 rfl ?_
  intro T2 h2 X2 V2 W2
  have F2 := Fld.same W2 F_value
  refine Own.s_aloadN X2 dc_jdk_42_method_151_9 rfl rfl rfl ?_
  refine Own.s_iloadN X2 dc_jdk_42_method_151_10 rfl rfl ?_
  have F_4 := (Fld.other W2 F_coder (Or.inr (slot_ne (Or.inr (tw27 hw)) (Or.inr (tw29 hw)) (by decide) (t := .byte) (t' := (.array .byte)) (by decide) (by decide))))
  have E_5 := (Exa.keep E V2.1)
  have O6 := (O0.ev V2)
  refine Own.s_putfieldN X2 dc_jdk_42_method_151_11 (tw26 hw) F_4 E_5 (Or.inr ⟨(tw27 hw), rfl, rfl⟩) (tw1 hw) (ty := .byte) (v' := (.int (0 : Int32))) (by decide) (by decide) (by decide) O6 rfl ?_
  intro T3 h3 X3 V3 W3
  have F3 := Fld.same W3 F_4
  have E_7 := (Exa.keep E_5 V3.1)
  have F_8 := (Fld.other W3 F2 (Or.inr (slot_ne (Or.inr (tw29 hw)) (Or.inr (tw27 hw)) (by decide) (t := (.array .byte)) (t' := .byte) (by decide) (by decide))))
  exact Own.r_void X3 rfl dc_jdk_42_method_151_14 (by decide) (by decide) (⟨rfl, E_7, F_8, F3⟩)
set_option maxRecDepth 65536 in
set_option maxHeartbeats 40000000 in
theorem rm_valueOf {l : Launch} {Z : State} {a0 : Array Value} (hw : ∀ d ∈ tables_1, d.before a0 Z = true) (z : Int32) (hz : Own.Lat z) {zc : Int32} (SC : Sta Z Z.heap "java/lang/String" "COMPACT_STRINGS" "Z" (.int zc)) (hzc : ¬ zc = 0) {fm : Value} (SF : Sta Z Z.heap "jdk/internal/util/Preconditions" "SIOOBE_FORMATTER" "Ljava/util/function/BiFunction;" fm) (hfm : fm.isRef = true) (h0 : Heap) (hE : Ext Z.heap h0)  :
    Own.Ctr false l Z a0 EL (⟨"java/lang/String", "valueOf", "(C)Ljava/lang/String;"⟩ : MethodName) jdk_42_method_139_code 1 (Option.some (Jvm.ClassFile.FieldType.object "java/lang/String")) ({ frames := 2, cells := 2, slots := 5, locals := 27 } : Room) #[(.int z)] h0 [] (fun v h => ∃ r, v = some (.ref r) ∧ h0.size ≤ r ∧ Own.Str Z h r [z]) := by
  refine Own.Ctr.of pn_4 (ef_1 z) hE (ewEL hw) ?_
  intro p e s m below meth c T0 X0 hsafe
  have SC0 := Sta.ext hE SC
  have SF0 := Sta.ext hE SF
  refine Own.s_getstatic X0 dc_jdk_42_method_139_0 (tw14 hw) SC0 rfl ?_
  intro T1 X1
  refine Own.s_ifF X1 dc_jdk_42_method_139_3 ((if0 _ _).trans (feq hzc).1) rfl ?_
  refine Own.s_iloadN X1 dc_jdk_42_method_139_6 rfl rfl ?_
  refine Own.c_static X1 dc_jdk_42_method_139_7 (tw33 hw) (tw34 hw) (tw35 hw) (tw36 hw) (by decide) [(.int z)] [] 0 (rm_canEnc hw z hz h0 X1.hE) (fun q => nomatch q) Own.Ok.nil (lenOf pd_0 rfl) rfl (Nat.le_of_eq rfl) (by decide) (by decide) (by decide) (by decide) rfl rfl ?_
  intro v2 vm2 T2 h2 L2 X2 V2 Q2
  obtain rfl := Q2
  refine Own.s_ifF X2 dc_jdk_42_method_139_10 ((if0 _ _).trans (feq (show ¬ (1 : Int32) = (0 : Int32) by decide)).1) rfl ?_
  refine Own.s_new X2 dc_jdk_42_method_139_13 (tw37 hw) (tw1 hw) (tw2 hw) (by decide) (by decide) rfl ?_
  intro b3 T3 h3 X3 V3 g3 E3 O3 D3
  have F3_coder : Fld Z h3 b3 "java/lang/String" "coder" "B" (.int 0) := D3 (Or.inr (tw27 hw)) (ty := .byte) (by decide)
  have F3_value : Fld Z h3 b3 "java/lang/String" "value" "[B" (.null) := D3 (Or.inr (tw29 hw)) (ty := (.array .byte)) (by decide)
  refine Own.s_dup X3 dc_jdk_42_method_139_16 rfl rfl ?_
  refine Own.s_iloadN X3 dc_jdk_42_method_139_17 rfl rfl ?_
  refine Own.c_static X3 dc_jdk_42_method_139_18 (tw38 hw) (tw39 hw) (tw35 hw) (tw40 hw) (by decide) [(.int z)] [(.ref b3), (.ref b3)] 2 (rm_toBytes hw z h3 X3.hE) (fun q => nomatch q) Own.Ok.nil (lenOf pd_1 rfl) rfl (Nat.le_of_eq rfl) (by decide) (by decide) (by decide) (by decide) rfl rfl ?_
  intro v4 vm4 T4 h4 L4 X4 V4 Q4
  obtain ⟨t4, k4, rfl, g4, A4⟩ := Q4
  refine Own.s_iconst X4 dc_jdk_42_method_139_21 (0 : Int32) (by decide) rfl ?_
  have ex5 : Ext h3 h4 := Own.extK (Own.Ext.rfl' h3) V4.1 all0
  have F_6 := Fld.ext ex5 F3_value
  have F_7 := Fld.ext ex5 F3_coder
  have E_8 := Exa.ext ex5 E3
  have O9 := (O3.ev V4)
  refine Own.c_special X4 dc_jdk_42_method_139_22 rfl (tw41 hw) (tw42 hw) (tw2 hw) (tw43 hw) (by decide) b3 [(.ref t4), (.int (0 : Int32))] [(.ref b3)] 1 (rm_strBB hw b3 t4  h4 X4.hE O9.2.1 E_8 F_6 F_7 ) (fun q => nomatch q) (Own.Ok.one O9) (lenOf pd_2 rfl) rfl (Nat.le_of_eq rfl) (by decide) (by decide) (by decide) (by decide) rfl rfl ?_
  intro v10 vm10 T10 h10 L10 X10 V10 Q10
  obtain ⟨rfl, E10, F10_0, F10_1⟩ := Q10
  have le11 : h0.size ≤ h2.size := V2.1.1
  have ne12 : t4 ≠ b3 := (Nat.ne_of_gt (Nat.lt_of_lt_of_le E3.lt g4))
  have A_13 := (Arv.keep A4 V10.1 (ninS ne12 nin0))
  exact Own.r_ref X10 rfl rfl rfl dc_jdk_42_method_139_25 (by decide) (by decide) (⟨b3, rfl, (Nat.le_trans le11 g3), Own.str1 hz E10 F10_1 F10_0 A_13⟩)
set_option maxRecDepth 65536 in
set_option maxHeartbeats 40000000 in
theorem rm_eqNull {l : Launch} {Z : State} {a0 : Array Value} (hw : ∀ d ∈ tables_1, d.before a0 Z = true) (a : Addr) (h0 : Heap) (hE : Ext Z.heap h0)  :
    Own.Ctr false l Z a0 EL (⟨"java/lang/String", "equals", "(Ljava/lang/Object;)Z"⟩ : MethodName) jdk_42_method_66_code 3 (Option.some Jvm.ClassFile.FieldType.boolean) ({ frames := 0, cells := 0, slots := 0, locals := 0 } : Room) #[(.ref a), .null] h0 [] (fun v h => v = some (.int (0 : Int32))) := by
  refine Own.Ctr.of pn_5 (ef_3 a) hE (ewEL hw) ?_
  intro p e s m below meth c T0 X0 hsafe
  refine Own.s_aloadN X0 dc_jdk_42_method_66_0 rfl rfl rfl ?_
  refine Own.s_aloadN X0 dc_jdk_42_method_66_1 rfl rfl rfl ?_
  refine Own.s_acmpT X0 dc_jdk_42_method_66_2 rfl rfl (XT.aa_ne_t nofun) (by decide) (pc' := 7) (by decide) ?_
  refine Own.s_aloadN X0 dc_jdk_42_method_66_7 rfl rfl rfl ?_
  refine Own.s_instNull X0 dc_jdk_42_method_66_8 rfl ?_
  refine Own.s_ifT X0 dc_jdk_42_method_66_11 ((if0 _ _).trans (teq (show (0 : Int32) = (0 : Int32) by decide)).1) (by decide) (pc' := 54) (by decide) ?_
  refine Own.s_iconst X0 dc_jdk_42_method_66_54 (0 : Int32) (by decide) rfl ?_
  exact Own.r_nar X0 rfl (Or.inl rfl) dc_jdk_42_method_66_55 (by decide) (by decide) (by decide)
set_option maxRecDepth 65536 in
set_option maxHeartbeats 40000000 in
theorem rm_le0 {l : Launch} {Z : State} {a0 : Array Value} (hw : ∀ d ∈ tables_1, d.before a0 Z = true) (a : Addr) (i1 : Addr) (i2 : Addr) (sv : Value) (qs : sv.isRef = true)  (h0 : Heap) (hE : Ext Z.heap h0) (ga : Z.heap.size ≤ a) (E : Exa Z h0 a "com/example/carelane/carelane/registry/LegalEntity") (F_id : Fld Z h0 a "com/example/carelane/carelane/registry/LegalEntity" "id" "Ljava/lang/String;" .null) (F_type : Fld Z h0 a "com/example/carelane/carelane/registry/LegalEntity" "type" "Ljava/lang/String;" .null) (F_status : Fld Z h0 a "com/example/carelane/carelane/registry/LegalEntity" "status" "Ljava/lang/String;" .null) (F_isActive : Fld Z h0 a "com/example/carelane/carelane/registry/LegalEntity" "isActive" "Z" (.int 0))  :
    Own.Ctr false l Z a0 EL (⟨"com/example/carelane/carelane/registry/LegalEntity", "<init>", "(Ljava/lang/String;Ljava/lang/String;Ljava/lang/String;Z)V"⟩ : MethodName) prog_23_method_1_code 5 (Option.none : Option Jvm.ClassFile.FieldType) ({ frames := 2, cells := 0, slots := 0, locals := 24 } : Room) #[(.ref a), (.ref i1), (.ref i2), sv, (.int (0 : Int32))] h0 [a] (fun v h => v = none ∧ Exa Z h a "com/example/carelane/carelane/registry/LegalEntity" ∧ Fld Z h a "com/example/carelane/carelane/registry/LegalEntity" "id" "Ljava/lang/String;" (.ref i1) ∧ Fld Z h a "com/example/carelane/carelane/registry/LegalEntity" "type" "Ljava/lang/String;" (.ref i2) ∧ Fld Z h a "com/example/carelane/carelane/registry/LegalEntity" "status" "Ljava/lang/String;" sv ∧ Fld Z h a "com/example/carelane/carelane/registry/LegalEntity" "isActive" "Z" (.int (0 : Int32))) := by
  refine Own.Ctr.of pn_6 (ef_4 a i1 i2 sv qs (0 : Int32)) hE (ewEL hw) ?_
  intro p e s m below meth c T0 X0 hsafe
  have O0 : Own.Ok false Z EL h0 [a] s.vm h0 a := ⟨E.lt, ga, Or.inl (List.mem_singleton.mpr rfl), fun q => hsafe q _ (List.mem_singleton.mpr rfl)⟩
  refine Own.s_aloadN X0 dc_prog_23_method_1_0 rfl rfl rfl ?_
  refine Own.c_special X0 dc_prog_23_method_1_1 rfl (tw50 hw) (tw51 hw) (tw53 hw) (tw54 hw) (by decide) a [] [] 0 (rm_record hw a h0 X0.hE) (fun q => nomatch q) Own.Ok.nil (lenOf pd_3 rfl) rfl (Nat.le_of_eq rfl) (by decide) (by decide) (by decide) (by decide) rfl rfl ?_
  intro v1 vm1 T1 h1 L1 X1 V1 Q1
  obtain rfl := Q1
  refine Own.s_aloadN X1 dc_prog_23_method_1_4 rfl rfl rfl ?_
  refine Own.s_aloadN X1 dc_prog_23_method_1_5 rfl rfl rfl ?_
  have ex3 : Ext h0 h1 := Own.extK (Own.Ext.rfl' h0) V1.1 all0
  have F_4 := Fld.ext ex3 F_id
  have E_5 := Exa.ext ex3 E
  have O6 := (O0.ev V1)
  refine Own.s_putfield X1 dc_prog_23_method_1_6 (tw56 hw) F_4 E_5 (Or.inr ⟨(tw57 hw), rfl, rfl⟩) (tw45 hw) (ty := (.object "java/lang/String")) (by decide) rfl rfl O6 rfl ?_
  intro T2 h2 X2 V2 W2
  have F2 := Fld.same W2 F_4
  refine Own.s_aloadN X2 dc_prog_23_method_1_9 rfl rfl rfl ?_
  refine Own.s_aloadN X2 dc_prog_23_method_1_10 rfl rfl rfl ?_
  have F_8 := (Fld.other W2 (Fld.ext (Own.extN V1.1) F_type) (Or.inr (slot_ne (Or.inr (tw59 hw)) (Or.inr (tw57 hw)) (by decide) (t := (.object "java/lang/String")) (t' := (.object "java/lang/String")) (by decide) (by decide))))
  have E_9 := (Exa.keep E_5 V2.1)
  have O10 := (O6.ev V2)
  refine Own.s_putfield X2 dc_prog_23_method_1_11 (tw58 hw) F_8 E_9 (Or.inr ⟨(tw59 hw), rfl, rfl⟩) (tw45 hw) (ty := (.object "java/lang/String")) (by decide) rfl rfl O10 rfl ?_
  intro T7 h7 X7 V7 W7
  have F7 := Fld.same W7 F_8
  refine Own.s_aloadN X7 dc_prog_23_method_1_14 rfl rfl rfl ?_
  refine Own.s_aloadN X7 dc_prog_23_method_1_15 rfl qs rfl ?_
  have F_12 := (Fld.other W7 (Fld.other W2 (Fld.ext (Own.extN V1.1) F_status) (Or.inr (slot_ne (Or.inr (tw61 hw)) (Or.inr (tw57 hw)) (by decide) (t := (.object "java/lang/String")) (t' := (.object "java/lang/String")) (by decide) (by decide)))) (Or.inr (slot_ne (Or.inr (tw61 hw)) (Or.inr (tw59 hw)) (by decide) (t := (.object "java/lang/String")) (t' := (.object "java/lang/String")) (by decide) (by decide))))
  have E_13 := (Exa.keep E_9 V7.1)
  have O14 := (O10.ev V7)
  refine Own.s_putfield X7 dc_prog_23_method_1_16 (tw60 hw) F_12 E_13 (Or.inr ⟨(tw61 hw), rfl, rfl⟩) (tw45 hw) (ty := (.object "java/lang/String")) (by decide) (Own.narR rfl _) (Own.fitR rfl qs) O14 rfl ?_
  intro T11 h11 X11 V11 W11
  have F11 := Fld.same W11 F_12
  refine Own.s_aloadN X11 dc_prog_23_method_1_19 rfl rfl rfl ?_
  refine Own.s_iload X11 dc_prog_23_method_1_20 rfl rfl ?_
  have F_16 := (Fld.other W11 (Fld.other W7 (Fld.other W2 (Fld.ext (Own.extN V1.1) F_isActive) (Or.inr (slot_ne (Or.inr (tw63 hw)) (Or.inr (tw57 hw)) (by decide) (t := .boolean) (t' := (.object "java/lang/String")) (by decide) (by decide)))) (Or.inr (slot_ne (Or.inr (tw63 hw)) (Or.inr (tw59 hw)) (by decide) (t := .boolean) (t' := (.object "java/lang/String")) (by decide) (by decide)))) (Or.inr (slot_ne (Or.inr (tw63 hw)) (Or.inr (tw61 hw)) (by decide) (t := .boolean) (t' := (.object "java/lang/String")) (by decide) (by decide))))
  have E_17 := (Exa.keep E_13 V11.1)
  have O18 := (O14.ev V11)
  refine Own.s_putfieldN X11 dc_prog_23_method_1_22 (tw62 hw) F_16 E_17 (Or.inr ⟨(tw63 hw), rfl, rfl⟩) (tw45 hw) (ty := .boolean) (v' := (.int (0 : Int32))) (by decide) (by decide) (by decide) O18 rfl ?_
  intro T15 h15 X15 V15 W15
  have F15 := Fld.same W15 F_16
  have E_19 := (Exa.keep E_17 V15.1)
  have F_20 := (Fld.other W15 (Fld.other W11 (Fld.other W7 F2 (Or.inr (slot_ne (Or.inr (tw57 hw)) (Or.inr (tw59 hw)) (by decide) (t := (.object "java/lang/String")) (t' := (.object "java/lang/String")) (by decide) (by decide)))) (Or.inr (slot_ne (Or.inr (tw57 hw)) (Or.inr (tw61 hw)) (by decide) (t := (.object "java/lang/String")) (t' := (.object "java/lang/String")) (by decide) (by decide)))) (Or.inr (slot_ne (Or.inr (tw57 hw)) (Or.inr (tw63 hw)) (by decide) (t := (.object "java/lang/String")) (t' := .boolean) (by decide) (by decide))))
  have F_21 := (Fld.other W15 (Fld.other W11 F7 (Or.inr (slot_ne (Or.inr (tw59 hw)) (Or.inr (tw61 hw)) (by decide) (t := (.object "java/lang/String")) (t' := (.object "java/lang/String")) (by decide) (by decide)))) (Or.inr (slot_ne (Or.inr (tw59 hw)) (Or.inr (tw63 hw)) (by decide) (t := (.object "java/lang/String")) (t' := .boolean) (by decide) (by decide))))
  have F_22 := (Fld.other W15 F11 (Or.inr (slot_ne (Or.inr (tw61 hw)) (Or.inr (tw63 hw)) (by decide) (t := (.object "java/lang/String")) (t' := .boolean) (by decide) (by decide))))
  exact Own.r_void X15 rfl dc_prog_23_method_1_25 (by decide) (by decide) (⟨rfl, E_19, F_20, F_21, F_22, F15⟩)
set_option maxRecDepth 65536 in
set_option maxHeartbeats 40000000 in
theorem rm_le1 {l : Launch} {Z : State} {a0 : Array Value} (hw : ∀ d ∈ tables_1, d.before a0 Z = true) (a : Addr) (i1 : Addr) (i2 : Addr) (sv : Value) (qs : sv.isRef = true)  (h0 : Heap) (hE : Ext Z.heap h0) (ga : Z.heap.size ≤ a) (E : Exa Z h0 a "com/example/carelane/carelane/registry/LegalEntity") (F_id : Fld Z h0 a "com/example/carelane/carelane/registry/LegalEntity" "id" "Ljava/lang/String;" .null) (F_type : Fld Z h0 a "com/example/carelane/carelane/registry/LegalEntity" "type" "Ljava/lang/String;" .null) (F_status : Fld Z h0 a "com/example/carelane/carelane/registry/LegalEntity" "status" "Ljava/lang/String;" .null) (F_isActive : Fld Z h0 a "com/example/carelane/carelane/registry/LegalEntity" "isActive" "Z" (.int 0))  :
    Own.Ctr false l Z a0 EL (⟨"com/example/carelane/carelane/registry/LegalEntity", "<init>", "(Ljava/lang/String;Ljava/lang/String;Ljava/lang/String;Z)V"⟩ : MethodName) prog_23_method_1_code 5 (Option.none : Option Jvm.ClassFile.FieldType) ({ frames := 2, cells := 0, slots := 0, locals := 24 } : Room) #[(.ref a), (.ref i1), (.ref i2), sv, (.int (1 : Int32))] h0 [a] (fun v h => v = none ∧ Exa Z h a "com/example/carelane/carelane/registry/LegalEntity" ∧ Fld Z h a "com/example/carelane/carelane/registry/LegalEntity" "id" "Ljava/lang/String;" (.ref i1) ∧ Fld Z h a "com/example/carelane/carelane/registry/LegalEntity" "type" "Ljava/lang/String;" (.ref i2) ∧ Fld Z h a "com/example/carelane/carelane/registry/LegalEntity" "status" "Ljava/lang/String;" sv ∧ Fld Z h a "com/example/carelane/carelane/registry/LegalEntity" "isActive" "Z" (.int (1 : Int32))) := by
  refine Own.Ctr.of pn_6 (ef_4 a i1 i2 sv qs (1 : Int32)) hE (ewEL hw) ?_
  intro p e s m below meth c T0 X0 hsafe
  have O0 : Own.Ok false Z EL h0 [a] s.vm h0 a := ⟨E.lt, ga, Or.inl (List.mem_singleton.mpr rfl), fun q => hsafe q _ (List.mem_singleton.mpr rfl)⟩
  refine Own.s_aloadN X0 dc_prog_23_method_1_0 rfl rfl rfl ?_
  refine Own.c_special X0 dc_prog_23_method_1_1 rfl (tw50 hw) (tw51 hw) (tw53 hw) (tw54 hw) (by decide) a [] [] 0 (rm_record hw a h0 X0.hE) (fun q => nomatch q) Own.Ok.nil (lenOf pd_3 rfl) rfl (Nat.le_of_eq rfl) (by decide) (by decide) (by decide) (by decide) rfl rfl ?_
  intro v1 vm1 T1 h1 L1 X1 V1 Q1
  obtain rfl := Q1
  refine Own.s_aloadN X1 dc_prog_23_method_1_4 rfl rfl rfl ?_
  refine Own.s_aloadN X1 dc_prog_23_method_1_5 rfl rfl rfl ?_
  have ex3 : Ext h0 h1 := Own.extK (Own.Ext.rfl' h0) V1.1 all0
  have F_4 := Fld.ext ex3 F_id
  have E_5 := Exa.ext ex3 E
  have O6 := (O0.ev V1)
  refine Own.s_putfield X1 dc_prog_23_method_1_6 (tw56 hw) F_4 E_5 (Or.inr ⟨(tw57 hw), rfl, rfl⟩) (tw45 hw) (ty := (.object "java/lang/String")) (by decide) rfl rfl O6 rfl ?_
  intro T2 h2 X2 V2 W2
  have F2 := Fld.same W2 F_4
  refine Own.s_aloadN X2 dc_prog_23_method_1_9 rfl rfl rfl ?_
  refine Own.s_aloadN X2 dc_prog_23_method_1_10 rfl rfl rfl ?_
  have F_8 := (Fld.other W2 (Fld.ext (Own.extN V1.1) F_type) (Or.inr (slot_ne (Or.inr (tw59 hw)) (Or.inr (tw57 hw)) (by decide) (t := (.object "java/lang/String")) (t' := (.object "java/lang/String")) (by decide) (by decide))))
  have E_9 := (Exa.keep E_5 V2.1)
  have O10 := (O6.ev V2)
  refine Own.s_putfield X2 dc_prog_23_method_1_11 (tw58 hw) F_8 E_9 (Or.inr ⟨(tw59 hw), rfl, rfl⟩) (tw45 hw) (ty := (.object "java/lang/String")) (by decide) rfl rfl O10 rfl ?_
  intro T7 h7 X7 V7 W7
  have F7 := Fld.same W7 F_8
  refine Own.s_aloadN X7 dc_prog_23_method_1_14 rfl rfl rfl ?_
  refine Own.s_aloadN X7 dc_prog_23_method_1_15 rfl qs rfl ?_
  have F_12 := (Fld.other W7 (Fld.other W2 (Fld.ext (Own.extN V1.1) F_status) (Or.inr (slot_ne (Or.inr (tw61 hw)) (Or.inr (tw57 hw)) (by decide) (t := (.object "java/lang/String")) (t' := (.object "java/lang/String")) (by decide) (by decide)))) (Or.inr (slot_ne (Or.inr (tw61 hw)) (Or.inr (tw59 hw)) (by decide) (t := (.object "java/lang/String")) (t' := (.object "java/lang/String")) (by decide) (by decide))))
  have E_13 := (Exa.keep E_9 V7.1)
  have O14 := (O10.ev V7)
  refine Own.s_putfield X7 dc_prog_23_method_1_16 (tw60 hw) F_12 E_13 (Or.inr ⟨(tw61 hw), rfl, rfl⟩) (tw45 hw) (ty := (.object "java/lang/String")) (by decide) (Own.narR rfl _) (Own.fitR rfl qs) O14 rfl ?_
  intro T11 h11 X11 V11 W11
  have F11 := Fld.same W11 F_12
  refine Own.s_aloadN X11 dc_prog_23_method_1_19 rfl rfl rfl ?_
  refine Own.s_iload X11 dc_prog_23_method_1_20 rfl rfl ?_
  have F_16 := (Fld.other W11 (Fld.other W7 (Fld.other W2 (Fld.ext (Own.extN V1.1) F_isActive) (Or.inr (slot_ne (Or.inr (tw63 hw)) (Or.inr (tw57 hw)) (by decide) (t := .boolean) (t' := (.object "java/lang/String")) (by decide) (by decide)))) (Or.inr (slot_ne (Or.inr (tw63 hw)) (Or.inr (tw59 hw)) (by decide) (t := .boolean) (t' := (.object "java/lang/String")) (by decide) (by decide)))) (Or.inr (slot_ne (Or.inr (tw63 hw)) (Or.inr (tw61 hw)) (by decide) (t := .boolean) (t' := (.object "java/lang/String")) (by decide) (by decide))))
  have E_17 := (Exa.keep E_13 V11.1)
  have O18 := (O14.ev V11)
  refine Own.s_putfieldN X11 dc_prog_23_method_1_22 (tw62 hw) F_16 E_17 (Or.inr ⟨(tw63 hw), rfl, rfl⟩) (tw45 hw) (ty := .boolean) (v' := (.int (1 : Int32))) (by decide) (by decide) (by decide) O18 rfl ?_
  intro T15 h15 X15 V15 W15
  have F15 := Fld.same W15 F_16
  have E_19 := (Exa.keep E_17 V15.1)
  have F_20 := (Fld.other W15 (Fld.other W11 (Fld.other W7 F2 (Or.inr (slot_ne (Or.inr (tw57 hw)) (Or.inr (tw59 hw)) (by decide) (t := (.object "java/lang/String")) (t' := (.object "java/lang/String")) (by decide) (by decide)))) (Or.inr (slot_ne (Or.inr (tw57 hw)) (Or.inr (tw61 hw)) (by decide) (t := (.object "java/lang/String")) (t' := (.object "java/lang/String")) (by decide) (by decide)))) (Or.inr (slot_ne (Or.inr (tw57 hw)) (Or.inr (tw63 hw)) (by decide) (t := (.object "java/lang/String")) (t' := .boolean) (by decide) (by decide))))
  have F_21 := (Fld.other W15 (Fld.other W11 F7 (Or.inr (slot_ne (Or.inr (tw59 hw)) (Or.inr (tw61 hw)) (by decide) (t := (.object "java/lang/String")) (t' := (.object "java/lang/String")) (by decide) (by decide)))) (Or.inr (slot_ne (Or.inr (tw59 hw)) (Or.inr (tw63 hw)) (by decide) (t := (.object "java/lang/String")) (t' := .boolean) (by decide) (by decide))))
  have F_22 := (Fld.other W15 F11 (Or.inr (slot_ne (Or.inr (tw61 hw)) (Or.inr (tw63 hw)) (by decide) (t := (.object "java/lang/String")) (t' := .boolean) (by decide) (by decide))))
  exact Own.r_void X15 rfl dc_prog_23_method_1_25 (by decide) (by decide) (⟨rfl, E_19, F_20, F_21, F_22, F15⟩)
set_option maxRecDepth 65536 in
set_option maxHeartbeats 40000000 in
theorem rm_awN0 {l : Launch} {Z : State} {a0 : Array Value} (hw : ∀ d ∈ tables_1, d.before a0 Z = true) (a : Addr) {zc : Int32} (SC : Sta Z Z.heap "java/lang/String" "COMPACT_STRINGS" "Z" (.int zc)) (hzc : ¬ zc = 0) {fm : Value} (SF : Sta Z Z.heap "jdk/internal/util/Preconditions" "SIOOBE_FORMATTER" "Ljava/util/function/BiFunction;" fm) (hfm : fm.isRef = true) (h0 : Heap) (hE : Ext Z.heap h0) (E : Exa Z h0 a "com/example/carelane/carelane/registry/LegalEntity") (Fs : Fld Z h0 a "com/example/carelane/carelane/registry/LegalEntity" "status" "Ljava/lang/String;" .null) (Fb : Fld Z h0 a "com/example/carelane/carelane/registry/LegalEntity" "isActive" "Z" (.int (0 : Int32))) :
    Own.Ctr true l Z a0 EL (⟨"com/example/carelane/carelane/registry/LegalEntity", "isAtWork", "()Z"⟩ : MethodName) prog_23_method_2_code 1 (Option.some Jvm.ClassFile.FieldType.boolean) ({ frames := 1, cells := 2, slots := 28, locals := 14 } : Room) #[(.ref a)] h0 [] (fun v h => v = some (.int (0 : Int32))) := by
  refine Own.Ctr.of pn_7 (ef_0 a) hE (ewEL hw) ?_
  intro p e s m below meth c T0 X0 hsafe
  have SC0 := Sta.ext hE SC
  have SF0 := Sta.ext hE SF
  refine Own.s_ldcStr rfl X0 dc_prog_23_method_2_0 (tw69 hw) (wSA hw) (by decide) (vs := [(.int (65 : Int32)), (.int (67 : Int32)), (.int (84 : Int32)), (.int (73 : Int32)), (.int (86 : Int32)), (.int (69 : Int32))]) (z := (6 : Int32)) ⟨by decide, by decide⟩ (by decide) (by decide) 24 (by decide) (by decide) (by decide) (by decide) rfl ?_
  intro a1 b1 k1 vm1 T1 h1 X1 V1 E1 C1 U1 A1
  have S1 : Own.Str Z h1 a1 [(65 : Int32), (67 : Int32), (84 : Int32), (73 : Int32), (86 : Int32), (69 : Int32)] := Own.Str.mk (by decide) (by decide) E1 C1 U1 A1
  refine Own.s_aloadN X1 dc_prog_23_method_2_2 rfl rfl rfl ?_
  have ex2 : Ext h0 h1 := Own.extK (Own.Ext.rfl' h0) V1.1 all0
  have F_3 := Fld.ext ex2 Fs
  refine Own.s_getfield X1 dc_prog_23_method_2_3 (tw60 hw) F_3 rfl ?_
  intro T4 X4
  refine Own.c_virtual X4 dc_prog_23_method_2_6 (tw72 hw) (tw73 hw) (notFace_of_selects (args := #[]) (mvT X4.hZ (tw75 hw))) (tw75 hw) (tw74 hw) (tw2 hw) (tw76 hw) (by decide) a1 [.null] [] 0 E1 (rm_eqNull hw a1 h1 X4.hE) (fun q => nomatch q) Own.Ok.nil (lenOf pd_4 rfl) rfl (Nat.le_of_eq rfl) (by decide) (by decide) (by decide) (by decide) rfl rfl ?_
  intro v5 vm5 T5 h5 L5 X5 V5 Q5
  obtain rfl := Q5
  refine Own.s_ifT X5 dc_prog_23_method_2_9 ((if0 _ _).trans (teq (show (0 : Int32) = (0 : Int32) by decide)).1) (by decide) (pc' := 23) (by decide) ?_
  refine Own.s_iconst X5 dc_prog_23_method_2_23 (0 : Int32) (by decide) rfl ?_
  exact Own.r_nar X5 rfl (Or.inl rfl) dc_prog_23_method_2_24 (by decide) (by decide) (by decide)
set_option maxRecDepth 65536 in
set_option maxHeartbeats 40000000 in
theorem rm_awS0 {l : Launch} {Z : State} {a0 : Array Value} (hw : ∀ d ∈ tables_1, d.before a0 Z = true) (a q : Addr) (cs : List Int32) {zc : Int32} (SC : Sta Z Z.heap "java/lang/String" "COMPACT_STRINGS" "Z" (.int zc)) (hzc : ¬ zc = 0) {fm : Value} (SF : Sta Z Z.heap "jdk/internal/util/Preconditions" "SIOOBE_FORMATTER" "Ljava/util/function/BiFunction;" fm) (hfm : fm.isRef = true) (h0 : Heap) (hE : Ext Z.heap h0) (E : Exa Z h0 a "com/example/carelane/carelane/registry/LegalEntity") (Fs : Fld Z h0 a "com/example/carelane/carelane/registry/LegalEntity" "status" "Ljava/lang/String;" (.ref q)) (Fb : Fld Z h0 a "com/example/carelane/carelane/registry/LegalEntity" "isActive" "Z" (.int (0 : Int32))) (S : Own.Str Z h0 q cs) :
    Own.Ctr true l Z a0 EL (⟨"com/example/carelane/carelane/registry/LegalEntity", "isAtWork", "()Z"⟩ : MethodName) prog_23_method_2_code 1 (Option.some Jvm.ClassFile.FieldType.boolean) ({ frames := 2, cells := 2, slots := 28, locals := 28 } : Room) #[(.ref a)] h0 [] (fun v h => (v = some (.int (1 : Int32)) ∧ cs = [(65 : Int32), (67 : Int32), (84 : Int32), (73 : Int32), (86 : Int32), (69 : Int32)] ∧ (0 : Int32) = (1 : Int32)) ∨ (v = some (.int (0 : Int32)) ∧ ¬ (cs = [(65 : Int32), (67 : Int32), (84 : Int32), (73 : Int32), (86 : Int32), (69 : Int32)] ∧ (0 : Int32) = (1 : Int32)))) := by
  refine Own.Ctr.of pn_7 (ef_0 a) hE (ewEL hw) ?_
  intro p e s m below meth c T0 X0 hsafe
  have SC0 := Sta.ext hE SC
  have SF0 := Sta.ext hE SF
  refine Own.s_ldcStr rfl X0 dc_prog_23_method_2_0 (tw69 hw) (wSA hw) (by decide) (vs := [(.int (65 : Int32)), (.int (67 : Int32)), (.int (84 : Int32)), (.int (73 : Int32)), (.int (86 : Int32)), (.int (69 : Int32))]) (z := (6 : Int32)) ⟨by decide, by decide⟩ (by decide) (by decide) 24 (by decide) (by decide) (by decide) (by decide) rfl ?_
  intro a1 b1 k1 vm1 T1 h1 X1 V1 E1 C1 U1 A1
  have S1 : Own.Str Z h1 a1 [(65 : Int32), (67 : Int32), (84 : Int32), (73 : Int32), (86 : Int32), (69 : Int32)] := Own.Str.mk (by decide) (by decide) E1 C1 U1 A1
  refine Own.s_aloadN X1 dc_prog_23_method_2_2 rfl rfl rfl ?_
  have ex2 : Ext h0 h1 := Own.extK (Own.Ext.rfl' h0) V1.1 all0
  have F_3 := Fld.ext ex2 Fs
  refine Own.s_getfield X1 dc_prog_23_method_2_3 (tw60 hw) F_3 rfl ?_
  intro T4 X4
  have S_5 := Own.Str.ext S ex2
  have Z_6 := Sta.ext ex2 SC0
  refine Own.b_virtual X4 dc_prog_23_method_2_6 (tw72 hw) (tw73 hw) (notFace_of_selects (args := #[]) (mvT X4.hZ (tw75 hw))) (tw75 hw) (tw74 hw) (by decide) a1 [(.ref q)] [] E1 (Own.strEq (W := 0) X4.hZ (wEq hw) (tw1 hw) S1 S_5 Z_6 hzc (by decide) (by decide)) (fun v h' L q => Own.strEqQ q) Own.Ok.nil (lenOf pd_4 rfl) rfl (Nat.le_of_eq rfl) (by decide) (by decide) rfl rfl ?_
  intro v7 vm7 T7 h7 L7 X7 V7 Q7
  obtain rfl := Q7
  by_cases hc9_8 : (if ([(65 : Int32), (67 : Int32), (84 : Int32), (73 : Int32), (86 : Int32), (69 : Int32)] : List Int32) = cs then 1 else 0) = (0 : Int32)
  · refine Own.s_ifT X7 dc_prog_23_method_2_9 ((if0 _ _).trans (teq hc9_8).1) (by decide) (pc' := 23) (by decide) ?_
    refine Own.s_iconst X7 dc_prog_23_method_2_23 (0 : Int32) (by decide) rfl ?_
    exact Own.r_nar X7 rfl (Or.inl rfl) dc_prog_23_method_2_24 (by decide) (by decide) (Or.inr ⟨by decide, fun q => absurd hc9_8 (by rw [if_pos q.1.symm]; decide)⟩)
  · refine Own.s_ifF X7 dc_prog_23_method_2_9 ((if0 _ _).trans (feq hc9_8).1) rfl ?_
    refine Own.s_aloadN X7 dc_prog_23_method_2_12 rfl rfl rfl ?_
    have ex9 : Ext h0 h7 := Own.extK ex2 V7.1 all0
    have F_10 := Fld.ext ex9 Fb
    refine Own.s_getfield X7 dc_prog_23_method_2_13 (tw62 hw) F_10 rfl ?_
    intro T11 X11
    refine Own.s_ifT X11 dc_prog_23_method_2_16 ((if0 _ _).trans (teq (show (0 : Int32) = (0 : Int32) by decide)).1) (by decide) (pc' := 23) (by decide) ?_
    refine Own.s_iconst X11 dc_prog_23_method_2_23 (0 : Int32) (by decide) rfl ?_
    exact Own.r_nar X11 rfl (Or.inl rfl) dc_prog_23_method_2_24 (by decide) (by decide) (Or.inr ⟨by decide, fun q => absurd q.2 (by decide)⟩)
set_option maxRecDepth 65536 in
set_option maxHeartbeats 40000000 in
theorem rm_awN1 {l : Launch} {Z : State} {a0 : Array Value} (hw : ∀ d ∈ tables_1, d.before a0 Z = true) (a : Addr) {zc : Int32} (SC : Sta Z Z.heap "java/lang/String" "COMPACT_STRINGS" "Z" (.int zc)) (hzc : ¬ zc = 0) {fm : Value} (SF : Sta Z Z.heap "jdk/internal/util/Preconditions" "SIOOBE_FORMATTER" "Ljava/util/function/BiFunction;" fm) (hfm : fm.isRef = true) (h0 : Heap) (hE : Ext Z.heap h0) (E : Exa Z h0 a "com/example/carelane/carelane/registry/LegalEntity") (Fs : Fld Z h0 a "com/example/carelane/carelane/registry/LegalEntity" "status" "Ljava/lang/String;" .null) (Fb : Fld Z h0 a "com/example/carelane/carelane/registry/LegalEntity" "isActive" "Z" (.int (1 : Int32))) :
    Own.Ctr true l Z a0 EL (⟨"com/example/carelane/carelane/registry/LegalEntity", "isAtWork", "()Z"⟩ : MethodName) prog_23_method_2_code 1 (Option.some Jvm.ClassFile.FieldType.boolean) ({ frames := 1, cells := 2, slots := 28, locals := 14 } : Room) #[(.ref a)] h0 [] (fun v h => v = some (.int (0 : Int32))) := by
  refine Own.Ctr.of pn_7 (ef_0 a) hE (ewEL hw) ?_
  intro p e s m below meth c T0 X0 hsafe
  have SC0 := Sta.ext hE SC
  have SF0 := Sta.ext hE SF
  refine Own.s_ldcStr rfl X0 dc_prog_23_method_2_0 (tw69 hw) (wSA hw) (by decide) (vs := [(.int (65 : Int32)), (.int (67 : Int32)), (.int (84 : Int32)), (.int (73 : Int32)), (.int (86 : Int32)), (.int (69 : Int32))]) (z := (6 : Int32)) ⟨by decide, by decide⟩ (by decide) (by decide) 24 (by decide) (by decide) (by decide) (by decide) rfl ?_
  intro a1 b1 k1 vm1 T1 h1 X1 V1 E1 C1 U1 A1
  have S1 : Own.Str Z h1 a1 [(65 : Int32), (67 : Int32), (84 : Int32), (73 : Int32), (86 : Int32), (69 : Int32)] := Own.Str.mk (by decide) (by decide) E1 C1 U1 A1
  refine Own.s_aloadN X1 dc_prog_23_method_2_2 rfl rfl rfl ?_
  have ex2 : Ext h0 h1 := Own.extK (Own.Ext.rfl' h0) V1.1 all0
  have F_3 := Fld.ext ex2 Fs
  refine Own.s_getfield X1 dc_prog_23_method_2_3 (tw60 hw) F_3 rfl ?_
  intro T4 X4
  refine Own.c_virtual X4 dc_prog_23_method_2_6 (tw72 hw) (tw73 hw) (notFace_of_selects (args := #[]) (mvT X4.hZ (tw75 hw))) (tw75 hw) (tw74 hw) (tw2 hw) (tw76 hw) (by decide) a1 [.null] [] 0 E1 (rm_eqNull hw a1 h1 X4.hE) (fun q => nomatch q) Own.Ok.nil (lenOf pd_4 rfl) rfl (Nat.le_of_eq rfl) (by decide) (by decide) (by decide) (by decide) rfl rfl ?_
  intro v5 vm5 T5 h5 L5 X5 V5 Q5
  obtain rfl := Q5
  refine Own.s_ifT X5 dc_prog_23_method_2_9 ((if0 _ _).trans (teq (show (0 : Int32) = (0 : Int32) by decide)).1) (by decide) (pc' := 23) (by decide) ?_
  refine Own.s_iconst X5 dc_prog_23_method_2_23 (0 : Int32) (by decide) rfl ?_
  exact Own.r_nar X5 rfl (Or.inl rfl) dc_prog_23_method_2_24 (by decide) (by decide) (by decide)
set_option maxRecDepth 65536 in
set_option maxHeartbeats 40000000 in
theorem rm_awS1 {l : Launch} {Z : State} {a0 : Array Value} (hw : ∀ d ∈ tables_1, d.before a0 Z = true) (a q : Addr) (cs : List Int32) {zc : Int32} (SC : Sta Z Z.heap "java/lang/String" "COMPACT_STRINGS" "Z" (.int zc)) (hzc : ¬ zc = 0) {fm : Value} (SF : Sta Z Z.heap "jdk/internal/util/Preconditions" "SIOOBE_FORMATTER" "Ljava/util/function/BiFunction;" fm) (hfm : fm.isRef = true) (h0 : Heap) (hE : Ext Z.heap h0) (E : Exa Z h0 a "com/example/carelane/carelane/registry/LegalEntity") (Fs : Fld Z h0 a "com/example/carelane/carelane/registry/LegalEntity" "status" "Ljava/lang/String;" (.ref q)) (Fb : Fld Z h0 a "com/example/carelane/carelane/registry/LegalEntity" "isActive" "Z" (.int (1 : Int32))) (S : Own.Str Z h0 q cs) :
    Own.Ctr true l Z a0 EL (⟨"com/example/carelane/carelane/registry/LegalEntity", "isAtWork", "()Z"⟩ : MethodName) prog_23_method_2_code 1 (Option.some Jvm.ClassFile.FieldType.boolean) ({ frames := 2, cells := 2, slots := 28, locals := 28 } : Room) #[(.ref a)] h0 [] (fun v h => (v = some (.int (1 : Int32)) ∧ cs = [(65 : Int32), (67 : Int32), (84 : Int32), (73 : Int32), (86 : Int32), (69 : Int32)] ∧ (1 : Int32) = (1 : Int32)) ∨ (v = some (.int (0 : Int32)) ∧ ¬ (cs = [(65 : Int32), (67 : Int32), (84 : Int32), (73 : Int32), (86 : Int32), (69 : Int32)] ∧ (1 : Int32) = (1 : Int32)))) := by
  refine Own.Ctr.of pn_7 (ef_0 a) hE (ewEL hw) ?_
  intro p e s m below meth c T0 X0 hsafe
  have SC0 := Sta.ext hE SC
  have SF0 := Sta.ext hE SF
  refine Own.s_ldcStr rfl X0 dc_prog_23_method_2_0 (tw69 hw) (wSA hw) (by decide) (vs := [(.int (65 : Int32)), (.int (67 : Int32)), (.int (84 : Int32)), (.int (73 : Int32)), (.int (86 : Int32)), (.int (69 : Int32))]) (z := (6 : Int32)) ⟨by decide, by decide⟩ (by decide) (by decide) 24 (by decide) (by decide) (by decide) (by decide) rfl ?_
  intro a1 b1 k1 vm1 T1 h1 X1 V1 E1 C1 U1 A1
  have S1 : Own.Str Z h1 a1 [(65 : Int32), (67 : Int32), (84 : Int32), (73 : Int32), (86 : Int32), (69 : Int32)] := Own.Str.mk (by decide) (by decide) E1 C1 U1 A1
  refine Own.s_aloadN X1 dc_prog_23_method_2_2 rfl rfl rfl ?_
  have ex2 : Ext h0 h1 := Own.extK (Own.Ext.rfl' h0) V1.1 all0
  have F_3 := Fld.ext ex2 Fs
  refine Own.s_getfield X1 dc_prog_23_method_2_3 (tw60 hw) F_3 rfl ?_
  intro T4 X4
  have S_5 := Own.Str.ext S ex2
  have Z_6 := Sta.ext ex2 SC0
  refine Own.b_virtual X4 dc_prog_23_method_2_6 (tw72 hw) (tw73 hw) (notFace_of_selects (args := #[]) (mvT X4.hZ (tw75 hw))) (tw75 hw) (tw74 hw) (by decide) a1 [(.ref q)] [] E1 (Own.strEq (W := 0) X4.hZ (wEq hw) (tw1 hw) S1 S_5 Z_6 hzc (by decide) (by decide)) (fun v h' L q => Own.strEqQ q) Own.Ok.nil (lenOf pd_4 rfl) rfl (Nat.le_of_eq rfl) (by decide) (by decide) rfl rfl ?_
  intro v7 vm7 T7 h7 L7 X7 V7 Q7
  obtain rfl := Q7
  by_cases hc9_8 : (if ([(65 : Int32), (67 : Int32), (84 : Int32), (73 : Int32), (86 : Int32), (69 : Int32)] : List Int32) = cs then 1 else 0) = (0 : Int32)
  · refine Own.s_ifT X7 dc_prog_23_method_2_9 ((if0 _ _).trans (teq hc9_8).1) (by decide) (pc' := 23) (by decide) ?_
    refine Own.s_iconst X7 dc_prog_23_method_2_23 (0 : Int32) (by decide) rfl ?_
    exact Own.r_nar X7 rfl (Or.inl rfl) dc_prog_23_method_2_24 (by decide) (by decide) (Or.inr ⟨by decide, fun q => absurd hc9_8 (by rw [if_pos q.1.symm]; decide)⟩)
  · refine Own.s_ifF X7 dc_prog_23_method_2_9 ((if0 _ _).trans (feq hc9_8).1) rfl ?_
    refine Own.s_aloadN X7 dc_prog_23_method_2_12 rfl rfl rfl ?_
    have ex9 : Ext h0 h7 := Own.extK ex2 V7.1 all0
    have F_10 := Fld.ext ex9 Fb
    refine Own.s_getfield X7 dc_prog_23_method_2_13 (tw62 hw) F_10 rfl ?_
    intro T11 X11
    refine Own.s_ifF X11 dc_prog_23_method_2_16 ((if0 _ _).trans (feq (show ¬ (1 : Int32) = (0 : Int32) by decide)).1) rfl ?_
    refine Own.s_iconst X11 dc_prog_23_method_2_19 (1 : Int32) (by decide) rfl ?_
    refine Own.s_goto X11 dc_prog_23_method_2_20 (by decide) (pc' := 24) (by decide) ?_
    exact Own.r_nar X11 rfl (Or.inl rfl) dc_prog_23_method_2_24 (by decide) (by decide) (Or.inl ⟨by decide, (Decidable.byContradiction fun q => hc9_8 (if_neg fun r => q r.symm)), by decide⟩)
set_option maxRecDepth 65536 in
set_option maxHeartbeats 40000000 in
theorem rm_law {l : Launch} {Z : State} {a0 : Array Value} (hw : ∀ d ∈ tables_1, d.before a0 Z = true) (p0 p1 p2 p3 : Int32) {zc : Int32} (SC : Sta Z Z.heap "java/lang/String" "COMPACT_STRINGS" "Z" (.int zc)) (hzc : ¬ zc = 0) {fm : Value} (SF : Sta Z Z.heap "jdk/internal/util/Preconditions" "SIOOBE_FORMATTER" "Ljava/util/function/BiFunction;" fm) (hfm : fm.isRef = true) (h0 : Heap) (hE : Ext Z.heap h0)  :
    Own.Ctr true l Z a0 EL x code maxLocals ret room_1 #[(.int p0), (.int p1), (.int p2), (.int p3)] h0 [] (fun v h => v = some (.int (1 : Int32))) := by
  refine Own.Ctr.of pn_8 (ef_5 p0 p1 p2 p3) hE (ewEL hw) ?_
  intro p e s m below meth c T0 X0 hsafe
  have SC0 := Sta.ext hE SC
  have SF0 := Sta.ext hE SF
  refine Own.s_iloadN X0 at_0 rfl rfl ?_
  refine Own.s_sipush X0 at_1 (255 : Int32) (by decide) rfl ?_
  refine Own.s_iand X0 at_4 rfl ?_
  refine Own.s_i2cM X0 at_5 rfl ?_
  refine Own.s_istore X0 at_6 #[.val (.int p0), .val (.int p1), .val (.int p2), .val (.int p3), .val (.int (p0 &&& (255 : Int32))), .unset, .unset, .unset, .unset, .unset, .unset, .unset, .unset, .unset, .unset, .unset, .unset, .unset, .unset, .unset] rfl rfl ?_
  refine Own.s_iloadN X0 at_8 rfl rfl ?_
  refine Own.s_bipush X0 at_9 (8 : Int32) (by decide) rfl ?_
  refine Own.s_iushr X0 at_11 rfl ?_
  refine Own.s_sipush X0 at_12 (255 : Int32) (by decide) rfl ?_
  refine Own.s_iand X0 at_15 rfl ?_
  refine Own.s_i2cM X0 at_16 rfl ?_
  refine Own.s_istore X0 at_17 #[.val (.int p0), .val (.int p1), .val (.int p2), .val (.int p3), .val (.int (p0 &&& (255 : Int32))), .val (.int ((XT.ushr p0 (8 : Int32)) &&& (255 : Int32))), .unset, .unset, .unset, .unset, .unset, .unset, .unset, .unset, .unset, .unset, .unset, .unset, .unset, .unset] rfl rfl ?_
  refine Own.s_iloadN X0 at_19 rfl rfl ?_
  refine Own.s_bipush X0 at_20 (16 : Int32) (by decide) rfl ?_
  refine Own.s_iushr X0 at_22 rfl ?_
  refine Own.s_sipush X0 at_23 (255 : Int32) (by decide) rfl ?_
  refine Own.s_iand X0 at_26 rfl ?_
  refine Own.s_i2cM X0 at_27 rfl ?_
  refine Own.s_istore X0 at_28 #[.val (.int p0), .val (.int p1), .val (.int p2), .val (.int p3), .val (.int (p0 &&& (255 : Int32))), .val (.int ((XT.ushr p0 (8 : Int32)) &&& (255 : Int32))), .val (.int ((XT.ushr p0 (16 : Int32)) &&& (255 : Int32))), .unset, .unset, .unset, .unset, .unset, .unset, .unset, .unset, .unset, .unset, .unset, .unset, .unset] rfl rfl ?_
  refine Own.s_iloadN X0 at_30 rfl rfl ?_
  refine Own.s_bipush X0 at_31 (24 : Int32) (by decide) rfl ?_
  refine Own.s_iushr X0 at_33 rfl ?_
  refine Own.s_sipush X0 at_34 (255 : Int32) (by decide) rfl ?_
  refine Own.s_iand X0 at_37 rfl ?_
  refine Own.s_i2cM X0 at_38 rfl ?_
  refine Own.s_istore X0 at_39 #[.val (.int p0), .val (.int p1), .val (.int p2), .val (.int p3), .val (.int (p0 &&& (255 : Int32))), .val (.int ((XT.ushr p0 (8 : Int32)) &&& (255 : Int32))), .val (.int ((XT.ushr p0 (16 : Int32)) &&& (255 : Int32))), .val (.int ((XT.ushr p0 (24 : Int32)) &&& (255 : Int32))), .unset, .unset, .unset, .unset, .unset, .unset, .unset, .unset, .unset, .unset, .unset, .unset] rfl rfl ?_
  refine Own.s_iloadN X0 at_41 rfl rfl ?_
  refine Own.s_sipush X0 at_42 (255 : Int32) (by decide) rfl ?_
  refine Own.s_iand X0 at_45 rfl ?_
  refine Own.s_i2cM X0 at_46 rfl ?_
  refine Own.s_istore X0 at_47 #[.val (.int p0), .val (.int p1), .val (.int p2), .val (.int p3), .val (.int (p0 &&& (255 : Int32))), .val (.int ((XT.ushr p0 (8 : Int32)) &&& (255 : Int32))), .val (.int ((XT.ushr p0 (16 : Int32)) &&& (255 : Int32))), .val (.int ((XT.ushr p0 (24 : Int32)) &&& (255 : Int32))), .val (.int (p1 &&& (255 : Int32))), .unset, .unset, .unset, .unset, .unset, .unset, .unset, .unset, .unset, .unset, .unset] rfl rfl ?_
  refine Own.s_iloadN X0 at_49 rfl rfl ?_
  refine Own.s_bipush X0 at_50 (8 : Int32) (by decide) rfl ?_
  refine Own.s_iushr X0 at_52 rfl ?_
  refine Own.s_sipush X0 at_53 (255 : Int32) (by decide) rfl ?_
  refine Own.s_iand X0 at_56 rfl ?_
  refine Own.s_i2cM X0 at_57 rfl ?_
  refine Own.s_istore X0 at_58 #[.val (.int p0), .val (.int p1), .val (.int p2), .val (.int p3), .val (.int (p0 &&& (255 : Int32))), .val (.int ((XT.ushr p0 (8 : Int32)) &&& (255 : Int32))), .val (.int ((XT.ushr p0 (16 : Int32)) &&& (255 : Int32))), .val (.int ((XT.ushr p0 (24 : Int32)) &&& (255 : Int32))), .val (.int (p1 &&& (255 : Int32))), .val (.int ((XT.ushr p1 (8 : Int32)) &&& (255 : Int32))), .unset, .unset, .unset, .unset, .unset, .unset, .unset, .unset, .unset, .unset] rfl rfl ?_
  refine Own.s_iloadN X0 at_60 rfl rfl ?_
  refine Own.s_bipush X0 at_61 (16 : Int32) (by decide) rfl ?_
  refine Own.s_iushr X0 at_63 rfl ?_
  refine Own.s_sipush X0 at_64 (255 : Int32) (by decide) rfl ?_
  refine Own.s_iand X0 at_67 rfl ?_
  refine Own.s_i2cM X0 at_68 rfl ?_
  refine Own.s_istore X0 at_69 #[.val (.int p0), .val (.int p1), .val (.int p2), .val (.int p3), .val (.int (p0 &&& (255 : Int32))), .val (.int ((XT.ushr p0 (8 : Int32)) &&& (255 : Int32))), .val (.int ((XT.ushr p0 (16 : Int32)) &&& (255 : Int32))), .val (.int ((XT.ushr p0 (24 : Int32)) &&& (255 : Int32))), .val (.int (p1 &&& (255 : Int32))), .val (.int ((XT.ushr p1 (8 : Int32)) &&& (255 : Int32))), .val (.int ((XT.ushr p1 (16 : Int32)) &&& (255 : Int32))), .unset, .unset, .unset, .unset, .unset, .unset, .unset, .unset, .unset] rfl rfl ?_
  refine Own.s_iloadN X0 at_71 rfl rfl ?_
  refine Own.s_iconst X0 at_72 (3 : Int32) (by decide) rfl ?_
  refine Own.s_iand X0 at_73 rfl ?_
  refine Own.s_istore X0 at_74 #[.val (.int p0), .val (.int p1), .val (.int p2), .val (.int p3), .val (.int (p0 &&& (255 : Int32))), .val (.int ((XT.ushr p0 (8 : Int32)) &&& (255 : Int32))), .val (.int ((XT.ushr p0 (16 : Int32)) &&& (255 : Int32))), .val (.int ((XT.ushr p0 (24 : Int32)) &&& (255 : Int32))), .val (.int (p1 &&& (255 : Int32))), .val (.int ((XT.ushr p1 (8 : Int32)) &&& (255 : Int32))), .val (.int ((XT.ushr p1 (16 : Int32)) &&& (255 : Int32))), .val (.int (p2 &&& (3 : Int32))), .unset, .unset, .unset, .unset, .unset, .unset, .unset, .unset] rfl rfl ?_
  refine Own.s_iloadN X0 at_76 rfl rfl ?_
  refine Own.s_iconst X0 at_77 (4 : Int32) (by decide) rfl ?_
  refine Own.s_iand X0 at_78 rfl ?_
  by_cases hc79_1 : (p2 &&& (4 : Int32)) = (0 : Int32)
  · refine Own.s_ifT X0 at_79 ((if0 _ _).trans (teq hc79_1).1) (by decide) (pc' := 86) (by decide) ?_
    refine Own.s_iconst X0 at_86 (0 : Int32) (by decide) rfl ?_
    refine Own.s_istore X0 at_87 #[.val (.int p0), .val (.int p1), .val (.int p2), .val (.int p3), .val (.int (p0 &&& (255 : Int32))), .val (.int ((XT.ushr p0 (8 : Int32)) &&& (255 : Int32))), .val (.int ((XT.ushr p0 (16 : Int32)) &&& (255 : Int32))), .val (.int ((XT.ushr p0 (24 : Int32)) &&& (255 : Int32))), .val (.int (p1 &&& (255 : Int32))), .val (.int ((XT.ushr p1 (8 : Int32)) &&& (255 : Int32))), .val (.int ((XT.ushr p1 (16 : Int32)) &&& (255 : Int32))), .val (.int (p2 &&& (3 : Int32))), .val (.int (0 : Int32)), .unset, .unset, .unset, .unset, .unset, .unset, .unset] rfl rfl ?_
    refine Own.s_iload X0 at_89 rfl rfl ?_
    by_cases hc91_2 : (p2 &&& (3 : Int32)) = (0 : Int32)
    · refine Own.s_ifF X0 at_91 ((if0 _ _).trans (teq hc91_2).2) rfl ?_
      refine Own.s_aconst_null X0 at_94 rfl ?_
      refine Own.s_astore X0 at_95 rfl #[.val (.int p0), .val (.int p1), .val (.int p2), .val (.int p3), .val (.int (p0 &&& (255 : Int32))), .val (.int ((XT.ushr p0 (8 : Int32)) &&& (255 : Int32))), .val (.int ((XT.ushr p0 (16 : Int32)) &&& (255 : Int32))), .val (.int ((XT.ushr p0 (24 : Int32)) &&& (255 : Int32))), .val (.int (p1 &&& (255 : Int32))), .val (.int ((XT.ushr p1 (8 : Int32)) &&& (255 : Int32))), .val (.int ((XT.ushr p1 (16 : Int32)) &&& (255 : Int32))), .val (.int (p2 &&& (3 : Int32))), .val (.int (0 : Int32)), .val .null, .unset, .unset, .unset, .unset, .unset, .unset] rfl rfl ?_
      refine Own.s_goto X0 at_97 (by decide) (pc' := 247) (by decide) ?_
      refine Own.s_iloadN X0 at_247 rfl rfl ?_
      refine Own.s_sipush X0 at_248 (255 : Int32) (by decide) rfl ?_
      refine Own.s_iand X0 at_251 rfl ?_
      refine Own.s_i2cM X0 at_252 rfl ?_
      refine Own.c_static X0 at_253 (tw30 hw) (tw31 hw) (tw2 hw) (tw32 hw) (by decide) [(.int (p3 &&& (255 : Int32)))] [] 0 (rm_valueOf hw (p3 &&& (255 : Int32)) (Own.lat_mask _) SC hzc SF hfm h0 X0.hE) (fun q => nomatch q) Own.Ok.nil (lenOf pd_5 rfl) rfl (Nat.le_of_eq rfl) (by decide) (by decide) (by decide) (by decide) rfl rfl ?_
      intro v3 vm3 T3 h3 L3 X3 V3 Q3
      obtain ⟨r3, rfl, g3, S3⟩ := Q3
      refine Own.s_astore X3 at_256 rfl #[.val (.int p0), .val (.int p1), .val (.int p2), .val (.int p3), .val (.int (p0 &&& (255 : Int32))), .val (.int ((XT.ushr p0 (8 : Int32)) &&& (255 : Int32))), .val (.int ((XT.ushr p0 (16 : Int32)) &&& (255 : Int32))), .val (.int ((XT.ushr p0 (24 : Int32)) &&& (255 : Int32))), .val (.int (p1 &&& (255 : Int32))), .val (.int ((XT.ushr p1 (8 : Int32)) &&& (255 : Int32))), .val (.int ((XT.ushr p1 (16 : Int32)) &&& (255 : Int32))), .val (.int (p2 &&& (3 : Int32))), .val (.int (0 : Int32)), .val .null, .val (.ref r3), .unset, .unset, .unset, .unset, .unset] rfl rfl ?_
      refine Own.s_iloadN X3 at_258 rfl rfl ?_
      refine Own.s_bipush X3 at_259 (8 : Int32) (by decide) rfl ?_
      refine Own.s_iushr X3 at_261 rfl ?_
      refine Own.s_sipush X3 at_262 (255 : Int32) (by decide) rfl ?_
      refine Own.s_iand X3 at_265 rfl ?_
      refine Own.s_i2cM X3 at_266 rfl ?_
      refine Own.c_static X3 at_267 (tw30 hw) (tw31 hw) (tw2 hw) (tw32 hw) (by decide) [(.int ((XT.ushr p3 (8 : Int32)) &&& (255 : Int32)))] [] 0 (rm_valueOf hw ((XT.ushr p3 (8 : Int32)) &&& (255 : Int32)) (Own.lat_mask _) SC hzc SF hfm h3 X3.hE) (fun q => nomatch q) Own.Ok.nil (lenOf pd_5 rfl) rfl (Nat.le_of_eq rfl) (by decide) (by decide) (by decide) (by decide) rfl rfl ?_
      intro v4 vm4 T4 h4 L4 X4 V4 Q4
      obtain ⟨r4, rfl, g4, S4⟩ := Q4
      refine Own.s_astore X4 at_270 rfl #[.val (.int p0), .val (.int p1), .val (.int p2), .val (.int p3), .val (.int (p0 &&& (255 : Int32))), .val (.int ((XT.ushr p0 (8 : Int32)) &&& (255 : Int32))), .val (.int ((XT.ushr p0 (16 : Int32)) &&& (255 : Int32))), .val (.int ((XT.ushr p0 (24 : Int32)) &&& (255 : Int32))), .val (.int (p1 &&& (255 : Int32))), .val (.int ((XT.ushr p1 (8 : Int32)) &&& (255 : Int32))), .val (.int ((XT.ushr p1 (16 : Int32)) &&& (255 : Int32))), .val (.int (p2 &&& (3 : Int32))), .val (.int (0 : Int32)), .val .null, .val (.ref r3), .val (.ref r4), .unset, .unset, .unset, .unset] rfl rfl ?_
      refine Own.s_new X4 at_272 (tw44 hw) (tw45 hw) (tw46 hw) (by decide) (by decide) rfl ?_
      intro b5 T5 h5 X5 V5 g5 E5 O5 D5
      have F5_id : Fld Z h5 b5 "com/example/carelane/carelane/registry/LegalEntity" "id" "Ljava/lang/String;" (.null) := D5 (Or.inr (tw57 hw)) (ty := (.object "java/lang/String")) (by decide)
      have F5_type : Fld Z h5 b5 "com/example/carelane/carelane/registry/LegalEntity" "type" "Ljava/lang/String;" (.null) := D5 (Or.inr (tw59 hw)) (ty := (.object "java/lang/String")) (by decide)
      have F5_status : Fld Z h5 b5 "com/example/carelane/carelane/registry/LegalEntity" "status" "Ljava/lang/String;" (.null) := D5 (Or.inr (tw61 hw)) (ty := (.object "java/lang/String")) (by decide)
      have F5_isActive : Fld Z h5 b5 "com/example/carelane/carelane/registry/LegalEntity" "isActive" "Z" (.int 0) := D5 (Or.inr (tw63 hw)) (ty := .boolean) (by decide)
      refine Own.s_dup X5 at_275 rfl rfl ?_
      refine Own.s_aload X5 at_276 rfl rfl rfl ?_
      refine Own.s_aload X5 at_278 rfl rfl rfl ?_
      refine Own.s_aload X5 at_280 rfl rfl rfl ?_
      refine Own.s_iload X5 at_282 rfl rfl ?_
      refine Own.c_special X5 at_284 rfl (tw47 hw) (tw48 hw) (tw46 hw) (tw49 hw) (by decide) b5 [(.ref r3), (.ref r4), .null, (.int (0 : Int32))] [(.ref b5)] 1 (rm_le0 hw b5 r3 r4 .null rfl  h5 X5.hE O5.2.1 E5 F5_id F5_type F5_status F5_isActive ) (fun q => nomatch q) (Own.Ok.one O5) (lenOf pd_6 rfl) rfl (Nat.le_of_eq rfl) (by decide) (by decide) (by decide) (by decide) rfl rfl ?_
      intro v6 vm6 T6 h6 L6 X6 V6 Q6
      obtain ⟨rfl, E6, F6_0, F6_1, F6_2, F6_3⟩ := Q6
      refine Own.s_astore X6 at_287 rfl #[.val (.int p0), .val (.int p1), .val (.int p2), .val (.int p3), .val (.int (p0 &&& (255 : Int32))), .val (.int ((XT.ushr p0 (8 : Int32)) &&& (255 : Int32))), .val (.int ((XT.ushr p0 (16 : Int32)) &&& (255 : Int32))), .val (.int ((XT.ushr p0 (24 : Int32)) &&& (255 : Int32))), .val (.int (p1 &&& (255 : Int32))), .val (.int ((XT.ushr p1 (8 : Int32)) &&& (255 : Int32))), .val (.int ((XT.ushr p1 (16 : Int32)) &&& (255 : Int32))), .val (.int (p2 &&& (3 : Int32))), .val (.int (0 : Int32)), .val .null, .val (.ref r3), .val (.ref r4), .val (.ref b5), .unset, .unset, .unset] rfl rfl ?_
      refine Own.s_aload X6 at_289 rfl rfl rfl ?_
      refine Own.c_virtual X6 at_291 (tw64 hw) (tw65 hw) (notFace_of_selects (args := #[]) (mvT X6.hZ (tw67 hw))) (tw67 hw) (tw66 hw) (tw46 hw) (tw68 hw) (by decide) b5 [] [] 0 E6 (rm_awN0 hw b5 SC hzc SF hfm h6 X6.hE E6 F6_2 F6_3) (fun _ => rfl) Own.Ok.nil (lenOf pd_7 rfl) rfl (Nat.le_of_eq rfl) (by decide) (by decide) (by decide) (by decide) rfl rfl ?_
      intro v7 vm7 T7 h7 L7 X7 V7 Q7
      obtain rfl := Q7
      refine Own.s_istore X7 at_294 #[.val (.int p0), .val (.int p1), .val (.int p2), .val (.int p3), .val (.int (p0 &&& (255 : Int32))), .val (.int ((XT.ushr p0 (8 : Int32)) &&& (255 : Int32))), .val (.int ((XT.ushr p0 (16 : Int32)) &&& (255 : Int32))), .val (.int ((XT.ushr p0 (24 : Int32)) &&& (255 : Int32))), .val (.int (p1 &&& (255 : Int32))), .val (.int ((XT.ushr p1 (8 : Int32)) &&& (255 : Int32))), .val (.int ((XT.ushr p1 (16 : Int32)) &&& (255 : Int32))), .val (.int (p2 &&& (3 : Int32))), .val (.int (0 : Int32)), .val .null, .val (.ref r3), .val (.ref r4), .val (.ref b5), .val (.int (0 : Int32)), .unset, .unset] rfl rfl ?_
      refine Own.s_aload X7 at_296 rfl rfl rfl ?_
      refine Own.s_ifnullT X7 at_298 (by decide) (pc' := 381) (by decide) ?_
      refine Own.s_iconst X7 at_381 (0 : Int32) (by decide) rfl ?_
      refine Own.s_istore X7 at_382 #[.val (.int p0), .val (.int p1), .val (.int p2), .val (.int p3), .val (.int (p0 &&& (255 : Int32))), .val (.int ((XT.ushr p0 (8 : Int32)) &&& (255 : Int32))), .val (.int ((XT.ushr p0 (16 : Int32)) &&& (255 : Int32))), .val (.int ((XT.ushr p0 (24 : Int32)) &&& (255 : Int32))), .val (.int (p1 &&& (255 : Int32))), .val (.int ((XT.ushr p1 (8 : Int32)) &&& (255 : Int32))), .val (.int ((XT.ushr p1 (16 : Int32)) &&& (255 : Int32))), .val (.int (p2 &&& (3 : Int32))), .val (.int (0 : Int32)), .val .null, .val (.ref r3), .val (.ref r4), .val (.ref b5), .val (.int (0 : Int32)), .val (.int (0 : Int32)), .unset] rfl rfl ?_
      refine Own.s_iload X7 at_384 rfl rfl ?_
      refine Own.s_ifT X7 at_386 ((if0 _ _).trans (teq (show (0 : Int32) = (0 : Int32) by decide)).1) (by decide) (pc' := 398) (by decide) ?_
      refine Own.s_iconst X7 at_398 (0 : Int32) (by decide) rfl ?_
      refine Own.s_istore X7 at_399 #[.val (.int p0), .val (.int p1), .val (.int p2), .val (.int p3), .val (.int (p0 &&& (255 : Int32))), .val (.int ((XT.ushr p0 (8 : Int32)) &&& (255 : Int32))), .val (.int ((XT.ushr p0 (16 : Int32)) &&& (255 : Int32))), .val (.int ((XT.ushr p0 (24 : Int32)) &&& (255 : Int32))), .val (.int (p1 &&& (255 : Int32))), .val (.int ((XT.ushr p1 (8 : Int32)) &&& (255 : Int32))), .val (.int ((XT.ushr p1 (16 : Int32)) &&& (255 : Int32))), .val (.int (p2 &&& (3 : Int32))), .val (.int (0 : Int32)), .val .null, .val (.ref r3), .val (.ref r4), .val (.ref b5), .val (.int (0 : Int32)), .val (.int (0 : Int32)), .val (.int (0 : Int32))] rfl rfl ?_
      refine Own.s_iload X7 at_401 rfl rfl ?_
      refine Own.s_iload X7 at_403 rfl rfl ?_
      refine Own.s_icmpF X7 at_405 (teq (show (0 : Int32) = (0 : Int32) by decide)).2 rfl ?_
      refine Own.s_iconst X7 at_408 (1 : Int32) (by decide) rfl ?_
      refine Own.s_goto X7 at_409 (by decide) (pc' := 413) (by decide) ?_
      exact Own.r_nar X7 rfl (Or.inl rfl) at_413 (by decide) (by decide) (by decide)
    · refine Own.s_ifT X0 at_91 ((if0 _ _).trans (feq hc91_2).2) (by decide) (pc' := 100) (by decide) ?_
      refine Own.s_iload X0 at_100 rfl rfl ?_
      refine Own.s_iconst X0 at_102 (1 : Int32) (by decide) rfl ?_
      by_cases hc103_8 : (p2 &&& (3 : Int32)) = (1 : Int32)
      · refine Own.s_icmpF X0 at_103 (teq hc103_8).2 rfl ?_
        refine Own.s_new X0 at_106 (tw0 hw) (tw1 hw) (tw2 hw) (by decide) (by decide) rfl ?_
        intro b9 T9 h9 X9 V9 g9 E9 O9 D9
        have F9_coder : Fld Z h9 b9 "java/lang/String" "coder" "B" (.int 0) := D9 (Or.inr (tw27 hw)) (ty := .byte) (by decide)
        have F9_value : Fld Z h9 b9 "java/lang/String" "value" "[B" (.null) := D9 (Or.inr (tw29 hw)) (ty := (.array .byte)) (by decide)
        refine Own.s_dup X9 at_109 rfl rfl ?_
        refine Own.s_iconst X9 at_110 (5 : Int32) (by decide) rfl ?_
        refine Own.s_newarray X9 at_111 (tw3 hw) (by decide) 5 (by decide) (by decide) (by decide) (by decide) rfl ?_
        intro b10 T10 h10 k10 X10 V10 g10 A10 O10
        have B10 : Arv Z h10 b10 k10 .char (5 : Int32) [(.int (0 : Int32)), (.int (0 : Int32)), (.int (0 : Int32)), (.int (0 : Int32)), (.int (0 : Int32))] (.int (0 : Int32)) := A10.pad (pad_rep [] (.int (0 : Int32)) 5)
        refine Own.s_dup X10 at_113 rfl rfl ?_
        refine Own.s_iconst X10 at_114 (0 : Int32) (by decide) rfl ?_
        refine Own.s_iload X10 at_115 rfl rfl ?_
        refine Own.s_castoreR X10 at_117 B10 ⟨by decide, by decide⟩ 0 (by decide) (Nat.le_of_ble_eq_true rfl) (Own.nar_mask _) O10 rfl ?_
        intro T11 h11 X11 V11 A11
        have B11 : Arv Z h11 b10 k10 .char (5 : Int32) [(.int (p0 &&& (255 : Int32))), (.int (0 : Int32)), (.int (0 : Int32)), (.int (0 : Int32)), (.int (0 : Int32))] (.int (0 : Int32)) := A11
        refine Own.s_dup X11 at_118 rfl rfl ?_
        refine Own.s_iconst X11 at_119 (1 : Int32) (by decide) rfl ?_
        refine Own.s_iload X11 at_120 rfl rfl ?_
        have O13 := (O10.ev V11)
        refine Own.s_castoreR X11 at_122 B11 ⟨by decide, by decide⟩ 1 (by decide) (Nat.le_of_ble_eq_true rfl) (Own.nar_mask _) O13 rfl ?_
        intro T12 h12 X12 V12 A12
        have B12 : Arv Z h12 b10 k10 .char (5 : Int32) [(.int (p0 &&& (255 : Int32))), (.int ((XT.ushr p0 (8 : Int32)) &&& (255 : Int32))), (.int (0 : Int32)), (.int (0 : Int32)), (.int (0 : Int32))] (.int (0 : Int32)) := A12
        refine Own.s_dup X12 at_123 rfl rfl ?_
        refine Own.s_iconst X12 at_124 (2 : Int32) (by decide) rfl ?_
        refine Own.s_iload X12 at_125 rfl rfl ?_
        have O15 := (O13.ev V12)
        refine Own.s_castoreR X12 at_127 B12 ⟨by decide, by decide⟩ 2 (by decide) (Nat.le_of_ble_eq_true rfl) (Own.nar_mask _) O15 rfl ?_
        intro T14 h14 X14 V14 A14
        have B14 : Arv Z h14 b10 k10 .char (5 : Int32) [(.int (p0 &&& (255 : Int32))), (.int ((XT.ushr p0 (8 : Int32)) &&& (255 : Int32))), (.int ((XT.ushr p0 (16 : Int32)) &&& (255 : Int32))), (.int (0 : Int32)), (.int (0 : Int32))] (.int (0 : Int32)) := A14
        refine Own.s_dup X14 at_128 rfl rfl ?_
        refine Own.s_iconst X14 at_129 (3 : Int32) (by decide) rfl ?_
        refine Own.s_iload X14 at_130 rfl rfl ?_
        have O17 := (O15.ev V14)
        refine Own.s_castoreR X14 at_132 B14 ⟨by decide, by decide⟩ 3 (by decide) (Nat.le_of_ble_eq_true rfl) (Own.nar_mask _) O17 rfl ?_
        intro T16 h16 X16 V16 A16
        have B16 : Arv Z h16 b10 k10 .char (5 : Int32) [(.int (p0 &&& (255 : Int32))), (.int ((XT.ushr p0 (8 : Int32)) &&& (255 : Int32))), (.int ((XT.ushr p0 (16 : Int32)) &&& (255 : Int32))), (.int ((XT.ushr p0 (24 : Int32)) &&& (255 : Int32))), (.int (0 : Int32))] (.int (0 : Int32)) := A16
        refine Own.s_dup X16 at_133 rfl rfl ?_
        refine Own.s_iconst X16 at_134 (4 : Int32) (by decide) rfl ?_
        refine Own.s_iload X16 at_135 rfl rfl ?_
        have O19 := (O17.ev V16)
        refine Own.s_castoreR X16 at_137 B16 ⟨by decide, by decide⟩ 4 (by decide) (Nat.le_of_ble_eq_true rfl) (Own.nar_mask _) O19 rfl ?_
        intro T18 h18 X18 V18 A18
        have B18 : Arv Z h18 b10 k10 .char (5 : Int32) [(.int (p0 &&& (255 : Int32))), (.int ((XT.ushr p0 (8 : Int32)) &&& (255 : Int32))), (.int ((XT.ushr p0 (16 : Int32)) &&& (255 : Int32))), (.int ((XT.ushr p0 (24 : Int32)) &&& (255 : Int32))), (.int (p1 &&& (255 : Int32)))] (.int (0 : Int32)) := A18
        have ex20 : Ext h0 h9 := Own.extK (Own.Ext.rfl' h0) V9.1 all0
        have ex21 : Ext h0 h10 := Own.extK ex20 V10.1 all0
        have le22 : h0.size ≤ h9.size := V9.1.1
        have ex23 : Ext h0 h11 := Own.extK ex21 V11.1 (allS (Nat.le_trans le22 g10) all0)
        have ex24 : Ext h0 h12 := Own.extK ex23 V12.1 (allS (Nat.le_trans le22 g10) all0)
        have ex25 : Ext h0 h14 := Own.extK ex24 V14.1 (allS (Nat.le_trans le22 g10) all0)
        have ex26 : Ext h0 h16 := Own.extK ex25 V16.1 (allS (Nat.le_trans le22 g10) all0)
        have ex27 : Ext h0 h18 := Own.extK ex26 V18.1 (allS (Nat.le_trans le22 g10) all0)
        have Z_28 := Sta.ext ex27 SC0
        have ex29 : Ext h9 h10 := Own.extK (Own.Ext.rfl' h9) V10.1 all0
        have ex30 : Ext h9 h11 := Own.extK ex29 V11.1 (allS g10 all0)
        have ex31 : Ext h9 h12 := Own.extK ex30 V12.1 (allS g10 all0)
        have ex32 : Ext h9 h14 := Own.extK ex31 V14.1 (allS g10 all0)
        have ex33 : Ext h9 h16 := Own.extK ex32 V16.1 (allS g10 all0)
        have ex34 : Ext h9 h18 := Own.extK ex33 V18.1 (allS g10 all0)
        have E_35 := Exa.ext ex34 E9
        have F_36 := Fld.ext ex34 F9_value
        have F_37 := Fld.ext ex34 F9_coder
        have O38 := ((((((O9.ev V10).ev V11).ev V12).ev V14).ev V16).ev V18)
        have lat39 : ∀ c ∈ [(p0 &&& (255 : Int32)), ((XT.ushr p0 (8 : Int32)) &&& (255 : Int32)), ((XT.ushr p0 (16 : Int32)) &&& (255 : Int32)), ((XT.ushr p0 (24 : Int32)) &&& (255 : Int32)), (p1 &&& (255 : Int32))], Own.Lat c := (Own.latL (Own.lat_mask _) (Own.latL (Own.lat_mask _) (Own.latL (Own.lat_mask _) (Own.latL (Own.lat_mask _) (Own.latL (Own.lat_mask _) Own.latN)))))
        refine Own.b_special X18 at_138 rfl (tw4 hw) (tw5 hw) (tw6 hw) (by decide) b9 [(.ref b10)] [(.ref b9)] (Own.strNew (W := 1) (cs := [(p0 &&& (255 : Int32)), ((XT.ushr p0 (8 : Int32)) &&& (255 : Int32)), ((XT.ushr p0 (16 : Int32)) &&& (255 : Int32)), ((XT.ushr p0 (24 : Int32)) &&& (255 : Int32)), (p1 &&& (255 : Int32))]) (n := 5) X18.hZ (wNew hw) (tw1 hw) O38.2.1 X18.hE.1 E_35 F_36 F_37 B18 Z_28 hzc rfl (by decide) (by decide) (by decide) lat39 (by decide) (by decide)) (fun v h' L q => Own.strNewQ (n := 5) rfl (by decide) (by decide) lat39 q) (Own.Ok.one O38) (lenOf pd_8 rfl) rfl (Nat.le_of_eq rfl) (by decide) (by decide) rfl rfl ?_
        intro v40 vm40 T40 h40 L40 X40 V40 Q40
        obtain ⟨rfl, S40⟩ := Q40
        refine Own.s_astore X40 at_141 rfl #[.val (.int p0), .val (.int p1), .val (.int p2), .val (.int p3), .val (.int (p0 &&& (255 : Int32))), .val (.int ((XT.ushr p0 (8 : Int32)) &&& (255 : Int32))), .val (.int ((XT.ushr p0 (16 : Int32)) &&& (255 : Int32))), .val (.int ((XT.ushr p0 (24 : Int32)) &&& (255 : Int32))), .val (.int (p1 &&& (255 : Int32))), .val (.int ((XT.ushr p1 (8 : Int32)) &&& (255 : Int32))), .val (.int ((XT.ushr p1 (16 : Int32)) &&& (255 : Int32))), .val (.int (p2 &&& (3 : Int32))), .val (.int (0 : Int32)), .val (.ref b9), .unset, .unset, .unset, .unset, .unset, .unset] rfl rfl ?_
        refine Own.s_goto X40 at_143 (by decide) (pc' := 247) (by decide) ?_
        refine Own.s_iloadN X40 at_247 rfl rfl ?_
        refine Own.s_sipush X40 at_248 (255 : Int32) (by decide) rfl ?_
        refine Own.s_iand X40 at_251 rfl ?_
        refine Own.s_i2cM X40 at_252 rfl ?_
        refine Own.c_static X40 at_253 (tw30 hw) (tw31 hw) (tw2 hw) (tw32 hw) (by decide) [(.int (p3 &&& (255 : Int32)))] [] 0 (rm_valueOf hw (p3 &&& (255 : Int32)) (Own.lat_mask _) SC hzc SF hfm h40 X40.hE) (fun q => nomatch q) Own.Ok.nil (lenOf pd_5 rfl) rfl (Nat.le_of_eq rfl) (by decide) (by decide) (by decide) (by decide) rfl rfl ?_
        intro v41 vm41 T41 h41 L41 X41 V41 Q41
        obtain ⟨r41, rfl, g41, S41⟩ := Q41
        refine Own.s_astore X41 at_256 rfl #[.val (.int p0), .val (.int p1), .val (.int p2), .val (.int p3), .val (.int (p0 &&& (255 : Int32))), .val (.int ((XT.ushr p0 (8 : Int32)) &&& (255 : Int32))), .val (.int ((XT.ushr p0 (16 : Int32)) &&& (255 : Int32))), .val (.int ((XT.ushr p0 (24 : Int32)) &&& (255 : Int32))), .val (.int (p1 &&& (255 : Int32))), .val (.int ((XT.ushr p1 (8 : Int32)) &&& (255 : Int32))), .val (.int ((XT.ushr p1 (16 : Int32)) &&& (255 : Int32))), .val (.int (p2 &&& (3 : Int32))), .val (.int (0 : Int32)), .val (.ref b9), .val (.ref r41), .unset, .unset, .unset, .unset, .unset] rfl rfl ?_
        refine Own.s_iloadN X41 at_258 rfl rfl ?_
        refine Own.s_bipush X41 at_259 (8 : Int32) (by decide) rfl ?_
        refine Own.s_iushr X41 at_261 rfl ?_
        refine Own.s_sipush X41 at_262 (255 : Int32) (by decide) rfl ?_
        refine Own.s_iand X41 at_265 rfl ?_
        refine Own.s_i2cM X41 at_266 rfl ?_
        refine Own.c_static X41 at_267 (tw30 hw) (tw31 hw) (tw2 hw) (tw32 hw) (by decide) [(.int ((XT.ushr p3 (8 : Int32)) &&& (255 : Int32)))] [] 0 (rm_valueOf hw ((XT.ushr p3 (8 : Int32)) &&& (255 : Int32)) (Own.lat_mask _) SC hzc SF hfm h41 X41.hE) (fun q => nomatch q) Own.Ok.nil (lenOf pd_5 rfl) rfl (Nat.le_of_eq rfl) (by decide) (by decide) (by decide) (by decide) rfl rfl ?_
        intro v42 vm42 T42 h42 L42 X42 V42 Q42
        obtain ⟨r42, rfl, g42, S42⟩ := Q42
        refine Own.s_astore X42 at_270 rfl #[.val (.int p0), .val (.int p1), .val (.int p2), .val (.int p3), .val (.int (p0 &&& (255 : Int32))), .val (.int ((XT.ushr p0 (8 : Int32)) &&& (255 : Int32))), .val (.int ((XT.ushr p0 (16 : Int32)) &&& (255 : Int32))), .val (.int ((XT.ushr p0 (24 : Int32)) &&& (255 : Int32))), .val (.int (p1 &&& (255 : Int32))), .val (.int ((XT.ushr p1 (8 : Int32)) &&& (255 : Int32))), .val (.int ((XT.ushr p1 (16 : Int32)) &&& (255 : Int32))), .val (.int (p2 &&& (3 : Int32))), .val (.int (0 : Int32)), .val (.ref b9), .val (.ref r41), .val (.ref r42), .unset, .unset, .unset, .unset] rfl rfl ?_
        refine Own.s_new X42 at_272 (tw44 hw) (tw45 hw) (tw46 hw) (by decide) (by decide) rfl ?_
        intro b43 T43 h43 X43 V43 g43 E43 O43 D43
        have F43_id : Fld Z h43 b43 "com/example/carelane/carelane/registry/LegalEntity" "id" "Ljava/lang/String;" (.null) := D43 (Or.inr (tw57 hw)) (ty := (.object "java/lang/String")) (by decide)
        have F43_type : Fld Z h43 b43 "com/example/carelane/carelane/registry/LegalEntity" "type" "Ljava/lang/String;" (.null) := D43 (Or.inr (tw59 hw)) (ty := (.object "java/lang/String")) (by decide)
        have F43_status : Fld Z h43 b43 "com/example/carelane/carelane/registry/LegalEntity" "status" "Ljava/lang/String;" (.null) := D43 (Or.inr (tw61 hw)) (ty := (.object "java/lang/String")) (by decide)
        have F43_isActive : Fld Z h43 b43 "com/example/carelane/carelane/registry/LegalEntity" "isActive" "Z" (.int 0) := D43 (Or.inr (tw63 hw)) (ty := .boolean) (by decide)
        refine Own.s_dup X43 at_275 rfl rfl ?_
        refine Own.s_aload X43 at_276 rfl rfl rfl ?_
        refine Own.s_aload X43 at_278 rfl rfl rfl ?_
        refine Own.s_aload X43 at_280 rfl rfl rfl ?_
        refine Own.s_iload X43 at_282 rfl rfl ?_
        refine Own.c_special X43 at_284 rfl (tw47 hw) (tw48 hw) (tw46 hw) (tw49 hw) (by decide) b43 [(.ref r41), (.ref r42), (.ref b9), (.int (0 : Int32))] [(.ref b43)] 1 (rm_le0 hw b43 r41 r42 (.ref b9) rfl  h43 X43.hE O43.2.1 E43 F43_id F43_type F43_status F43_isActive ) (fun q => nomatch q) (Own.Ok.one O43) (lenOf pd_6 rfl) rfl (Nat.le_of_eq rfl) (by decide) (by decide) (by decide) (by decide) rfl rfl ?_
        intro v44 vm44 T44 h44 L44 X44 V44 Q44
        obtain ⟨rfl, E44, F44_0, F44_1, F44_2, F44_3⟩ := Q44
        refine Own.s_astore X44 at_287 rfl #[.val (.int p0), .val (.int p1), .val (.int p2), .val (.int p3), .val (.int (p0 &&& (255 : Int32))), .val (.int ((XT.ushr p0 (8 : Int32)) &&& (255 : Int32))), .val (.int ((XT.ushr p0 (16 : Int32)) &&& (255 : Int32))), .val (.int ((XT.ushr p0 (24 : Int32)) &&& (255 : Int32))), .val (.int (p1 &&& (255 : Int32))), .val (.int ((XT.ushr p1 (8 : Int32)) &&& (255 : Int32))), .val (.int ((XT.ushr p1 (16 : Int32)) &&& (255 : Int32))), .val (.int (p2 &&& (3 : Int32))), .val (.int (0 : Int32)), .val (.ref b9), .val (.ref r41), .val (.ref r42), .val (.ref b43), .unset, .unset, .unset] rfl rfl ?_
        refine Own.s_aload X44 at_289 rfl rfl rfl ?_
        have ex45 : Ext h40 h41 := Own.extK (Own.Ext.rfl' h40) V41.1 all0
        have ex46 : Ext h40 h42 := Own.extK ex45 V42.1 all0
        have ex47 : Ext h40 h43 := Own.extK ex46 V43.1 all0
        have le49 : h40.size ≤ h41.size := V41.1.1
        have le48 : h40.size ≤ h42.size := Nat.le_trans le49 V42.1.1
        have ex50 : Ext h40 h44 := Own.extK ex47 V44.1 (allS (Nat.le_trans le48 g43) all0)
        have S_51 := Own.Str.ext S40 ex50
        refine Own.c_virtual X44 at_291 (tw64 hw) (tw65 hw) (notFace_of_selects (args := #[]) (mvT X44.hZ (tw67 hw))) (tw67 hw) (tw66 hw) (tw46 hw) (tw68 hw) (by decide) b43 [] [] 0 E44 (rm_awS0 hw b43 b9 [(p0 &&& (255 : Int32)), ((XT.ushr p0 (8 : Int32)) &&& (255 : Int32)), ((XT.ushr p0 (16 : Int32)) &&& (255 : Int32)), ((XT.ushr p0 (24 : Int32)) &&& (255 : Int32)), (p1 &&& (255 : Int32))] SC hzc SF hfm h44 X44.hE E44 F44_2 F44_3 S_51) (fun _ => rfl) Own.Ok.nil (lenOf pd_7 rfl) rfl (Nat.le_of_eq rfl) (by decide) (by decide) (by decide) (by decide) rfl rfl ?_
        intro v52 vm52 T52 h52 L52 X52 V52 Q52
        rcases Q52 with Q52 | Q52
        · obtain ⟨rfl, hs52, hb52⟩ := Q52
          exact absurd hb52 (by decide)
        · obtain ⟨rfl, hs52⟩ := Q52
          refine Own.s_istore X52 at_294 #[.val (.int p0), .val (.int p1), .val (.int p2), .val (.int p3), .val (.int (p0 &&& (255 : Int32))), .val (.int ((XT.ushr p0 (8 : Int32)) &&& (255 : Int32))), .val (.int ((XT.ushr p0 (16 : Int32)) &&& (255 : Int32))), .val (.int ((XT.ushr p0 (24 : Int32)) &&& (255 : Int32))), .val (.int (p1 &&& (255 : Int32))), .val (.int ((XT.ushr p1 (8 : Int32)) &&& (255 : Int32))), .val (.int ((XT.ushr p1 (16 : Int32)) &&& (255 : Int32))), .val (.int (p2 &&& (3 : Int32))), .val (.int (0 : Int32)), .val (.ref b9), .val (.ref r41), .val (.ref r42), .val (.ref b43), .val (.int (0 : Int32)), .unset, .unset] rfl rfl ?_
          refine Own.s_aload X52 at_296 rfl rfl rfl ?_
          refine Own.s_ifnullF X52 at_298 rfl ?_
          refine Own.s_aload X52 at_301 rfl rfl rfl ?_
          have ex53 : Ext h44 h52 := Own.extK (Own.Ext.rfl' h44) V52.1 all0
          have S_54 := Own.Str.ext S_51 ex53
          have ex55 : Ext h0 h40 := Own.extK ex27 V40.1 (allS g9 all0)
          have ex56 : Ext h0 h41 := Own.extK ex55 V41.1 all0
          have ex57 : Ext h0 h42 := Own.extK ex56 V42.1 all0
          have ex58 : Ext h0 h43 := Own.extK ex57 V43.1 all0
          have le67 : h0.size ≤ h10.size := Nat.le_trans le22 V10.1.1
          have le66 : h0.size ≤ h11.size := Nat.le_trans le67 V11.1.1
          have le65 : h0.size ≤ h12.size := Nat.le_trans le66 V12.1.1
          have le64 : h0.size ≤ h14.size := Nat.le_trans le65 V14.1.1
          have le63 : h0.size ≤ h16.size := Nat.le_trans le64 V16.1.1
          have le62 : h0.size ≤ h18.size := Nat.le_trans le63 V18.1.1
          have le61 : h0.size ≤ h40.size := Nat.le_trans le62 V40.1.1
          have le60 : h0.size ≤ h41.size := Nat.le_trans le61 V41.1.1
          have le59 : h0.size ≤ h42.size := Nat.le_trans le60 V42.1.1
          have ex68 : Ext h0 h44 := Own.extK ex58 V44.1 (allS (Nat.le_trans le59 g43) all0)
          have ex69 : Ext h0 h52 := Own.extK ex68 V52.1 all0
          have Z_70 := Sta.ext ex69 SC0
          have ex72 : Ext h40 h52 := Own.extK ex50 V52.1 all0
          have E_73 := Exa.ext ex72 S40.exa
          refine Own.b_virtual X52 at_303 (tw80 hw) (tw81 hw) (notFace_of_selects (args := #[]) (mvT X52.hZ (tw83 hw))) (tw83 hw) (tw82 hw) (by decide) b9 [] [] E_73 (Own.strLen (W := 0) X52.hZ (wLen hw) (tw1 hw) S_54 Z_70 hzc (by decide) (by decide)) (fun v h' L q => Own.strLenQ (N := (5 : Int32)) rfl q) Own.Ok.nil (lenOf pd_9 rfl) rfl (Nat.le_of_eq rfl) (by decide) (by decide) rfl rfl ?_
          intro v71 vm71 T71 h71 L71 X71 V71 Q71
          obtain rfl := Q71
          refine Own.s_bipush X71 at_306 (6 : Int32) (by decide) rfl ?_
          refine Own.s_icmpT X71 at_308 (feq (show ¬ (5 : Int32) = (6 : Int32) by decide)).2 (by decide) (pc' := 381) (by decide) ?_
          refine Own.s_iconst X71 at_381 (0 : Int32) (by decide) rfl ?_
          refine Own.s_istore X71 at_382 #[.val (.int p0), .val (.int p1), .val (.int p2), .val (.int p3), .val (.int (p0 &&& (255 : Int32))), .val (.int ((XT.ushr p0 (8 : Int32)) &&& (255 : Int32))), .val (.int ((XT.ushr p0 (16 : Int32)) &&& (255 : Int32))), .val (.int ((XT.ushr p0 (24 : Int32)) &&& (255 : Int32))), .val (.int (p1 &&& (255 : Int32))), .val (.int ((XT.ushr p1 (8 : Int32)) &&& (255 : Int32))), .val (.int ((XT.ushr p1 (16 : Int32)) &&& (255 : Int32))), .val (.int (p2 &&& (3 : Int32))), .val (.int (0 : Int32)), .val (.ref b9), .val (.ref r41), .val (.ref r42), .val (.ref b43), .val (.int (0 : Int32)), .val (.int (0 : Int32)), .unset] rfl rfl ?_
          refine Own.s_iload X71 at_384 rfl rfl ?_
          refine Own.s_ifT X71 at_386 ((if0 _ _).trans (teq (show (0 : Int32) = (0 : Int32) by decide)).1) (by decide) (pc' := 398) (by decide) ?_
          refine Own.s_iconst X71 at_398 (0 : Int32) (by decide) rfl ?_
          refine Own.s_istore X71 at_399 #[.val (.int p0), .val (.int p1), .val (.int p2), .val (.int p3), .val (.int (p0 &&& (255 : Int32))), .val (.int ((XT.ushr p0 (8 : Int32)) &&& (255 : Int32))), .val (.int ((XT.ushr p0 (16 : Int32)) &&& (255 : Int32))), .val (.int ((XT.ushr p0 (24 : Int32)) &&& (255 : Int32))), .val (.int (p1 &&& (255 : Int32))), .val (.int ((XT.ushr p1 (8 : Int32)) &&& (255 : Int32))), .val (.int ((XT.ushr p1 (16 : Int32)) &&& (255 : Int32))), .val (.int (p2 &&& (3 : Int32))), .val (.int (0 : Int32)), .val (.ref b9), .val (.ref r41), .val (.ref r42), .val (.ref b43), .val (.int (0 : Int32)), .val (.int (0 : Int32)), .val (.int (0 : Int32))] rfl rfl ?_
          refine Own.s_iload X71 at_401 rfl rfl ?_
          refine Own.s_iload X71 at_403 rfl rfl ?_
          refine Own.s_icmpF X71 at_405 (teq (show (0 : Int32) = (0 : Int32) by decide)).2 rfl ?_
          refine Own.s_iconst X71 at_408 (1 : Int32) (by decide) rfl ?_
          refine Own.s_goto X71 at_409 (by decide) (pc' := 413) (by decide) ?_
          exact Own.r_nar X71 rfl (Or.inl rfl) at_413 (by decide) (by decide) (by decide)
      · refine Own.s_icmpT X0 at_103 (feq hc103_8).2 (by decide) (pc' := 146) (by decide) ?_
        refine Own.s_iload X0 at_146 rfl rfl ?_
        refine Own.s_iconst X0 at_148 (2 : Int32) (by decide) rfl ?_
        by_cases hc149_74 : (p2 &&& (3 : Int32)) = (2 : Int32)
        · refine Own.s_icmpF X0 at_149 (teq hc149_74).2 rfl ?_
          refine Own.s_new X0 at_152 (tw0 hw) (tw1 hw) (tw2 hw) (by decide) (by decide) rfl ?_
          intro b75 T75 h75 X75 V75 g75 E75 O75 D75
          have F75_coder : Fld Z h75 b75 "java/lang/String" "coder" "B" (.int 0) := D75 (Or.inr (tw27 hw)) (ty := .byte) (by decide)
          have F75_value : Fld Z h75 b75 "java/lang/String" "value" "[B" (.null) := D75 (Or.inr (tw29 hw)) (ty := (.array .byte)) (by decide)
          refine Own.s_dup X75 at_155 rfl rfl ?_
          refine Own.s_bipush X75 at_156 (6 : Int32) (by decide) rfl ?_
          refine Own.s_newarray X75 at_158 (tw3 hw) (by decide) 6 (by decide) (by decide) (by decide) (by decide) rfl ?_
          intro b76 T76 h76 k76 X76 V76 g76 A76 O76
          have B76 : Arv Z h76 b76 k76 .char (6 : Int32) [(.int (0 : Int32)), (.int (0 : Int32)), (.int (0 : Int32)), (.int (0 : Int32)), (.int (0 : Int32)), (.int (0 : Int32))] (.int (0 : Int32)) := A76.pad (pad_rep [] (.int (0 : Int32)) 6)
          refine Own.s_dup X76 at_160 rfl rfl ?_
          refine Own.s_iconst X76 at_161 (0 : Int32) (by decide) rfl ?_
          refine Own.s_iload X76 at_162 rfl rfl ?_
          refine Own.s_castoreR X76 at_164 B76 ⟨by decide, by decide⟩ 0 (by decide) (Nat.le_of_ble_eq_true rfl) (Own.nar_mask _) O76 rfl ?_
          intro T77 h77 X77 V77 A77
          have B77 : Arv Z h77 b76 k76 .char (6 : Int32) [(.int (p0 &&& (255 : Int32))), (.int (0 : Int32)), (.int (0 : Int32)), (.int (0 : Int32)), (.int (0 : Int32)), (.int (0 : Int32))] (.int (0 : Int32)) := A77
          refine Own.s_dup X77 at_165 rfl rfl ?_
          refine Own.s_iconst X77 at_166 (1 : Int32) (by decide) rfl ?_
          refine Own.s_iload X77 at_167 rfl rfl ?_
          have O79 := (O76.ev V77)
          refine Own.s_castoreR X77 at_169 B77 ⟨by decide, by decide⟩ 1 (by decide) (Nat.le_of_ble_eq_true rfl) (Own.nar_mask _) O79 rfl ?_
          intro T78 h78 X78 V78 A78
          have B78 : Arv Z h78 b76 k76 .char (6 : Int32) [(.int (p0 &&& (255 : Int32))), (.int ((XT.ushr p0 (8 : Int32)) &&& (255 : Int32))), (.int (0 : Int32)), (.int (0 : Int32)), (.int (0 : Int32)), (.int (0 : Int32))] (.int (0 : Int32)) := A78
          refine Own.s_dup X78 at_170 rfl rfl ?_
          refine Own.s_iconst X78 at_171 (2 : Int32) (by decide) rfl ?_
          refine Own.s_iload X78 at_172 rfl rfl ?_
          have O81 := (O79.ev V78)
          refine Own.s_castoreR X78 at_174 B78 ⟨by decide, by decide⟩ 2 (by decide) (Nat.le_of_ble_eq_true rfl) (Own.nar_mask _) O81 rfl ?_
          intro T80 h80 X80 V80 A80
          have B80 : Arv Z h80 b76 k76 .char (6 : Int32) [(.int (p0 &&& (255 : Int32))), (.int ((XT.ushr p0 (8 : Int32)) &&& (255 : Int32))), (.int ((XT.ushr p0 (16 : Int32)) &&& (255 : Int32))), (.int (0 : Int32)), (.int (0 : Int32)), (.int (0 : Int32))] (.int (0 : Int32)) := A80
          refine Own.s_dup X80 at_175 rfl rfl ?_
          refine Own.s_iconst X80 at_176 (3 : Int32) (by decide) rfl ?_
          refine Own.s_iload X80 at_177 rfl rfl ?_
          have O83 := (O81.ev V80)
          refine Own.s_castoreR X80 at_179 B80 ⟨by decide, by decide⟩ 3 (by decide) (Nat.le_of_ble_eq_true rfl) (Own.nar_mask _) O83 rfl ?_
          intro T82 h82 X82 V82 A82
          have B82 : Arv Z h82 b76 k76 .char (6 : Int32) [(.int (p0 &&& (255 : Int32))), (.int ((XT.ushr p0 (8 : Int32)) &&& (255 : Int32))), (.int ((XT.ushr p0 (16 : Int32)) &&& (255 : Int32))), (.int ((XT.ushr p0 (24 : Int32)) &&& (255 : Int32))), (.int (0 : Int32)), (.int (0 : Int32))] (.int (0 : Int32)) := A82
          refine Own.s_dup X82 at_180 rfl rfl ?_
          refine Own.s_iconst X82 at_181 (4 : Int32) (by decide) rfl ?_
          refine Own.s_iload X82 at_182 rfl rfl ?_
          have O85 := (O83.ev V82)
          refine Own.s_castoreR X82 at_184 B82 ⟨by decide, by decide⟩ 4 (by decide) (Nat.le_of_ble_eq_true rfl) (Own.nar_mask _) O85 rfl ?_
          intro T84 h84 X84 V84 A84
          have B84 : Arv Z h84 b76 k76 .char (6 : Int32) [(.int (p0 &&& (255 : Int32))), (.int ((XT.ushr p0 (8 : Int32)) &&& (255 : Int32))), (.int ((XT.ushr p0 (16 : Int32)) &&& (255 : Int32))), (.int ((XT.ushr p0 (24 : Int32)) &&& (255 : Int32))), (.int (p1 &&& (255 : Int32))), (.int (0 : Int32))] (.int (0 : Int32)) := A84
          refine Own.s_dup X84 at_185 rfl rfl ?_
          refine Own.s_iconst X84 at_186 (5 : Int32) (by decide) rfl ?_
          refine Own.s_iload X84 at_187 rfl rfl ?_
          have O87 := (O85.ev V84)
          refine Own.s_castoreR X84 at_189 B84 ⟨by decide, by decide⟩ 5 (by decide) (Nat.le_of_ble_eq_true rfl) (Own.nar_mask _) O87 rfl ?_
          intro T86 h86 X86 V86 A86
          have B86 : Arv Z h86 b76 k76 .char (6 : Int32) [(.int (p0 &&& (255 : Int32))), (.int ((XT.ushr p0 (8 : Int32)) &&& (255 : Int32))), (.int ((XT.ushr p0 (16 : Int32)) &&& (255 : Int32))), (.int ((XT.ushr p0 (24 : Int32)) &&& (255 : Int32))), (.int (p1 &&& (255 : Int32))), (.int ((XT.ushr p1 (8 : Int32)) &&& (255 : Int32)))] (.int (0 : Int32)) := A86
          have ex88 : Ext h0 h75 := Own.extK (Own.Ext.rfl' h0) V75.1 all0
          have ex89 : Ext h0 h76 := Own.extK ex88 V76.1 all0
          have le90 : h0.size ≤ h75.size := V75.1.1
          have ex91 : Ext h0 h77 := Own.extK ex89 V77.1 (allS (Nat.le_trans le90 g76) all0)
          have ex92 : Ext h0 h78 := Own.extK ex91 V78.1 (allS (Nat.le_trans le90 g76) all0)
          have ex93 : Ext h0 h80 := Own.extK ex92 V80.1 (allS (Nat.le_trans le90 g76) all0)
          have ex94 : Ext h0 h82 := Own.extK ex93 V82.1 (allS (Nat.le_trans le90 g76) all0)
          have ex95 : Ext h0 h84 := Own.extK ex94 V84.1 (allS (Nat.le_trans le90 g76) all0)
          have ex96 : Ext h0 h86 := Own.extK ex95 V86.1 (allS (Nat.le_trans le90 g76) all0)
          have Z_97 := Sta.ext ex96 SC0
          have ex98 : Ext h75 h76 := Own.extK (Own.Ext.rfl' h75) V76.1 all0
          have ex99 : Ext h75 h77 := Own.extK ex98 V77.1 (allS g76 all0)
          have ex100 : Ext h75 h78 := Own.extK ex99 V78.1 (allS g76 all0)
          have ex101 : Ext h75 h80 := Own.extK ex100 V80.1 (allS g76 all0)
          have ex102 : Ext h75 h82 := Own.extK ex101 V82.1 (allS g76 all0)
          have ex103 : Ext h75 h84 := Own.extK ex102 V84.1 (allS g76 all0)
          have ex104 : Ext h75 h86 := Own.extK ex103 V86.1 (allS g76 all0)
          have E_105 := Exa.ext ex104 E75
          have F_106 := Fld.ext ex104 F75_value
          have F_107 := Fld.ext ex104 F75_coder
          have O108 := (((((((O75.ev V76).ev V77).ev V78).ev V80).ev V82).ev V84).ev V86)
          have lat109 : ∀ c ∈ [(p0 &&& (255 : Int32)), ((XT.ushr p0 (8 : Int32)) &&& (255 : Int32)), ((XT.ushr p0 (16 : Int32)) &&& (255 : Int32)), ((XT.ushr p0 (24 : Int32)) &&& (255 : Int32)), (p1 &&& (255 : Int32)), ((XT.ushr p1 (8 : Int32)) &&& (255 : Int32))], Own.Lat c := (Own.latL (Own.lat_mask _) (Own.latL (Own.lat_mask _) (Own.latL (Own.lat_mask _) (Own.latL (Own.lat_mask _) (Own.latL (Own.lat_mask _) (Own.latL (Own.lat_mask _) Own.latN))))))
          refine Own.b_special X86 at_190 rfl (tw4 hw) (tw5 hw) (tw6 hw) (by decide) b75 [(.ref b76)] [(.ref b75)] (Own.strNew (W := 1) (cs := [(p0 &&& (255 : Int32)), ((XT.ushr p0 (8 : Int32)) &&& (255 : Int32)), ((XT.ushr p0 (16 : Int32)) &&& (255 : Int32)), ((XT.ushr p0 (24 : Int32)) &&& (255 : Int32)), (p1 &&& (255 : Int32)), ((XT.ushr p1 (8 : Int32)) &&& (255 : Int32))]) (n := 6) X86.hZ (wNew hw) (tw1 hw) O108.2.1 X86.hE.1 E_105 F_106 F_107 B86 Z_97 hzc rfl (by decide) (by decide) (by decide) lat109 (by decide) (by decide)) (fun v h' L q => Own.strNewQ (n := 6) rfl (by decide) (by decide) lat109 q) (Own.Ok.one O108) (lenOf pd_8 rfl) rfl (Nat.le_of_eq rfl) (by decide) (by decide) rfl rfl ?_
          intro v110 vm110 T110 h110 L110 X110 V110 Q110
          obtain ⟨rfl, S110⟩ := Q110
          refine Own.s_astore X110 at_193 rfl #[.val (.int p0), .val (.int p1), .val (.int p2), .val (.int p3), .val (.int (p0 &&& (255 : Int32))), .val (.int ((XT.ushr p0 (8 : Int32)) &&& (255 : Int32))), .val (.int ((XT.ushr p0 (16 : Int32)) &&& (255 : Int32))), .val (.int ((XT.ushr p0 (24 : Int32)) &&& (255 : Int32))), .val (.int (p1 &&& (255 : Int32))), .val (.int ((XT.ushr p1 (8 : Int32)) &&& (255 : Int32))), .val (.int ((XT.ushr p1 (16 : Int32)) &&& (255 : Int32))), .val (.int (p2 &&& (3 : Int32))), .val (.int (0 : Int32)), .val (.ref b75), .unset, .unset, .unset, .unset, .unset, .unset] rfl rfl ?_
          refine Own.s_goto X110 at_195 (by decide) (pc' := 247) (by decide) ?_
          refine Own.s_iloadN X110 at_247 rfl rfl ?_
          refine Own.s_sipush X110 at_248 (255 : Int32) (by decide) rfl ?_
          refine Own.s_iand X110 at_251 rfl ?_
          refine Own.s_i2cM X110 at_252 rfl ?_
          refine Own.c_static X110 at_253 (tw30 hw) (tw31 hw) (tw2 hw) (tw32 hw) (by decide) [(.int (p3 &&& (255 : Int32)))] [] 0 (rm_valueOf hw (p3 &&& (255 : Int32)) (Own.lat_mask _) SC hzc SF hfm h110 X110.hE) (fun q => nomatch q) Own.Ok.nil (lenOf pd_5 rfl) rfl (Nat.le_of_eq rfl) (by decide) (by decide) (by decide) (by decide) rfl rfl ?_
          intro v111 vm111 T111 h111 L111 X111 V111 Q111
          obtain ⟨r111, rfl, g111, S111⟩ := Q111
          refine Own.s_astore X111 at_256 rfl #[.val (.int p0), .val (.int p1), .val (.int p2), .val (.int p3), .val (.int (p0 &&& (255 : Int32))), .val (.int ((XT.ushr p0 (8 : Int32)) &&& (255 : Int32))), .val (.int ((XT.ushr p0 (16 : Int32)) &&& (255 : Int32))), .val (.int ((XT.ushr p0 (24 : Int32)) &&& (255 : Int32))), .val (.int (p1 &&& (255 : Int32))), .val (.int ((XT.ushr p1 (8 : Int32)) &&& (255 : Int32))), .val (.int ((XT.ushr p1 (16 : Int32)) &&& (255 : Int32))), .val (.int (p2 &&& (3 : Int32))), .val (.int (0 : Int32)), .val (.ref b75), .val (.ref r111), .unset, .unset, .unset, .unset, .unset] rfl rfl ?_
          refine Own.s_iloadN X111 at_258 rfl rfl ?_
          refine Own.s_bipush X111 at_259 (8 : Int32) (by decide) rfl ?_
          refine Own.s_iushr X111 at_261 rfl ?_
          refine Own.s_sipush X111 at_262 (255 : Int32) (by decide) rfl ?_
          refine Own.s_iand X111 at_265 rfl ?_
          refine Own.s_i2cM X111 at_266 rfl ?_
          refine Own.c_static X111 at_267 (tw30 hw) (tw31 hw) (tw2 hw) (tw32 hw) (by decide) [(.int ((XT.ushr p3 (8 : Int32)) &&& (255 : Int32)))] [] 0 (rm_valueOf hw ((XT.ushr p3 (8 : Int32)) &&& (255 : Int32)) (Own.lat_mask _) SC hzc SF hfm h111 X111.hE) (fun q => nomatch q) Own.Ok.nil (lenOf pd_5 rfl) rfl (Nat.le_of_eq rfl) (by decide) (by decide) (by decide) (by decide) rfl rfl ?_
          intro v112 vm112 T112 h112 L112 X112 V112 Q112
          obtain ⟨r112, rfl, g112, S112⟩ := Q112
          refine Own.s_astore X112 at_270 rfl #[.val (.int p0), .val (.int p1), .val (.int p2), .val (.int p3), .val (.int (p0 &&& (255 : Int32))), .val (.int ((XT.ushr p0 (8 : Int32)) &&& (255 : Int32))), .val (.int ((XT.ushr p0 (16 : Int32)) &&& (255 : Int32))), .val (.int ((XT.ushr p0 (24 : Int32)) &&& (255 : Int32))), .val (.int (p1 &&& (255 : Int32))), .val (.int ((XT.ushr p1 (8 : Int32)) &&& (255 : Int32))), .val (.int ((XT.ushr p1 (16 : Int32)) &&& (255 : Int32))), .val (.int (p2 &&& (3 : Int32))), .val (.int (0 : Int32)), .val (.ref b75), .val (.ref r111), .val (.ref r112), .unset, .unset, .unset, .unset] rfl rfl ?_
          refine Own.s_new X112 at_272 (tw44 hw) (tw45 hw) (tw46 hw) (by decide) (by decide) rfl ?_
          intro b113 T113 h113 X113 V113 g113 E113 O113 D113
          have F113_id : Fld Z h113 b113 "com/example/carelane/carelane/registry/LegalEntity" "id" "Ljava/lang/String;" (.null) := D113 (Or.inr (tw57 hw)) (ty := (.object "java/lang/String")) (by decide)
          have F113_type : Fld Z h113 b113 "com/example/carelane/carelane/registry/LegalEntity" "type" "Ljava/lang/String;" (.null) := D113 (Or.inr (tw59 hw)) (ty := (.object "java/lang/String")) (by decide)
          have F113_status : Fld Z h113 b113 "com/example/carelane/carelane/registry/LegalEntity" "status" "Ljava/lang/String;" (.null) := D113 (Or.inr (tw61 hw)) (ty := (.object "java/lang/String")) (by decide)
          have F113_isActive : Fld Z h113 b113 "com/example/carelane/carelane/registry/LegalEntity" "isActive" "Z" (.int 0) := D113 (Or.inr (tw63 hw)) (ty := .boolean) (by decide)
          refine Own.s_dup X113 at_275 rfl rfl ?_
          refine Own.s_aload X113 at_276 rfl rfl rfl ?_
          refine Own.s_aload X113 at_278 rfl rfl rfl ?_
          refine Own.s_aload X113 at_280 rfl rfl rfl ?_
          refine Own.s_iload X113 at_282 rfl rfl ?_
          refine Own.c_special X113 at_284 rfl (tw47 hw) (tw48 hw) (tw46 hw) (tw49 hw) (by decide) b113 [(.ref r111), (.ref r112), (.ref b75), (.int (0 : Int32))] [(.ref b113)] 1 (rm_le0 hw b113 r111 r112 (.ref b75) rfl  h113 X113.hE O113.2.1 E113 F113_id F113_type F113_status F113_isActive ) (fun q => nomatch q) (Own.Ok.one O113) (lenOf pd_6 rfl) rfl (Nat.le_of_eq rfl) (by decide) (by decide) (by decide) (by decide) rfl rfl ?_
          intro v114 vm114 T114 h114 L114 X114 V114 Q114
          obtain ⟨rfl, E114, F114_0, F114_1, F114_2, F114_3⟩ := Q114
          refine Own.s_astore X114 at_287 rfl #[.val (.int p0), .val (.int p1), .val (.int p2), .val (.int p3), .val (.int (p0 &&& (255 : Int32))), .val (.int ((XT.ushr p0 (8 : Int32)) &&& (255 : Int32))), .val (.int ((XT.ushr p0 (16 : Int32)) &&& (255 : Int32))), .val (.int ((XT.ushr p0 (24 : Int32)) &&& (255 : Int32))), .val (.int (p1 &&& (255 : Int32))), .val (.int ((XT.ushr p1 (8 : Int32)) &&& (255 : Int32))), .val (.int ((XT.ushr p1 (16 : Int32)) &&& (255 : Int32))), .val (.int (p2 &&& (3 : Int32))), .val (.int (0 : Int32)), .val (.ref b75), .val (.ref r111), .val (.ref r112), .val (.ref b113), .unset, .unset, .unset] rfl rfl ?_
          refine Own.s_aload X114 at_289 rfl rfl rfl ?_
          have ex115 : Ext h110 h111 := Own.extK (Own.Ext.rfl' h110) V111.1 all0
          have ex116 : Ext h110 h112 := Own.extK ex115 V112.1 all0
          have ex117 : Ext h110 h113 := Own.extK ex116 V113.1 all0
          have le119 : h110.size ≤ h111.size := V111.1.1
          have le118 : h110.size ≤ h112.size := Nat.le_trans le119 V112.1.1
          have ex120 : Ext h110 h114 := Own.extK ex117 V114.1 (allS (Nat.le_trans le118 g113) all0)
          have S_121 := Own.Str.ext S110 ex120
          refine Own.c_virtual X114 at_291 (tw64 hw) (tw65 hw) (notFace_of_selects (args := #[]) (mvT X114.hZ (tw67 hw))) (tw67 hw) (tw66 hw) (tw46 hw) (tw68 hw) (by decide) b113 [] [] 0 E114 (rm_awS0 hw b113 b75 [(p0 &&& (255 : Int32)), ((XT.ushr p0 (8 : Int32)) &&& (255 : Int32)), ((XT.ushr p0 (16 : Int32)) &&& (255 : Int32)), ((XT.ushr p0 (24 : Int32)) &&& (255 : Int32)), (p1 &&& (255 : Int32)), ((XT.ushr p1 (8 : Int32)) &&& (255 : Int32))] SC hzc SF hfm h114 X114.hE E114 F114_2 F114_3 S_121) (fun _ => rfl) Own.Ok.nil (lenOf pd_7 rfl) rfl (Nat.le_of_eq rfl) (by decide) (by decide) (by decide) (by decide) rfl rfl ?_
          intro v122 vm122 T122 h122 L122 X122 V122 Q122
          rcases Q122 with Q122 | Q122
          · obtain ⟨rfl, hs122, hb122⟩ := Q122
            exact absurd hb122 (by decide)
          · obtain ⟨rfl, hs122⟩ := Q122
            refine Own.s_istore X122 at_294 #[.val (.int p0), .val (.int p1), .val (.int p2), .val (.int p3), .val (.int (p0 &&& (255 : Int32))), .val (.int ((XT.ushr p0 (8 : Int32)) &&& (255 : Int32))), .val (.int ((XT.ushr p0 (16 : Int32)) &&& (255 : Int32))), .val (.int ((XT.ushr p0 (24 : Int32)) &&& (255 : Int32))), .val (.int (p1 &&& (255 : Int32))), .val (.int ((XT.ushr p1 (8 : Int32)) &&& (255 : Int32))), .val (.int ((XT.ushr p1 (16 : Int32)) &&& (255 : Int32))), .val (.int (p2 &&& (3 : Int32))), .val (.int (0 : Int32)), .val (.ref b75), .val (.ref r111), .val (.ref r112), .val (.ref b113), .val (.int (0 : Int32)), .unset, .unset] rfl rfl ?_
            refine Own.s_aload X122 at_296 rfl rfl rfl ?_
            refine Own.s_ifnullF X122 at_298 rfl ?_
            refine Own.s_aload X122 at_301 rfl rfl rfl ?_
            have ex123 : Ext h114 h122 := Own.extK (Own.Ext.rfl' h114) V122.1 all0
            have S_124 := Own.Str.ext S_121 ex123
            have ex125 : Ext h0 h110 := Own.extK ex96 V110.1 (allS g75 all0)
            have ex126 : Ext h0 h111 := Own.extK ex125 V111.1 all0
            have ex127 : Ext h0 h112 := Own.extK ex126 V112.1 all0
            have ex128 : Ext h0 h113 := Own.extK ex127 V113.1 all0
            have le138 : h0.size ≤ h76.size := Nat.le_trans le90 V76.1.1
            have le137 : h0.size ≤ h77.size := Nat.le_trans le138 V77.1.1
            have le136 : h0.size ≤ h78.size := Nat.le_trans le137 V78.1.1
            have le135 : h0.size ≤ h80.size := Nat.le_trans le136 V80.1.1
            have le134 : h0.size ≤ h82.size := Nat.le_trans le135 V82.1.1
            have le133 : h0.size ≤ h84.size := Nat.le_trans le134 V84.1.1
            have le132 : h0.size ≤ h86.size := Nat.le_trans le133 V86.1.1
            have le131 : h0.size ≤ h110.size := Nat.le_trans le132 V110.1.1
            have le130 : h0.size ≤ h111.size := Nat.le_trans le131 V111.1.1
            have le129 : h0.size ≤ h112.size := Nat.le_trans le130 V112.1.1
            have ex139 : Ext h0 h114 := Own.extK ex128 V114.1 (allS (Nat.le_trans le129 g113) all0)
            have ex140 : Ext h0 h122 := Own.extK ex139 V122.1 all0
            have Z_141 := Sta.ext ex140 SC0
            have ex143 : Ext h110 h122 := Own.extK ex120 V122.1 all0
            have E_144 := Exa.ext ex143 S110.exa
            refine Own.b_virtual X122 at_303 (tw80 hw) (tw81 hw) (notFace_of_selects (args := #[]) (mvT X122.hZ (tw83 hw))) (tw83 hw) (tw82 hw) (by decide) b75 [] [] E_144 (Own.strLen (W := 0) X122.hZ (wLen hw) (tw1 hw) S_124 Z_141 hzc (by decide) (by decide)) (fun v h' L q => Own.strLenQ (N := (6 : Int32)) rfl q) Own.Ok.nil (lenOf pd_9 rfl) rfl (Nat.le_of_eq rfl) (by decide) (by decide) rfl rfl ?_
            intro v142 vm142 T142 h142 L142 X142 V142 Q142
            obtain rfl := Q142
            refine Own.s_bipush X142 at_306 (6 : Int32) (by decide) rfl ?_
            refine Own.s_icmpF X142 at_308 (teq (show (6 : Int32) = (6 : Int32) by decide)).2 rfl ?_
            refine Own.s_aload X142 at_311 rfl rfl rfl ?_
            refine Own.s_iconst X142 at_313 (0 : Int32) (by decide) rfl ?_
            have ex145 : Ext h122 h142 := Own.extK (Own.Ext.rfl' h122) V142.1 all0
            have S_146 := Own.Str.ext S_124 ex145
            have Z_147 := Sta.ext ex145 Z_141
            have ex148 : Ext h0 h142 := Own.extK ex140 V142.1 all0
            have Z_149 := Sta.ext ex148 SF0
            have E_151 := Exa.ext ex145 E_144
            refine Own.b_virtual X142 at_314 (tw90 hw) (tw91 hw) (notFace_of_selects (args := #[]) (mvT X142.hZ (tw93 hw))) (tw93 hw) (tw92 hw) (by decide) b75 [(.int (0 : Int32))] [] E_151 (Own.strAt (W := 0) (i := 0) X142.hZ (wChN hw) (tw1 hw) S_146 Z_147 hzc Z_149 hfm (Nat.le_of_ble_eq_true rfl) (by decide) (by decide) (by decide)) (fun v h' L q => Own.strAtQ (z := (p0 &&& (255 : Int32))) rfl q) Own.Ok.nil (lenOf pd_10 rfl) rfl (Nat.le_of_eq rfl) (by decide) (by decide) rfl rfl ?_
            intro v150 vm150 T150 h150 L150 X150 V150 Q150
            obtain rfl := Q150
            refine Own.s_bipush X150 at_317 (65 : Int32) (by decide) rfl ?_
            by_cases hc319_152 : (p0 &&& (255 : Int32)) = (65 : Int32)
            · refine Own.s_icmpF X150 at_319 (teq hc319_152).2 rfl ?_
              refine Own.s_aload X150 at_322 rfl rfl rfl ?_
              refine Own.s_iconst X150 at_324 (1 : Int32) (by decide) rfl ?_
              have ex153 : Ext h142 h150 := Own.extK (Own.Ext.rfl' h142) V150.1 all0
              have S_154 := Own.Str.ext S_146 ex153
              have Z_155 := Sta.ext ex153 Z_147
              have Z_156 := Sta.ext ex153 Z_149
              have E_158 := Exa.ext ex153 E_151
              refine Own.b_virtual X150 at_325 (tw90 hw) (tw91 hw) (notFace_of_selects (args := #[]) (mvT X150.hZ (tw93 hw))) (tw93 hw) (tw92 hw) (by decide) b75 [(.int (1 : Int32))] [] E_158 (Own.strAt (W := 0) (i := 1) X150.hZ (wChN hw) (tw1 hw) S_154 Z_155 hzc Z_156 hfm (Nat.le_of_ble_eq_true rfl) (by decide) (by decide) (by decide)) (fun v h' L q => Own.strAtQ (z := ((XT.ushr p0 (8 : Int32)) &&& (255 : Int32))) rfl q) Own.Ok.nil (lenOf pd_10 rfl) rfl (Nat.le_of_eq rfl) (by decide) (by decide) rfl rfl ?_
              intro v157 vm157 T157 h157 L157 X157 V157 Q157
              obtain rfl := Q157
              refine Own.s_bipush X157 at_328 (67 : Int32) (by decide) rfl ?_
              by_cases hc330_159 : ((XT.ushr p0 (8 : Int32)) &&& (255 : Int32)) = (67 : Int32)
              · refine Own.s_icmpF X157 at_330 (teq hc330_159).2 rfl ?_
                refine Own.s_aload X157 at_333 rfl rfl rfl ?_
                refine Own.s_iconst X157 at_335 (2 : Int32) (by decide) rfl ?_
                have ex160 : Ext h150 h157 := Own.extK (Own.Ext.rfl' h150) V157.1 all0
                have S_161 := Own.Str.ext S_154 ex160
                have Z_162 := Sta.ext ex160 Z_155
                have Z_163 := Sta.ext ex160 Z_156
                have E_165 := Exa.ext ex160 E_158
                refine Own.b_virtual X157 at_336 (tw90 hw) (tw91 hw) (notFace_of_selects (args := #[]) (mvT X157.hZ (tw93 hw))) (tw93 hw) (tw92 hw) (by decide) b75 [(.int (2 : Int32))] [] E_165 (Own.strAt (W := 0) (i := 2) X157.hZ (wChN hw) (tw1 hw) S_161 Z_162 hzc Z_163 hfm (Nat.le_of_ble_eq_true rfl) (by decide) (by decide) (by decide)) (fun v h' L q => Own.strAtQ (z := ((XT.ushr p0 (16 : Int32)) &&& (255 : Int32))) rfl q) Own.Ok.nil (lenOf pd_10 rfl) rfl (Nat.le_of_eq rfl) (by decide) (by decide) rfl rfl ?_
                intro v164 vm164 T164 h164 L164 X164 V164 Q164
                obtain rfl := Q164
                refine Own.s_bipush X164 at_339 (84 : Int32) (by decide) rfl ?_
                by_cases hc341_166 : ((XT.ushr p0 (16 : Int32)) &&& (255 : Int32)) = (84 : Int32)
                · refine Own.s_icmpF X164 at_341 (teq hc341_166).2 rfl ?_
                  refine Own.s_aload X164 at_344 rfl rfl rfl ?_
                  refine Own.s_iconst X164 at_346 (3 : Int32) (by decide) rfl ?_
                  have ex167 : Ext h157 h164 := Own.extK (Own.Ext.rfl' h157) V164.1 all0
                  have S_168 := Own.Str.ext S_161 ex167
                  have Z_169 := Sta.ext ex167 Z_162
                  have Z_170 := Sta.ext ex167 Z_163
                  have E_172 := Exa.ext ex167 E_165
                  refine Own.b_virtual X164 at_347 (tw90 hw) (tw91 hw) (notFace_of_selects (args := #[]) (mvT X164.hZ (tw93 hw))) (tw93 hw) (tw92 hw) (by decide) b75 [(.int (3 : Int32))] [] E_172 (Own.strAt (W := 0) (i := 3) X164.hZ (wChN hw) (tw1 hw) S_168 Z_169 hzc Z_170 hfm (Nat.le_of_ble_eq_true rfl) (by decide) (by decide) (by decide)) (fun v h' L q => Own.strAtQ (z := ((XT.ushr p0 (24 : Int32)) &&& (255 : Int32))) rfl q) Own.Ok.nil (lenOf pd_10 rfl) rfl (Nat.le_of_eq rfl) (by decide) (by decide) rfl rfl ?_
                  intro v171 vm171 T171 h171 L171 X171 V171 Q171
                  obtain rfl := Q171
                  refine Own.s_bipush X171 at_350 (73 : Int32) (by decide) rfl ?_
                  by_cases hc352_173 : ((XT.ushr p0 (24 : Int32)) &&& (255 : Int32)) = (73 : Int32)
                  · refine Own.s_icmpF X171 at_352 (teq hc352_173).2 rfl ?_
                    refine Own.s_aload X171 at_355 rfl rfl rfl ?_
                    refine Own.s_iconst X171 at_357 (4 : Int32) (by decide) rfl ?_
                    have ex174 : Ext h164 h171 := Own.extK (Own.Ext.rfl' h164) V171.1 all0
                    have S_175 := Own.Str.ext S_168 ex174
                    have Z_176 := Sta.ext ex174 Z_169
                    have Z_177 := Sta.ext ex174 Z_170
                    have E_179 := Exa.ext ex174 E_172
                    refine Own.b_virtual X171 at_358 (tw90 hw) (tw91 hw) (notFace_of_selects (args := #[]) (mvT X171.hZ (tw93 hw))) (tw93 hw) (tw92 hw) (by decide) b75 [(.int (4 : Int32))] [] E_179 (Own.strAt (W := 0) (i := 4) X171.hZ (wChN hw) (tw1 hw) S_175 Z_176 hzc Z_177 hfm (Nat.le_of_ble_eq_true rfl) (by decide) (by decide) (by decide)) (fun v h' L q => Own.strAtQ (z := (p1 &&& (255 : Int32))) rfl q) Own.Ok.nil (lenOf pd_10 rfl) rfl (Nat.le_of_eq rfl) (by decide) (by decide) rfl rfl ?_
                    intro v178 vm178 T178 h178 L178 X178 V178 Q178
                    obtain rfl := Q178
                    refine Own.s_bipush X178 at_361 (86 : Int32) (by decide) rfl ?_
                    by_cases hc363_180 : (p1 &&& (255 : Int32)) = (86 : Int32)
                    · refine Own.s_icmpF X178 at_363 (teq hc363_180).2 rfl ?_
                      refine Own.s_aload X178 at_366 rfl rfl rfl ?_
                      refine Own.s_iconst X178 at_368 (5 : Int32) (by decide) rfl ?_
                      have ex181 : Ext h171 h178 := Own.extK (Own.Ext.rfl' h171) V178.1 all0
                      have S_182 := Own.Str.ext S_175 ex181
                      have Z_183 := Sta.ext ex181 Z_176
                      have Z_184 := Sta.ext ex181 Z_177
                      have E_186 := Exa.ext ex181 E_179
                      refine Own.b_virtual X178 at_369 (tw90 hw) (tw91 hw) (notFace_of_selects (args := #[]) (mvT X178.hZ (tw93 hw))) (tw93 hw) (tw92 hw) (by decide) b75 [(.int (5 : Int32))] [] E_186 (Own.strAt (W := 0) (i := 5) X178.hZ (wChN hw) (tw1 hw) S_182 Z_183 hzc Z_184 hfm (Nat.le_of_ble_eq_true rfl) (by decide) (by decide) (by decide)) (fun v h' L q => Own.strAtQ (z := ((XT.ushr p1 (8 : Int32)) &&& (255 : Int32))) rfl q) Own.Ok.nil (lenOf pd_10 rfl) rfl (Nat.le_of_eq rfl) (by decide) (by decide) rfl rfl ?_
                      intro v185 vm185 T185 h185 L185 X185 V185 Q185
                      obtain rfl := Q185
                      refine Own.s_bipush X185 at_372 (69 : Int32) (by decide) rfl ?_
                      by_cases hc374_187 : ((XT.ushr p1 (8 : Int32)) &&& (255 : Int32)) = (69 : Int32)
                      · refine Own.s_icmpF X185 at_374 (teq hc374_187).2 rfl ?_
                        refine Own.s_iconst X185 at_377 (1 : Int32) (by decide) rfl ?_
                        refine Own.s_goto X185 at_378 (by decide) (pc' := 382) (by decide) ?_
                        refine Own.s_istore X185 at_382 #[.val (.int p0), .val (.int p1), .val (.int p2), .val (.int p3), .val (.int (p0 &&& (255 : Int32))), .val (.int ((XT.ushr p0 (8 : Int32)) &&& (255 : Int32))), .val (.int ((XT.ushr p0 (16 : Int32)) &&& (255 : Int32))), .val (.int ((XT.ushr p0 (24 : Int32)) &&& (255 : Int32))), .val (.int (p1 &&& (255 : Int32))), .val (.int ((XT.ushr p1 (8 : Int32)) &&& (255 : Int32))), .val (.int ((XT.ushr p1 (16 : Int32)) &&& (255 : Int32))), .val (.int (p2 &&& (3 : Int32))), .val (.int (0 : Int32)), .val (.ref b75), .val (.ref r111), .val (.ref r112), .val (.ref b113), .val (.int (0 : Int32)), .val (.int (1 : Int32)), .unset] rfl rfl ?_
                        refine Own.s_iload X185 at_384 rfl rfl ?_
                        refine Own.s_ifF X185 at_386 ((if0 _ _).trans (feq (show ¬ (1 : Int32) = (0 : Int32) by decide)).1) rfl ?_
                        refine Own.s_iload X185 at_389 rfl rfl ?_
                        refine Own.s_ifT X185 at_391 ((if0 _ _).trans (teq (show (0 : Int32) = (0 : Int32) by decide)).1) (by decide) (pc' := 398) (by decide) ?_
                        refine Own.s_iconst X185 at_398 (0 : Int32) (by decide) rfl ?_
                        refine Own.s_istore X185 at_399 #[.val (.int p0), .val (.int p1), .val (.int p2), .val (.int p3), .val (.int (p0 &&& (255 : Int32))), .val (.int ((XT.ushr p0 (8 : Int32)) &&& (255 : Int32))), .val (.int ((XT.ushr p0 (16 : Int32)) &&& (255 : Int32))), .val (.int ((XT.ushr p0 (24 : Int32)) &&& (255 : Int32))), .val (.int (p1 &&& (255 : Int32))), .val (.int ((XT.ushr p1 (8 : Int32)) &&& (255 : Int32))), .val (.int ((XT.ushr p1 (16 : Int32)) &&& (255 : Int32))), .val (.int (p2 &&& (3 : Int32))), .val (.int (0 : Int32)), .val (.ref b75), .val (.ref r111), .val (.ref r112), .val (.ref b113), .val (.int (0 : Int32)), .val (.int (1 : Int32)), .val (.int (0 : Int32))] rfl rfl ?_
                        refine Own.s_iload X185 at_401 rfl rfl ?_
                        refine Own.s_iload X185 at_403 rfl rfl ?_
                        refine Own.s_icmpF X185 at_405 (teq (show (0 : Int32) = (0 : Int32) by decide)).2 rfl ?_
                        refine Own.s_iconst X185 at_408 (1 : Int32) (by decide) rfl ?_
                        refine Own.s_goto X185 at_409 (by decide) (pc' := 413) (by decide) ?_
                        exact Own.r_nar X185 rfl (Or.inl rfl) at_413 (by decide) (by decide) (by decide)
                      · refine Own.s_icmpT X185 at_374 (feq hc374_187).2 (by decide) (pc' := 381) (by decide) ?_
                        refine Own.s_iconst X185 at_381 (0 : Int32) (by decide) rfl ?_
                        refine Own.s_istore X185 at_382 #[.val (.int p0), .val (.int p1), .val (.int p2), .val (.int p3), .val (.int (p0 &&& (255 : Int32))), .val (.int ((XT.ushr p0 (8 : Int32)) &&& (255 : Int32))), .val (.int ((XT.ushr p0 (16 : Int32)) &&& (255 : Int32))), .val (.int ((XT.ushr p0 (24 : Int32)) &&& (255 : Int32))), .val (.int (p1 &&& (255 : Int32))), .val (.int ((XT.ushr p1 (8 : Int32)) &&& (255 : Int32))), .val (.int ((XT.ushr p1 (16 : Int32)) &&& (255 : Int32))), .val (.int (p2 &&& (3 : Int32))), .val (.int (0 : Int32)), .val (.ref b75), .val (.ref r111), .val (.ref r112), .val (.ref b113), .val (.int (0 : Int32)), .val (.int (0 : Int32)), .unset] rfl rfl ?_
                        refine Own.s_iload X185 at_384 rfl rfl ?_
                        refine Own.s_ifT X185 at_386 ((if0 _ _).trans (teq (show (0 : Int32) = (0 : Int32) by decide)).1) (by decide) (pc' := 398) (by decide) ?_
                        refine Own.s_iconst X185 at_398 (0 : Int32) (by decide) rfl ?_
                        refine Own.s_istore X185 at_399 #[.val (.int p0), .val (.int p1), .val (.int p2), .val (.int p3), .val (.int (p0 &&& (255 : Int32))), .val (.int ((XT.ushr p0 (8 : Int32)) &&& (255 : Int32))), .val (.int ((XT.ushr p0 (16 : Int32)) &&& (255 : Int32))), .val (.int ((XT.ushr p0 (24 : Int32)) &&& (255 : Int32))), .val (.int (p1 &&& (255 : Int32))), .val (.int ((XT.ushr p1 (8 : Int32)) &&& (255 : Int32))), .val (.int ((XT.ushr p1 (16 : Int32)) &&& (255 : Int32))), .val (.int (p2 &&& (3 : Int32))), .val (.int (0 : Int32)), .val (.ref b75), .val (.ref r111), .val (.ref r112), .val (.ref b113), .val (.int (0 : Int32)), .val (.int (0 : Int32)), .val (.int (0 : Int32))] rfl rfl ?_
                        refine Own.s_iload X185 at_401 rfl rfl ?_
                        refine Own.s_iload X185 at_403 rfl rfl ?_
                        refine Own.s_icmpF X185 at_405 (teq (show (0 : Int32) = (0 : Int32) by decide)).2 rfl ?_
                        refine Own.s_iconst X185 at_408 (1 : Int32) (by decide) rfl ?_
                        refine Own.s_goto X185 at_409 (by decide) (pc' := 413) (by decide) ?_
                        exact Own.r_nar X185 rfl (Or.inl rfl) at_413 (by decide) (by decide) (by decide)
                    · refine Own.s_icmpT X178 at_363 (feq hc363_180).2 (by decide) (pc' := 381) (by decide) ?_
                      refine Own.s_iconst X178 at_381 (0 : Int32) (by decide) rfl ?_
                      refine Own.s_istore X178 at_382 #[.val (.int p0), .val (.int p1), .val (.int p2), .val (.int p3), .val (.int (p0 &&& (255 : Int32))), .val (.int ((XT.ushr p0 (8 : Int32)) &&& (255 : Int32))), .val (.int ((XT.ushr p0 (16 : Int32)) &&& (255 : Int32))), .val (.int ((XT.ushr p0 (24 : Int32)) &&& (255 : Int32))), .val (.int (p1 &&& (255 : Int32))), .val (.int ((XT.ushr p1 (8 : Int32)) &&& (255 : Int32))), .val (.int ((XT.ushr p1 (16 : Int32)) &&& (255 : Int32))), .val (.int (p2 &&& (3 : Int32))), .val (.int (0 : Int32)), .val (.ref b75), .val (.ref r111), .val (.ref r112), .val (.ref b113), .val (.int (0 : Int32)), .val (.int (0 : Int32)), .unset] rfl rfl ?_
                      refine Own.s_iload X178 at_384 rfl rfl ?_
                      refine Own.s_ifT X178 at_386 ((if0 _ _).trans (teq (show (0 : Int32) = (0 : Int32) by decide)).1) (by decide) (pc' := 398) (by decide) ?_
                      refine Own.s_iconst X178 at_398 (0 : Int32) (by decide) rfl ?_
                      refine Own.s_istore X178 at_399 #[.val (.int p0), .val (.int p1), .val (.int p2), .val (.int p3), .val (.int (p0 &&& (255 : Int32))), .val (.int ((XT.ushr p0 (8 : Int32)) &&& (255 : Int32))), .val (.int ((XT.ushr p0 (16 : Int32)) &&& (255 : Int32))), .val (.int ((XT.ushr p0 (24 : Int32)) &&& (255 : Int32))), .val (.int (p1 &&& (255 : Int32))), .val (.int ((XT.ushr p1 (8 : Int32)) &&& (255 : Int32))), .val (.int ((XT.ushr p1 (16 : Int32)) &&& (255 : Int32))), .val (.int (p2 &&& (3 : Int32))), .val (.int (0 : Int32)), .val (.ref b75), .val (.ref r111), .val (.ref r112), .val (.ref b113), .val (.int (0 : Int32)), .val (.int (0 : Int32)), .val (.int (0 : Int32))] rfl rfl ?_
                      refine Own.s_iload X178 at_401 rfl rfl ?_
                      refine Own.s_iload X178 at_403 rfl rfl ?_
                      refine Own.s_icmpF X178 at_405 (teq (show (0 : Int32) = (0 : Int32) by decide)).2 rfl ?_
                      refine Own.s_iconst X178 at_408 (1 : Int32) (by decide) rfl ?_
                      refine Own.s_goto X178 at_409 (by decide) (pc' := 413) (by decide) ?_
                      exact Own.r_nar X178 rfl (Or.inl rfl) at_413 (by decide) (by decide) (by decide)
                  · refine Own.s_icmpT X171 at_352 (feq hc352_173).2 (by decide) (pc' := 381) (by decide) ?_
                    refine Own.s_iconst X171 at_381 (0 : Int32) (by decide) rfl ?_
                    refine Own.s_istore X171 at_382 #[.val (.int p0), .val (.int p1), .val (.int p2), .val (.int p3), .val (.int (p0 &&& (255 : Int32))), .val (.int ((XT.ushr p0 (8 : Int32)) &&& (255 : Int32))), .val (.int ((XT.ushr p0 (16 : Int32)) &&& (255 : Int32))), .val (.int ((XT.ushr p0 (24 : Int32)) &&& (255 : Int32))), .val (.int (p1 &&& (255 : Int32))), .val (.int ((XT.ushr p1 (8 : Int32)) &&& (255 : Int32))), .val (.int ((XT.ushr p1 (16 : Int32)) &&& (255 : Int32))), .val (.int (p2 &&& (3 : Int32))), .val (.int (0 : Int32)), .val (.ref b75), .val (.ref r111), .val (.ref r112), .val (.ref b113), .val (.int (0 : Int32)), .val (.int (0 : Int32)), .unset] rfl rfl ?_
                    refine Own.s_iload X171 at_384 rfl rfl ?_
                    refine Own.s_ifT X171 at_386 ((if0 _ _).trans (teq (show (0 : Int32) = (0 : Int32) by decide)).1) (by decide) (pc' := 398) (by decide) ?_
                    refine Own.s_iconst X171 at_398 (0 : Int32) (by decide) rfl ?_
                    refine Own.s_istore X171 at_399 #[.val (.int p0), .val (.int p1), .val (.int p2), .val (.int p3), .val (.int (p0 &&& (255 : Int32))), .val (.int ((XT.ushr p0 (8 : Int32)) &&& (255 : Int32))), .val (.int ((XT.ushr p0 (16 : Int32)) &&& (255 : Int32))), .val (.int ((XT.ushr p0 (24 : Int32)) &&& (255 : Int32))), .val (.int (p1 &&& (255 : Int32))), .val (.int ((XT.ushr p1 (8 : Int32)) &&& (255 : Int32))), .val (.int ((XT.ushr p1 (16 : Int32)) &&& (255 : Int32))), .val (.int (p2 &&& (3 : Int32))), .val (.int (0 : Int32)), .val (.ref b75), .val (.ref r111), .val (.ref r112), .val (.ref b113), .val (.int (0 : Int32)), .val (.int (0 : Int32)), .val (.int (0 : Int32))] rfl rfl ?_
                    refine Own.s_iload X171 at_401 rfl rfl ?_
                    refine Own.s_iload X171 at_403 rfl rfl ?_
                    refine Own.s_icmpF X171 at_405 (teq (show (0 : Int32) = (0 : Int32) by decide)).2 rfl ?_
                    refine Own.s_iconst X171 at_408 (1 : Int32) (by decide) rfl ?_
                    refine Own.s_goto X171 at_409 (by decide) (pc' := 413) (by decide) ?_
                    exact Own.r_nar X171 rfl (Or.inl rfl) at_413 (by decide) (by decide) (by decide)
                · refine Own.s_icmpT X164 at_341 (feq hc341_166).2 (by decide) (pc' := 381) (by decide) ?_
                  refine Own.s_iconst X164 at_381 (0 : Int32) (by decide) rfl ?_
                  refine Own.s_istore X164 at_382 #[.val (.int p0), .val (.int p1), .val (.int p2), .val (.int p3), .val (.int (p0 &&& (255 : Int32))), .val (.int ((XT.ushr p0 (8 : Int32)) &&& (255 : Int32))), .val (.int ((XT.ushr p0 (16 : Int32)) &&& (255 : Int32))), .val (.int ((XT.ushr p0 (24 : Int32)) &&& (255 : Int32))), .val (.int (p1 &&& (255 : Int32))), .val (.int ((XT.ushr p1 (8 : Int32)) &&& (255 : Int32))), .val (.int ((XT.ushr p1 (16 : Int32)) &&& (255 : Int32))), .val (.int (p2 &&& (3 : Int32))), .val (.int (0 : Int32)), .val (.ref b75), .val (.ref r111), .val (.ref r112), .val (.ref b113), .val (.int (0 : Int32)), .val (.int (0 : Int32)), .unset] rfl rfl ?_
                  refine Own.s_iload X164 at_384 rfl rfl ?_
                  refine Own.s_ifT X164 at_386 ((if0 _ _).trans (teq (show (0 : Int32) = (0 : Int32) by decide)).1) (by decide) (pc' := 398) (by decide) ?_
                  refine Own.s_iconst X164 at_398 (0 : Int32) (by decide) rfl ?_
                  refine Own.s_istore X164 at_399 #[.val (.int p0), .val (.int p1), .val (.int p2), .val (.int p3), .val (.int (p0 &&& (255 : Int32))), .val (.int ((XT.ushr p0 (8 : Int32)) &&& (255 : Int32))), .val (.int ((XT.ushr p0 (16 : Int32)) &&& (255 : Int32))), .val (.int ((XT.ushr p0 (24 : Int32)) &&& (255 : Int32))), .val (.int (p1 &&& (255 : Int32))), .val (.int ((XT.ushr p1 (8 : Int32)) &&& (255 : Int32))), .val (.int ((XT.ushr p1 (16 : Int32)) &&& (255 : Int32))), .val (.int (p2 &&& (3 : Int32))), .val (.int (0 : Int32)), .val (.ref b75), .val (.ref r111), .val (.ref r112), .val (.ref b113), .val (.int (0 : Int32)), .val (.int (0 : Int32)), .val (.int (0 : Int32))] rfl rfl ?_
                  refine Own.s_iload X164 at_401 rfl rfl ?_
                  refine Own.s_iload X164 at_403 rfl rfl ?_
                  refine Own.s_icmpF X164 at_405 (teq (show (0 : Int32) = (0 : Int32) by decide)).2 rfl ?_
                  refine Own.s_iconst X164 at_408 (1 : Int32) (by decide) rfl ?_
                  refine Own.s_goto X164 at_409 (by decide) (pc' := 413) (by decide) ?_
                  exact Own.r_nar X164 rfl (Or.inl rfl) at_413 (by decide) (by decide) (by decide)
              · refine Own.s_icmpT X157 at_330 (feq hc330_159).2 (by decide) (pc' := 381) (by decide) ?_
                refine Own.s_iconst X157 at_381 (0 : Int32) (by decide) rfl ?_
                refine Own.s_istore X157 at_382 #[.val (.int p0), .val (.int p1), .val (.int p2), .val (.int p3), .val (.int (p0 &&& (255 : Int32))), .val (.int ((XT.ushr p0 (8 : Int32)) &&& (255 : Int32))), .val (.int ((XT.ushr p0 (16 : Int32)) &&& (255 : Int32))), .val (.int ((XT.ushr p0 (24 : Int32)) &&& (255 : Int32))), .val (.int (p1 &&& (255 : Int32))), .val (.int ((XT.ushr p1 (8 : Int32)) &&& (255 : Int32))), .val (.int ((XT.ushr p1 (16 : Int32)) &&& (255 : Int32))), .val (.int (p2 &&& (3 : Int32))), .val (.int (0 : Int32)), .val (.ref b75), .val (.ref r111), .val (.ref r112), .val (.ref b113), .val (.int (0 : Int32)), .val (.int (0 : Int32)), .unset] rfl rfl ?_
                refine Own.s_iload X157 at_384 rfl rfl ?_
                refine Own.s_ifT X157 at_386 ((if0 _ _).trans (teq (show (0 : Int32) = (0 : Int32) by decide)).1) (by decide) (pc' := 398) (by decide) ?_
                refine Own.s_iconst X157 at_398 (0 : Int32) (by decide) rfl ?_
                refine Own.s_istore X157 at_399 #[.val (.int p0), .val (.int p1), .val (.int p2), .val (.int p3), .val (.int (p0 &&& (255 : Int32))), .val (.int ((XT.ushr p0 (8 : Int32)) &&& (255 : Int32))), .val (.int ((XT.ushr p0 (16 : Int32)) &&& (255 : Int32))), .val (.int ((XT.ushr p0 (24 : Int32)) &&& (255 : Int32))), .val (.int (p1 &&& (255 : Int32))), .val (.int ((XT.ushr p1 (8 : Int32)) &&& (255 : Int32))), .val (.int ((XT.ushr p1 (16 : Int32)) &&& (255 : Int32))), .val (.int (p2 &&& (3 : Int32))), .val (.int (0 : Int32)), .val (.ref b75), .val (.ref r111), .val (.ref r112), .val (.ref b113), .val (.int (0 : Int32)), .val (.int (0 : Int32)), .val (.int (0 : Int32))] rfl rfl ?_
                refine Own.s_iload X157 at_401 rfl rfl ?_
                refine Own.s_iload X157 at_403 rfl rfl ?_
                refine Own.s_icmpF X157 at_405 (teq (show (0 : Int32) = (0 : Int32) by decide)).2 rfl ?_
                refine Own.s_iconst X157 at_408 (1 : Int32) (by decide) rfl ?_
                refine Own.s_goto X157 at_409 (by decide) (pc' := 413) (by decide) ?_
                exact Own.r_nar X157 rfl (Or.inl rfl) at_413 (by decide) (by decide) (by decide)
            · refine Own.s_icmpT X150 at_319 (feq hc319_152).2 (by decide) (pc' := 381) (by decide) ?_
              refine Own.s_iconst X150 at_381 (0 : Int32) (by decide) rfl ?_
              refine Own.s_istore X150 at_382 #[.val (.int p0), .val (.int p1), .val (.int p2), .val (.int p3), .val (.int (p0 &&& (255 : Int32))), .val (.int ((XT.ushr p0 (8 : Int32)) &&& (255 : Int32))), .val (.int ((XT.ushr p0 (16 : Int32)) &&& (255 : Int32))), .val (.int ((XT.ushr p0 (24 : Int32)) &&& (255 : Int32))), .val (.int (p1 &&& (255 : Int32))), .val (.int ((XT.ushr p1 (8 : Int32)) &&& (255 : Int32))), .val (.int ((XT.ushr p1 (16 : Int32)) &&& (255 : Int32))), .val (.int (p2 &&& (3 : Int32))), .val (.int (0 : Int32)), .val (.ref b75), .val (.ref r111), .val (.ref r112), .val (.ref b113), .val (.int (0 : Int32)), .val (.int (0 : Int32)), .unset] rfl rfl ?_
              refine Own.s_iload X150 at_384 rfl rfl ?_
              refine Own.s_ifT X150 at_386 ((if0 _ _).trans (teq (show (0 : Int32) = (0 : Int32) by decide)).1) (by decide) (pc' := 398) (by decide) ?_
              refine Own.s_iconst X150 at_398 (0 : Int32) (by decide) rfl ?_
              refine Own.s_istore X150 at_399 #[.val (.int p0), .val (.int p1), .val (.int p2), .val (.int p3), .val (.int (p0 &&& (255 : Int32))), .val (.int ((XT.ushr p0 (8 : Int32)) &&& (255 : Int32))), .val (.int ((XT.ushr p0 (16 : Int32)) &&& (255 : Int32))), .val (.int ((XT.ushr p0 (24 : Int32)) &&& (255 : Int32))), .val (.int (p1 &&& (255 : Int32))), .val (.int ((XT.ushr p1 (8 : Int32)) &&& (255 : Int32))), .val (.int ((XT.ushr p1 (16 : Int32)) &&& (255 : Int32))), .val (.int (p2 &&& (3 : Int32))), .val (.int (0 : Int32)), .val (.ref b75), .val (.ref r111), .val (.ref r112), .val (.ref b113), .val (.int (0 : Int32)), .val (.int (0 : Int32)), .val (.int (0 : Int32))] rfl rfl ?_
              refine Own.s_iload X150 at_401 rfl rfl ?_
              refine Own.s_iload X150 at_403 rfl rfl ?_
              refine Own.s_icmpF X150 at_405 (teq (show (0 : Int32) = (0 : Int32) by decide)).2 rfl ?_
              refine Own.s_iconst X150 at_408 (1 : Int32) (by decide) rfl ?_
              refine Own.s_goto X150 at_409 (by decide) (pc' := 413) (by decide) ?_
              exact Own.r_nar X150 rfl (Or.inl rfl) at_413 (by decide) (by decide) (by decide)
        · refine Own.s_icmpT X0 at_149 (feq hc149_74).2 (by decide) (pc' := 198) (by decide) ?_
          refine Own.s_new X0 at_198 (tw0 hw) (tw1 hw) (tw2 hw) (by decide) (by decide) rfl ?_
          intro b188 T188 h188 X188 V188 g188 E188 O188 D188
          have F188_coder : Fld Z h188 b188 "java/lang/String" "coder" "B" (.int 0) := D188 (Or.inr (tw27 hw)) (ty := .byte) (by decide)
          have F188_value : Fld Z h188 b188 "java/lang/String" "value" "[B" (.null) := D188 (Or.inr (tw29 hw)) (ty := (.array .byte)) (by decide)
          refine Own.s_dup X188 at_201 rfl rfl ?_
          refine Own.s_bipush X188 at_202 (7 : Int32) (by decide) rfl ?_
          refine Own.s_newarray X188 at_204 (tw3 hw) (by decide) 7 (by decide) (by decide) (by decide) (by decide) rfl ?_
          intro b189 T189 h189 k189 X189 V189 g189 A189 O189
          have B189 : Arv Z h189 b189 k189 .char (7 : Int32) [(.int (0 : Int32)), (.int (0 : Int32)), (.int (0 : Int32)), (.int (0 : Int32)), (.int (0 : Int32)), (.int (0 : Int32)), (.int (0 : Int32))] (.int (0 : Int32)) := A189.pad (pad_rep [] (.int (0 : Int32)) 7)
          refine Own.s_dup X189 at_206 rfl rfl ?_
          refine Own.s_iconst X189 at_207 (0 : Int32) (by decide) rfl ?_
          refine Own.s_iload X189 at_208 rfl rfl ?_
          refine Own.s_castoreR X189 at_210 B189 ⟨by decide, by decide⟩ 0 (by decide) (Nat.le_of_ble_eq_true rfl) (Own.nar_mask _) O189 rfl ?_
          intro T190 h190 X190 V190 A190
          have B190 : Arv Z h190 b189 k189 .char (7 : Int32) [(.int (p0 &&& (255 : Int32))), (.int (0 : Int32)), (.int (0 : Int32)), (.int (0 : Int32)), (.int (0 : Int32)), (.int (0 : Int32)), (.int (0 : Int32))] (.int (0 : Int32)) := A190
          refine Own.s_dup X190 at_211 rfl rfl ?_
          refine Own.s_iconst X190 at_212 (1 : Int32) (by decide) rfl ?_
          refine Own.s_iload X190 at_213 rfl rfl ?_
          have O192 := (O189.ev V190)
          refine Own.s_castoreR X190 at_215 B190 ⟨by decide, by decide⟩ 1 (by decide) (Nat.le_of_ble_eq_true rfl) (Own.nar_mask _) O192 rfl ?_
          intro T191 h191 X191 V191 A191
          have B191 : Arv Z h191 b189 k189 .char (7 : Int32) [(.int (p0 &&& (255 : Int32))), (.int ((XT.ushr p0 (8 : Int32)) &&& (255 : Int32))), (.int (0 : Int32)), (.int (0 : Int32)), (.int (0 : Int32)), (.int (0 : Int32)), (.int (0 : Int32))] (.int (0 : Int32)) := A191
          refine Own.s_dup X191 at_216 rfl rfl ?_
          refine Own.s_iconst X191 at_217 (2 : Int32) (by decide) rfl ?_
          refine Own.s_iload X191 at_218 rfl rfl ?_
          have O194 := (O192.ev V191)
          refine Own.s_castoreR X191 at_220 B191 ⟨by decide, by decide⟩ 2 (by decide) (Nat.le_of_ble_eq_true rfl) (Own.nar_mask _) O194 rfl ?_
          intro T193 h193 X193 V193 A193
          have B193 : Arv Z h193 b189 k189 .char (7 : Int32) [(.int (p0 &&& (255 : Int32))), (.int ((XT.ushr p0 (8 : Int32)) &&& (255 : Int32))), (.int ((XT.ushr p0 (16 : Int32)) &&& (255 : Int32))), (.int (0 : Int32)), (.int (0 : Int32)), (.int (0 : Int32)), (.int (0 : Int32))] (.int (0 : Int32)) := A193
          refine Own.s_dup X193 at_221 rfl rfl ?_
          refine Own.s_iconst X193 at_222 (3 : Int32) (by decide) rfl ?_
          refine Own.s_iload X193 at_223 rfl rfl ?_
          have O196 := (O194.ev V193)
          refine Own.s_castoreR X193 at_225 B193 ⟨by decide, by decide⟩ 3 (by decide) (Nat.le_of_ble_eq_true rfl) (Own.nar_mask _) O196 rfl ?_
          intro T195 h195 X195 V195 A195
          have B195 : Arv Z h195 b189 k189 .char (7 : Int32) [(.int (p0 &&& (255 : Int32))), (.int ((XT.ushr p0 (8 : Int32)) &&& (255 : Int32))), (.int ((XT.ushr p0 (16 : Int32)) &&& (255 : Int32))), (.int ((XT.ushr p0 (24 : Int32)) &&& (255 : Int32))), (.int (0 : Int32)), (.int (0 : Int32)), (.int (0 : Int32))] (.int (0 : Int32)) := A195
          refine Own.s_dup X195 at_226 rfl rfl ?_
          refine Own.s_iconst X195 at_227 (4 : Int32) (by decide) rfl ?_
          refine Own.s_iload X195 at_228 rfl rfl ?_
          have O198 := (O196.ev V195)
          refine Own.s_castoreR X195 at_230 B195 ⟨by decide, by decide⟩ 4 (by decide) (Nat.le_of_ble_eq_true rfl) (Own.nar_mask _) O198 rfl ?_
          intro T197 h197 X197 V197 A197
          have B197 : Arv Z h197 b189 k189 .char (7 : Int32) [(.int (p0 &&& (255 : Int32))), (.int ((XT.ushr p0 (8 : Int32)) &&& (255 : Int32))), (.int ((XT.ushr p0 (16 : Int32)) &&& (255 : Int32))), (.int ((XT.ushr p0 (24 : Int32)) &&& (255 : Int32))), (.int (p1 &&& (255 : Int32))), (.int (0 : Int32)), (.int (0 : Int32))] (.int (0 : Int32)) := A197
          refine Own.s_dup X197 at_231 rfl rfl ?_
          refine Own.s_iconst X197 at_232 (5 : Int32) (by decide) rfl ?_
          refine Own.s_iload X197 at_233 rfl rfl ?_
          have O200 := (O198.ev V197)
          refine Own.s_castoreR X197 at_235 B197 ⟨by decide, by decide⟩ 5 (by decide) (Nat.le_of_ble_eq_true rfl) (Own.nar_mask _) O200 rfl ?_
          intro T199 h199 X199 V199 A199
          have B199 : Arv Z h199 b189 k189 .char (7 : Int32) [(.int (p0 &&& (255 : Int32))), (.int ((XT.ushr p0 (8 : Int32)) &&& (255 : Int32))), (.int ((XT.ushr p0 (16 : Int32)) &&& (255 : Int32))), (.int ((XT.ushr p0 (24 : Int32)) &&& (255 : Int32))), (.int (p1 &&& (255 : Int32))), (.int ((XT.ushr p1 (8 : Int32)) &&& (255 : Int32))), (.int (0 : Int32))] (.int (0 : Int32)) := A199
          refine Own.s_dup X199 at_236 rfl rfl ?_
          refine Own.s_bipush X199 at_237 (6 : Int32) (by decide) rfl ?_
          refine Own.s_iload X199 at_239 rfl rfl ?_
          have O202 := (O200.ev V199)
          refine Own.s_castoreR X199 at_241 B199 ⟨by decide, by decide⟩ 6 (by decide) (Nat.le_of_ble_eq_true rfl) (Own.nar_mask _) O202 rfl ?_
          intro T201 h201 X201 V201 A201
          have B201 : Arv Z h201 b189 k189 .char (7 : Int32) [(.int (p0 &&& (255 : Int32))), (.int ((XT.ushr p0 (8 : Int32)) &&& (255 : Int32))), (.int ((XT.ushr p0 (16 : Int32)) &&& (255 : Int32))), (.int ((XT.ushr p0 (24 : Int32)) &&& (255 : Int32))), (.int (p1 &&& (255 : Int32))), (.int ((XT.ushr p1 (8 : Int32)) &&& (255 : Int32))), (.int ((XT.ushr p1 (16 : Int32)) &&& (255 : Int32)))] (.int (0 : Int32)) := A201
          have ex203 : Ext h0 h188 := Own.extK (Own.Ext.rfl' h0) V188.1 all0
          have ex204 : Ext h0 h189 := Own.extK ex203 V189.1 all0
          have le205 : h0.size ≤ h188.size := V188.1.1
          have ex206 : Ext h0 h190 := Own.extK ex204 V190.1 (allS (Nat.le_trans le205 g189) all0)
          have ex207 : Ext h0 h191 := Own.extK ex206 V191.1 (allS (Nat.le_trans le205 g189) all0)
          have ex208 : Ext h0 h193 := Own.extK ex207 V193.1 (allS (Nat.le_trans le205 g189) all0)
          have ex209 : Ext h0 h195 := Own.extK ex208 V195.1 (allS (Nat.le_trans le205 g189) all0)
          have ex210 : Ext h0 h197 := Own.extK ex209 V197.1 (allS (Nat.le_trans le205 g189) all0)
          have ex211 : Ext h0 h199 := Own.extK ex210 V199.1 (allS (Nat.le_trans le205 g189) all0)
          have ex212 : Ext h0 h201 := Own.extK ex211 V201.1 (allS (Nat.le_trans le205 g189) all0)
          have Z_213 := Sta.ext ex212 SC0
          have ex214 : Ext h188 h189 := Own.extK (Own.Ext.rfl' h188) V189.1 all0
          have ex215 : Ext h188 h190 := Own.extK ex214 V190.1 (allS g189 all0)
          have ex216 : Ext h188 h191 := Own.extK ex215 V191.1 (allS g189 all0)
          have ex217 : Ext h188 h193 := Own.extK ex216 V193.1 (allS g189 all0)
          have ex218 : Ext h188 h195 := Own.extK ex217 V195.1 (allS g189 all0)
          have ex219 : Ext h188 h197 := Own.extK ex218 V197.1 (allS g189 all0)
          have ex220 : Ext h188 h199 := Own.extK ex219 V199.1 (allS g189 all0)
          have ex221 : Ext h188 h201 := Own.extK ex220 V201.1 (allS g189 all0)
          have E_222 := Exa.ext ex221 E188
          have F_223 := Fld.ext ex221 F188_value
          have F_224 := Fld.ext ex221 F188_coder
          have O225 := ((((((((O188.ev V189).ev V190).ev V191).ev V193).ev V195).ev V197).ev V199).ev V201)
          have lat226 : ∀ c ∈ [(p0 &&& (255 : Int32)), ((XT.ushr p0 (8 : Int32)) &&& (255 : Int32)), ((XT.ushr p0 (16 : Int32)) &&& (255 : Int32)), ((XT.ushr p0 (24 : Int32)) &&& (255 : Int32)), (p1 &&& (255 : Int32)), ((XT.ushr p1 (8 : Int32)) &&& (255 : Int32)), ((XT.ushr p1 (16 : Int32)) &&& (255 : Int32))], Own.Lat c := (Own.latL (Own.lat_mask _) (Own.latL (Own.lat_mask _) (Own.latL (Own.lat_mask _) (Own.latL (Own.lat_mask _) (Own.latL (Own.lat_mask _) (Own.latL (Own.lat_mask _) (Own.latL (Own.lat_mask _) Own.latN)))))))
          refine Own.b_special X201 at_242 rfl (tw4 hw) (tw5 hw) (tw6 hw) (by decide) b188 [(.ref b189)] [(.ref b188)] (Own.strNew (W := 1) (cs := [(p0 &&& (255 : Int32)), ((XT.ushr p0 (8 : Int32)) &&& (255 : Int32)), ((XT.ushr p0 (16 : Int32)) &&& (255 : Int32)), ((XT.ushr p0 (24 : Int32)) &&& (255 : Int32)), (p1 &&& (255 : Int32)), ((XT.ushr p1 (8 : Int32)) &&& (255 : Int32)), ((XT.ushr p1 (16 : Int32)) &&& (255 : Int32))]) (n := 7) X201.hZ (wNew hw) (tw1 hw) O225.2.1 X201.hE.1 E_222 F_223 F_224 B201 Z_213 hzc rfl (by decide) (by decide) (by decide) lat226 (by decide) (by decide)) (fun v h' L q => Own.strNewQ (n := 7) rfl (by decide) (by decide) lat226 q) (Own.Ok.one O225) (lenOf pd_8 rfl) rfl (Nat.le_of_eq rfl) (by decide) (by decide) rfl rfl ?_
          intro v227 vm227 T227 h227 L227 X227 V227 Q227
          obtain ⟨rfl, S227⟩ := Q227
          refine Own.s_astore X227 at_245 rfl #[.val (.int p0), .val (.int p1), .val (.int p2), .val (.int p3), .val (.int (p0 &&& (255 : Int32))), .val (.int ((XT.ushr p0 (8 : Int32)) &&& (255 : Int32))), .val (.int ((XT.ushr p0 (16 : Int32)) &&& (255 : Int32))), .val (.int ((XT.ushr p0 (24 : Int32)) &&& (255 : Int32))), .val (.int (p1 &&& (255 : Int32))), .val (.int ((XT.ushr p1 (8 : Int32)) &&& (255 : Int32))), .val (.int ((XT.ushr p1 (16 : Int32)) &&& (255 : Int32))), .val (.int (p2 &&& (3 : Int32))), .val (.int (0 : Int32)), .val (.ref b188), .unset, .unset, .unset, .unset, .unset, .unset] rfl rfl ?_
          refine Own.s_iloadN X227 at_247 rfl rfl ?_
          refine Own.s_sipush X227 at_248 (255 : Int32) (by decide) rfl ?_
          refine Own.s_iand X227 at_251 rfl ?_
          refine Own.s_i2cM X227 at_252 rfl ?_
          refine Own.c_static X227 at_253 (tw30 hw) (tw31 hw) (tw2 hw) (tw32 hw) (by decide) [(.int (p3 &&& (255 : Int32)))] [] 0 (rm_valueOf hw (p3 &&& (255 : Int32)) (Own.lat_mask _) SC hzc SF hfm h227 X227.hE) (fun q => nomatch q) Own.Ok.nil (lenOf pd_5 rfl) rfl (Nat.le_of_eq rfl) (by decide) (by decide) (by decide) (by decide) rfl rfl ?_
          intro v228 vm228 T228 h228 L228 X228 V228 Q228
          obtain ⟨r228, rfl, g228, S228⟩ := Q228
          refine Own.s_astore X228 at_256 rfl #[.val (.int p0), .val (.int p1), .val (.int p2), .val (.int p3), .val (.int (p0 &&& (255 : Int32))), .val (.int ((XT.ushr p0 (8 : Int32)) &&& (255 : Int32))), .val (.int ((XT.ushr p0 (16 : Int32)) &&& (255 : Int32))), .val (.int ((XT.ushr p0 (24 : Int32)) &&& (255 : Int32))), .val (.int (p1 &&& (255 : Int32))), .val (.int ((XT.ushr p1 (8 : Int32)) &&& (255 : Int32))), .val (.int ((XT.ushr p1 (16 : Int32)) &&& (255 : Int32))), .val (.int (p2 &&& (3 : Int32))), .val (.int (0 : Int32)), .val (.ref b188), .val (.ref r228), .unset, .unset, .unset, .unset, .unset] rfl rfl ?_
          refine Own.s_iloadN X228 at_258 rfl rfl ?_
          refine Own.s_bipush X228 at_259 (8 : Int32) (by decide) rfl ?_
          refine Own.s_iushr X228 at_261 rfl ?_
          refine Own.s_sipush X228 at_262 (255 : Int32) (by decide) rfl ?_
          refine Own.s_iand X228 at_265 rfl ?_
          refine Own.s_i2cM X228 at_266 rfl ?_
          refine Own.c_static X228 at_267 (tw30 hw) (tw31 hw) (tw2 hw) (tw32 hw) (by decide) [(.int ((XT.ushr p3 (8 : Int32)) &&& (255 : Int32)))] [] 0 (rm_valueOf hw ((XT.ushr p3 (8 : Int32)) &&& (255 : Int32)) (Own.lat_mask _) SC hzc SF hfm h228 X228.hE) (fun q => nomatch q) Own.Ok.nil (lenOf pd_5 rfl) rfl (Nat.le_of_eq rfl) (by decide) (by decide) (by decide) (by decide) rfl rfl ?_
          intro v229 vm229 T229 h229 L229 X229 V229 Q229
          obtain ⟨r229, rfl, g229, S229⟩ := Q229
          refine Own.s_astore X229 at_270 rfl #[.val (.int p0), .val (.int p1), .val (.int p2), .val (.int p3), .val (.int (p0 &&& (255 : Int32))), .val (.int ((XT.ushr p0 (8 : Int32)) &&& (255 : Int32))), .val (.int ((XT.ushr p0 (16 : Int32)) &&& (255 : Int32))), .val (.int ((XT.ushr p0 (24 : Int32)) &&& (255 : Int32))), .val (.int (p1 &&& (255 : Int32))), .val (.int ((XT.ushr p1 (8 : Int32)) &&& (255 : Int32))), .val (.int ((XT.ushr p1 (16 : Int32)) &&& (255 : Int32))), .val (.int (p2 &&& (3 : Int32))), .val (.int (0 : Int32)), .val (.ref b188), .val (.ref r228), .val (.ref r229), .unset, .unset, .unset, .unset] rfl rfl ?_
          refine Own.s_new X229 at_272 (tw44 hw) (tw45 hw) (tw46 hw) (by decide) (by decide) rfl ?_
          intro b230 T230 h230 X230 V230 g230 E230 O230 D230
          have F230_id : Fld Z h230 b230 "com/example/carelane/carelane/registry/LegalEntity" "id" "Ljava/lang/String;" (.null) := D230 (Or.inr (tw57 hw)) (ty := (.object "java/lang/String")) (by decide)
          have F230_type : Fld Z h230 b230 "com/example/carelane/carelane/registry/LegalEntity" "type" "Ljava/lang/String;" (.null) := D230 (Or.inr (tw59 hw)) (ty := (.object "java/lang/String")) (by decide)
          have F230_status : Fld Z h230 b230 "com/example/carelane/carelane/registry/LegalEntity" "status" "Ljava/lang/String;" (.null) := D230 (Or.inr (tw61 hw)) (ty := (.object "java/lang/String")) (by decide)
          have F230_isActive : Fld Z h230 b230 "com/example/carelane/carelane/registry/LegalEntity" "isActive" "Z" (.int 0) := D230 (Or.inr (tw63 hw)) (ty := .boolean) (by decide)
          refine Own.s_dup X230 at_275 rfl rfl ?_
          refine Own.s_aload X230 at_276 rfl rfl rfl ?_
          refine Own.s_aload X230 at_278 rfl rfl rfl ?_
          refine Own.s_aload X230 at_280 rfl rfl rfl ?_
          refine Own.s_iload X230 at_282 rfl rfl ?_
          refine Own.c_special X230 at_284 rfl (tw47 hw) (tw48 hw) (tw46 hw) (tw49 hw) (by decide) b230 [(.ref r228), (.ref r229), (.ref b188), (.int (0 : Int32))] [(.ref b230)] 1 (rm_le0 hw b230 r228 r229 (.ref b188) rfl  h230 X230.hE O230.2.1 E230 F230_id F230_type F230_status F230_isActive ) (fun q => nomatch q) (Own.Ok.one O230) (lenOf pd_6 rfl) rfl (Nat.le_of_eq rfl) (by decide) (by decide) (by decide) (by decide) rfl rfl ?_
          intro v231 vm231 T231 h231 L231 X231 V231 Q231
          obtain ⟨rfl, E231, F231_0, F231_1, F231_2, F231_3⟩ := Q231
          refine Own.s_astore X231 at_287 rfl #[.val (.int p0), .val (.int p1), .val (.int p2), .val (.int p3), .val (.int (p0 &&& (255 : Int32))), .val (.int ((XT.ushr p0 (8 : Int32)) &&& (255 : Int32))), .val (.int ((XT.ushr p0 (16 : Int32)) &&& (255 : Int32))), .val (.int ((XT.ushr p0 (24 : Int32)) &&& (255 : Int32))), .val (.int (p1 &&& (255 : Int32))), .val (.int ((XT.ushr p1 (8 : Int32)) &&& (255 : Int32))), .val (.int ((XT.ushr p1 (16 : Int32)) &&& (255 : Int32))), .val (.int (p2 &&& (3 : Int32))), .val (.int (0 : Int32)), .val (.ref b188), .val (.ref r228), .val (.ref r229), .val (.ref b230), .unset, .unset, .unset] rfl rfl ?_
          refine Own.s_aload X231 at_289 rfl rfl rfl ?_
          have ex232 : Ext h227 h228 := Own.extK (Own.Ext.rfl' h227) V228.1 all0
          have ex233 : Ext h227 h229 := Own.extK ex232 V229.1 all0
          have ex234 : Ext h227 h230 := Own.extK ex233 V230.1 all0
          have le236 : h227.size ≤ h228.size := V228.1.1
          have le235 : h227.size ≤ h229.size := Nat.le_trans le236 V229.1.1
          have ex237 : Ext h227 h231 := Own.extK ex234 V231.1 (allS (Nat.le_trans le235 g230) all0)
          have S_238 := Own.Str.ext S227 ex237
          refine Own.c_virtual X231 at_291 (tw64 hw) (tw65 hw) (notFace_of_selects (args := #[]) (mvT X231.hZ (tw67 hw))) (tw67 hw) (tw66 hw) (tw46 hw) (tw68 hw) (by decide) b230 [] [] 0 E231 (rm_awS0 hw b230 b188 [(p0 &&& (255 : Int32)), ((XT.ushr p0 (8 : Int32)) &&& (255 : Int32)), ((XT.ushr p0 (16 : Int32)) &&& (255 : Int32)), ((XT.ushr p0 (24 : Int32)) &&& (255 : Int32)), (p1 &&& (255 : Int32)), ((XT.ushr p1 (8 : Int32)) &&& (255 : Int32)), ((XT.ushr p1 (16 : Int32)) &&& (255 : Int32))] SC hzc SF hfm h231 X231.hE E231 F231_2 F231_3 S_238) (fun _ => rfl) Own.Ok.nil (lenOf pd_7 rfl) rfl (Nat.le_of_eq rfl) (by decide) (by decide) (by decide) (by decide) rfl rfl ?_
          intro v239 vm239 T239 h239 L239 X239 V239 Q239
          rcases Q239 with Q239 | Q239
          · obtain ⟨rfl, hs239, hb239⟩ := Q239
            exact absurd hb239 (by decide)
          · obtain ⟨rfl, hs239⟩ := Q239
            refine Own.s_istore X239 at_294 #[.val (.int p0), .val (.int p1), .val (.int p2), .val (.int p3), .val (.int (p0 &&& (255 : Int32))), .val (.int ((XT.ushr p0 (8 : Int32)) &&& (255 : Int32))), .val (.int ((XT.ushr p0 (16 : Int32)) &&& (255 : Int32))), .val (.int ((XT.ushr p0 (24 : Int32)) &&& (255 : Int32))), .val (.int (p1 &&& (255 : Int32))), .val (.int ((XT.ushr p1 (8 : Int32)) &&& (255 : Int32))), .val (.int ((XT.ushr p1 (16 : Int32)) &&& (255 : Int32))), .val (.int (p2 &&& (3 : Int32))), .val (.int (0 : Int32)), .val (.ref b188), .val (.ref r228), .val (.ref r229), .val (.ref b230), .val (.int (0 : Int32)), .unset, .unset] rfl rfl ?_
            refine Own.s_aload X239 at_296 rfl rfl rfl ?_
            refine Own.s_ifnullF X239 at_298 rfl ?_
            refine Own.s_aload X239 at_301 rfl rfl rfl ?_
            have ex240 : Ext h231 h239 := Own.extK (Own.Ext.rfl' h231) V239.1 all0
            have S_241 := Own.Str.ext S_238 ex240
            have ex242 : Ext h0 h227 := Own.extK ex212 V227.1 (allS g188 all0)
            have ex243 : Ext h0 h228 := Own.extK ex242 V228.1 all0
            have ex244 : Ext h0 h229 := Own.extK ex243 V229.1 all0
            have ex245 : Ext h0 h230 := Own.extK ex244 V230.1 all0
            have le256 : h0.size ≤ h189.size := Nat.le_trans le205 V189.1.1
            have le255 : h0.size ≤ h190.size := Nat.le_trans le256 V190.1.1
            have le254 : h0.size ≤ h191.size := Nat.le_trans le255 V191.1.1
            have le253 : h0.size ≤ h193.size := Nat.le_trans le254 V193.1.1
            have le252 : h0.size ≤ h195.size := Nat.le_trans le253 V195.1.1
            have le251 : h0.size ≤ h197.size := Nat.le_trans le252 V197.1.1
            have le250 : h0.size ≤ h199.size := Nat.le_trans le251 V199.1.1
            have le249 : h0.size ≤ h201.size := Nat.le_trans le250 V201.1.1
            have le248 : h0.size ≤ h227.size := Nat.le_trans le249 V227.1.1
            have le247 : h0.size ≤ h228.size := Nat.le_trans le248 V228.1.1
            have le246 : h0.size ≤ h229.size := Nat.le_trans le247 V229.1.1
            have ex257 : Ext h0 h231 := Own.extK ex245 V231.1 (allS (Nat.le_trans le246 g230) all0)
            have ex258 : Ext h0 h239 := Own.extK ex257 V239.1 all0
            have Z_259 := Sta.ext ex258 SC0
            have ex261 : Ext h227 h239 := Own.extK ex237 V239.1 all0
            have E_262 := Exa.ext ex261 S227.exa
            refine Own.b_virtual X239 at_303 (tw80 hw) (tw81 hw) (notFace_of_selects (args := #[]) (mvT X239.hZ (tw83 hw))) (tw83 hw) (tw82 hw) (by decide) b188 [] [] E_262 (Own.strLen (W := 0) X239.hZ (wLen hw) (tw1 hw) S_241 Z_259 hzc (by decide) (by decide)) (fun v h' L q => Own.strLenQ (N := (7 : Int32)) rfl q) Own.Ok.nil (lenOf pd_9 rfl) rfl (Nat.le_of_eq rfl) (by decide) (by decide) rfl rfl ?_
            intro v260 vm260 T260 h260 L260 X260 V260 Q260
            obtain rfl := Q260
            refine Own.s_bipush X260 at_306 (6 : Int32) (by decide) rfl ?_
            refine Own.s_icmpT X260 at_308 (feq (show ¬ (7 : Int32) = (6 : Int32) by decide)).2 (by decide) (pc' := 381) (by decide) ?_
            refine Own.s_iconst X260 at_381 (0 : Int32) (by decide) rfl ?_
            refine Own.s_istore X260 at_382 #[.val (.int p0), .val (.int p1), .val (.int p2), .val (.int p3), .val (.int (p0 &&& (255 : Int32))), .val (.int ((XT.ushr p0 (8 : Int32)) &&& (255 : Int32))), .val (.int ((XT.ushr p0 (16 : Int32)) &&& (255 : Int32))), .val (.int ((XT.ushr p0 (24 : Int32)) &&& (255 : Int32))), .val (.int (p1 &&& (255 : Int32))), .val (.int ((XT.ushr p1 (8 : Int32)) &&& (255 : Int32))), .val (.int ((XT.ushr p1 (16 : Int32)) &&& (255 : Int32))), .val (.int (p2 &&& (3 : Int32))), .val (.int (0 : Int32)), .val (.ref b188), .val (.ref r228), .val (.ref r229), .val (.ref b230), .val (.int (0 : Int32)), .val (.int (0 : Int32)), .unset] rfl rfl ?_
            refine Own.s_iload X260 at_384 rfl rfl ?_
            refine Own.s_ifT X260 at_386 ((if0 _ _).trans (teq (show (0 : Int32) = (0 : Int32) by decide)).1) (by decide) (pc' := 398) (by decide) ?_
            refine Own.s_iconst X260 at_398 (0 : Int32) (by decide) rfl ?_
            refine Own.s_istore X260 at_399 #[.val (.int p0), .val (.int p1), .val (.int p2), .val (.int p3), .val (.int (p0 &&& (255 : Int32))), .val (.int ((XT.ushr p0 (8 : Int32)) &&& (255 : Int32))), .val (.int ((XT.ushr p0 (16 : Int32)) &&& (255 : Int32))), .val (.int ((XT.ushr p0 (24 : Int32)) &&& (255 : Int32))), .val (.int (p1 &&& (255 : Int32))), .val (.int ((XT.ushr p1 (8 : Int32)) &&& (255 : Int32))), .val (.int ((XT.ushr p1 (16 : Int32)) &&& (255 : Int32))), .val (.int (p2 &&& (3 : Int32))), .val (.int (0 : Int32)), .val (.ref b188), .val (.ref r228), .val (.ref r229), .val (.ref b230), .val (.int (0 : Int32)), .val (.int (0 : Int32)), .val (.int (0 : Int32))] rfl rfl ?_
            refine Own.s_iload X260 at_401 rfl rfl ?_
            refine Own.s_iload X260 at_403 rfl rfl ?_
            refine Own.s_icmpF X260 at_405 (teq (show (0 : Int32) = (0 : Int32) by decide)).2 rfl ?_
            refine Own.s_iconst X260 at_408 (1 : Int32) (by decide) rfl ?_
            refine Own.s_goto X260 at_409 (by decide) (pc' := 413) (by decide) ?_
            exact Own.r_nar X260 rfl (Or.inl rfl) at_413 (by decide) (by decide) (by decide)
  · refine Own.s_ifF X0 at_79 ((if0 _ _).trans (feq hc79_1).1) rfl ?_
    refine Own.s_iconst X0 at_82 (1 : Int32) (by decide) rfl ?_
    refine Own.s_goto X0 at_83 (by decide) (pc' := 87) (by decide) ?_
    refine Own.s_istore X0 at_87 #[.val (.int p0), .val (.int p1), .val (.int p2), .val (.int p3), .val (.int (p0 &&& (255 : Int32))), .val (.int ((XT.ushr p0 (8 : Int32)) &&& (255 : Int32))), .val (.int ((XT.ushr p0 (16 : Int32)) &&& (255 : Int32))), .val (.int ((XT.ushr p0 (24 : Int32)) &&& (255 : Int32))), .val (.int (p1 &&& (255 : Int32))), .val (.int ((XT.ushr p1 (8 : Int32)) &&& (255 : Int32))), .val (.int ((XT.ushr p1 (16 : Int32)) &&& (255 : Int32))), .val (.int (p2 &&& (3 : Int32))), .val (.int (1 : Int32)), .unset, .unset, .unset, .unset, .unset, .unset, .unset] rfl rfl ?_
    refine Own.s_iload X0 at_89 rfl rfl ?_
    by_cases hc91_263 : (p2 &&& (3 : Int32)) = (0 : Int32)
    · refine Own.s_ifF X0 at_91 ((if0 _ _).trans (teq hc91_263).2) rfl ?_
      refine Own.s_aconst_null X0 at_94 rfl ?_
      refine Own.s_astore X0 at_95 rfl #[.val (.int p0), .val (.int p1), .val (.int p2), .val (.int p3), .val (.int (p0 &&& (255 : Int32))), .val (.int ((XT.ushr p0 (8 : Int32)) &&& (255 : Int32))), .val (.int ((XT.ushr p0 (16 : Int32)) &&& (255 : Int32))), .val (.int ((XT.ushr p0 (24 : Int32)) &&& (255 : Int32))), .val (.int (p1 &&& (255 : Int32))), .val (.int ((XT.ushr p1 (8 : Int32)) &&& (255 : Int32))), .val (.int ((XT.ushr p1 (16 : Int32)) &&& (255 : Int32))), .val (.int (p2 &&& (3 : Int32))), .val (.int (1 : Int32)), .val .null, .unset, .unset, .unset, .unset, .unset, .unset] rfl rfl ?_
      refine Own.s_goto X0 at_97 (by decide) (pc' := 247) (by decide) ?_
      refine Own.s_iloadN X0 at_247 rfl rfl ?_
      refine Own.s_sipush X0 at_248 (255 : Int32) (by decide) rfl ?_
      refine Own.s_iand X0 at_251 rfl ?_
      refine Own.s_i2cM X0 at_252 rfl ?_
      refine Own.c_static X0 at_253 (tw30 hw) (tw31 hw) (tw2 hw) (tw32 hw) (by decide) [(.int (p3 &&& (255 : Int32)))] [] 0 (rm_valueOf hw (p3 &&& (255 : Int32)) (Own.lat_mask _) SC hzc SF hfm h0 X0.hE) (fun q => nomatch q) Own.Ok.nil (lenOf pd_5 rfl) rfl (Nat.le_of_eq rfl) (by decide) (by decide) (by decide) (by decide) rfl rfl ?_
      intro v264 vm264 T264 h264 L264 X264 V264 Q264
      obtain ⟨r264, rfl, g264, S264⟩ := Q264
      refine Own.s_astore X264 at_256 rfl #[.val (.int p0), .val (.int p1), .val (.int p2), .val (.int p3), .val (.int (p0 &&& (255 : Int32))), .val (.int ((XT.ushr p0 (8 : Int32)) &&& (255 : Int32))), .val (.int ((XT.ushr p0 (16 : Int32)) &&& (255 : Int32))), .val (.int ((XT.ushr p0 (24 : Int32)) &&& (255 : Int32))), .val (.int (p1 &&& (255 : Int32))), .val (.int ((XT.ushr p1 (8 : Int32)) &&& (255 : Int32))), .val (.int ((XT.ushr p1 (16 : Int32)) &&& (255 : Int32))), .val (.int (p2 &&& (3 : Int32))), .val (.int (1 : Int32)), .val .null, .val (.ref r264), .unset, .unset, .unset, .unset, .unset] rfl rfl ?_
      refine Own.s_iloadN X264 at_258 rfl rfl ?_
      refine Own.s_bipush X264 at_259 (8 : Int32) (by decide) rfl ?_
      refine Own.s_iushr X264 at_261 rfl ?_
      refine Own.s_sipush X264 at_262 (255 : Int32) (by decide) rfl ?_
      refine Own.s_iand X264 at_265 rfl ?_
      refine Own.s_i2cM X264 at_266 rfl ?_
      refine Own.c_static X264 at_267 (tw30 hw) (tw31 hw) (tw2 hw) (tw32 hw) (by decide) [(.int ((XT.ushr p3 (8 : Int32)) &&& (255 : Int32)))] [] 0 (rm_valueOf hw ((XT.ushr p3 (8 : Int32)) &&& (255 : Int32)) (Own.lat_mask _) SC hzc SF hfm h264 X264.hE) (fun q => nomatch q) Own.Ok.nil (lenOf pd_5 rfl) rfl (Nat.le_of_eq rfl) (by decide) (by decide) (by decide) (by decide) rfl rfl ?_
      intro v265 vm265 T265 h265 L265 X265 V265 Q265
      obtain ⟨r265, rfl, g265, S265⟩ := Q265
      refine Own.s_astore X265 at_270 rfl #[.val (.int p0), .val (.int p1), .val (.int p2), .val (.int p3), .val (.int (p0 &&& (255 : Int32))), .val (.int ((XT.ushr p0 (8 : Int32)) &&& (255 : Int32))), .val (.int ((XT.ushr p0 (16 : Int32)) &&& (255 : Int32))), .val (.int ((XT.ushr p0 (24 : Int32)) &&& (255 : Int32))), .val (.int (p1 &&& (255 : Int32))), .val (.int ((XT.ushr p1 (8 : Int32)) &&& (255 : Int32))), .val (.int ((XT.ushr p1 (16 : Int32)) &&& (255 : Int32))), .val (.int (p2 &&& (3 : Int32))), .val (.int (1 : Int32)), .val .null, .val (.ref r264), .val (.ref r265), .unset, .unset, .unset, .unset] rfl rfl ?_
      refine Own.s_new X265 at_272 (tw44 hw) (tw45 hw) (tw46 hw) (by decide) (by decide) rfl ?_
      intro b266 T266 h266 X266 V266 g266 E266 O266 D266
      have F266_id : Fld Z h266 b266 "com/example/carelane/carelane/registry/LegalEntity" "id" "Ljava/lang/String;" (.null) := D266 (Or.inr (tw57 hw)) (ty := (.object "java/lang/String")) (by decide)
      have F266_type : Fld Z h266 b266 "com/example/carelane/carelane/registry/LegalEntity" "type" "Ljava/lang/String;" (.null) := D266 (Or.inr (tw59 hw)) (ty := (.object "java/lang/String")) (by decide)
      have F266_status : Fld Z h266 b266 "com/example/carelane/carelane/registry/LegalEntity" "status" "Ljava/lang/String;" (.null) := D266 (Or.inr (tw61 hw)) (ty := (.object "java/lang/String")) (by decide)
      have F266_isActive : Fld Z h266 b266 "com/example/carelane/carelane/registry/LegalEntity" "isActive" "Z" (.int 0) := D266 (Or.inr (tw63 hw)) (ty := .boolean) (by decide)
      refine Own.s_dup X266 at_275 rfl rfl ?_
      refine Own.s_aload X266 at_276 rfl rfl rfl ?_
      refine Own.s_aload X266 at_278 rfl rfl rfl ?_
      refine Own.s_aload X266 at_280 rfl rfl rfl ?_
      refine Own.s_iload X266 at_282 rfl rfl ?_
      refine Own.c_special X266 at_284 rfl (tw47 hw) (tw48 hw) (tw46 hw) (tw49 hw) (by decide) b266 [(.ref r264), (.ref r265), .null, (.int (1 : Int32))] [(.ref b266)] 1 (rm_le1 hw b266 r264 r265 .null rfl  h266 X266.hE O266.2.1 E266 F266_id F266_type F266_status F266_isActive ) (fun q => nomatch q) (Own.Ok.one O266) (lenOf pd_6 rfl) rfl (Nat.le_of_eq rfl) (by decide) (by decide) (by decide) (by decide) rfl rfl ?_
      intro v267 vm267 T267 h267 L267 X267 V267 Q267
      obtain ⟨rfl, E267, F267_0, F267_1, F267_2, F267_3⟩ := Q267
      refine Own.s_astore X267 at_287 rfl #[.val (.int p0), .val (.int p1), .val (.int p2), .val (.int p3), .val (.int (p0 &&& (255 : Int32))), .val (.int ((XT.ushr p0 (8 : Int32)) &&& (255 : Int32))), .val (.int ((XT.ushr p0 (16 : Int32)) &&& (255 : Int32))), .val (.int ((XT.ushr p0 (24 : Int32)) &&& (255 : Int32))), .val (.int (p1 &&& (255 : Int32))), .val (.int ((XT.ushr p1 (8 : Int32)) &&& (255 : Int32))), .val (.int ((XT.ushr p1 (16 : Int32)) &&& (255 : Int32))), .val (.int (p2 &&& (3 : Int32))), .val (.int (1 : Int32)), .val .null, .val (.ref r264), .val (.ref r265), .val (.ref b266), .unset, .unset, .unset] rfl rfl ?_
      refine Own.s_aload X267 at_289 rfl rfl rfl ?_
      refine Own.c_virtual X267 at_291 (tw64 hw) (tw65 hw) (notFace_of_selects (args := #[]) (mvT X267.hZ (tw67 hw))) (tw67 hw) (tw66 hw) (tw46 hw) (tw68 hw) (by decide) b266 [] [] 0 E267 (rm_awN1 hw b266 SC hzc SF hfm h267 X267.hE E267 F267_2 F267_3) (fun _ => rfl) Own.Ok.nil (lenOf pd_7 rfl) rfl (Nat.le_of_eq rfl) (by decide) (by decide) (by decide) (by decide) rfl rfl ?_
      intro v268 vm268 T268 h268 L268 X268 V268 Q268
      obtain rfl := Q268
      refine Own.s_istore X268 at_294 #[.val (.int p0), .val (.int p1), .val (.int p2), .val (.int p3), .val (.int (p0 &&& (255 : Int32))), .val (.int ((XT.ushr p0 (8 : Int32)) &&& (255 : Int32))), .val (.int ((XT.ushr p0 (16 : Int32)) &&& (255 : Int32))), .val (.int ((XT.ushr p0 (24 : Int32)) &&& (255 : Int32))), .val (.int (p1 &&& (255 : Int32))), .val (.int ((XT.ushr p1 (8 : Int32)) &&& (255 : Int32))), .val (.int ((XT.ushr p1 (16 : Int32)) &&& (255 : Int32))), .val (.int (p2 &&& (3 : Int32))), .val (.int (1 : Int32)), .val .null, .val (.ref r264), .val (.ref r265), .val (.ref b266), .val (.int (0 : Int32)), .unset, .unset] rfl rfl ?_
      refine Own.s_aload X268 at_296 rfl rfl rfl ?_
      refine Own.s_ifnullT X268 at_298 (by decide) (pc' := 381) (by decide) ?_
      refine Own.s_iconst X268 at_381 (0 : Int32) (by decide) rfl ?_
      refine Own.s_istore X268 at_382 #[.val (.int p0), .val (.int p1), .val (.int p2), .val (.int p3), .val (.int (p0 &&& (255 : Int32))), .val (.int ((XT.ushr p0 (8 : Int32)) &&& (255 : Int32))), .val (.int ((XT.ushr p0 (16 : Int32)) &&& (255 : Int32))), .val (.int ((XT.ushr p0 (24 : Int32)) &&& (255 : Int32))), .val (.int (p1 &&& (255 : Int32))), .val (.int ((XT.ushr p1 (8 : Int32)) &&& (255 : Int32))), .val (.int ((XT.ushr p1 (16 : Int32)) &&& (255 : Int32))), .val (.int (p2 &&& (3 : Int32))), .val (.int (1 : Int32)), .val .null, .val (.ref r264), .val (.ref r265), .val (.ref b266), .val (.int (0 : Int32)), .val (.int (0 : Int32)), .unset] rfl rfl ?_
      refine Own.s_iload X268 at_384 rfl rfl ?_
      refine Own.s_ifT X268 at_386 ((if0 _ _).trans (teq (show (0 : Int32) = (0 : Int32) by decide)).1) (by decide) (pc' := 398) (by decide) ?_
      refine Own.s_iconst X268 at_398 (0 : Int32) (by decide) rfl ?_
      refine Own.s_istore X268 at_399 #[.val (.int p0), .val (.int p1), .val (.int p2), .val (.int p3), .val (.int (p0 &&& (255 : Int32))), .val (.int ((XT.ushr p0 (8 : Int32)) &&& (255 : Int32))), .val (.int ((XT.ushr p0 (16 : Int32)) &&& (255 : Int32))), .val (.int ((XT.ushr p0 (24 : Int32)) &&& (255 : Int32))), .val (.int (p1 &&& (255 : Int32))), .val (.int ((XT.ushr p1 (8 : Int32)) &&& (255 : Int32))), .val (.int ((XT.ushr p1 (16 : Int32)) &&& (255 : Int32))), .val (.int (p2 &&& (3 : Int32))), .val (.int (1 : Int32)), .val .null, .val (.ref r264), .val (.ref r265), .val (.ref b266), .val (.int (0 : Int32)), .val (.int (0 : Int32)), .val (.int (0 : Int32))] rfl rfl ?_
      refine Own.s_iload X268 at_401 rfl rfl ?_
      refine Own.s_iload X268 at_403 rfl rfl ?_
      refine Own.s_icmpF X268 at_405 (teq (show (0 : Int32) = (0 : Int32) by decide)).2 rfl ?_
      refine Own.s_iconst X268 at_408 (1 : Int32) (by decide) rfl ?_
      refine Own.s_goto X268 at_409 (by decide) (pc' := 413) (by decide) ?_
      exact Own.r_nar X268 rfl (Or.inl rfl) at_413 (by decide) (by decide) (by decide)
    · refine Own.s_ifT X0 at_91 ((if0 _ _).trans (feq hc91_263).2) (by decide) (pc' := 100) (by decide) ?_
      refine Own.s_iload X0 at_100 rfl rfl ?_
      refine Own.s_iconst X0 at_102 (1 : Int32) (by decide) rfl ?_
      by_cases hc103_269 : (p2 &&& (3 : Int32)) = (1 : Int32)
      · refine Own.s_icmpF X0 at_103 (teq hc103_269).2 rfl ?_
        refine Own.s_new X0 at_106 (tw0 hw) (tw1 hw) (tw2 hw) (by decide) (by decide) rfl ?_
        intro b270 T270 h270 X270 V270 g270 E270 O270 D270
        have F270_coder : Fld Z h270 b270 "java/lang/String" "coder" "B" (.int 0) := D270 (Or.inr (tw27 hw)) (ty := .byte) (by decide)
        have F270_value : Fld Z h270 b270 "java/lang/String" "value" "[B" (.null) := D270 (Or.inr (tw29 hw)) (ty := (.array .byte)) (by decide)
        refine Own.s_dup X270 at_109 rfl rfl ?_
        refine Own.s_iconst X270 at_110 (5 : Int32) (by decide) rfl ?_
        refine Own.s_newarray X270 at_111 (tw3 hw) (by decide) 5 (by decide) (by decide) (by decide) (by decide) rfl ?_
        intro b271 T271 h271 k271 X271 V271 g271 A271 O271
        have B271 : Arv Z h271 b271 k271 .char (5 : Int32) [(.int (0 : Int32)), (.int (0 : Int32)), (.int (0 : Int32)), (.int (0 : Int32)), (.int (0 : Int32))] (.int (0 : Int32)) := A271.pad (pad_rep [] (.int (0 : Int32)) 5)
        refine Own.s_dup X271 at_113 rfl rfl ?_
        refine Own.s_iconst X271 at_114 (0 : Int32) (by decide) rfl ?_
        refine Own.s_iload X271 at_115 rfl rfl ?_
        refine Own.s_castoreR X271 at_117 B271 ⟨by decide, by decide⟩ 0 (by decide) (Nat.le_of_ble_eq_true rfl) (Own.nar_mask _) O271 rfl ?_
        intro T272 h272 X272 V272 A272
        have B272 : Arv Z h272 b271 k271 .char (5 : Int32) [(.int (p0 &&& (255 : Int32))), (.int (0 : Int32)), (.int (0 : Int32)), (.int (0 : Int32)), (.int (0 : Int32))] (.int (0 : Int32)) := A272
        refine Own.s_dup X272 at_118 rfl rfl ?_
        refine Own.s_iconst X272 at_119 (1 : Int32) (by decide) rfl ?_
        refine Own.s_iload X272 at_120 rfl rfl ?_
        have O274 := (O271.ev V272)
        refine Own.s_castoreR X272 at_122 B272 ⟨by decide, by decide⟩ 1 (by decide) (Nat.le_of_ble_eq_true rfl) (Own.nar_mask _) O274 rfl ?_
        intro T273 h273 X273 V273 A273
        have B273 : Arv Z h273 b271 k271 .char (5 : Int32) [(.int (p0 &&& (255 : Int32))), (.int ((XT.ushr p0 (8 : Int32)) &&& (255 : Int32))), (.int (0 : Int32)), (.int (0 : Int32)), (.int (0 : Int32))] (.int (0 : Int32)) := A273
        refine Own.s_dup X273 at_123 rfl rfl ?_
        refine Own.s_iconst X273 at_124 (2 : Int32) (by decide) rfl ?_
        refine Own.s_iload X273 at_125 rfl rfl ?_
        have O276 := (O274.ev V273)
        refine Own.s_castoreR X273 at_127 B273 ⟨by decide, by decide⟩ 2 (by decide) (Nat.le_of_ble_eq_true rfl) (Own.nar_mask _) O276 rfl ?_
        intro T275 h275 X275 V275 A275
        have B275 : Arv Z h275 b271 k271 .char (5 : Int32) [(.int (p0 &&& (255 : Int32))), (.int ((XT.ushr p0 (8 : Int32)) &&& (255 : Int32))), (.int ((XT.ushr p0 (16 : Int32)) &&& (255 : Int32))), (.int (0 : Int32)), (.int (0 : Int32))] (.int (0 : Int32)) := A275
        refine Own.s_dup X275 at_128 rfl rfl ?_
        refine Own.s_iconst X275 at_129 (3 : Int32) (by decide) rfl ?_
        refine Own.s_iload X275 at_130 rfl rfl ?_
        have O278 := (O276.ev V275)
        refine Own.s_castoreR X275 at_132 B275 ⟨by decide, by decide⟩ 3 (by decide) (Nat.le_of_ble_eq_true rfl) (Own.nar_mask _) O278 rfl ?_
        intro T277 h277 X277 V277 A277
        have B277 : Arv Z h277 b271 k271 .char (5 : Int32) [(.int (p0 &&& (255 : Int32))), (.int ((XT.ushr p0 (8 : Int32)) &&& (255 : Int32))), (.int ((XT.ushr p0 (16 : Int32)) &&& (255 : Int32))), (.int ((XT.ushr p0 (24 : Int32)) &&& (255 : Int32))), (.int (0 : Int32))] (.int (0 : Int32)) := A277
        refine Own.s_dup X277 at_133 rfl rfl ?_
        refine Own.s_iconst X277 at_134 (4 : Int32) (by decide) rfl ?_
        refine Own.s_iload X277 at_135 rfl rfl ?_
        have O280 := (O278.ev V277)
        refine Own.s_castoreR X277 at_137 B277 ⟨by decide, by decide⟩ 4 (by decide) (Nat.le_of_ble_eq_true rfl) (Own.nar_mask _) O280 rfl ?_
        intro T279 h279 X279 V279 A279
        have B279 : Arv Z h279 b271 k271 .char (5 : Int32) [(.int (p0 &&& (255 : Int32))), (.int ((XT.ushr p0 (8 : Int32)) &&& (255 : Int32))), (.int ((XT.ushr p0 (16 : Int32)) &&& (255 : Int32))), (.int ((XT.ushr p0 (24 : Int32)) &&& (255 : Int32))), (.int (p1 &&& (255 : Int32)))] (.int (0 : Int32)) := A279
        have ex281 : Ext h0 h270 := Own.extK (Own.Ext.rfl' h0) V270.1 all0
        have ex282 : Ext h0 h271 := Own.extK ex281 V271.1 all0
        have le283 : h0.size ≤ h270.size := V270.1.1
        have ex284 : Ext h0 h272 := Own.extK ex282 V272.1 (allS (Nat.le_trans le283 g271) all0)
        have ex285 : Ext h0 h273 := Own.extK ex284 V273.1 (allS (Nat.le_trans le283 g271) all0)
        have ex286 : Ext h0 h275 := Own.extK ex285 V275.1 (allS (Nat.le_trans le283 g271) all0)
        have ex287 : Ext h0 h277 := Own.extK ex286 V277.1 (allS (Nat.le_trans le283 g271) all0)
        have ex288 : Ext h0 h279 := Own.extK ex287 V279.1 (allS (Nat.le_trans le283 g271) all0)
        have Z_289 := Sta.ext ex288 SC0
        have ex290 : Ext h270 h271 := Own.extK (Own.Ext.rfl' h270) V271.1 all0
        have ex291 : Ext h270 h272 := Own.extK ex290 V272.1 (allS g271 all0)
        have ex292 : Ext h270 h273 := Own.extK ex291 V273.1 (allS g271 all0)
        have ex293 : Ext h270 h275 := Own.extK ex292 V275.1 (allS g271 all0)
        have ex294 : Ext h270 h277 := Own.extK ex293 V277.1 (allS g271 all0)
        have ex295 : Ext h270 h279 := Own.extK ex294 V279.1 (allS g271 all0)
        have E_296 := Exa.ext ex295 E270
        have F_297 := Fld.ext ex295 F270_value
        have F_298 := Fld.ext ex295 F270_coder
        have O299 := ((((((O270.ev V271).ev V272).ev V273).ev V275).ev V277).ev V279)
        have lat300 : ∀ c ∈ [(p0 &&& (255 : Int32)), ((XT.ushr p0 (8 : Int32)) &&& (255 : Int32)), ((XT.ushr p0 (16 : Int32)) &&& (255 : Int32)), ((XT.ushr p0 (24 : Int32)) &&& (255 : Int32)), (p1 &&& (255 : Int32))], Own.Lat c := (Own.latL (Own.lat_mask _) (Own.latL (Own.lat_mask _) (Own.latL (Own.lat_mask _) (Own.latL (Own.lat_mask _) (Own.latL (Own.lat_mask _) Own.latN)))))
        refine Own.b_special X279 at_138 rfl (tw4 hw) (tw5 hw) (tw6 hw) (by decide) b270 [(.ref b271)] [(.ref b270)] (Own.strNew (W := 1) (cs := [(p0 &&& (255 : Int32)), ((XT.ushr p0 (8 : Int32)) &&& (255 : Int32)), ((XT.ushr p0 (16 : Int32)) &&& (255 : Int32)), ((XT.ushr p0 (24 : Int32)) &&& (255 : Int32)), (p1 &&& (255 : Int32))]) (n := 5) X279.hZ (wNew hw) (tw1 hw) O299.2.1 X279.hE.1 E_296 F_297 F_298 B279 Z_289 hzc rfl (by decide) (by decide) (by decide) lat300 (by decide) (by decide)) (fun v h' L q => Own.strNewQ (n := 5) rfl (by decide) (by decide) lat300 q) (Own.Ok.one O299) (lenOf pd_8 rfl) rfl (Nat.le_of_eq rfl) (by decide) (by decide) rfl rfl ?_
        intro v301 vm301 T301 h301 L301 X301 V301 Q301
        obtain ⟨rfl, S301⟩ := Q301
        refine Own.s_astore X301 at_141 rfl #[.val (.int p0), .val (.int p1), .val (.int p2), .val (.int p3), .val (.int (p0 &&& (255 : Int32))), .val (.int ((XT.ushr p0 (8 : Int32)) &&& (255 : Int32))), .val (.int ((XT.ushr p0 (16 : Int32)) &&& (255 : Int32))), .val (.int ((XT.ushr p0 (24 : Int32)) &&& (255 : Int32))), .val (.int (p1 &&& (255 : Int32))), .val (.int ((XT.ushr p1 (8 : Int32)) &&& (255 : Int32))), .val (.int ((XT.ushr p1 (16 : Int32)) &&& (255 : Int32))), .val (.int (p2 &&& (3 : Int32))), .val (.int (1 : Int32)), .val (.ref b270), .unset, .unset, .unset, .unset, .unset, .unset] rfl rfl ?_
        refine Own.s_goto X301 at_143 (by decide) (pc' := 247) (by decide) ?_
        refine Own.s_iloadN X301 at_247 rfl rfl ?_
        refine Own.s_sipush X301 at_248 (255 : Int32) (by decide) rfl ?_
        refine Own.s_iand X301 at_251 rfl ?_
        refine Own.s_i2cM X301 at_252 rfl ?_
        refine Own.c_static X301 at_253 (tw30 hw) (tw31 hw) (tw2 hw) (tw32 hw) (by decide) [(.int (p3 &&& (255 : Int32)))] [] 0 (rm_valueOf hw (p3 &&& (255 : Int32)) (Own.lat_mask _) SC hzc SF hfm h301 X301.hE) (fun q => nomatch q) Own.Ok.nil (lenOf pd_5 rfl) rfl (Nat.le_of_eq rfl) (by decide) (by decide) (by decide) (by decide) rfl rfl ?_
        intro v302 vm302 T302 h302 L302 X302 V302 Q302
        obtain ⟨r302, rfl, g302, S302⟩ := Q302
        refine Own.s_astore X302 at_256 rfl #[.val (.int p0), .val (.int p1), .val (.int p2), .val (.int p3), .val (.int (p0 &&& (255 : Int32))), .val (.int ((XT.ushr p0 (8 : Int32)) &&& (255 : Int32))), .val (.int ((XT.ushr p0 (16 : Int32)) &&& (255 : Int32))), .val (.int ((XT.ushr p0 (24 : Int32)) &&& (255 : Int32))), .val (.int (p1 &&& (255 : Int32))), .val (.int ((XT.ushr p1 (8 : Int32)) &&& (255 : Int32))), .val (.int ((XT.ushr p1 (16 : Int32)) &&& (255 : Int32))), .val (.int (p2 &&& (3 : Int32))), .val (.int (1 : Int32)), .val (.ref b270), .val (.ref r302), .unset, .unset, .unset, .unset, .unset] rfl rfl ?_
        refine Own.s_iloadN X302 at_258 rfl rfl ?_
        refine Own.s_bipush X302 at_259 (8 : Int32) (by decide) rfl ?_
        refine Own.s_iushr X302 at_261 rfl ?_
        refine Own.s_sipush X302 at_262 (255 : Int32) (by decide) rfl ?_
        refine Own.s_iand X302 at_265 rfl ?_
        refine Own.s_i2cM X302 at_266 rfl ?_
        refine Own.c_static X302 at_267 (tw30 hw) (tw31 hw) (tw2 hw) (tw32 hw) (by decide) [(.int ((XT.ushr p3 (8 : Int32)) &&& (255 : Int32)))] [] 0 (rm_valueOf hw ((XT.ushr p3 (8 : Int32)) &&& (255 : Int32)) (Own.lat_mask _) SC hzc SF hfm h302 X302.hE) (fun q => nomatch q) Own.Ok.nil (lenOf pd_5 rfl) rfl (Nat.le_of_eq rfl) (by decide) (by decide) (by decide) (by decide) rfl rfl ?_
        intro v303 vm303 T303 h303 L303 X303 V303 Q303
        obtain ⟨r303, rfl, g303, S303⟩ := Q303
        refine Own.s_astore X303 at_270 rfl #[.val (.int p0), .val (.int p1), .val (.int p2), .val (.int p3), .val (.int (p0 &&& (255 : Int32))), .val (.int ((XT.ushr p0 (8 : Int32)) &&& (255 : Int32))), .val (.int ((XT.ushr p0 (16 : Int32)) &&& (255 : Int32))), .val (.int ((XT.ushr p0 (24 : Int32)) &&& (255 : Int32))), .val (.int (p1 &&& (255 : Int32))), .val (.int ((XT.ushr p1 (8 : Int32)) &&& (255 : Int32))), .val (.int ((XT.ushr p1 (16 : Int32)) &&& (255 : Int32))), .val (.int (p2 &&& (3 : Int32))), .val (.int (1 : Int32)), .val (.ref b270), .val (.ref r302), .val (.ref r303), .unset, .unset, .unset, .unset] rfl rfl ?_
        refine Own.s_new X303 at_272 (tw44 hw) (tw45 hw) (tw46 hw) (by decide) (by decide) rfl ?_
        intro b304 T304 h304 X304 V304 g304 E304 O304 D304
        have F304_id : Fld Z h304 b304 "com/example/carelane/carelane/registry/LegalEntity" "id" "Ljava/lang/String;" (.null) := D304 (Or.inr (tw57 hw)) (ty := (.object "java/lang/String")) (by decide)
        have F304_type : Fld Z h304 b304 "com/example/carelane/carelane/registry/LegalEntity" "type" "Ljava/lang/String;" (.null) := D304 (Or.inr (tw59 hw)) (ty := (.object "java/lang/String")) (by decide)
        have F304_status : Fld Z h304 b304 "com/example/carelane/carelane/registry/LegalEntity" "status" "Ljava/lang/String;" (.null) := D304 (Or.inr (tw61 hw)) (ty := (.object "java/lang/String")) (by decide)
        have F304_isActive : Fld Z h304 b304 "com/example/carelane/carelane/registry/LegalEntity" "isActive" "Z" (.int 0) := D304 (Or.inr (tw63 hw)) (ty := .boolean) (by decide)
        refine Own.s_dup X304 at_275 rfl rfl ?_
        refine Own.s_aload X304 at_276 rfl rfl rfl ?_
        refine Own.s_aload X304 at_278 rfl rfl rfl ?_
        refine Own.s_aload X304 at_280 rfl rfl rfl ?_
        refine Own.s_iload X304 at_282 rfl rfl ?_
        refine Own.c_special X304 at_284 rfl (tw47 hw) (tw48 hw) (tw46 hw) (tw49 hw) (by decide) b304 [(.ref r302), (.ref r303), (.ref b270), (.int (1 : Int32))] [(.ref b304)] 1 (rm_le1 hw b304 r302 r303 (.ref b270) rfl  h304 X304.hE O304.2.1 E304 F304_id F304_type F304_status F304_isActive ) (fun q => nomatch q) (Own.Ok.one O304) (lenOf pd_6 rfl) rfl (Nat.le_of_eq rfl) (by decide) (by decide) (by decide) (by decide) rfl rfl ?_
        intro v305 vm305 T305 h305 L305 X305 V305 Q305
        obtain ⟨rfl, E305, F305_0, F305_1, F305_2, F305_3⟩ := Q305
        refine Own.s_astore X305 at_287 rfl #[.val (.int p0), .val (.int p1), .val (.int p2), .val (.int p3), .val (.int (p0 &&& (255 : Int32))), .val (.int ((XT.ushr p0 (8 : Int32)) &&& (255 : Int32))), .val (.int ((XT.ushr p0 (16 : Int32)) &&& (255 : Int32))), .val (.int ((XT.ushr p0 (24 : Int32)) &&& (255 : Int32))), .val (.int (p1 &&& (255 : Int32))), .val (.int ((XT.ushr p1 (8 : Int32)) &&& (255 : Int32))), .val (.int ((XT.ushr p1 (16 : Int32)) &&& (255 : Int32))), .val (.int (p2 &&& (3 : Int32))), .val (.int (1 : Int32)), .val (.ref b270), .val (.ref r302), .val (.ref r303), .val (.ref b304), .unset, .unset, .unset] rfl rfl ?_
        refine Own.s_aload X305 at_289 rfl rfl rfl ?_
        have ex306 : Ext h301 h302 := Own.extK (Own.Ext.rfl' h301) V302.1 all0
        have ex307 : Ext h301 h303 := Own.extK ex306 V303.1 all0
        have ex308 : Ext h301 h304 := Own.extK ex307 V304.1 all0
        have le310 : h301.size ≤ h302.size := V302.1.1
        have le309 : h301.size ≤ h303.size := Nat.le_trans le310 V303.1.1
        have ex311 : Ext h301 h305 := Own.extK ex308 V305.1 (allS (Nat.le_trans le309 g304) all0)
        have S_312 := Own.Str.ext S301 ex311
        refine Own.c_virtual X305 at_291 (tw64 hw) (tw65 hw) (notFace_of_selects (args := #[]) (mvT X305.hZ (tw67 hw))) (tw67 hw) (tw66 hw) (tw46 hw) (tw68 hw) (by decide) b304 [] [] 0 E305 (rm_awS1 hw b304 b270 [(p0 &&& (255 : Int32)), ((XT.ushr p0 (8 : Int32)) &&& (255 : Int32)), ((XT.ushr p0 (16 : Int32)) &&& (255 : Int32)), ((XT.ushr p0 (24 : Int32)) &&& (255 : Int32)), (p1 &&& (255 : Int32))] SC hzc SF hfm h305 X305.hE E305 F305_2 F305_3 S_312) (fun _ => rfl) Own.Ok.nil (lenOf pd_7 rfl) rfl (Nat.le_of_eq rfl) (by decide) (by decide) (by decide) (by decide) rfl rfl ?_
        intro v313 vm313 T313 h313 L313 X313 V313 Q313
        rcases Q313 with Q313 | Q313
        · obtain ⟨rfl, hs313, hb313⟩ := Q313
          exact absurd (congrArg List.length hs313) (by simp)
        · obtain ⟨rfl, hs313⟩ := Q313
          refine Own.s_istore X313 at_294 #[.val (.int p0), .val (.int p1), .val (.int p2), .val (.int p3), .val (.int (p0 &&& (255 : Int32))), .val (.int ((XT.ushr p0 (8 : Int32)) &&& (255 : Int32))), .val (.int ((XT.ushr p0 (16 : Int32)) &&& (255 : Int32))), .val (.int ((XT.ushr p0 (24 : Int32)) &&& (255 : Int32))), .val (.int (p1 &&& (255 : Int32))), .val (.int ((XT.ushr p1 (8 : Int32)) &&& (255 : Int32))), .val (.int ((XT.ushr p1 (16 : Int32)) &&& (255 : Int32))), .val (.int (p2 &&& (3 : Int32))), .val (.int (1 : Int32)), .val (.ref b270), .val (.ref r302), .val (.ref r303), .val (.ref b304), .val (.int (0 : Int32)), .unset, .unset] rfl rfl ?_
          refine Own.s_aload X313 at_296 rfl rfl rfl ?_
          refine Own.s_ifnullF X313 at_298 rfl ?_
          refine Own.s_aload X313 at_301 rfl rfl rfl ?_
          have ex314 : Ext h305 h313 := Own.extK (Own.Ext.rfl' h305) V313.1 all0
          have S_315 := Own.Str.ext S_312 ex314
          have ex316 : Ext h0 h301 := Own.extK ex288 V301.1 (allS g270 all0)
          have ex317 : Ext h0 h302 := Own.extK ex316 V302.1 all0
          have ex318 : Ext h0 h303 := Own.extK ex317 V303.1 all0
          have ex319 : Ext h0 h304 := Own.extK ex318 V304.1 all0
          have le328 : h0.size ≤ h271.size := Nat.le_trans le283 V271.1.1
          have le327 : h0.size ≤ h272.size := Nat.le_trans le328 V272.1.1
          have le326 : h0.size ≤ h273.size := Nat.le_trans le327 V273.1.1
          have le325 : h0.size ≤ h275.size := Nat.le_trans le326 V275.1.1
          have le324 : h0.size ≤ h277.size := Nat.le_trans le325 V277.1.1
          have le323 : h0.size ≤ h279.size := Nat.le_trans le324 V279.1.1
          have le322 : h0.size ≤ h301.size := Nat.le_trans le323 V301.1.1
          have le321 : h0.size ≤ h302.size := Nat.le_trans le322 V302.1.1
          have le320 : h0.size ≤ h303.size := Nat.le_trans le321 V303.1.1
          have ex329 : Ext h0 h305 := Own.extK ex319 V305.1 (allS (Nat.le_trans le320 g304) all0)
          have ex330 : Ext h0 h313 := Own.extK ex329 V313.1 all0
          have Z_331 := Sta.ext ex330 SC0
          have ex333 : Ext h301 h313 := Own.extK ex311 V313.1 all0
          have E_334 := Exa.ext ex333 S301.exa
          refine Own.b_virtual X313 at_303 (tw80 hw) (tw81 hw) (notFace_of_selects (args := #[]) (mvT X313.hZ (tw83 hw))) (tw83 hw) (tw82 hw) (by decide) b270 [] [] E_334 (Own.strLen (W := 0) X313.hZ (wLen hw) (tw1 hw) S_315 Z_331 hzc (by decide) (by decide)) (fun v h' L q => Own.strLenQ (N := (5 : Int32)) rfl q) Own.Ok.nil (lenOf pd_9 rfl) rfl (Nat.le_of_eq rfl) (by decide) (by decide) rfl rfl ?_
          intro v332 vm332 T332 h332 L332 X332 V332 Q332
          obtain rfl := Q332
          refine Own.s_bipush X332 at_306 (6 : Int32) (by decide) rfl ?_
          refine Own.s_icmpT X332 at_308 (feq (show ¬ (5 : Int32) = (6 : Int32) by decide)).2 (by decide) (pc' := 381) (by decide) ?_
          refine Own.s_iconst X332 at_381 (0 : Int32) (by decide) rfl ?_
          refine Own.s_istore X332 at_382 #[.val (.int p0), .val (.int p1), .val (.int p2), .val (.int p3), .val (.int (p0 &&& (255 : Int32))), .val (.int ((XT.ushr p0 (8 : Int32)) &&& (255 : Int32))), .val (.int ((XT.ushr p0 (16 : Int32)) &&& (255 : Int32))), .val (.int ((XT.ushr p0 (24 : Int32)) &&& (255 : Int32))), .val (.int (p1 &&& (255 : Int32))), .val (.int ((XT.ushr p1 (8 : Int32)) &&& (255 : Int32))), .val (.int ((XT.ushr p1 (16 : Int32)) &&& (255 : Int32))), .val (.int (p2 &&& (3 : Int32))), .val (.int (1 : Int32)), .val (.ref b270), .val (.ref r302), .val (.ref r303), .val (.ref b304), .val (.int (0 : Int32)), .val (.int (0 : Int32)), .unset] rfl rfl ?_
          refine Own.s_iload X332 at_384 rfl rfl ?_
          refine Own.s_ifT X332 at_386 ((if0 _ _).trans (teq (show (0 : Int32) = (0 : Int32) by decide)).1) (by decide) (pc' := 398) (by decide) ?_
          refine Own.s_iconst X332 at_398 (0 : Int32) (by decide) rfl ?_
          refine Own.s_istore X332 at_399 #[.val (.int p0), .val (.int p1), .val (.int p2), .val (.int p3), .val (.int (p0 &&& (255 : Int32))), .val (.int ((XT.ushr p0 (8 : Int32)) &&& (255 : Int32))), .val (.int ((XT.ushr p0 (16 : Int32)) &&& (255 : Int32))), .val (.int ((XT.ushr p0 (24 : Int32)) &&& (255 : Int32))), .val (.int (p1 &&& (255 : Int32))), .val (.int ((XT.ushr p1 (8 : Int32)) &&& (255 : Int32))), .val (.int ((XT.ushr p1 (16 : Int32)) &&& (255 : Int32))), .val (.int (p2 &&& (3 : Int32))), .val (.int (1 : Int32)), .val (.ref b270), .val (.ref r302), .val (.ref r303), .val (.ref b304), .val (.int (0 : Int32)), .val (.int (0 : Int32)), .val (.int (0 : Int32))] rfl rfl ?_
          refine Own.s_iload X332 at_401 rfl rfl ?_
          refine Own.s_iload X332 at_403 rfl rfl ?_
          refine Own.s_icmpF X332 at_405 (teq (show (0 : Int32) = (0 : Int32) by decide)).2 rfl ?_
          refine Own.s_iconst X332 at_408 (1 : Int32) (by decide) rfl ?_
          refine Own.s_goto X332 at_409 (by decide) (pc' := 413) (by decide) ?_
          exact Own.r_nar X332 rfl (Or.inl rfl) at_413 (by decide) (by decide) (by decide)
      · refine Own.s_icmpT X0 at_103 (feq hc103_269).2 (by decide) (pc' := 146) (by decide) ?_
        refine Own.s_iload X0 at_146 rfl rfl ?_
        refine Own.s_iconst X0 at_148 (2 : Int32) (by decide) rfl ?_
        by_cases hc149_335 : (p2 &&& (3 : Int32)) = (2 : Int32)
        · refine Own.s_icmpF X0 at_149 (teq hc149_335).2 rfl ?_
          refine Own.s_new X0 at_152 (tw0 hw) (tw1 hw) (tw2 hw) (by decide) (by decide) rfl ?_
          intro b336 T336 h336 X336 V336 g336 E336 O336 D336
          have F336_coder : Fld Z h336 b336 "java/lang/String" "coder" "B" (.int 0) := D336 (Or.inr (tw27 hw)) (ty := .byte) (by decide)
          have F336_value : Fld Z h336 b336 "java/lang/String" "value" "[B" (.null) := D336 (Or.inr (tw29 hw)) (ty := (.array .byte)) (by decide)
          refine Own.s_dup X336 at_155 rfl rfl ?_
          refine Own.s_bipush X336 at_156 (6 : Int32) (by decide) rfl ?_
          refine Own.s_newarray X336 at_158 (tw3 hw) (by decide) 6 (by decide) (by decide) (by decide) (by decide) rfl ?_
          intro b337 T337 h337 k337 X337 V337 g337 A337 O337
          have B337 : Arv Z h337 b337 k337 .char (6 : Int32) [(.int (0 : Int32)), (.int (0 : Int32)), (.int (0 : Int32)), (.int (0 : Int32)), (.int (0 : Int32)), (.int (0 : Int32))] (.int (0 : Int32)) := A337.pad (pad_rep [] (.int (0 : Int32)) 6)
          refine Own.s_dup X337 at_160 rfl rfl ?_
          refine Own.s_iconst X337 at_161 (0 : Int32) (by decide) rfl ?_
          refine Own.s_iload X337 at_162 rfl rfl ?_
          refine Own.s_castoreR X337 at_164 B337 ⟨by decide, by decide⟩ 0 (by decide) (Nat.le_of_ble_eq_true rfl) (Own.nar_mask _) O337 rfl ?_
          intro T338 h338 X338 V338 A338
          have B338 : Arv Z h338 b337 k337 .char (6 : Int32) [(.int (p0 &&& (255 : Int32))), (.int (0 : Int32)), (.int (0 : Int32)), (.int (0 : Int32)), (.int (0 : Int32)), (.int (0 : Int32))] (.int (0 : Int32)) := A338
          refine Own.s_dup X338 at_165 rfl rfl ?_
          refine Own.s_iconst X338 at_166 (1 : Int32) (by decide) rfl ?_
          refine Own.s_iload X338 at_167 rfl rfl ?_
          have O340 := (O337.ev V338)
          refine Own.s_castoreR X338 at_169 B338 ⟨by decide, by decide⟩ 1 (by decide) (Nat.le_of_ble_eq_true rfl) (Own.nar_mask _) O340 rfl ?_
          intro T339 h339 X339 V339 A339
          have B339 : Arv Z h339 b337 k337 .char (6 : Int32) [(.int (p0 &&& (255 : Int32))), (.int ((XT.ushr p0 (8 : Int32)) &&& (255 : Int32))), (.int (0 : Int32)), (.int (0 : Int32)), (.int (0 : Int32)), (.int (0 : Int32))] (.int (0 : Int32)) := A339
          refine Own.s_dup X339 at_170 rfl rfl ?_
          refine Own.s_iconst X339 at_171 (2 : Int32) (by decide) rfl ?_
          refine Own.s_iload X339 at_172 rfl rfl ?_
          have O342 := (O340.ev V339)
          refine Own.s_castoreR X339 at_174 B339 ⟨by decide, by decide⟩ 2 (by decide) (Nat.le_of_ble_eq_true rfl) (Own.nar_mask _) O342 rfl ?_
          intro T341 h341 X341 V341 A341
          have B341 : Arv Z h341 b337 k337 .char (6 : Int32) [(.int (p0 &&& (255 : Int32))), (.int ((XT.ushr p0 (8 : Int32)) &&& (255 : Int32))), (.int ((XT.ushr p0 (16 : Int32)) &&& (255 : Int32))), (.int (0 : Int32)), (.int (0 : Int32)), (.int (0 : Int32))] (.int (0 : Int32)) := A341
          refine Own.s_dup X341 at_175 rfl rfl ?_
          refine Own.s_iconst X341 at_176 (3 : Int32) (by decide) rfl ?_
          refine Own.s_iload X341 at_177 rfl rfl ?_
          have O344 := (O342.ev V341)
          refine Own.s_castoreR X341 at_179 B341 ⟨by decide, by decide⟩ 3 (by decide) (Nat.le_of_ble_eq_true rfl) (Own.nar_mask _) O344 rfl ?_
          intro T343 h343 X343 V343 A343
          have B343 : Arv Z h343 b337 k337 .char (6 : Int32) [(.int (p0 &&& (255 : Int32))), (.int ((XT.ushr p0 (8 : Int32)) &&& (255 : Int32))), (.int ((XT.ushr p0 (16 : Int32)) &&& (255 : Int32))), (.int ((XT.ushr p0 (24 : Int32)) &&& (255 : Int32))), (.int (0 : Int32)), (.int (0 : Int32))] (.int (0 : Int32)) := A343
          refine Own.s_dup X343 at_180 rfl rfl ?_
          refine Own.s_iconst X343 at_181 (4 : Int32) (by decide) rfl ?_
          refine Own.s_iload X343 at_182 rfl rfl ?_
          have O346 := (O344.ev V343)
          refine Own.s_castoreR X343 at_184 B343 ⟨by decide, by decide⟩ 4 (by decide) (Nat.le_of_ble_eq_true rfl) (Own.nar_mask _) O346 rfl ?_
          intro T345 h345 X345 V345 A345
          have B345 : Arv Z h345 b337 k337 .char (6 : Int32) [(.int (p0 &&& (255 : Int32))), (.int ((XT.ushr p0 (8 : Int32)) &&& (255 : Int32))), (.int ((XT.ushr p0 (16 : Int32)) &&& (255 : Int32))), (.int ((XT.ushr p0 (24 : Int32)) &&& (255 : Int32))), (.int (p1 &&& (255 : Int32))), (.int (0 : Int32))] (.int (0 : Int32)) := A345
          refine Own.s_dup X345 at_185 rfl rfl ?_
          refine Own.s_iconst X345 at_186 (5 : Int32) (by decide) rfl ?_
          refine Own.s_iload X345 at_187 rfl rfl ?_
          have O348 := (O346.ev V345)
          refine Own.s_castoreR X345 at_189 B345 ⟨by decide, by decide⟩ 5 (by decide) (Nat.le_of_ble_eq_true rfl) (Own.nar_mask _) O348 rfl ?_
          intro T347 h347 X347 V347 A347
          have B347 : Arv Z h347 b337 k337 .char (6 : Int32) [(.int (p0 &&& (255 : Int32))), (.int ((XT.ushr p0 (8 : Int32)) &&& (255 : Int32))), (.int ((XT.ushr p0 (16 : Int32)) &&& (255 : Int32))), (.int ((XT.ushr p0 (24 : Int32)) &&& (255 : Int32))), (.int (p1 &&& (255 : Int32))), (.int ((XT.ushr p1 (8 : Int32)) &&& (255 : Int32)))] (.int (0 : Int32)) := A347
          have ex349 : Ext h0 h336 := Own.extK (Own.Ext.rfl' h0) V336.1 all0
          have ex350 : Ext h0 h337 := Own.extK ex349 V337.1 all0
          have le351 : h0.size ≤ h336.size := V336.1.1
          have ex352 : Ext h0 h338 := Own.extK ex350 V338.1 (allS (Nat.le_trans le351 g337) all0)
          have ex353 : Ext h0 h339 := Own.extK ex352 V339.1 (allS (Nat.le_trans le351 g337) all0)
          have ex354 : Ext h0 h341 := Own.extK ex353 V341.1 (allS (Nat.le_trans le351 g337) all0)
          have ex355 : Ext h0 h343 := Own.extK ex354 V343.1 (allS (Nat.le_trans le351 g337) all0)
          have ex356 : Ext h0 h345 := Own.extK ex355 V345.1 (allS (Nat.le_trans le351 g337) all0)
          have ex357 : Ext h0 h347 := Own.extK ex356 V347.1 (allS (Nat.le_trans le351 g337) all0)
          have Z_358 := Sta.ext ex357 SC0
          have ex359 : Ext h336 h337 := Own.extK (Own.Ext.rfl' h336) V337.1 all0
          have ex360 : Ext h336 h338 := Own.extK ex359 V338.1 (allS g337 all0)
          have ex361 : Ext h336 h339 := Own.extK ex360 V339.1 (allS g337 all0)
          have ex362 : Ext h336 h341 := Own.extK ex361 V341.1 (allS g337 all0)
          have ex363 : Ext h336 h343 := Own.extK ex362 V343.1 (allS g337 all0)
          have ex364 : Ext h336 h345 := Own.extK ex363 V345.1 (allS g337 all0)
          have ex365 : Ext h336 h347 := Own.extK ex364 V347.1 (allS g337 all0)
          have E_366 := Exa.ext ex365 E336
          have F_367 := Fld.ext ex365 F336_value
          have F_368 := Fld.ext ex365 F336_coder
          have O369 := (((((((O336.ev V337).ev V338).ev V339).ev V341).ev V343).ev V345).ev V347)
          have lat370 : ∀ c ∈ [(p0 &&& (255 : Int32)), ((XT.ushr p0 (8 : Int32)) &&& (255 : Int32)), ((XT.ushr p0 (16 : Int32)) &&& (255 : Int32)), ((XT.ushr p0 (24 : Int32)) &&& (255 : Int32)), (p1 &&& (255 : Int32)), ((XT.ushr p1 (8 : Int32)) &&& (255 : Int32))], Own.Lat c := (Own.latL (Own.lat_mask _) (Own.latL (Own.lat_mask _) (Own.latL (Own.lat_mask _) (Own.latL (Own.lat_mask _) (Own.latL (Own.lat_mask _) (Own.latL (Own.lat_mask _) Own.latN))))))
          refine Own.b_special X347 at_190 rfl (tw4 hw) (tw5 hw) (tw6 hw) (by decide) b336 [(.ref b337)] [(.ref b336)] (Own.strNew (W := 1) (cs := [(p0 &&& (255 : Int32)), ((XT.ushr p0 (8 : Int32)) &&& (255 : Int32)), ((XT.ushr p0 (16 : Int32)) &&& (255 : Int32)), ((XT.ushr p0 (24 : Int32)) &&& (255 : Int32)), (p1 &&& (255 : Int32)), ((XT.ushr p1 (8 : Int32)) &&& (255 : Int32))]) (n := 6) X347.hZ (wNew hw) (tw1 hw) O369.2.1 X347.hE.1 E_366 F_367 F_368 B347 Z_358 hzc rfl (by decide) (by decide) (by decide) lat370 (by decide) (by decide)) (fun v h' L q => Own.strNewQ (n := 6) rfl (by decide) (by decide) lat370 q) (Own.Ok.one O369) (lenOf pd_8 rfl) rfl (Nat.le_of_eq rfl) (by decide) (by decide) rfl rfl ?_
          intro v371 vm371 T371 h371 L371 X371 V371 Q371
          obtain ⟨rfl, S371⟩ := Q371
          refine Own.s_astore X371 at_193 rfl #[.val (.int p0), .val (.int p1), .val (.int p2), .val (.int p3), .val (.int (p0 &&& (255 : Int32))), .val (.int ((XT.ushr p0 (8 : Int32)) &&& (255 : Int32))), .val (.int ((XT.ushr p0 (16 : Int32)) &&& (255 : Int32))), .val (.int ((XT.ushr p0 (24 : Int32)) &&& (255 : Int32))), .val (.int (p1 &&& (255 : Int32))), .val (.int ((XT.ushr p1 (8 : Int32)) &&& (255 : Int32))), .val (.int ((XT.ushr p1 (16 : Int32)) &&& (255 : Int32))), .val (.int (p2 &&& (3 : Int32))), .val (.int (1 : Int32)), .val (.ref b336), .unset, .unset, .unset, .unset, .unset, .unset] rfl rfl ?_
          refine Own.s_goto X371 at_195 (by decide) (pc' := 247) (by decide) ?_
          refine Own.s_iloadN X371 at_247 rfl rfl ?_
          refine Own.s_sipush X371 at_248 (255 : Int32) (by decide) rfl ?_
          refine Own.s_iand X371 at_251 rfl ?_
          refine Own.s_i2cM X371 at_252 rfl ?_
          refine Own.c_static X371 at_253 (tw30 hw) (tw31 hw) (tw2 hw) (tw32 hw) (by decide) [(.int (p3 &&& (255 : Int32)))] [] 0 (rm_valueOf hw (p3 &&& (255 : Int32)) (Own.lat_mask _) SC hzc SF hfm h371 X371.hE) (fun q => nomatch q) Own.Ok.nil (lenOf pd_5 rfl) rfl (Nat.le_of_eq rfl) (by decide) (by decide) (by decide) (by decide) rfl rfl ?_
          intro v372 vm372 T372 h372 L372 X372 V372 Q372
          obtain ⟨r372, rfl, g372, S372⟩ := Q372
          refine Own.s_astore X372 at_256 rfl #[.val (.int p0), .val (.int p1), .val (.int p2), .val (.int p3), .val (.int (p0 &&& (255 : Int32))), .val (.int ((XT.ushr p0 (8 : Int32)) &&& (255 : Int32))), .val (.int ((XT.ushr p0 (16 : Int32)) &&& (255 : Int32))), .val (.int ((XT.ushr p0 (24 : Int32)) &&& (255 : Int32))), .val (.int (p1 &&& (255 : Int32))), .val (.int ((XT.ushr p1 (8 : Int32)) &&& (255 : Int32))), .val (.int ((XT.ushr p1 (16 : Int32)) &&& (255 : Int32))), .val (.int (p2 &&& (3 : Int32))), .val (.int (1 : Int32)), .val (.ref b336), .val (.ref r372), .unset, .unset, .unset, .unset, .unset] rfl rfl ?_
          refine Own.s_iloadN X372 at_258 rfl rfl ?_
          refine Own.s_bipush X372 at_259 (8 : Int32) (by decide) rfl ?_
          refine Own.s_iushr X372 at_261 rfl ?_
          refine Own.s_sipush X372 at_262 (255 : Int32) (by decide) rfl ?_
          refine Own.s_iand X372 at_265 rfl ?_
          refine Own.s_i2cM X372 at_266 rfl ?_
          refine Own.c_static X372 at_267 (tw30 hw) (tw31 hw) (tw2 hw) (tw32 hw) (by decide) [(.int ((XT.ushr p3 (8 : Int32)) &&& (255 : Int32)))] [] 0 (rm_valueOf hw ((XT.ushr p3 (8 : Int32)) &&& (255 : Int32)) (Own.lat_mask _) SC hzc SF hfm h372 X372.hE) (fun q => nomatch q) Own.Ok.nil (lenOf pd_5 rfl) rfl (Nat.le_of_eq rfl) (by decide) (by decide) (by decide) (by decide) rfl rfl ?_
          intro v373 vm373 T373 h373 L373 X373 V373 Q373
          obtain ⟨r373, rfl, g373, S373⟩ := Q373
          refine Own.s_astore X373 at_270 rfl #[.val (.int p0), .val (.int p1), .val (.int p2), .val (.int p3), .val (.int (p0 &&& (255 : Int32))), .val (.int ((XT.ushr p0 (8 : Int32)) &&& (255 : Int32))), .val (.int ((XT.ushr p0 (16 : Int32)) &&& (255 : Int32))), .val (.int ((XT.ushr p0 (24 : Int32)) &&& (255 : Int32))), .val (.int (p1 &&& (255 : Int32))), .val (.int ((XT.ushr p1 (8 : Int32)) &&& (255 : Int32))), .val (.int ((XT.ushr p1 (16 : Int32)) &&& (255 : Int32))), .val (.int (p2 &&& (3 : Int32))), .val (.int (1 : Int32)), .val (.ref b336), .val (.ref r372), .val (.ref r373), .unset, .unset, .unset, .unset] rfl rfl ?_
          refine Own.s_new X373 at_272 (tw44 hw) (tw45 hw) (tw46 hw) (by decide) (by decide) rfl ?_
          intro b374 T374 h374 X374 V374 g374 E374 O374 D374
          have F374_id : Fld Z h374 b374 "com/example/carelane/carelane/registry/LegalEntity" "id" "Ljava/lang/String;" (.null) := D374 (Or.inr (tw57 hw)) (ty := (.object "java/lang/String")) (by decide)
          have F374_type : Fld Z h374 b374 "com/example/carelane/carelane/registry/LegalEntity" "type" "Ljava/lang/String;" (.null) := D374 (Or.inr (tw59 hw)) (ty := (.object "java/lang/String")) (by decide)
          have F374_status : Fld Z h374 b374 "com/example/carelane/carelane/registry/LegalEntity" "status" "Ljava/lang/String;" (.null) := D374 (Or.inr (tw61 hw)) (ty := (.object "java/lang/String")) (by decide)
          have F374_isActive : Fld Z h374 b374 "com/example/carelane/carelane/registry/LegalEntity" "isActive" "Z" (.int 0) := D374 (Or.inr (tw63 hw)) (ty := .boolean) (by decide)
          refine Own.s_dup X374 at_275 rfl rfl ?_
          refine Own.s_aload X374 at_276 rfl rfl rfl ?_
          refine Own.s_aload X374 at_278 rfl rfl rfl ?_
          refine Own.s_aload X374 at_280 rfl rfl rfl ?_
          refine Own.s_iload X374 at_282 rfl rfl ?_
          refine Own.c_special X374 at_284 rfl (tw47 hw) (tw48 hw) (tw46 hw) (tw49 hw) (by decide) b374 [(.ref r372), (.ref r373), (.ref b336), (.int (1 : Int32))] [(.ref b374)] 1 (rm_le1 hw b374 r372 r373 (.ref b336) rfl  h374 X374.hE O374.2.1 E374 F374_id F374_type F374_status F374_isActive ) (fun q => nomatch q) (Own.Ok.one O374) (lenOf pd_6 rfl) rfl (Nat.le_of_eq rfl) (by decide) (by decide) (by decide) (by decide) rfl rfl ?_
          intro v375 vm375 T375 h375 L375 X375 V375 Q375
          obtain ⟨rfl, E375, F375_0, F375_1, F375_2, F375_3⟩ := Q375
          refine Own.s_astore X375 at_287 rfl #[.val (.int p0), .val (.int p1), .val (.int p2), .val (.int p3), .val (.int (p0 &&& (255 : Int32))), .val (.int ((XT.ushr p0 (8 : Int32)) &&& (255 : Int32))), .val (.int ((XT.ushr p0 (16 : Int32)) &&& (255 : Int32))), .val (.int ((XT.ushr p0 (24 : Int32)) &&& (255 : Int32))), .val (.int (p1 &&& (255 : Int32))), .val (.int ((XT.ushr p1 (8 : Int32)) &&& (255 : Int32))), .val (.int ((XT.ushr p1 (16 : Int32)) &&& (255 : Int32))), .val (.int (p2 &&& (3 : Int32))), .val (.int (1 : Int32)), .val (.ref b336), .val (.ref r372), .val (.ref r373), .val (.ref b374), .unset, .unset, .unset] rfl rfl ?_
          refine Own.s_aload X375 at_289 rfl rfl rfl ?_
          have ex376 : Ext h371 h372 := Own.extK (Own.Ext.rfl' h371) V372.1 all0
          have ex377 : Ext h371 h373 := Own.extK ex376 V373.1 all0
          have ex378 : Ext h371 h374 := Own.extK ex377 V374.1 all0
          have le380 : h371.size ≤ h372.size := V372.1.1
          have le379 : h371.size ≤ h373.size := Nat.le_trans le380 V373.1.1
          have ex381 : Ext h371 h375 := Own.extK ex378 V375.1 (allS (Nat.le_trans le379 g374) all0)
          have S_382 := Own.Str.ext S371 ex381
          refine Own.c_virtual X375 at_291 (tw64 hw) (tw65 hw) (notFace_of_selects (args := #[]) (mvT X375.hZ (tw67 hw))) (tw67 hw) (tw66 hw) (tw46 hw) (tw68 hw) (by decide) b374 [] [] 0 E375 (rm_awS1 hw b374 b336 [(p0 &&& (255 : Int32)), ((XT.ushr p0 (8 : Int32)) &&& (255 : Int32)), ((XT.ushr p0 (16 : Int32)) &&& (255 : Int32)), ((XT.ushr p0 (24 : Int32)) &&& (255 : Int32)), (p1 &&& (255 : Int32)), ((XT.ushr p1 (8 : Int32)) &&& (255 : Int32))] SC hzc SF hfm h375 X375.hE E375 F375_2 F375_3 S_382) (fun _ => rfl) Own.Ok.nil (lenOf pd_7 rfl) rfl (Nat.le_of_eq rfl) (by decide) (by decide) (by decide) (by decide) rfl rfl ?_
          intro v383 vm383 T383 h383 L383 X383 V383 Q383
          rcases Q383 with Q383 | Q383
          · obtain ⟨rfl, hs383, hb383⟩ := Q383
            simp only [List.cons.injEq, and_true] at hs383
            obtain ⟨hs383_0, hs383_1, hs383_2, hs383_3, hs383_4, hs383_5⟩ := hs383
            refine Own.s_istore X383 at_294 #[.val (.int p0), .val (.int p1), .val (.int p2), .val (.int p3), .val (.int (p0 &&& (255 : Int32))), .val (.int ((XT.ushr p0 (8 : Int32)) &&& (255 : Int32))), .val (.int ((XT.ushr p0 (16 : Int32)) &&& (255 : Int32))), .val (.int ((XT.ushr p0 (24 : Int32)) &&& (255 : Int32))), .val (.int (p1 &&& (255 : Int32))), .val (.int ((XT.ushr p1 (8 : Int32)) &&& (255 : Int32))), .val (.int ((XT.ushr p1 (16 : Int32)) &&& (255 : Int32))), .val (.int (p2 &&& (3 : Int32))), .val (.int (1 : Int32)), .val (.ref b336), .val (.ref r372), .val (.ref r373), .val (.ref b374), .val (.int (1 : Int32)), .unset, .unset] rfl rfl ?_
            refine Own.s_aload X383 at_296 rfl rfl rfl ?_
            refine Own.s_ifnullF X383 at_298 rfl ?_
            refine Own.s_aload X383 at_301 rfl rfl rfl ?_
            have ex384 : Ext h375 h383 := Own.extK (Own.Ext.rfl' h375) V383.1 all0
            have S_385 := Own.Str.ext S_382 ex384
            have ex386 : Ext h0 h371 := Own.extK ex357 V371.1 (allS g336 all0)
            have ex387 : Ext h0 h372 := Own.extK ex386 V372.1 all0
            have ex388 : Ext h0 h373 := Own.extK ex387 V373.1 all0
            have ex389 : Ext h0 h374 := Own.extK ex388 V374.1 all0
            have le399 : h0.size ≤ h337.size := Nat.le_trans le351 V337.1.1
            have le398 : h0.size ≤ h338.size := Nat.le_trans le399 V338.1.1
            have le397 : h0.size ≤ h339.size := Nat.le_trans le398 V339.1.1
            have le396 : h0.size ≤ h341.size := Nat.le_trans le397 V341.1.1
            have le395 : h0.size ≤ h343.size := Nat.le_trans le396 V343.1.1
            have le394 : h0.size ≤ h345.size := Nat.le_trans le395 V345.1.1
            have le393 : h0.size ≤ h347.size := Nat.le_trans le394 V347.1.1
            have le392 : h0.size ≤ h371.size := Nat.le_trans le393 V371.1.1
            have le391 : h0.size ≤ h372.size := Nat.le_trans le392 V372.1.1
            have le390 : h0.size ≤ h373.size := Nat.le_trans le391 V373.1.1
            have ex400 : Ext h0 h375 := Own.extK ex389 V375.1 (allS (Nat.le_trans le390 g374) all0)
            have ex401 : Ext h0 h383 := Own.extK ex400 V383.1 all0
            have Z_402 := Sta.ext ex401 SC0
            have ex404 : Ext h371 h383 := Own.extK ex381 V383.1 all0
            have E_405 := Exa.ext ex404 S371.exa
            refine Own.b_virtual X383 at_303 (tw80 hw) (tw81 hw) (notFace_of_selects (args := #[]) (mvT X383.hZ (tw83 hw))) (tw83 hw) (tw82 hw) (by decide) b336 [] [] E_405 (Own.strLen (W := 0) X383.hZ (wLen hw) (tw1 hw) S_385 Z_402 hzc (by decide) (by decide)) (fun v h' L q => Own.strLenQ (N := (6 : Int32)) rfl q) Own.Ok.nil (lenOf pd_9 rfl) rfl (Nat.le_of_eq rfl) (by decide) (by decide) rfl rfl ?_
            intro v403 vm403 T403 h403 L403 X403 V403 Q403
            obtain rfl := Q403
            refine Own.s_bipush X403 at_306 (6 : Int32) (by decide) rfl ?_
            refine Own.s_icmpF X403 at_308 (teq (show (6 : Int32) = (6 : Int32) by decide)).2 rfl ?_
            refine Own.s_aload X403 at_311 rfl rfl rfl ?_
            refine Own.s_iconst X403 at_313 (0 : Int32) (by decide) rfl ?_
            have ex406 : Ext h383 h403 := Own.extK (Own.Ext.rfl' h383) V403.1 all0
            have S_407 := Own.Str.ext S_385 ex406
            have Z_408 := Sta.ext ex406 Z_402
            have ex409 : Ext h0 h403 := Own.extK ex401 V403.1 all0
            have Z_410 := Sta.ext ex409 SF0
            have E_412 := Exa.ext ex406 E_405
            refine Own.b_virtual X403 at_314 (tw90 hw) (tw91 hw) (notFace_of_selects (args := #[]) (mvT X403.hZ (tw93 hw))) (tw93 hw) (tw92 hw) (by decide) b336 [(.int (0 : Int32))] [] E_412 (Own.strAt (W := 0) (i := 0) X403.hZ (wChN hw) (tw1 hw) S_407 Z_408 hzc Z_410 hfm (Nat.le_of_ble_eq_true rfl) (by decide) (by decide) (by decide)) (fun v h' L q => Own.strAtQ (z := (p0 &&& (255 : Int32))) rfl q) Own.Ok.nil (lenOf pd_10 rfl) rfl (Nat.le_of_eq rfl) (by decide) (by decide) rfl rfl ?_
            intro v411 vm411 T411 h411 L411 X411 V411 Q411
            obtain rfl := Q411
            refine Own.s_bipush X411 at_317 (65 : Int32) (by decide) rfl ?_
            refine Own.s_icmpF X411 at_319 (teq (show (p0 &&& (255 : Int32)) = (65 : Int32) by rw [hs383_0] <;> decide)).2 rfl ?_
            refine Own.s_aload X411 at_322 rfl rfl rfl ?_
            refine Own.s_iconst X411 at_324 (1 : Int32) (by decide) rfl ?_
            have ex413 : Ext h403 h411 := Own.extK (Own.Ext.rfl' h403) V411.1 all0
            have S_414 := Own.Str.ext S_407 ex413
            have Z_415 := Sta.ext ex413 Z_408
            have Z_416 := Sta.ext ex413 Z_410
            have E_418 := Exa.ext ex413 E_412
            refine Own.b_virtual X411 at_325 (tw90 hw) (tw91 hw) (notFace_of_selects (args := #[]) (mvT X411.hZ (tw93 hw))) (tw93 hw) (tw92 hw) (by decide) b336 [(.int (1 : Int32))] [] E_418 (Own.strAt (W := 0) (i := 1) X411.hZ (wChN hw) (tw1 hw) S_414 Z_415 hzc Z_416 hfm (Nat.le_of_ble_eq_true rfl) (by decide) (by decide) (by decide)) (fun v h' L q => Own.strAtQ (z := ((XT.ushr p0 (8 : Int32)) &&& (255 : Int32))) rfl q) Own.Ok.nil (lenOf pd_10 rfl) rfl (Nat.le_of_eq rfl) (by decide) (by decide) rfl rfl ?_
            intro v417 vm417 T417 h417 L417 X417 V417 Q417
            obtain rfl := Q417
            refine Own.s_bipush X417 at_328 (67 : Int32) (by decide) rfl ?_
            refine Own.s_icmpF X417 at_330 (teq (show ((XT.ushr p0 (8 : Int32)) &&& (255 : Int32)) = (67 : Int32) by rw [hs383_1] <;> decide)).2 rfl ?_
            refine Own.s_aload X417 at_333 rfl rfl rfl ?_
            refine Own.s_iconst X417 at_335 (2 : Int32) (by decide) rfl ?_
            have ex419 : Ext h411 h417 := Own.extK (Own.Ext.rfl' h411) V417.1 all0
            have S_420 := Own.Str.ext S_414 ex419
            have Z_421 := Sta.ext ex419 Z_415
            have Z_422 := Sta.ext ex419 Z_416
            have E_424 := Exa.ext ex419 E_418
            refine Own.b_virtual X417 at_336 (tw90 hw) (tw91 hw) (notFace_of_selects (args := #[]) (mvT X417.hZ (tw93 hw))) (tw93 hw) (tw92 hw) (by decide) b336 [(.int (2 : Int32))] [] E_424 (Own.strAt (W := 0) (i := 2) X417.hZ (wChN hw) (tw1 hw) S_420 Z_421 hzc Z_422 hfm (Nat.le_of_ble_eq_true rfl) (by decide) (by decide) (by decide)) (fun v h' L q => Own.strAtQ (z := ((XT.ushr p0 (16 : Int32)) &&& (255 : Int32))) rfl q) Own.Ok.nil (lenOf pd_10 rfl) rfl (Nat.le_of_eq rfl) (by decide) (by decide) rfl rfl ?_
            intro v423 vm423 T423 h423 L423 X423 V423 Q423
            obtain rfl := Q423
            refine Own.s_bipush X423 at_339 (84 : Int32) (by decide) rfl ?_
            refine Own.s_icmpF X423 at_341 (teq (show ((XT.ushr p0 (16 : Int32)) &&& (255 : Int32)) = (84 : Int32) by rw [hs383_2] <;> decide)).2 rfl ?_
            refine Own.s_aload X423 at_344 rfl rfl rfl ?_
            refine Own.s_iconst X423 at_346 (3 : Int32) (by decide) rfl ?_
            have ex425 : Ext h417 h423 := Own.extK (Own.Ext.rfl' h417) V423.1 all0
            have S_426 := Own.Str.ext S_420 ex425
            have Z_427 := Sta.ext ex425 Z_421
            have Z_428 := Sta.ext ex425 Z_422
            have E_430 := Exa.ext ex425 E_424
            refine Own.b_virtual X423 at_347 (tw90 hw) (tw91 hw) (notFace_of_selects (args := #[]) (mvT X423.hZ (tw93 hw))) (tw93 hw) (tw92 hw) (by decide) b336 [(.int (3 : Int32))] [] E_430 (Own.strAt (W := 0) (i := 3) X423.hZ (wChN hw) (tw1 hw) S_426 Z_427 hzc Z_428 hfm (Nat.le_of_ble_eq_true rfl) (by decide) (by decide) (by decide)) (fun v h' L q => Own.strAtQ (z := ((XT.ushr p0 (24 : Int32)) &&& (255 : Int32))) rfl q) Own.Ok.nil (lenOf pd_10 rfl) rfl (Nat.le_of_eq rfl) (by decide) (by decide) rfl rfl ?_
            intro v429 vm429 T429 h429 L429 X429 V429 Q429
            obtain rfl := Q429
            refine Own.s_bipush X429 at_350 (73 : Int32) (by decide) rfl ?_
            refine Own.s_icmpF X429 at_352 (teq (show ((XT.ushr p0 (24 : Int32)) &&& (255 : Int32)) = (73 : Int32) by rw [hs383_3] <;> decide)).2 rfl ?_
            refine Own.s_aload X429 at_355 rfl rfl rfl ?_
            refine Own.s_iconst X429 at_357 (4 : Int32) (by decide) rfl ?_
            have ex431 : Ext h423 h429 := Own.extK (Own.Ext.rfl' h423) V429.1 all0
            have S_432 := Own.Str.ext S_426 ex431
            have Z_433 := Sta.ext ex431 Z_427
            have Z_434 := Sta.ext ex431 Z_428
            have E_436 := Exa.ext ex431 E_430
            refine Own.b_virtual X429 at_358 (tw90 hw) (tw91 hw) (notFace_of_selects (args := #[]) (mvT X429.hZ (tw93 hw))) (tw93 hw) (tw92 hw) (by decide) b336 [(.int (4 : Int32))] [] E_436 (Own.strAt (W := 0) (i := 4) X429.hZ (wChN hw) (tw1 hw) S_432 Z_433 hzc Z_434 hfm (Nat.le_of_ble_eq_true rfl) (by decide) (by decide) (by decide)) (fun v h' L q => Own.strAtQ (z := (p1 &&& (255 : Int32))) rfl q) Own.Ok.nil (lenOf pd_10 rfl) rfl (Nat.le_of_eq rfl) (by decide) (by decide) rfl rfl ?_
            intro v435 vm435 T435 h435 L435 X435 V435 Q435
            obtain rfl := Q435
            refine Own.s_bipush X435 at_361 (86 : Int32) (by decide) rfl ?_
            refine Own.s_icmpF X435 at_363 (teq (show (p1 &&& (255 : Int32)) = (86 : Int32) by rw [hs383_4] <;> decide)).2 rfl ?_
            refine Own.s_aload X435 at_366 rfl rfl rfl ?_
            refine Own.s_iconst X435 at_368 (5 : Int32) (by decide) rfl ?_
            have ex437 : Ext h429 h435 := Own.extK (Own.Ext.rfl' h429) V435.1 all0
            have S_438 := Own.Str.ext S_432 ex437
            have Z_439 := Sta.ext ex437 Z_433
            have Z_440 := Sta.ext ex437 Z_434
            have E_442 := Exa.ext ex437 E_436
            refine Own.b_virtual X435 at_369 (tw90 hw) (tw91 hw) (notFace_of_selects (args := #[]) (mvT X435.hZ (tw93 hw))) (tw93 hw) (tw92 hw) (by decide) b336 [(.int (5 : Int32))] [] E_442 (Own.strAt (W := 0) (i := 5) X435.hZ (wChN hw) (tw1 hw) S_438 Z_439 hzc Z_440 hfm (Nat.le_of_ble_eq_true rfl) (by decide) (by decide) (by decide)) (fun v h' L q => Own.strAtQ (z := ((XT.ushr p1 (8 : Int32)) &&& (255 : Int32))) rfl q) Own.Ok.nil (lenOf pd_10 rfl) rfl (Nat.le_of_eq rfl) (by decide) (by decide) rfl rfl ?_
            intro v441 vm441 T441 h441 L441 X441 V441 Q441
            obtain rfl := Q441
            refine Own.s_bipush X441 at_372 (69 : Int32) (by decide) rfl ?_
            refine Own.s_icmpF X441 at_374 (teq (show ((XT.ushr p1 (8 : Int32)) &&& (255 : Int32)) = (69 : Int32) by rw [hs383_5] <;> decide)).2 rfl ?_
            refine Own.s_iconst X441 at_377 (1 : Int32) (by decide) rfl ?_
            refine Own.s_goto X441 at_378 (by decide) (pc' := 382) (by decide) ?_
            refine Own.s_istore X441 at_382 #[.val (.int p0), .val (.int p1), .val (.int p2), .val (.int p3), .val (.int (p0 &&& (255 : Int32))), .val (.int ((XT.ushr p0 (8 : Int32)) &&& (255 : Int32))), .val (.int ((XT.ushr p0 (16 : Int32)) &&& (255 : Int32))), .val (.int ((XT.ushr p0 (24 : Int32)) &&& (255 : Int32))), .val (.int (p1 &&& (255 : Int32))), .val (.int ((XT.ushr p1 (8 : Int32)) &&& (255 : Int32))), .val (.int ((XT.ushr p1 (16 : Int32)) &&& (255 : Int32))), .val (.int (p2 &&& (3 : Int32))), .val (.int (1 : Int32)), .val (.ref b336), .val (.ref r372), .val (.ref r373), .val (.ref b374), .val (.int (1 : Int32)), .val (.int (1 : Int32)), .unset] rfl rfl ?_
            refine Own.s_iload X441 at_384 rfl rfl ?_
            refine Own.s_ifF X441 at_386 ((if0 _ _).trans (feq (show ¬ (1 : Int32) = (0 : Int32) by decide)).1) rfl ?_
            refine Own.s_iload X441 at_389 rfl rfl ?_
            refine Own.s_ifF X441 at_391 ((if0 _ _).trans (feq (show ¬ (1 : Int32) = (0 : Int32) by decide)).1) rfl ?_
            refine Own.s_iconst X441 at_394 (1 : Int32) (by decide) rfl ?_
            refine Own.s_goto X441 at_395 (by decide) (pc' := 399) (by decide) ?_
            refine Own.s_istore X441 at_399 #[.val (.int p0), .val (.int p1), .val (.int p2), .val (.int p3), .val (.int (p0 &&& (255 : Int32))), .val (.int ((XT.ushr p0 (8 : Int32)) &&& (255 : Int32))), .val (.int ((XT.ushr p0 (16 : Int32)) &&& (255 : Int32))), .val (.int ((XT.ushr p0 (24 : Int32)) &&& (255 : Int32))), .val (.int (p1 &&& (255 : Int32))), .val (.int ((XT.ushr p1 (8 : Int32)) &&& (255 : Int32))), .val (.int ((XT.ushr p1 (16 : Int32)) &&& (255 : Int32))), .val (.int (p2 &&& (3 : Int32))), .val (.int (1 : Int32)), .val (.ref b336), .val (.ref r372), .val (.ref r373), .val (.ref b374), .val (.int (1 : Int32)), .val (.int (1 : Int32)), .val (.int (1 : Int32))] rfl rfl ?_
            refine Own.s_iload X441 at_401 rfl rfl ?_
            refine Own.s_iload X441 at_403 rfl rfl ?_
            refine Own.s_icmpF X441 at_405 (teq (show (1 : Int32) = (1 : Int32) by decide)).2 rfl ?_
            refine Own.s_iconst X441 at_408 (1 : Int32) (by decide) rfl ?_
            refine Own.s_goto X441 at_409 (by decide) (pc' := 413) (by decide) ?_
            exact Own.r_nar X441 rfl (Or.inl rfl) at_413 (by decide) (by decide) (by decide)
          · obtain ⟨rfl, hs383⟩ := Q383
            refine Own.s_istore X383 at_294 #[.val (.int p0), .val (.int p1), .val (.int p2), .val (.int p3), .val (.int (p0 &&& (255 : Int32))), .val (.int ((XT.ushr p0 (8 : Int32)) &&& (255 : Int32))), .val (.int ((XT.ushr p0 (16 : Int32)) &&& (255 : Int32))), .val (.int ((XT.ushr p0 (24 : Int32)) &&& (255 : Int32))), .val (.int (p1 &&& (255 : Int32))), .val (.int ((XT.ushr p1 (8 : Int32)) &&& (255 : Int32))), .val (.int ((XT.ushr p1 (16 : Int32)) &&& (255 : Int32))), .val (.int (p2 &&& (3 : Int32))), .val (.int (1 : Int32)), .val (.ref b336), .val (.ref r372), .val (.ref r373), .val (.ref b374), .val (.int (0 : Int32)), .unset, .unset] rfl rfl ?_
            refine Own.s_aload X383 at_296 rfl rfl rfl ?_
            refine Own.s_ifnullF X383 at_298 rfl ?_
            refine Own.s_aload X383 at_301 rfl rfl rfl ?_
            have ex443 : Ext h375 h383 := Own.extK (Own.Ext.rfl' h375) V383.1 all0
            have S_444 := Own.Str.ext S_382 ex443
            have ex445 : Ext h0 h371 := Own.extK ex357 V371.1 (allS g336 all0)
            have ex446 : Ext h0 h372 := Own.extK ex445 V372.1 all0
            have ex447 : Ext h0 h373 := Own.extK ex446 V373.1 all0
            have ex448 : Ext h0 h374 := Own.extK ex447 V374.1 all0
            have le458 : h0.size ≤ h337.size := Nat.le_trans le351 V337.1.1
            have le457 : h0.size ≤ h338.size := Nat.le_trans le458 V338.1.1
            have le456 : h0.size ≤ h339.size := Nat.le_trans le457 V339.1.1
            have le455 : h0.size ≤ h341.size := Nat.le_trans le456 V341.1.1
            have le454 : h0.size ≤ h343.size := Nat.le_trans le455 V343.1.1
            have le453 : h0.size ≤ h345.size := Nat.le_trans le454 V345.1.1
            have le452 : h0.size ≤ h347.size := Nat.le_trans le453 V347.1.1
            have le451 : h0.size ≤ h371.size := Nat.le_trans le452 V371.1.1
            have le450 : h0.size ≤ h372.size := Nat.le_trans le451 V372.1.1
            have le449 : h0.size ≤ h373.size := Nat.le_trans le450 V373.1.1
            have ex459 : Ext h0 h375 := Own.extK ex448 V375.1 (allS (Nat.le_trans le449 g374) all0)
            have ex460 : Ext h0 h383 := Own.extK ex459 V383.1 all0
            have Z_461 := Sta.ext ex460 SC0
            have ex463 : Ext h371 h383 := Own.extK ex381 V383.1 all0
            have E_464 := Exa.ext ex463 S371.exa
            refine Own.b_virtual X383 at_303 (tw80 hw) (tw81 hw) (notFace_of_selects (args := #[]) (mvT X383.hZ (tw83 hw))) (tw83 hw) (tw82 hw) (by decide) b336 [] [] E_464 (Own.strLen (W := 0) X383.hZ (wLen hw) (tw1 hw) S_444 Z_461 hzc (by decide) (by decide)) (fun v h' L q => Own.strLenQ (N := (6 : Int32)) rfl q) Own.Ok.nil (lenOf pd_9 rfl) rfl (Nat.le_of_eq rfl) (by decide) (by decide) rfl rfl ?_
            intro v462 vm462 T462 h462 L462 X462 V462 Q462
            obtain rfl := Q462
            refine Own.s_bipush X462 at_306 (6 : Int32) (by decide) rfl ?_
            refine Own.s_icmpF X462 at_308 (teq (show (6 : Int32) = (6 : Int32) by decide)).2 rfl ?_
            refine Own.s_aload X462 at_311 rfl rfl rfl ?_
            refine Own.s_iconst X462 at_313 (0 : Int32) (by decide) rfl ?_
            have ex465 : Ext h383 h462 := Own.extK (Own.Ext.rfl' h383) V462.1 all0
            have S_466 := Own.Str.ext S_444 ex465
            have Z_467 := Sta.ext ex465 Z_461
            have ex468 : Ext h0 h462 := Own.extK ex460 V462.1 all0
            have Z_469 := Sta.ext ex468 SF0
            have E_471 := Exa.ext ex465 E_464
            refine Own.b_virtual X462 at_314 (tw90 hw) (tw91 hw) (notFace_of_selects (args := #[]) (mvT X462.hZ (tw93 hw))) (tw93 hw) (tw92 hw) (by decide) b336 [(.int (0 : Int32))] [] E_471 (Own.strAt (W := 0) (i := 0) X462.hZ (wChN hw) (tw1 hw) S_466 Z_467 hzc Z_469 hfm (Nat.le_of_ble_eq_true rfl) (by decide) (by decide) (by decide)) (fun v h' L q => Own.strAtQ (z := (p0 &&& (255 : Int32))) rfl q) Own.Ok.nil (lenOf pd_10 rfl) rfl (Nat.le_of_eq rfl) (by decide) (by decide) rfl rfl ?_
            intro v470 vm470 T470 h470 L470 X470 V470 Q470
            obtain rfl := Q470
            refine Own.s_bipush X470 at_317 (65 : Int32) (by decide) rfl ?_
            by_cases hc319_472 : (p0 &&& (255 : Int32)) = (65 : Int32)
            · refine Own.s_icmpF X470 at_319 (teq hc319_472).2 rfl ?_
              refine Own.s_aload X470 at_322 rfl rfl rfl ?_
              refine Own.s_iconst X470 at_324 (1 : Int32) (by decide) rfl ?_
              have ex473 : Ext h462 h470 := Own.extK (Own.Ext.rfl' h462) V470.1 all0
              have S_474 := Own.Str.ext S_466 ex473
              have Z_475 := Sta.ext ex473 Z_467
              have Z_476 := Sta.ext ex473 Z_469
              have E_478 := Exa.ext ex473 E_471
              refine Own.b_virtual X470 at_325 (tw90 hw) (tw91 hw) (notFace_of_selects (args := #[]) (mvT X470.hZ (tw93 hw))) (tw93 hw) (tw92 hw) (by decide) b336 [(.int (1 : Int32))] [] E_478 (Own.strAt (W := 0) (i := 1) X470.hZ (wChN hw) (tw1 hw) S_474 Z_475 hzc Z_476 hfm (Nat.le_of_ble_eq_true rfl) (by decide) (by decide) (by decide)) (fun v h' L q => Own.strAtQ (z := ((XT.ushr p0 (8 : Int32)) &&& (255 : Int32))) rfl q) Own.Ok.nil (lenOf pd_10 rfl) rfl (Nat.le_of_eq rfl) (by decide) (by decide) rfl rfl ?_
              intro v477 vm477 T477 h477 L477 X477 V477 Q477
              obtain rfl := Q477
              refine Own.s_bipush X477 at_328 (67 : Int32) (by decide) rfl ?_
              by_cases hc330_479 : ((XT.ushr p0 (8 : Int32)) &&& (255 : Int32)) = (67 : Int32)
              · refine Own.s_icmpF X477 at_330 (teq hc330_479).2 rfl ?_
                refine Own.s_aload X477 at_333 rfl rfl rfl ?_
                refine Own.s_iconst X477 at_335 (2 : Int32) (by decide) rfl ?_
                have ex480 : Ext h470 h477 := Own.extK (Own.Ext.rfl' h470) V477.1 all0
                have S_481 := Own.Str.ext S_474 ex480
                have Z_482 := Sta.ext ex480 Z_475
                have Z_483 := Sta.ext ex480 Z_476
                have E_485 := Exa.ext ex480 E_478
                refine Own.b_virtual X477 at_336 (tw90 hw) (tw91 hw) (notFace_of_selects (args := #[]) (mvT X477.hZ (tw93 hw))) (tw93 hw) (tw92 hw) (by decide) b336 [(.int (2 : Int32))] [] E_485 (Own.strAt (W := 0) (i := 2) X477.hZ (wChN hw) (tw1 hw) S_481 Z_482 hzc Z_483 hfm (Nat.le_of_ble_eq_true rfl) (by decide) (by decide) (by decide)) (fun v h' L q => Own.strAtQ (z := ((XT.ushr p0 (16 : Int32)) &&& (255 : Int32))) rfl q) Own.Ok.nil (lenOf pd_10 rfl) rfl (Nat.le_of_eq rfl) (by decide) (by decide) rfl rfl ?_
                intro v484 vm484 T484 h484 L484 X484 V484 Q484
                obtain rfl := Q484
                refine Own.s_bipush X484 at_339 (84 : Int32) (by decide) rfl ?_
                by_cases hc341_486 : ((XT.ushr p0 (16 : Int32)) &&& (255 : Int32)) = (84 : Int32)
                · refine Own.s_icmpF X484 at_341 (teq hc341_486).2 rfl ?_
                  refine Own.s_aload X484 at_344 rfl rfl rfl ?_
                  refine Own.s_iconst X484 at_346 (3 : Int32) (by decide) rfl ?_
                  have ex487 : Ext h477 h484 := Own.extK (Own.Ext.rfl' h477) V484.1 all0
                  have S_488 := Own.Str.ext S_481 ex487
                  have Z_489 := Sta.ext ex487 Z_482
                  have Z_490 := Sta.ext ex487 Z_483
                  have E_492 := Exa.ext ex487 E_485
                  refine Own.b_virtual X484 at_347 (tw90 hw) (tw91 hw) (notFace_of_selects (args := #[]) (mvT X484.hZ (tw93 hw))) (tw93 hw) (tw92 hw) (by decide) b336 [(.int (3 : Int32))] [] E_492 (Own.strAt (W := 0) (i := 3) X484.hZ (wChN hw) (tw1 hw) S_488 Z_489 hzc Z_490 hfm (Nat.le_of_ble_eq_true rfl) (by decide) (by decide) (by decide)) (fun v h' L q => Own.strAtQ (z := ((XT.ushr p0 (24 : Int32)) &&& (255 : Int32))) rfl q) Own.Ok.nil (lenOf pd_10 rfl) rfl (Nat.le_of_eq rfl) (by decide) (by decide) rfl rfl ?_
                  intro v491 vm491 T491 h491 L491 X491 V491 Q491
                  obtain rfl := Q491
                  refine Own.s_bipush X491 at_350 (73 : Int32) (by decide) rfl ?_
                  by_cases hc352_493 : ((XT.ushr p0 (24 : Int32)) &&& (255 : Int32)) = (73 : Int32)
                  · refine Own.s_icmpF X491 at_352 (teq hc352_493).2 rfl ?_
                    refine Own.s_aload X491 at_355 rfl rfl rfl ?_
                    refine Own.s_iconst X491 at_357 (4 : Int32) (by decide) rfl ?_
                    have ex494 : Ext h484 h491 := Own.extK (Own.Ext.rfl' h484) V491.1 all0
                    have S_495 := Own.Str.ext S_488 ex494
                    have Z_496 := Sta.ext ex494 Z_489
                    have Z_497 := Sta.ext ex494 Z_490
                    have E_499 := Exa.ext ex494 E_492
                    refine Own.b_virtual X491 at_358 (tw90 hw) (tw91 hw) (notFace_of_selects (args := #[]) (mvT X491.hZ (tw93 hw))) (tw93 hw) (tw92 hw) (by decide) b336 [(.int (4 : Int32))] [] E_499 (Own.strAt (W := 0) (i := 4) X491.hZ (wChN hw) (tw1 hw) S_495 Z_496 hzc Z_497 hfm (Nat.le_of_ble_eq_true rfl) (by decide) (by decide) (by decide)) (fun v h' L q => Own.strAtQ (z := (p1 &&& (255 : Int32))) rfl q) Own.Ok.nil (lenOf pd_10 rfl) rfl (Nat.le_of_eq rfl) (by decide) (by decide) rfl rfl ?_
                    intro v498 vm498 T498 h498 L498 X498 V498 Q498
                    obtain rfl := Q498
                    refine Own.s_bipush X498 at_361 (86 : Int32) (by decide) rfl ?_
                    by_cases hc363_500 : (p1 &&& (255 : Int32)) = (86 : Int32)
                    · refine Own.s_icmpF X498 at_363 (teq hc363_500).2 rfl ?_
                      refine Own.s_aload X498 at_366 rfl rfl rfl ?_
                      refine Own.s_iconst X498 at_368 (5 : Int32) (by decide) rfl ?_
                      have ex501 : Ext h491 h498 := Own.extK (Own.Ext.rfl' h491) V498.1 all0
                      have S_502 := Own.Str.ext S_495 ex501
                      have Z_503 := Sta.ext ex501 Z_496
                      have Z_504 := Sta.ext ex501 Z_497
                      have E_506 := Exa.ext ex501 E_499
                      refine Own.b_virtual X498 at_369 (tw90 hw) (tw91 hw) (notFace_of_selects (args := #[]) (mvT X498.hZ (tw93 hw))) (tw93 hw) (tw92 hw) (by decide) b336 [(.int (5 : Int32))] [] E_506 (Own.strAt (W := 0) (i := 5) X498.hZ (wChN hw) (tw1 hw) S_502 Z_503 hzc Z_504 hfm (Nat.le_of_ble_eq_true rfl) (by decide) (by decide) (by decide)) (fun v h' L q => Own.strAtQ (z := ((XT.ushr p1 (8 : Int32)) &&& (255 : Int32))) rfl q) Own.Ok.nil (lenOf pd_10 rfl) rfl (Nat.le_of_eq rfl) (by decide) (by decide) rfl rfl ?_
                      intro v505 vm505 T505 h505 L505 X505 V505 Q505
                      obtain rfl := Q505
                      refine Own.s_bipush X505 at_372 (69 : Int32) (by decide) rfl ?_
                      by_cases hc374_507 : ((XT.ushr p1 (8 : Int32)) &&& (255 : Int32)) = (69 : Int32)
                      · refine Own.s_icmpF X505 at_374 (teq hc374_507).2 rfl ?_
                        refine Own.s_iconst X505 at_377 (1 : Int32) (by decide) rfl ?_
                        refine Own.s_goto X505 at_378 (by decide) (pc' := 382) (by decide) ?_
                        refine Own.s_istore X505 at_382 #[.val (.int p0), .val (.int p1), .val (.int p2), .val (.int p3), .val (.int (p0 &&& (255 : Int32))), .val (.int ((XT.ushr p0 (8 : Int32)) &&& (255 : Int32))), .val (.int ((XT.ushr p0 (16 : Int32)) &&& (255 : Int32))), .val (.int ((XT.ushr p0 (24 : Int32)) &&& (255 : Int32))), .val (.int (p1 &&& (255 : Int32))), .val (.int ((XT.ushr p1 (8 : Int32)) &&& (255 : Int32))), .val (.int ((XT.ushr p1 (16 : Int32)) &&& (255 : Int32))), .val (.int (p2 &&& (3 : Int32))), .val (.int (1 : Int32)), .val (.ref b336), .val (.ref r372), .val (.ref r373), .val (.ref b374), .val (.int (0 : Int32)), .val (.int (1 : Int32)), .unset] rfl rfl ?_
                        refine Own.s_iload X505 at_384 rfl rfl ?_
                        refine Own.s_ifF X505 at_386 ((if0 _ _).trans (feq (show ¬ (1 : Int32) = (0 : Int32) by decide)).1) rfl ?_
                        refine Own.s_iload X505 at_389 rfl rfl ?_
                        refine Own.s_ifF X505 at_391 ((if0 _ _).trans (feq (show ¬ (1 : Int32) = (0 : Int32) by decide)).1) rfl ?_
                        refine Own.s_iconst X505 at_394 (1 : Int32) (by decide) rfl ?_
                        refine Own.s_goto X505 at_395 (by decide) (pc' := 399) (by decide) ?_
                        refine Own.s_istore X505 at_399 #[.val (.int p0), .val (.int p1), .val (.int p2), .val (.int p3), .val (.int (p0 &&& (255 : Int32))), .val (.int ((XT.ushr p0 (8 : Int32)) &&& (255 : Int32))), .val (.int ((XT.ushr p0 (16 : Int32)) &&& (255 : Int32))), .val (.int ((XT.ushr p0 (24 : Int32)) &&& (255 : Int32))), .val (.int (p1 &&& (255 : Int32))), .val (.int ((XT.ushr p1 (8 : Int32)) &&& (255 : Int32))), .val (.int ((XT.ushr p1 (16 : Int32)) &&& (255 : Int32))), .val (.int (p2 &&& (3 : Int32))), .val (.int (1 : Int32)), .val (.ref b336), .val (.ref r372), .val (.ref r373), .val (.ref b374), .val (.int (0 : Int32)), .val (.int (1 : Int32)), .val (.int (1 : Int32))] rfl rfl ?_
                        refine Own.s_iload X505 at_401 rfl rfl ?_
                        refine Own.s_iload X505 at_403 rfl rfl ?_
                        refine Own.s_icmpT X505 at_405 (feq (show ¬ (0 : Int32) = (1 : Int32) by decide)).2 (by decide) (pc' := 412) (by decide) ?_
                        refine Own.s_iconst X505 at_412 (0 : Int32) (by decide) rfl ?_
                        exact Own.r_nar X505 rfl (Or.inl rfl) at_413 (by decide) (by decide) (absurd ⟨by rw [hc319_472, hc330_479, hc341_486, hc352_493, hc363_500, hc374_507], rfl⟩ hs383)
                      · refine Own.s_icmpT X505 at_374 (feq hc374_507).2 (by decide) (pc' := 381) (by decide) ?_
                        refine Own.s_iconst X505 at_381 (0 : Int32) (by decide) rfl ?_
                        refine Own.s_istore X505 at_382 #[.val (.int p0), .val (.int p1), .val (.int p2), .val (.int p3), .val (.int (p0 &&& (255 : Int32))), .val (.int ((XT.ushr p0 (8 : Int32)) &&& (255 : Int32))), .val (.int ((XT.ushr p0 (16 : Int32)) &&& (255 : Int32))), .val (.int ((XT.ushr p0 (24 : Int32)) &&& (255 : Int32))), .val (.int (p1 &&& (255 : Int32))), .val (.int ((XT.ushr p1 (8 : Int32)) &&& (255 : Int32))), .val (.int ((XT.ushr p1 (16 : Int32)) &&& (255 : Int32))), .val (.int (p2 &&& (3 : Int32))), .val (.int (1 : Int32)), .val (.ref b336), .val (.ref r372), .val (.ref r373), .val (.ref b374), .val (.int (0 : Int32)), .val (.int (0 : Int32)), .unset] rfl rfl ?_
                        refine Own.s_iload X505 at_384 rfl rfl ?_
                        refine Own.s_ifT X505 at_386 ((if0 _ _).trans (teq (show (0 : Int32) = (0 : Int32) by decide)).1) (by decide) (pc' := 398) (by decide) ?_
                        refine Own.s_iconst X505 at_398 (0 : Int32) (by decide) rfl ?_
                        refine Own.s_istore X505 at_399 #[.val (.int p0), .val (.int p1), .val (.int p2), .val (.int p3), .val (.int (p0 &&& (255 : Int32))), .val (.int ((XT.ushr p0 (8 : Int32)) &&& (255 : Int32))), .val (.int ((XT.ushr p0 (16 : Int32)) &&& (255 : Int32))), .val (.int ((XT.ushr p0 (24 : Int32)) &&& (255 : Int32))), .val (.int (p1 &&& (255 : Int32))), .val (.int ((XT.ushr p1 (8 : Int32)) &&& (255 : Int32))), .val (.int ((XT.ushr p1 (16 : Int32)) &&& (255 : Int32))), .val (.int (p2 &&& (3 : Int32))), .val (.int (1 : Int32)), .val (.ref b336), .val (.ref r372), .val (.ref r373), .val (.ref b374), .val (.int (0 : Int32)), .val (.int (0 : Int32)), .val (.int (0 : Int32))] rfl rfl ?_
                        refine Own.s_iload X505 at_401 rfl rfl ?_
                        refine Own.s_iload X505 at_403 rfl rfl ?_
                        refine Own.s_icmpF X505 at_405 (teq (show (0 : Int32) = (0 : Int32) by decide)).2 rfl ?_
                        refine Own.s_iconst X505 at_408 (1 : Int32) (by decide) rfl ?_
                        refine Own.s_goto X505 at_409 (by decide) (pc' := 413) (by decide) ?_
                        exact Own.r_nar X505 rfl (Or.inl rfl) at_413 (by decide) (by decide) (by decide)
                    · refine Own.s_icmpT X498 at_363 (feq hc363_500).2 (by decide) (pc' := 381) (by decide) ?_
                      refine Own.s_iconst X498 at_381 (0 : Int32) (by decide) rfl ?_
                      refine Own.s_istore X498 at_382 #[.val (.int p0), .val (.int p1), .val (.int p2), .val (.int p3), .val (.int (p0 &&& (255 : Int32))), .val (.int ((XT.ushr p0 (8 : Int32)) &&& (255 : Int32))), .val (.int ((XT.ushr p0 (16 : Int32)) &&& (255 : Int32))), .val (.int ((XT.ushr p0 (24 : Int32)) &&& (255 : Int32))), .val (.int (p1 &&& (255 : Int32))), .val (.int ((XT.ushr p1 (8 : Int32)) &&& (255 : Int32))), .val (.int ((XT.ushr p1 (16 : Int32)) &&& (255 : Int32))), .val (.int (p2 &&& (3 : Int32))), .val (.int (1 : Int32)), .val (.ref b336), .val (.ref r372), .val (.ref r373), .val (.ref b374), .val (.int (0 : Int32)), .val (.int (0 : Int32)), .unset] rfl rfl ?_
                      refine Own.s_iload X498 at_384 rfl rfl ?_
                      refine Own.s_ifT X498 at_386 ((if0 _ _).trans (teq (show (0 : Int32) = (0 : Int32) by decide)).1) (by decide) (pc' := 398) (by decide) ?_
                      refine Own.s_iconst X498 at_398 (0 : Int32) (by decide) rfl ?_
                      refine Own.s_istore X498 at_399 #[.val (.int p0), .val (.int p1), .val (.int p2), .val (.int p3), .val (.int (p0 &&& (255 : Int32))), .val (.int ((XT.ushr p0 (8 : Int32)) &&& (255 : Int32))), .val (.int ((XT.ushr p0 (16 : Int32)) &&& (255 : Int32))), .val (.int ((XT.ushr p0 (24 : Int32)) &&& (255 : Int32))), .val (.int (p1 &&& (255 : Int32))), .val (.int ((XT.ushr p1 (8 : Int32)) &&& (255 : Int32))), .val (.int ((XT.ushr p1 (16 : Int32)) &&& (255 : Int32))), .val (.int (p2 &&& (3 : Int32))), .val (.int (1 : Int32)), .val (.ref b336), .val (.ref r372), .val (.ref r373), .val (.ref b374), .val (.int (0 : Int32)), .val (.int (0 : Int32)), .val (.int (0 : Int32))] rfl rfl ?_
                      refine Own.s_iload X498 at_401 rfl rfl ?_
                      refine Own.s_iload X498 at_403 rfl rfl ?_
                      refine Own.s_icmpF X498 at_405 (teq (show (0 : Int32) = (0 : Int32) by decide)).2 rfl ?_
                      refine Own.s_iconst X498 at_408 (1 : Int32) (by decide) rfl ?_
                      refine Own.s_goto X498 at_409 (by decide) (pc' := 413) (by decide) ?_
                      exact Own.r_nar X498 rfl (Or.inl rfl) at_413 (by decide) (by decide) (by decide)
                  · refine Own.s_icmpT X491 at_352 (feq hc352_493).2 (by decide) (pc' := 381) (by decide) ?_
                    refine Own.s_iconst X491 at_381 (0 : Int32) (by decide) rfl ?_
                    refine Own.s_istore X491 at_382 #[.val (.int p0), .val (.int p1), .val (.int p2), .val (.int p3), .val (.int (p0 &&& (255 : Int32))), .val (.int ((XT.ushr p0 (8 : Int32)) &&& (255 : Int32))), .val (.int ((XT.ushr p0 (16 : Int32)) &&& (255 : Int32))), .val (.int ((XT.ushr p0 (24 : Int32)) &&& (255 : Int32))), .val (.int (p1 &&& (255 : Int32))), .val (.int ((XT.ushr p1 (8 : Int32)) &&& (255 : Int32))), .val (.int ((XT.ushr p1 (16 : Int32)) &&& (255 : Int32))), .val (.int (p2 &&& (3 : Int32))), .val (.int (1 : Int32)), .val (.ref b336), .val (.ref r372), .val (.ref r373), .val (.ref b374), .val (.int (0 : Int32)), .val (.int (0 : Int32)), .unset] rfl rfl ?_
                    refine Own.s_iload X491 at_384 rfl rfl ?_
                    refine Own.s_ifT X491 at_386 ((if0 _ _).trans (teq (show (0 : Int32) = (0 : Int32) by decide)).1) (by decide) (pc' := 398) (by decide) ?_
                    refine Own.s_iconst X491 at_398 (0 : Int32) (by decide) rfl ?_
                    refine Own.s_istore X491 at_399 #[.val (.int p0), .val (.int p1), .val (.int p2), .val (.int p3), .val (.int (p0 &&& (255 : Int32))), .val (.int ((XT.ushr p0 (8 : Int32)) &&& (255 : Int32))), .val (.int ((XT.ushr p0 (16 : Int32)) &&& (255 : Int32))), .val (.int ((XT.ushr p0 (24 : Int32)) &&& (255 : Int32))), .val (.int (p1 &&& (255 : Int32))), .val (.int ((XT.ushr p1 (8 : Int32)) &&& (255 : Int32))), .val (.int ((XT.ushr p1 (16 : Int32)) &&& (255 : Int32))), .val (.int (p2 &&& (3 : Int32))), .val (.int (1 : Int32)), .val (.ref b336), .val (.ref r372), .val (.ref r373), .val (.ref b374), .val (.int (0 : Int32)), .val (.int (0 : Int32)), .val (.int (0 : Int32))] rfl rfl ?_
                    refine Own.s_iload X491 at_401 rfl rfl ?_
                    refine Own.s_iload X491 at_403 rfl rfl ?_
                    refine Own.s_icmpF X491 at_405 (teq (show (0 : Int32) = (0 : Int32) by decide)).2 rfl ?_
                    refine Own.s_iconst X491 at_408 (1 : Int32) (by decide) rfl ?_
                    refine Own.s_goto X491 at_409 (by decide) (pc' := 413) (by decide) ?_
                    exact Own.r_nar X491 rfl (Or.inl rfl) at_413 (by decide) (by decide) (by decide)
                · refine Own.s_icmpT X484 at_341 (feq hc341_486).2 (by decide) (pc' := 381) (by decide) ?_
                  refine Own.s_iconst X484 at_381 (0 : Int32) (by decide) rfl ?_
                  refine Own.s_istore X484 at_382 #[.val (.int p0), .val (.int p1), .val (.int p2), .val (.int p3), .val (.int (p0 &&& (255 : Int32))), .val (.int ((XT.ushr p0 (8 : Int32)) &&& (255 : Int32))), .val (.int ((XT.ushr p0 (16 : Int32)) &&& (255 : Int32))), .val (.int ((XT.ushr p0 (24 : Int32)) &&& (255 : Int32))), .val (.int (p1 &&& (255 : Int32))), .val (.int ((XT.ushr p1 (8 : Int32)) &&& (255 : Int32))), .val (.int ((XT.ushr p1 (16 : Int32)) &&& (255 : Int32))), .val (.int (p2 &&& (3 : Int32))), .val (.int (1 : Int32)), .val (.ref b336), .val (.ref r372), .val (.ref r373), .val (.ref b374), .val (.int (0 : Int32)), .val (.int (0 : Int32)), .unset] rfl rfl ?_
                  refine Own.s_iload X484 at_384 rfl rfl ?_
                  refine Own.s_ifT X484 at_386 ((if0 _ _).trans (teq (show (0 : Int32) = (0 : Int32) by decide)).1) (by decide) (pc' := 398) (by decide) ?_
                  refine Own.s_iconst X484 at_398 (0 : Int32) (by decide) rfl ?_
                  refine Own.s_istore X484 at_399 #[.val (.int p0), .val (.int p1), .val (.int p2), .val (.int p3), .val (.int (p0 &&& (255 : Int32))), .val (.int ((XT.ushr p0 (8 : Int32)) &&& (255 : Int32))), .val (.int ((XT.ushr p0 (16 : Int32)) &&& (255 : Int32))), .val (.int ((XT.ushr p0 (24 : Int32)) &&& (255 : Int32))), .val (.int (p1 &&& (255 : Int32))), .val (.int ((XT.ushr p1 (8 : Int32)) &&& (255 : Int32))), .val (.int ((XT.ushr p1 (16 : Int32)) &&& (255 : Int32))), .val (.int (p2 &&& (3 : Int32))), .val (.int (1 : Int32)), .val (.ref b336), .val (.ref r372), .val (.ref r373), .val (.ref b374), .val (.int (0 : Int32)), .val (.int (0 : Int32)), .val (.int (0 : Int32))] rfl rfl ?_
                  refine Own.s_iload X484 at_401 rfl rfl ?_
                  refine Own.s_iload X484 at_403 rfl rfl ?_
                  refine Own.s_icmpF X484 at_405 (teq (show (0 : Int32) = (0 : Int32) by decide)).2 rfl ?_
                  refine Own.s_iconst X484 at_408 (1 : Int32) (by decide) rfl ?_
                  refine Own.s_goto X484 at_409 (by decide) (pc' := 413) (by decide) ?_
                  exact Own.r_nar X484 rfl (Or.inl rfl) at_413 (by decide) (by decide) (by decide)
              · refine Own.s_icmpT X477 at_330 (feq hc330_479).2 (by decide) (pc' := 381) (by decide) ?_
                refine Own.s_iconst X477 at_381 (0 : Int32) (by decide) rfl ?_
                refine Own.s_istore X477 at_382 #[.val (.int p0), .val (.int p1), .val (.int p2), .val (.int p3), .val (.int (p0 &&& (255 : Int32))), .val (.int ((XT.ushr p0 (8 : Int32)) &&& (255 : Int32))), .val (.int ((XT.ushr p0 (16 : Int32)) &&& (255 : Int32))), .val (.int ((XT.ushr p0 (24 : Int32)) &&& (255 : Int32))), .val (.int (p1 &&& (255 : Int32))), .val (.int ((XT.ushr p1 (8 : Int32)) &&& (255 : Int32))), .val (.int ((XT.ushr p1 (16 : Int32)) &&& (255 : Int32))), .val (.int (p2 &&& (3 : Int32))), .val (.int (1 : Int32)), .val (.ref b336), .val (.ref r372), .val (.ref r373), .val (.ref b374), .val (.int (0 : Int32)), .val (.int (0 : Int32)), .unset] rfl rfl ?_
                refine Own.s_iload X477 at_384 rfl rfl ?_
                refine Own.s_ifT X477 at_386 ((if0 _ _).trans (teq (show (0 : Int32) = (0 : Int32) by decide)).1) (by decide) (pc' := 398) (by decide) ?_
                refine Own.s_iconst X477 at_398 (0 : Int32) (by decide) rfl ?_
                refine Own.s_istore X477 at_399 #[.val (.int p0), .val (.int p1), .val (.int p2), .val (.int p3), .val (.int (p0 &&& (255 : Int32))), .val (.int ((XT.ushr p0 (8 : Int32)) &&& (255 : Int32))), .val (.int ((XT.ushr p0 (16 : Int32)) &&& (255 : Int32))), .val (.int ((XT.ushr p0 (24 : Int32)) &&& (255 : Int32))), .val (.int (p1 &&& (255 : Int32))), .val (.int ((XT.ushr p1 (8 : Int32)) &&& (255 : Int32))), .val (.int ((XT.ushr p1 (16 : Int32)) &&& (255 : Int32))), .val (.int (p2 &&& (3 : Int32))), .val (.int (1 : Int32)), .val (.ref b336), .val (.ref r372), .val (.ref r373), .val (.ref b374), .val (.int (0 : Int32)), .val (.int (0 : Int32)), .val (.int (0 : Int32))] rfl rfl ?_
                refine Own.s_iload X477 at_401 rfl rfl ?_
                refine Own.s_iload X477 at_403 rfl rfl ?_
                refine Own.s_icmpF X477 at_405 (teq (show (0 : Int32) = (0 : Int32) by decide)).2 rfl ?_
                refine Own.s_iconst X477 at_408 (1 : Int32) (by decide) rfl ?_
                refine Own.s_goto X477 at_409 (by decide) (pc' := 413) (by decide) ?_
                exact Own.r_nar X477 rfl (Or.inl rfl) at_413 (by decide) (by decide) (by decide)
            · refine Own.s_icmpT X470 at_319 (feq hc319_472).2 (by decide) (pc' := 381) (by decide) ?_
              refine Own.s_iconst X470 at_381 (0 : Int32) (by decide) rfl ?_
              refine Own.s_istore X470 at_382 #[.val (.int p0), .val (.int p1), .val (.int p2), .val (.int p3), .val (.int (p0 &&& (255 : Int32))), .val (.int ((XT.ushr p0 (8 : Int32)) &&& (255 : Int32))), .val (.int ((XT.ushr p0 (16 : Int32)) &&& (255 : Int32))), .val (.int ((XT.ushr p0 (24 : Int32)) &&& (255 : Int32))), .val (.int (p1 &&& (255 : Int32))), .val (.int ((XT.ushr p1 (8 : Int32)) &&& (255 : Int32))), .val (.int ((XT.ushr p1 (16 : Int32)) &&& (255 : Int32))), .val (.int (p2 &&& (3 : Int32))), .val (.int (1 : Int32)), .val (.ref b336), .val (.ref r372), .val (.ref r373), .val (.ref b374), .val (.int (0 : Int32)), .val (.int (0 : Int32)), .unset] rfl rfl ?_
              refine Own.s_iload X470 at_384 rfl rfl ?_
              refine Own.s_ifT X470 at_386 ((if0 _ _).trans (teq (show (0 : Int32) = (0 : Int32) by decide)).1) (by decide) (pc' := 398) (by decide) ?_
              refine Own.s_iconst X470 at_398 (0 : Int32) (by decide) rfl ?_
              refine Own.s_istore X470 at_399 #[.val (.int p0), .val (.int p1), .val (.int p2), .val (.int p3), .val (.int (p0 &&& (255 : Int32))), .val (.int ((XT.ushr p0 (8 : Int32)) &&& (255 : Int32))), .val (.int ((XT.ushr p0 (16 : Int32)) &&& (255 : Int32))), .val (.int ((XT.ushr p0 (24 : Int32)) &&& (255 : Int32))), .val (.int (p1 &&& (255 : Int32))), .val (.int ((XT.ushr p1 (8 : Int32)) &&& (255 : Int32))), .val (.int ((XT.ushr p1 (16 : Int32)) &&& (255 : Int32))), .val (.int (p2 &&& (3 : Int32))), .val (.int (1 : Int32)), .val (.ref b336), .val (.ref r372), .val (.ref r373), .val (.ref b374), .val (.int (0 : Int32)), .val (.int (0 : Int32)), .val (.int (0 : Int32))] rfl rfl ?_
              refine Own.s_iload X470 at_401 rfl rfl ?_
              refine Own.s_iload X470 at_403 rfl rfl ?_
              refine Own.s_icmpF X470 at_405 (teq (show (0 : Int32) = (0 : Int32) by decide)).2 rfl ?_
              refine Own.s_iconst X470 at_408 (1 : Int32) (by decide) rfl ?_
              refine Own.s_goto X470 at_409 (by decide) (pc' := 413) (by decide) ?_
              exact Own.r_nar X470 rfl (Or.inl rfl) at_413 (by decide) (by decide) (by decide)
        · refine Own.s_icmpT X0 at_149 (feq hc149_335).2 (by decide) (pc' := 198) (by decide) ?_
          refine Own.s_new X0 at_198 (tw0 hw) (tw1 hw) (tw2 hw) (by decide) (by decide) rfl ?_
          intro b508 T508 h508 X508 V508 g508 E508 O508 D508
          have F508_coder : Fld Z h508 b508 "java/lang/String" "coder" "B" (.int 0) := D508 (Or.inr (tw27 hw)) (ty := .byte) (by decide)
          have F508_value : Fld Z h508 b508 "java/lang/String" "value" "[B" (.null) := D508 (Or.inr (tw29 hw)) (ty := (.array .byte)) (by decide)
          refine Own.s_dup X508 at_201 rfl rfl ?_
          refine Own.s_bipush X508 at_202 (7 : Int32) (by decide) rfl ?_
          refine Own.s_newarray X508 at_204 (tw3 hw) (by decide) 7 (by decide) (by decide) (by decide) (by decide) rfl ?_
          intro b509 T509 h509 k509 X509 V509 g509 A509 O509
          have B509 : Arv Z h509 b509 k509 .char (7 : Int32) [(.int (0 : Int32)), (.int (0 : Int32)), (.int (0 : Int32)), (.int (0 : Int32)), (.int (0 : Int32)), (.int (0 : Int32)), (.int (0 : Int32))] (.int (0 : Int32)) := A509.pad (pad_rep [] (.int (0 : Int32)) 7)
          refine Own.s_dup X509 at_206 rfl rfl ?_
          refine Own.s_iconst X509 at_207 (0 : Int32) (by decide) rfl ?_
          refine Own.s_iload X509 at_208 rfl rfl ?_
          refine Own.s_castoreR X509 at_210 B509 ⟨by decide, by decide⟩ 0 (by decide) (Nat.le_of_ble_eq_true rfl) (Own.nar_mask _) O509 rfl ?_
          intro T510 h510 X510 V510 A510
          have B510 : Arv Z h510 b509 k509 .char (7 : Int32) [(.int (p0 &&& (255 : Int32))), (.int (0 : Int32)), (.int (0 : Int32)), (.int (0 : Int32)), (.int (0 : Int32)), (.int (0 : Int32)), (.int (0 : Int32))] (.int (0 : Int32)) := A510
          refine Own.s_dup X510 at_211 rfl rfl ?_
          refine Own.s_iconst X510 at_212 (1 : Int32) (by decide) rfl ?_
          refine Own.s_iload X510 at_213 rfl rfl ?_
          have O512 := (O509.ev V510)
          refine Own.s_castoreR X510 at_215 B510 ⟨by decide, by decide⟩ 1 (by decide) (Nat.le_of_ble_eq_true rfl) (Own.nar_mask _) O512 rfl ?_
          intro T511 h511 X511 V511 A511
          have B511 : Arv Z h511 b509 k509 .char (7 : Int32) [(.int (p0 &&& (255 : Int32))), (.int ((XT.ushr p0 (8 : Int32)) &&& (255 : Int32))), (.int (0 : Int32)), (.int (0 : Int32)), (.int (0 : Int32)), (.int (0 : Int32)), (.int (0 : Int32))] (.int (0 : Int32)) := A511
          refine Own.s_dup X511 at_216 rfl rfl ?_
          refine Own.s_iconst X511 at_217 (2 : Int32) (by decide) rfl ?_
          refine Own.s_iload X511 at_218 rfl rfl ?_
          have O514 := (O512.ev V511)
          refine Own.s_castoreR X511 at_220 B511 ⟨by decide, by decide⟩ 2 (by decide) (Nat.le_of_ble_eq_true rfl) (Own.nar_mask _) O514 rfl ?_
          intro T513 h513 X513 V513 A513
          have B513 : Arv Z h513 b509 k509 .char (7 : Int32) [(.int (p0 &&& (255 : Int32))), (.int ((XT.ushr p0 (8 : Int32)) &&& (255 : Int32))), (.int ((XT.ushr p0 (16 : Int32)) &&& (255 : Int32))), (.int (0 : Int32)), (.int (0 : Int32)), (.int (0 : Int32)), (.int (0 : Int32))] (.int (0 : Int32)) := A513
          refine Own.s_dup X513 at_221 rfl rfl ?_
          refine Own.s_iconst X513 at_222 (3 : Int32) (by decide) rfl ?_
          refine Own.s_iload X513 at_223 rfl rfl ?_
          have O516 := (O514.ev V513)
          refine Own.s_castoreR X513 at_225 B513 ⟨by decide, by decide⟩ 3 (by decide) (Nat.le_of_ble_eq_true rfl) (Own.nar_mask _) O516 rfl ?_
          intro T515 h515 X515 V515 A515
          have B515 : Arv Z h515 b509 k509 .char (7 : Int32) [(.int (p0 &&& (255 : Int32))), (.int ((XT.ushr p0 (8 : Int32)) &&& (255 : Int32))), (.int ((XT.ushr p0 (16 : Int32)) &&& (255 : Int32))), (.int ((XT.ushr p0 (24 : Int32)) &&& (255 : Int32))), (.int (0 : Int32)), (.int (0 : Int32)), (.int (0 : Int32))] (.int (0 : Int32)) := A515
          refine Own.s_dup X515 at_226 rfl rfl ?_
          refine Own.s_iconst X515 at_227 (4 : Int32) (by decide) rfl ?_
          refine Own.s_iload X515 at_228 rfl rfl ?_
          have O518 := (O516.ev V515)
          refine Own.s_castoreR X515 at_230 B515 ⟨by decide, by decide⟩ 4 (by decide) (Nat.le_of_ble_eq_true rfl) (Own.nar_mask _) O518 rfl ?_
          intro T517 h517 X517 V517 A517
          have B517 : Arv Z h517 b509 k509 .char (7 : Int32) [(.int (p0 &&& (255 : Int32))), (.int ((XT.ushr p0 (8 : Int32)) &&& (255 : Int32))), (.int ((XT.ushr p0 (16 : Int32)) &&& (255 : Int32))), (.int ((XT.ushr p0 (24 : Int32)) &&& (255 : Int32))), (.int (p1 &&& (255 : Int32))), (.int (0 : Int32)), (.int (0 : Int32))] (.int (0 : Int32)) := A517
          refine Own.s_dup X517 at_231 rfl rfl ?_
          refine Own.s_iconst X517 at_232 (5 : Int32) (by decide) rfl ?_
          refine Own.s_iload X517 at_233 rfl rfl ?_
          have O520 := (O518.ev V517)
          refine Own.s_castoreR X517 at_235 B517 ⟨by decide, by decide⟩ 5 (by decide) (Nat.le_of_ble_eq_true rfl) (Own.nar_mask _) O520 rfl ?_
          intro T519 h519 X519 V519 A519
          have B519 : Arv Z h519 b509 k509 .char (7 : Int32) [(.int (p0 &&& (255 : Int32))), (.int ((XT.ushr p0 (8 : Int32)) &&& (255 : Int32))), (.int ((XT.ushr p0 (16 : Int32)) &&& (255 : Int32))), (.int ((XT.ushr p0 (24 : Int32)) &&& (255 : Int32))), (.int (p1 &&& (255 : Int32))), (.int ((XT.ushr p1 (8 : Int32)) &&& (255 : Int32))), (.int (0 : Int32))] (.int (0 : Int32)) := A519
          refine Own.s_dup X519 at_236 rfl rfl ?_
          refine Own.s_bipush X519 at_237 (6 : Int32) (by decide) rfl ?_
          refine Own.s_iload X519 at_239 rfl rfl ?_
          have O522 := (O520.ev V519)
          refine Own.s_castoreR X519 at_241 B519 ⟨by decide, by decide⟩ 6 (by decide) (Nat.le_of_ble_eq_true rfl) (Own.nar_mask _) O522 rfl ?_
          intro T521 h521 X521 V521 A521
          have B521 : Arv Z h521 b509 k509 .char (7 : Int32) [(.int (p0 &&& (255 : Int32))), (.int ((XT.ushr p0 (8 : Int32)) &&& (255 : Int32))), (.int ((XT.ushr p0 (16 : Int32)) &&& (255 : Int32))), (.int ((XT.ushr p0 (24 : Int32)) &&& (255 : Int32))), (.int (p1 &&& (255 : Int32))), (.int ((XT.ushr p1 (8 : Int32)) &&& (255 : Int32))), (.int ((XT.ushr p1 (16 : Int32)) &&& (255 : Int32)))] (.int (0 : Int32)) := A521
          have ex523 : Ext h0 h508 := Own.extK (Own.Ext.rfl' h0) V508.1 all0
          have ex524 : Ext h0 h509 := Own.extK ex523 V509.1 all0
          have le525 : h0.size ≤ h508.size := V508.1.1
          have ex526 : Ext h0 h510 := Own.extK ex524 V510.1 (allS (Nat.le_trans le525 g509) all0)
          have ex527 : Ext h0 h511 := Own.extK ex526 V511.1 (allS (Nat.le_trans le525 g509) all0)
          have ex528 : Ext h0 h513 := Own.extK ex527 V513.1 (allS (Nat.le_trans le525 g509) all0)
          have ex529 : Ext h0 h515 := Own.extK ex528 V515.1 (allS (Nat.le_trans le525 g509) all0)
          have ex530 : Ext h0 h517 := Own.extK ex529 V517.1 (allS (Nat.le_trans le525 g509) all0)
          have ex531 : Ext h0 h519 := Own.extK ex530 V519.1 (allS (Nat.le_trans le525 g509) all0)
          have ex532 : Ext h0 h521 := Own.extK ex531 V521.1 (allS (Nat.le_trans le525 g509) all0)
          have Z_533 := Sta.ext ex532 SC0
          have ex534 : Ext h508 h509 := Own.extK (Own.Ext.rfl' h508) V509.1 all0
          have ex535 : Ext h508 h510 := Own.extK ex534 V510.1 (allS g509 all0)
          have ex536 : Ext h508 h511 := Own.extK ex535 V511.1 (allS g509 all0)
          have ex537 : Ext h508 h513 := Own.extK ex536 V513.1 (allS g509 all0)
          have ex538 : Ext h508 h515 := Own.extK ex537 V515.1 (allS g509 all0)
          have ex539 : Ext h508 h517 := Own.extK ex538 V517.1 (allS g509 all0)
          have ex540 : Ext h508 h519 := Own.extK ex539 V519.1 (allS g509 all0)
          have ex541 : Ext h508 h521 := Own.extK ex540 V521.1 (allS g509 all0)
          have E_542 := Exa.ext ex541 E508
          have F_543 := Fld.ext ex541 F508_value
          have F_544 := Fld.ext ex541 F508_coder
          have O545 := ((((((((O508.ev V509).ev V510).ev V511).ev V513).ev V515).ev V517).ev V519).ev V521)
          have lat546 : ∀ c ∈ [(p0 &&& (255 : Int32)), ((XT.ushr p0 (8 : Int32)) &&& (255 : Int32)), ((XT.ushr p0 (16 : Int32)) &&& (255 : Int32)), ((XT.ushr p0 (24 : Int32)) &&& (255 : Int32)), (p1 &&& (255 : Int32)), ((XT.ushr p1 (8 : Int32)) &&& (255 : Int32)), ((XT.ushr p1 (16 : Int32)) &&& (255 : Int32))], Own.Lat c := (Own.latL (Own.lat_mask _) (Own.latL (Own.lat_mask _) (Own.latL (Own.lat_mask _) (Own.latL (Own.lat_mask _) (Own.latL (Own.lat_mask _) (Own.latL (Own.lat_mask _) (Own.latL (Own.lat_mask _) Own.latN)))))))
          refine Own.b_special X521 at_242 rfl (tw4 hw) (tw5 hw) (tw6 hw) (by decide) b508 [(.ref b509)] [(.ref b508)] (Own.strNew (W := 1) (cs := [(p0 &&& (255 : Int32)), ((XT.ushr p0 (8 : Int32)) &&& (255 : Int32)), ((XT.ushr p0 (16 : Int32)) &&& (255 : Int32)), ((XT.ushr p0 (24 : Int32)) &&& (255 : Int32)), (p1 &&& (255 : Int32)), ((XT.ushr p1 (8 : Int32)) &&& (255 : Int32)), ((XT.ushr p1 (16 : Int32)) &&& (255 : Int32))]) (n := 7) X521.hZ (wNew hw) (tw1 hw) O545.2.1 X521.hE.1 E_542 F_543 F_544 B521 Z_533 hzc rfl (by decide) (by decide) (by decide) lat546 (by decide) (by decide)) (fun v h' L q => Own.strNewQ (n := 7) rfl (by decide) (by decide) lat546 q) (Own.Ok.one O545) (lenOf pd_8 rfl) rfl (Nat.le_of_eq rfl) (by decide) (by decide) rfl rfl ?_
          intro v547 vm547 T547 h547 L547 X547 V547 Q547
          obtain ⟨rfl, S547⟩ := Q547
          refine Own.s_astore X547 at_245 rfl #[.val (.int p0), .val (.int p1), .val (.int p2), .val (.int p3), .val (.int (p0 &&& (255 : Int32))), .val (.int ((XT.ushr p0 (8 : Int32)) &&& (255 : Int32))), .val (.int ((XT.ushr p0 (16 : Int32)) &&& (255 : Int32))), .val (.int ((XT.ushr p0 (24 : Int32)) &&& (255 : Int32))), .val (.int (p1 &&& (255 : Int32))), .val (.int ((XT.ushr p1 (8 : Int32)) &&& (255 : Int32))), .val (.int ((XT.ushr p1 (16 : Int32)) &&& (255 : Int32))), .val (.int (p2 &&& (3 : Int32))), .val (.int (1 : Int32)), .val (.ref b508), .unset, .unset, .unset, .unset, .unset, .unset] rfl rfl ?_
          refine Own.s_iloadN X547 at_247 rfl rfl ?_
          refine Own.s_sipush X547 at_248 (255 : Int32) (by decide) rfl ?_
          refine Own.s_iand X547 at_251 rfl ?_
          refine Own.s_i2cM X547 at_252 rfl ?_
          refine Own.c_static X547 at_253 (tw30 hw) (tw31 hw) (tw2 hw) (tw32 hw) (by decide) [(.int (p3 &&& (255 : Int32)))] [] 0 (rm_valueOf hw (p3 &&& (255 : Int32)) (Own.lat_mask _) SC hzc SF hfm h547 X547.hE) (fun q => nomatch q) Own.Ok.nil (lenOf pd_5 rfl) rfl (Nat.le_of_eq rfl) (by decide) (by decide) (by decide) (by decide) rfl rfl ?_
          intro v548 vm548 T548 h548 L548 X548 V548 Q548
          obtain ⟨r548, rfl, g548, S548⟩ := Q548
          refine Own.s_astore X548 at_256 rfl #[.val (.int p0), .val (.int p1), .val (.int p2), .val (.int p3), .val (.int (p0 &&& (255 : Int32))), .val (.int ((XT.ushr p0 (8 : Int32)) &&& (255 : Int32))), .val (.int ((XT.ushr p0 (16 : Int32)) &&& (255 : Int32))), .val (.int ((XT.ushr p0 (24 : Int32)) &&& (255 : Int32))), .val (.int (p1 &&& (255 : Int32))), .val (.int ((XT.ushr p1 (8 : Int32)) &&& (255 : Int32))), .val (.int ((XT.ushr p1 (16 : Int32)) &&& (255 : Int32))), .val (.int (p2 &&& (3 : Int32))), .val (.int (1 : Int32)), .val (.ref b508), .val (.ref r548), .unset, .unset, .unset, .unset, .unset] rfl rfl ?_
          refine Own.s_iloadN X548 at_258 rfl rfl ?_
          refine Own.s_bipush X548 at_259 (8 : Int32) (by decide) rfl ?_
          refine Own.s_iushr X548 at_261 rfl ?_
          refine Own.s_sipush X548 at_262 (255 : Int32) (by decide) rfl ?_
          refine Own.s_iand X548 at_265 rfl ?_
          refine Own.s_i2cM X548 at_266 rfl ?_
          refine Own.c_static X548 at_267 (tw30 hw) (tw31 hw) (tw2 hw) (tw32 hw) (by decide) [(.int ((XT.ushr p3 (8 : Int32)) &&& (255 : Int32)))] [] 0 (rm_valueOf hw ((XT.ushr p3 (8 : Int32)) &&& (255 : Int32)) (Own.lat_mask _) SC hzc SF hfm h548 X548.hE) (fun q => nomatch q) Own.Ok.nil (lenOf pd_5 rfl) rfl (Nat.le_of_eq rfl) (by decide) (by decide) (by decide) (by decide) rfl rfl ?_
          intro v549 vm549 T549 h549 L549 X549 V549 Q549
          obtain ⟨r549, rfl, g549, S549⟩ := Q549
          refine Own.s_astore X549 at_270 rfl #[.val (.int p0), .val (.int p1), .val (.int p2), .val (.int p3), .val (.int (p0 &&& (255 : Int32))), .val (.int ((XT.ushr p0 (8 : Int32)) &&& (255 : Int32))), .val (.int ((XT.ushr p0 (16 : Int32)) &&& (255 : Int32))), .val (.int ((XT.ushr p0 (24 : Int32)) &&& (255 : Int32))), .val (.int (p1 &&& (255 : Int32))), .val (.int ((XT.ushr p1 (8 : Int32)) &&& (255 : Int32))), .val (.int ((XT.ushr p1 (16 : Int32)) &&& (255 : Int32))), .val (.int (p2 &&& (3 : Int32))), .val (.int (1 : Int32)), .val (.ref b508), .val (.ref r548), .val (.ref r549), .unset, .unset, .unset, .unset] rfl rfl ?_
          refine Own.s_new X549 at_272 (tw44 hw) (tw45 hw) (tw46 hw) (by decide) (by decide) rfl ?_
          intro b550 T550 h550 X550 V550 g550 E550 O550 D550
          have F550_id : Fld Z h550 b550 "com/example/carelane/carelane/registry/LegalEntity" "id" "Ljava/lang/String;" (.null) := D550 (Or.inr (tw57 hw)) (ty := (.object "java/lang/String")) (by decide)
          have F550_type : Fld Z h550 b550 "com/example/carelane/carelane/registry/LegalEntity" "type" "Ljava/lang/String;" (.null) := D550 (Or.inr (tw59 hw)) (ty := (.object "java/lang/String")) (by decide)
          have F550_status : Fld Z h550 b550 "com/example/carelane/carelane/registry/LegalEntity" "status" "Ljava/lang/String;" (.null) := D550 (Or.inr (tw61 hw)) (ty := (.object "java/lang/String")) (by decide)
          have F550_isActive : Fld Z h550 b550 "com/example/carelane/carelane/registry/LegalEntity" "isActive" "Z" (.int 0) := D550 (Or.inr (tw63 hw)) (ty := .boolean) (by decide)
          refine Own.s_dup X550 at_275 rfl rfl ?_
          refine Own.s_aload X550 at_276 rfl rfl rfl ?_
          refine Own.s_aload X550 at_278 rfl rfl rfl ?_
          refine Own.s_aload X550 at_280 rfl rfl rfl ?_
          refine Own.s_iload X550 at_282 rfl rfl ?_
          refine Own.c_special X550 at_284 rfl (tw47 hw) (tw48 hw) (tw46 hw) (tw49 hw) (by decide) b550 [(.ref r548), (.ref r549), (.ref b508), (.int (1 : Int32))] [(.ref b550)] 1 (rm_le1 hw b550 r548 r549 (.ref b508) rfl  h550 X550.hE O550.2.1 E550 F550_id F550_type F550_status F550_isActive ) (fun q => nomatch q) (Own.Ok.one O550) (lenOf pd_6 rfl) rfl (Nat.le_of_eq rfl) (by decide) (by decide) (by decide) (by decide) rfl rfl ?_
          intro v551 vm551 T551 h551 L551 X551 V551 Q551
          obtain ⟨rfl, E551, F551_0, F551_1, F551_2, F551_3⟩ := Q551
          refine Own.s_astore X551 at_287 rfl #[.val (.int p0), .val (.int p1), .val (.int p2), .val (.int p3), .val (.int (p0 &&& (255 : Int32))), .val (.int ((XT.ushr p0 (8 : Int32)) &&& (255 : Int32))), .val (.int ((XT.ushr p0 (16 : Int32)) &&& (255 : Int32))), .val (.int ((XT.ushr p0 (24 : Int32)) &&& (255 : Int32))), .val (.int (p1 &&& (255 : Int32))), .val (.int ((XT.ushr p1 (8 : Int32)) &&& (255 : Int32))), .val (.int ((XT.ushr p1 (16 : Int32)) &&& (255 : Int32))), .val (.int (p2 &&& (3 : Int32))), .val (.int (1 : Int32)), .val (.ref b508), .val (.ref r548), .val (.ref r549), .val (.ref b550), .unset, .unset, .unset] rfl rfl ?_
          refine Own.s_aload X551 at_289 rfl rfl rfl ?_
          have ex552 : Ext h547 h548 := Own.extK (Own.Ext.rfl' h547) V548.1 all0
          have ex553 : Ext h547 h549 := Own.extK ex552 V549.1 all0
          have ex554 : Ext h547 h550 := Own.extK ex553 V550.1 all0
          have le556 : h547.size ≤ h548.size := V548.1.1
          have le555 : h547.size ≤ h549.size := Nat.le_trans le556 V549.1.1
          have ex557 : Ext h547 h551 := Own.extK ex554 V551.1 (allS (Nat.le_trans le555 g550) all0)
          have S_558 := Own.Str.ext S547 ex557
          refine Own.c_virtual X551 at_291 (tw64 hw) (tw65 hw) (notFace_of_selects (args := #[]) (mvT X551.hZ (tw67 hw))) (tw67 hw) (tw66 hw) (tw46 hw) (tw68 hw) (by decide) b550 [] [] 0 E551 (rm_awS1 hw b550 b508 [(p0 &&& (255 : Int32)), ((XT.ushr p0 (8 : Int32)) &&& (255 : Int32)), ((XT.ushr p0 (16 : Int32)) &&& (255 : Int32)), ((XT.ushr p0 (24 : Int32)) &&& (255 : Int32)), (p1 &&& (255 : Int32)), ((XT.ushr p1 (8 : Int32)) &&& (255 : Int32)), ((XT.ushr p1 (16 : Int32)) &&& (255 : Int32))] SC hzc SF hfm h551 X551.hE E551 F551_2 F551_3 S_558) (fun _ => rfl) Own.Ok.nil (lenOf pd_7 rfl) rfl (Nat.le_of_eq rfl) (by decide) (by decide) (by decide) (by decide) rfl rfl ?_
          intro v559 vm559 T559 h559 L559 X559 V559 Q559
          rcases Q559 with Q559 | Q559
          · obtain ⟨rfl, hs559, hb559⟩ := Q559
            exact absurd (congrArg List.length hs559) (by simp)
          · obtain ⟨rfl, hs559⟩ := Q559
            refine Own.s_istore X559 at_294 #[.val (.int p0), .val (.int p1), .val (.int p2), .val (.int p3), .val (.int (p0 &&& (255 : Int32))), .val (.int ((XT.ushr p0 (8 : Int32)) &&& (255 : Int32))), .val (.int ((XT.ushr p0 (16 : Int32)) &&& (255 : Int32))), .val (.int ((XT.ushr p0 (24 : Int32)) &&& (255 : Int32))), .val (.int (p1 &&& (255 : Int32))), .val (.int ((XT.ushr p1 (8 : Int32)) &&& (255 : Int32))), .val (.int ((XT.ushr p1 (16 : Int32)) &&& (255 : Int32))), .val (.int (p2 &&& (3 : Int32))), .val (.int (1 : Int32)), .val (.ref b508), .val (.ref r548), .val (.ref r549), .val (.ref b550), .val (.int (0 : Int32)), .unset, .unset] rfl rfl ?_
            refine Own.s_aload X559 at_296 rfl rfl rfl ?_
            refine Own.s_ifnullF X559 at_298 rfl ?_
            refine Own.s_aload X559 at_301 rfl rfl rfl ?_
            have ex560 : Ext h551 h559 := Own.extK (Own.Ext.rfl' h551) V559.1 all0
            have S_561 := Own.Str.ext S_558 ex560
            have ex562 : Ext h0 h547 := Own.extK ex532 V547.1 (allS g508 all0)
            have ex563 : Ext h0 h548 := Own.extK ex562 V548.1 all0
            have ex564 : Ext h0 h549 := Own.extK ex563 V549.1 all0
            have ex565 : Ext h0 h550 := Own.extK ex564 V550.1 all0
            have le576 : h0.size ≤ h509.size := Nat.le_trans le525 V509.1.1
            have le575 : h0.size ≤ h510.size := Nat.le_trans le576 V510.1.1
            have le574 : h0.size ≤ h511.size := Nat.le_trans le575 V511.1.1
            have le573 : h0.size ≤ h513.size := Nat.le_trans le574 V513.1.1
            have le572 : h0.size ≤ h515.size := Nat.le_trans le573 V515.1.1
            have le571 : h0.size ≤ h517.size := Nat.le_trans le572 V517.1.1
            have le570 : h0.size ≤ h519.size := Nat.le_trans le571 V519.1.1
            have le569 : h0.size ≤ h521.size := Nat.le_trans le570 V521.1.1
            have le568 : h0.size ≤ h547.size := Nat.le_trans le569 V547.1.1
            have le567 : h0.size ≤ h548.size := Nat.le_trans le568 V548.1.1
            have le566 : h0.size ≤ h549.size := Nat.le_trans le567 V549.1.1
            have ex577 : Ext h0 h551 := Own.extK ex565 V551.1 (allS (Nat.le_trans le566 g550) all0)
            have ex578 : Ext h0 h559 := Own.extK ex577 V559.1 all0
            have Z_579 := Sta.ext ex578 SC0
            have ex581 : Ext h547 h559 := Own.extK ex557 V559.1 all0
            have E_582 := Exa.ext ex581 S547.exa
            refine Own.b_virtual X559 at_303 (tw80 hw) (tw81 hw) (notFace_of_selects (args := #[]) (mvT X559.hZ (tw83 hw))) (tw83 hw) (tw82 hw) (by decide) b508 [] [] E_582 (Own.strLen (W := 0) X559.hZ (wLen hw) (tw1 hw) S_561 Z_579 hzc (by decide) (by decide)) (fun v h' L q => Own.strLenQ (N := (7 : Int32)) rfl q) Own.Ok.nil (lenOf pd_9 rfl) rfl (Nat.le_of_eq rfl) (by decide) (by decide) rfl rfl ?_
            intro v580 vm580 T580 h580 L580 X580 V580 Q580
            obtain rfl := Q580
            refine Own.s_bipush X580 at_306 (6 : Int32) (by decide) rfl ?_
            refine Own.s_icmpT X580 at_308 (feq (show ¬ (7 : Int32) = (6 : Int32) by decide)).2 (by decide) (pc' := 381) (by decide) ?_
            refine Own.s_iconst X580 at_381 (0 : Int32) (by decide) rfl ?_
            refine Own.s_istore X580 at_382 #[.val (.int p0), .val (.int p1), .val (.int p2), .val (.int p3), .val (.int (p0 &&& (255 : Int32))), .val (.int ((XT.ushr p0 (8 : Int32)) &&& (255 : Int32))), .val (.int ((XT.ushr p0 (16 : Int32)) &&& (255 : Int32))), .val (.int ((XT.ushr p0 (24 : Int32)) &&& (255 : Int32))), .val (.int (p1 &&& (255 : Int32))), .val (.int ((XT.ushr p1 (8 : Int32)) &&& (255 : Int32))), .val (.int ((XT.ushr p1 (16 : Int32)) &&& (255 : Int32))), .val (.int (p2 &&& (3 : Int32))), .val (.int (1 : Int32)), .val (.ref b508), .val (.ref r548), .val (.ref r549), .val (.ref b550), .val (.int (0 : Int32)), .val (.int (0 : Int32)), .unset] rfl rfl ?_
            refine Own.s_iload X580 at_384 rfl rfl ?_
            refine Own.s_ifT X580 at_386 ((if0 _ _).trans (teq (show (0 : Int32) = (0 : Int32) by decide)).1) (by decide) (pc' := 398) (by decide) ?_
            refine Own.s_iconst X580 at_398 (0 : Int32) (by decide) rfl ?_
            refine Own.s_istore X580 at_399 #[.val (.int p0), .val (.int p1), .val (.int p2), .val (.int p3), .val (.int (p0 &&& (255 : Int32))), .val (.int ((XT.ushr p0 (8 : Int32)) &&& (255 : Int32))), .val (.int ((XT.ushr p0 (16 : Int32)) &&& (255 : Int32))), .val (.int ((XT.ushr p0 (24 : Int32)) &&& (255 : Int32))), .val (.int (p1 &&& (255 : Int32))), .val (.int ((XT.ushr p1 (8 : Int32)) &&& (255 : Int32))), .val (.int ((XT.ushr p1 (16 : Int32)) &&& (255 : Int32))), .val (.int (p2 &&& (3 : Int32))), .val (.int (1 : Int32)), .val (.ref b508), .val (.ref r548), .val (.ref r549), .val (.ref b550), .val (.int (0 : Int32)), .val (.int (0 : Int32)), .val (.int (0 : Int32))] rfl rfl ?_
            refine Own.s_iload X580 at_401 rfl rfl ?_
            refine Own.s_iload X580 at_403 rfl rfl ?_
            refine Own.s_icmpF X580 at_405 (teq (show (0 : Int32) = (0 : Int32) by decide)).2 rfl ?_
            refine Own.s_iconst X580 at_408 (1 : Int32) (by decide) rfl ?_
            refine Own.s_goto X580 at_409 (by decide) (pc' := 413) (by decide) ?_
            exact Own.r_nar X580 rfl (Or.inl rfl) at_413 (by decide) (by decide) (by decide)
set_option maxRecDepth 65536 in
set_option maxHeartbeats 40000000 in
theorem comes_1 {Post : Tables → Env → Array Value → State → Outcome → State → Prop} (hpost : ∀ tb e args s v u, (limb_1_1.after args s (.returned v) u = true ∧ limb_1_2.after args s (.returned v) u = true ∧ True) → ReturnedEndW s (.returned v) u (Jvm.fieldLocs frame_1_writes args s ++ Jvm.arrayLocs frame_1_arrays args s ++ Jvm.staticLocs frame_1_statics s) 32 1216 → Post tb e args s (.returned v) u) :
    ArmFor flags0 classFile x code maxLocals ret World_1 tables_1 room_1 Calls_1 rest_1 Pre_1 Post := by
  intro l hfl _ _ p e ha hc hk s m args below hf hA hF happ hP
  obtain ⟨hcalls, hrest, hpre⟩ := hP
  obtain ⟨-, -, -, hnamed, -, -, -, hat⟩ := (Spec.applies_iff hf).mp happ
  obtain ⟨hg, hn⟩ := and_e (Cond.before_iff.mp (show (Jvm.Cond.and given_1 narrow_1).before args s = true from hpre))
  obtain ⟨hcount, r0⟩ := and_e hg
  obtain ⟨q0, r1⟩ := and_e r0
  obtain ⟨q1, r2⟩ := and_e r1
  obtain ⟨q2, r3⟩ := and_e r2
  have q3 := r3
  obtain ⟨w0, w1, w2, w3, rfl⟩ : ∃ w0 w1 w2 w3 : Value, args = #[w0, w1, w2, w3] := by
    have hs : args.size = 4 := by simpa [Cond.value, given_1] using hcount
    obtain ⟨L⟩ := args
    match L, hs with
    | [w0, w1, w2, w3], _ => exact ⟨w0, w1, w2, w3, rfl⟩
  have hw := fun d (hd : d ∈ tables_1) => atoms_spec (ws := Jvm.Cond.code x code maxLocals ret :: tables_1) hat d (List.mem_cons_of_mem _ hd)
  obtain ⟨hsets, hown0⟩ := atoms_of _ (rest_1_c_eq ▸ (show rest_1_c.before _ s = true from hrest))
  obtain ⟨i0, e0⟩ := is_v q0
  obtain rfl : w0 = (.int i0) := Option.some.inj e0
  obtain ⟨i1, e1⟩ := is_v q1
  obtain rfl : w1 = (.int i1) := Option.some.inj e1
  obtain ⟨i2, e2⟩ := is_v q2
  obtain rfl : w2 = (.int i2) := Option.some.inj e2
  obtain ⟨i3, e3⟩ := is_v q3
  obtain rfl : w3 = (.int i3) := Option.some.inj e3
  have nC := not_v (Cond.before_iff.mp (hsets _ (List.mem_of_getElem? (i := 2) rfl)))
  obtain ⟨zc, eC⟩ := is_v (Cond.before_iff.mp (hsets _ (List.mem_of_getElem? (i := 1) rfl)))
  have SC : Sta s s.heap "java/lang/String" "COMPACT_STRINGS" "Z" (.int zc) := Sta.start eC (Or.inl (hsets _ (List.mem_of_getElem? (i := 0) rfl)))
  have hzc : ¬ (zc = (0 : Int32)) := gotF (Cond.eq_ints eC (Term.int_eval (0))) nC
  obtain ⟨fm, eF, hfm⟩ := isR_v (Cond.before_iff.mp (hsets _ (List.mem_of_getElem? (i := 8) rfl)))
  have SF : Sta s s.heap "jdk/internal/util/Preconditions" "SIOOBE_FORMATTER" "Ljava/util/function/BiFunction;" fm := Sta.start eF (Or.inl (hsets _ (List.mem_of_getElem? (i := 7) rfl)))
  have hCH : CHv s EL s.vm s.heap := CHv.start (ewEL hw) (fun p hp => hcalls.1 p hp) (a0 := _) (hsets _ (List.mem_of_getElem? (i := 2) rfl)) (tw19 hw) (tw1 hw)
  obtain ⟨n, o, g1, g2, g3, v, rfl, L, ⟨N, -, rfl⟩, -, hRW, hFE⟩ := rm_law hw i0 i1 i2 i3 SC hzc SF hfm s.heap (Own.Ext.rfl' _) tables_1 p e ha hc hk s m _ below hf ((Spec.applies_iff_loose hf).mp happ).1 ⟨rfl, State.Warmed39.refl s, rfl, fun _ => ⟨hCH, fun _ q => nomatch q⟩⟩ trivial
  have hq := hRW
  refine ⟨n, _, g1, g2, g3, hpost _ _ _ _ _ _ ⟨Cond.after_iff.mpr rfl, Cond.after_iff.mpr (eq_i res_at (Term.int_eval (1)) rfl), trivial⟩ ⟨hq.1, hq.2.1, hq.2.2.1, (hq.2.2.2.sift fun y hy => Or.inr (N y hy)).mono (by decide) (by decide)⟩⟩
theorem main_1_1 : Claimed_1_1 := comes_1 fun _ _ _ _ _ _ h hF => ⟨h.1, hF⟩
theorem main_1_2 : Claimed_1_2 := comes_1 fun _ _ _ _ _ _ h hF => ⟨h.2.1, hF⟩
end Jvm.Pilot.@@N@@
namespace Jvm.Pilot.@@N@@
open Jvm Jvm.ClassFile Sem Op Lib Jvm.Free Jvm.Stand Jvm.Pilot.@@N@@.Jvm.D
/-! MADE BY PROGRAM (witnessworld.py) out of the Statement's table words and the real class files: 21 classes; the members and pool entries that the words name. The judged class is class 1, her method 1. -/
namespace start1
open Jvm.ClassFile
def u (s : String) : CpInfo := .utf8 (stringToUtf16 s)
/-- a pool by its gaps: so many unusable entries, then the entry; so many at the end -/
def gap : Nat → List CpInfo → List CpInfo
  | 0, r => r
  | n + 1, r => .unusable :: gap n r
def poolList (es : List (Nat × CpInfo)) (last : Nat) : List CpInfo := es.foldr (fun e r => gap e.1 (e.2 :: r)) (gap last [])
def pool (es : List (Nat × CpInfo)) (last : Nat) : Array CpInfo := ⟨poolList es last⟩
def fileOf (pool : Array CpInfo) (this : Nat) (attrs : Array Attribute := #[]) (ms : Array MethodInfo := #[]) (fl : Nat := 33) (sup : Nat := 0) (ifs : Array Nat := #[]) (fds : Array FieldInfo := #[]) : ClassFile where
  minorVersion := 0
  majorVersion := 65
  constantPool := pool
  accessFlags := fl
  thisClass := this
  superClass := sup
  interfaces := ifs
  fields := fds
  methods := ms
  attributes := attrs
def plain (name : String) (sup : Option ClassId) : Class where
  name := name
  kind := .ordinary
  loader := none
  accessFlags := 33
  super := sup
  interfaces := #[]
  cf := none
  fields := #[]
  methods := #[]
  instanceTypes := #[]
  staticTypes := #[]
  resolved := #[]
  callSites := []
  init := .initialized
  statics := none
  mirror := none

def pool0 : Array CpInfo := pool [(5, u "<init>"), (0, u "()V"), (1, .class_ 10), (1, u "java/lang/Object")] 113

def k0c0 : Code := { maxStack := 0, maxLocals := 1, code := object_method_1_code, exceptionTable := #[], attributes := #[] }
def k0m0 : Method := { name := "<init>", desc := "()V", sig := { parameters := [], returnType := none }, accessFlags := 1, code := some k0c0 }
/-- java/lang/Object -/
def k0 : Class := { plain "java/lang/Object" none with
  accessFlags := 33
  interfaces := #[]
  cf := some (fileOf pool0 8 #[] #[{ accessFlags := 1, nameIndex := 5, descriptorIndex := 6, attributes := #[] }] 33 0 #[] #[])
  fields := #[]
  methods := #[k0m0]
  instanceTypes := #[]
  staticTypes := #[]
  resolved := Array.replicate 124 none
  statics := none }

def pool1 : Array CpInfo := pool [(2, .class_ 4), (1, u "java/lang/Object"), (0, u "<init>"), (0, u "()V"), (0, .class_ 8), (0, u "java/lang/String"), (0, .methodref 7 10), (0, .nameAndType 5 11), (0, u "([C)V"), (0, .methodref 7 13), (0, .nameAndType 14 15), (0, u "valueOf"), (0, u "(C)Ljava/lang/String;"), (0, .class_ 17), (0, u "com/example/carelane/carelane/registry/LegalEntity"), (0, .methodref 16 19), (0, .nameAndType 5 20), (0, u "(Ljava/lang/String;Ljava/lang/String;Ljava/lang/String;Z)V"), (0, .methodref 16 22), (0, .nameAndType 23 24), (0, u "isAtWork"), (0, u "()Z"), (0, .methodref 7 26), (0, .nameAndType 27 28), (0, u "length"), (0, u "()I"), (0, .methodref 7 30), (0, .nameAndType 31 32), (0, u "charAt"), (0, u "(I)C"), (0, .class_ 34), (0, u "com/example/carelane/carelane/registry/LegalEntityIsAtWorkPinLaw"), (2, u "law"), (0, u "(IIII)Z")] 3

def k1m0 : Method := { name := "<init>", desc := "()V", sig := { parameters := [], returnType := none }, accessFlags := 1, code := none }
def k1c1 : Code := { maxStack := 6, maxLocals := 20, code := code, exceptionTable := #[], attributes := #[] }
def k1m1 : Method := { name := "law", desc := "(IIII)Z", sig := { parameters := [.int, .int, .int, .int], returnType := some .boolean }, accessFlags := 9, code := some k1c1 }
/-- com/example/carelane/carelane/registry/LegalEntityIsAtWorkPinLaw -/
def k1 : Class := { plain "com/example/carelane/carelane/registry/LegalEntityIsAtWorkPinLaw" (some 0) with
  accessFlags := 49
  interfaces := #[]
  cf := some (fileOf pool1 33 #[] #[{ accessFlags := 1, nameIndex := 5, descriptorIndex := 6, attributes := #[] }, { accessFlags := 9, nameIndex := 37, descriptorIndex := 38, attributes := #[] }] 49 2 #[] #[])
  fields := #[]
  methods := #[k1m0, k1m1]
  instanceTypes := #[]
  staticTypes := #[]
  resolved := Array.replicate 42 none
  statics := none }

def pool2 : Array CpInfo := pool [(1, .class_ 2), (0, u "java/io/Serializable"), (0, .class_ 4), (0, u "java/lang/Object")] 2

/-- java/io/Serializable -/
def k2 : Class := { plain "java/io/Serializable" (some 0) with
  accessFlags := 1537
  interfaces := #[]
  cf := some (fileOf pool2 1 #[] #[] 1537 3 #[] #[])
  fields := #[]
  methods := #[]
  instanceTypes := #[]
  staticTypes := #[]
  resolved := Array.replicate 7 none
  statics := none }

def pool3 : Array CpInfo := pool [(1, .class_ 2), (0, u "java/lang/Comparable"), (0, .class_ 4), (0, u "java/lang/Object")] 7

/-- java/lang/Comparable -/
def k3 : Class := { plain "java/lang/Comparable" (some 0) with
  accessFlags := 1537
  interfaces := #[]
  cf := some (fileOf pool3 1 #[] #[] 1537 3 #[] #[])
  fields := #[]
  methods := #[]
  instanceTypes := #[]
  staticTypes := #[]
  resolved := Array.replicate 12 none
  statics := none }

def pool4 : Array CpInfo := pool [(2, .class_ 4), (1, u "java/lang/CharSequence"), (42, .class_ 48), (0, u "java/lang/CharSequence$1CodePointIterator"), (10, .class_ 60), (0, u "java/lang/CharSequence$1CharIterator"), (5, .class_ 67), (0, u "java/lang/Object")] 63

/-- java/lang/CharSequence -/
def k4 : Class := { plain "java/lang/CharSequence" (some 0) with
  accessFlags := 1537
  interfaces := #[]
  cf := some (fileOf pool4 2 #[.nestMembers #[47, 59]] #[] 1537 66 #[] #[])
  fields := #[]
  methods := #[]
  instanceTypes := #[]
  staticTypes := #[]
  resolved := Array.replicate 131 none
  statics := none }

def pool5 : Array CpInfo := pool [(1, .class_ 2), (0, u "java/lang/constant/Constable"), (0, .class_ 4), (0, u "java/lang/Object")] 6

/-- java/lang/constant/Constable -/
def k5 : Class := { plain "java/lang/constant/Constable" (some 0) with
  accessFlags := 1537
  interfaces := #[]
  cf := some (fileOf pool5 1 #[] #[] 1537 3 #[] #[])
  fields := #[]
  methods := #[]
  instanceTypes := #[]
  staticTypes := #[]
  resolved := Array.replicate 11 none
  statics := none }

def pool6 : Array CpInfo := pool [(1, .class_ 2), (0, u "java/lang/constant/ConstantDesc"), (0, .class_ 4), (0, u "java/lang/Object")] 32

/-- java/lang/constant/ConstantDesc -/
def k6 : Class := { plain "java/lang/constant/ConstantDesc" (some 0) with
  accessFlags := 1537
  interfaces := #[]
  cf := some (fileOf pool6 1 #[] #[] 1537 3 #[] #[])
  fields := #[]
  methods := #[]
  instanceTypes := #[]
  staticTypes := #[]
  resolved := Array.replicate 37 none
  statics := none }

def pool7 : Array CpInfo := pool [(1, .methodref 2 3), (0, .class_ 4), (0, .nameAndType 5 6), (0, u "java/lang/Object"), (0, u "<init>"), (0, u "()V"), (2, .fieldref 10 11), (0, .class_ 12), (0, .nameAndType 13 14), (0, u "java/lang/String"), (0, u "value"), (0, u "[B"), (0, .fieldref 10 16), (0, .nameAndType 17 18), (0, u "coder"), (0, u "B"), (2, u "hash"), (0, u "I"), (2, u "hashIsZero"), (0, u "Z"), (0, .methodref 10 28), (0, .nameAndType 5 29), (0, u "([CIILjava/lang/Void;)V"), (8, .fieldref 10 39), (0, .nameAndType 40 26), (0, u "COMPACT_STRINGS"), (1, .class_ 44), (1, u "java/lang/StringUTF16"), (0, u "compress"), (1, .methodref 42 48), (0, .nameAndType 49 50), (0, u "coderFromArrayLen"), (0, u "([BI)B"), (2, u "toBytes"), (53, .class_ 109), (1, u "java/lang/StringLatin1"), (32, u "()Z"), (34, .methodref 42 178), (0, .nameAndType 45 179), (0, u "([CII)[B"), (29, .methodref 10 210), (0, .nameAndType 5 211), (0, u "([BB)V"), (122, u "()I"), (0, .methodref 10 336), (0, .nameAndType 17 337), (0, u "()B"), (25, u "([BI)C"), (5, u "(C)Z"), (21, u "(II)V"), (35, u "(I)C"), (64, .methodref 10 493), (0, .nameAndType 494 142), (0, u "isLatin1"), (0, .methodref 107 496), (0, .nameAndType 497 363), (0, u "charAt"), (3, u "checkIndex"), (5, u "length"), (33, .methodref 107 542), (0, .nameAndType 543 544), (0, u "equals"), (0, u "([B[B)Z"), (28, u "(Ljava/lang/Object;)Z"), (1, .class_ 576), (0, u "java/lang/CharSequence"), (22, u "CASE_INSENSITIVE_ORDER"), (0, u "Ljava/util/Comparator;"), (181, u "valueOf"), (0, u "(C)Ljava/lang/String;"), (226, u "([C)V"), (4, .methodref 107 1016), (0, .nameAndType 1017 369), (0, u "canEncode"), (0, .methodref 107 1019), (0, .nameAndType 53 1020), (0, u "(C)[B"), (32, .fieldref 1054 1055), (0, .class_ 1056), (0, .nameAndType 1057 1058), (0, u "jdk/internal/util/Preconditions"), (0, u "SIOOBE_FORMATTER"), (0, u "Ljava/util/function/BiFunction;"), (0, .methodref 1054 1060), (0, .nameAndType 501 1061), (0, u "(IILjava/util/function/BiFunction;)I"), (39, u "serialPersistentFields"), (0, u "[Ljava/io/ObjectStreamField;"), (0, .class_ 1104), (0, u "java/lang/String$CaseInsensitiveComparator"), (1, .class_ 1107), (0, u "java/io/Serializable"), (0, .class_ 1109), (0, u "java/lang/Comparable"), (0, .class_ 1111), (0, u "java/lang/constant/Constable"), (0, .class_ 1113), (0, u "java/lang/constant/ConstantDesc"), (2, u "serialVersionUID"), (0, u "J"), (3, u "REPL"), (0, u "C"), (2, u "LATIN1"), (1, u "UTF16")] 323

def k7m0 : Method := { name := "<init>", desc := "()V", sig := { parameters := [], returnType := none }, accessFlags := 1, code := none }
def k7c1 : Code := { maxStack := 5, maxLocals := 2, code := jdk_42_method_3_code, exceptionTable := #[], attributes := #[] }
def k7m1 : Method := { name := "<init>", desc := "([C)V", sig := { parameters := [(.array .char)], returnType := none }, accessFlags := 1, code := some k7c1 }
def k7c2 : Code := { maxStack := 2, maxLocals := 1, code := jdk_42_method_54_code, exceptionTable := #[], attributes := #[] }
def k7m2 : Method := { name := "length", desc := "()I", sig := { parameters := [], returnType := some .int }, accessFlags := 1, code := some k7c2 }
def k7c3 : Code := { maxStack := 2, maxLocals := 2, code := jdk_42_method_56_code, exceptionTable := #[], attributes := #[] }
def k7m3 : Method := { name := "charAt", desc := "(I)C", sig := { parameters := [.int], returnType := some .char }, accessFlags := 1, code := some k7c3 }
def k7c4 : Code := { maxStack := 2, maxLocals := 3, code := jdk_42_method_66_code, exceptionTable := #[], attributes := #[] }
def k7m4 : Method := { name := "equals", desc := "(Ljava/lang/Object;)Z", sig := { parameters := [(.object "java/lang/Object")], returnType := some .boolean }, accessFlags := 1, code := some k7c4 }
def k7c5 : Code := { maxStack := 4, maxLocals := 1, code := jdk_42_method_139_code, exceptionTable := #[], attributes := #[] }
def k7m5 : Method := { name := "valueOf", desc := "(C)Ljava/lang/String;", sig := { parameters := [.char], returnType := some (.object "java/lang/String") }, accessFlags := 9, code := some k7c5 }
def k7c6 : Code := { maxStack := 4, maxLocals := 6, code := jdk_42_method_149_code, exceptionTable := #[], attributes := #[] }
def k7m6 : Method := { name := "<init>", desc := "([CIILjava/lang/Void;)V", sig := { parameters := [(.array .char), .int, .int, (.object "java/lang/Void")], returnType := none }, accessFlags := 2, code := some k7c6 }
def k7c7 : Code := { maxStack := 2, maxLocals := 3, code := jdk_42_method_151_code, exceptionTable := #[], attributes := #[] }
def k7m7 : Method := { name := "<init>", desc := "([BB)V", sig := { parameters := [(.array .byte), .byte], returnType := none }, accessFlags := 0, code := some k7c7 }
def k7c8 : Code := { maxStack := 1, maxLocals := 1, code := jdk_42_method_152_code, exceptionTable := #[], attributes := #[] }
def k7m8 : Method := { name := "coder", desc := "()B", sig := { parameters := [], returnType := some .byte }, accessFlags := 0, code := some k7c8 }
def k7c9 : Code := { maxStack := 1, maxLocals := 1, code := jdk_42_method_154_code, exceptionTable := #[], attributes := #[] }
def k7m9 : Method := { name := "isLatin1", desc := "()Z", sig := { parameters := [], returnType := some .boolean }, accessFlags := 0, code := some k7c9 }
def k7c10 : Code := { maxStack := 3, maxLocals := 2, code := jdk_42_method_155_code, exceptionTable := #[], attributes := #[] }
def k7m10 : Method := { name := "checkIndex", desc := "(II)V", sig := { parameters := [.int, .int], returnType := none }, accessFlags := 8, code := some k7c10 }
/-- java/lang/String -/
def k7 : Class := { plain "java/lang/String" (some 0) with
  accessFlags := 49
  interfaces := #[2, 3, 4, 5, 6]
  cf := some (fileOf pool7 10 #[.nestMembers #[1103]] #[{ accessFlags := 1, nameIndex := 5, descriptorIndex := 6, attributes := #[] }, { accessFlags := 1, nameIndex := 5, descriptorIndex := 1010, attributes := #[] }, { accessFlags := 1, nameIndex := 507, descriptorIndex := 334, attributes := #[] }, { accessFlags := 1, nameIndex := 497, descriptorIndex := 427, attributes := #[] }, { accessFlags := 1, nameIndex := 543, descriptorIndex := 573, attributes := #[] }, { accessFlags := 9, nameIndex := 782, descriptorIndex := 783, attributes := #[] }, { accessFlags := 2, nameIndex := 5, descriptorIndex := 29, attributes := #[] }, { accessFlags := 0, nameIndex := 5, descriptorIndex := 211, attributes := #[] }, { accessFlags := 0, nameIndex := 17, descriptorIndex := 337, attributes := #[] }, { accessFlags := 0, nameIndex := 494, descriptorIndex := 142, attributes := #[] }, { accessFlags := 8, nameIndex := 501, descriptorIndex := 391, attributes := #[] }] 49 2 #[1106, 1108, 575, 1110, 1112] #[{ accessFlags := 18, nameIndex := 13, descriptorIndex := 14, attributes := #[] }, { accessFlags := 18, nameIndex := 17, descriptorIndex := 18, attributes := #[] }, { accessFlags := 2, nameIndex := 21, descriptorIndex := 22, attributes := #[] }, { accessFlags := 2, nameIndex := 25, descriptorIndex := 26, attributes := #[] }, { accessFlags := 26, nameIndex := 1116, descriptorIndex := 1117, attributes := #[] }, { accessFlags := 24, nameIndex := 40, descriptorIndex := 26, attributes := #[] }, { accessFlags := 26, nameIndex := 1101, descriptorIndex := 1102, attributes := #[] }, { accessFlags := 26, nameIndex := 1121, descriptorIndex := 1122, attributes := #[] }, { accessFlags := 25, nameIndex := 599, descriptorIndex := 600, attributes := #[] }, { accessFlags := 24, nameIndex := 1125, descriptorIndex := 18, attributes := #[] }, { accessFlags := 24, nameIndex := 1127, descriptorIndex := 18, attributes := #[] }])
  fields := #[{ name := "value", type := (.array .byte), accessFlags := 18, slot := 0, constantValue := 0 }, { name := "coder", type := .byte, accessFlags := 18, slot := 1, constantValue := 0 }, { name := "hash", type := .int, accessFlags := 2, slot := 2, constantValue := 0 }, { name := "hashIsZero", type := .boolean, accessFlags := 2, slot := 3, constantValue := 0 }, { name := "serialVersionUID", type := .long, accessFlags := 26, slot := 0, constantValue := 0 }, { name := "COMPACT_STRINGS", type := .boolean, accessFlags := 24, slot := 1, constantValue := 0 }, { name := "serialPersistentFields", type := (.array (.object "java/io/ObjectStreamField")), accessFlags := 26, slot := 2, constantValue := 0 }, { name := "REPL", type := .char, accessFlags := 26, slot := 3, constantValue := 0 }, { name := "CASE_INSENSITIVE_ORDER", type := (.object "java/util/Comparator"), accessFlags := 25, slot := 4, constantValue := 0 }, { name := "LATIN1", type := .byte, accessFlags := 24, slot := 5, constantValue := 0 }, { name := "UTF16", type := .byte, accessFlags := 24, slot := 6, constantValue := 0 }]
  methods := #[k7m0, k7m1, k7m2, k7m3, k7m4, k7m5, k7m6, k7m7, k7m8, k7m9, k7m10]
  instanceTypes := #[(.array .byte), .byte, .int, .boolean]
  staticTypes := #[.long, .boolean, (.array (.object "java/io/ObjectStreamField")), .char, (.object "java/util/Comparator"), .byte, .byte]
  resolved := Array.replicate 1451 none
  statics := some 0 }

def pool8 : Array CpInfo := pool [(6, .class_ 8), (1, u "java/lang/Object"), (0, u "<init>"), (0, u "()V"), (1, .class_ 14), (1, u "java/lang/StringUTF16"), (31, u "$assertionsDisabled"), (0, u "Z"), (13, u "HI_BYTE_SHIFT"), (0, u "I"), (2, u "LO_BYTE_SHIFT"), (49, .methodref 12 116), (0, .nameAndType 117 118), (0, u "compress"), (0, u "([CI[BII)I"), (3, u "([CII)[B"), (138, u "coderFromArrayLen"), (0, u "([BI)B"), (106, .class_ 371), (1, u "java/lang/StringUTF16$LinesSpliterator"), (58, u "MAX_LENGTH"), (196, .class_ 628), (0, u "java/lang/StringUTF16$CodePointsSpliterator"), (0, .class_ 630), (0, u "java/lang/StringUTF16$CharsSpliterator")] 4

def k8m0 : Method := { name := "<init>", desc := "()V", sig := { parameters := [], returnType := none }, accessFlags := 0, code := none }
def k8c1 : Code := { maxStack := 2, maxLocals := 2, code := jdk_52_method_15_code, exceptionTable := #[], attributes := #[] }
def k8m1 : Method := { name := "coderFromArrayLen", desc := "([BI)B", sig := { parameters := [(.array .byte), .int], returnType := some .byte }, accessFlags := 8, code := some k8c1 }
def k8c2 : Code := { maxStack := 5, maxLocals := 6, code := jdk_52_method_16_code, exceptionTable := #[], attributes := #[] }
def k8m2 : Method := { name := "compress", desc := "([CII)[B", sig := { parameters := [(.array .char), .int, .int], returnType := some (.array .byte) }, accessFlags := 9, code := some k8c2 }
def k8c3 : Code := { maxStack := 3, maxLocals := 7, code := jdk_52_method_21_code, exceptionTable := #[], attributes := #[] }
def k8m3 : Method := { name := "compress", desc := "([CI[BII)I", sig := { parameters := [(.array .char), .int, (.array .byte), .int, .int], returnType := some .int }, accessFlags := 9, code := some k8c3 }
/-- java/lang/StringUTF16 -/
def k8 : Class := { plain "java/lang/StringUTF16" (some 0) with
  accessFlags := 48
  interfaces := #[]
  cf := some (fileOf pool8 12 #[.nestMembers #[627, 629, 369]] #[{ accessFlags := 0, nameIndex := 9, descriptorIndex := 10, attributes := #[] }, { accessFlags := 8, nameIndex := 261, descriptorIndex := 262, attributes := #[] }, { accessFlags := 9, nameIndex := 117, descriptorIndex := 122, attributes := #[] }, { accessFlags := 9, nameIndex := 117, descriptorIndex := 118, attributes := #[] }] 48 6 #[] #[{ accessFlags := 26, nameIndex := 61, descriptorIndex := 62, attributes := #[] }, { accessFlags := 26, nameIndex := 65, descriptorIndex := 62, attributes := #[] }, { accessFlags := 24, nameIndex := 430, descriptorIndex := 62, attributes := #[] }, { accessFlags := 4120, nameIndex := 46, descriptorIndex := 47, attributes := #[] }])
  fields := #[{ name := "HI_BYTE_SHIFT", type := .int, accessFlags := 26, slot := 0, constantValue := 0 }, { name := "LO_BYTE_SHIFT", type := .int, accessFlags := 26, slot := 1, constantValue := 0 }, { name := "MAX_LENGTH", type := .int, accessFlags := 24, slot := 2, constantValue := 0 }, { name := "$assertionsDisabled", type := .boolean, accessFlags := 4120, slot := 3, constantValue := 0 }]
  methods := #[k8m0, k8m1, k8m2, k8m3]
  instanceTypes := #[]
  staticTypes := #[.int, .int, .int, .boolean]
  resolved := Array.replicate 635 none
  statics := none }

def pool9 : Array CpInfo := pool [(1, .class_ 2), (0, u "java/lang/String"), (1, .class_ 6), (1, u "java/lang/Object"), (0, u "<init>"), (0, u "()V"), (0, .methodref 1 10), (0, .nameAndType 11 12), (0, u "checkIndex"), (0, u "(II)V"), (1, .class_ 16), (1, u "java/lang/StringLatin1"), (36, u "([BI)C"), (36, u "canEncode"), (14, u "(C)Z"), (15, u "$assertionsDisabled"), (0, u "Z"), (98, .class_ 223), (1, u "java/lang/StringLatin1$LinesSpliterator"), (28, u "charAt"), (28, u "equals"), (0, u "([B[B)Z"), (97, u "toBytes"), (1, u "(C)[B"), (7, .class_ 391), (0, u "java/lang/StringLatin1$CharsSpliterator")] 3

def k9m0 : Method := { name := "<init>", desc := "()V", sig := { parameters := [], returnType := none }, accessFlags := 0, code := none }
def k9c1 : Code := { maxStack := 2, maxLocals := 2, code := jdk_43_method_2_code, exceptionTable := #[], attributes := #[] }
def k9m1 : Method := { name := "charAt", desc := "([BI)C", sig := { parameters := [(.array .byte), .int], returnType := some .char }, accessFlags := 9, code := some k9c1 }
def k9c2 : Code := { maxStack := 2, maxLocals := 1, code := jdk_43_method_3_code, exceptionTable := #[], attributes := #[] }
def k9m2 : Method := { name := "canEncode", desc := "(C)Z", sig := { parameters := [.char], returnType := some .boolean }, accessFlags := 9, code := some k9c2 }
def k9c3 : Code := { maxStack := 3, maxLocals := 3, code := jdk_43_method_13_code, exceptionTable := #[], attributes := #[] }
def k9m3 : Method := { name := "equals", desc := "([B[B)Z", sig := { parameters := [(.array .byte), (.array .byte)], returnType := some .boolean }, accessFlags := 9, code := some k9c3 }
def k9c4 : Code := { maxStack := 4, maxLocals := 1, code := jdk_43_method_46_code, exceptionTable := #[], attributes := #[] }
def k9m4 : Method := { name := "toBytes", desc := "(C)[B", sig := { parameters := [.char], returnType := some (.array .byte) }, accessFlags := 9, code := some k9c4 }
/-- java/lang/StringLatin1 -/
def k9 : Class := { plain "java/lang/StringLatin1" (some 0) with
  accessFlags := 48
  interfaces := #[]
  cf := some (fileOf pool9 14 #[.nestMembers #[390, 221]] #[{ accessFlags := 0, nameIndex := 7, descriptorIndex := 8, attributes := #[] }, { accessFlags := 9, nameIndex := 252, descriptorIndex := 53, attributes := #[] }, { accessFlags := 9, nameIndex := 90, descriptorIndex := 105, attributes := #[] }, { accessFlags := 9, nameIndex := 281, descriptorIndex := 282, attributes := #[] }, { accessFlags := 9, nameIndex := 380, descriptorIndex := 382, attributes := #[] }] 48 4 #[] #[{ accessFlags := 4120, nameIndex := 121, descriptorIndex := 122, attributes := #[] }])
  fields := #[{ name := "$assertionsDisabled", type := .boolean, accessFlags := 4120, slot := 0, constantValue := 0 }]
  methods := #[k9m0, k9m1, k9m2, k9m3, k9m4]
  instanceTypes := #[]
  staticTypes := #[.boolean]
  resolved := Array.replicate 395 none
  statics := none }

def pool10 : Array CpInfo := pool [(1, .methodref 2 3), (0, .class_ 4), (0, .nameAndType 5 6), (0, u "java/lang/Object"), (0, u "<init>"), (0, u "()V"), (0, .class_ 8), (0, u "java/lang/Record")] 13

def k10c0 : Code := { maxStack := 1, maxLocals := 1, code := jdk_30_method_1_code, exceptionTable := #[], attributes := #[] }
def k10m0 : Method := { name := "<init>", desc := "()V", sig := { parameters := [], returnType := none }, accessFlags := 4, code := some k10c0 }
/-- java/lang/Record -/
def k10 : Class := { plain "java/lang/Record" (some 0) with
  accessFlags := 1057
  interfaces := #[]
  cf := some (fileOf pool10 7 #[] #[{ accessFlags := 4, nameIndex := 5, descriptorIndex := 6, attributes := #[] }] 1057 2 #[] #[])
  fields := #[]
  methods := #[k10m0]
  instanceTypes := #[]
  staticTypes := #[]
  resolved := Array.replicate 22 none
  statics := none }

def pool11 : Array CpInfo := pool [(1, .methodref 2 3), (0, .class_ 4), (0, .nameAndType 5 6), (0, u "java/lang/Record"), (0, u "<init>"), (0, u "()V"), (0, .fieldref 8 9), (0, .class_ 10), (0, .nameAndType 11 12), (0, u "com/example/carelane/carelane/registry/LegalEntity"), (0, u "id"), (0, u "Ljava/lang/String;"), (0, .fieldref 8 14), (0, .nameAndType 15 12), (0, u "type"), (0, .fieldref 8 17), (0, .nameAndType 18 12), (0, u "status"), (0, .fieldref 8 20), (0, .nameAndType 21 22), (0, u "isActive"), (0, u "Z"), (0, .string 24), (0, u "ACTIVE"), (0, .methodref 26 27), (0, .class_ 28), (0, .nameAndType 29 30), (0, u "java/lang/String"), (0, u "equals"), (0, u "(Ljava/lang/Object;)Z"), (12, u "(Ljava/lang/String;Ljava/lang/String;Ljava/lang/String;Z)V"), (3, u "isAtWork"), (0, u "()Z")] 26

def k11c0 : Code := { maxStack := 2, maxLocals := 5, code := prog_23_method_1_code, exceptionTable := #[], attributes := #[] }
def k11m0 : Method := { name := "<init>", desc := "(Ljava/lang/String;Ljava/lang/String;Ljava/lang/String;Z)V", sig := { parameters := [(.object "java/lang/String"), (.object "java/lang/String"), (.object "java/lang/String"), .boolean], returnType := none }, accessFlags := 1, code := some k11c0 }
def k11c1 : Code := { maxStack := 2, maxLocals := 1, code := prog_23_method_2_code, exceptionTable := #[], attributes := #[] }
def k11m1 : Method := { name := "isAtWork", desc := "()Z", sig := { parameters := [], returnType := some .boolean }, accessFlags := 1, code := some k11c1 }
/-- com/example/carelane/carelane/registry/LegalEntity -/
def k11 : Class := { plain "com/example/carelane/carelane/registry/LegalEntity" (some 10) with
  accessFlags := 49
  interfaces := #[]
  cf := some (fileOf pool11 8 #[] #[{ accessFlags := 1, nameIndex := 5, descriptorIndex := 43, attributes := #[] }, { accessFlags := 1, nameIndex := 47, descriptorIndex := 48, attributes := #[] }] 49 2 #[] #[{ accessFlags := 18, nameIndex := 11, descriptorIndex := 12, attributes := #[] }, { accessFlags := 18, nameIndex := 15, descriptorIndex := 12, attributes := #[] }, { accessFlags := 18, nameIndex := 18, descriptorIndex := 12, attributes := #[] }, { accessFlags := 18, nameIndex := 21, descriptorIndex := 22, attributes := #[] }, { accessFlags := 25, nameIndex := 24, descriptorIndex := 12, attributes := #[] }])
  fields := #[{ name := "id", type := (.object "java/lang/String"), accessFlags := 18, slot := 0, constantValue := 0 }, { name := "type", type := (.object "java/lang/String"), accessFlags := 18, slot := 1, constantValue := 0 }, { name := "status", type := (.object "java/lang/String"), accessFlags := 18, slot := 2, constantValue := 0 }, { name := "isActive", type := .boolean, accessFlags := 18, slot := 3, constantValue := 0 }, { name := "ACTIVE", type := (.object "java/lang/String"), accessFlags := 25, slot := 0, constantValue := 0 }]
  methods := #[k11m0, k11m1]
  instanceTypes := #[(.object "java/lang/String"), (.object "java/lang/String"), (.object "java/lang/String"), .boolean]
  staticTypes := #[(.object "java/lang/String")]
  resolved := Array.replicate 75 none
  statics := none }

def pool12 : Array CpInfo := pool [(2, .class_ 4), (1, u "java/lang/Object"), (0, u "<init>"), (0, u "()V"), (17, .class_ 26), (1, u "jdk/internal/util/Preconditions"), (6, u "checkIndex"), (21, .class_ 56), (0, u "jdk/internal/util/Preconditions$4"), (57, .class_ 115), (0, u "jdk/internal/util/Preconditions$1"), (7, u "SIOOBE_FORMATTER"), (0, u "Ljava/util/function/BiFunction;"), (0, .class_ 126), (0, u "jdk/internal/util/Preconditions$2"), (3, u "AIOOBE_FORMATTER"), (0, .class_ 132), (0, u "jdk/internal/util/Preconditions$3"), (3, u "IOOBE_FORMATTER"), (41, u "(IILjava/util/function/BiFunction;)I")] 15

def k12m0 : Method := { name := "<init>", desc := "()V", sig := { parameters := [], returnType := none }, accessFlags := 1, code := none }
def k12c1 : Code := { maxStack := 3, maxLocals := 3, code := jdk_41_method_11_code, exceptionTable := #[], attributes := #[] }
def k12m1 : Method := { name := "checkIndex", desc := "(IILjava/util/function/BiFunction;)I", sig := { parameters := [.int, .int, (.object "java/util/function/BiFunction")], returnType := some .int }, accessFlags := 9, code := some k12c1 }
/-- jdk/internal/util/Preconditions -/
def k12 : Class := { plain "jdk/internal/util/Preconditions" (some 0) with
  accessFlags := 33
  interfaces := #[]
  cf := some (fileOf pool12 24 #[.nestMembers #[55, 131, 125, 114]] #[{ accessFlags := 1, nameIndex := 5, descriptorIndex := 6, attributes := #[] }, { accessFlags := 9, nameIndex := 33, descriptorIndex := 178, attributes := #[] }] 33 2 #[] #[{ accessFlags := 25, nameIndex := 123, descriptorIndex := 124, attributes := #[] }, { accessFlags := 25, nameIndex := 130, descriptorIndex := 124, attributes := #[] }, { accessFlags := 25, nameIndex := 136, descriptorIndex := 124, attributes := #[] }])
  fields := #[{ name := "SIOOBE_FORMATTER", type := (.object "java/util/function/BiFunction"), accessFlags := 25, slot := 0, constantValue := 0 }, { name := "AIOOBE_FORMATTER", type := (.object "java/util/function/BiFunction"), accessFlags := 25, slot := 1, constantValue := 0 }, { name := "IOOBE_FORMATTER", type := (.object "java/util/function/BiFunction"), accessFlags := 25, slot := 2, constantValue := 0 }]
  methods := #[k12m0, k12m1]
  instanceTypes := #[]
  staticTypes := #[(.object "java/util/function/BiFunction"), (.object "java/util/function/BiFunction"), (.object "java/util/function/BiFunction")]
  resolved := Array.replicate 194 none
  statics := some 1 }

def pool13 : Array CpInfo := pool [(9, u "<init>"), (6, .class_ 18), (1, u "java/lang/Object"), (0, u "()V"), (1, .class_ 23), (1, u "jdk/internal/util/ArraysSupport"), (0, u "LOG2_ARRAY_LONG_INDEX_SCALE"), (0, u "I"), (2, u "U"), (0, u "Ljdk/internal/misc/Unsafe;"), (8, u "BIG_ENDIAN"), (0, u "Z"), (8, u "LOG2_BYTE_BIT_SIZE"), (4, u "LOG2_ARRAY_INT_INDEX_SCALE"), (54, u "JLA"), (0, u "Ljdk/internal/access/JavaLangAccess;"), (11, u "LOG2_ARRAY_BOOLEAN_INDEX_SCALE"), (9, u "LOG2_ARRAY_BYTE_INDEX_SCALE"), (5, u "LOG2_ARRAY_CHAR_INDEX_SCALE"), (5, u "LOG2_ARRAY_SHORT_INDEX_SCALE"), (18, u "LOG2_ARRAY_FLOAT_INDEX_SCALE"), (24, u "LOG2_ARRAY_DOUBLE_INDEX_SCALE"), (89, u "T_BOOLEAN"), (2, u "T_CHAR"), (1, u "T_FLOAT"), (1, u "T_DOUBLE"), (1, u "T_BYTE"), (1, u "T_SHORT"), (1, u "T_INT"), (1, u "T_LONG"), (1, u "SOFT_MAX_ARRAY_LENGTH")] 83

def k13m0 : Method := { name := "<init>", desc := "()V", sig := { parameters := [], returnType := none }, accessFlags := 2, code := none }
/-- jdk/internal/util/ArraysSupport -/
def k13 : Class := { plain "jdk/internal/util/ArraysSupport" (some 0) with
  accessFlags := 33
  interfaces := #[]
  cf := some (fileOf pool13 21 #[] #[{ accessFlags := 2, nameIndex := 9, descriptorIndex := 19, attributes := #[] }] 33 16 #[] #[{ accessFlags := 24, nameIndex := 28, descriptorIndex := 29, attributes := #[] }, { accessFlags := 26, nameIndex := 38, descriptorIndex := 39, attributes := #[] }, { accessFlags := 25, nameIndex := 121, descriptorIndex := 25, attributes := #[] }, { accessFlags := 25, nameIndex := 131, descriptorIndex := 25, attributes := #[] }, { accessFlags := 25, nameIndex := 137, descriptorIndex := 25, attributes := #[] }, { accessFlags := 25, nameIndex := 143, descriptorIndex := 25, attributes := #[] }, { accessFlags := 25, nameIndex := 53, descriptorIndex := 25, attributes := #[] }, { accessFlags := 25, nameIndex := 24, descriptorIndex := 25, attributes := #[] }, { accessFlags := 25, nameIndex := 162, descriptorIndex := 25, attributes := #[] }, { accessFlags := 25, nameIndex := 187, descriptorIndex := 25, attributes := #[] }, { accessFlags := 26, nameIndex := 48, descriptorIndex := 25, attributes := #[] }, { accessFlags := 25, nameIndex := 277, descriptorIndex := 25, attributes := #[] }, { accessFlags := 25, nameIndex := 280, descriptorIndex := 25, attributes := #[] }, { accessFlags := 25, nameIndex := 282, descriptorIndex := 25, attributes := #[] }, { accessFlags := 25, nameIndex := 284, descriptorIndex := 25, attributes := #[] }, { accessFlags := 25, nameIndex := 286, descriptorIndex := 25, attributes := #[] }, { accessFlags := 25, nameIndex := 288, descriptorIndex := 25, attributes := #[] }, { accessFlags := 25, nameIndex := 290, descriptorIndex := 25, attributes := #[] }, { accessFlags := 25, nameIndex := 292, descriptorIndex := 25, attributes := #[] }, { accessFlags := 26, nameIndex := 108, descriptorIndex := 109, attributes := #[] }, { accessFlags := 25, nameIndex := 294, descriptorIndex := 25, attributes := #[] }])
  fields := #[{ name := "U", type := (.object "jdk/internal/misc/Unsafe"), accessFlags := 24, slot := 0, constantValue := 0 }, { name := "BIG_ENDIAN", type := .boolean, accessFlags := 26, slot := 1, constantValue := 0 }, { name := "LOG2_ARRAY_BOOLEAN_INDEX_SCALE", type := .int, accessFlags := 25, slot := 2, constantValue := 0 }, { name := "LOG2_ARRAY_BYTE_INDEX_SCALE", type := .int, accessFlags := 25, slot := 3, constantValue := 0 }, { name := "LOG2_ARRAY_CHAR_INDEX_SCALE", type := .int, accessFlags := 25, slot := 4, constantValue := 0 }, { name := "LOG2_ARRAY_SHORT_INDEX_SCALE", type := .int, accessFlags := 25, slot := 5, constantValue := 0 }, { name := "LOG2_ARRAY_INT_INDEX_SCALE", type := .int, accessFlags := 25, slot := 6, constantValue := 0 }, { name := "LOG2_ARRAY_LONG_INDEX_SCALE", type := .int, accessFlags := 25, slot := 7, constantValue := 0 }, { name := "LOG2_ARRAY_FLOAT_INDEX_SCALE", type := .int, accessFlags := 25, slot := 8, constantValue := 0 }, { name := "LOG2_ARRAY_DOUBLE_INDEX_SCALE", type := .int, accessFlags := 25, slot := 9, constantValue := 0 }, { name := "LOG2_BYTE_BIT_SIZE", type := .int, accessFlags := 26, slot := 10, constantValue := 0 }, { name := "T_BOOLEAN", type := .int, accessFlags := 25, slot := 11, constantValue := 0 }, { name := "T_CHAR", type := .int, accessFlags := 25, slot := 12, constantValue := 0 }, { name := "T_FLOAT", type := .int, accessFlags := 25, slot := 13, constantValue := 0 }, { name := "T_DOUBLE", type := .int, accessFlags := 25, slot := 14, constantValue := 0 }, { name := "T_BYTE", type := .int, accessFlags := 25, slot := 15, constantValue := 0 }, { name := "T_SHORT", type := .int, accessFlags := 25, slot := 16, constantValue := 0 }, { name := "T_INT", type := .int, accessFlags := 25, slot := 17, constantValue := 0 }, { name := "T_LONG", type := .int, accessFlags := 25, slot := 18, constantValue := 0 }, { name := "JLA", type := (.object "jdk/internal/access/JavaLangAccess"), accessFlags := 26, slot := 19, constantValue := 0 }, { name := "SOFT_MAX_ARRAY_LENGTH", type := .int, accessFlags := 25, slot := 20, constantValue := 0 }]
  methods := #[k13m0]
  instanceTypes := #[]
  staticTypes := #[(.object "jdk/internal/misc/Unsafe"), .boolean, .int, .int, .int, .int, .int, .int, .int, .int, .int, .int, .int, .int, .int, .int, .int, .int, .int, (.object "jdk/internal/access/JavaLangAccess"), .int]
  resolved := Array.replicate 378 none
  statics := none }

def pool14 : Array CpInfo := pool [(1, u "java/lang/Cloneable"), (0, .class_ 1), (0, u "java/lang/Object"), (0, .class_ 3)] 3

/-- java/lang/Cloneable -/
def k14 : Class := { plain "java/lang/Cloneable" (some 0) with
  accessFlags := 1537
  interfaces := #[]
  cf := some (fileOf pool14 2 #[] #[] 1537 4 #[] #[])
  fields := #[]
  methods := #[]
  instanceTypes := #[]
  staticTypes := #[]
  resolved := Array.replicate 8 none
  statics := none }

/-- the primitive byte -/
def k15 : Class := { plain "byte" none with kind := .primitive 'B', accessFlags := 0x411 }
/-- [B -/
def k16 : Class := { plain "[B" (some 0) with kind := .array 15 .byte, interfaces := #[14, 2], accessFlags := 1041 }

/-- the primitive char -/
def k17 : Class := { plain "char" none with kind := .primitive 'C', accessFlags := 0x411 }
/-- [C -/
def k18 : Class := { plain "[C" (some 0) with kind := .array 17 .char, interfaces := #[14, 2], accessFlags := 1041 }

/-- the primitive int -/
def k19 : Class := { plain "int" none with kind := .primitive 'I', accessFlags := 0x411 }
/-- [I -/
def k20 : Class := { plain "[I" (some 0) with kind := .array 19 .int, interfaces := #[14, 2], accessFlags := 1041 }

def heap : Heap := #[{ cls := 7, slots := #[.long 0, .int 1, .null, .int 0, .null, .int 0, .int 0], vm := .statics 7 },
  { cls := 12, slots := #[.null, .null, .null], vm := .statics 12 }]
def classes : Array Class := #[k0, k1, k2, k3, k4, k5, k6, k7, k8, k9, k10, k11, k12, k13, k14, k15, k16, k17, k18, k19, k20]
def interned : List (Array UInt16 × Addr) := []
def slotsUsed : Nat := 10
def theMethod : MethodId := ⟨1, 1⟩
def args0 : Array Value := #[.int 5, .int 5, .int 5, .int 5]
def aboutOver (below : List Frame) : State where
  vm := { classes := classes, interned := interned.toArray }
  heap := heap
  slotsUsed := slotsUsed
  threads := #[{ frames := .invoking theMethod args0 :: below }]
def below0 : List Frame := [.native { method := ⟨0, 0⟩, args := #[] }]
def about1 : State := aboutOver below0
def p0 : Program := .bare "" "" ""
def e0 : Env := launch0.env 0 0 0
theorem w_frames : about1.frames = Frame.invoking theMethod args0 :: below0 := rfl
set_option maxRecDepth 65536 in
theorem w_args : argsFit about1.vm theMethod args0 = true := by decide +kernel
set_option maxRecDepth 65536 in
theorem w_heap : heapFits about1 = true := by decide +kernel
set_option maxRecDepth 65536 in
theorem w_runnable : about1.curStatus? = some .runnable := by decide +kernel
set_option maxRecDepth 65536 in
theorem w_alone : about1.alone = true := by decide +kernel
set_option maxRecDepth 65536 in
theorem w_named : about1.methodNamed? x = some theMethod := by decide +kernel
set_option maxRecDepth 65536 in
theorem w_hears : about1.hears theMethod below0 = true := by decide +kernel
set_option maxRecDepth 65536 in
theorem w_ripe : about1.ripe theMethod args0 below0 = true := by decide +kernel
theorem w_running : about1.status = .running := rfl
set_option maxRecDepth 65536 in
theorem w_room : about1.hasRoom e0.platform room_1 = true :=
  launch0.hasRoom_least _ room_1 (by decide +kernel) (by decide +kernel) (by decide +kernel) (by decide +kernel) (by decide +kernel) (by decide +kernel)
theorem allAtoms_all (ts : List Jvm.Cond) (a : Array Jvm.Value) (st : Jvm.State) : (allAtoms ts).before a st = ts.all (fun c => c.before a st) := by
  induction ts with
  | nil => rfl
  | cons c t ih =>
    show (Jvm.Cond.and c (allAtoms t)).before a st = _
    rw [Jvm.Cond.before_and, ih, List.all_cons]
def words1 : List Jvm.Cond := Jvm.Cond.code x code maxLocals ret :: tables_1
/-- a 'code' word, met by the world's own term for the bytes: nothing is compared byte by byte -/
theorem code_word {y : MethodName} {bytes : ByteArray} {mx : Nat} {rt : Option FieldType} {a : Array Value} {s : State} {m : MethodId} {meth : Method} {c : Code} (h1 : s.methodNamed? y = some m) (h2 : s.vm.method? m = some meth) (h3 : meth.code = some c) (h4 : c.code = bytes)
    (h5 : (c.maxLocals == mx && c.exceptionTable.isEmpty && decide (c.maxStack ≤ mostOperands) && decide (meth.sig.returnType = rt) && !meth.locks && decide (parseMethodDescriptor y.desc = some meth.sig)) = true) : (Jvm.Cond.code y bytes mx rt).before a s = true := by
  simp only [Bool.and_eq_true, beq_iff_eq, Bool.not_eq_true', decide_eq_true_eq] at h5
  obtain ⟨⟨⟨⟨⟨g1, g2⟩, g3⟩, g4⟩, g5⟩, g6⟩ := h5
  simp [Cond.before, Cond.holds, Cond.value, h1, h2, h3, h4, g1, g2, g3, g4, g5, g6]
def isCode : Jvm.Cond → Bool
  | .code _ _ _ _ => true
  | _ => false
theorem all_split {L : List Jvm.Cond} {P : Jvm.Cond → Bool} (h1 : L.all (fun c => isCode c || P c) = true) (h2 : ∀ c ∈ L.filter isCode, P c = true) : L.all P = true := by
  refine List.all_eq_true.mpr fun c hc => ?_
  have h := List.all_eq_true.mp h1 c hc
  rcases Bool.eq_false_or_eq_true (isCode c) with hi | hi
  · exact h2 c (List.mem_filter.mpr ⟨hc, hi⟩)
  · simpa [hi] using h
set_option maxRecDepth 65536 in
theorem w_c0 : (Jvm.Cond.code x code maxLocals ret).before args0 about1 = true := code_word (m := ⟨1, 1⟩) (meth := k1m1) (c := k1c1) (by decide +kernel) rfl rfl rfl (by decide +kernel)
set_option maxRecDepth 65536 in
theorem w_c1 : (Jvm.Cond.code ({ cls := "java/lang/String", name := "<init>", desc := "([C)V" } : Jvm.MethodName) jdk_42_method_3_code (2 : Nat) (Option.none : Option Jvm.ClassFile.FieldType)).before args0 about1 = true := code_word (m := ⟨7, 1⟩) (meth := k7m1) (c := k7c1) (by decide +kernel) rfl rfl rfl (by decide +kernel)
set_option maxRecDepth 65536 in
theorem w_c2 : (Jvm.Cond.code ({ cls := "java/lang/String", name := "<init>", desc := "([CIILjava/lang/Void;)V" } : Jvm.MethodName) jdk_42_method_149_code (6 : Nat) (Option.none : Option Jvm.ClassFile.FieldType)).before args0 about1 = true := code_word (m := ⟨7, 6⟩) (meth := k7m6) (c := k7c6) (by decide +kernel) rfl rfl rfl (by decide +kernel)
set_option maxRecDepth 65536 in
theorem w_c3 : (Jvm.Cond.code ({ cls := "java/lang/Object", name := "<init>", desc := "()V" } : Jvm.MethodName) object_method_1_code (1 : Nat) (Option.none : Option Jvm.ClassFile.FieldType)).before args0 about1 = true := code_word (m := ⟨0, 0⟩) (meth := k0m0) (c := k0c0) (by decide +kernel) rfl rfl rfl (by decide +kernel)
set_option maxRecDepth 65536 in
theorem w_c4 : (Jvm.Cond.code ({ cls := "java/lang/StringUTF16", name := "compress", desc := "([CII)[B" } : Jvm.MethodName) jdk_52_method_16_code (6 : Nat) (Option.some (Jvm.ClassFile.FieldType.array Jvm.ClassFile.FieldType.byte))).before args0 about1 = true := code_word (m := ⟨8, 2⟩) (meth := k8m2) (c := k8c2) (by decide +kernel) rfl rfl rfl (by decide +kernel)
set_option maxRecDepth 65536 in
theorem w_c5 : (Jvm.Cond.code ({ cls := "java/lang/StringUTF16", name := "compress", desc := "([CI[BII)I" } : Jvm.MethodName) jdk_52_method_21_code (7 : Nat) (Option.some Jvm.ClassFile.FieldType.int)).before args0 about1 = true := code_word (m := ⟨8, 3⟩) (meth := k8m3) (c := k8c3) (by decide +kernel) rfl rfl rfl (by decide +kernel)
set_option maxRecDepth 65536 in
theorem w_c6 : (Jvm.Cond.code ({ cls := "java/lang/StringUTF16", name := "coderFromArrayLen", desc := "([BI)B" } : Jvm.MethodName) jdk_52_method_15_code (2 : Nat) (Option.some Jvm.ClassFile.FieldType.byte)).before args0 about1 = true := code_word (m := ⟨8, 1⟩) (meth := k8m1) (c := k8c1) (by decide +kernel) rfl rfl rfl (by decide +kernel)
set_option maxRecDepth 65536 in
theorem w_c7 : (Jvm.Cond.code ({ cls := "java/lang/String", name := "valueOf", desc := "(C)Ljava/lang/String;" } : Jvm.MethodName) jdk_42_method_139_code (1 : Nat) (Option.some (Jvm.ClassFile.FieldType.object "java/lang/String"))).before args0 about1 = true := code_word (m := ⟨7, 5⟩) (meth := k7m5) (c := k7c5) (by decide +kernel) rfl rfl rfl (by decide +kernel)
set_option maxRecDepth 65536 in
theorem w_c8 : (Jvm.Cond.code ({ cls := "java/lang/StringLatin1", name := "canEncode", desc := "(C)Z" } : Jvm.MethodName) jdk_43_method_3_code (1 : Nat) (Option.some Jvm.ClassFile.FieldType.boolean)).before args0 about1 = true := code_word (m := ⟨9, 2⟩) (meth := k9m2) (c := k9c2) (by decide +kernel) rfl rfl rfl (by decide +kernel)
set_option maxRecDepth 65536 in
theorem w_c9 : (Jvm.Cond.code ({ cls := "java/lang/StringLatin1", name := "toBytes", desc := "(C)[B" } : Jvm.MethodName) jdk_43_method_46_code (1 : Nat) (Option.some (Jvm.ClassFile.FieldType.array Jvm.ClassFile.FieldType.byte))).before args0 about1 = true := code_word (m := ⟨9, 4⟩) (meth := k9m4) (c := k9c4) (by decide +kernel) rfl rfl rfl (by decide +kernel)
set_option maxRecDepth 65536 in
theorem w_c10 : (Jvm.Cond.code ({ cls := "java/lang/String", name := "<init>", desc := "([BB)V" } : Jvm.MethodName) jdk_42_method_151_code (3 : Nat) (Option.none : Option Jvm.ClassFile.FieldType)).before args0 about1 = true := code_word (m := ⟨7, 7⟩) (meth := k7m7) (c := k7c7) (by decide +kernel) rfl rfl rfl (by decide +kernel)
set_option maxRecDepth 65536 in
theorem w_c11 : (Jvm.Cond.code ({ cls := "com/example/carelane/carelane/registry/LegalEntity", name := "<init>", desc := "(Ljava/lang/String;Ljava/lang/String;Ljava/lang/String;Z)V" } : Jvm.MethodName) prog_23_method_1_code (5 : Nat) (Option.none : Option Jvm.ClassFile.FieldType)).before args0 about1 = true := code_word (m := ⟨11, 0⟩) (meth := k11m0) (c := k11c0) (by decide +kernel) rfl rfl rfl (by decide +kernel)
set_option maxRecDepth 65536 in
theorem w_c12 : (Jvm.Cond.code ({ cls := "java/lang/Record", name := "<init>", desc := "()V" } : Jvm.MethodName) jdk_30_method_1_code (1 : Nat) (Option.none : Option Jvm.ClassFile.FieldType)).before args0 about1 = true := code_word (m := ⟨10, 0⟩) (meth := k10m0) (c := k10c0) (by decide +kernel) rfl rfl rfl (by decide +kernel)
set_option maxRecDepth 65536 in
theorem w_c13 : (Jvm.Cond.code ({ cls := "com/example/carelane/carelane/registry/LegalEntity", name := "isAtWork", desc := "()Z" } : Jvm.MethodName) prog_23_method_2_code (1 : Nat) (Option.some Jvm.ClassFile.FieldType.boolean)).before args0 about1 = true := code_word (m := ⟨11, 1⟩) (meth := k11m1) (c := k11c1) (by decide +kernel) rfl rfl rfl (by decide +kernel)
set_option maxRecDepth 65536 in
theorem w_c14 : (Jvm.Cond.code ({ cls := "java/lang/String", name := "equals", desc := "(Ljava/lang/Object;)Z" } : Jvm.MethodName) jdk_42_method_66_code (3 : Nat) (Option.some Jvm.ClassFile.FieldType.boolean)).before args0 about1 = true := code_word (m := ⟨7, 4⟩) (meth := k7m4) (c := k7c4) (by decide +kernel) rfl rfl rfl (by decide +kernel)
set_option maxRecDepth 65536 in
theorem w_c15 : (Jvm.Cond.code ({ cls := "java/lang/StringLatin1", name := "equals", desc := "([B[B)Z" } : Jvm.MethodName) jdk_43_method_13_code (3 : Nat) (Option.some Jvm.ClassFile.FieldType.boolean)).before args0 about1 = true := code_word (m := ⟨9, 3⟩) (meth := k9m3) (c := k9c3) (by decide +kernel) rfl rfl rfl (by decide +kernel)
set_option maxRecDepth 65536 in
theorem w_c16 : (Jvm.Cond.code ({ cls := "java/lang/String", name := "length", desc := "()I" } : Jvm.MethodName) jdk_42_method_54_code (1 : Nat) (Option.some Jvm.ClassFile.FieldType.int)).before args0 about1 = true := code_word (m := ⟨7, 2⟩) (meth := k7m2) (c := k7c2) (by decide +kernel) rfl rfl rfl (by decide +kernel)
set_option maxRecDepth 65536 in
theorem w_c17 : (Jvm.Cond.code ({ cls := "java/lang/String", name := "coder", desc := "()B" } : Jvm.MethodName) jdk_42_method_152_code (1 : Nat) (Option.some Jvm.ClassFile.FieldType.byte)).before args0 about1 = true := code_word (m := ⟨7, 8⟩) (meth := k7m8) (c := k7c8) (by decide +kernel) rfl rfl rfl (by decide +kernel)
set_option maxRecDepth 65536 in
theorem w_c18 : (Jvm.Cond.code ({ cls := "java/lang/String", name := "charAt", desc := "(I)C" } : Jvm.MethodName) jdk_42_method_56_code (2 : Nat) (Option.some Jvm.ClassFile.FieldType.char)).before args0 about1 = true := code_word (m := ⟨7, 3⟩) (meth := k7m3) (c := k7c3) (by decide +kernel) rfl rfl rfl (by decide +kernel)
set_option maxRecDepth 65536 in
theorem w_c19 : (Jvm.Cond.code ({ cls := "java/lang/String", name := "isLatin1", desc := "()Z" } : Jvm.MethodName) jdk_42_method_154_code (1 : Nat) (Option.some Jvm.ClassFile.FieldType.boolean)).before args0 about1 = true := code_word (m := ⟨7, 9⟩) (meth := k7m9) (c := k7c9) (by decide +kernel) rfl rfl rfl (by decide +kernel)
set_option maxRecDepth 65536 in
theorem w_c20 : (Jvm.Cond.code ({ cls := "java/lang/StringLatin1", name := "charAt", desc := "([BI)C" } : Jvm.MethodName) jdk_43_method_2_code (2 : Nat) (Option.some Jvm.ClassFile.FieldType.char)).before args0 about1 = true := code_word (m := ⟨9, 1⟩) (meth := k9m1) (c := k9c1) (by decide +kernel) rfl rfl rfl (by decide +kernel)
set_option maxRecDepth 65536 in
theorem w_c21 : (Jvm.Cond.code ({ cls := "java/lang/String", name := "checkIndex", desc := "(II)V" } : Jvm.MethodName) jdk_42_method_155_code (2 : Nat) (Option.none : Option Jvm.ClassFile.FieldType)).before args0 about1 = true := code_word (m := ⟨7, 10⟩) (meth := k7m10) (c := k7c10) (by decide +kernel) rfl rfl rfl (by decide +kernel)
set_option maxRecDepth 65536 in
theorem w_c22 : (Jvm.Cond.code ({ cls := "jdk/internal/util/Preconditions", name := "checkIndex", desc := "(IILjava/util/function/BiFunction;)I" } : Jvm.MethodName) jdk_41_method_11_code (3 : Nat) (Option.some Jvm.ClassFile.FieldType.int)).before args0 about1 = true := code_word (m := ⟨12, 1⟩) (meth := k12m1) (c := k12c1) (by decide +kernel) rfl rfl rfl (by decide +kernel)
def codes1 : List Jvm.Cond := [Jvm.Cond.code x code maxLocals ret, Jvm.Cond.code ({ cls := "java/lang/String", name := "<init>", desc := "([C)V" } : Jvm.MethodName) jdk_42_method_3_code (2 : Nat) (Option.none : Option Jvm.ClassFile.FieldType), Jvm.Cond.code ({ cls := "java/lang/String", name := "<init>", desc := "([CIILjava/lang/Void;)V" } : Jvm.MethodName) jdk_42_method_149_code (6 : Nat) (Option.none : Option Jvm.ClassFile.FieldType), Jvm.Cond.code ({ cls := "java/lang/Object", name := "<init>", desc := "()V" } : Jvm.MethodName) object_method_1_code (1 : Nat) (Option.none : Option Jvm.ClassFile.FieldType), Jvm.Cond.code ({ cls := "java/lang/StringUTF16", name := "compress", desc := "([CII)[B" } : Jvm.MethodName) jdk_52_method_16_code (6 : Nat) (Option.some (Jvm.ClassFile.FieldType.array Jvm.ClassFile.FieldType.byte)), Jvm.Cond.code ({ cls := "java/lang/StringUTF16", name := "compress", desc := "([CI[BII)I" } : Jvm.MethodName) jdk_52_method_21_code (7 : Nat) (Option.some Jvm.ClassFile.FieldType.int), Jvm.Cond.code ({ cls := "java/lang/StringUTF16", name := "coderFromArrayLen", desc := "([BI)B" } : Jvm.MethodName) jdk_52_method_15_code (2 : Nat) (Option.some Jvm.ClassFile.FieldType.byte), Jvm.Cond.code ({ cls := "java/lang/String", name := "valueOf", desc := "(C)Ljava/lang/String;" } : Jvm.MethodName) jdk_42_method_139_code (1 : Nat) (Option.some (Jvm.ClassFile.FieldType.object "java/lang/String")), Jvm.Cond.code ({ cls := "java/lang/StringLatin1", name := "canEncode", desc := "(C)Z" } : Jvm.MethodName) jdk_43_method_3_code (1 : Nat) (Option.some Jvm.ClassFile.FieldType.boolean), Jvm.Cond.code ({ cls := "java/lang/StringLatin1", name := "toBytes", desc := "(C)[B" } : Jvm.MethodName) jdk_43_method_46_code (1 : Nat) (Option.some (Jvm.ClassFile.FieldType.array Jvm.ClassFile.FieldType.byte)), Jvm.Cond.code ({ cls := "java/lang/String", name := "<init>", desc := "([BB)V" } : Jvm.MethodName) jdk_42_method_151_code (3 : Nat) (Option.none : Option Jvm.ClassFile.FieldType), Jvm.Cond.code ({ cls := "com/example/carelane/carelane/registry/LegalEntity", name := "<init>", desc := "(Ljava/lang/String;Ljava/lang/String;Ljava/lang/String;Z)V" } : Jvm.MethodName) prog_23_method_1_code (5 : Nat) (Option.none : Option Jvm.ClassFile.FieldType), Jvm.Cond.code ({ cls := "java/lang/Record", name := "<init>", desc := "()V" } : Jvm.MethodName) jdk_30_method_1_code (1 : Nat) (Option.none : Option Jvm.ClassFile.FieldType), Jvm.Cond.code ({ cls := "com/example/carelane/carelane/registry/LegalEntity", name := "isAtWork", desc := "()Z" } : Jvm.MethodName) prog_23_method_2_code (1 : Nat) (Option.some Jvm.ClassFile.FieldType.boolean), Jvm.Cond.code ({ cls := "java/lang/String", name := "equals", desc := "(Ljava/lang/Object;)Z" } : Jvm.MethodName) jdk_42_method_66_code (3 : Nat) (Option.some Jvm.ClassFile.FieldType.boolean), Jvm.Cond.code ({ cls := "java/lang/StringLatin1", name := "equals", desc := "([B[B)Z" } : Jvm.MethodName) jdk_43_method_13_code (3 : Nat) (Option.some Jvm.ClassFile.FieldType.boolean), Jvm.Cond.code ({ cls := "java/lang/String", name := "length", desc := "()I" } : Jvm.MethodName) jdk_42_method_54_code (1 : Nat) (Option.some Jvm.ClassFile.FieldType.int), Jvm.Cond.code ({ cls := "java/lang/String", name := "coder", desc := "()B" } : Jvm.MethodName) jdk_42_method_152_code (1 : Nat) (Option.some Jvm.ClassFile.FieldType.byte), Jvm.Cond.code ({ cls := "java/lang/String", name := "charAt", desc := "(I)C" } : Jvm.MethodName) jdk_42_method_56_code (2 : Nat) (Option.some Jvm.ClassFile.FieldType.char), Jvm.Cond.code ({ cls := "java/lang/String", name := "isLatin1", desc := "()Z" } : Jvm.MethodName) jdk_42_method_154_code (1 : Nat) (Option.some Jvm.ClassFile.FieldType.boolean), Jvm.Cond.code ({ cls := "java/lang/StringLatin1", name := "charAt", desc := "([BI)C" } : Jvm.MethodName) jdk_43_method_2_code (2 : Nat) (Option.some Jvm.ClassFile.FieldType.char), Jvm.Cond.code ({ cls := "java/lang/String", name := "checkIndex", desc := "(II)V" } : Jvm.MethodName) jdk_42_method_155_code (2 : Nat) (Option.none : Option Jvm.ClassFile.FieldType), Jvm.Cond.code ({ cls := "jdk/internal/util/Preconditions", name := "checkIndex", desc := "(IILjava/util/function/BiFunction;)I" } : Jvm.MethodName) jdk_41_method_11_code (3 : Nat) (Option.some Jvm.ClassFile.FieldType.int)]
set_option maxRecDepth 65536 in
theorem codes_eq : words1.filter isCode = codes1 := rfl
theorem w_codes : ∀ c ∈ words1.filter isCode, c.before args0 about1 = true := by
  rw [codes_eq]
  intro c hc
  simp only [codes1, List.mem_cons, List.not_mem_nil, or_false] at hc
  rcases hc with rfl | rfl | rfl | rfl | rfl | rfl | rfl | rfl | rfl | rfl | rfl | rfl | rfl | rfl | rfl | rfl | rfl | rfl | rfl | rfl | rfl | rfl | rfl
  · exact w_c0
  · exact w_c1
  · exact w_c2
  · exact w_c3
  · exact w_c4
  · exact w_c5
  · exact w_c6
  · exact w_c7
  · exact w_c8
  · exact w_c9
  · exact w_c10
  · exact w_c11
  · exact w_c12
  · exact w_c13
  · exact w_c14
  · exact w_c15
  · exact w_c16
  · exact w_c17
  · exact w_c18
  · exact w_c19
  · exact w_c20
  · exact w_c21
  · exact w_c22
set_option maxRecDepth 65536 in
theorem w_t1 : (words1.take 24).all (fun c => isCode c || c.before args0 about1) = true := by decide +kernel
set_option maxRecDepth 65536 in
theorem w_t2 : ((words1.drop 24).take 24).all (fun c => isCode c || c.before args0 about1) = true := by decide +kernel
set_option maxRecDepth 65536 in
theorem w_t3 : (((words1.drop 24).drop 24).take 24).all (fun c => isCode c || c.before args0 about1) = true := by decide +kernel
set_option maxRecDepth 65536 in
theorem w_t4 : ((((words1.drop 24).drop 24).drop 24).take 24).all (fun c => isCode c || c.before args0 about1) = true := by decide +kernel
set_option maxRecDepth 65536 in
theorem w_t5 : ((((words1.drop 24).drop 24).drop 24).drop 24).all (fun c => isCode c || c.before args0 about1) = true := by decide +kernel
theorem w_tables : (allAtoms (Jvm.Cond.code x code maxLocals ret :: tables_1)).before args0 about1 = true := by
  rw [allAtoms_all]
  show words1.all (fun c => c.before args0 about1) = true
  refine all_split ?_ w_codes
  rw [← List.take_append_drop 24 words1, List.all_append, w_t1, ← List.take_append_drop 24 (words1.drop 24), List.all_append, w_t2, ← List.take_append_drop 24 ((words1.drop 24).drop 24), List.all_append, w_t3, ← List.take_append_drop 24 (((words1.drop 24).drop 24).drop 24), List.all_append, w_t4, w_t5]
  rfl
set_option maxRecDepth 65536 in
theorem w_rest : rest_1_c.before args0 about1 = true := by decide +kernel
set_option maxRecDepth 65536 in
theorem w_case : (Jvm.Cond.and given_1 narrow_1).before args0 about1 = true := by decide +kernel
set_option maxRecDepth 65536 in
theorem w_consts : constsHeld consts_1 about1 := Jvm.Lit.constsHeldB_iff.mp (by decide +kernel)
theorem w_applies : (headSpec (Jvm.Cond.code x code maxLocals ret :: tables_1) room_1).applies x e0.platform about1 = true :=
  (Spec.applies_iff w_frames).mpr ⟨w_running, w_runnable, w_alone, w_named, w_hears, w_ripe, w_room, w_tables⟩
theorem atStart : AtStart classFile x code maxLocals ret World_1 tables_1 room_1 Calls_1 rest_1 Pre_1 launch0 p0 e0 about1 theMethod args0 below0 :=
  ⟨lists_1, trivial, launch0.admits_env _ _ _, launch0.least_env, fairChoices_fair.cas, fairChoices_fair.clock, w_frames, w_args, w_heap, w_applies, ⟨w_consts, trivial⟩, w_rest, w_case⟩
end start1
theorem witness_1 : WitnessClaimed_1 := ⟨start1.p0, start1.e0, start1.about1, start1.theMethod, start1.args0, start1.below0, start1.atStart⟩
end Jvm.Pilot.@@N@@
