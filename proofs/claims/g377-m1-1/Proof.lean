import JvmDerived
import JvmDerived.Pilot.@@N@@Statement
import JvmDerived.Pilot.@@N@@Code
set_option linter.unusedVariables false
set_option linter.unusedSimpArgs false

namespace Jvm.Pilot.@@N@@
open Jvm Jvm.ClassFile Sem Op Lib Jvm.Free Jvm.Stand Jvm.LawKit Jvm.RoadKit Bundle Jvm.Pilot.@@N@@.Jvm.D
namespace Own
section Own
variable {p : Program} {l : Launch} {e : Env} {R : Room} {s : State} {m : MethodId} {args : Array Value} {below : List Frame} {meth : Method} {c : Code} {Z : State} {a0 : Array Value} {EL : List (String × Nat)} {y : MethodName} {bytes : ByteArray} {ml : Nat} {ret : Option FieldType} {w : Bool} {h0 : Heap} {ws ws' : List Addr} {vm0 vm1 : Vm} {T T' : State} {h h' h1 : Heap} {locs locs' : List Loc} {cells slots cells' slots' : Nat} {F : State → Option Value → Prop} {pc pc' : Nat} {Ls Ls' : Array Slot} {rest : List Value} {a b x : Addr}
/-- what is left of a walk: from here it comes to a return of which F is true -/
def Go (p : Program) (e : Env) (below : List Frame) (F : State → Option Value → Prop) (T : State) (g : JFrame) : Prop :=
  ∃ t v, Steps p.tables e below (T.setTop g) t ∧ t.status = .running ∧ Ended t below (.returned v) ∧ F t v
theorem Go.by {g g' : JFrame} (k : Go p e below F T' g') (st : ∀ t, Steps p.tables e below (T'.setTop g') t → Steps p.tables e below (T.setTop g) t) : Go p e below F T g := by
  obtain ⟨t, v, a, b⟩ := k; exact ⟨t, v, st t a, b⟩
theorem Go.imp {g : JFrame} {F' : State → Option Value → Prop} (k : Go p e below F T g) (f : ∀ t v, F t v → F' t v) : Go p e below F' T g := by
  obtain ⟨t, v, a, b, c, d⟩ := k; exact ⟨t, v, a, b, c, f t v d⟩
theorem extK (E : Ext h0 h) (K : Keep h h' ws) (q : ∀ x ∈ ws, h0.size ≤ x) : Ext h0 h' :=
  ⟨Nat.le_trans E.1 K.1, fun a c r => K.2.1 a c (E.2 a c r) fun z => absurd (Array.getElem?_eq_some_iff.mp r).1 (Nat.not_lt.mpr (q a z))⟩
theorem Ext.rfl' (h : Heap) : Ext h h := ⟨Nat.le_refl _, fun _ _ q => q⟩
theorem Ext.tr (E : Ext h h') (E' : Ext h' h1) : Ext h h1 := ⟨Nat.le_trans E.1 E'.1, fun a c q => E'.2 a c (E.2 a c q)⟩
theorem extN (K : Keep h h' []) : Ext h h' := ⟨K.1, fun a c q => K.2.1 a c q nin0⟩
/-- one step of the heap: what is kept; in a walk that may intern, the constants as well -/
def Ev (w : Bool) (Z : State) (EL : List (String × Nat)) (vm0 : Vm) (h : Heap) (vm1 : Vm) (h' : Heap) (ws : List Addr) : Prop := Keep h h' ws ∧ (w = true → CHr Z EL vm0 h vm1 h')
/-- the cell at x may be written -/
def Ok (w : Bool) (Z : State) (EL : List (String × Nat)) (h0 : Heap) (ws : List Addr) (vm0 : Vm) (h : Heap) (x : Addr) : Prop := x < h.size ∧ Z.heap.size ≤ x ∧ (x ∈ ws ∨ h0.size ≤ x) ∧ (w = true → Safe Z EL vm0 h x)
theorem Ok.ev (O : Ok w Z EL h0 ws vm0 h x) (V : Ev w Z EL vm0 h vm1 h' ws') : Ok w Z EL h0 ws vm1 h' x := ⟨Nat.lt_of_lt_of_le O.1 V.1.1, O.2.1, O.2.2.1, fun q => (V.2 q).safe O.1 (O.2.2.2 q)⟩
/-- where a walk stands -/
def Wk (p : Program) (l : Launch) (e : Env) (R : Room) (s : State) (m : MethodId) (args : Array Value) (below : List Frame) (meth : Method) (c : Code) (Z : State) (a0 : Array Value) (EL : List (String × Nat)) (y : MethodName) (bytes : ByteArray) (ml : Nat) (ret : Option FieldType) (w : Bool) (h0 : Heap) (ws : List Addr) (vm0 : Vm) (T : State) (h : Heap) (locs : List Loc) (cells slots : Nat) : Prop :=
  (p.tables.exec = Jvm.exec ∧ c.code = bytes ∧ c.maxLocals = ml ∧ meth.sig.returnType = ret ∧ meth.locks = false ∧ meth.name = y.name ∧ EW Z a0 EL) ∧
  Stand p l e R (s.setVm vm0) m args below meth c T locs cells slots ∧ Z.Warmed39 vm0 ∧ vm0.findClass y.cls = some m.cls ∧ T.heap = h ∧ (∃ k0, s.Since vm0 k0 ∧ k0 ≤ h.size) ∧ (w = false → vm0 = s.vm) ∧ Fr Z.heap.size locs ∧ Ext Z.heap h ∧ Keep h0 h ws ∧ (w = true → CHr Z EL s.vm h0 vm0 h)
theorem Wk.hx (X : Wk p l e R s m args below meth c Z a0 EL y bytes ml ret w h0 ws vm0 T h locs cells slots) : p.tables.exec = Jvm.exec := X.1.1
theorem Wk.hby (X : Wk p l e R s m args below meth c Z a0 EL y bytes ml ret w h0 ws vm0 T h locs cells slots) : c.code = bytes := X.1.2.1
theorem Wk.hml (X : Wk p l e R s m args below meth c Z a0 EL y bytes ml ret w h0 ws vm0 T h locs cells slots) : c.maxLocals = ml := X.1.2.2.1
theorem Wk.hret (X : Wk p l e R s m args below meth c Z a0 EL y bytes ml ret w h0 ws vm0 T h locs cells slots) : meth.sig.returnType = ret := X.1.2.2.2.1
theorem Wk.hlk (X : Wk p l e R s m args below meth c Z a0 EL y bytes ml ret w h0 ws vm0 T h locs cells slots) : meth.locks = false := X.1.2.2.2.2.1
theorem Wk.hnm (X : Wk p l e R s m args below meth c Z a0 EL y bytes ml ret w h0 ws vm0 T h locs cells slots) : meth.name = y.name := X.1.2.2.2.2.2.1
theorem Wk.hEW (X : Wk p l e R s m args below meth c Z a0 EL y bytes ml ret w h0 ws vm0 T h locs cells slots) : EW Z a0 EL := X.1.2.2.2.2.2.2
theorem Wk.st (X : Wk p l e R s m args below meth c Z a0 EL y bytes ml ret w h0 ws vm0 T h locs cells slots) : Stand p l e R (s.setVm vm0) m args below meth c T locs cells slots := X.2.1
theorem Wk.hZ (X : Wk p l e R s m args below meth c Z a0 EL y bytes ml ret w h0 ws vm0 T h locs cells slots) : Z.Warmed39 (s.setVm vm0).vm := X.2.2.1
theorem Wk.hown (X : Wk p l e R s m args below meth c Z a0 EL y bytes ml ret w h0 ws vm0 T h locs cells slots) : (s.setVm vm0).vm.findClass y.cls = some m.cls := X.2.2.2.1
theorem Wk.hT (X : Wk p l e R s m args below meth c Z a0 EL y bytes ml ret w h0 ws vm0 T h locs cells slots) : T.heap = h := X.2.2.2.2.1
theorem Wk.hS (X : Wk p l e R s m args below meth c Z a0 EL y bytes ml ret w h0 ws vm0 T h locs cells slots) : ∃ k0, s.Since vm0 k0 ∧ k0 ≤ h.size := X.2.2.2.2.2.1
theorem Wk.hv (X : Wk p l e R s m args below meth c Z a0 EL y bytes ml ret w h0 ws vm0 T h locs cells slots) : w = false → vm0 = s.vm := X.2.2.2.2.2.2.1
theorem Wk.hN (X : Wk p l e R s m args below meth c Z a0 EL y bytes ml ret w h0 ws vm0 T h locs cells slots) : Fr Z.heap.size locs := X.2.2.2.2.2.2.2.1
theorem Wk.hE (X : Wk p l e R s m args below meth c Z a0 EL y bytes ml ret w h0 ws vm0 T h locs cells slots) : Ext Z.heap h := X.2.2.2.2.2.2.2.2.1
theorem Wk.hK (X : Wk p l e R s m args below meth c Z a0 EL y bytes ml ret w h0 ws vm0 T h locs cells slots) : Keep h0 h ws := X.2.2.2.2.2.2.2.2.2.1
theorem Wk.hC (X : Wk p l e R s m args below meth c Z a0 EL y bytes ml ret w h0 ws vm0 T h locs cells slots) : w = true → CHr Z EL s.vm h0 vm0 h := X.2.2.2.2.2.2.2.2.2.2
theorem Wk.chv (X : Wk p l e R s m args below meth c Z a0 EL y bytes ml ret w h0 ws vm0 T h locs cells slots) (q : w = true) : CHv Z EL vm0 h := (X.hC q).1
theorem Wk.move (X : Wk p l e R s m args below meth c Z a0 EL y bytes ml ret w h0 ws vm0 T h locs cells slots) (St : Stand p l e R (s.setVm vm1) m args below meth c T' locs' cells' slots') (hZ : Z.Warmed39 vm1) (ho : vm1.findClass y.cls = some m.cls) (hT : T'.heap = h') (hS : ∃ k0, s.Since vm1 k0 ∧ k0 ≤ h'.size) (hv : w = false → vm1 = s.vm) (N : Fr Z.heap.size locs') (V : Ev w Z EL vm0 h vm1 h' ws') (q : ∀ x ∈ ws', Z.heap.size ≤ x ∧ (x ∈ ws ∨ h0.size ≤ x)) :
    Wk p l e R s m args below meth c Z a0 EL y bytes ml ret w h0 ws vm1 T' h' locs' cells' slots' :=
  ⟨X.1, St, hZ, ho, hT, hS, hv, N, extK X.hE V.1 fun x hx => (q x hx).1, X.hK.trans V.1 fun x hx => (q x hx).2, fun r => (X.hC r).trans (V.2 r)⟩
theorem Wk.since (X : Wk p l e R s m args below meth c Z a0 EL y bytes ml ret w h0 ws vm0 T h locs cells slots) (hg : h.size ≤ h'.size) : ∃ k0, s.Since vm0 k0 ∧ k0 ≤ h'.size := by obtain ⟨k, a, b⟩ := X.hS; exact ⟨k, a, Nat.le_trans b hg⟩
theorem Wk.same (X : Wk p l e R s m args below meth c Z a0 EL y bytes ml ret w h0 ws vm0 T h locs cells slots) (St : Stand p l e R (s.setVm vm0) m args below meth c T' locs' cells' slots') (hT : T'.heap = h') (N : Fr Z.heap.size locs') (V : Ev w Z EL vm0 h vm0 h' ws') (q : ∀ x ∈ ws', Z.heap.size ≤ x ∧ (x ∈ ws ∨ h0.size ≤ x)) :
    Wk p l e R s m args below meth c Z a0 EL y bytes ml ret w h0 ws vm0 T' h' locs' cells' slots' := X.move St X.hZ X.hown hT (X.since V.1.1) X.hv N V q
theorem Wk.evR (X : Wk p l e R s m args below meth c Z a0 EL y bytes ml ret w h0 ws vm0 T h locs cells slots) : Ev w Z EL vm0 h vm0 h [] := ⟨Keep.refl _ _, fun q => CHr.refl (X.chv q)⟩
theorem Wk.evE (X : Wk p l e R s m args below meth c Z a0 EL y bytes ml ret w h0 ws vm0 T h locs cells slots) (E : Ext h h') : Ev w Z EL vm0 h vm0 h' [] := ⟨(Keep.refl _ _).ext E, fun q => CHr.ext E (X.chv q)⟩
theorem Wk.evW {sl : Nat} {v : Value} (X : Wk p l e R s m args below meth c Z a0 EL y bytes ml ret w h0 ws vm0 T h locs cells slots) (W : Wr h h' a sl v) (O : Ok w Z EL h0 ws vm0 h a) : Ev w Z EL vm0 h vm0 h' [a] := ⟨Keep.of_wr W, fun q => CHr.wr W (O.2.2.2 q) (X.chv q)⟩
theorem Wk.evK (X : Wk p l e R s m args below meth c Z a0 EL y bytes ml ret w h0 ws vm0 T h locs cells slots) (K : Keep h h' ws') (q : ∀ x ∈ ws', Ok w Z EL h0 ws vm0 h x) : Ev w Z EL vm0 h vm0 h' ws' := ⟨K, fun r => CHr.keep K (fun x hx => (q x hx).2.2.2 r) (X.chv r)⟩
theorem Ok.two (q : ∀ x ∈ ws', Ok w Z EL h0 ws vm0 h x) : ∀ x ∈ ws', Z.heap.size ≤ x ∧ (x ∈ ws ∨ h0.size ≤ x) := fun x hx => ⟨(q x hx).2.1, (q x hx).2.2.1⟩
theorem Ok.one (O : Ok w Z EL h0 ws vm0 h a) : ∀ x ∈ [a], Ok w Z EL h0 ws vm0 h x := fun x hx => by cases List.mem_singleton.mp hx; exact O
theorem Ok.nil : ∀ x ∈ ([] : List Addr), Ok w Z EL h0 ws vm0 h x := fun _ q => nomatch q
theorem two0 : ∀ x ∈ ([] : List Addr), Z.heap.size ≤ x ∧ (x ∈ ws ∨ h0.size ≤ x) := fun _ q => nomatch q
theorem Wk.mono (X : Wk p l e R s m args below meth c Z a0 EL y bytes ml ret w h0 ws vm0 T h locs cells slots) (hc : cells ≤ cells') (hs : slots ≤ slots') : Wk p l e R s m args below meth c Z a0 EL y bytes ml ret w h0 ws vm0 T h locs cells' slots' :=
  ⟨X.1, X.st.more hc hs, X.2.2⟩
/-- the new cell at the heap's end may be written -/
theorem Wk.okNew (X : Wk p l e R s m args below meth c Z a0 EL y bytes ml ret w h0 ws vm0 T h locs cells slots) (E : Ext h h') (hlt : h.size < h'.size) : Ok w Z EL h0 ws vm0 h' h.size := ⟨hlt, X.hE.1, Or.inr X.hK.1, fun q => Safe.ext E (X.chv q) (Safe.new (Nat.le_refl _))⟩
/-! returns -/
def Done (w : Bool) (Z : State) (EL : List (String × Nat)) (rm : Room) (s : State) (h0 : Heap) (ws : List Addr) (P : Option Value → Heap → Prop) (t : State) (v : Option Value) : Prop :=
  ∃ L, (Fr Z.heap.size L ∧ Keep h0 t.heap ws ∧ P v t.heap) ∧ (w = true → CHr Z EL s.vm h0 t.vm t.heap) ∧ ReturnedEndW s (.returned v) t L rm.cells rm.slots ∧ (w = false → FrameEnd s (.returned v) t L rm.cells rm.slots)
theorem r_end {rm : Room} {P : Option Value → Heap → Prop} {g : JFrame} (X : Wk p l e R s m args below meth c Z a0 EL y bytes ml ret w h0 ws vm0 T h locs cells slots) (v : Option Value) (hv : ret = none → v = none) (hc : cells ≤ rm.cells) (hs : slots ≤ rm.slots) (hP : P v h)
    (st : ∀ fs, (∀ (f : JFrame) (acts : List Action), f.method = m → f.locked = none → f.entered = [] → (doReturn e (T.setTop f) acts v).1 = T.setFrames fs) → Steps p.tables e below (T.setTop g) (T.setFrames fs)) :
    Go p e below (Done w Z EL rm s h0 ws P) T g := by
  have hT := X.hT
  have hlk := X.hlk
  have hv' : meth.sig.returnType = none → v = none := fun q => hv (X.hret.symm.trans q)
  have hC : w = true → CHr Z EL s.vm h0 T.vm h := fun q => (X.hC q).trans (CHv.at X.st X.hZ X.hEW (X.chv q))
  cases w with
  | false =>
    have e0 := X.hv rfl
    subst e0
    have X1 : Stand p l e R s m args below meth c T locs cells slots := X.st
    obtain ⟨fs, h1, h2, h3, h4, h5⟩ := X1.leave (v := v) hv'
    refine ⟨T.setFrames fs, v, st fs h1, h2, h3, locs, ⟨X.hN, ?_, ?_⟩, nofun, ReturnedEndW.of_narrow ⟨v, rfl⟩ h4 (h5.mono hc hs), fun _ => ⟨⟨v, rfl⟩, h4, h5.mono hc hs⟩⟩
    · show Keep h0 T.heap ws; rw [hT]; exact X.hK
    · show P v T.heap; rw [hT]; exact hP
  | true =>
    obtain ⟨k0, k1, k2⟩ := X.hS
    obtain ⟨fs, h1, h2, h3, h4, h5, h6, h7⟩ := X.st.leaveW k1 (by rw [hT]; exact k2) (v := v) hv'
    refine ⟨T.setFrames fs, v, st fs h1, h2, h3, locs, ⟨X.hN, ?_, ?_⟩, fun q => ?_, ⟨h4, h5, h6, h7.mono hc hs⟩, nofun⟩
    · show Keep h0 T.heap ws; rw [hT]; exact X.hK
    · show P v T.heap; rw [hT]; exact hP
    · show CHr Z EL s.vm h0 T.vm T.heap; rw [hT]; exact hC q
theorem r_void {rm : Room} {P : Option Value → Heap → Prop} (X : Wk p l e R s m args below meth c Z a0 EL y bytes ml ret w h0 ws vm0 T h locs cells slots) (hr : ret = none) (hd : decode bytes pc = .ok (.return_, 1)) (hc : cells ≤ rm.cells) (hs : slots ≤ rm.slots) (hP : P none h) : Go p e below (Done w Z EL rm s h0 ws P) T (mkF m pc Ls []) :=
  r_end X none (fun _ => rfl) hc hs hP fun fs hl => X.st.returnOut X.hx (X.hret.trans hr) (hb X.hby hd) hl
theorem r_int {rm : Room} {P : Option Value → Heap → Prop} {z : Int32} (X : Wk p l e R s m args below meth c Z a0 EL y bytes ml ret w h0 ws vm0 T h locs cells slots) (hr : ret = some .int) (hd : decode bytes pc = .ok (.ireturn, 1)) (hc : cells ≤ rm.cells) (hs : slots ≤ rm.slots) (hP : P (some (.int z)) h) : Go p e below (Done w Z EL rm s h0 ws P) T (mkF m pc Ls (.int z :: rest)) :=
  r_end X (some (.int z)) (fun q => by rw [hr] at q; cases q) hc hs hP fun fs hl => retOut X.st X.hx (X.hret.trans hr) rfl (Or.inl ⟨rfl, Or.inl rfl, z, rfl⟩) (hb X.hby hd) hl
theorem r_nar {rm : Room} {P : Option Value → Heap → Prop} {z : Int32} {t : FieldType} (X : Wk p l e R s m args below meth c Z a0 EL y bytes ml ret w h0 ws vm0 T h locs cells slots) (hr : ret = some t) (ht : t = .boolean ∨ t = .byte ∨ t = .char ∨ t = .short) (hd : decode bytes pc = .ok (.ireturn, 1)) (hc : cells ≤ rm.cells) (hs : slots ≤ rm.slots) (hP : P (some (.int (nar t z))) h) : Go p e below (Done w Z EL rm s h0 ws P) T (mkF m pc Ls (.int z :: rest)) :=
  r_end X (some (.int (nar t z))) (fun q => by rw [hr] at q; cases q) hc hs hP fun fs hl => retN X.st X.hx (X.hret.trans hr) ht (hb X.hby hd) hl
theorem r_ref {rm : Room} {P : Option Value → Heap → Prop} {v : Value} {t : FieldType} (X : Wk p l e R s m args below meth c Z a0 EL y bytes ml ret w h0 ws vm0 T h locs cells slots) (hr : ret = some t) (ht : t.isReference = true) (hv : v.isRef = true) (hd : decode bytes pc = .ok (.areturn, 1)) (hc : cells ≤ rm.cells) (hs : slots ≤ rm.slots) (hP : P (some v) h) : Go p e below (Done w Z EL rm s h0 ws P) T (mkF m pc Ls (v :: rest)) :=
  r_end X (some v) (fun q => by rw [hr] at q; cases q) hc hs hP fun fs hl => retOut X.st X.hx (X.hret.trans hr) (by cases t <;> first | rfl | cases ht) (Or.inr (Or.inr (Or.inr (Or.inr ⟨rfl, ht, hv⟩)))) (hb X.hby hd) hl
/-! contracts -/
def Ctr (w : Bool) (l : Launch) (Z : State) (a0 : Array Value) (EL : List (String × Nat)) (y : MethodName) (bytes : ByteArray) (ml : Nat) (ret : Option FieldType) (rm : Room) (as : Array Value) (h0 : Heap) (ws : List Addr) (P : Option Value → Heap → Prop) : Prop :=
  ∀ cs : List Jvm.Cond, MetFree l y (head1 (Jvm.Cond.code y bytes ml ret :: cs) rm) (fun a U => a = as ∧ Z.Warmed39 U.vm ∧ U.heap = h0 ∧ (w = true → CHv Z EL U.vm h0 ∧ ∀ x ∈ ws, Safe Z EL U.vm h0 x)) (fun _ _ _ _ _ => True) (fun _ U o U' => ∃ v, o = .returned v ∧ Done w Z EL rm U h0 ws P U' v)
theorem Ctr.of {rm : Room} {as : Array Value} {P : Option Value → Heap → Prop} (hpn : plainFor y = true) (ef : ∀ m, entryFrame m as ml = mkF m 0 Ls []) (hE : Ext Z.heap h0) (hEW : EW Z a0 EL)
    (body : ∀ (p : Program) (e : Env) (s : State) (m : MethodId) (below : List Frame) (meth : Method) (c : Code) (T : State), Wk p l e rm s m as below meth c Z a0 EL y bytes ml ret w h0 ws s.vm T h0 [] 0 0 → (w = true → ∀ x ∈ ws, Safe Z EL s.vm h0 x) → Go p e below (Done w Z EL rm s h0 ws P) T (mkF m 0 Ls [])) :
    Ctr w l Z a0 EL y bytes ml ret rm as h0 ws P := by
  intro cs
  refine MetFree.of_bodySF hpn hisR ?_
  intro p e s m args below meth c s₁ Bd hml hP hK
  obtain ⟨rfl, hZ, hh, hC⟩ := hP
  have e0 : s₁.heap = h0 := by rw [← hh, Bd.state]; rfl
  have hS : s.Since s.vm s.heap.size := (State.WarmedH.refl s).since _
  obtain ⟨t, v, st, r1, r2, q⟩ := body p e s m below meth c s₁ ⟨⟨Bd.exec, Bd.bytes, hml, Bd.returns, Bd.notSynchronized, (name_of_methodNamed Bd.named Bd.method).1, hEW⟩, Stand.of_body Bd, hZ, findClass_of_methodNamed Bd.named, e0, ⟨_, hS, by rw [hh]; exact Nat.le_refl _⟩, fun _ => rfl, Fr.nil _, hE, Keep.refl _ _, fun q => CHr.refl (hC q).1⟩ (fun q => (hC q).2)
  exact ⟨t, .returned v, castTop (ef m) st, r1, r2, v, rfl, q⟩
theorem Ctr.back {w' : Bool} {y' : MethodName} {bytes' : ByteArray} {ml' : Nat} {ret' : Option FieldType} {rm : Room} {as : Array Value} {P : Option Value → Heap → Prop} {len W : Nat} (hw : w' = false) (H : Ctr w' l Z a0 EL y' bytes' ml' ret' rm as h ws' P) (hZ : Z.Warmed39 s.vm) (wc : (Jvm.Cond.code y' bytes' ml' ret').before a0 Z = true) (wz : (Jvm.Cond.initialized y'.cls).before a0 Z = true) (hf : rm.frames + 1 ≤ R.frames) (hl : W + (ml' + 11) + rm.locals ≤ R.locals) :
    Back l R p e below s args y' len W (fun A a => a = as ∧ A.U.heap = h ∧ A.cells + rm.cells ≤ R.cells ∧ A.slots + rm.slots ≤ R.slots) (fun A _ v B => ∃ L, (Fr Z.heap.size L ∧ Keep h B.U.heap ws' ∧ P v B.U.heap) ∧ B.locs = A.locs ++ L ∧ B.cells = A.cells + rm.cells ∧ B.slots = A.slots + rm.slots) := by
  subst hw
  refine backOf (Q := fun v h' L => Fr Z.heap.size L ∧ Keep h h' ws' ∧ P v h') (fun p e ha hc hk s m args below hf happ hP hK => ?_) hZ wc wz hf hl
  obtain ⟨n, o, r1, r2, r3, v, rfl, L, q1, -, -, q4⟩ := H [] p e ha hc hk s m args below hf happ ⟨hP.1, hP.2.1, hP.2.2, nofun⟩ hK
  exact ⟨n, _, r1, r2, r3, v, L, rfl, q1, q4 rfl⟩
theorem Ctr.backS {w' : Bool} {y' : MethodName} {bytes' : ByteArray} {ml' : Nat} {ret' : Option FieldType} {rm : Room} {as : Array Value} {P : Option Value → Heap → Prop} {len W : Nat} (hw : w' = true) (H : Ctr w' l Z a0 EL y' bytes' ml' ret' rm as h ws' P) (hZ : Z.Warmed39 vm0) (wc : (Jvm.Cond.code y' bytes' ml' ret').before a0 Z = true) (wz : (Jvm.Cond.initialized y'.cls).before a0 Z = true) (hf : rm.frames + 1 ≤ R.frames) (hl : W + (ml' + 11) + rm.locals ≤ R.locals) (hEL : EW Z a0 EL) (hC : CHv Z EL vm0 h) (hs : ∀ x ∈ ws', x < h.size ∧ Safe Z EL vm0 h x) :
    BackS l R p e below (s.setVm vm0) args y' len W (fun A a => a = as ∧ A.U.heap = h ∧ A.cells + rm.cells ≤ R.cells ∧ A.slots + rm.slots ≤ R.slots) (fun A _ v B => ∃ L, (Fr Z.heap.size L ∧ Keep h B.U.heap ws' ∧ P v B.U.heap ∧ CHr Z EL vm0 h B.U.vm B.U.heap) ∧ B.locs = A.locs ++ L ∧ B.cells = A.cells + rm.cells ∧ B.slots = A.slots + rm.slots) := by
  subst hw
  refine BackS.of_freeW (bytes := bytes') (maxL := ml') (ret := ret') (E := fun _ first o t L k n => k = rm.cells ∧ n = rm.slots ∧ (∃ v, o = .returned v ∧ Fr Z.heap.size L ∧ Keep h t.heap ws' ∧ P v t.heap) ∧ CHr Z EL first.vm h t.vm t.heap) (H []) hf hl ?_ ?_ (fun _ _ _ _ _ _ _ _ _ => trivial) ?_ ?_
  · intro m meth c A a Y hp
    have hU : Z.Warmed39 A.U.vm := wtrans (s := s.setVm vm0) hZ Y.warmed
    exact ⟨by show (Cond.and _ .tt).before a A.U = true; rw [Cond.before_and, mv hU wc]; rfl, mv hU wc, mv hU wz, hp.2.2.1, hp.2.2.2⟩
  · intro m meth c A a g mk Y hp
    have q := CHv.at Y hZ hEL hC
    exact ⟨hp.1, wtrans (s := s.setVm vm0) hZ Y.warmed, hp.2.1, fun _ => ⟨q.1, fun x hx => q.safe (hs x hx).1 (hs x hx).2⟩⟩
  · intro a first o t hq
    obtain ⟨v, rfl, L, q1, q2, q3, -⟩ := hq
    exact ⟨L, _, _, q3, rfl, rfl, ⟨v, rfl, q1⟩, q2 rfl⟩
  · intro m meth c A a g mk v t L k n Y hp _ _ hE
    obtain ⟨e1, e2, ⟨v', e3, e4⟩, e5⟩ := hE
    cases e3; subst e1 e2
    exact ⟨L, ⟨e4.1, e4.2.1, e4.2.2, (CHv.at Y hZ hEL hC).trans e5⟩, rfl, rfl, rfl⟩
/-! behind a call -/
theorem goB {G : Option Value → JFrame} {g : JFrame} {v : Option Value} {B : Pt} {Q : Option Value → Heap → List Loc → Prop} {P : Option Value → Heap → Prop} {cc ss : Nat} (X : Wk p l e R s m args below meth c Z a0 EL y bytes ml ret w h0 ws vm0 T h locs cells slots) (X' : Stand p l e R (s.setVm vm0) m args below meth c B.U B.locs B.cells B.slots)
    (hq : ∃ L, Q v B.U.heap L ∧ B.locs = locs ++ L ∧ B.cells = cells + cc ∧ B.slots = slots + ss) (st : Steps p.tables e below (T.setTop g) (B.U.setTop (G v))) (hQ : ∀ v h' L, Q v h' L → Fr Z.heap.size L ∧ Keep h h' ws' ∧ P v h') (hok : ∀ x ∈ ws', Ok w Z EL h0 ws vm0 h x)
    (k : ∀ v vm1 T' h' L, Wk p l e R s m args below meth c Z a0 EL y bytes ml ret w h0 ws vm1 T' h' (locs ++ L) (cells + cc) (slots + ss) → Ev w Z EL vm0 h vm1 h' ws' → P v h' → Go p e below F T' (G v)) : Go p e below F T g := by
  obtain ⟨L, q, e1, e2, e3⟩ := hq
  obtain ⟨n, K, hP⟩ := hQ _ _ _ q
  rw [e1, e2, e3] at X'
  have V := X.evK K hok
  exact (k v vm0 B.U B.U.heap L (X.same X' rfl (X.hN.app n) V (Ok.two hok)) V hP).by fun t r => st.trans r
theorem goS {G : Option Value → JFrame} {g : JFrame} {v : Option Value} {B : Pt} {P : Option Value → Heap → Prop} {cc ss : Nat} (hw : w = true) (X : Wk p l e R s m args below meth c Z a0 EL y bytes ml ret w h0 ws vm0 T h locs cells slots) (X' : Stand p l e R ((s.setVm vm0).setVm B.U.vm) m args below meth c B.U B.locs B.cells B.slots) (hS : (s.setVm vm0).Since B.U.vm B.U.heap.size) (hg : T.heap.size ≤ B.U.heap.size)
    (hq : ∃ L, (Fr Z.heap.size L ∧ Keep h B.U.heap ws' ∧ P v B.U.heap ∧ CHr Z EL vm0 h B.U.vm B.U.heap) ∧ B.locs = locs ++ L ∧ B.cells = cells + cc ∧ B.slots = slots + ss) (st : Steps p.tables e below (T.setTop g) (B.U.setTop (G v))) (hok : ∀ x ∈ ws', Ok w Z EL h0 ws vm0 h x)
    (k : ∀ v vm1 T' h' L, Wk p l e R s m args below meth c Z a0 EL y bytes ml ret w h0 ws vm1 T' h' (locs ++ L) (cells + cc) (slots + ss) → Ev w Z EL vm0 h vm1 h' ws' → P v h' → Go p e below F T' (G v)) : Go p e below F T g := by
  obtain ⟨L, ⟨n, K, hP, hC⟩, e1, e2, e3⟩ := hq
  rw [e1, e2, e3] at X'
  have V : Ev w Z EL vm0 h B.U.vm B.U.heap ws' := ⟨K, fun _ => hC⟩
  obtain ⟨k0, k1, k2⟩ := X.hS
  rw [X.hT] at hg
  have hZ : Z.Warmed39 B.U.vm := State.Warmed39.trans (t := s.setVm vm0) X.hZ hS.1
  refine (k v B.U.vm B.U B.U.heap L (X.move X' hZ ?_ rfl ⟨_, k1.trans hS (Nat.le_trans k2 hg), Nat.le_refl _⟩ (fun q => by rw [hw] at q; cases q) (X.hN.app n) V (Ok.two hok)) V hP).by fun t r => st.trans r
  rw [hS.1.alike.findClass]; exact X.hown
/-- never MethodHandle or VarHandle -/
abbrev Pl (y : MethodName) : Prop := y.cls ≠ "java/lang/invoke/MethodHandle" ∧ y.cls ≠ "java/lang/invoke/VarHandle"
section Calls
variable {y' z' : MethodName} {bytes' : ByteArray} {ml' idx W : Nat} {ret' : Option FieldType} {rm : Room} {P : Option Value → Heap → Prop} {w' : Bool} {S argsL : List Value} {Q : Option Value → Heap → List Loc → Prop} {cc ss : Nat} {C : String}
/-! calls paid by a Back -/
theorem b_static (X : Wk p l e R s m args below meth c Z a0 EL y bytes ml ret w h0 ws vm0 T h locs cells slots) (hd : decode bytes pc = .ok (.invokestatic idx, 3)) (w1 : (Jvm.Cond.methodLink y.cls idx y').before a0 Z = true) (w2 : (Jvm.Cond.static y').before a0 Z = true) (w3 : (Jvm.Cond.initialized y'.cls).before a0 Z = true) (w4 : (Jvm.Cond.code y' bytes' ml' ret').before a0 Z = true) (hy : Pl y')
    (argsL rest : List Value) (B : Back l R p e below (s.setVm vm0) args y' 3 W (fun A a => a = argsL.toArray ∧ A.U.heap = h ∧ A.cells + cc ≤ R.cells ∧ A.slots + ss ≤ R.slots) (fun A _ v B => ∃ L, Q v B.U.heap L ∧ B.locs = A.locs ++ L ∧ B.cells = A.cells + cc ∧ B.slots = A.slots + ss))
    (hQ : ∀ v h' L, Q v h' L → Fr Z.heap.size L ∧ Keep h h' ws' ∧ P v h') (hok : ∀ x ∈ ws', Ok w Z EL h0 ws vm0 h x) (hlen : ∀ sig, parseMethodDescriptor y'.desc = some sig → argsL.length = sig.parameters.length) (hS : S = argsL.reverse ++ rest) (hW : (rest.map fun v => v.category).sum ≤ W) (hc : cells + cc ≤ R.cells) (hs : slots + ss ≤ R.slots) (hsz : Ls.size = ml) (hp : pc + 3 = pc')
    (k : ∀ v vm1 T' h' L, Wk p l e R s m args below meth c Z a0 EL y bytes ml ret w h0 ws vm1 T' h' (locs ++ L) (cells + cc) (slots + ss) → Ev w Z EL vm0 h vm1 h' ws' → P v h' → Go p e below F T' (mkF m pc' Ls (v.toList ++ rest))) : Go p e below F T (mkF m pc Ls S) := by
  subst hp hS
  obtain ⟨v, vm, B, -, X', hq, st⟩ := Jvm.LawKit.callS X.st X.hx X.hown (mvT X.hZ w1) (mvT X.hZ w2) (mvT X.hZ w3) (mvT X.hZ w4) hy B (g := mkF m pc Ls (argsL.reverse ++ rest)) rfl (hsz.trans X.hml.symm) hlen rfl (by show 2 * 0 + _ ≤ _; omega) (hb X.hby hd) (fun _ _ => ⟨rfl, X.hT, hc, hs⟩)
  exact goB X X' hq (st _ (Steps.refl _)) hQ hok k
theorem b_special (X : Wk p l e R s m args below meth c Z a0 EL y bytes ml ret w h0 ws vm0 T h locs cells slots) (hd : decode bytes pc = .ok (.invokespecial idx, 3)) (hn : y'.name = "<init>") (w1 : (Jvm.Cond.methodLink y.cls idx y').before a0 Z = true) (w2 : (Jvm.Cond.instanceMethod y').before a0 Z = true) (w4 : (Jvm.Cond.code y' bytes' ml' none).before a0 Z = true) (hy : Pl y')
    (a : Addr) (argsL rest : List Value) (B : Back l R p e below (s.setVm vm0) args y' 3 W (fun A a' => a' = (.ref a :: argsL).toArray ∧ A.U.heap = h ∧ A.cells + cc ≤ R.cells ∧ A.slots + ss ≤ R.slots) (fun A _ v B => ∃ L, Q v B.U.heap L ∧ B.locs = A.locs ++ L ∧ B.cells = A.cells + cc ∧ B.slots = A.slots + ss))
    (hQ : ∀ v h' L, Q v h' L → Fr Z.heap.size L ∧ Keep h h' ws' ∧ P v h') (hok : ∀ x ∈ ws', Ok w Z EL h0 ws vm0 h x) (hlen : ∀ sig, parseMethodDescriptor y'.desc = some sig → argsL.length = sig.parameters.length) (hS : S = argsL.reverse ++ .ref a :: rest) (hW : (rest.map fun v => v.category).sum ≤ W) (hc : cells + cc ≤ R.cells) (hs : slots + ss ≤ R.slots) (hsz : Ls.size = ml) (hp : pc + 3 = pc')
    (k : ∀ v vm1 T' h' L, Wk p l e R s m args below meth c Z a0 EL y bytes ml ret w h0 ws vm1 T' h' (locs ++ L) (cells + cc) (slots + ss) → Ev w Z EL vm0 h vm1 h' ws' → P v h' → Go p e below F T' (mkF m pc' Ls (v.toList ++ rest))) : Go p e below F T (mkF m pc Ls S) := by
  subst hp hS
  obtain ⟨v, vm, B, -, X', hq, st⟩ := X.st.specialBack X.hx hn X.hown (mvT X.hZ w1) (mvT X.hZ w2) (mvT X.hZ w4) hy B (g := mkF m pc Ls (argsL.reverse ++ .ref a :: rest)) rfl (hsz.trans X.hml.symm) (Steps.refl _) hlen rfl (by show 2 * 0 + _ ≤ _; omega) (hb X.hby hd) (fun _ _ => ⟨rfl, X.hT, hc, hs⟩)
  exact goB X X' hq st hQ hok k
theorem b_virtual (X : Wk p l e R s m args below meth c Z a0 EL y bytes ml ret w h0 ws vm0 T h locs cells slots) (hd : decode bytes pc = .ok (.invokevirtual idx, 3)) (w1 : (Jvm.Cond.methodLink y.cls idx y').before a0 Z = true) (w2 : (Jvm.Cond.declares y').before a0 Z = true) (hnf : NotFace (s.setVm vm0) y') (w3 : (Jvm.Cond.selects C y' z').before a0 Z = true) (w4 : (Jvm.Cond.instanceMethod z').before a0 Z = true) (hy : Pl y')
    (a : Addr) (argsL rest : List Value) (E : Exa Z h a C) (B : Back l R p e below (s.setVm vm0) args z' 3 W (fun A a' => a' = (.ref a :: argsL).toArray ∧ A.U.heap = h ∧ A.cells + cc ≤ R.cells ∧ A.slots + ss ≤ R.slots) (fun A _ v B => ∃ L, Q v B.U.heap L ∧ B.locs = A.locs ++ L ∧ B.cells = A.cells + cc ∧ B.slots = A.slots + ss))
    (hQ : ∀ v h' L, Q v h' L → Fr Z.heap.size L ∧ Keep h h' ws' ∧ P v h') (hok : ∀ x ∈ ws', Ok w Z EL h0 ws vm0 h x) (hlen : ∀ sig, parseMethodDescriptor y'.desc = some sig → argsL.length = sig.parameters.length) (hS : S = argsL.reverse ++ .ref a :: rest) (hW : (rest.map fun v => v.category).sum ≤ W) (hc : cells + cc ≤ R.cells) (hs : slots + ss ≤ R.slots) (hsz : Ls.size = ml) (hp : pc + 3 = pc')
    (k : ∀ v vm1 T' h' L, Wk p l e R s m args below meth c Z a0 EL y bytes ml ret w h0 ws vm1 T' h' (locs ++ L) (cells + cc) (slots + ss) → Ev w Z EL vm0 h vm1 h' ws' → P v h' → Go p e below F T' (mkF m pc' Ls (v.toList ++ rest))) : Go p e below F T (mkF m pc Ls S) := by
  subst hp hS
  obtain ⟨cq, kq, qa, qb, qc⟩ := isOf (s := s.setVm vm0) X.hZ X.hT E
  obtain ⟨v, vm, B, -, X', hq, st⟩ := X.st.virtualBack X.hx X.hown (mvT X.hZ w1) (mvT X.hZ w2) hnf (mvT X.hZ w3) (mvT X.hZ w4) hy B qa qc (g := mkF m pc Ls (argsL.reverse ++ .ref a :: rest)) rfl (hsz.trans X.hml.symm) (Steps.refl _) hlen rfl (by show 2 * 0 + _ ≤ _; omega) (hb X.hby hd) (fun _ _ => ⟨rfl, X.hT, hc, hs⟩)
  exact goB X X' hq st hQ hok k
/-! calls paid by a contract -/
theorem c_static (X : Wk p l e R s m args below meth c Z a0 EL y bytes ml ret w h0 ws vm0 T h locs cells slots) (hd : decode bytes pc = .ok (.invokestatic idx, 3)) (w1 : (Jvm.Cond.methodLink y.cls idx y').before a0 Z = true) (w2 : (Jvm.Cond.static y').before a0 Z = true) (w3 : (Jvm.Cond.initialized y'.cls).before a0 Z = true) (w4 : (Jvm.Cond.code y' bytes' ml' ret').before a0 Z = true) (hy : Pl y')
    (argsL rest : List Value) (W : Nat) (H : Ctr w' l Z a0 EL y' bytes' ml' ret' rm argsL.toArray h ws' P) (hww : w' = true → w = true) (hok : ∀ x ∈ ws', Ok w Z EL h0 ws vm0 h x) (hlen : ∀ sig, parseMethodDescriptor y'.desc = some sig → argsL.length = sig.parameters.length) (hS : S = argsL.reverse ++ rest) (hW : (rest.map fun v => v.category).sum ≤ W) (hf : rm.frames + 1 ≤ R.frames) (hl : W + (ml' + 11) + rm.locals ≤ R.locals) (hc : cells + rm.cells ≤ R.cells) (hs : slots + rm.slots ≤ R.slots) (hsz : Ls.size = ml) (hp : pc + 3 = pc')
    (k : ∀ v vm1 T' h' L, Wk p l e R s m args below meth c Z a0 EL y bytes ml ret w h0 ws vm1 T' h' (locs ++ L) (cells + rm.cells) (slots + rm.slots) → Ev w Z EL vm0 h vm1 h' ws' → P v h' → Go p e below F T' (mkF m pc' Ls (v.toList ++ rest))) : Go p e below F T (mkF m pc Ls S) := by
  cases hw' : w' with
  | false => exact b_static X hd w1 w2 w3 w4 hy argsL rest (Ctr.back hw' H X.hZ w4 w3 hf hl) (fun v h' L q => q) hok hlen hS hW hc hs hsz hp k
  | true =>
    subst hp hS
    have hw := hww hw'
    obtain ⟨v, vm, B, -, X', hsi, hg, hq, st⟩ := callSS X.st X.hx X.hown (mvT X.hZ w1) (mvT X.hZ w2) (mvT X.hZ w3) (mvT X.hZ w4) hy (Ctr.backS hw' H X.hZ w4 w3 hf hl X.hEW (X.chv hw) fun x hx => ⟨(hok x hx).1, (hok x hx).2.2.2 hw⟩) (g := mkF m pc Ls (argsL.reverse ++ rest)) rfl (hsz.trans X.hml.symm) hlen rfl (by show 2 * 0 + _ ≤ _; omega) (hb X.hby hd) (fun _ _ => ⟨rfl, X.hT, hc, hs⟩)
    exact goS hw X X' hsi hg hq st hok k
theorem c_special (X : Wk p l e R s m args below meth c Z a0 EL y bytes ml ret w h0 ws vm0 T h locs cells slots) (hd : decode bytes pc = .ok (.invokespecial idx, 3)) (hn : y'.name = "<init>") (w1 : (Jvm.Cond.methodLink y.cls idx y').before a0 Z = true) (w2 : (Jvm.Cond.instanceMethod y').before a0 Z = true) (w3 : (Jvm.Cond.initialized y'.cls).before a0 Z = true) (w4 : (Jvm.Cond.code y' bytes' ml' none).before a0 Z = true) (hy : Pl y')
    (a : Addr) (argsL rest : List Value) (W : Nat) (H : Ctr w' l Z a0 EL y' bytes' ml' none rm (.ref a :: argsL).toArray h ws' P) (hww : w' = true → w = true) (hok : ∀ x ∈ ws', Ok w Z EL h0 ws vm0 h x) (hlen : ∀ sig, parseMethodDescriptor y'.desc = some sig → argsL.length = sig.parameters.length) (hS : S = argsL.reverse ++ .ref a :: rest) (hW : (rest.map fun v => v.category).sum ≤ W) (hf : rm.frames + 1 ≤ R.frames) (hl : W + (ml' + 11) + rm.locals ≤ R.locals) (hc : cells + rm.cells ≤ R.cells) (hs : slots + rm.slots ≤ R.slots) (hsz : Ls.size = ml) (hp : pc + 3 = pc')
    (k : ∀ v vm1 T' h' L, Wk p l e R s m args below meth c Z a0 EL y bytes ml ret w h0 ws vm1 T' h' (locs ++ L) (cells + rm.cells) (slots + rm.slots) → Ev w Z EL vm0 h vm1 h' ws' → P v h' → Go p e below F T' (mkF m pc' Ls (v.toList ++ rest))) : Go p e below F T (mkF m pc Ls S) := by
  cases hw' : w' with
  | false => exact b_special X hd hn w1 w2 w4 hy a argsL rest (Ctr.back hw' H X.hZ w4 w3 hf hl) (fun v h' L q => q) hok hlen hS hW hc hs hsz hp k
  | true =>
    subst hp hS
    have hw := hww hw'
    obtain ⟨v, vm, B, -, X', hsi, hg, hq, st⟩ := X.st.specialBackS X.hx hn X.hown (mvT X.hZ w1) (mvT X.hZ w2) (mvT X.hZ w4) hy (Ctr.backS hw' H X.hZ w4 w3 hf hl X.hEW (X.chv hw) fun x hx => ⟨(hok x hx).1, (hok x hx).2.2.2 hw⟩) (g := mkF m pc Ls (argsL.reverse ++ .ref a :: rest)) rfl (hsz.trans X.hml.symm) (Steps.refl _) hlen rfl (by show 2 * 0 + _ ≤ _; omega) (hb X.hby hd) (fun _ _ => ⟨rfl, X.hT, hc, hs⟩)
    exact goS hw X X' hsi hg hq st hok k
theorem c_virtual (X : Wk p l e R s m args below meth c Z a0 EL y bytes ml ret w h0 ws vm0 T h locs cells slots) (hd : decode bytes pc = .ok (.invokevirtual idx, 3)) (w1 : (Jvm.Cond.methodLink y.cls idx y').before a0 Z = true) (w2 : (Jvm.Cond.declares y').before a0 Z = true) (hnf : NotFace (s.setVm vm0) y') (w3 : (Jvm.Cond.selects C y' z').before a0 Z = true) (w4 : (Jvm.Cond.instanceMethod z').before a0 Z = true) (w5 : (Jvm.Cond.initialized z'.cls).before a0 Z = true) (w6 : (Jvm.Cond.code z' bytes' ml' ret').before a0 Z = true) (hy : Pl y')
    (a : Addr) (argsL rest : List Value) (W : Nat) (E : Exa Z h a C) (H : Ctr w' l Z a0 EL z' bytes' ml' ret' rm (.ref a :: argsL).toArray h ws' P) (hww : w' = true → w = true) (hok : ∀ x ∈ ws', Ok w Z EL h0 ws vm0 h x) (hlen : ∀ sig, parseMethodDescriptor y'.desc = some sig → argsL.length = sig.parameters.length) (hS : S = argsL.reverse ++ .ref a :: rest) (hW : (rest.map fun v => v.category).sum ≤ W) (hf : rm.frames + 1 ≤ R.frames) (hl : W + (ml' + 11) + rm.locals ≤ R.locals) (hc : cells + rm.cells ≤ R.cells) (hs : slots + rm.slots ≤ R.slots) (hsz : Ls.size = ml) (hp : pc + 3 = pc')
    (k : ∀ v vm1 T' h' L, Wk p l e R s m args below meth c Z a0 EL y bytes ml ret w h0 ws vm1 T' h' (locs ++ L) (cells + rm.cells) (slots + rm.slots) → Ev w Z EL vm0 h vm1 h' ws' → P v h' → Go p e below F T' (mkF m pc' Ls (v.toList ++ rest))) : Go p e below F T (mkF m pc Ls S) := by
  cases hw' : w' with
  | false => exact b_virtual X hd w1 w2 hnf w3 w4 hy a argsL rest E (Ctr.back hw' H X.hZ w6 w5 hf hl) (fun v h' L q => q) hok hlen hS hW hc hs hsz hp k
  | true =>
    subst hp hS
    have hw := hww hw'
    obtain ⟨cq, kq, qa, qb, qc⟩ := isOf (s := s.setVm vm0) X.hZ X.hT E
    obtain ⟨v, vm, B, -, X', hsi, hg, hq, st⟩ := X.st.virtualBackS X.hx X.hown (mvT X.hZ w1) (mvT X.hZ w2) hnf (mvT X.hZ w3) (mvT X.hZ w4) hy (Ctr.backS hw' H X.hZ w6 w5 hf hl X.hEW (X.chv hw) fun x hx => ⟨(hok x hx).1, (hok x hx).2.2.2 hw⟩) qa qc (g := mkF m pc Ls (argsL.reverse ++ .ref a :: rest)) rfl (hsz.trans X.hml.symm) (Steps.refl _) hlen rfl (by show 2 * 0 + _ ≤ _; omega) (hb X.hby hd) (fun _ _ => ⟨rfl, X.hT, hc, hs⟩)
    exact goS hw X X' hsi hg hq st hok k
theorem b_interface {count : Nat} (X : Wk p l e R s m args below meth c Z a0 EL y bytes ml ret w h0 ws vm0 T h locs cells slots) (hd : decode bytes pc = .ok (.invokeinterface idx count, 5)) (w1 : (Jvm.Cond.methodLink y.cls idx y').before a0 Z = true) (w2 : (Jvm.Cond.declares y').before a0 Z = true) (w3 : (Jvm.Cond.interfaceMethod y'.cls y'.cls y'.name y'.desc).before a0 Z = true) (hfc : ((Jvm.Cond.interfaceMethod y'.cls y'.cls y'.name y'.desc).onTables && (Jvm.Cond.interfaceMethod y'.cls y'.cls y'.name y'.desc).keepsFace) = true) (w4 : (Jvm.Cond.selects C y' z').before a0 Z = true) (w5 : (Jvm.Cond.instanceMethod z').before a0 Z = true) (w6 : (Jvm.Cond.publicMethod z').before a0 Z = true) (w7 : (Jvm.Cond.unhidden C y'.name y'.desc).before a0 Z = true) (w8 : (Jvm.Cond.castable C y'.cls).before a0 Z = true) (hy : Pl y')
    (a : Addr) (argsL rest : List Value) (E : Exa Z h a C) (B : Back l R p e below (s.setVm vm0) args z' 5 W (fun A a' => a' = (.ref a :: argsL).toArray ∧ A.U.heap = h ∧ A.cells + cc ≤ R.cells ∧ A.slots + ss ≤ R.slots) (fun A _ v B => ∃ L, Q v B.U.heap L ∧ B.locs = A.locs ++ L ∧ B.cells = A.cells + cc ∧ B.slots = A.slots + ss))
    (hQ : ∀ v h' L, Q v h' L → Fr Z.heap.size L ∧ Keep h h' ws' ∧ P v h') (hok : ∀ x ∈ ws', Ok w Z EL h0 ws vm0 h x) (hlen : ∀ sig, parseMethodDescriptor y'.desc = some sig → argsL.length = sig.parameters.length) (hS : S = argsL.reverse ++ .ref a :: rest) (hW : (rest.map fun v => v.category).sum ≤ W) (hc : cells + cc ≤ R.cells) (hs : slots + ss ≤ R.slots) (hsz : Ls.size = ml) (hp : pc + 5 = pc')
    (k : ∀ v vm1 T' h' L, Wk p l e R s m args below meth c Z a0 EL y bytes ml ret w h0 ws vm1 T' h' (locs ++ L) (cells + cc) (slots + ss) → Ev w Z EL vm0 h vm1 h' ws' → P v h' → Go p e below F T' (mkF m pc' Ls (v.toList ++ rest))) : Go p e below F T (mkF m pc Ls S) := by
  subst hp hS
  obtain ⟨cq, kq, qa, qb, qc⟩ := isOf (s := s.setVm vm0) X.hZ X.hT E
  obtain ⟨v, vm, B, -, X', hq, st⟩ := X.st.interfaceBack X.hx X.hown (mvT X.hZ w1) (mvT X.hZ w2) (mvT X.hZ w3 hfc) (mvT X.hZ w4) (mvT X.hZ w5) (mvT X.hZ w6) (mvT X.hZ w7) (mvT X.hZ w8) hy B qa qb qc (g := mkF m pc Ls (argsL.reverse ++ .ref a :: rest)) rfl (hsz.trans X.hml.symm) (Steps.refl _) hlen rfl (by show 2 * 0 + _ ≤ _; omega) (hb X.hby hd) (fun _ _ => ⟨rfl, X.hT, hc, hs⟩)
  exact goB X X' hq st hQ hok k
theorem c_interface {count : Nat} (X : Wk p l e R s m args below meth c Z a0 EL y bytes ml ret w h0 ws vm0 T h locs cells slots) (hd : decode bytes pc = .ok (.invokeinterface idx count, 5)) (w1 : (Jvm.Cond.methodLink y.cls idx y').before a0 Z = true) (w2 : (Jvm.Cond.declares y').before a0 Z = true) (w3 : (Jvm.Cond.interfaceMethod y'.cls y'.cls y'.name y'.desc).before a0 Z = true) (hfc : ((Jvm.Cond.interfaceMethod y'.cls y'.cls y'.name y'.desc).onTables && (Jvm.Cond.interfaceMethod y'.cls y'.cls y'.name y'.desc).keepsFace) = true) (w4 : (Jvm.Cond.selects C y' z').before a0 Z = true) (w5 : (Jvm.Cond.instanceMethod z').before a0 Z = true) (w6 : (Jvm.Cond.publicMethod z').before a0 Z = true) (w7 : (Jvm.Cond.unhidden C y'.name y'.desc).before a0 Z = true) (w8 : (Jvm.Cond.castable C y'.cls).before a0 Z = true) (wz : (Jvm.Cond.initialized z'.cls).before a0 Z = true) (wc : (Jvm.Cond.code z' bytes' ml' ret').before a0 Z = true) (hy : Pl y')
    (a : Addr) (argsL rest : List Value) (W : Nat) (E : Exa Z h a C) (H : Ctr w' l Z a0 EL z' bytes' ml' ret' rm (.ref a :: argsL).toArray h ws' P) (hww : w' = true → w = true) (hok : ∀ x ∈ ws', Ok w Z EL h0 ws vm0 h x) (hlen : ∀ sig, parseMethodDescriptor y'.desc = some sig → argsL.length = sig.parameters.length) (hS : S = argsL.reverse ++ .ref a :: rest) (hW : (rest.map fun v => v.category).sum ≤ W) (hf : rm.frames + 1 ≤ R.frames) (hl : W + (ml' + 11) + rm.locals ≤ R.locals) (hc : cells + rm.cells ≤ R.cells) (hs : slots + rm.slots ≤ R.slots) (hsz : Ls.size = ml) (hp : pc + 5 = pc')
    (k : ∀ v vm1 T' h' L, Wk p l e R s m args below meth c Z a0 EL y bytes ml ret w h0 ws vm1 T' h' (locs ++ L) (cells + rm.cells) (slots + rm.slots) → Ev w Z EL vm0 h vm1 h' ws' → P v h' → Go p e below F T' (mkF m pc' Ls (v.toList ++ rest))) : Go p e below F T (mkF m pc Ls S) := by
  cases hw' : w' with
  | false => exact b_interface X hd w1 w2 w3 hfc w4 w5 w6 w7 w8 hy a argsL rest E (Ctr.back hw' H X.hZ wc wz hf hl) (fun v h' L q => q) hok hlen hS hW hc hs hsz hp k
  | true =>
    subst hp hS
    have hw := hww hw'
    obtain ⟨cq, kq, qa, qb, qc⟩ := isOf (s := s.setVm vm0) X.hZ X.hT E
    obtain ⟨v, vm, B, -, X', hsi, hg, hq, st⟩ := X.st.interfaceBackS X.hx X.hown (mvT X.hZ w1) (mvT X.hZ w2) (mvT X.hZ w3 hfc) (mvT X.hZ w4) (mvT X.hZ w5) (mvT X.hZ w6) (mvT X.hZ w7) (mvT X.hZ w8) hy (Ctr.backS hw' H X.hZ wc wz hf hl X.hEW (X.chv hw) fun x hx => ⟨(hok x hx).1, (hok x hx).2.2.2 hw⟩) qa qb qc (g := mkF m pc Ls (argsL.reverse ++ .ref a :: rest)) rfl (hsz.trans X.hml.symm) (Steps.refl _) hlen rfl (by show 2 * 0 + _ ≤ _; omega) (hb X.hby hd) (fun _ _ => ⟨rfl, X.hT, hc, hs⟩)
    exact goS hw X X' hsi hg hq st hok k
end Calls
/-! steps that make or write -/
theorem s_initO {idx : Nat} (X : Wk p l e R s m args below meth c Z a0 EL y bytes ml ret w h0 ws vm0 T h locs cells slots) (hd : decode bytes pc = .ok (.invokespecial idx, 3)) (w1 : (Jvm.Cond.methodLink y.cls idx Lib.objectInit).before a0 Z = true) (w2 : (Jvm.Cond.instanceMethod Lib.objectInit).before a0 Z = true) (w3 : (Jvm.Cond.code Lib.objectInit ⟨#[0xb1]⟩ 1 none).before a0 Z = true) (W : Nat) (hW : (rest.map fun v => v.category).sum ≤ W) (hf : 1 ≤ R.frames) (hl : W + 12 ≤ R.locals) (hsz : Ls.size = ml) (hp : pc + 3 = pc')
    (k : ∀ T', Wk p l e R s m args below meth c Z a0 EL y bytes ml ret w h0 ws vm0 T' h locs cells slots → Go p e below F T' (mkF m pc' Ls rest)) : Go p e below F T (mkF m pc Ls (.ref a :: rest)) := by
  subst hp
  obtain ⟨T', X', e', st⟩ := initO X.st X.hx X.hZ X.hown w1 w2 w3 X.hT (g := mkF m pc Ls (.ref a :: rest)) rfl (hsz.trans X.hml.symm) rfl (hb X.hby hd) hf (W := W) (by show 2 * 0 + _ ≤ _; omega) hl
  exact (k T' (X.same X' e' X.hN X.evR two0)).by fun t r => st t r
theorem s_new {idx n : Nat} {C : String} (X : Wk p l e R s m args below meth c Z a0 EL y bytes ml ret w h0 ws vm0 T h locs cells slots) (hd : decode bytes pc = .ok (.new idx, 3)) (w1 : (Jvm.Cond.classLink y.cls idx C).before a0 Z = true) (w2 : (Jvm.Cond.instantiable C n).before a0 Z = true) (w3 : (Jvm.Cond.initialized C).before a0 Z = true) (hc : cells + 1 ≤ R.cells) (hs : slots + n ≤ R.slots) (hp : pc + 3 = pc')
    (k : ∀ a T' h', Wk p l e R s m args below meth c Z a0 EL y bytes ml ret w h0 ws vm0 T' h' locs (cells + 1) (slots + n) → Ev w Z EL vm0 h vm0 h' [] → h.size ≤ a → Exa Z h' a C → Ok w Z EL h0 ws vm0 h' a → (∀ {O nm d : String} {ty : FieldType}, Laid Z a0 C O nm d → parseFieldDescriptor d = some ty → Fld Z h' a O nm d (defaultValue ty)) → Go p e below F T' (mkF m pc' Ls (.ref a :: rest))) : Go p e below F T (mkF m pc Ls rest) := by
  subst hp
  obtain ⟨T', h', X', e', E, A, D, -, st⟩ := newO X.st X.hx X.hZ X.hown w1 w2 w3 X.hT (g := mkF m pc Ls rest) rfl (hb X.hby hd) hc hs
  have V := X.evE E
  exact (k h.size T' h' (X.same X' e' X.hN V two0) V (Nat.le_refl _) A (X.okNew E A.lt) D).by fun t r => st t r
theorem s_newarray {aty : ArrayType} {n : Int32} (X : Wk p l e R s m args below meth c Z a0 EL y bytes ml ret w h0 ws vm0 T h locs cells slots) (hd : decode bytes pc = .ok (.newarray aty, 2)) (w1 : (Jvm.Cond.arrayClass (newarray.typeOf aty)).before a0 Z = true) (hn : ¬ n < 0) (cap : Nat) (hcap : n.toNatClampNeg ≤ cap) (hbg : cap * 8 ≤ 536870912) (hc : cells + 1 ≤ R.cells) (hs : slots + cap ≤ R.slots) (hp : pc + 2 = pc')
    (k : ∀ a T' h' kc, Wk p l e R s m args below meth c Z a0 EL y bytes ml ret w h0 ws vm0 T' h' locs (cells + 1) (slots + cap) → Ev w Z EL vm0 h vm0 h' [] → h.size ≤ a → Arv Z h' a kc (newarray.typeOf aty) n [] (defaultValue (newarray.typeOf aty)) → Ok w Z EL h0 ws vm0 h' a → Go p e below F T' (mkF m pc' Ls (.ref a :: rest))) : Go p e below F T (mkF m pc Ls (.int n :: rest)) := by
  subst hp
  obtain ⟨T', h', kc, X', e', E, A, st⟩ := newP X.st X.hx X.hZ w1 X.hT (g := mkF m pc Ls (.int n :: rest)) rfl (hb X.hby hd) rfl hn hcap hbg hc hs
  have V := X.evE E
  exact (k h.size T' h' kc (X.same X' e' X.hN V two0) V (Nat.le_refl _) (Arv.new A hn) (X.okNew E A.lt)).by fun t r => st t r
theorem s_putfield {idx kk : Nat} {O nm d C : String} {old v : Value} {ty : FieldType} (X : Wk p l e R s m args below meth c Z a0 EL y bytes ml ret w h0 ws vm0 T h locs cells slots) (hd : decode bytes pc = .ok (.putfield idx, 3)) (w1 : (Jvm.Cond.fieldLink y.cls idx O nm d).before a0 Z = true) (Fo : Fld Z h a O nm d old) (E : Exa Z h a C) (L : (Jvm.Cond.lays C O nm d).before a0 Z = true ∨ ((Jvm.Cond.laysFinal C O nm d).before a0 Z = true ∧ y.cls = O ∧ y.name = "<init>")) (wi : (Jvm.Cond.instantiable C kk).before a0 Z = true) (hty : parseFieldDescriptor d = some ty) (hn : narrow ty v = v) (hf : fits ty v = true) (Oa : Ok w Z EL h0 ws vm0 h a) (hp : pc + 3 = pc')
    (k : ∀ T' h', Wk p l e R s m args below meth c Z a0 EL y bytes ml ret w h0 ws vm0 T' h' (locs ++ [⟨a, Jvm.RoadKit.slotOf Z O nm d⟩]) cells slots → Ev w Z EL vm0 h vm0 h' [a] → Wr h h' a (Jvm.RoadKit.slotOf Z O nm d) v → Go p e below F T' (mkF m pc' Ls rest)) : Go p e below F T (mkF m pc Ls (v :: .ref a :: rest)) := by
  subst hp
  obtain ⟨T', h', X', e', W, st⟩ := putF X.st X.hx X.hZ X.hown (host := "") (Or.inl w1) Via.refl X.hT Fo E (L.imp id fun q => ⟨q.1, q.2.1, X.hnm.trans q.2.2⟩) wi hty hn hf (g := mkF m pc Ls (v :: .ref a :: rest)) rfl rfl (hb X.hby hd)
  have V := X.evW W Oa
  exact (k T' h' (X.same X' e' (Fr.snoc X' X.hN Oa.2.1) V (Ok.two Oa.one)) V W).by fun t r => st t r
theorem s_putfieldN {idx kk : Nat} {O nm d C : String} {old v v' : Value} {ty : FieldType} (X : Wk p l e R s m args below meth c Z a0 EL y bytes ml ret w h0 ws vm0 T h locs cells slots) (hd : decode bytes pc = .ok (.putfield idx, 3)) (w1 : (Jvm.Cond.fieldLink y.cls idx O nm d).before a0 Z = true) (Fo : Fld Z h a O nm d old) (E : Exa Z h a C) (L : (Jvm.Cond.lays C O nm d).before a0 Z = true ∨ ((Jvm.Cond.laysFinal C O nm d).before a0 Z = true ∧ y.cls = O ∧ y.name = "<init>")) (wi : (Jvm.Cond.instantiable C kk).before a0 Z = true) (hty : parseFieldDescriptor d = some ty) (hn : narrow ty v = v') (hf : fits ty v' = true) (Oa : Ok w Z EL h0 ws vm0 h a) (hp : pc + 3 = pc')
    (k : ∀ T' h', Wk p l e R s m args below meth c Z a0 EL y bytes ml ret w h0 ws vm0 T' h' (locs ++ [⟨a, Jvm.RoadKit.slotOf Z O nm d⟩]) cells slots → Ev w Z EL vm0 h vm0 h' [a] → Wr h h' a (Jvm.RoadKit.slotOf Z O nm d) v' → Go p e below F T' (mkF m pc' Ls rest)) : Go p e below F T (mkF m pc Ls (v :: .ref a :: rest)) := by
  subst hp
  obtain ⟨T', h', X', e', W, st⟩ := putFN X.st X.hx X.hZ X.hown w1 Via.refl X.hT Fo E (L.imp id fun q => ⟨q.1, q.2.1, X.hnm.trans q.2.2⟩) wi hty hn hf (g := mkF m pc Ls (v :: .ref a :: rest)) rfl rfl (hb X.hby hd)
  have V := X.evW W Oa
  exact (k T' h' (X.same X' e' (Fr.snoc X' X.hN Oa.2.1) V (Ok.two Oa.one)) V W).by fun t r => st t r
theorem s_getfield {idx : Nat} {O nm d : String} {v : Value} (X : Wk p l e R s m args below meth c Z a0 EL y bytes ml ret w h0 ws vm0 T h locs cells slots) (hd : decode bytes pc = .ok (.getfield idx, 3)) (w1 : (Jvm.Cond.fieldLink y.cls idx O nm d).before a0 Z = true) (Fo : Fld Z h a O nm d v) (hp : pc + 3 = pc')
    (k : ∀ T', Wk p l e R s m args below meth c Z a0 EL y bytes ml ret w h0 ws vm0 T' h locs cells slots → Go p e below F T' (mkF m pc' Ls (v :: rest))) : Go p e below F T (mkF m pc Ls (.ref a :: rest)) := by
  subst hp
  obtain ⟨T', X', e', st⟩ := getF X.st X.hx X.hZ X.hown (host := "") (Or.inl w1) Via.refl X.hT Fo (g := mkF m pc Ls (.ref a :: rest)) rfl rfl (hb X.hby hd)
  exact (k T' (X.same X' e' X.hN X.evR two0)).by fun t r => st t r
theorem s_getstatic {idx : Nat} {O nm d : String} {v : Value} (X : Wk p l e R s m args below meth c Z a0 EL y bytes ml ret w h0 ws vm0 T h locs cells slots) (hd : decode bytes pc = .ok (.getstatic idx, 3)) (w1 : (Jvm.Cond.fieldLink y.cls idx O nm d).before a0 Z = true) (Fo : Sta Z h O nm d v) (hp : pc + 3 = pc')
    (k : ∀ T', Wk p l e R s m args below meth c Z a0 EL y bytes ml ret w h0 ws vm0 T' h locs cells slots → Go p e below F T' (mkF m pc' Ls (v :: rest))) : Go p e below F T (mkF m pc Ls rest) := by
  subst hp
  obtain ⟨T', X', e', st⟩ := getS2 X.st X.hx X.hZ X.hown (host := "") (Or.inl w1) Via.refl X.hT Fo (g := mkF m pc Ls rest) rfl (hb X.hby hd)
  exact (k T' (X.same X' e' X.hN X.evR two0)).by fun t r => st t r
theorem s_getstaticN {idx : Nat} {O nm d host : String} {v : Value} (X : Wk p l e R s m args below meth c Z a0 EL y bytes ml ret w h0 ws vm0 T h locs cells slots) (hd : decode bytes pc = .ok (.getstatic idx, 3)) (w1 : (Jvm.Cond.fieldLinkNest y.cls idx O nm d host).before a0 Z = true) (Fo : Sta Z h O nm d v) (hp : pc + 3 = pc')
    (k : ∀ T', Wk p l e R s m args below meth c Z a0 EL y bytes ml ret w h0 ws vm0 T' h locs cells slots → Go p e below F T' (mkF m pc' Ls (v :: rest))) : Go p e below F T (mkF m pc Ls rest) := by
  subst hp
  obtain ⟨T', X', e', st⟩ := getS2 X.st X.hx X.hZ X.hown (host := host) (Or.inr w1) Via.refl X.hT Fo (g := mkF m pc Ls rest) rfl (hb X.hby hd)
  exact (k T' (X.same X' e' X.hN X.evR two0)).by fun t r => st t r
theorem s_castore {j z n : Int32} {kc : ClassId} {vs : List Value} {dv : Value} (X : Wk p l e R s m args below meth c Z a0 EL y bytes ml ret w h0 ws vm0 T h locs cells slots) (hd : decode bytes pc = .ok (.castore, 1)) (A : Arv Z h a kc .char n vs dv) (hj : ¬ j < 0 ∧ j < n) (i : Nat) (hi : j.toNatClampNeg = i) (hlt : i < vs.length) (Oa : Ok w Z EL h0 ws vm0 h a) (hp : pc + 1 = pc')
    (k : ∀ T' h', Wk p l e R s m args below meth c Z a0 EL y bytes ml ret w h0 ws vm0 T' h' (locs ++ [⟨a, j.toNatClampNeg⟩]) cells slots → Ev w Z EL vm0 h vm0 h' [a] → Arv Z h' a kc .char n (vs.set i (.int (nar .char z))) dv → Go p e below F T' (mkF m pc' Ls rest)) : Go p e below F T (mkF m pc Ls (.int z :: .int j :: .ref a :: rest)) := by
  subst hp
  obtain ⟨cl, Ar, q1, S, q3, H, G⟩ := A
  obtain ⟨T', h', X', e', W, st⟩ := stC X.st X.hx X.hZ X.hT Ar (inb_of S hj) (g := mkF m pc Ls (.int z :: .int j :: .ref a :: rest)) rfl rfl (hb X.hby hd)
  have V := X.evW W Oa
  exact (k T' h' (X.same X' e' (Fr.snoc X' X.hN Oa.2.1) V (Ok.two Oa.one)) V (Arv.set Ar q1 S q3 H G (fits_nar_char z) W i hi hlt)).by fun t r => st t r
theorem s_bastore {j z n : Int32} {kc : ClassId} {vs : List Value} {dv : Value} (X : Wk p l e R s m args below meth c Z a0 EL y bytes ml ret w h0 ws vm0 T h locs cells slots) (hd : decode bytes pc = .ok (.bastore, 1)) (A : Arv Z h a kc .byte n vs dv) (hj : ¬ j < 0 ∧ j < n) (i : Nat) (hi : j.toNatClampNeg = i) (hlt : i < vs.length) (Oa : Ok w Z EL h0 ws vm0 h a) (hp : pc + 1 = pc')
    (k : ∀ T' h', Wk p l e R s m args below meth c Z a0 EL y bytes ml ret w h0 ws vm0 T' h' (locs ++ [⟨a, j.toNatClampNeg⟩]) cells slots → Ev w Z EL vm0 h vm0 h' [a] → Arv Z h' a kc .byte n (vs.set i (.int z.toInt8.toInt32)) dv → Go p e below F T' (mkF m pc' Ls rest)) : Go p e below F T (mkF m pc Ls (.int z :: .int j :: .ref a :: rest)) := by
  subst hp
  obtain ⟨cl, Ar, q1, S, q3, H, G⟩ := A
  obtain ⟨T', h', X', e', W, st⟩ := stB X.st X.hx X.hZ X.hT Ar (inb_of S hj) (g := mkF m pc Ls (.int z :: .int j :: .ref a :: rest)) rfl rfl (hb X.hby hd)
  have V := X.evW W Oa
  exact (k T' h' (X.same X' e' (Fr.snoc X' X.hN Oa.2.1) V (Ok.two Oa.one)) V (Arv.set Ar q1 S q3 H G (fits_nar_byte z) W i hi hlt)).by fun t r => st t r
theorem s_caload {j n z : Int32} {kc : ClassId} {vs : List Value} {dv : Value} (X : Wk p l e R s m args below meth c Z a0 EL y bytes ml ret w h0 ws vm0 T h locs cells slots) (hd : decode bytes pc = .ok (.caload, 1)) (A : Arv Z h a kc .char n vs dv) (hj : ¬ j < 0 ∧ j < n) (hz : vs.getD j.toNatClampNeg dv = .int z) (hp : pc + 1 = pc')
    (k : Go p e below F T (mkF m pc' Ls (.int z :: rest))) : Go p e below F T (mkF m pc Ls (.int j :: .ref a :: rest)) := by
  subst hp
  obtain ⟨cl, Ar, q1, S, q3, H, G⟩ := A
  exact k.by fun t r => X.st.caload X.hx (j := j) (v := .int z) (by rw [X.hT]; exact Ar.1) (State.isArrayOf_alike X.hZ.alike Ar.2.1) Ar.2.2 (inb_of S hj) (H.at (inb_of S hj) hz) (g := mkF m pc Ls (.int j :: .ref a :: rest)) rfl rfl (hb X.hby hd) t r
theorem s_baload {j n z : Int32} {kc : ClassId} {vs : List Value} {dv : Value} (X : Wk p l e R s m args below meth c Z a0 EL y bytes ml ret w h0 ws vm0 T h locs cells slots) (hd : decode bytes pc = .ok (.baload, 1)) (A : Arv Z h a kc .byte n vs dv) (hj : ¬ j < 0 ∧ j < n) (hz : vs.getD j.toNatClampNeg dv = .int z) (hp : pc + 1 = pc')
    (k : Go p e below F T (mkF m pc' Ls (.int z :: rest))) : Go p e below F T (mkF m pc Ls (.int j :: .ref a :: rest)) := by
  subst hp
  obtain ⟨cl, Ar, q1, S, q3, H, G⟩ := A
  exact k.by fun t r => X.st.baloadBytes X.hx (j := j) (v := .int z) (by rw [X.hT]; exact Ar.1) (State.isArrayOf_alike X.hZ.alike Ar.2.1) Ar.2.2 (inb_of S hj) (H.at (inb_of S hj) hz) (g := mkF m pc Ls (.int j :: .ref a :: rest)) rfl rfl (hb X.hby hd) t r
theorem s_arraylength {n : Int32} {kc : ClassId} {ty : FieldType} {vs : List Value} {dv : Value} (X : Wk p l e R s m args below meth c Z a0 EL y bytes ml ret w h0 ws vm0 T h locs cells slots) (hd : decode bytes pc = .ok (.arraylength, 1)) (A : Arv Z h a kc ty n vs dv) (hp : pc + 1 = pc')
    (k : Go p e below F T (mkF m pc' Ls (.int n :: rest))) : Go p e below F T (mkF m pc Ls (.ref a :: rest)) := by
  subst hp
  obtain ⟨cl, Ar, q1, S, q3, H, G⟩ := A
  refine k.by fun t r => X.st.arraylength X.hx (by rw [X.hT]; exact Ar.1) (State.isArrayOf_alike X.hZ.alike Ar.2.1) (g := mkF m pc Ls (.ref a :: rest)) rfl rfl (hb X.hby hd) t ?_
  rw [len_of S q3]; exact r
theorem s_castY {idx : Nat} {K : String} (X : Wk p l e R s m args below meth c Z a0 EL y bytes ml ret w h0 ws vm0 T h locs cells slots) (hd : decode bytes pc = .ok (.checkcast idx, 3)) (w1 : (Jvm.Cond.classLink y.cls idx K).before a0 Z = true) (I : Ins Z h a K true) (hp : pc + 3 = pc')
    (k : ∀ T', Wk p l e R s m args below meth c Z a0 EL y bytes ml ret w h0 ws vm0 T' h locs cells slots → Go p e below F T' (mkF m pc' Ls (.ref a :: rest))) : Go p e below F T (mkF m pc Ls (.ref a :: rest)) := by
  subst hp
  obtain ⟨T', X', e', st⟩ := castY X.st X.hx X.hZ X.hown w1 X.hT I (g := mkF m pc Ls (.ref a :: rest)) rfl rfl (hb X.hby hd)
  exact (k T' (X.same X' e' X.hN X.evR two0)).by fun t r => st t r
theorem s_castNull {idx : Nat} (X : Wk p l e R s m args below meth c Z a0 EL y bytes ml ret w h0 ws vm0 T h locs cells slots) (hd : decode bytes pc = .ok (.checkcast idx, 3)) (hp : pc + 3 = pc') (k : Go p e below F T (mkF m pc' Ls (.null :: rest))) : Go p e below F T (mkF m pc Ls (.null :: rest)) := by
  subst hp
  exact k.by fun t r => X.st.checkcastNull X.hx (g := mkF m pc Ls (.null :: rest)) rfl rfl (hb X.hby hd) t r
theorem s_instY {idx : Nat} {K : String} (X : Wk p l e R s m args below meth c Z a0 EL y bytes ml ret w h0 ws vm0 T h locs cells slots) (hd : decode bytes pc = .ok (.instanceof idx, 3)) (w1 : (Jvm.Cond.classLink y.cls idx K).before a0 Z = true) (I : Ins Z h a K true) (hp : pc + 3 = pc')
    (k : ∀ T', Wk p l e R s m args below meth c Z a0 EL y bytes ml ret w h0 ws vm0 T' h locs cells slots → Go p e below F T' (mkF m pc' Ls (.int 1 :: rest))) : Go p e below F T (mkF m pc Ls (.ref a :: rest)) := by
  subst hp
  obtain ⟨T', X', e', st⟩ := instY X.st X.hx X.hZ X.hown w1 X.hT I (g := mkF m pc Ls (.ref a :: rest)) rfl rfl (hb X.hby hd)
  exact (k T' (X.same X' e' X.hN X.evR two0)).by fun t r => st t r
theorem s_instNull {idx : Nat} (X : Wk p l e R s m args below meth c Z a0 EL y bytes ml ret w h0 ws vm0 T h locs cells slots) (hd : decode bytes pc = .ok (.instanceof idx, 3)) (hp : pc + 3 = pc') (k : Go p e below F T (mkF m pc' Ls (.int 0 :: rest))) : Go p e below F T (mkF m pc Ls (.null :: rest)) := by
  subst hp
  exact k.by fun t r => X.st.instanceofNull X.hx (g := mkF m pc Ls (.null :: rest)) rfl rfl (hb X.hby hd) t r
theorem s_ldcI {idx : Nat} {v : Int32} (X : Wk p l e R s m args below meth c Z a0 EL y bytes ml ret w h0 ws vm0 T h locs cells slots) (hd : decode bytes pc = .ok (.ldc idx, 2)) (w1 : (Jvm.Cond.constant y.cls idx v).before a0 Z = true) (hp : pc + 2 = pc') (k : Go p e below F T (mkF m pc' Ls (.int v :: rest))) : Go p e below F T (mkF m pc Ls rest) := by
  subst hp
  exact k.by fun t r => X.st.ldcI X.hx X.hown (mvT X.hZ w1) (g := mkF m pc Ls rest) rfl (hb X.hby hd) r
theorem s_ldcStr {idx : Nat} {text : String} {vs : List Value} {z : Int32} (hw : w = true) (X : Wk p l e R s m args below meth c Z a0 EL y bytes ml ret w h0 ws vm0 T h locs cells slots) (hd : decode bytes pc = .ok (.ldc idx, 2)) (w1 : (Jvm.Cond.stringLink y.cls idx text).before a0 Z = true) (wS : ∀ a ∈ Bundle.stringAtoms, a.before a0 Z = true) (hmem : (y.cls, idx) ∈ EL)
    (ht : (∀ c ∈ text.toList, c.toNat < 256) ∧ text.toList.map (fun c => Value.int (Jvm.Lit.byteI c.toNat.toUInt16)) = vs) (hz : ¬ z < 0) (hl : z.toNatClampNeg = vs.length) (n : Nat) (hn : 4 * text.toList.length ≤ n) (hbig : n ≤ 536870912) (hc : cells + 2 ≤ R.cells) (hs : slots + (n + 4) ≤ R.slots) (hp : pc + 2 = pc')
    (k : ∀ a b kc vm1 T' h', Wk p l e R s m args below meth c Z a0 EL y bytes ml ret w h0 ws vm1 T' h' locs (cells + 2) (slots + (n + 4)) → Ev w Z EL vm0 h vm1 h' [] → Exa Z h' a "java/lang/String" → Fld Z h' a "java/lang/String" "coder" "B" (.int 0) → Fld Z h' a "java/lang/String" "value" "[B" (.ref b) → Arv Z h' b kc .byte z vs (.int 0) → Go p e below F T' (mkF m pc' Ls (.ref a :: rest))) : Go p e below F T (mkF m pc Ls rest) := by
  subst hp
  obtain ⟨k0, k1, k2⟩ := X.hS
  obtain ⟨a, T', h', kk, b, kc, X', e', E, hS, hk, hZ, ho, q1, q2, q3, q4, -, -, hC, -, -, st⟩ := ldcCH X.st X.hx X.hZ X.hown w1 wS X.hT k1 k2 X.hEW hmem (X.chv hw) ht hz hl (g := mkF m pc Ls rest) rfl (hb X.hby hd) hn hbig hc hs
  have V : Ev w Z EL vm0 h T'.vm h' [] := ⟨(Keep.refl _ _).ext E, fun _ => hC⟩
  exact (k a b kc T'.vm T' h' (X.move X' hZ ho e' ⟨_, hS, hk⟩ (fun q => by rw [hw] at q; cases q) X.hN V two0) V q1 q2 q3 q4).by fun t r => st t r
theorem s_ldcOpaque {idx : Nat} {text : String} (hw : w = true) (X : Wk p l e R s m args below meth c Z a0 EL y bytes ml ret w h0 ws vm0 T h locs cells slots) (hd : decode bytes pc = .ok (.ldc idx, 2)) (w1 : (Jvm.Cond.stringLink y.cls idx text).before a0 Z = true) (wS : ∀ a ∈ Bundle.stringAtoms, a.before a0 Z = true)
    (n : Nat) (hn : 4 * text.toList.length ≤ n) (hbig : n ≤ 536870912) (hc : cells + 2 ≤ R.cells) (hs : slots + (n + 4) ≤ R.slots) (hp : pc + 2 = pc')
    (k : ∀ a vm1 T' h', Wk p l e R s m args below meth c Z a0 EL y bytes ml ret w h0 ws vm1 T' h' locs (cells + 2) (slots + (n + 4)) → Ev w Z EL vm0 h vm1 h' [] → Go p e below F T' (mkF m pc' Ls (.ref a :: rest))) : Go p e below F T (mkF m pc Ls rest) := by
  subst hp
  obtain ⟨k0, k1, k2⟩ := X.hS
  obtain ⟨a, T', h', kk, X', e', E, hS, hk, hZ, ho, hC, -, st⟩ := ldcOH X.st X.hx X.hZ X.hown w1 wS X.hT k1 k2 X.hEW (X.chv hw) (g := mkF m pc Ls rest) rfl (hb X.hby hd) hn hbig hc hs
  have V : Ev w Z EL vm0 h T'.vm h' [] := ⟨(Keep.refl _ _).ext E, fun _ => hC⟩
  exact (k a T'.vm T' h' (X.move X' hZ ho e' ⟨_, hS, hk⟩ (fun q => by rw [hw] at q; cases q) X.hN V two0) V).by fun t r => st t r
/-! plain steps -/
theorem s_aload {k : Nat} {v : Value} (X : Wk p l e R s m args below meth c Z a0 EL y bytes ml ret w h0 ws vm0 T h locs cells slots) (hd : decode bytes pc = .ok (.aload k, 2)) (hl : Ls[k]? = some (.val v)) (hv : v.isRef = true) (hp : pc + 2 = pc') (k : Go p e below F T (mkF m pc' Ls (v :: rest))) : Go p e below F T (mkF m pc Ls (rest)) := by
  subst hp
  exact k.by fun t r => XS.aload X.st.here X.hx rfl (hb X.hby hd) hl hv r
theorem s_iload {k : Nat} {v : Int32} (X : Wk p l e R s m args below meth c Z a0 EL y bytes ml ret w h0 ws vm0 T h locs cells slots) (hd : decode bytes pc = .ok (.iload k, 2)) (hl : Ls[k]? = some (.val (.int v))) (hp : pc + 2 = pc') (k : Go p e below F T (mkF m pc' Ls (.int v :: rest))) : Go p e below F T (mkF m pc Ls (rest)) := by
  subst hp
  exact k.by fun t r => XS.iload X.st.here X.hx rfl (hb X.hby hd) hl r
theorem s_lload {k : Nat} {v : Int64} (X : Wk p l e R s m args below meth c Z a0 EL y bytes ml ret w h0 ws vm0 T h locs cells slots) (hd : decode bytes pc = .ok (.lload k, 2)) (hl : Ls[k]? = some (.val (.long v))) (hp : pc + 2 = pc') (k : Go p e below F T (mkF m pc' Ls (.long v :: rest))) : Go p e below F T (mkF m pc Ls (rest)) := by
  subst hp
  exact k.by fun t r => XT.lload X.st.here X.hx rfl (hb X.hby hd) hl r
theorem s_astore {k : Nat} {v : Value} (X : Wk p l e R s m args below meth c Z a0 EL y bytes ml ret w h0 ws vm0 T h locs cells slots) (hd : decode bytes pc = .ok (.astore k, 2)) (hv : v.isRef = true) (Ls' : Array Slot) (hl : storeLocals Ls k v = some Ls') (hp : pc + 2 = pc') (k : Go p e below F T (mkF m pc' Ls' (rest))) : Go p e below F T (mkF m pc Ls (v :: rest)) := by
  subst hp
  exact k.by fun t r => XS.astore X.st.here X.hx rfl (hb X.hby hd) rfl hv hl r
theorem s_istore {k : Nat} {v : Int32} (X : Wk p l e R s m args below meth c Z a0 EL y bytes ml ret w h0 ws vm0 T h locs cells slots) (hd : decode bytes pc = .ok (.istore k, 2)) (Ls' : Array Slot) (hl : storeLocals Ls k (.int v) = some Ls') (hp : pc + 2 = pc') (k : Go p e below F T (mkF m pc' Ls' (rest))) : Go p e below F T (mkF m pc Ls (.int v :: rest)) := by
  subst hp
  exact k.by fun t r => XS.istore X.st.here X.hx rfl (hb X.hby hd) rfl hl r
theorem s_lstore {k : Nat} {v : Int64} (X : Wk p l e R s m args below meth c Z a0 EL y bytes ml ret w h0 ws vm0 T h locs cells slots) (hd : decode bytes pc = .ok (.lstore k, 2)) (Ls' : Array Slot) (hl : storeLocals Ls k (.long v) = some Ls') (hp : pc + 2 = pc') (k : Go p e below F T (mkF m pc' Ls' (rest))) : Go p e below F T (mkF m pc Ls (.long v :: rest)) := by
  subst hp
  exact k.by fun t r => XT.lstore X.st.here X.hx rfl (hb X.hby hd) rfl hl r
theorem s_aloadN {k : Fin 4} {v : Value} (X : Wk p l e R s m args below meth c Z a0 EL y bytes ml ret w h0 ws vm0 T h locs cells slots) (hd : decode bytes pc = .ok (.aload_n k, 1)) (hl : Ls[k.val]? = some (.val v)) (hv : v.isRef = true) (hp : pc + 1 = pc') (k : Go p e below F T (mkF m pc' Ls (v :: rest))) : Go p e below F T (mkF m pc Ls (rest)) := by
  subst hp
  exact k.by fun t r => XS.aloadN X.st.here X.hx rfl (hb X.hby hd) hl hv r
theorem s_iloadN {k : Fin 4} {v : Int32} (X : Wk p l e R s m args below meth c Z a0 EL y bytes ml ret w h0 ws vm0 T h locs cells slots) (hd : decode bytes pc = .ok (.iload_n k, 1)) (hl : Ls[k.val]? = some (.val (.int v))) (hp : pc + 1 = pc') (k : Go p e below F T (mkF m pc' Ls (.int v :: rest))) : Go p e below F T (mkF m pc Ls (rest)) := by
  subst hp
  exact k.by fun t r => XS.iloadN X.st.here X.hx rfl (hb X.hby hd) hl r
theorem s_lloadN {k : Fin 4} {v : Int64} (X : Wk p l e R s m args below meth c Z a0 EL y bytes ml ret w h0 ws vm0 T h locs cells slots) (hd : decode bytes pc = .ok (.lload_n k, 1)) (hl : Ls[k.val]? = some (.val (.long v))) (hp : pc + 1 = pc') (k : Go p e below F T (mkF m pc' Ls (.long v :: rest))) : Go p e below F T (mkF m pc Ls (rest)) := by
  subst hp
  exact k.by fun t r => XT.lloadN X.st.here X.hx rfl (hb X.hby hd) hl r
theorem s_astoreN {k : Fin 4} {v : Value} (X : Wk p l e R s m args below meth c Z a0 EL y bytes ml ret w h0 ws vm0 T h locs cells slots) (hd : decode bytes pc = .ok (.astore_n k, 1)) (hv : v.isRef = true) (Ls' : Array Slot) (hl : storeLocals Ls k.val v = some Ls') (hp : pc + 1 = pc') (k : Go p e below F T (mkF m pc' Ls' (rest))) : Go p e below F T (mkF m pc Ls (v :: rest)) := by
  subst hp
  exact k.by fun t r => XS.astoreN X.st.here X.hx rfl (hb X.hby hd) rfl hv hl r
theorem s_istoreN {k : Fin 4} {v : Int32} (X : Wk p l e R s m args below meth c Z a0 EL y bytes ml ret w h0 ws vm0 T h locs cells slots) (hd : decode bytes pc = .ok (.istore_n k, 1)) (Ls' : Array Slot) (hl : storeLocals Ls k.val (.int v) = some Ls') (hp : pc + 1 = pc') (k : Go p e below F T (mkF m pc' Ls' (rest))) : Go p e below F T (mkF m pc Ls (.int v :: rest)) := by
  subst hp
  exact k.by fun t r => XS.istoreN X.st.here X.hx rfl (hb X.hby hd) rfl hl r
theorem s_lstoreN {k : Fin 4} {v : Int64} (X : Wk p l e R s m args below meth c Z a0 EL y bytes ml ret w h0 ws vm0 T h locs cells slots) (hd : decode bytes pc = .ok (.lstore_n k, 1)) (Ls' : Array Slot) (hl : storeLocals Ls k.val (.long v) = some Ls') (hp : pc + 1 = pc') (k : Go p e below F T (mkF m pc' Ls' (rest))) : Go p e below F T (mkF m pc Ls (.long v :: rest)) := by
  subst hp
  exact k.by fun t r => XT.lstoreN X.st.here X.hx rfl (hb X.hby hd) rfl hl r
theorem s_iconst {i : Int} (X : Wk p l e R s m args below meth c Z a0 EL y bytes ml ret w h0 ws vm0 T h locs cells slots) (hd : decode bytes pc = .ok (.iconst i, 1)) (v : Int32) (hv : Int32.ofInt i = v) (hp : pc + 1 = pc') (k : Go p e below F T (mkF m pc' Ls (.int v :: rest))) : Go p e below F T (mkF m pc Ls (rest)) := by
  subst hp
  exact k.by fun t r => XT.iconstV X.st.here X.hx rfl v (hb X.hby hd) hv r
theorem s_bipush {i : Int} (X : Wk p l e R s m args below meth c Z a0 EL y bytes ml ret w h0 ws vm0 T h locs cells slots) (hd : decode bytes pc = .ok (.bipush i, 2)) (v : Int32) (hv : (Int8.ofInt i).toInt32 = v) (hp : pc + 2 = pc') (k : Go p e below F T (mkF m pc' Ls (.int v :: rest))) : Go p e below F T (mkF m pc Ls (rest)) := by
  subst hp
  exact k.by fun t r => XT.bipushV X.st.here X.hx rfl v (hb X.hby hd) hv r
theorem s_sipush {i : Int} (X : Wk p l e R s m args below meth c Z a0 EL y bytes ml ret w h0 ws vm0 T h locs cells slots) (hd : decode bytes pc = .ok (.sipush i, 3)) (v : Int32) (hv : (Int16.ofInt i).toInt32 = v) (hp : pc + 3 = pc') (k : Go p e below F T (mkF m pc' Ls (.int v :: rest))) : Go p e below F T (mkF m pc Ls (rest)) := by
  subst hp
  exact k.by fun t r => XT.sipushV X.st.here X.hx rfl v (hb X.hby hd) hv r
theorem s_lconst {k : Fin 2} (X : Wk p l e R s m args below meth c Z a0 EL y bytes ml ret w h0 ws vm0 T h locs cells slots) (hd : decode bytes pc = .ok (.lconst k, 1)) (v : Int64) (hv : Int64.ofNat k = v) (hp : pc + 1 = pc') (k : Go p e below F T (mkF m pc' Ls (.long v :: rest))) : Go p e below F T (mkF m pc Ls (rest)) := by
  subst hp
  exact k.by fun t r => XT.lconstV X.st.here X.hx rfl v (hb X.hby hd) hv r
theorem s_aconst_null (X : Wk p l e R s m args below meth c Z a0 EL y bytes ml ret w h0 ws vm0 T h locs cells slots) (hd : decode bytes pc = .ok (.aconst_null, 1)) (hp : pc + 1 = pc') (k : Go p e below F T (mkF m pc' Ls (.null :: rest))) : Go p e below F T (mkF m pc Ls (rest)) := by
  subst hp
  exact k.by fun t r => XS.aconstNull X.st.here X.hx rfl (hb X.hby hd) r
theorem s_iadd {u v : Int32} (X : Wk p l e R s m args below meth c Z a0 EL y bytes ml ret w h0 ws vm0 T h locs cells slots) (hd : decode bytes pc = .ok (.iadd, 1)) (hp : pc + 1 = pc') (k : Go p e below F T (mkF m pc' Ls (.int (u + v) :: rest))) : Go p e below F T (mkF m pc Ls (.int v :: .int u :: rest)) := by
  subst hp
  exact k.by fun t r => XS.iadd X.st.here X.hx rfl (hb X.hby hd) rfl r
theorem s_isub {u v : Int32} (X : Wk p l e R s m args below meth c Z a0 EL y bytes ml ret w h0 ws vm0 T h locs cells slots) (hd : decode bytes pc = .ok (.isub, 1)) (hp : pc + 1 = pc') (k : Go p e below F T (mkF m pc' Ls (.int (u - v) :: rest))) : Go p e below F T (mkF m pc Ls (.int v :: .int u :: rest)) := by
  subst hp
  exact k.by fun t r => XS.isub X.st.here X.hx rfl (hb X.hby hd) rfl r
theorem s_imul {u v : Int32} (X : Wk p l e R s m args below meth c Z a0 EL y bytes ml ret w h0 ws vm0 T h locs cells slots) (hd : decode bytes pc = .ok (.imul, 1)) (hp : pc + 1 = pc') (k : Go p e below F T (mkF m pc' Ls (.int (u * v) :: rest))) : Go p e below F T (mkF m pc Ls (.int v :: .int u :: rest)) := by
  subst hp
  exact k.by fun t r => XS.imul X.st.here X.hx rfl (hb X.hby hd) rfl r
theorem s_iand {u v : Int32} (X : Wk p l e R s m args below meth c Z a0 EL y bytes ml ret w h0 ws vm0 T h locs cells slots) (hd : decode bytes pc = .ok (.iand, 1)) (hp : pc + 1 = pc') (k : Go p e below F T (mkF m pc' Ls (.int (u &&& v) :: rest))) : Go p e below F T (mkF m pc Ls (.int v :: .int u :: rest)) := by
  subst hp
  exact k.by fun t r => XS.iand X.st.here X.hx rfl (hb X.hby hd) rfl r
theorem s_ior {u v : Int32} (X : Wk p l e R s m args below meth c Z a0 EL y bytes ml ret w h0 ws vm0 T h locs cells slots) (hd : decode bytes pc = .ok (.ior, 1)) (hp : pc + 1 = pc') (k : Go p e below F T (mkF m pc' Ls (.int (u ||| v) :: rest))) : Go p e below F T (mkF m pc Ls (.int v :: .int u :: rest)) := by
  subst hp
  exact k.by fun t r => XT.ior X.st.here X.hx rfl (hb X.hby hd) rfl r
theorem s_ixor {u v : Int32} (X : Wk p l e R s m args below meth c Z a0 EL y bytes ml ret w h0 ws vm0 T h locs cells slots) (hd : decode bytes pc = .ok (.ixor, 1)) (hp : pc + 1 = pc') (k : Go p e below F T (mkF m pc' Ls (.int (u ^^^ v) :: rest))) : Go p e below F T (mkF m pc Ls (.int v :: .int u :: rest)) := by
  subst hp
  exact k.by fun t r => XT.ixor X.st.here X.hx rfl (hb X.hby hd) rfl r
theorem s_ishl {u v : Int32} (X : Wk p l e R s m args below meth c Z a0 EL y bytes ml ret w h0 ws vm0 T h locs cells slots) (hd : decode bytes pc = .ok (.ishl, 1)) (hp : pc + 1 = pc') (k : Go p e below F T (mkF m pc' Ls (.int (u <<< (v &&& 31)) :: rest))) : Go p e below F T (mkF m pc Ls (.int v :: .int u :: rest)) := by
  subst hp
  exact k.by fun t r => XT.ishl X.st.here X.hx rfl (hb X.hby hd) rfl r
theorem s_ishr {u v : Int32} (X : Wk p l e R s m args below meth c Z a0 EL y bytes ml ret w h0 ws vm0 T h locs cells slots) (hd : decode bytes pc = .ok (.ishr, 1)) (hp : pc + 1 = pc') (k : Go p e below F T (mkF m pc' Ls (.int (u >>> (v &&& 31)) :: rest))) : Go p e below F T (mkF m pc Ls (.int v :: .int u :: rest)) := by
  subst hp
  exact k.by fun t r => XT.ishr X.st.here X.hx rfl (hb X.hby hd) rfl r
theorem s_iushr {u v : Int32} (X : Wk p l e R s m args below meth c Z a0 EL y bytes ml ret w h0 ws vm0 T h locs cells slots) (hd : decode bytes pc = .ok (.iushr, 1)) (hp : pc + 1 = pc') (k : Go p e below F T (mkF m pc' Ls (.int (XT.ushr u v) :: rest))) : Go p e below F T (mkF m pc Ls (.int v :: .int u :: rest)) := by
  subst hp
  exact k.by fun t r => XT.iushr X.st.here X.hx rfl (hb X.hby hd) rfl r
theorem s_idiv {u v : Int32} (X : Wk p l e R s m args below meth c Z a0 EL y bytes ml ret w h0 ws vm0 T h locs cells slots) (hd : decode bytes pc = .ok (.idiv, 1)) (hy : v ≠ 0) (hp : pc + 1 = pc') (k : Go p e below F T (mkF m pc' Ls (.int (u / v) :: rest))) : Go p e below F T (mkF m pc Ls (.int v :: .int u :: rest)) := by
  subst hp
  exact k.by fun t r => XS.idiv X.st.here X.hx rfl (hb X.hby hd) rfl hy r
theorem s_irem {u v : Int32} (X : Wk p l e R s m args below meth c Z a0 EL y bytes ml ret w h0 ws vm0 T h locs cells slots) (hd : decode bytes pc = .ok (.irem, 1)) (hy : v ≠ 0) (hp : pc + 1 = pc') (k : Go p e below F T (mkF m pc' Ls (.int (u % v) :: rest))) : Go p e below F T (mkF m pc Ls (.int v :: .int u :: rest)) := by
  subst hp
  exact k.by fun t r => iremM X.st X.hx (g := mkF m pc Ls (.int v :: .int u :: rest)) rfl (hb X.hby hd) rfl hy r
theorem s_ladd {u v : Int64} (X : Wk p l e R s m args below meth c Z a0 EL y bytes ml ret w h0 ws vm0 T h locs cells slots) (hd : decode bytes pc = .ok (.ladd, 1)) (hp : pc + 1 = pc') (k : Go p e below F T (mkF m pc' Ls (.long (u + v) :: rest))) : Go p e below F T (mkF m pc Ls (.long v :: .long u :: rest)) := by
  subst hp
  exact k.by fun t r => XT.ladd X.st.here X.hx rfl (hb X.hby hd) rfl r
theorem s_lsub {u v : Int64} (X : Wk p l e R s m args below meth c Z a0 EL y bytes ml ret w h0 ws vm0 T h locs cells slots) (hd : decode bytes pc = .ok (.lsub, 1)) (hp : pc + 1 = pc') (k : Go p e below F T (mkF m pc' Ls (.long (u - v) :: rest))) : Go p e below F T (mkF m pc Ls (.long v :: .long u :: rest)) := by
  subst hp
  exact k.by fun t r => XT.lsub X.st.here X.hx rfl (hb X.hby hd) rfl r
theorem s_lmul {u v : Int64} (X : Wk p l e R s m args below meth c Z a0 EL y bytes ml ret w h0 ws vm0 T h locs cells slots) (hd : decode bytes pc = .ok (.lmul, 1)) (hp : pc + 1 = pc') (k : Go p e below F T (mkF m pc' Ls (.long (u * v) :: rest))) : Go p e below F T (mkF m pc Ls (.long v :: .long u :: rest)) := by
  subst hp
  exact k.by fun t r => XT.lmul X.st.here X.hx rfl (hb X.hby hd) rfl r
theorem s_land {u v : Int64} (X : Wk p l e R s m args below meth c Z a0 EL y bytes ml ret w h0 ws vm0 T h locs cells slots) (hd : decode bytes pc = .ok (.land, 1)) (hp : pc + 1 = pc') (k : Go p e below F T (mkF m pc' Ls (.long (u &&& v) :: rest))) : Go p e below F T (mkF m pc Ls (.long v :: .long u :: rest)) := by
  subst hp
  exact k.by fun t r => XT.land X.st.here X.hx rfl (hb X.hby hd) rfl r
theorem s_lor {u v : Int64} (X : Wk p l e R s m args below meth c Z a0 EL y bytes ml ret w h0 ws vm0 T h locs cells slots) (hd : decode bytes pc = .ok (.lor, 1)) (hp : pc + 1 = pc') (k : Go p e below F T (mkF m pc' Ls (.long (u ||| v) :: rest))) : Go p e below F T (mkF m pc Ls (.long v :: .long u :: rest)) := by
  subst hp
  exact k.by fun t r => XT.lor X.st.here X.hx rfl (hb X.hby hd) rfl r
theorem s_lxor {u v : Int64} (X : Wk p l e R s m args below meth c Z a0 EL y bytes ml ret w h0 ws vm0 T h locs cells slots) (hd : decode bytes pc = .ok (.lxor, 1)) (hp : pc + 1 = pc') (k : Go p e below F T (mkF m pc' Ls (.long (u ^^^ v) :: rest))) : Go p e below F T (mkF m pc Ls (.long v :: .long u :: rest)) := by
  subst hp
  exact k.by fun t r => XT.lxor X.st.here X.hx rfl (hb X.hby hd) rfl r
theorem s_lrem {u v : Int64} (X : Wk p l e R s m args below meth c Z a0 EL y bytes ml ret w h0 ws vm0 T h locs cells slots) (hd : decode bytes pc = .ok (.lrem, 1)) (hy : v ≠ 0) (hp : pc + 1 = pc') (k : Go p e below F T (mkF m pc' Ls (.long (u - (u / v) * v) :: rest))) : Go p e below F T (mkF m pc Ls (.long v :: .long u :: rest)) := by
  subst hp
  exact k.by fun t r => XT.lrem X.st.here X.hx rfl (hb X.hby hd) rfl hy r
theorem s_lushr {u : Int64} {v : Int32} (X : Wk p l e R s m args below meth c Z a0 EL y bytes ml ret w h0 ws vm0 T h locs cells slots) (hd : decode bytes pc = .ok (.lushr, 1)) (hp : pc + 1 = pc') (k : Go p e below F T (mkF m pc' Ls (.long (XT.ushrL u v) :: rest))) : Go p e below F T (mkF m pc Ls (.int v :: .long u :: rest)) := by
  subst hp
  exact k.by fun t r => XT.lushr X.st.here X.hx rfl (hb X.hby hd) rfl r
theorem s_ineg {u : Int32} (X : Wk p l e R s m args below meth c Z a0 EL y bytes ml ret w h0 ws vm0 T h locs cells slots) (hd : decode bytes pc = .ok (.ineg, 1)) (hp : pc + 1 = pc') (k : Go p e below F T (mkF m pc' Ls (.int (-u) :: rest))) : Go p e below F T (mkF m pc Ls (.int u :: rest)) := by
  subst hp
  exact k.by fun t r => XS.ineg X.st.here X.hx rfl (hb X.hby hd) rfl r
theorem s_i2l {u : Int32} (X : Wk p l e R s m args below meth c Z a0 EL y bytes ml ret w h0 ws vm0 T h locs cells slots) (hd : decode bytes pc = .ok (.i2l, 1)) (hp : pc + 1 = pc') (k : Go p e below F T (mkF m pc' Ls (.long (u.toInt64) :: rest))) : Go p e below F T (mkF m pc Ls (.int u :: rest)) := by
  subst hp
  exact k.by fun t r => XT.i2l X.st.here X.hx rfl (hb X.hby hd) rfl r
theorem s_l2i {u : Int64} (X : Wk p l e R s m args below meth c Z a0 EL y bytes ml ret w h0 ws vm0 T h locs cells slots) (hd : decode bytes pc = .ok (.l2i, 1)) (hp : pc + 1 = pc') (k : Go p e below F T (mkF m pc' Ls (.int (u.toInt32) :: rest))) : Go p e below F T (mkF m pc Ls (.long u :: rest)) := by
  subst hp
  exact k.by fun t r => XT.l2i X.st.here X.hx rfl (hb X.hby hd) rfl r
theorem s_i2b {u : Int32} (X : Wk p l e R s m args below meth c Z a0 EL y bytes ml ret w h0 ws vm0 T h locs cells slots) (hd : decode bytes pc = .ok (.i2b, 1)) (hp : pc + 1 = pc') (k : Go p e below F T (mkF m pc' Ls (.int (u.toInt8.toInt32) :: rest))) : Go p e below F T (mkF m pc Ls (.int u :: rest)) := by
  subst hp
  exact k.by fun t r => XT.i2b X.st.here X.hx rfl (hb X.hby hd) rfl r
theorem s_i2s {u : Int32} (X : Wk p l e R s m args below meth c Z a0 EL y bytes ml ret w h0 ws vm0 T h locs cells slots) (hd : decode bytes pc = .ok (.i2s, 1)) (hp : pc + 1 = pc') (k : Go p e below F T (mkF m pc' Ls (.int (u.toInt16.toInt32) :: rest))) : Go p e below F T (mkF m pc Ls (.int u :: rest)) := by
  subst hp
  exact k.by fun t r => XT.i2s X.st.here X.hx rfl (hb X.hby hd) rfl r
theorem s_i2c {u : Int32} (X : Wk p l e R s m args below meth c Z a0 EL y bytes ml ret w h0 ws vm0 T h locs cells slots) (hd : decode bytes pc = .ok (.i2c, 1)) (hp : pc + 1 = pc') (k : Go p e below F T (mkF m pc' Ls (.int (u.toUInt32.toUInt16.toUInt32.toInt32) :: rest))) : Go p e below F T (mkF m pc Ls (.int u :: rest)) := by
  subst hp
  exact k.by fun t r => XT.i2c X.st.here X.hx rfl (hb X.hby hd) rfl r
theorem s_dup {v : Value} (X : Wk p l e R s m args below meth c Z a0 EL y bytes ml ret w h0 ws vm0 T h locs cells slots) (hd : decode bytes pc = .ok (.dup, 1)) (hc : v.category = 1) (hp : pc + 1 = pc') (k : Go p e below F T (mkF m pc' Ls (v :: v :: rest))) : Go p e below F T (mkF m pc Ls (v :: rest)) := by
  subst hp
  exact k.by fun t r => XS.dup X.st.here X.hx rfl (hb X.hby hd) rfl hc r
theorem s_pop {v : Value} (X : Wk p l e R s m args below meth c Z a0 EL y bytes ml ret w h0 ws vm0 T h locs cells slots) (hd : decode bytes pc = .ok (.pop, 1)) (hc : v.category = 1) (hp : pc + 1 = pc') (k : Go p e below F T (mkF m pc' Ls (rest))) : Go p e below F T (mkF m pc Ls (v :: rest)) := by
  subst hp
  exact k.by fun t r => XT.pop X.st.here X.hx rfl (hb X.hby hd) rfl hc r
theorem s_dup_x1 {u v : Value} (X : Wk p l e R s m args below meth c Z a0 EL y bytes ml ret w h0 ws vm0 T h locs cells slots) (hd : decode bytes pc = .ok (.dup_x1, 1)) (hc : u.category = 1) (hc' : v.category = 1) (hp : pc + 1 = pc') (k : Go p e below F T (mkF m pc' Ls (u :: v :: u :: rest))) : Go p e below F T (mkF m pc Ls (u :: v :: rest)) := by
  subst hp
  exact k.by fun t r => XT.dupX1 X.st.here X.hx rfl (hb X.hby hd) rfl hc hc' r
theorem s_iinc {k : Nat} {cst : Int} {u : Int32} (X : Wk p l e R s m args below meth c Z a0 EL y bytes ml ret w h0 ws vm0 T h locs cells slots) (hd : decode bytes pc = .ok (.iinc k cst, 3)) (v : Int32) (hv : Int32.ofInt cst = v) (hl : Ls[k]? = some (.val (.int u))) (Ls' : Array Slot) (hl' : storeLocals Ls k (.int (u + v)) = some Ls') (hp : pc + 3 = pc') (k : Go p e below F T (mkF m pc' Ls' (rest))) : Go p e below F T (mkF m pc Ls (rest)) := by
  subst hp
  exact k.by fun t r => XT.iincV X.st.here X.hx rfl v (hb X.hby hd) hv hl hl' r
theorem s_goto {o : Int} (X : Wk p l e R s m args below meth c Z a0 EL y bytes ml ret w h0 ws vm0 T h locs cells slots) (hd : decode bytes pc = .ok (.goto o, 3)) (ho : 0 ≤ (pc : Int) + o) (hp : ((pc : Int) + o).toNat = pc') (k : Go p e below F T (mkF m pc' Ls rest)) : Go p e below F T (mkF m pc Ls (rest)) :=
  k.by fun t r => XS.goto X.st.here X.hx rfl (pc0 := pc) rfl (hb X.hby hd) ho hp r
theorem s_ifT {cd : ClassFile.Cond} {u : Int32} {o : Int} (X : Wk p l e R s m args below meth c Z a0 EL y bytes ml ret w h0 ws vm0 T h locs cells slots) (hd : decode bytes pc = .ok (.ifCond cd o, 3)) (hc : ifCond.holds cd u = true) (ho : 0 ≤ (pc : Int) + o) (hp : ((pc : Int) + o).toNat = pc') (k : Go p e below F T (mkF m pc' Ls rest)) : Go p e below F T (mkF m pc Ls (.int u :: rest)) :=
  k.by fun t r => XS.ifYes X.st.here X.hx rfl (pc0 := pc) rfl (hb X.hby hd) rfl hc ho hp r
theorem s_ifF {cd : ClassFile.Cond} {u : Int32} {o : Int} (X : Wk p l e R s m args below meth c Z a0 EL y bytes ml ret w h0 ws vm0 T h locs cells slots) (hd : decode bytes pc = .ok (.ifCond cd o, 3)) (hc : ifCond.holds cd u = false) (hp : pc + 3 = pc') (k : Go p e below F T (mkF m pc' Ls rest)) : Go p e below F T (mkF m pc Ls (.int u :: rest)) := by
  subst hp
  exact k.by fun t r => XS.ifNo X.st.here X.hx rfl (hb X.hby hd) rfl hc r
theorem s_icmpT {cd : ClassFile.Cond} {u v : Int32} {o : Int} (X : Wk p l e R s m args below meth c Z a0 EL y bytes ml ret w h0 ws vm0 T h locs cells slots) (hd : decode bytes pc = .ok (.if_icmp cd o, 3)) (hc : if_icmp.holds cd u v = true) (ho : 0 ≤ (pc : Int) + o) (hp : ((pc : Int) + o).toNat = pc') (k : Go p e below F T (mkF m pc' Ls rest)) : Go p e below F T (mkF m pc Ls (.int v :: .int u :: rest)) :=
  k.by fun t r => XS.icmpYes X.st.here X.hx rfl (pc0 := pc) rfl (hb X.hby hd) rfl hc ho hp r
theorem s_icmpF {cd : ClassFile.Cond} {u v : Int32} {o : Int} (X : Wk p l e R s m args below meth c Z a0 EL y bytes ml ret w h0 ws vm0 T h locs cells slots) (hd : decode bytes pc = .ok (.if_icmp cd o, 3)) (hc : if_icmp.holds cd u v = false) (hp : pc + 3 = pc') (k : Go p e below F T (mkF m pc' Ls rest)) : Go p e below F T (mkF m pc Ls (.int v :: .int u :: rest)) := by
  subst hp
  exact k.by fun t r => XS.icmpNo X.st.here X.hx rfl (hb X.hby hd) rfl hc r
theorem s_ifnullT {o : Int} (X : Wk p l e R s m args below meth c Z a0 EL y bytes ml ret w h0 ws vm0 T h locs cells slots) (hd : decode bytes pc = .ok (.ifnull o, 3)) (ho : 0 ≤ (pc : Int) + o) (hp : ((pc : Int) + o).toNat = pc') (k : Go p e below F T (mkF m pc' Ls rest)) : Go p e below F T (mkF m pc Ls (.null :: rest)) :=
  k.by fun t r => XS.ifnullYes X.st.here X.hx rfl (pc0 := pc) rfl (hb X.hby hd) rfl ho hp r
theorem s_ifnullF {o : Int} (X : Wk p l e R s m args below meth c Z a0 EL y bytes ml ret w h0 ws vm0 T h locs cells slots) (hd : decode bytes pc = .ok (.ifnull o, 3)) (hp : pc + 3 = pc') (k : Go p e below F T (mkF m pc' Ls rest)) : Go p e below F T (mkF m pc Ls (.ref a :: rest)) := by
  subst hp
  exact k.by fun t r => XS.ifnullNo X.st.here X.hx rfl (hb X.hby hd) rfl r
theorem s_ifnonnullT {o : Int} (X : Wk p l e R s m args below meth c Z a0 EL y bytes ml ret w h0 ws vm0 T h locs cells slots) (hd : decode bytes pc = .ok (.ifnonnull o, 3)) (ho : 0 ≤ (pc : Int) + o) (hp : ((pc : Int) + o).toNat = pc') (k : Go p e below F T (mkF m pc' Ls rest)) : Go p e below F T (mkF m pc Ls (.ref a :: rest)) :=
  k.by fun t r => XT.ifnonnullYes X.st.here X.hx rfl (pc0 := pc) rfl (hb X.hby hd) rfl ho hp r
theorem s_ifnonnullF {o : Int} (X : Wk p l e R s m args below meth c Z a0 EL y bytes ml ret w h0 ws vm0 T h locs cells slots) (hd : decode bytes pc = .ok (.ifnonnull o, 3)) (hp : pc + 3 = pc') (k : Go p e below F T (mkF m pc' Ls rest)) : Go p e below F T (mkF m pc Ls (.null :: rest)) := by
  subst hp
  exact k.by fun t r => XT.ifnonnullNo X.st.here X.hx rfl (hb X.hby hd) rfl r
theorem s_acmpT {cd : ClassFile.ACond} {u v : Value} {o : Int} (X : Wk p l e R s m args below meth c Z a0 EL y bytes ml ret w h0 ws vm0 T h locs cells slots) (hd : decode bytes pc = .ok (.if_acmp cd o, 3)) (hu : u.isRef = true) (hv : v.isRef = true) (hc : XT.acmp cd u v = true) (ho : 0 ≤ (pc : Int) + o) (hp : ((pc : Int) + o).toNat = pc') (k : Go p e below F T (mkF m pc' Ls rest)) : Go p e below F T (mkF m pc Ls (v :: u :: rest)) :=
  k.by fun t r => XT.acmpYes X.st.here X.hx rfl (pc0 := pc) rfl (hb X.hby hd) rfl hu hv hc ho hp r
theorem s_acmpF {cd : ClassFile.ACond} {u v : Value} {o : Int} (X : Wk p l e R s m args below meth c Z a0 EL y bytes ml ret w h0 ws vm0 T h locs cells slots) (hd : decode bytes pc = .ok (.if_acmp cd o, 3)) (hu : u.isRef = true) (hv : v.isRef = true) (hc : XT.acmp cd u v = false) (hp : pc + 3 = pc') (k : Go p e below F T (mkF m pc' Ls rest)) : Go p e below F T (mkF m pc Ls (v :: u :: rest)) := by
  subst hp
  exact k.by fun t r => XT.acmpNo X.st.here X.hx rfl (hb X.hby hd) rfl hu hv hc r
end Own
end Own
namespace Own
theorem narR {t : FieldType} (ht : t.isReference = true) (v : Value) : narrow t v = v := by cases t <;> first | rfl | cases ht
theorem fitR {t : FieldType} (ht : t.isReference = true) {v : Value} (hv : v.isRef = true) : fits t v = true := by
  rcases ref_cases hv with rfl | ⟨a, rfl⟩ <;> cases t <;> first | rfl | cases ht
end Own

namespace Own
section Str0
variable {p : Program} {l : Launch} {e : Env} {R : Room} {s : State} {m : MethodId} {args : Array Value} {below : List Frame} {meth : Method} {c : Code} {Z : State} {a0 : Array Value} {EL : List (String × Nat)} {y : MethodName} {bytes : ByteArray} {ml : Nat} {ret : Option FieldType} {w : Bool} {h0 : Heap} {ws ws' : List Addr} {vm0 vm1 : Vm} {T T' : State} {h h' h1 : Heap} {locs locs' : List Loc} {cells slots cells' slots' : Nat} {F : State → Option Value → Prop} {pc pc' : Nat} {Ls Ls' : Array Slot} {rest : List Value} {a b x : Addr}
/-- a char that Latin-1 holds -/
def Lat (z : Int32) : Prop := ¬ z < 0 ∧ ¬ (255 : Int32) < z
def lo (z : Int32) : Int32 := z.toInt8.toInt32
theorem lat_mask (x : Int32) : Lat (x &&& (255 : Int32)) := by
  have q := c_and x 255 (by decide)
  have e2 : (255 : Int32).toInt = 255 := by decide
  refine ⟨fun r => ?_, fun r => ?_⟩
  · rw [Int32.lt_iff_toInt_lt] at r; have e1 : (0 : Int32).toInt = 0 := by decide
    omega
  · rw [Int32.lt_iff_toInt_lt] at r; omega
theorem nar_mask (x : Int32) : nar .char (x &&& (255 : Int32)) = (x &&& (255 : Int32)) := i2c_mask x
theorem lat_eq {z : Int32} (q : Lat z) : z &&& 255 = z := by
  have h1 := c_mask z 255 8 (by decide) (by decide)
  have e1 : (0 : Int32).toInt = 0 := by decide
  have e2 : (255 : Int32).toInt = 255 := by decide
  have q1 := q.1; have q2 := q.2
  rw [Int32.lt_iff_toInt_lt] at q1 q2
  apply Int32.toInt_inj.mp
  rw [h1]; omega
theorem nar_chr {z : Int32} (q : Lat z) : nar .char z = z := by
  have e := lat_eq q
  have r := nar_mask z
  rw [e] at r; exact r
theorem i2c_chr {z : Int32} (q : Lat z) : z.toUInt32.toUInt16.toUInt32.toInt32 = z := nar_chr q
theorem s_i2cM {u : Int32} (X : Wk p l e R s m args below meth c Z a0 EL y bytes ml ret w h0 ws vm0 T h locs cells slots) (hd : decode bytes pc = .ok (.i2c, 1)) (hp : pc + 1 = pc') (k : Go p e below F T (mkF m pc' Ls (.int (u &&& (255 : Int32)) :: rest))) : Go p e below F T (mkF m pc Ls (.int (u &&& (255 : Int32)) :: rest)) :=
  s_i2c X hd hp (by rw [i2c_mask]; exact k)
theorem s_i2cR {u : Int32} (X : Wk p l e R s m args below meth c Z a0 EL y bytes ml ret w h0 ws vm0 T h locs cells slots) (hd : decode bytes pc = .ok (.i2c, 1)) (q : Lat u) (hp : pc + 1 = pc') (k : Go p e below F T (mkF m pc' Ls (.int u :: rest))) : Go p e below F T (mkF m pc Ls (.int u :: rest)) :=
  s_i2c X hd hp (by rw [i2c_chr q]; exact k)
theorem s_castoreR {j z n : Int32} {kc : ClassId} {vs : List Value} {dv : Value} (X : Wk p l e R s m args below meth c Z a0 EL y bytes ml ret w h0 ws vm0 T h locs cells slots) (hd : decode bytes pc = .ok (.castore, 1)) (A : Arv Z h a kc .char n vs dv) (hj : ¬ j < 0 ∧ j < n) (i : Nat) (hi : j.toNatClampNeg = i) (hlt : i < vs.length) (hz : nar .char z = z) (Oa : Ok w Z EL h0 ws vm0 h a) (hp : pc + 1 = pc')
    (k : ∀ T' h', Wk p l e R s m args below meth c Z a0 EL y bytes ml ret w h0 ws vm0 T' h' (locs ++ [⟨a, j.toNatClampNeg⟩]) cells slots → Ev w Z EL vm0 h vm0 h' [a] → Arv Z h' a kc .char n (vs.set i (.int z)) dv → Go p e below F T' (mkF m pc' Ls rest)) : Go p e below F T (mkF m pc Ls (.int z :: .int j :: .ref a :: rest)) :=
  s_castore X hd A hj i hi hlt Oa hp (by rw [hz]; exact k)
/-- a String of Latin-1 chars -/
def Str (Z : State) (h : Heap) (a : Addr) (cs : List Int32) : Prop := (∀ c ∈ cs, Lat c) ∧ cs.length ≤ 4000 ∧ Exa Z h a "java/lang/String" ∧ Fld Z h a "java/lang/String" "coder" "B" (.int 0) ∧ ∃ (t : Addr) (kb : ClassId), Fld Z h a "java/lang/String" "value" "[B" (.ref t) ∧ Arv Z h t kb .byte (Int32.ofNat cs.length) ((cs.map lo).map Value.int) (.int 0)
theorem Str.ext {cs : List Int32} (S : Str Z h a cs) (E : Ext h h') : Str Z h' a cs := by
  obtain ⟨h1, h2, h3, h4, t, kb, h5, h6⟩ := S; exact ⟨h1, h2, h3.ext E, h4.ext E, t, kb, h5.ext E, h6.ext E⟩
theorem Str.exa {cs : List Int32} (S : Str Z h a cs) : Exa Z h a "java/lang/String" := S.2.2.1
theorem Str.lt {cs : List Int32} (S : Str Z h a cs) : a < h.size := S.exa.lt
theorem Str.mk {cs : List Int32} {t : Addr} {kb : ClassId} {z : Int32} {vs : List Value} (h1 : (∀ c ∈ cs, Lat c) ∧ (cs.map lo).map Value.int = vs) (h2 : cs.length ≤ 4000 ∧ z = Int32.ofNat cs.length) (E : Exa Z h a "java/lang/String") (C : Fld Z h a "java/lang/String" "coder" "B" (.int 0)) (V : Fld Z h a "java/lang/String" "value" "[B" (.ref t)) (A : Arv Z h t kb .byte z vs (.int 0)) : Str Z h a cs := by
  obtain ⟨q1, rfl⟩ := h1
  obtain ⟨q2, rfl⟩ := h2
  exact ⟨q1, q2, E, C, t, kb, V, A⟩
instance (z : Int32) : Decidable (Lat z) := inferInstanceAs (Decidable (_ ∧ _))
theorem up65 {cs : List Int32} (hq : ∀ c ∈ cs, Lat c) : ∀ c ∈ cs, ¬ c < 0 ∧ ¬ (65535 : Int32) < c := fun c hc => ⟨(hq c hc).1, fun q => (hq c hc).2 (by rw [Int32.lt_iff_toInt_lt] at q ⊢; have e1 : (65535 : Int32).toInt = 65535 := rfl; have e2 : (255 : Int32).toInt = 255 := rfl; omega)⟩
theorem lolo (z : Int32) : z.toInt8.toInt32.toInt8.toInt32 = lo z := by simp [lo]
/-- a String of one char, by its byte -/
theorem str1 {z : Int32} {t : Addr} {kb : ClassId} (hz : Lat z) (E : Exa Z h a "java/lang/String") (C : Fld Z h a "java/lang/String" "coder" "B" (.int 0)) (V : Fld Z h a "java/lang/String" "value" "[B" (.ref t)) (A : Arv Z h t kb .byte (1 : Int32) [(.int z.toInt8.toInt32.toInt8.toInt32)] (.int (0 : Int32))) : Str Z h a [z] := by
  rw [lolo] at A
  exact ⟨fun c hc => by cases List.mem_singleton.mp hc; exact hz, Nat.le_of_ble_eq_true rfl, E, C, t, kb, V, A⟩
/-- an object of another class is written: the String stands as it stood -/
theorem Str.keepE {cs : List Int32} {C : String} {n : Nat} (S : Str Z h a cs) (K : Keep h h' [x]) (E : Exa Z h x C) (hC : C ≠ "java/lang/String") (wi : (Jvm.Cond.instantiable C n).before a0 Z = true) : Str Z h' a cs := by
  obtain ⟨h1, h2, h3, h4, t, kb, h5, h6⟩ := S
  have n1 : a ∉ [x] := ninS (Ne.symm (Exa.ne E h3 hC)) nin0
  have n2 : t ∉ [x] := ninS (Ne.symm (Exa.neArv E h6 wi)) nin0
  exact ⟨h1, h2, h3.keep K, h4.keep K n1, t, kb, h5.keep K n1, h6.keep K n2⟩
/-- a value that is null, or a String of these chars -/
def NStr (Z : State) (h : Heap) (u : Value) : Option (List Int32) → Prop
  | none => u = .null
  | some cs => ∃ r, u = .ref r ∧ Str Z h r cs
theorem NStr.ext {u : Value} {o : Option (List Int32)} (S : NStr Z h u o) (E : Ext h h') : NStr Z h' u o := by
  cases o with
  | none => exact S
  | some cs => obtain ⟨r, e, q⟩ := S; exact ⟨r, e, q.ext E⟩
theorem NStr.keepE {u : Value} {o : Option (List Int32)} {C : String} {n : Nat} (S : NStr Z h u o) (K : Keep h h' [x]) (E : Exa Z h x C) (hC : C ≠ "java/lang/String") (wi : (Jvm.Cond.instantiable C n).before a0 Z = true) : NStr Z h' u o := by
  cases o with
  | none => exact S
  | some cs => obtain ⟨r, e, q⟩ := S; exact ⟨r, e, q.keepE K E hC wi⟩
theorem NStr.isRef {u : Value} {o : Option (List Int32)} (S : NStr Z h u o) : u.isRef = true := by
  cases o with
  | none => cases S; rfl
  | some cs => obtain ⟨r, rfl, q⟩ := S; rfl
theorem NStr.cases {u : Value} {o : Option (List Int32)} (S : NStr Z h u o) : (u = .null ∧ o = none) ∨ ∃ r cs, u = .ref r ∧ o = some cs ∧ Str Z h r cs := by
  cases o with
  | none => exact Or.inl ⟨S, rfl⟩
  | some cs => obtain ⟨r, e, q⟩ := S; exact Or.inr ⟨r, cs, e, rfl, q⟩
end Str0
end Own
namespace Own
section Own2
variable {p : Program} {l : Launch} {e : Env} {R : Room} {s : State} {m : MethodId} {args : Array Value} {below : List Frame} {meth : Method} {c : Code} {Z : State} {a0 : Array Value} {EL : List (String × Nat)} {y : MethodName} {bytes : ByteArray} {ml : Nat} {ret : Option FieldType} {w : Bool} {h0 : Heap} {ws ws' : List Addr} {vm0 vm1 : Vm} {T T' : State} {h h' h1 : Heap} {locs locs' : List Loc} {cells slots cells' slots' : Nat} {F : State → Option Value → Prop} {pc pc' : Nat} {Ls Ls' : Array Slot} {rest : List Value} {a b x : Addr}
/-- System.arraycopy between two arrays of one plain kind -/
theorem s_arraycopy {idx : Nat} {k k' : ClassId} {ty : FieldType} {z z' sp dp nn : Int32} {vs vd us vd' : List Value} {dv dd : Value} (X : Wk p l e R s m args below meth c Z a0 EL y bytes ml ret w h0 ws vm0 T h locs cells slots) (hd : decode bytes pc = .ok (.invokestatic idx, 3)) (w1 : (Jvm.Cond.methodLink y.cls idx Jvm.Stand.acN).before a0 Z = true) (w2 : (Jvm.Cond.native Jvm.Stand.acN).before a0 Z = true) (w3 : (Jvm.Cond.static Jvm.Stand.acN).before a0 Z = true) (w4 : (Jvm.Cond.initialized "java/lang/System").before a0 Z = true)
    (A : Arv Z h a k ty z vs dv) (B : Arv Z h b k' ty z' vd dd) (hty : refKind ty = false) (h1 : ¬ sp < 0) (h2 : ¬ dp < 0) (h3 : ¬ nn < 0) (h4 : sp.toNatClampNeg + nn.toNatClampNeg ≤ z.toNatClampNeg) (h5 : dp.toNatClampNeg + nn.toNatClampNeg ≤ z'.toNatClampNeg)
    (hus : us = (List.range nn.toNatClampNeg).map fun i => vs.getD (sp.toNatClampNeg + i) dv) (hl : dp.toNatClampNeg + nn.toNatClampNeg ≤ vd.length) (hvd : vd.take dp.toNatClampNeg ++ us ++ vd.drop (dp.toNatClampNeg + nn.toNatClampNeg) = vd') (Ob : Ok w Z EL h0 ws vm0 h b)
    (hsz : Ls.size = ml) (W : Nat) (hW : (rest.map fun v => v.category).sum ≤ W) (hf : 1 ≤ R.frames) (hlo : W + (nativeFrameWords "java/lang/System" "arraycopy" 5 + 11) ≤ R.locals) (hp : pc + 3 = pc')
    (kk : ∀ T' h' L, Wk p l e R s m args below meth c Z a0 EL y bytes ml ret w h0 ws vm0 T' h' L cells slots → Ev w Z EL vm0 h vm0 h' [b] → Arv Z h' b k' ty z' vd' dd → Go p e below F T' (mkF m pc' Ls rest)) : Go p e below F T (mkF m pc Ls (.int nn :: .int dp :: .ref b :: .int sp :: .ref a :: rest)) := by
  subst hp hvd
  obtain ⟨T', h', L, X', e', N, K, A', st⟩ := cpA X.st X.hx X.hZ X.hown w1 w2 w3 w4 X.hT A B (Or.inl ⟨rfl, hty⟩) h1 h2 h3 h4 h5 hus hl X.hN Ob.2.1 (g := mkF m pc Ls (.int nn :: .int dp :: .ref b :: .int sp :: .ref a :: rest)) rfl (hsz.trans X.hml.symm) rfl (hb X.hby hd) hf (W := W) (by show 2 * 0 + _ ≤ _; omega) hlo
  have V := X.evK K Ob.one
  exact (kk T' h' L (X.same X' e' N V (Ok.two Ob.one)) V A').by fun t r => st t r
theorem lo_inj {u v : Int32} (hu : Lat u) (hv : Lat v) (h : lo u = lo v) : u = v := by
  have e : ∀ {z : Int32}, Lat z → (lo z).toInt % 256 = z.toInt := fun {z} q => by
    have h1 := (c_i2b z).1
    have q1 := q.1; have q2 := q.2
    rw [Int32.lt_iff_toInt_lt] at q1 q2
    have e1 : (0 : Int32).toInt = 0 := by decide
    have e2 : (255 : Int32).toInt = 255 := by decide
    simp only [lo]
    omega
  apply Int32.toInt_inj.mp
  rw [← e hu, ← e hv, h]
/-- what stands before the first ch -/
def tw : List Int32 → Int32 → List Int32
  | [], _ => []
  | c :: r, ch => if c = ch then [] else c :: tw r ch
theorem tw_nil (ch : Int32) : tw [] ch = [] := rfl
theorem tw_hit {c ch : Int32} {r : List Int32} (h : c = ch) : tw (c :: r) ch = [] := by simp [tw, h]
theorem tw_miss {c ch : Int32} {r : List Int32} (h : ¬ c = ch) : tw (c :: r) ch = c :: tw r ch := by simp [tw, h]
theorem ofNat_toNat {n : Nat} (h : n < 2147483648) : (Int32.ofNat n).toNatClampNeg = n := by
  have hz : (Int32.size : Int) = 4294967296 := by decide
  have h1 : (Int32.ofNat n).toInt = n := by
    rw [Int32.toInt_ofNat']; exact Int.bmod_eq_of_le (by omega) (by omega)
  simp only [Int32.toNatClampNeg, h1]; omega
theorem ofNat_toInt {n : Nat} (h : n < 2147483648) : (Int32.ofNat n).toInt = n := by
  have hz : (Int32.size : Int) = 4294967296 := by decide
  rw [Int32.toInt_ofNat']; exact Int.bmod_eq_of_le (by omega) (by omega)
theorem ofNat_lt {i n : Nat} (hi : i < 2147483648) (hn : n < 2147483648) : Int32.ofNat i < Int32.ofNat n ↔ i < n := by
  rw [Int32.lt_iff_toInt_lt, ofNat_toInt hi, ofNat_toInt hn]; omega
theorem ofNat_nneg {n : Nat} (h : n < 2147483648) : ¬ Int32.ofNat n < 0 := by
  rw [Int32.lt_iff_toInt_lt, ofNat_toInt h]; have e1 : (0 : Int32).toInt = 0 := by decide
  omega
theorem ofNat_succ (n : Nat) : Int32.ofNat n + 1 = Int32.ofNat (n + 1) := by
  apply Int32.toInt_inj.mp
  rw [Int32.toInt_add, Int32.toInt_ofNat', Int32.toInt_ofNat']
  have e1 : (1 : Int32).toInt = 1 := by decide
  rw [e1]
  simp
end Own2
end Own
namespace Own
section Own3
variable {p : Program} {l : Launch} {e : Env} {R : Room} {s : State} {m : MethodId} {args : Array Value} {below : List Frame} {meth : Method} {c : Code} {Z : State} {a0 : Array Value} {EL : List (String × Nat)} {y : MethodName} {bytes : ByteArray} {ml : Nat} {ret : Option FieldType} {w : Bool} {h0 : Heap} {ws ws' : List Addr} {vm0 vm1 : Vm} {T T' : State} {h h' h1 : Heap} {locs locs' : List Loc} {cells slots cells' slots' : Nat} {F : State → Option Value → Prop} {pc pc' : Nat} {Ls Ls' : Array Slot} {rest : List Value} {a b x : Addr}
/-- the class called C has its Class object at mr -/
def Mrr (Z : State) (C : String) (mr : Addr) : Prop := ∃ (c : ClassId) (k : Class), Z.vm.findClass C = some c ∧ Z.vm.classes[c]? = some k ∧ k.mirror = some mr
theorem s_getClass {idx : Nat} {C : String} {mr : Addr} (X : Wk p l e R s m args below meth c Z a0 EL y bytes ml ret w h0 ws vm0 T h locs cells slots) (hd : decode bytes pc = .ok (.invokevirtual idx, 3)) (w1 : (Jvm.Cond.methodLink y.cls idx ⟨"java/lang/Object", "getClass", "()Ljava/lang/Class;"⟩).before a0 Z = true) (w2 : (Jvm.Cond.declares ⟨"java/lang/Object", "getClass", "()Ljava/lang/Class;"⟩).before a0 Z = true) (w3 : (Jvm.Cond.noSuperclass "java/lang/Object").before a0 Z = true) (w4 : (Jvm.Cond.selects C ⟨"java/lang/Object", "getClass", "()Ljava/lang/Class;"⟩ ⟨"java/lang/Object", "getClass", "()Ljava/lang/Class;"⟩).before a0 Z = true)
    (w5 : (Jvm.Cond.instanceMethod ⟨"java/lang/Object", "getClass", "()Ljava/lang/Class;"⟩).before a0 Z = true) (w6 : (Jvm.Cond.native ⟨"java/lang/Object", "getClass", "()Ljava/lang/Class;"⟩).before a0 Z = true) (E : Exa Z h a C) (M : Mrr Z C mr) (hsz : Ls.size = ml) (W : Nat) (hW : (rest.map fun v => v.category).sum ≤ W) (hf : 1 ≤ R.frames) (hl : W + (nativeFrameWords "java/lang/Object" "getClass" 1 + 11) ≤ R.locals) (hp : pc + 3 = pc')
    (k : ∀ T', Wk p l e R s m args below meth c Z a0 EL y bytes ml ret w h0 ws vm0 T' h locs cells slots → Go p e below F T' (mkF m pc' Ls (.ref mr :: rest))) : Go p e below F T (mkF m pc Ls (.ref a :: rest)) := by
  subst hp
  obtain ⟨cc, kc, m1, m2, m3⟩ := M
  have hZ := X.hZ
  obtain ⟨cB, kB, i1, i2, i3⟩ := isOf (s := s.setVm vm0) hZ X.hT E
  rw [hZ.alike.findClass] at i1
  cases i1.symm.trans m1
  obtain ⟨k', q, ek⟩ := hZ.alike.2.2 _ _ m2
  obtain ⟨vm', X', st⟩ := X.st.getClassOf X.hx X.hown (mvT hZ w1) (mvT hZ w2) (nf_top (args := #[]) (mvT hZ w3)) (mvT hZ w4) (mvT hZ w5) (mvT hZ w6) (by rw [hZ.alike.findClass]; exact m1) i3 q (by rw [ek]; exact m3) (g := mkF m pc Ls (.ref a :: rest)) rfl (hsz.trans X.hml.symm) rfl (hb X.hby hd) hf (by show 2 * 0 + _ + _ ≤ _; omega)
  exact (k _ (X.same X' X.hT X.hN X.evR two0)).by fun t r => st t r
theorem s_ldcMir {idx : Nat} {C : String} {mr : Addr} (X : Wk p l e R s m args below meth c Z a0 EL y bytes ml ret w h0 ws vm0 T h locs cells slots) (hd : decode bytes pc = .ok (.ldc idx, 2)) (w1 : (Jvm.Cond.classLink y.cls idx C).before a0 Z = true) (M : Mrr Z C mr) (hp : pc + 2 = pc')
    (k : ∀ T', Wk p l e R s m args below meth c Z a0 EL y bytes ml ret w h0 ws vm0 T' h locs cells slots → Go p e below F T' (mkF m pc' Ls (.ref mr :: rest))) : Go p e below F T (mkF m pc Ls rest) := by
  subst hp
  obtain ⟨cc, kc, m1, m2, m3⟩ := M
  have hZ := X.hZ
  obtain ⟨k', q, ek⟩ := hZ.alike.2.2 _ _ m2
  have hev : (Term.mirror C).eval args (s.setVm vm0) none [] (s.setVm vm0) = some (.ref mr) := by
    have f1 : (s.setVm vm0).vm.findClass C = some cc := by rw [hZ.alike.findClass]; exact m1
    have f3 : k'.mirror = some mr := by rw [ek]; exact m3
    simp only [Term.eval, f1, Option.bind_eq_bind, Option.bind_some, q, f3]; rfl
  obtain ⟨vm', X', st⟩ := X.st.ldcMirror X.hx X.hown (mvT hZ w1) hev (g := mkF m pc Ls rest) rfl (hb X.hby hd)
  exact (k _ (X.same X' X.hT X.hN X.evR two0)).by fun t r => st t r
theorem s_aaload {j n : Int32} {kc : ClassId} {ty : FieldType} {vs : List Value} {dv v : Value} (X : Wk p l e R s m args below meth c Z a0 EL y bytes ml ret w h0 ws vm0 T h locs cells slots) (hd : decode bytes pc = .ok (.aaload, 1)) (A : Arv Z h a kc ty n vs dv) (hty : ty.isReference = true) (hj : ¬ j < 0 ∧ j < n) (hz : vs.getD j.toNatClampNeg dv = v) (hp : pc + 1 = pc')
    (k : Go p e below F T (mkF m pc' Ls (v :: rest))) : Go p e below F T (mkF m pc Ls (.int j :: .ref a :: rest)) := by
  subst hp
  obtain ⟨cl, Ar, q1, S, q3, H, G⟩ := A
  exact k.by fun t r => X.st.aaload X.hx (j := j) (v := v) (by rw [X.hT]; exact Ar.1) (State.isArrayOf_alike X.hZ.alike Ar.2.1) hty Ar.2.2 (inb_of S hj) (H.at (inb_of S hj) hz) (g := mkF m pc Ls (.int j :: .ref a :: rest)) rfl rfl (hb X.hby hd) t r
theorem s_iaload {j n z : Int32} {kc : ClassId} {vs : List Value} {dv : Value} (X : Wk p l e R s m args below meth c Z a0 EL y bytes ml ret w h0 ws vm0 T h locs cells slots) (hd : decode bytes pc = .ok (.iaload, 1)) (A : Arv Z h a kc .int n vs dv) (hj : ¬ j < 0 ∧ j < n) (hz : vs.getD j.toNatClampNeg dv = .int z) (hp : pc + 1 = pc')
    (k : Go p e below F T (mkF m pc' Ls (.int z :: rest))) : Go p e below F T (mkF m pc Ls (.int j :: .ref a :: rest)) := by
  subst hp
  obtain ⟨cl, Ar, q1, S, q3, H, G⟩ := A
  exact k.by fun t r => X.st.iaload X.hx (j := j) (v := .int z) (by rw [X.hT]; exact Ar.1) (State.isArrayOf_alike X.hZ.alike Ar.2.1) Ar.2.2 (inb_of S hj) (H.at (inb_of S hj) hz) (g := mkF m pc Ls (.int j :: .ref a :: rest)) rfl rfl (hb X.hby hd) t r
theorem s_iastore {j z n : Int32} {kc : ClassId} {vs : List Value} {dv : Value} (X : Wk p l e R s m args below meth c Z a0 EL y bytes ml ret w h0 ws vm0 T h locs cells slots) (hd : decode bytes pc = .ok (.iastore, 1)) (A : Arv Z h a kc .int n vs dv) (hj : ¬ j < 0 ∧ j < n) (i : Nat) (hi : j.toNatClampNeg = i) (hlt : i < vs.length) (Oa : Ok w Z EL h0 ws vm0 h a) (hp : pc + 1 = pc')
    (k : ∀ T' h', Wk p l e R s m args below meth c Z a0 EL y bytes ml ret w h0 ws vm0 T' h' (locs ++ [⟨a, j.toNatClampNeg⟩]) cells slots → Ev w Z EL vm0 h vm0 h' [a] → Arv Z h' a kc .int n (vs.set i (.int z)) dv → Go p e below F T' (mkF m pc' Ls rest)) : Go p e below F T (mkF m pc Ls (.int z :: .int j :: .ref a :: rest)) := by
  subst hp
  obtain ⟨cl, Ar, q1, S, q3, H, G⟩ := A
  obtain ⟨T', h', X', e', W, st⟩ := stI X.st X.hx X.hZ X.hT Ar (inb_of S hj) (g := mkF m pc Ls (.int z :: .int j :: .ref a :: rest)) rfl rfl (hb X.hby hd)
  have V := X.evW W Oa
  exact (k T' h' (X.same X' e' (Fr.snoc X' X.hN Oa.2.1) V (Ok.two Oa.one)) V (Arv.set Ar q1 S q3 H G rfl W i hi hlt)).by fun t r => st t r
theorem Sto.ofArv {n : Int32} {kc : ClassId} {ty : FieldType} {vs : List Value} {dv : Value} {C : String} (A : Arv Z h a kc ty n vs dv) (O : Ovr Z kc C) (I : Ins Z h b C true) : Sto Z h a (.ref b) := by
  obtain ⟨cl, Ar, q1, -⟩ := A
  subst q1
  exact Sto.of Ar O I
theorem s_aastore {j n : Int32} {kc : ClassId} {ty : FieldType} {vs : List Value} {dv : Value} (X : Wk p l e R s m args below meth c Z a0 EL y bytes ml ret w h0 ws vm0 T h locs cells slots) (hd : decode bytes pc = .ok (.aastore, 1)) (A : Arv Z h a kc ty n vs dv) (hty : ty.isReference = true) (hj : ¬ j < 0 ∧ j < n) (i : Nat) (hi : j.toNatClampNeg = i) (hlt : i < vs.length) (S0 : Sto Z h a (.ref b)) (Oa : Ok w Z EL h0 ws vm0 h a) (hp : pc + 1 = pc')
    (k : ∀ T' h', Wk p l e R s m args below meth c Z a0 EL y bytes ml ret w h0 ws vm0 T' h' (locs ++ [⟨a, j.toNatClampNeg⟩]) cells slots → Ev w Z EL vm0 h vm0 h' [a] → Arv Z h' a kc ty n (vs.set i (.ref b)) dv → Go p e below F T' (mkF m pc' Ls rest)) : Go p e below F T (mkF m pc Ls (.ref b :: .int j :: .ref a :: rest)) := by
  subst hp
  obtain ⟨cl, Ar, q1, S, q3, H, G⟩ := A
  obtain ⟨T', h', X', e', W, st⟩ := stR X.st X.hx X.hZ X.hT Ar (inb_of S hj) hty S0 (g := mkF m pc Ls (.ref b :: .int j :: .ref a :: rest)) rfl rfl (hb X.hby hd)
  have V := X.evW W Oa
  exact (k T' h' (X.same X' e' (Fr.snoc X' X.hN Oa.2.1) V (Ok.two Oa.one)) V (Arv.set Ar q1 S q3 H G (fitR hty rfl) W i hi hlt)).by fun t r => st t r
theorem s_anewarray {idx : Nat} {n : Int32} {C : String} (X : Wk p l e R s m args below meth c Z a0 EL y bytes ml ret w h0 ws vm0 T h locs cells slots) (hd : decode bytes pc = .ok (.anewarray idx, 3)) (w1 : (Jvm.Cond.classLink y.cls idx C).before a0 Z = true) (w2 : (Jvm.Cond.arrayOver (.object C)).before a0 Z = true) (hn : ¬ n < 0) (cap : Nat) (hcap : n.toNatClampNeg ≤ cap) (hbg : cap * 8 ≤ 536870912) (hc : cells + 1 ≤ R.cells) (hs : slots + cap ≤ R.slots) (ad : String) (had : "[" ++ (FieldType.object C).toString = ad) (hp : pc + 3 = pc')
    (k : ∀ a T' h' kc, Wk p l e R s m args below meth c Z a0 EL y bytes ml ret w h0 ws vm0 T' h' locs (cells + 1) (slots + cap) → Ev w Z EL vm0 h vm0 h' [] → h.size ≤ a → Arv Z h' a kc (.object C) n [] .null → Ok w Z EL h0 ws vm0 h' a → Exa Z h' a ad → Ovr Z kc C → Go p e below F T' (mkF m pc' Ls (.ref a :: rest))) : Go p e below F T (mkF m pc Ls (.int n :: rest)) := by
  subst hp
  obtain ⟨T', h', kc, X', e', E, A, Ex, O, st⟩ := newRE X.st X.hx X.hZ X.hown w1 w2 X.hT (g := mkF m pc Ls (.int n :: rest)) rfl (hb X.hby hd) rfl hn hcap hbg hc hs had
  have V := X.evE E
  exact (k h.size T' h' kc (X.same X' e' X.hN V two0) V (Nat.le_refl _) (Arv.new A hn) (X.okNew E A.lt) Ex O).by fun t r => st t r
theorem s_instN {idx : Nat} {K C : String} (X : Wk p l e R s m args below meth c Z a0 EL y bytes ml ret w h0 ws vm0 T h locs cells slots) (hd : decode bytes pc = .ok (.instanceof idx, 3)) (w1 : (Jvm.Cond.classLink y.cls idx K).before a0 Z = true) (E : Exa Z h a C) (N : ∃ c t, Z.vm.findClass C = some c ∧ Z.vm.findClass K = some t ∧ Z.vm.assignable c t = false) (hp : pc + 3 = pc')
    (k : ∀ T', Wk p l e R s m args below meth c Z a0 EL y bytes ml ret w h0 ws vm0 T' h locs cells slots → Go p e below F T' (mkF m pc' Ls (.int 0 :: rest))) : Go p e below F T (mkF m pc Ls (.ref a :: rest)) := by
  subst hp
  obtain ⟨T', X', e', st⟩ := instNo X.st X.hx X.hZ X.hown w1 X.hT E N (g := mkF m pc Ls (.ref a :: rest)) rfl rfl (hb X.hby hd)
  exact (k T' (X.same X' e' X.hN X.evR two0)).by fun t r => st t r
theorem arv_ne {k k' : ClassId} {ty ty' : FieldType} {n n' : Int32} {vs vs' : List Value} {dv dv' : Value} (A : Arv Z h a k ty n vs dv) (B : Arv Z h b k' ty' n' vs' dv') (hn : ty ≠ ty') : a ≠ b := fun q => by
  subst q
  obtain ⟨c1, ⟨r1, ⟨-, k1, s1, m1, t1⟩, -⟩, -⟩ := A
  obtain ⟨c2, ⟨r2, ⟨-, k2, s2, m2, t2⟩, -⟩, -⟩ := B
  cases r1.symm.trans r2
  cases s1.symm.trans s2
  rw [t1] at t2
  cases t2
  exact hn rfl
theorem exa_ne {C D : String} (E1 : Exa Z h a C) (E2 : Exa Z h b D) (hn : C ≠ D) : a ≠ b := fun q => by
  subst q
  obtain ⟨c1, k1, r1, s1, -⟩ := E1
  obtain ⟨c2, k2, r2, s2, -⟩ := E2
  cases r1.symm.trans r2
  exact ids_ne s1 s2 hn rfl
theorem Str.keepA {cs : List Int32} {k : ClassId} {ty : FieldType} {n : Int32} {vs : List Value} {dv : Value} {nn : Nat} (S : Str Z h a cs) (K : Keep h h' [x]) (A : Arv Z h x k ty n vs dv) (ht : ty ≠ .byte) (wi : (Jvm.Cond.instantiable "java/lang/String" nn).before a0 Z = true) : Str Z h' a cs := by
  obtain ⟨h1, h2, E, C, t, kb, U, B⟩ := S
  have n1 : a ≠ x := Exa.neArv E A wi
  have n2 : t ≠ x := arv_ne B A (Ne.symm ht)
  exact ⟨h1, h2, Exa.keep E K, Fld.keep C K (ninS n1 nin0), t, kb, Fld.keep U K (ninS n1 nin0), Arv.keep B K (ninS n2 nin0)⟩
/-- no String, and no byte array -/
def Off (Z : State) (h : Heap) (x : Addr) : Prop := (∀ a, Exa Z h a "java/lang/String" → a ≠ x) ∧ ∀ (t : Addr) (kb : ClassId) (n : Int32) (vs : List Value) (d : Value), Arv Z h t kb .byte n vs d → t ≠ x
theorem Off.ofE {C : String} {n : Nat} (E : Exa Z h x C) (hC : C ≠ "java/lang/String") (wi : (Jvm.Cond.instantiable C n).before a0 Z = true) : Off Z h x := ⟨fun _ F => exa_ne F E (Ne.symm hC), fun _ _ _ _ _ A => Ne.symm (Exa.neArv E A wi)⟩
theorem Off.ofA {k : ClassId} {ty : FieldType} {n : Int32} {vs : List Value} {dv : Value} {nn : Nat} (A : Arv Z h x k ty n vs dv) (ht : ty ≠ .byte) (wi : (Jvm.Cond.instantiable "java/lang/String" nn).before a0 Z = true) : Off Z h x := ⟨fun _ F => Exa.neArv F A wi, fun _ _ _ _ _ B => arv_ne B A (Ne.symm ht)⟩
theorem Off.nil : ∀ x ∈ ([] : List Addr), Off Z h x := fun _ q => nomatch q
theorem Off.cons (O : Off Z h x) (q : ∀ y ∈ ws, Off Z h y) : ∀ y ∈ x :: ws, Off Z h y := fun y hy => (List.mem_cons.mp hy).elim (fun e => e ▸ O) (q y)
theorem Str.keepW {cs : List Int32} (S : Str Z h a cs) (K : Keep h h' ws) (q : ∀ y ∈ ws, Off Z h y) : Str Z h' a cs := by
  obtain ⟨h1, h2, E, C, t, kb, U, B⟩ := S
  have n1 : a ∉ ws := fun z => (q a z).1 a E rfl
  have n2 : t ∉ ws := fun z => (q t z).2 t kb _ _ _ B rfl
  exact ⟨h1, h2, Exa.keep E K, Fld.keep C K n1, t, kb, Fld.keep U K n1, Arv.keep B K n2⟩
/-- a class that can be made, as a goal of the superclass chain -/
theorem ns_root {O K : String} {n : Nat} (w1 : (Jvm.Cond.noSuperclass O).before a0 Z = true) (wk : (Jvm.Cond.instantiable K n).before a0 Z = true) (hn : O ≠ K) : NS Z O K := by
  obtain ⟨c, k, h1, h2, h3, -, -⟩ := Cond.noSuperclass_spec w1
  obtain ⟨t, kt, g1, -⟩ := Cond.instantiable_spec wk
  have ne := ids_ne h1 g1 hn
  refine ⟨c, t, h1, g1, fun fuel => ?_⟩
  cases fuel with
  | zero => rfl
  | succ f => simp [Vm.isSubclassAux, ne, h2, h3]
theorem ns_no {C S K : String} {n : Nat} (w1 : (Jvm.Cond.superclass C S).before a0 Z = true) (wk : (Jvm.Cond.instantiable K n).before a0 Z = true) (N : NS Z C K) (hn : C ≠ K) : ∃ c t, Z.vm.findClass C = some c ∧ Z.vm.findClass K = some t ∧ Z.vm.assignable c t = false := by
  obtain ⟨c, t, h0, g0, n3⟩ := N
  obtain ⟨p, k, kp, h1, h2, h3, h4, h5, -, h7⟩ := Cond.superclass_spec h0 w1
  obtain ⟨t', k', g1, g2, g3, g4, -⟩ := Cond.instantiable_spec wk
  cases g0.symm.trans g1
  have ne := ids_ne h0 g0 hn
  have gi : k'.isInterface = false := by simp only [Bool.or_eq_false_iff] at g4; exact g4.1
  refine ⟨c, t, h0, g0, ?_⟩
  show Z.vm.assignableAux (255 + 1) c t = false
  simp [Vm.assignableAux, ne, h2, g2, h5, g3, gi, Vm.isSubclass, n3]
theorem s_tsw {k0 : Int32} {df lo hi off : Int} {offs : Array Int} {len : Nat} (X : Wk p l e R s m args below meth c Z a0 EL y bytes ml ret w h0 ws vm0 T h locs cells slots) (hd : decode bytes pc = .ok (.tableswitch df lo hi offs, len)) (hin : ¬ (k0.toInt < lo ∨ k0.toInt > hi)) (ho : offs[(k0.toInt - lo).toNat]? = some off) (hn : 0 ≤ (pc : Int) + off) (hp : ((pc : Int) + off).toNat = pc')
    (k : Go p e below F T (mkF m pc' Ls rest)) : Go p e below F T (mkF m pc Ls (.int k0 :: rest)) := by
  subst hp
  exact k.by fun t r => X.st.tableswitchIn X.hx (g := mkF m pc Ls (.int k0 :: rest)) rfl rfl (hb X.hby hd) hin ho hn t r
theorem s_tswD {k0 : Int32} {df lo hi : Int} {offs : Array Int} {len : Nat} (X : Wk p l e R s m args below meth c Z a0 EL y bytes ml ret w h0 ws vm0 T h locs cells slots) (hd : decode bytes pc = .ok (.tableswitch df lo hi offs, len)) (hin : k0.toInt < lo ∨ k0.toInt > hi) (hn : 0 ≤ (pc : Int) + df) (hp : ((pc : Int) + df).toNat = pc')
    (k : Go p e below F T (mkF m pc' Ls rest)) : Go p e below F T (mkF m pc Ls (.int k0 :: rest)) := by
  subst hp
  exact k.by fun t r => X.st.tableswitchOut X.hx (g := mkF m pc Ls (.int k0 :: rest)) rfl rfl (hb X.hby hd) hin hn t r
theorem s_getfieldV {idx : Nat} {R0 O nm d : String} {v : Value} (X : Wk p l e R s m args below meth c Z a0 EL y bytes ml ret w h0 ws vm0 T h locs cells slots) (hd : decode bytes pc = .ok (.getfield idx, 3)) (w1 : (Jvm.Cond.fieldLink y.cls idx R0 nm d).before a0 Z = true) (w2 : (Jvm.Cond.sameField R0 O nm d).before a0 Z = true) (Fo : Fld Z h a O nm d v) (hp : pc + 3 = pc')
    (k : ∀ T', Wk p l e R s m args below meth c Z a0 EL y bytes ml ret w h0 ws vm0 T' h locs cells slots → Go p e below F T' (mkF m pc' Ls (v :: rest))) : Go p e below F T (mkF m pc Ls (.ref a :: rest)) := by
  subst hp
  obtain ⟨T', X', e', st⟩ := getF X.st X.hx X.hZ X.hown (host := "") (Or.inl w1) (Via.of w2) X.hT Fo (g := mkF m pc Ls (.ref a :: rest)) rfl rfl (hb X.hby hd)
  exact (k T' (X.same X' e' X.hN X.evR two0)).by fun t r => st t r
theorem s_putfieldV {idx kk : Nat} {R0 O nm d C : String} {old v : Value} {ty : FieldType} (X : Wk p l e R s m args below meth c Z a0 EL y bytes ml ret w h0 ws vm0 T h locs cells slots) (hd : decode bytes pc = .ok (.putfield idx, 3)) (w1 : (Jvm.Cond.fieldLink y.cls idx R0 nm d).before a0 Z = true) (w2 : (Jvm.Cond.sameField R0 O nm d).before a0 Z = true) (Fo : Fld Z h a O nm d old) (E : Exa Z h a C) (L : (Jvm.Cond.lays C O nm d).before a0 Z = true) (wi : (Jvm.Cond.instantiable C kk).before a0 Z = true) (hty : parseFieldDescriptor d = some ty) (hn : narrow ty v = v) (hf : fits ty v = true) (Oa : Ok w Z EL h0 ws vm0 h a) (hp : pc + 3 = pc')
    (k : ∀ T' h', Wk p l e R s m args below meth c Z a0 EL y bytes ml ret w h0 ws vm0 T' h' (locs ++ [⟨a, Jvm.RoadKit.slotOf Z O nm d⟩]) cells slots → Ev w Z EL vm0 h vm0 h' [a] → Wr h h' a (Jvm.RoadKit.slotOf Z O nm d) v → Go p e below F T' (mkF m pc' Ls rest)) : Go p e below F T (mkF m pc Ls (v :: .ref a :: rest)) := by
  subst hp
  obtain ⟨T', h', X', e', W, st⟩ := putF X.st X.hx X.hZ X.hown (host := "") (Or.inl w1) (Via.of w2) X.hT Fo E (Or.inl L) wi hty hn hf (g := mkF m pc Ls (v :: .ref a :: rest)) rfl rfl (hb X.hby hd)
  have V := X.evW W Oa
  exact (k T' h' (X.same X' e' (Fr.snoc X' X.hN Oa.2.1) V (Ok.two Oa.one)) V W).by fun t r => st t r
/-- System.arraycopy between two arrays of references -/
theorem s_arraycopyR {idx : Nat} {k k' : ClassId} {ty ty' : FieldType} {z z' sp dp nn : Int32} {vs vd : List Value} {dv dd : Value} (X : Wk p l e R s m args below meth c Z a0 EL y bytes ml ret w h0 ws vm0 T h locs cells slots) (hd : decode bytes pc = .ok (.invokestatic idx, 3)) (w1 : (Jvm.Cond.methodLink y.cls idx Jvm.Stand.acN).before a0 Z = true) (w2 : (Jvm.Cond.native Jvm.Stand.acN).before a0 Z = true) (w3 : (Jvm.Cond.static Jvm.Stand.acN).before a0 Z = true) (w4 : (Jvm.Cond.initialized "java/lang/System").before a0 Z = true)
    (A : Arv Z h a k ty z vs dv) (B : Arv Z h b k' ty' z' vd dd) (hty : refKind ty = true) (hty' : refKind ty' = true) (us : List Value) (hS : StoL Z h b us) (h1 : ¬ sp < 0) (h2 : ¬ dp < 0) (h3 : ¬ nn < 0) (h4 : sp.toNatClampNeg + nn.toNatClampNeg ≤ z.toNatClampNeg) (h5 : dp.toNatClampNeg + nn.toNatClampNeg ≤ z'.toNatClampNeg)
    (hus : us = (List.range nn.toNatClampNeg).map fun i => vs.getD (sp.toNatClampNeg + i) dv) (hl : dp.toNatClampNeg + nn.toNatClampNeg ≤ vd.length) (vd' : List Value) (hvd : vd.take dp.toNatClampNeg ++ us ++ vd.drop (dp.toNatClampNeg + nn.toNatClampNeg) = vd') (Ob : Ok w Z EL h0 ws vm0 h b)
    (hsz : Ls.size = ml) (W : Nat) (hW : (rest.map fun v => v.category).sum ≤ W) (hf : 1 ≤ R.frames) (hlo : W + (nativeFrameWords "java/lang/System" "arraycopy" 5 + 11) ≤ R.locals) (hp : pc + 3 = pc')
    (kk : ∀ T' h' L, Wk p l e R s m args below meth c Z a0 EL y bytes ml ret w h0 ws vm0 T' h' L cells slots → Ev w Z EL vm0 h vm0 h' [b] → Arv Z h' b k' ty' z' vd' dd → Go p e below F T' (mkF m pc' Ls rest)) : Go p e below F T (mkF m pc Ls (.int nn :: .int dp :: .ref b :: .int sp :: .ref a :: rest)) := by
  subst hp hvd
  obtain ⟨T', h', L, X', e', N, K, A', st⟩ := cpA X.st X.hx X.hZ X.hown w1 w2 w3 w4 X.hT A B (Or.inr ⟨hty, hty', hS⟩) h1 h2 h3 h4 h5 hus hl X.hN Ob.2.1 (g := mkF m pc Ls (.int nn :: .int dp :: .ref b :: .int sp :: .ref a :: rest)) rfl (hsz.trans X.hml.symm) rfl (hb X.hby hd) hf (W := W) (by show 2 * 0 + _ ≤ _; omega) hlo
  have V := X.evK K Ob.one
  exact (kk T' h' L (X.same X' e' N V (Ok.two Ob.one)) V A').by fun t r => st t r
section Calls3
variable {y' z' : MethodName} {bytes' : ByteArray} {ml' idx W : Nat} {ret' : Option FieldType} {rm : Room} {P : Option Value → Heap → Prop} {S argsL : List Value} {Q : Option Value → Heap → List Loc → Prop} {cc ss : Nat} {C : String}
/-- a private method of the class itself -/
theorem c_private (X : Wk p l e R s m args below meth c Z a0 EL y bytes ml ret w h0 ws vm0 T h locs cells slots) (hd : decode bytes pc = .ok (.invokevirtual idx, 3)) (w1 : (Jvm.Cond.methodLink y.cls idx y').before a0 Z = true) (w2 : (Jvm.Cond.instanceMethod y').before a0 Z = true) (w3 : (Jvm.Cond.selects y'.cls y' y').before a0 Z = true) (w4 : (Jvm.Cond.privateMethod y').before a0 Z = true) (w5 : (Jvm.Cond.initialized y'.cls).before a0 Z = true) (w6 : (Jvm.Cond.code y' bytes' ml' ret').before a0 Z = true) (hy : Pl y')
    (a : Addr) (argsL rest : List Value) (W : Nat) (E : Exa Z h a C) (H : Ctr false l Z a0 EL y' bytes' ml' ret' rm (.ref a :: argsL).toArray h ws' P) (hok : ∀ x ∈ ws', Ok w Z EL h0 ws vm0 h x) (hlen : ∀ sig, parseMethodDescriptor y'.desc = some sig → argsL.length = sig.parameters.length) (hS : S = argsL.reverse ++ .ref a :: rest) (hW : (rest.map fun v => v.category).sum ≤ W) (hf : rm.frames + 1 ≤ R.frames) (hl : W + (ml' + 11) + rm.locals ≤ R.locals) (hc : cells + rm.cells ≤ R.cells) (hs : slots + rm.slots ≤ R.slots) (hsz : Ls.size = ml) (hp : pc + 3 = pc')
    (k : ∀ v vm1 T' h' L, Wk p l e R s m args below meth c Z a0 EL y bytes ml ret w h0 ws vm1 T' h' (locs ++ L) (cells + rm.cells) (slots + rm.slots) → Ev w Z EL vm0 h vm1 h' ws' → P v h' → Go p e below F T' (mkF m pc' Ls (v.toList ++ rest))) : Go p e below F T (mkF m pc Ls S) := by
  subst hp hS
  obtain ⟨cell, kq, e1, e2, e3, e4, -⟩ := E
  obtain ⟨v, vm, B, -, X', hq, st⟩ := X.st.privateBack X.hx X.hown (mvT X.hZ w1) (mvT X.hZ w2) (mvT X.hZ w3) (Cond.privateMethod_at (args := #[]) (mvT X.hZ w4)) (mvT X.hZ w6) hy (Ctr.back rfl H X.hZ w6 w5 hf hl) (g := mkF m pc Ls (argsL.reverse ++ .ref a :: rest)) rfl (hsz.trans X.hml.symm) (Steps.refl _) (a := a) (cell := cell) (by rw [X.hT]; exact e1) (fun q u => by rw [u] at e4; cases e4) hlen rfl (by show 2 * 0 + _ ≤ _; omega) (hb X.hby hd) (fun _ _ => ⟨rfl, X.hT, hc, hs⟩)
  exact goB X X' hq st (fun v h' L q => q) hok k
/-- a constructor of a nest mate -/
theorem c_specialN {host : String} (X : Wk p l e R s m args below meth c Z a0 EL y bytes ml ret w h0 ws vm0 T h locs cells slots) (hd : decode bytes pc = .ok (.invokespecial idx, 3)) (hn : y'.name = "<init>") (w1 : (Jvm.Cond.methodLinkNest y.cls idx y' host).before a0 Z = true) (w2 : (Jvm.Cond.instanceMethod y').before a0 Z = true) (w3 : (Jvm.Cond.initialized y'.cls).before a0 Z = true) (w4 : (Jvm.Cond.code y' bytes' ml' none).before a0 Z = true) (hy : Pl y')
    (a : Addr) (argsL rest : List Value) (W : Nat) (H : Ctr false l Z a0 EL y' bytes' ml' none rm (.ref a :: argsL).toArray h ws' P) (hok : ∀ x ∈ ws', Ok w Z EL h0 ws vm0 h x) (hlen : ∀ sig, parseMethodDescriptor y'.desc = some sig → argsL.length = sig.parameters.length) (hS : S = argsL.reverse ++ .ref a :: rest) (hW : (rest.map fun v => v.category).sum ≤ W) (hf : rm.frames + 1 ≤ R.frames) (hl : W + (ml' + 11) + rm.locals ≤ R.locals) (hc : cells + rm.cells ≤ R.cells) (hs : slots + rm.slots ≤ R.slots) (hsz : Ls.size = ml) (hp : pc + 3 = pc')
    (k : ∀ v vm1 T' h' L, Wk p l e R s m args below meth c Z a0 EL y bytes ml ret w h0 ws vm1 T' h' (locs ++ L) (cells + rm.cells) (slots + rm.slots) → Ev w Z EL vm0 h vm1 h' ws' → P v h' → Go p e below F T' (mkF m pc' Ls (v.toList ++ rest))) : Go p e below F T (mkF m pc Ls S) := by
  subst hp hS
  obtain ⟨v, vm, B, -, X', hq, st⟩ := X.st.specialBackNest X.hx hn X.hown (Cond.methodLinkNest_wide (s := Z) X.hZ w1 :) (mvT X.hZ w2) (mvT X.hZ w4) hy (Ctr.back rfl H X.hZ w4 w3 hf hl) (g := mkF m pc Ls (argsL.reverse ++ .ref a :: rest)) rfl (hsz.trans X.hml.symm) (Steps.refl _) hlen rfl (by show 2 * 0 + _ ≤ _; omega) (hb X.hby hd) (fun _ _ => ⟨rfl, X.hT, hc, hs⟩)
  exact goB X X' hq st (fun v h' L q => q) hok k
end Calls3
theorem s_ldc2J {idx : Nat} {v : Int64} (X : Wk p l e R s m args below meth c Z a0 EL y bytes ml ret w h0 ws vm0 T h locs cells slots) (hd : decode bytes pc = .ok (.ldc2_w idx, 3)) (w1 : (Jvm.Cond.constantLong y.cls idx v).before a0 Z = true) (hp : pc + 3 = pc') (k : Go p e below F T (mkF m pc' Ls (.long v :: rest))) : Go p e below F T (mkF m pc Ls rest) := by
  subst hp
  exact k.by fun t r => X.st.ldc2Long X.hx X.hown (mvT X.hZ w1) (g := mkF m pc Ls rest) rfl (hb X.hby hd) t r
theorem s_iaddV {u v : Int32} (z : Int32) (X : Wk p l e R s m args below meth c Z a0 EL y bytes ml ret w h0 ws vm0 T h locs cells slots) (hd : decode bytes pc = .ok (.iadd, 1)) (hz : u + v = z) (hp : pc + 1 = pc') (k : Go p e below F T (mkF m pc' Ls (.int z :: rest))) : Go p e below F T (mkF m pc Ls (.int v :: .int u :: rest)) := by
  subst hz; exact s_iadd X hd hp k
theorem s_isubV {u v : Int32} (z : Int32) (X : Wk p l e R s m args below meth c Z a0 EL y bytes ml ret w h0 ws vm0 T h locs cells slots) (hd : decode bytes pc = .ok (.isub, 1)) (hz : u - v = z) (hp : pc + 1 = pc') (k : Go p e below F T (mkF m pc' Ls (.int z :: rest))) : Go p e below F T (mkF m pc Ls (.int v :: .int u :: rest)) := by
  subst hz; exact s_isub X hd hp k
theorem s_iincV {kk : Nat} {cst : Int} {u z : Int32} (X : Wk p l e R s m args below meth c Z a0 EL y bytes ml ret w h0 ws vm0 T h locs cells slots) (hd : decode bytes pc = .ok (.iinc kk cst, 3)) (v : Int32) (hv : Int32.ofInt cst = v) (hl : Ls[kk]? = some (.val (.int u))) (hz : u + v = z) (Ls' : Array Slot) (hl' : storeLocals Ls kk (.int z) = some Ls') (hp : pc + 3 = pc') (k : Go p e below F T (mkF m pc' Ls' rest)) : Go p e below F T (mkF m pc Ls rest) := by
  subst hz; exact s_iinc X hd v hv hl Ls' hl' hp k
theorem Wk.okA {k : ClassId} {ty : FieldType} {n : Int32} {vs : List Value} {dv : Value} (X : Wk p l e R s m args below meth c Z a0 EL y bytes ml ret w h0 ws vm0 T h locs cells slots) (hE0 : Ext Z.heap h0) (A : Arv Z h x k ty n vs dv) (ht : ty ≠ .byte) (g : h0.size ≤ x) : Ok w Z EL h0 ws vm0 h x := ⟨A.lt, Nat.le_trans hE0.1 g, Or.inr g, fun _ => by obtain ⟨cl, Ar, -⟩ := A; exact Safe.arr X.hZ.alike Ar ht⟩
theorem Wk.okE {C : String} (X : Wk p l e R s m args below meth c Z a0 EL y bytes ml ret w h0 ws vm0 T h locs cells slots) (hE0 : Ext Z.heap h0) (E : Exa Z h x C) (h1 : C ≠ "java/lang/String") (h2 : C ≠ "[B") (g : h0.size ≤ x) : Ok w Z EL h0 ws vm0 h x := ⟨E.lt, Nat.le_trans hE0.1 g, Or.inr g, fun _ => Safe.exa X.hZ.alike E h1 h2⟩
theorem Ok.cons (O : Ok w Z EL h0 ws vm0 h a) (q : ∀ x ∈ ws', Ok w Z EL h0 ws vm0 h x) : ∀ x ∈ a :: ws', Ok w Z EL h0 ws vm0 h x := fun x hx => (List.mem_cons.mp hx).elim (fun e => e ▸ O) (q x)
theorem ofNat_add (a b : Nat) : Int32.ofNat a + Int32.ofNat b = Int32.ofNat (a + b) := by
  apply Int32.toInt_inj.mp
  rw [Int32.toInt_add, Int32.toInt_ofNat', Int32.toInt_ofNat', Int32.toInt_ofNat']
  simp
theorem ofNat_sub {a b : Nat} (h : b ≤ a) : Int32.ofNat a - Int32.ofNat b = Int32.ofNat (a - b) := by
  apply Int32.toInt_inj.mp
  rw [Int32.toInt_sub, Int32.toInt_ofNat', Int32.toInt_ofNat', Int32.toInt_ofNat', Int.ofNat_sub h]
  simp
end Own3
end Own
namespace Own
section Own4
variable {p : Program} {l : Launch} {e : Env} {R : Room} {s : State} {m : MethodId} {args : Array Value} {below : List Frame} {meth : Method} {c : Code} {Z : State} {a0 : Array Value} {EL : List (String × Nat)} {y : MethodName} {bytes : ByteArray} {ml : Nat} {ret : Option FieldType} {w : Bool} {h0 : Heap} {ws ws' : List Addr} {vm0 vm1 : Vm} {T T' : State} {h h' h1 : Heap} {locs locs' : List Loc} {cells slots cells' slots' : Nat} {F : State → Option Value → Prop} {pc pc' : Nat} {Ls Ls' : Array Slot} {rest : List Value} {a b x : Addr}
/-- in a walk that interns nothing, what is new may be written -/
theorem okF (hE0 : Ext Z.heap h0) (hlt : x < h.size) (g : h0.size ≤ x) : Ok false Z EL h0 ws vm0 h x := ⟨hlt, Nat.le_trans hE0.1 g, Or.inr g, nofun⟩
theorem s_lsw {k0 : Int32} {df a1 off : Int} {prs : Array (Int × Int)} {len : Nat} (X : Wk p l e R s m args below meth c Z a0 EL y bytes ml ret w h0 ws vm0 T h locs cells slots) (hd : decode bytes pc = .ok (.lookupswitch df prs, len)) (hs : (prs.toList.zip (prs.toList.drop 1)).all (fun (a, next) => a.1 < next.1) = true) (hf : prs.find? (·.1 == k0.toInt) = some (a1, off)) (hn : 0 ≤ (pc : Int) + off) (hp : ((pc : Int) + off).toNat = pc')
    (k : Go p e below F T (mkF m pc' Ls rest)) : Go p e below F T (mkF m pc Ls (.int k0 :: rest)) := by
  subst hp
  exact k.by fun t r => X.st.lookupswitchHit X.hx (g := mkF m pc Ls (.int k0 :: rest)) rfl rfl (hb X.hby hd) hs hf hn t r
theorem s_lswD {k0 : Int32} {df : Int} {prs : Array (Int × Int)} {len : Nat} (X : Wk p l e R s m args below meth c Z a0 EL y bytes ml ret w h0 ws vm0 T h locs cells slots) (hd : decode bytes pc = .ok (.lookupswitch df prs, len)) (hs : (prs.toList.zip (prs.toList.drop 1)).all (fun (a, next) => a.1 < next.1) = true) (hf : prs.find? (·.1 == k0.toInt) = none) (hn : 0 ≤ (pc : Int) + df) (hp : ((pc : Int) + df).toNat = pc')
    (k : Go p e below F T (mkF m pc' Ls rest)) : Go p e below F T (mkF m pc Ls (.int k0 :: rest)) := by
  subst hp
  exact k.by fun t r => X.st.lookupswitchMiss X.hx (g := mkF m pc Ls (.int k0 :: rest)) rfl rfl (hb X.hby hd) hs hf hn t r
theorem s_ishlV {u v : Int32} (z : Int32) (X : Wk p l e R s m args below meth c Z a0 EL y bytes ml ret w h0 ws vm0 T h locs cells slots) (hd : decode bytes pc = .ok (.ishl, 1)) (hz : u <<< (v &&& 31) = z) (hp : pc + 1 = pc') (k : Go p e below F T (mkF m pc' Ls (.int z :: rest))) : Go p e below F T (mkF m pc Ls (.int v :: .int u :: rest)) := by
  subst hz; exact s_ishl X hd hp k
theorem s_ishrV {u v : Int32} (z : Int32) (X : Wk p l e R s m args below meth c Z a0 EL y bytes ml ret w h0 ws vm0 T h locs cells slots) (hd : decode bytes pc = .ok (.ishr, 1)) (hz : u >>> (v &&& 31) = z) (hp : pc + 1 = pc') (k : Go p e below F T (mkF m pc' Ls (.int z :: rest))) : Go p e below F T (mkF m pc Ls (.int v :: .int u :: rest)) := by
  subst hz; exact s_ishr X hd hp k
theorem s_i2cV {u : Int32} (z : Int32) (X : Wk p l e R s m args below meth c Z a0 EL y bytes ml ret w h0 ws vm0 T h locs cells slots) (hd : decode bytes pc = .ok (.i2c, 1)) (hz : u.toUInt32.toUInt16.toUInt32.toInt32 = z) (hp : pc + 1 = pc') (k : Go p e below F T (mkF m pc' Ls (.int z :: rest))) : Go p e below F T (mkF m pc Ls (.int u :: rest)) := by
  subst hz; exact s_i2c X hd hp k
theorem s_newarrayE {aty : ArrayType} {n : Int32} (X : Wk p l e R s m args below meth c Z a0 EL y bytes ml ret w h0 ws vm0 T h locs cells slots) (hd : decode bytes pc = .ok (.newarray aty, 2)) (w1 : (Jvm.Cond.arrayClass (newarray.typeOf aty)).before a0 Z = true) (hn : ¬ n < 0) (cap : Nat) (hcap : n.toNatClampNeg ≤ cap) (hbg : cap * 8 ≤ 536870912) (hc : cells + 1 ≤ R.cells) (hs : slots + cap ≤ R.slots) (ad : String) (had : "[" ++ (newarray.typeOf aty).toString = ad) (hp : pc + 2 = pc')
    (k : ∀ a T' h' kc, Wk p l e R s m args below meth c Z a0 EL y bytes ml ret w h0 ws vm0 T' h' locs (cells + 1) (slots + cap) → Ev w Z EL vm0 h vm0 h' [] → h.size ≤ a → Arv Z h' a kc (newarray.typeOf aty) n [] (defaultValue (newarray.typeOf aty)) → Ok w Z EL h0 ws vm0 h' a → Exa Z h' a ad → Go p e below F T' (mkF m pc' Ls (.ref a :: rest))) : Go p e below F T (mkF m pc Ls (.int n :: rest)) := by
  subst hp
  obtain ⟨T', h', kc, X', e', E, A, Ex, st⟩ := newPE X.st X.hx X.hZ w1 X.hT (g := mkF m pc Ls (.int n :: rest)) rfl (hb X.hby hd) rfl hn hcap hbg hc hs had
  have V := X.evE E
  exact (k h.size T' h' kc (X.same X' e' X.hN V two0) V (Nat.le_refl _) (Arv.new A hn) (X.okNew E A.lt) Ex).by fun t r => st t r
/-- clone of a byte array -/
theorem fitC {ty : FieldType} {vs : List Value} {dv : Value} {cl : Cell} (A : Arr Z h a cl ty) (H : Has cl vs dv) (G : ∀ i, i < cl.slots.size → fits ty (vs.getD i dv) = true) : FitC Z cl := fun i v hv => by
  obtain ⟨hi, rfl⟩ := Array.getElem?_eq_some_iff.mp hv
  have q := G i hi
  have r := H i hi
  rw [Array.getElem?_eq_getElem hi] at r
  obtain ⟨-, kk, hk, comp, hkind⟩ := A.2.1
  have e1 : Z.slotType? cl.cls .none i = some ty := by simp [State.slotType?, hk, hkind]
  rw [Option.some.inj r]
  simpa [State.fitsSlot, e1] using q
theorem s_clone {idx : Nat} {k : ClassId} {ty : FieldType} {n : Int32} {vs : List Value} {dv : Value} {ad : String} (X : Wk p l e R s m args below meth c Z a0 EL y bytes ml ret w h0 ws vm0 T h locs cells slots) (hd : decode bytes pc = .ok (.invokevirtual idx, 3)) (w1 : (Jvm.Cond.methodLink y.cls idx ⟨ad, "clone", "()Ljava/lang/Object;"⟩).before a0 Z = true) (w2 : (Jvm.Cond.sameMethod ad "java/lang/Object" "clone" "()Ljava/lang/Object;").before a0 Z = true) (w3 : (Jvm.Cond.native ⟨"java/lang/Object", "clone", "()Ljava/lang/Object;"⟩).before a0 Z = true)
    (w4 : (Jvm.Cond.instanceMethod ⟨"java/lang/Object", "clone", "()Ljava/lang/Object;"⟩).before a0 Z = true) (w5 : (Jvm.Cond.selects ad ⟨ad, "clone", "()Ljava/lang/Object;"⟩ ⟨"java/lang/Object", "clone", "()Ljava/lang/Object;"⟩).before a0 Z = true) (w6 : (Jvm.Cond.castable ad "java/lang/Cloneable").before a0 Z = true)
    (A : Arv Z h a k ty n vs dv) (E : Exa Z h a ad) (hsz : Ls.size = ml) (W : Nat) (hW : (rest.map fun v => v.category).sum ≤ W) (hf : 1 ≤ R.frames) (hl : W + 14 ≤ R.locals) (cap : Nat) (hcap : n.toNatClampNeg ≤ cap) (hc : cells + 1 ≤ R.cells) (hs : slots + cap ≤ R.slots) (hp : pc + 3 = pc')
    (kk : ∀ b T' h', Wk p l e R s m args below meth c Z a0 EL y bytes ml ret w h0 ws vm0 T' h' locs (cells + 1) (slots + cap) → Ev w Z EL vm0 h vm0 h' [] → h.size ≤ b → Arv Z h' b k ty n vs dv → Ok w Z EL h0 ws vm0 h' b → Exa Z h' b ad → Go p e below F T' (mkF m pc' Ls (.ref b :: rest))) : Go p e below F T (mkF m pc Ls (.ref a :: rest)) := by
  subst hp
  obtain ⟨cl, Ar, q1, S, q3, H, G⟩ := A
  obtain ⟨T', h', X', e', Ex, A', E', st⟩ := cloneA X.st X.hx X.hZ X.hown w1 w2 w3 w4 w5 w6 X.hT Ar E (fitC Ar H G) (g := mkF m pc Ls (.ref a :: rest)) rfl (hsz.trans X.hml.symm) rfl (hb X.hby hd) hf (W := W) (cap := cap) (by show 2 * 0 + _ ≤ _; omega) hl (by rw [S]; exact hcap) hc hs
  have V := X.evE Ex
  exact (kk h.size T' h' (X.same X' e' X.hN V two0) V (Nat.le_refl _) ⟨_, A', q1, S, q3, H, G⟩ (X.okNew Ex E'.lt) E').by fun t r => st t r
/-- the class that declares y finds y -/
theorem same_self {y' z' : MethodName} {C : String} (w1 : (Jvm.Cond.instanceMethod y').before a0 Z = true) (w2 : (Jvm.Cond.selects C z' z').before a0 Z = true) (hc : z'.cls = y'.cls) (hy : Pl y') : (Jvm.Cond.sameMethod y'.cls y'.cls y'.name y'.desc).before a0 Z = true := by
  obtain ⟨mk, methM, hnamed, hmethM, -, -⟩ := Cond.instanceMethod_spec w1
  obtain ⟨c2, r2, m2, -, -, q3, -, kP, hkP, hkPi⟩ := Cond.selects_spec w2
  have hfound : Z.methodFound? y'.cls y'.name y'.desc = some mk := State.methodFound?_of_named hnamed hy
  have f1 := findClass_of_methodNamed hnamed
  have f2 := findClass_of_methodNamed q3
  rw [hc] at f2
  have e : m2.cls = mk.cls := Option.some.inj (f2.symm.trans f1)
  rw [e] at hkP
  have hn : Z.methodNamed? ⟨y'.cls, y'.name, y'.desc⟩ = some mk := hnamed
  simp [Cond.before, Cond.holds, Cond.value, f1, hfound, hn, hkP, hkPi]
theorem priv_self {y' : MethodName} {C : String} (w1 : (Jvm.Cond.instanceMethod y').before a0 Z = true) (w2 : (Jvm.Cond.selects C y' y').before a0 Z = true) (w3 : (Jvm.Cond.privateMethod y').before a0 Z = true) (hy : Pl y') : (Jvm.Cond.selects y'.cls y' y').before a0 Z = true := by
  obtain ⟨c2, r2, m2, -, -, q3, -, kP, hkP, hkPi⟩ := Cond.selects_spec w2
  exact selects_self_of_private (findClass_of_methodNamed q3) hkP hkPi (Cond.privateMethod_at w3) w1 hy
theorem nf_by {s : State} {args : Array Value} {y' z' : MethodName} {C : String} (w : (Jvm.Cond.selects C z' z').before args s = true) (hc : z'.cls = y'.cls) : NotFace s y' := fun r0 h0 => by
  obtain ⟨c2, r2, m2, -, -, q3, -, kP, hkP, hkPi⟩ := Cond.selects_spec w
  have f1 := findClass_of_methodNamed h0
  have f2 := findClass_of_methodNamed q3
  rw [hc] at f2
  have e : m2.cls = r0.cls := Option.some.inj (f2.symm.trans f1)
  exact ⟨kP, by rw [← e]; exact hkP, hkPi⟩
section Calls4
variable {y' z' : MethodName} {bytes' : ByteArray} {ml' idx W : Nat} {ret' : Option FieldType} {rm : Room} {P : Option Value → Heap → Prop} {S argsL : List Value} {Q : Option Value → Heap → List Loc → Prop} {cc ss : Nat} {C : String}
/-- a superclass's method -/
theorem c_super (X : Wk p l e R s m args below meth c Z a0 EL y bytes ml ret w h0 ws vm0 T h locs cells slots) (hd : decode bytes pc = .ok (.invokespecial idx, 3)) (hn : y'.name ≠ "<init>") (w1 : (Jvm.Cond.methodLink y.cls idx y').before a0 Z = true) (w2 : (Jvm.Cond.sameMethod y'.cls y'.cls y'.name y'.desc).before a0 Z = true) (w3 : (Jvm.Cond.instanceMethod y').before a0 Z = true) (w4 : (Jvm.Cond.superclass y.cls y'.cls).before a0 Z = true) (w5 : (Jvm.Cond.initialized y'.cls).before a0 Z = true) (w6 : (Jvm.Cond.code y' bytes' ml' ret').before a0 Z = true)
    (a : Addr) (argsL rest : List Value) (W : Nat) (E : Exa Z h a C) (H : Ctr false l Z a0 EL y' bytes' ml' ret' rm (.ref a :: argsL).toArray h ws' P) (hok : ∀ x ∈ ws', Ok w Z EL h0 ws vm0 h x) (hlen : ∀ sig, parseMethodDescriptor y'.desc = some sig → argsL.length = sig.parameters.length) (hS : S = argsL.reverse ++ .ref a :: rest) (hW : (rest.map fun v => v.category).sum ≤ W) (hf : rm.frames + 1 ≤ R.frames) (hl : W + (ml' + 11) + rm.locals ≤ R.locals) (hc : cells + rm.cells ≤ R.cells) (hs : slots + rm.slots ≤ R.slots) (hsz : Ls.size = ml) (hp : pc + 3 = pc')
    (k : ∀ v vm1 T' h' L, Wk p l e R s m args below meth c Z a0 EL y bytes ml ret w h0 ws vm1 T' h' (locs ++ L) (cells + rm.cells) (slots + rm.slots) → Ev w Z EL vm0 h vm1 h' ws' → P v h' → Go p e below F T' (mkF m pc' Ls (v.toList ++ rest))) : Go p e below F T (mkF m pc Ls S) := by
  subst hp hS
  obtain ⟨v, vm, B, -, X', hq, st⟩ := superBack X.st X.hx X.hZ X.hown w1 w2 w3 w4 hn (Ctr.back rfl H X.hZ w6 w5 hf hl) X.hT (Ins.self E) (g := mkF m pc Ls (argsL.reverse ++ .ref a :: rest)) rfl (hsz.trans X.hml.symm) w6 hlen rfl (by show 2 * 0 + _ ≤ _; omega) (hb X.hby hd) (fun _ _ => ⟨rfl, X.hT, hc, hs⟩)
  exact goB X X' hq st (fun v h' L q => q) hok k
/-- behind a call that interns nothing: what is new may be written -/
theorem goBF {G : Option Value → JFrame} {g : JFrame} {v : Option Value} {B : Pt} {Q : Option Value → Heap → List Loc → Prop} {P : Option Value → Heap → Prop} {cc ss : Nat} (hE0 : Ext Z.heap h0) (X : Wk p l e R s m args below meth c Z a0 EL y bytes ml ret w h0 ws vm0 T h locs cells slots) (X' : Stand p l e R (s.setVm vm0) m args below meth c B.U B.locs B.cells B.slots)
    (hq : ∃ L, Q v B.U.heap L ∧ B.locs = locs ++ L ∧ B.cells = cells + cc ∧ B.slots = slots + ss) (st : Steps p.tables e below (T.setTop g) (B.U.setTop (G v))) (hQ : ∀ v h' L, Q v h' L → Fr Z.heap.size L ∧ Keep h h' ws' ∧ P v h') (hok : ∀ x ∈ ws', Ok w Z EL h0 ws vm0 h x)
    (k : ∀ v vm1 T' h' L, Wk p l e R s m args below meth c Z a0 EL y bytes ml ret w h0 ws vm1 T' h' (locs ++ L) (cells + cc) (slots + ss) → Ev w Z EL vm0 h vm1 h' ws' → P v h' → (∀ x, h.size ≤ x → x < h'.size → Ok w Z EL h0 ws vm1 h' x) → Go p e below F T' (G v)) : Go p e below F T g := by
  obtain ⟨L, q, e1, e2, e3⟩ := hq
  obtain ⟨n, K, hP⟩ := hQ _ _ _ q
  rw [e1, e2, e3] at X'
  have V := X.evK K hok
  refine (k v vm0 B.U B.U.heap L (X.same X' rfl (X.hN.app n) V (Ok.two hok)) V hP fun x hx hl => ?_).by fun t r => st.trans r
  have g0 : h0.size ≤ x := Nat.le_trans X.hK.1 hx
  exact ⟨hl, Nat.le_trans hE0.1 g0, Or.inr g0, fun q => Safe.keep K (fun z hz => (hok z hz).2.2.2 q) (X.chv q) (Safe.new hx)⟩
theorem c_virtualF (hE0 : Ext Z.heap h0) (X : Wk p l e R s m args below meth c Z a0 EL y bytes ml ret w h0 ws vm0 T h locs cells slots) (hd : decode bytes pc = .ok (.invokevirtual idx, 3)) (w1 : (Jvm.Cond.methodLink y.cls idx y').before a0 Z = true) (w2 : (Jvm.Cond.declares y').before a0 Z = true) (hnf : NotFace (s.setVm vm0) y') (w3 : (Jvm.Cond.selects C y' z').before a0 Z = true) (w4 : (Jvm.Cond.instanceMethod z').before a0 Z = true) (w5 : (Jvm.Cond.initialized z'.cls).before a0 Z = true) (w6 : (Jvm.Cond.code z' bytes' ml' ret').before a0 Z = true) (hy : Pl y')
    (a : Addr) (argsL rest : List Value) (W : Nat) (E : Exa Z h a C) (H : Ctr false l Z a0 EL z' bytes' ml' ret' rm (.ref a :: argsL).toArray h ws' P) (hok : ∀ x ∈ ws', Ok w Z EL h0 ws vm0 h x) (hlen : ∀ sig, parseMethodDescriptor y'.desc = some sig → argsL.length = sig.parameters.length) (hS : S = argsL.reverse ++ .ref a :: rest) (hW : (rest.map fun v => v.category).sum ≤ W) (hf : rm.frames + 1 ≤ R.frames) (hl : W + (ml' + 11) + rm.locals ≤ R.locals) (hc : cells + rm.cells ≤ R.cells) (hs : slots + rm.slots ≤ R.slots) (hsz : Ls.size = ml) (hp : pc + 3 = pc')
    (k : ∀ v vm1 T' h' L, Wk p l e R s m args below meth c Z a0 EL y bytes ml ret w h0 ws vm1 T' h' (locs ++ L) (cells + rm.cells) (slots + rm.slots) → Ev w Z EL vm0 h vm1 h' ws' → P v h' → (∀ x, h.size ≤ x → x < h'.size → Ok w Z EL h0 ws vm1 h' x) → Go p e below F T' (mkF m pc' Ls (v.toList ++ rest))) : Go p e below F T (mkF m pc Ls S) := by
  subst hp hS
  obtain ⟨cq, kq, qa, qb, qc⟩ := isOf (s := s.setVm vm0) X.hZ X.hT E
  obtain ⟨v, vm, B, -, X', hq, st⟩ := X.st.virtualBack X.hx X.hown (mvT X.hZ w1) (mvT X.hZ w2) hnf (mvT X.hZ w3) (mvT X.hZ w4) hy (Ctr.back rfl H X.hZ w6 w5 hf hl) qa qc (g := mkF m pc Ls (argsL.reverse ++ .ref a :: rest)) rfl (hsz.trans X.hml.symm) (Steps.refl _) hlen rfl (by show 2 * 0 + _ ≤ _; omega) (hb X.hby hd) (fun _ _ => ⟨rfl, X.hT, hc, hs⟩)
  exact goBF hE0 X X' hq st (fun v h' L q => q) hok k
theorem c_specialF (hE0 : Ext Z.heap h0) (X : Wk p l e R s m args below meth c Z a0 EL y bytes ml ret w h0 ws vm0 T h locs cells slots) (hd : decode bytes pc = .ok (.invokespecial idx, 3)) (hn : y'.name = "<init>") (w1 : (Jvm.Cond.methodLink y.cls idx y').before a0 Z = true) (w2 : (Jvm.Cond.instanceMethod y').before a0 Z = true) (w3 : (Jvm.Cond.initialized y'.cls).before a0 Z = true) (w4 : (Jvm.Cond.code y' bytes' ml' none).before a0 Z = true) (hy : Pl y')
    (a : Addr) (argsL rest : List Value) (W : Nat) (H : Ctr false l Z a0 EL y' bytes' ml' none rm (.ref a :: argsL).toArray h ws' P) (hok : ∀ x ∈ ws', Ok w Z EL h0 ws vm0 h x) (hlen : ∀ sig, parseMethodDescriptor y'.desc = some sig → argsL.length = sig.parameters.length) (hS : S = argsL.reverse ++ .ref a :: rest) (hW : (rest.map fun v => v.category).sum ≤ W) (hf : rm.frames + 1 ≤ R.frames) (hl : W + (ml' + 11) + rm.locals ≤ R.locals) (hc : cells + rm.cells ≤ R.cells) (hs : slots + rm.slots ≤ R.slots) (hsz : Ls.size = ml) (hp : pc + 3 = pc')
    (k : ∀ v vm1 T' h' L, Wk p l e R s m args below meth c Z a0 EL y bytes ml ret w h0 ws vm1 T' h' (locs ++ L) (cells + rm.cells) (slots + rm.slots) → Ev w Z EL vm0 h vm1 h' ws' → P v h' → (∀ x, h.size ≤ x → x < h'.size → Ok w Z EL h0 ws vm1 h' x) → Go p e below F T' (mkF m pc' Ls (v.toList ++ rest))) : Go p e below F T (mkF m pc Ls S) := by
  subst hp hS
  obtain ⟨v, vm, B, -, X', hq, st⟩ := X.st.specialBack X.hx hn X.hown (mvT X.hZ w1) (mvT X.hZ w2) (mvT X.hZ w4) hy (Ctr.back rfl H X.hZ w4 w3 hf hl) (g := mkF m pc Ls (argsL.reverse ++ .ref a :: rest)) rfl (hsz.trans X.hml.symm) (Steps.refl _) hlen rfl (by show 2 * 0 + _ ≤ _; omega) (hb X.hby hd) (fun _ _ => ⟨rfl, X.hT, hc, hs⟩)
  exact goBF hE0 X X' hq st (fun v h' L q => q) hok k
end Calls4
/-- a String constant, and what stands apart from it -/
theorem s_ldcStrN {idx : Nat} {text : String} {vs : List Value} {z : Int32} (hw : w = true) (X : Wk p l e R s m args below meth c Z a0 EL y bytes ml ret w h0 ws vm0 T h locs cells slots) (hd : decode bytes pc = .ok (.ldc idx, 2)) (w1 : (Jvm.Cond.stringLink y.cls idx text).before a0 Z = true) (wS : ∀ a ∈ Bundle.stringAtoms, a.before a0 Z = true) (hmem : (y.cls, idx) ∈ EL)
    (ht : (∀ c ∈ text.toList, c.toNat < 256) ∧ text.toList.map (fun c => Value.int (Jvm.Lit.byteI c.toNat.toUInt16)) = vs) (hz : ¬ z < 0) (hl : z.toNatClampNeg = vs.length) (n : Nat) (hn : 4 * text.toList.length ≤ n) (hbig : n ≤ 536870912) (hc : cells + 2 ≤ R.cells) (hs : slots + (n + 4) ≤ R.slots) (hp : pc + 2 = pc')
    (k : ∀ a b kc vm1 T' h', Wk p l e R s m args below meth c Z a0 EL y bytes ml ret w h0 ws vm1 T' h' locs (cells + 2) (slots + (n + 4)) → Ev w Z EL vm0 h vm1 h' [] → Exa Z h' a "java/lang/String" → Fld Z h' a "java/lang/String" "coder" "B" (.int 0) → Fld Z h' a "java/lang/String" "value" "[B" (.ref b) → Arv Z h' b kc .byte z vs (.int 0) → (∀ x, Ok w Z EL h0 ws vm1 h' x → x ≠ b) → Go p e below F T' (mkF m pc' Ls (.ref a :: rest))) : Go p e below F T (mkF m pc Ls rest) := by
  subst hp
  obtain ⟨k0, k1, k2⟩ := X.hS
  obtain ⟨a, T', h', kk, b, kc, X', e', E, hS, hk, hZ, ho, q1, q2, q3, q4, -, -, hC, -, hne, st⟩ := ldcCH X.st X.hx X.hZ X.hown w1 wS X.hT k1 k2 X.hEW hmem (X.chv hw) ht hz hl (g := mkF m pc Ls rest) rfl (hb X.hby hd) hn hbig hc hs
  have V : Ev w Z EL vm0 h T'.vm h' [] := ⟨(Keep.refl _ _).ext E, fun _ => hC⟩
  exact (k a b kc T'.vm T' h' (X.move X' hZ ho e' ⟨_, hS, hk⟩ (fun q => by rw [hw] at q; cases q) X.hN V two0) V q1 q2 q3 q4 (fun x O => (hne x (O.2.2.2 hw)).2)).by fun t r => st t r
end Own4
end Own
namespace Own
section Own5
variable {p : Program} {l : Launch} {e : Env} {R : Room} {s : State} {m : MethodId} {args : Array Value} {below : List Frame} {meth : Method} {c : Code} {Z : State} {a0 : Array Value} {EL : List (String × Nat)} {y : MethodName} {bytes : ByteArray} {ml : Nat} {ret : Option FieldType} {w : Bool} {h0 : Heap} {ws ws' : List Addr} {vm0 vm1 : Vm} {T T' : State} {h h' h1 : Heap} {locs locs' : List Loc} {cells slots cells' slots' : Nat} {F : State → Option Value → Prop} {pc pc' : Nat} {Ls Ls' : Array Slot} {rest : List Value} {a b x : Addr}
theorem s_dload {k : Nat} {v : UInt64} (X : Wk p l e R s m args below meth c Z a0 EL y bytes ml ret w h0 ws vm0 T h locs cells slots) (hd : decode bytes pc = .ok (.dload k, 2)) (hl : Ls[k]? = some (.val (.double v))) (hp : pc + 2 = pc') (k : Go p e below F T (mkF m pc' Ls (.double v :: rest))) : Go p e below F T (mkF m pc Ls (rest)) := by
  subst hp
  exact k.by fun t r => XS.dload X.st.here X.hx rfl (hb X.hby hd) hl r
theorem s_dstore {k : Nat} {v : UInt64} (X : Wk p l e R s m args below meth c Z a0 EL y bytes ml ret w h0 ws vm0 T h locs cells slots) (hd : decode bytes pc = .ok (.dstore k, 2)) (Ls' : Array Slot) (hl : storeLocals Ls k (.double v) = some Ls') (hp : pc + 2 = pc') (k : Go p e below F T (mkF m pc' Ls' (rest))) : Go p e below F T (mkF m pc Ls (.double v :: rest)) := by
  subst hp
  exact k.by fun t r => XS.dstore X.st.here X.hx rfl (hb X.hby hd) rfl hl r
theorem s_dloadN {k : Fin 4} {v : UInt64} (X : Wk p l e R s m args below meth c Z a0 EL y bytes ml ret w h0 ws vm0 T h locs cells slots) (hd : decode bytes pc = .ok (.dload_n k, 1)) (hl : Ls[k.val]? = some (.val (.double v))) (hp : pc + 1 = pc') (k : Go p e below F T (mkF m pc' Ls (.double v :: rest))) : Go p e below F T (mkF m pc Ls (rest)) := by
  subst hp
  exact k.by fun t r => XS.dloadN X.st.here X.hx rfl (hb X.hby hd) hl r
theorem s_dstoreN {k : Fin 4} {v : UInt64} (X : Wk p l e R s m args below meth c Z a0 EL y bytes ml ret w h0 ws vm0 T h locs cells slots) (hd : decode bytes pc = .ok (.dstore_n k, 1)) (Ls' : Array Slot) (hl : storeLocals Ls k.val (.double v) = some Ls') (hp : pc + 1 = pc') (k : Go p e below F T (mkF m pc' Ls' (rest))) : Go p e below F T (mkF m pc Ls (.double v :: rest)) := by
  subst hp
  exact k.by fun t r => XS.dstoreN X.st.here X.hx rfl (hb X.hby hd) rfl hl r
theorem s_dconst0 (X : Wk p l e R s m args below meth c Z a0 EL y bytes ml ret w h0 ws vm0 T h locs cells slots) (hd : decode bytes pc = .ok (.dconst 0, 1)) (hp : pc + 1 = pc') (k : Go p e below F T (mkF m pc' Ls (.double FP.dconst0 :: rest))) : Go p e below F T (mkF m pc Ls (rest)) := by
  subst hp
  exact k.by fun t r => XS.dconst0 X.st.here X.hx rfl (hb X.hby hd) rfl r
theorem s_dconst1 (X : Wk p l e R s m args below meth c Z a0 EL y bytes ml ret w h0 ws vm0 T h locs cells slots) (hd : decode bytes pc = .ok (.dconst 1, 1)) (hp : pc + 1 = pc') (k : Go p e below F T (mkF m pc' Ls (.double FP.dconst1 :: rest))) : Go p e below F T (mkF m pc Ls (rest)) := by
  subst hp
  exact k.by fun t r => XS.dconst1 X.st.here X.hx rfl (hb X.hby hd) rfl r
theorem s_i2d {u : Int32} (X : Wk p l e R s m args below meth c Z a0 EL y bytes ml ret w h0 ws vm0 T h locs cells slots) (hd : decode bytes pc = .ok (.i2d, 1)) (z : UInt64) (hz : FP.i2d u = z) (hp : pc + 1 = pc') (k : Go p e below F T (mkF m pc' Ls (.double z :: rest))) : Go p e below F T (mkF m pc Ls (.int u :: rest)) := by
  subst hp
  exact k.by fun t r => XS.i2dS X.st.here X.hx rfl (hb X.hby hd) rfl hz r
theorem s_l2d {u : Int64} (X : Wk p l e R s m args below meth c Z a0 EL y bytes ml ret w h0 ws vm0 T h locs cells slots) (hd : decode bytes pc = .ok (.l2d, 1)) (z : UInt64) (hz : FP.l2d u = z) (hp : pc + 1 = pc') (k : Go p e below F T (mkF m pc' Ls (.double z :: rest))) : Go p e below F T (mkF m pc Ls (.long u :: rest)) := by
  subst hp
  exact k.by fun t r => XS.l2dS X.st.here X.hx rfl (hb X.hby hd) rfl hz r
theorem s_dadd {u v : UInt64} (X : Wk p l e R s m args below meth c Z a0 EL y bytes ml ret w h0 ws vm0 T h locs cells slots) (hd : decode bytes pc = .ok (.dadd, 1)) (z : UInt64) (hn : Jvm.Free.Fl.NoNaN64 (FP.dadd u v)) (hz : FP.dadd u v = z) (hp : pc + 1 = pc') (k : Go p e below F T (mkF m pc' Ls (.double z :: rest))) : Go p e below F T (mkF m pc Ls (.double v :: .double u :: rest)) := by
  subst hp
  exact k.by fun t r => XS.daddS X.st.here X.hx rfl (hb X.hby hd) rfl hn hz r
theorem s_dsub {u v : UInt64} (X : Wk p l e R s m args below meth c Z a0 EL y bytes ml ret w h0 ws vm0 T h locs cells slots) (hd : decode bytes pc = .ok (.dsub, 1)) (z : UInt64) (hn : Jvm.Free.Fl.NoNaN64 (FP.dsub u v)) (hz : FP.dsub u v = z) (hp : pc + 1 = pc') (k : Go p e below F T (mkF m pc' Ls (.double z :: rest))) : Go p e below F T (mkF m pc Ls (.double v :: .double u :: rest)) := by
  subst hp
  exact k.by fun t r => XS.dsubS X.st.here X.hx rfl (hb X.hby hd) rfl hn hz r
theorem s_dmul {u v : UInt64} (X : Wk p l e R s m args below meth c Z a0 EL y bytes ml ret w h0 ws vm0 T h locs cells slots) (hd : decode bytes pc = .ok (.dmul, 1)) (z : UInt64) (hn : Jvm.Free.Fl.NoNaN64 (FP.dmul u v)) (hz : FP.dmul u v = z) (hp : pc + 1 = pc') (k : Go p e below F T (mkF m pc' Ls (.double z :: rest))) : Go p e below F T (mkF m pc Ls (.double v :: .double u :: rest)) := by
  subst hp
  exact k.by fun t r => XS.dmulS X.st.here X.hx rfl (hb X.hby hd) rfl hn hz r
theorem s_ddiv {u v : UInt64} (X : Wk p l e R s m args below meth c Z a0 EL y bytes ml ret w h0 ws vm0 T h locs cells slots) (hd : decode bytes pc = .ok (.ddiv, 1)) (z : UInt64) (hn : Jvm.Free.Fl.NoNaN64 (FP.ddiv u v)) (hz : FP.ddiv u v = z) (hp : pc + 1 = pc') (k : Go p e below F T (mkF m pc' Ls (.double z :: rest))) : Go p e below F T (mkF m pc Ls (.double v :: .double u :: rest)) := by
  subst hp
  exact k.by fun t r => XS.ddivS X.st.here X.hx rfl (hb X.hby hd) rfl hn hz r
theorem s_dcmp {u v : UInt64} {o : CmpOp} (X : Wk p l e R s m args below meth c Z a0 EL y bytes ml ret w h0 ws vm0 T h locs cells slots) (hd : decode bytes pc = .ok (.dcmp o, 1)) (z : Int32) (hz : cmpValue (FP.dcmp u v) o = z) (hp : pc + 1 = pc') (k : Go p e below F T (mkF m pc' Ls (.int z :: rest))) : Go p e below F T (mkF m pc Ls (.double v :: .double u :: rest)) := by
  subst hp
  exact k.by fun t r => XS.dcmpS X.st.here X.hx rfl (hb X.hby hd) rfl hz r
theorem s_ldc2D {idx : Nat} {v : UInt64} (X : Wk p l e R s m args below meth c Z a0 EL y bytes ml ret w h0 ws vm0 T h locs cells slots) (hd : decode bytes pc = .ok (.ldc2_w idx, 3)) (w1 : (Jvm.Cond.constantDouble y.cls idx v).before a0 Z = true) (hp : pc + 3 = pc') (k : Go p e below F T (mkF m pc' Ls (.double v :: rest))) : Go p e below F T (mkF m pc Ls rest) := by
  subst hp
  exact k.by fun t r => X.st.ldc2DoubleC X.hx X.hown (mvT X.hZ w1) (g := mkF m pc Ls rest) rfl (hb X.hby hd) t r
theorem r_dbl {rm : Room} {P : Option Value → Heap → Prop} {z : UInt64} (X : Wk p l e R s m args below meth c Z a0 EL y bytes ml ret w h0 ws vm0 T h locs cells slots) (hr : ret = some .double) (hd : decode bytes pc = .ok (.dreturn, 1)) (hc : cells ≤ rm.cells) (hs : slots ≤ rm.slots) (hP : P (some (.double z)) h) : Go p e below (Done w Z EL rm s h0 ws P) T (mkF m pc Ls (.double z :: rest)) :=
  r_end X (some (.double z)) (fun q => by rw [hr] at q; cases q) hc hs hP fun fs hl => retOut X.st X.hx (X.hret.trans hr) rfl (Or.inr (Or.inr (Or.inl ⟨rfl, rfl, z, rfl⟩))) (hb X.hby hd) hl
end Own5
end Own

namespace Own
theorem latN : ∀ c ∈ ([] : List Int32), Lat c := fun _ q => nomatch q
theorem latL {z : Int32} {L : List Int32} (q : Lat z) (r : ∀ c ∈ L, Lat c) : ∀ c ∈ z :: L, Lat c := fun c hc => (List.mem_cons.mp hc).elim (fun e => e ▸ q) (r c)
end Own

theorem tw0 {Z : State} {a0 : Array Value} (hw : ∀ d ∈ tables_1, d.before a0 Z = true) : (Jvm.Cond.constant "com/example/soft_query/softquery/Bm25ScorePinLaw" (7 : Nat) (2147483647 : Int32)).before a0 Z = true := hw _ (List.mem_of_getElem? (i := 0) rfl)
theorem tw1 {Z : State} {a0 : Array Value} (hw : ∀ d ∈ tables_1, d.before a0 Z = true) : (Jvm.Cond.constantDouble "com/example/soft_query/softquery/Bm25ScorePinLaw" (8 : Nat) (4616189618054758400 : UInt64)).before a0 Z = true := hw _ (List.mem_of_getElem? (i := 1) rfl)
theorem tw2 {Z : State} {a0 : Array Value} (hw : ∀ d ∈ tables_1, d.before a0 Z = true) : (Jvm.Cond.classLink "com/example/soft_query/softquery/Bm25ScorePinLaw" (10 : Nat) "com/example/soft_query/softquery/Bm25").before a0 Z = true := hw _ (List.mem_of_getElem? (i := 2) rfl)
theorem tw3 {Z : State} {a0 : Array Value} (hw : ∀ d ∈ tables_1, d.before a0 Z = true) : (Jvm.Cond.instantiable "com/example/soft_query/softquery/Bm25" (4 : Nat)).before a0 Z = true := hw _ (List.mem_of_getElem? (i := 3) rfl)
theorem tw4 {Z : State} {a0 : Array Value} (hw : ∀ d ∈ tables_1, d.before a0 Z = true) : (Jvm.Cond.initialized "com/example/soft_query/softquery/Bm25").before a0 Z = true := hw _ (List.mem_of_getElem? (i := 4) rfl)
theorem tw5 {Z : State} {a0 : Array Value} (hw : ∀ d ∈ tables_1, d.before a0 Z = true) : (Jvm.Cond.methodLink "com/example/soft_query/softquery/Bm25ScorePinLaw" (12 : Nat) ({ cls := "com/example/soft_query/softquery/Bm25", name := "<init>", desc := "(DDID)V" } : Jvm.MethodName)).before a0 Z = true := hw _ (List.mem_of_getElem? (i := 5) rfl)
theorem tw6 {Z : State} {a0 : Array Value} (hw : ∀ d ∈ tables_1, d.before a0 Z = true) : (Jvm.Cond.instanceMethod ({ cls := "com/example/soft_query/softquery/Bm25", name := "<init>", desc := "(DDID)V" } : Jvm.MethodName)).before a0 Z = true := hw _ (List.mem_of_getElem? (i := 6) rfl)
theorem tw7 {Z : State} {a0 : Array Value} (hw : ∀ d ∈ tables_1, d.before a0 Z = true) : (Jvm.Cond.code ({ cls := "com/example/soft_query/softquery/Bm25", name := "<init>", desc := "(DDID)V" } : Jvm.MethodName) prog_1_method_1_code (8 : Nat) (Option.none : Option Jvm.ClassFile.FieldType)).before a0 Z = true := hw _ (List.mem_of_getElem? (i := 7) rfl)
theorem tw8 {Z : State} {a0 : Array Value} (hw : ∀ d ∈ tables_1, d.before a0 Z = true) : (Jvm.Cond.methodLink "com/example/soft_query/softquery/Bm25" (1 : Nat) ({ cls := "java/lang/Object", name := "<init>", desc := "()V" } : Jvm.MethodName)).before a0 Z = true := hw _ (List.mem_of_getElem? (i := 8) rfl)
theorem tw9 {Z : State} {a0 : Array Value} (hw : ∀ d ∈ tables_1, d.before a0 Z = true) : (Jvm.Cond.instanceMethod ({ cls := "java/lang/Object", name := "<init>", desc := "()V" } : Jvm.MethodName)).before a0 Z = true := hw _ (List.mem_of_getElem? (i := 9) rfl)
theorem tw10 {Z : State} {a0 : Array Value} (hw : ∀ d ∈ tables_1, d.before a0 Z = true) : (Jvm.Cond.code ({ cls := "java/lang/Object", name := "<init>", desc := "()V" } : Jvm.MethodName) object_method_1_code (1 : Nat) (Option.none : Option Jvm.ClassFile.FieldType)).before a0 Z = true := hw _ (List.mem_of_getElem? (i := 10) rfl)
theorem tw11 {Z : State} {a0 : Array Value} (hw : ∀ d ∈ tables_1, d.before a0 Z = true) : (Jvm.Cond.fieldLink "com/example/soft_query/softquery/Bm25" (7 : Nat) "com/example/soft_query/softquery/Bm25" "k1" "D").before a0 Z = true := hw _ (List.mem_of_getElem? (i := 11) rfl)
theorem tw12 {Z : State} {a0 : Array Value} (hw : ∀ d ∈ tables_1, d.before a0 Z = true) : (Jvm.Cond.laysFinal "com/example/soft_query/softquery/Bm25" "com/example/soft_query/softquery/Bm25" "k1" "D").before a0 Z = true := hw _ (List.mem_of_getElem? (i := 12) rfl)
theorem tw13 {Z : State} {a0 : Array Value} (hw : ∀ d ∈ tables_1, d.before a0 Z = true) : (Jvm.Cond.fieldLink "com/example/soft_query/softquery/Bm25" (13 : Nat) "com/example/soft_query/softquery/Bm25" "b" "D").before a0 Z = true := hw _ (List.mem_of_getElem? (i := 13) rfl)
theorem tw14 {Z : State} {a0 : Array Value} (hw : ∀ d ∈ tables_1, d.before a0 Z = true) : (Jvm.Cond.laysFinal "com/example/soft_query/softquery/Bm25" "com/example/soft_query/softquery/Bm25" "b" "D").before a0 Z = true := hw _ (List.mem_of_getElem? (i := 14) rfl)
theorem tw15 {Z : State} {a0 : Array Value} (hw : ∀ d ∈ tables_1, d.before a0 Z = true) : (Jvm.Cond.fieldLink "com/example/soft_query/softquery/Bm25" (16 : Nat) "com/example/soft_query/softquery/Bm25" "documents" "I").before a0 Z = true := hw _ (List.mem_of_getElem? (i := 15) rfl)
theorem tw16 {Z : State} {a0 : Array Value} (hw : ∀ d ∈ tables_1, d.before a0 Z = true) : (Jvm.Cond.laysFinal "com/example/soft_query/softquery/Bm25" "com/example/soft_query/softquery/Bm25" "documents" "I").before a0 Z = true := hw _ (List.mem_of_getElem? (i := 16) rfl)
theorem tw17 {Z : State} {a0 : Array Value} (hw : ∀ d ∈ tables_1, d.before a0 Z = true) : (Jvm.Cond.fieldLink "com/example/soft_query/softquery/Bm25" (20 : Nat) "com/example/soft_query/softquery/Bm25" "averageLength" "D").before a0 Z = true := hw _ (List.mem_of_getElem? (i := 17) rfl)
theorem tw18 {Z : State} {a0 : Array Value} (hw : ∀ d ∈ tables_1, d.before a0 Z = true) : (Jvm.Cond.laysFinal "com/example/soft_query/softquery/Bm25" "com/example/soft_query/softquery/Bm25" "averageLength" "D").before a0 Z = true := hw _ (List.mem_of_getElem? (i := 18) rfl)
theorem tw19 {Z : State} {a0 : Array Value} (hw : ∀ d ∈ tables_1, d.before a0 Z = true) : (Jvm.Cond.methodLink "com/example/soft_query/softquery/Bm25ScorePinLaw" (15 : Nat) ({ cls := "com/example/soft_query/softquery/Bm25", name := "score", desc := "(DDI)D" } : Jvm.MethodName)).before a0 Z = true := hw _ (List.mem_of_getElem? (i := 19) rfl)
theorem tw20 {Z : State} {a0 : Array Value} (hw : ∀ d ∈ tables_1, d.before a0 Z = true) : (Jvm.Cond.declares ({ cls := "com/example/soft_query/softquery/Bm25", name := "score", desc := "(DDI)D" } : Jvm.MethodName)).before a0 Z = true := hw _ (List.mem_of_getElem? (i := 20) rfl)
theorem tw21 {Z : State} {a0 : Array Value} (hw : ∀ d ∈ tables_1, d.before a0 Z = true) : (Jvm.Cond.instanceMethod ({ cls := "com/example/soft_query/softquery/Bm25", name := "score", desc := "(DDI)D" } : Jvm.MethodName)).before a0 Z = true := hw _ (List.mem_of_getElem? (i := 21) rfl)
theorem tw22 {Z : State} {a0 : Array Value} (hw : ∀ d ∈ tables_1, d.before a0 Z = true) : (Jvm.Cond.selects "com/example/soft_query/softquery/Bm25" ({ cls := "com/example/soft_query/softquery/Bm25", name := "score", desc := "(DDI)D" } : Jvm.MethodName) ({ cls := "com/example/soft_query/softquery/Bm25", name := "score", desc := "(DDI)D" } : Jvm.MethodName)).before a0 Z = true := hw _ (List.mem_of_getElem? (i := 22) rfl)
theorem tw23 {Z : State} {a0 : Array Value} (hw : ∀ d ∈ tables_1, d.before a0 Z = true) : (Jvm.Cond.code ({ cls := "com/example/soft_query/softquery/Bm25", name := "score", desc := "(DDI)D" } : Jvm.MethodName) prog_1_method_3_code (8 : Nat) (Option.some Jvm.ClassFile.FieldType.double)).before a0 Z = true := hw _ (List.mem_of_getElem? (i := 23) rfl)
theorem dc_prog_1_method_1_0 : decode prog_1_method_1_code 0 = .ok (.aload_n 0, 1) := by decide +kernel
theorem dc_prog_1_method_1_1 : decode prog_1_method_1_code 1 = .ok (.invokespecial 1, 3) := by decide +kernel
theorem dc_prog_1_method_1_4 : decode prog_1_method_1_code 4 = .ok (.aload_n 0, 1) := by decide +kernel
theorem dc_prog_1_method_1_5 : decode prog_1_method_1_code 5 = .ok (.dload_n 1, 1) := by decide +kernel
theorem dc_prog_1_method_1_6 : decode prog_1_method_1_code 6 = .ok (.putfield 7, 3) := by decide +kernel
theorem dc_prog_1_method_1_9 : decode prog_1_method_1_code 9 = .ok (.aload_n 0, 1) := by decide +kernel
theorem dc_prog_1_method_1_10 : decode prog_1_method_1_code 10 = .ok (.dload_n 3, 1) := by decide +kernel
theorem dc_prog_1_method_1_11 : decode prog_1_method_1_code 11 = .ok (.putfield 13, 3) := by decide +kernel
theorem dc_prog_1_method_1_14 : decode prog_1_method_1_code 14 = .ok (.aload_n 0, 1) := by decide +kernel
theorem dc_prog_1_method_1_15 : decode prog_1_method_1_code 15 = .ok (.iload 5, 2) := by decide +kernel
theorem dc_prog_1_method_1_17 : decode prog_1_method_1_code 17 = .ok (.putfield 16, 3) := by decide +kernel
theorem dc_prog_1_method_1_20 : decode prog_1_method_1_code 20 = .ok (.aload_n 0, 1) := by decide +kernel
theorem dc_prog_1_method_1_21 : decode prog_1_method_1_code 21 = .ok (.dload 6, 2) := by decide +kernel
theorem dc_prog_1_method_1_23 : decode prog_1_method_1_code 23 = .ok (.putfield 20, 3) := by decide +kernel
theorem dc_prog_1_method_1_26 : decode prog_1_method_1_code 26 = .ok (.return_, 1) := by decide +kernel
theorem dc_prog_1_method_3_0 : decode prog_1_method_3_code 0 = .ok (.dload_n 1, 1) := by decide +kernel
theorem dc_prog_1_method_3_1 : decode prog_1_method_3_code 1 = .ok (.dconst 0, 1) := by decide +kernel
theorem dc_prog_1_method_3_2 : decode prog_1_method_3_code 2 = .ok (.dcmp .l, 1) := by decide +kernel
theorem dc_prog_1_method_3_3 : decode prog_1_method_3_code 3 = .ok (.ifCond .ne 9, 3) := by decide +kernel
theorem dc_prog_1_method_3_6 : decode prog_1_method_3_code 6 = .ok (.dconst 0, 1) := by decide +kernel
theorem dc_prog_1_method_3_7 : decode prog_1_method_3_code 7 = .ok (.dstore 6, 2) := by decide +kernel
theorem dc_prog_1_method_3_9 : decode prog_1_method_3_code 9 = .ok (.goto 43, 3) := by decide +kernel
theorem dc_prog_1_method_3_52 : decode prog_1_method_3_code 52 = .ok (.dload 6, 2) := by decide +kernel
theorem dc_prog_1_method_3_54 : decode prog_1_method_3_code 54 = .ok (.dreturn, 1) := by decide +kernel
theorem dc_prog_1_method_3_12 : decode prog_1_method_3_code 12 = .ok (.dload_n 3, 1) := by decide +kernel
theorem dc_prog_1_method_3_13 : decode prog_1_method_3_code 13 = .ok (.dload_n 1, 1) := by decide +kernel
theorem dc_prog_1_method_3_14 : decode prog_1_method_3_code 14 = .ok (.dmul, 1) := by decide +kernel
theorem dc_prog_1_method_3_15 : decode prog_1_method_3_code 15 = .ok (.aload_n 0, 1) := by decide +kernel
theorem dc_prog_1_method_3_16 : decode prog_1_method_3_code 16 = .ok (.getfield 7, 3) := by decide +kernel
theorem dc_prog_1_method_3_19 : decode prog_1_method_3_code 19 = .ok (.dconst 1, 1) := by decide +kernel
theorem dc_prog_1_method_3_20 : decode prog_1_method_3_code 20 = .ok (.dadd, 1) := by decide +kernel
theorem dc_prog_1_method_3_21 : decode prog_1_method_3_code 21 = .ok (.dmul, 1) := by decide +kernel
theorem dc_prog_1_method_3_22 : decode prog_1_method_3_code 22 = .ok (.dload_n 1, 1) := by decide +kernel
theorem dc_prog_1_method_3_23 : decode prog_1_method_3_code 23 = .ok (.aload_n 0, 1) := by decide +kernel
theorem dc_prog_1_method_3_24 : decode prog_1_method_3_code 24 = .ok (.getfield 7, 3) := by decide +kernel
theorem dc_prog_1_method_3_27 : decode prog_1_method_3_code 27 = .ok (.dconst 1, 1) := by decide +kernel
theorem dc_prog_1_method_3_28 : decode prog_1_method_3_code 28 = .ok (.aload_n 0, 1) := by decide +kernel
theorem dc_prog_1_method_3_29 : decode prog_1_method_3_code 29 = .ok (.getfield 13, 3) := by decide +kernel
theorem dc_prog_1_method_3_32 : decode prog_1_method_3_code 32 = .ok (.dsub, 1) := by decide +kernel
theorem dc_prog_1_method_3_33 : decode prog_1_method_3_code 33 = .ok (.aload_n 0, 1) := by decide +kernel
theorem dc_prog_1_method_3_34 : decode prog_1_method_3_code 34 = .ok (.getfield 13, 3) := by decide +kernel
theorem dc_prog_1_method_3_37 : decode prog_1_method_3_code 37 = .ok (.iload 5, 2) := by decide +kernel
theorem dc_prog_1_method_3_39 : decode prog_1_method_3_code 39 = .ok (.i2d, 1) := by decide +kernel
theorem dc_prog_1_method_3_40 : decode prog_1_method_3_code 40 = .ok (.dmul, 1) := by decide +kernel
theorem dc_prog_1_method_3_41 : decode prog_1_method_3_code 41 = .ok (.aload_n 0, 1) := by decide +kernel
theorem dc_prog_1_method_3_42 : decode prog_1_method_3_code 42 = .ok (.getfield 20, 3) := by decide +kernel
theorem dc_prog_1_method_3_45 : decode prog_1_method_3_code 45 = .ok (.ddiv, 1) := by decide +kernel
theorem dc_prog_1_method_3_46 : decode prog_1_method_3_code 46 = .ok (.dadd, 1) := by decide +kernel
theorem dc_prog_1_method_3_47 : decode prog_1_method_3_code 47 = .ok (.dmul, 1) := by decide +kernel
theorem dc_prog_1_method_3_48 : decode prog_1_method_3_code 48 = .ok (.dadd, 1) := by decide +kernel
theorem dc_prog_1_method_3_49 : decode prog_1_method_3_code 49 = .ok (.ddiv, 1) := by decide +kernel
theorem dc_prog_1_method_3_50 : decode prog_1_method_3_code 50 = .ok (.dstore 6, 2) := by decide +kernel
theorem pd_0 : parseMethodDescriptor "(DDID)V" = some ⟨[.double, .double, .int, .double], none⟩ := by decide +kernel
theorem pd_1 : parseMethodDescriptor "(DDI)D" = some ⟨[.double, .double, .int], some .double⟩ := by decide +kernel
theorem pn_0 : plainFor (⟨"com/example/soft_query/softquery/Bm25", "<init>", "(DDID)V"⟩ : MethodName) = true := plainFor_of_name (by first | (simp [plainName, overriddenIn]; done) | decide +kernel)
theorem pn_1 : plainFor (⟨"com/example/soft_query/softquery/Bm25", "score", "(DDI)D"⟩ : MethodName) = true := plainFor_of_name (by first | (simp [plainName, overriddenIn]; done) | decide +kernel)
theorem pn_2 : plainFor x = true := plainFor_of_name (by first | (simp [plainName, overriddenIn]; done) | decide +kernel)
theorem ef_0 (x0 : Addr) (x1 : UInt64) (x2 : UInt64) (x3 : Int32) (x4 : UInt64) (m : MethodId) : entryFrame m #[(.ref x0), (.double x1), (.double x2), (.int x3), (.double x4)] 8 = mkF m 0 #[.val (.ref x0), .val (.double x1), .second, .val (.double x2), .second, .val (.int x3), .val (.double x4), .second] [] := by first | (simp [entryFrame, mkF, argsToLocals, Value.category]; done) | rfl
theorem ef_1 (x0 : Addr) (x1 : UInt64) (x2 : UInt64) (x3 : Int32) (m : MethodId) : entryFrame m #[(.ref x0), (.double x1), (.double x2), (.int x3)] 8 = mkF m 0 #[.val (.ref x0), .val (.double x1), .second, .val (.double x2), .second, .val (.int x3), .unset, .unset] [] := by first | (simp [entryFrame, mkF, argsToLocals, Value.category]; done) | rfl
theorem ef_2 (x0 : Int32) (x1 : Int32) (x2 : Int32) (x3 : Int32) (m : MethodId) : entryFrame m #[(.int x0), (.int x1), (.int x2), (.int x3)] maxLocals = mkF m 0 #[.val (.int x0), .val (.int x1), .val (.int x2), .val (.int x3), .unset, .unset, .unset, .unset, .unset, .unset, .unset, .unset, .unset, .unset, .unset, .unset, .unset, .unset, .unset, .unset, .unset, .unset, .unset, .unset, .unset, .unset, .unset, .unset, .unset] [] := by first | (simp [entryFrame, mkF, argsToLocals, Value.category, maxLocals]; done) | rfl
def EL : List (String × Nat) := []
theorem ewEL {Z : State} {a0 : Array Value} (hw : ∀ d ∈ tables_1, d.before a0 Z = true) : EW Z a0 EL := EW.nil
namespace Own
section Flt
open Jvm.FP
/-- a datum times 2^k -/
def sh (k : Int) : Core.Datum → Core.Datum
  | .fin s c q => .fin s c (q + k)
  | d => d
theorem sh_sh (j k : Int) (d : Core.Datum) : sh j (sh k d) = sh (k + j) d := by cases d <;> simp [sh, Int.add_assoc]
theorem sh_zero (d : Core.Datum) : sh 0 d = d := by cases d <;> simp [sh]
theorem sh_neg (k : Int) (x : Core.Datum) : Core.negate (sh k x) = sh k (Core.negate x) := by cases x <;> rfl
theorem sh_sum (k : Int) (x y : Core.Datum) : Core.exactSum (sh k x) (sh k y) = sh k (Core.exactSum x y) := by
  cases x <;> cases y <;> try rfl
  · simp only [sh, Core.exactSum]; split <;> rfl
  · rename_i s c q t d r
    simp only [sh, Core.exactSum]
    have e : min (q + k) (r + k) = min q r + k := by omega
    have u : ∀ e, Core.sumUnits s c (q + k) t d (r + k) (e + k) = Core.sumUnits s c q t d r e := fun e => by
      unfold Core.sumUnits Core.inUnits
      rw [show q + k - (e + k) = q - e by omega, show r + k - (e + k) = r - e by omega]
    rw [e, u]
theorem sh_prod (k j : Int) (x y : Core.Datum) : Core.exactProduct (sh k x) (sh j y) = sh (k + j) (Core.exactProduct x y) := by
  cases x <;> cases y <;> try rfl
  · simp only [sh, Core.exactProduct]; split <;> rfl
  · simp only [sh, Core.exactProduct]; split <;> rfl
  · rename_i s c q t d r
    simp only [sh, Core.exactProduct]
    congr 1
    omega
theorem sh_order (k : Int) (x y : Core.Datum) : Core.order (sh k x) (sh k y) = Core.order x y := by
  cases x <;> cases y <;> try rfl
  rename_i s c q t d r
  simp only [sh, Core.order]
  have e : min (q + k) (r + k) = min q r + k := by omega
  have u : ∀ c q e, Core.inUnits c (q + k) (e + k) = Core.inUnits c q e := fun c q e => by
    unfold Core.inUnits
    rw [show q + k - (e + k) = q - e by omega]
  rw [e, u, u]
/-- two ways of writing one whole number -/
theorem whole_of {n : Int} {s : Bool} {c : Nat} {q : Int} (h : c * 2 ^ q.toNat = n.natAbs * 2 ^ (-q).toNat) (hs : n ≠ 0 → s = decide (n < 0)) : Core.Whole n (.fin s c q) := by
  show Core.signed s (c * 2 ^ q.toNat) = n * ((2 ^ (-q).toNat : Nat) : Int)
  rw [h]
  by_cases h0 : n = 0
  · subst h0; cases s <;> simp [Core.signed]
  · have e := hs h0
    subst e
    unfold Core.signed
    by_cases hn : n < 0
    · simp only [hn, decide_true, if_true]
      rw [Int.natCast_mul, ← Int.neg_mul]
      congr 1
      omega
    · simp only [hn, decide_false]
      rw [if_neg (by simp), Int.natCast_mul]
      congr 1
      omega
theorem sh_round {n k : Int} {d : Core.Datum} (hk : 0 ≤ k) (hk9 : k ≤ 900) (hn : n.natAbs < 2 ^ 53) (h : Core.Whole n (sh k d)) : Core.Whole n (sh k (Core.round Core.b64 d)) := by
  cases d with
  | nan => exact h.elim
  | inf => exact h.elim
  | fin s c q =>
    have hq : Core.b64.qmin = -1074 := by decide
    have hQ : Core.b64.qmax = 971 := by decide
    have h1 : c * 2 ^ (q + k).toNat = n.natAbs * 2 ^ (-(q + k)).toNat := Core.whole_natAbs h
    have e1 : Core.round Core.b64 (.fin s c q) = Core.round Core.b64 (.fin s n.natAbs (-k)) := by
      refine Core.roundRatio_congr (by decide) (by decide) ?_
      rw [show (q - -k).toNat = (q + k).toNat by omega, show (-k - q).toNat = (-(q + k)).toNat by omega]
      simpa using h1
    obtain ⟨c', q', e2, e3⟩ := Core.round_exact Core.good_b64 s (c := n.natAbs) (q := -k) hn (by omega) (by omega)
    have hf := Core.round_fits Core.good_b64 (.fin s n.natAbs (-k))
    rw [e2] at hf
    obtain ⟨-, f1, -, -⟩ := hf
    rw [e1, e2]
    refine whole_of ?_ fun h0 => Core.whole_sign h h0
    unfold Core.inUnits at e3
    rw [hq] at e3 f1
    by_cases hc : 0 ≤ q' + k
    · rw [show (-(q' + k)).toNat = 0 by omega, Nat.pow_zero, Nat.mul_one]
      rw [show (q' - -1074).toNat = (q' + k).toNat + (-k - -1074).toNat by omega, Nat.pow_add, ← Nat.mul_assoc] at e3
      exact Nat.eq_of_mul_eq_mul_right (Nat.two_pow_pos _) e3
    · rw [show (q' + k).toNat = 0 by omega, Nat.pow_zero, Nat.mul_one]
      rw [show (-k - -1074).toNat = (-(q' + k)).toNat + (q' - -1074).toNat by omega, Nat.pow_add, ← Nat.mul_assoc] at e3
      exact Nat.eq_of_mul_eq_mul_right (Nat.two_pow_pos _) e3
theorem whole_scale {n k : Int} {j : Nat} {d : Core.Datum} (h : Core.Whole n (sh k d)) : Core.Whole (n * 2 ^ j) (sh (k + j) d) := by
  cases d with
  | nan => exact h.elim
  | inf => exact h.elim
  | fin s c q =>
    have h1 : c * 2 ^ (q + k).toNat = n.natAbs * 2 ^ (-(q + k)).toNat := Core.whole_natAbs h
    have pj := Nat.two_pow_pos j
    have ea : (n * 2 ^ j).natAbs = n.natAbs * 2 ^ j := by rw [Int.natAbs_mul, Int.natAbs_pow]; rfl
    refine whole_of ?_ fun h0 => ?_
    · show c * 2 ^ (q + (k + (j : Int))).toNat = _
      rw [ea]
      have p1 := Nat.two_pow_pos (-(q + k)).toNat
      have key : c * 2 ^ (q + (k + (j : Int))).toNat * 2 ^ (q + k).toNat * 2 ^ (-(q + k)).toNat = n.natAbs * 2 ^ j * 2 ^ (-(q + (k + (j : Int)))).toNat * 2 ^ (q + k).toNat * 2 ^ (-(q + k)).toNat := by
        have a1 : 2 ^ (q + (k + (j : Int))).toNat * 2 ^ (-(q + k)).toNat = 2 ^ j * 2 ^ (-(q + (k + (j : Int)))).toNat * 2 ^ (q + k).toNat := by
          rw [← Nat.pow_add, ← Nat.pow_add, ← Nat.pow_add]
          congr 1
          omega
        calc c * 2 ^ (q + (k + (j : Int))).toNat * 2 ^ (q + k).toNat * 2 ^ (-(q + k)).toNat = (c * 2 ^ (q + k).toNat) * (2 ^ (q + (k + (j : Int))).toNat * 2 ^ (-(q + k)).toNat) := by ac_rfl
          _ = (n.natAbs * 2 ^ (-(q + k)).toNat) * (2 ^ j * 2 ^ (-(q + (k + (j : Int)))).toNat * 2 ^ (q + k).toNat) := by rw [h1, a1]
          _ = _ := by ac_rfl
      exact Nat.eq_of_mul_eq_mul_right (Nat.two_pow_pos _) (Nat.eq_of_mul_eq_mul_right (Nat.two_pow_pos _) key)
    · have hn0 : n ≠ 0 := fun q => h0 (by rw [q, Int.zero_mul])
      rw [Core.whole_sign h hn0]
      have p2 : (0 : Int) < 2 ^ j := Int.pow_pos (by decide)
      refine decide_eq_decide.mpr ⟨fun q => Int.mul_neg_of_neg_of_pos q p2, fun q => ?_⟩
      refine Int.lt_of_not_ge fun g => ?_
      have := Int.mul_nonneg g (Int.le_of_lt p2)
      omega
/-- the double x is n / 2^k -/
def Dy (n k : Int) (x : UInt64) : Prop := Core.Whole n (sh k (Core.val64 x))
theorem Dy.of_int {n : Int} {x : UInt64} (h : Core.DInt n x) : Dy n 0 x := by unfold Dy; rw [sh_zero]; exact h
theorem Dy.scale {n k : Int} {x : UInt64} (j : Nat) (h : Dy n k x) : Dy (n * 2 ^ j) (k + j) x := whole_scale h
theorem Dy.noNaN {n k : Int} {x : UInt64} (h : Dy n k x) : Jvm.Free.Fl.NoNaN64 x := by
  refine Jvm.Free.Fl.noNaN64_no.mpr ?_
  show decide (Core.decode Core.b64 x.toNat = .nan) = false
  refine decide_eq_false fun q => ?_
  unfold Dy Core.val64 at h
  rw [q] at h
  exact h.elim
theorem Dy.add {n m k : Int} {x y : UInt64} (hk : 0 ≤ k) (hk9 : k ≤ 900) (hx : Dy n k x) (hy : Dy m k y) (h : (n + m).natAbs < 2 ^ 53) : Dy (n + m) k (FP.dadd x y) := by
  show Core.Whole _ (sh k (Core.val64 (Core.dadd x y)))
  rw [Core.val64_dadd]
  refine sh_round hk hk9 h ?_
  rw [← sh_sum]
  exact Core.whole_sum hx hy
theorem Dy.sub {n m k : Int} {x y : UInt64} (hk : 0 ≤ k) (hk9 : k ≤ 900) (hx : Dy n k x) (hy : Dy m k y) (h : (n - m).natAbs < 2 ^ 53) : Dy (n - m) k (FP.dsub x y) := by
  show Core.Whole _ (sh k (Core.val64 (Core.dsub x y)))
  rw [Core.val64_dsub]
  refine sh_round hk hk9 h ?_
  rw [← sh_sum, ← sh_neg]
  exact Core.whole_sum hx (Core.whole_negate hy)
theorem Dy.mul {n m k j : Int} {x y : UInt64} (hk : 0 ≤ k + j) (hk9 : k + j ≤ 900) (hx : Dy n k x) (hy : Dy m j y) (h : (n * m).natAbs < 2 ^ 53) : Dy (n * m) (k + j) (FP.dmul x y) := by
  show Core.Whole _ (sh (k + j) (Core.val64 (Core.dmul x y)))
  rw [Core.val64_dmul]
  refine sh_round hk hk9 h ?_
  rw [← sh_prod]
  exact Core.whole_product hx hy
theorem Dy.cmp {n m k : Int} {x y : UInt64} (hx : Dy n k x) (hy : Dy m k y) : FP.dcmp x y = some (compare n m) := by
  show Core.order (Core.val64 x) (Core.val64 y) = _
  rw [← sh_order k]
  exact Core.order_whole hx hy
/-- division by a power of two, written as a double of 52 zeros -/
theorem Dy.divP {n k : Int} {x y : UInt64} {p : Nat} (hk : 0 ≤ k + p) (hk9 : k + p ≤ 900) (hx : Dy n k x) (hy : Core.val64 y = .fin false (2 ^ 52) ((p : Int) - 52)) (h : n.natAbs < 2 ^ 53) : Dy n (k + p) (FP.ddiv x y) := by
  show Core.Whole _ (sh (k + p) (Core.val64 (Core.ddiv x y)))
  rw [Core.val64_ddiv, hy]
  unfold Dy at hx
  cases hv : Core.val64 x with
  | nan => rw [hv] at hx; exact hx.elim
  | inf => rw [hv] at hx; exact hx.elim
  | fin s c q =>
    rw [hv] at hx
    have e : Core.quotient Core.b64 (.fin s c q) (.fin false (2 ^ 52) ((p : Int) - 52)) = Core.round Core.b64 (.fin s c (q - p)) := by
      simp only [Core.quotient]
      rw [if_neg (by decide)]
      show Core.roundRatio _ (s != false) c (2 ^ 52) _ = Core.roundRatio _ s c 1 _
      rw [show (s != false) = s by cases s <;> rfl]
      refine Core.roundRatio_congr (by decide) (by decide) ?_
      rw [show (q - ((p : Int) - 52) - (q - p)).toNat = 52 by omega, show (q - p - (q - ((p : Int) - 52))).toNat = 0 by omega]
      simp
    rw [e]
    refine sh_round hk hk9 h ?_
    show Core.Whole n (.fin s c (q - p + (k + p)))
    rw [show q - (p : Int) + (k + p) = q + k by omega]
    exact hx
theorem cmp_int (n m : Int) : (compare n m : Ordering) = if n < m then .lt else if n = m then .eq else .gt := rfl
theorem Dy.ge {n m k : Int} {x y : UInt64} {o : CmpOp} (hx : Dy n k x) (hy : Dy m k y) (h : m ≤ n) : ∃ z : Int32, cmpValue (FP.dcmp x y) o = z ∧ ¬ z < 0 := by
  rw [hx.cmp hy, cmp_int, if_neg (by omega)]
  refine ⟨_, rfl, ?_⟩
  split <;> cases o <;> decide
theorem Dy.le {n m k : Int} {x y : UInt64} {o : CmpOp} (hx : Dy n k x) (hy : Dy m k y) (h : n ≤ m) : ∃ z : Int32, cmpValue (FP.dcmp x y) o = z ∧ ¬ 0 < z := by
  rw [hx.cmp hy, cmp_int]
  refine ⟨_, rfl, ?_⟩
  by_cases q : n < m
  · rw [if_pos q]; cases o <;> decide
  · rw [if_neg q, if_pos (by omega)]; cases o <;> decide
theorem Dy.eq {n m k : Int} {x y : UInt64} {o : CmpOp} (hx : Dy n k x) (hy : Dy m k y) (h : n = m) : ∃ z : Int32, cmpValue (FP.dcmp x y) o = z ∧ z = 0 := by
  rw [hx.cmp hy, cmp_int, if_neg (by omega), if_pos h]
  exact ⟨_, rfl, by cases o <;> decide⟩
theorem dy0 (k : Int) : Dy 0 k FP.dconst0 := by
  have e : Core.val64 FP.dconst0 = .fin false 0 (-1074) := by decide +kernel
  unfold Dy
  rw [e]
  exact whole_of (by simp) (fun q => absurd rfl q)
theorem dyP {x : UInt64} {p : Nat} (h : Core.val64 x = .fin false (2 ^ 52) ((p : Int) - 52)) (hp : p ≤ 52) : Dy (2 ^ p) 0 x := by
  unfold Dy
  rw [h]
  have ea : ((2 : Int) ^ p).natAbs = 2 ^ p := by rw [Int.natAbs_pow]; rfl
  have pz : (0 : Int) < 2 ^ p := Int.pow_pos (by decide)
  refine whole_of ?_ fun _ => by simp [show ¬ (2 : Int) ^ p < 0 by omega]
  rw [ea, show ((p : Int) - 52 + 0).toNat = 0 by omega, show (-((p : Int) - 52 + 0)).toNat = 52 - p by omega, Nat.pow_zero, Nat.mul_one, ← Nat.pow_add, show p + (52 - p) = 52 by omega]
theorem dyI (x : Int32) : Dy x.toInt 0 (FP.i2d x) := Dy.of_int (Core.i2d_int x)
theorem dyL {x : Int64} (h : x.toInt.natAbs ≤ 2 ^ 53) : Dy x.toInt 0 (FP.l2d x) := Dy.of_int (Core.l2d_int h)
theorem mulb {n e A B : Int} (h0 : 0 ≤ n) (h1 : n ≤ A) (h2 : -B ≤ e) (h3 : e ≤ B) (hB : 0 ≤ B) : -(A * B) ≤ n * e ∧ n * e ≤ A * B := by
  have a1 := Int.mul_le_mul_of_nonneg_left h3 h0
  have a2 := Int.mul_le_mul_of_nonneg_left h2 h0
  have a3 := Int.mul_le_mul_of_nonneg_right h1 hB
  rw [Int.mul_neg] at a2
  omega
end Flt
end Own

namespace Own
section F377
open Jvm.FP
/-- the double x is n / d, rounded -/
def Qu (n : Int) (d : Nat) (x : UInt64) : Prop := ∃ s, Core.val64 x = Core.roundRatio Core.b64 s n.natAbs d 0 ∧ (n ≠ 0 → s = decide (n < 0))
theorem Qu.val_ne {n : Int} {d : Nat} {x : UInt64} (h : Qu n d x) : Core.val64 x ≠ .nan := by
  obtain ⟨s, e, -⟩ := h
  rw [e]
  exact Core.roundRatio_ne_nan _ _ _ _ _
theorem Qu.noNaN {n : Int} {d : Nat} {x : UInt64} (h : Qu n d x) : Jvm.Free.Fl.NoNaN64 x := by
  refine Jvm.Free.Fl.noNaN64_no.mpr ?_
  show decide (Core.decode Core.b64 x.toNat = .nan) = false
  exact decide_eq_false h.val_ne
theorem Qu.eq {n : Int} {d : Nat} {x y : UInt64} {o : CmpOp} (hx : Qu n d x) (hy : Qu n d y) : ∃ z : Int32, cmpValue (FP.dcmp x y) o = z ∧ z = 0 := by
  have e : FP.dcmp x y = some .eq := by
    show Core.order (Core.val64 x) (Core.val64 y) = _
    have nx := hx.val_ne
    obtain ⟨s, e1, s1⟩ := hx
    obtain ⟨t, e2, s2⟩ := hy
    by_cases h : n = 0
    · subst h
      have w : ∀ u, Core.Whole 0 (Core.roundRatio Core.b64 u (0 : Int).natAbs d 0) := fun u => whole_of (c := 0) (by simp) (fun q => absurd rfl q)
      rw [e1, e2, Core.order_whole (w s) (w t)]
      rfl
    · have q : Core.val64 x = Core.val64 y := by rw [e1, e2, s1 h, s2 h]
      rw [← q]
      exact Core.order_self nx
  rw [e]
  exact ⟨_, rfl, by cases o <;> decide⟩
theorem Dy.quo {n k : Int} {m : Nat} {x y : UInt64} (hx : Dy n k x) (hy : Dy (m : Int) k y) (hm : 0 < m) : Qu n m (FP.ddiv x y) := by
  unfold Dy at hx hy
  have ev : Core.val64 (FP.ddiv x y) = Core.quotient Core.b64 (Core.val64 x) (Core.val64 y) := Core.val64_ddiv x y
  cases hv : Core.val64 x with
  | nan => rw [hv] at hx; exact hx.elim
  | inf => rw [hv] at hx; exact hx.elim
  | fin s c q =>
    cases hu : Core.val64 y with
    | nan => rw [hu] at hy; exact hy.elim
    | inf => rw [hu] at hy; exact hy.elim
    | fin t d r =>
      rw [hv] at hx
      rw [hu] at hy
      have h1 : c * 2 ^ (q + k).toNat = n.natAbs * 2 ^ (-(q + k)).toNat := Core.whole_natAbs hx
      have h2 : d * 2 ^ (r + k).toNat = m * 2 ^ (-(r + k)).toNat := Core.whole_natAbs hy
      have hd : d ≠ 0 := fun z => by have := (Core.whole_zero hy).mp z; omega
      have ht : t = false := by
        have := Core.whole_sign hy (by omega)
        rw [this]
        exact decide_eq_false (by omega)
      refine ⟨s, ?_, fun h0 => Core.whole_sign hx h0⟩
      rw [ev, hv, hu]
      simp only [Core.quotient]
      rw [if_neg hd, ht, show (s != false) = s by cases s <;> rfl]
      refine Core.roundRatio_congr (by omega) hm ?_
      have key : c * m * 2 ^ (q - r - 0).toNat * (2 ^ (q + k).toNat * 2 ^ (-(r + k)).toNat) = n.natAbs * d * 2 ^ (0 - (q - r)).toNat * (2 ^ (q + k).toNat * 2 ^ (-(r + k)).toNat) := by
        have a1 : 2 ^ (-(q + k)).toNat * 2 ^ (r + k).toNat * 2 ^ (q - r - 0).toNat = 2 ^ (0 - (q - r)).toNat * (2 ^ (q + k).toNat * 2 ^ (-(r + k)).toNat) := by
          rw [← Nat.pow_add, ← Nat.pow_add, ← Nat.pow_add, ← Nat.pow_add]
          congr 1
          omega
        calc c * m * 2 ^ (q - r - 0).toNat * (2 ^ (q + k).toNat * 2 ^ (-(r + k)).toNat) = (c * 2 ^ (q + k).toNat) * (m * 2 ^ (-(r + k)).toNat) * 2 ^ (q - r - 0).toNat := by ac_rfl
          _ = (n.natAbs * 2 ^ (-(q + k)).toNat) * (d * 2 ^ (r + k).toNat) * 2 ^ (q - r - 0).toNat := by rw [h1, h2]
          _ = n.natAbs * d * (2 ^ (-(q + k)).toNat * 2 ^ (r + k).toNat * 2 ^ (q - r - 0).toNat) := by ac_rfl
          _ = _ := by rw [a1]; ac_rfl
      exact Nat.eq_of_mul_eq_mul_right (Nat.mul_pos (Nat.two_pow_pos _) (Nat.two_pow_pos _)) key
theorem Dy.ne {n m k : Int} {x y : UInt64} {o : CmpOp} (hx : Dy n k x) (hy : Dy m k y) (h : n ≠ m) : ∃ z : Int32, cmpValue (FP.dcmp x y) o = z ∧ ¬ z = 0 := by
  rw [hx.cmp hy, cmp_int]
  refine ⟨_, rfl, ?_⟩
  by_cases q : n < m
  · rw [if_pos q]; cases o <;> decide
  · rw [if_neg q, if_neg h]; cases o <;> decide
/-! the numbers of the law -/
theorem own_mk (x : Int32) : ∃ n : Nat, n ≤ 3 ∧ (x &&& (3 : Int32)) = Int32.ofNat n := by
  have h1 : (x &&& 3).toInt = x.toInt % 4 := c_mask x 3 2 (by decide) (by decide)
  refine ⟨(x &&& (3 : Int32)).toInt.toNat, by omega, ?_⟩
  apply Int32.toInt_inj.mp
  rw [ofNat_toInt (by omega)]
  omega
theorem own_bq (x : Int32) : ∃ n : Nat, n ≤ 4 ∧ (x &&& (7 : Int32)) % (5 : Int32) = Int32.ofNat n := by
  have h1 := (c_and x 7 (by decide)).1
  have h2 := (c_irem (x &&& 7) 5 5 (by decide)).1 h1
  refine ⟨((x &&& (7 : Int32)) % (5 : Int32)).toInt.toNat, by omega, ?_⟩
  apply Int32.toInt_inj.mp
  rw [ofNat_toInt (by omega)]
  omega
theorem own_av (x : Int32) : ∃ j : Nat, j ≤ 3 ∧ (1 : Int32) <<< ((x &&& (3 : Int32)) &&& 31) = Int32.ofNat (2 ^ j) := by
  obtain ⟨n, hn, e⟩ := own_mk x
  refine ⟨n, hn, ?_⟩
  rw [e]
  match n, hn with
  | 0, _ => decide
  | 1, _ => decide
  | 2, _ => decide
  | 3, _ => decide
theorem own_tq (x : Int32) : ∃ n : Nat, n ≤ 4095 ∧ (x &&& (4095 : Int32)) = Int32.ofNat n := by
  have h1 : (x &&& 4095).toInt = x.toInt % 4096 := c_mask x 4095 12 (by decide) (by decide)
  refine ⟨(x &&& (4095 : Int32)).toInt.toNat, by omega, ?_⟩
  apply Int32.toInt_inj.mp
  rw [ofNat_toInt (by omega)]
  omega
theorem own_ln (x : Int32) : ∃ n : Nat, n ≤ 2147483647 ∧ (x &&& (2147483647 : Int32)) = Int32.ofNat n := by
  have h1 : (x &&& 2147483647).toInt = x.toInt % 2147483648 := c_mask x 2147483647 31 (by decide) (by decide)
  refine ⟨(x &&& (2147483647 : Int32)).toInt.toNat, by omega, ?_⟩
  apply Int32.toInt_inj.mp
  rw [ofNat_toInt (by omega)]
  omega
theorem i32b' (x : Int32) : -2147483648 ≤ x.toInt ∧ x.toInt ≤ 2147483648 := by
  have := x.le_toInt
  have := x.toInt_lt
  omega
theorem p2 {j : Nat} (hj : j ≤ 3) : 2 ^ j ≤ 8 := Nat.pow_le_pow_right (by decide) hj
theorem dyN {n : Nat} (hn : n ≤ 2147483647) : Dy (n : Int) 0 (FP.i2d (Int32.ofNat n)) := by
  have q := dyI (Int32.ofNat n)
  rwa [ofNat_toInt (by omega)] at q
theorem valA {j : Nat} (hj : j ≤ 3) : Core.val64 (FP.i2d (Int32.ofNat (2 ^ j))) = .fin false (2 ^ 52) ((j : Int) - 52) := by
  match j, hj with
  | 0, _ => decide +kernel
  | 1, _ => decide +kernel
  | 2, _ => decide +kernel
  | 3, _ => decide +kernel
theorem val4 : Core.val64 (4616189618054758400 : UInt64) = .fin false (2 ^ 52) (((2 : Nat) : Int) - 52) := by decide +kernel
theorem val1' : Core.val64 FP.dconst1 = .fin false (2 ^ 52) (((0 : Nat) : Int) - 52) := by decide +kernel
theorem one0 : Dy 1 0 FP.dconst1 := dyP val1' (by decide)
theorem one2 : Dy 4 2 FP.dconst1 := one0.scale 2
theorem q_div4 {n : Nat} (hn : n ≤ 4095) {x : UInt64} (h : Dy (n : Int) 0 x) : Dy (n : Int) 2 (FP.ddiv x (4616189618054758400 : UInt64)) := h.divP (p := 2) (by decide) (by decide) val4 (by omega)
/-- twice ab -/
def DD (kn bn j tn ln : Nat) : Nat := tn * 2 ^ j + kn * ((4 - bn) * 2 ^ j + bn * ln)
def NN (I : Int32) (kn j tn : Nat) : Int := I.toInt * ((tn * (kn + 1) : Nat) : Int) * 2 ^ j
section Bounds
variable {I : Int32} {kn bn j tn ln : Nat}
theorem bl (hb : bn ≤ 4) (hl : ln ≤ 2147483647) : bn * ln ≤ 8589934588 := Nat.mul_le_mul hb hl
theorem bj (hj : j ≤ 3) : (4 - bn) * 2 ^ j ≤ 32 := Nat.mul_le_mul (Nat.sub_le 4 bn) (p2 hj)
theorem bk (hk : kn ≤ 3) (hb : bn ≤ 4) (hj : j ≤ 3) (hl : ln ≤ 2147483647) : kn * ((4 - bn) * 2 ^ j + bn * ln) ≤ 25769803860 := by
  have h1 := bl hb hl
  have h2 := bj (bn := bn) hj
  exact Nat.mul_le_mul hk (show _ ≤ 8589934620 by omega)
theorem bt (hj : j ≤ 3) (ht : tn ≤ 4095) : tn * 2 ^ j ≤ 32760 := Nat.mul_le_mul ht (p2 hj)
theorem bm (hk : kn ≤ 3) (ht : tn ≤ 4095) : tn * (kn + 1) ≤ 16380 := Nat.mul_le_mul ht (show kn + 1 ≤ 4 by omega)
theorem q_a1 (ht : tn ≤ 4095) {x y : UInt64} (hx : Dy I.toInt 0 x) (hy : Dy (tn : Int) 2 y) : Dy (I.toInt * (tn : Int)) 2 (FP.dmul x y) := by
  have b := i32b' I
  have m := mulb (n := (tn : Int)) (A := 4095) (B := 2147483648) (by omega) (by omega) b.1 b.2 (by decide)
  rw [Int.mul_comm (tn : Int) I.toInt] at m
  exact Dy.mul (by decide) (by decide) hx hy (by omega)
theorem q_k1 (hk : kn ≤ 3) {x : UInt64} (hx : Dy (kn : Int) 0 x) : Dy ((kn + 1 : Nat) : Int) 0 (FP.dadd x FP.dconst1) := Dy.add (by decide) (by decide) hx one0 (by omega)
theorem nb (I : Int32) {M A : Nat} (h : M ≤ A) : -((A : Int) * 2147483648) ≤ I.toInt * (M : Int) ∧ I.toInt * (M : Int) ≤ (A : Int) * 2147483648 := by
  have b := i32b' I
  have m := mulb (n := (M : Int)) (A := (A : Int)) (B := 2147483648) (by omega) (by omega) b.1 b.2 (by decide)
  rwa [Int.mul_comm (M : Int) I.toInt] at m
theorem q_n (hk : kn ≤ 3) (ht : tn ≤ 4095) {x y : UInt64} (hx : Dy (I.toInt * (tn : Int)) 2 x) (hy : Dy ((kn + 1 : Nat) : Int) 0 y) : Dy (I.toInt * ((tn * (kn + 1) : Nat) : Int)) 2 (FP.dmul x y) := by
  have b := nb I (bm hk ht)
  have e : I.toInt * (tn : Int) * ((kn + 1 : Nat) : Int) = I.toInt * ((tn * (kn + 1) : Nat) : Int) := by rw [Int.mul_assoc, Int.natCast_mul]
  have q := Dy.mul (k := 2) (j := 0) (by decide) (by decide) hx hy (by rw [e]; omega)
  rw [e] at q
  exact q
theorem q_b1 (hb : bn ≤ 4) {x : UInt64} (hx : Dy (bn : Int) 2 x) : Dy ((4 - bn : Nat) : Int) 2 (FP.dsub FP.dconst1 x) := by
  have q := Dy.sub (k := 2) (by decide) (by decide) one2 hx (by omega)
  rwa [show (4 : Int) - (bn : Int) = ((4 - bn : Nat) : Int) by omega] at q
theorem q_b2 (hb : bn ≤ 4) (hl : ln ≤ 2147483647) {x y : UInt64} (hx : Dy (bn : Int) 2 x) (hy : Dy (ln : Int) 0 y) : Dy ((bn * ln : Nat) : Int) 2 (FP.dmul x y) := by
  have h1 := bl hb hl
  have q := Dy.mul (k := 2) (j := 0) (by decide) (by decide) hx hy (by rw [← Int.natCast_mul]; omega)
  rw [← Int.natCast_mul] at q
  exact q
theorem q_b3 (hb : bn ≤ 4) (hj : j ≤ 3) (hl : ln ≤ 2147483647) {x y : UInt64} (hx : Dy ((bn * ln : Nat) : Int) 2 x) (hy : Core.val64 y = .fin false (2 ^ 52) ((j : Int) - 52)) : Dy ((bn * ln : Nat) : Int) (2 + j) (FP.ddiv x y) := by
  have h1 := bl hb hl
  exact hx.divP (by omega) (by omega) hy (by omega)
theorem sc {n : Nat} {k : Int} {x : UInt64} (j : Nat) (h : Dy (n : Int) k x) : Dy ((n * 2 ^ j : Nat) : Int) (k + j) x := by
  have q := h.scale j
  rwa [show (n : Int) * 2 ^ j = ((n * 2 ^ j : Nat) : Int) by rw [Int.natCast_mul, Int.natCast_pow]; rfl] at q
theorem q_b4 (hb : bn ≤ 4) (hj : j ≤ 3) (hl : ln ≤ 2147483647) {x y : UInt64} (hx : Dy ((4 - bn : Nat) : Int) 2 x) (hy : Dy ((bn * ln : Nat) : Int) (2 + j) y) : Dy (((4 - bn) * 2 ^ j + bn * ln : Nat) : Int) (2 + j) (FP.dadd x y) := by
  have h1 := bl hb hl
  have h2 := bj (bn := bn) hj
  have q := Dy.add (by omega) (by omega) (sc j hx) hy (by rw [← Int.natCast_add]; omega)
  rwa [← Int.natCast_add] at q
theorem q_b5 (hk : kn ≤ 3) (hb : bn ≤ 4) (hj : j ≤ 3) (hl : ln ≤ 2147483647) {x y : UInt64} (hx : Dy (kn : Int) 0 x) (hy : Dy (((4 - bn) * 2 ^ j + bn * ln : Nat) : Int) (2 + j) y) : Dy ((kn * ((4 - bn) * 2 ^ j + bn * ln) : Nat) : Int) (2 + j) (FP.dmul x y) := by
  have h1 := bk hk hb hj hl
  have q := Dy.mul (k := 0) (j := 2 + j) (by omega) (by omega) hx hy (by rw [← Int.natCast_mul]; omega)
  rwa [← Int.natCast_mul, Int.zero_add] at q
theorem q_d (hk : kn ≤ 3) (hb : bn ≤ 4) (hj : j ≤ 3) (ht : tn ≤ 4095) (hl : ln ≤ 2147483647) {x y : UInt64} (hx : Dy (tn : Int) 2 x) (hy : Dy ((kn * ((4 - bn) * 2 ^ j + bn * ln) : Nat) : Int) (2 + j) y) : Dy ((DD kn bn j tn ln : Nat) : Int) (2 + j) (FP.dadd x y) := by
  have h1 := bk hk hb hj hl
  have h2 := bt hj ht
  have q := Dy.add (by omega) (by omega) (sc j hx) hy (by rw [← Int.natCast_add]; omega)
  rwa [← Int.natCast_add] at q
theorem dd_pos (h0 : tn ≠ 0) : 0 < DD kn bn j tn ln := by
  have : 0 < tn * 2 ^ j := Nat.mul_pos (by omega) (Nat.two_pow_pos _)
  unfold DD
  omega
theorem q_q (h0 : tn ≠ 0) {x y : UInt64} (hx : Dy (I.toInt * ((tn * (kn + 1) : Nat) : Int)) 2 x) (hy : Dy ((DD kn bn j tn ln : Nat) : Int) (2 + j) y) : Qu (NN I kn j tn) (DD kn bn j tn ln) (FP.ddiv x y) :=
  (hx.scale j).quo hy (dd_pos h0)
theorem l64 {n : Nat} (h : n ≤ 2147483647) : (Int32.ofNat n).toInt64 = Int64.ofNat n := by
  apply Int64.toInt_inj.mp
  rw [Int32.toInt_toInt64, ofNat_toInt (by omega), Int64.toInt_ofNat_of_lt (by omega)]
theorem l_n (hk : kn ≤ 3) (hj : j ≤ 3) (ht : tn ≤ 4095) : (((I.toInt64 * (Int32.ofNat tn).toInt64) * (Int32.ofNat (kn + 1)).toInt64) * (Int32.ofNat (2 ^ j)).toInt64).toInt = NN I kn j tn ∧ (NN I kn j tn).natAbs ≤ 2 ^ 53 := by
  have hp := p2 hj
  have h1 := bm hk ht
  have h2 : tn * (kn + 1) * 2 ^ j ≤ 131040 := Nat.mul_le_mul h1 hp
  have e : NN I kn j tn = I.toInt * ((tn * (kn + 1) * 2 ^ j : Nat) : Int) := by
    have e2 : ∀ M : Nat, (M : Int) * 2 ^ j = ((M * 2 ^ j : Nat) : Int) := fun M => by rw [Int.natCast_mul, Int.natCast_pow]; rfl
    unfold NN
    rw [Int.mul_assoc, e2]
  have b := nb I h2
  refine ⟨?_, by rw [e]; omega⟩
  rw [l64 (by omega), l64 (by omega), l64 (by omega), Int64.mul_assoc, Int64.mul_assoc, ← Int64.ofNat_mul, ← Int64.ofNat_mul, ← Nat.mul_assoc, Int64.toInt_mul, Int32.toInt_toInt64, Int64.toInt_ofNat_of_lt (by omega), e, Int.bmod_eq_of_le (by omega) (by omega)]
theorem l_d (hk : kn ≤ 3) (hb : bn ≤ 4) (hj : j ≤ 3) (ht : tn ≤ 4095) (hl : ln ≤ 2147483647) : (((Int32.ofNat tn).toInt64 * (Int32.ofNat (2 ^ j)).toInt64) + ((Int32.ofNat kn).toInt64 * (((Int32.ofNat (4 - bn)).toInt64 * (Int32.ofNat (2 ^ j)).toInt64) + ((Int32.ofNat bn).toInt64 * (Int32.ofNat ln).toInt64)))).toInt = ((DD kn bn j tn ln : Nat) : Int) ∧ DD kn bn j tn ln ≤ 25769836620 := by
  have hp := p2 hj
  have h1 := bk hk hb hj hl
  have h2 := bt hj ht
  have h3 : DD kn bn j tn ln ≤ 25769836620 := by unfold DD; omega
  refine ⟨?_, h3⟩
  rw [l64 (by omega), l64 (by omega), l64 (by omega), l64 (by omega), l64 (by omega), l64 (by omega), ← Int64.ofNat_mul, ← Int64.ofNat_mul, ← Int64.ofNat_mul, ← Int64.ofNat_add, ← Int64.ofNat_mul, ← Int64.ofNat_add]
  exact Int64.toInt_ofNat_of_lt (show DD kn bn j tn ln < _ by omega)
theorem w_n (hk : kn ≤ 3) (hj : j ≤ 3) (ht : tn ≤ 4095) : Dy (NN I kn j tn) 0 (FP.l2d (((I.toInt64 * (Int32.ofNat tn).toInt64) * (Int32.ofNat (kn + 1)).toInt64) * (Int32.ofNat (2 ^ j)).toInt64)) := by
  have L := l_n (I := I) hk hj ht
  have q := dyL (x := ((I.toInt64 * (Int32.ofNat tn).toInt64) * (Int32.ofNat (kn + 1)).toInt64) * (Int32.ofNat (2 ^ j)).toInt64) (by rw [L.1]; exact L.2)
  rwa [L.1] at q
theorem w_d (hk : kn ≤ 3) (hb : bn ≤ 4) (hj : j ≤ 3) (ht : tn ≤ 4095) (hl : ln ≤ 2147483647) : Dy ((DD kn bn j tn ln : Nat) : Int) 0 (FP.l2d (((Int32.ofNat tn).toInt64 * (Int32.ofNat (2 ^ j)).toInt64) + ((Int32.ofNat kn).toInt64 * (((Int32.ofNat (4 - bn)).toInt64 * (Int32.ofNat (2 ^ j)).toInt64) + ((Int32.ofNat bn).toInt64 * (Int32.ofNat ln).toInt64))))) := by
  have L := l_d hk hb hj ht hl
  have q := dyL (x := ((Int32.ofNat tn).toInt64 * (Int32.ofNat (2 ^ j)).toInt64) + ((Int32.ofNat kn).toInt64 * (((Int32.ofNat (4 - bn)).toInt64 * (Int32.ofNat (2 ^ j)).toInt64) + ((Int32.ofNat bn).toInt64 * (Int32.ofNat ln).toInt64)))) (by rw [L.1]; omega)
  rwa [L.1] at q
end Bounds
end F377
end Own

set_option maxRecDepth 65536 in
set_option maxHeartbeats 40000000 in
theorem rm_init {l : Launch} {Z : State} {a0 : Array Value} (hw : ∀ d ∈ tables_1, d.before a0 Z = true) (a : Addr) (k1 b1 : UInt64) (dc : Int32) (av : UInt64) (h0 : Heap) (hE : Ext Z.heap h0) (ga : Z.heap.size ≤ a) (E : Exa Z h0 a "com/example/soft_query/softquery/Bm25") (F_k1 : Fld Z h0 a "com/example/soft_query/softquery/Bm25" "k1" "D" (.double 0)) (F_b : Fld Z h0 a "com/example/soft_query/softquery/Bm25" "b" "D" (.double 0)) (F_documents : Fld Z h0 a "com/example/soft_query/softquery/Bm25" "documents" "I" (.int 0)) (F_averageLength : Fld Z h0 a "com/example/soft_query/softquery/Bm25" "averageLength" "D" (.double 0)) :
    Own.Ctr false l Z a0 EL (⟨"com/example/soft_query/softquery/Bm25", "<init>", "(DDID)V"⟩ : MethodName) prog_1_method_1_code 8 (Option.none : Option Jvm.ClassFile.FieldType) ({ frames := 1, cells := 0, slots := 0, locals := 12 } : Room) #[(.ref a), (.double k1), (.double b1), (.int dc), (.double av)] h0 [a] (fun v h => v = none ∧ Exa Z h a "com/example/soft_query/softquery/Bm25" ∧ Fld Z h a "com/example/soft_query/softquery/Bm25" "k1" "D" (.double k1) ∧ Fld Z h a "com/example/soft_query/softquery/Bm25" "b" "D" (.double b1) ∧ Fld Z h a "com/example/soft_query/softquery/Bm25" "documents" "I" (.int dc) ∧ Fld Z h a "com/example/soft_query/softquery/Bm25" "averageLength" "D" (.double av)) := by
  refine Own.Ctr.of pn_0 (ef_0 a k1 b1 dc av) hE (ewEL hw) ?_
  intro p e s m below meth c T0 X0 hsafe
  have O0 : Own.Ok false Z EL h0 [a] s.vm h0 a := ⟨E.lt, ga, Or.inl (List.mem_singleton.mpr rfl), fun q => nomatch q⟩
  refine Own.s_aloadN X0 dc_prog_1_method_1_0 rfl rfl rfl ?_
  refine Own.s_initO X0 dc_prog_1_method_1_1 (tw8 hw) (tw9 hw) (tw10 hw) 0 (Nat.le_of_eq rfl) (by decide) (by decide) rfl rfl ?_
  intro T1 X1
  refine Own.s_aloadN X1 dc_prog_1_method_1_4 rfl rfl rfl ?_
  refine Own.s_dloadN X1 dc_prog_1_method_1_5 rfl rfl ?_
  refine Own.s_putfield X1 dc_prog_1_method_1_6 (tw11 hw) F_k1 E (Or.inr ⟨(tw12 hw), rfl, rfl⟩) (tw3 hw) (ty := .double) (by decide) rfl rfl O0 rfl ?_
  intro T2 h2 X2 V2 W2
  have F2 := Fld.same W2 F_k1
  refine Own.s_aloadN X2 dc_prog_1_method_1_9 rfl rfl rfl ?_
  refine Own.s_dloadN X2 dc_prog_1_method_1_10 rfl rfl ?_
  have F_4 := (Fld.other W2 F_b (Or.inr (slot_ne (Or.inr (tw14 hw)) (Or.inr (tw12 hw)) (by decide) (t := .double) (t' := .double) (by decide) (by decide))))
  have E_5 := (Exa.keep E V2.1)
  have O6 := (O0.ev V2)
  refine Own.s_putfield X2 dc_prog_1_method_1_11 (tw13 hw) F_4 E_5 (Or.inr ⟨(tw14 hw), rfl, rfl⟩) (tw3 hw) (ty := .double) (by decide) rfl rfl O6 rfl ?_
  intro T3 h3 X3 V3 W3
  have F3 := Fld.same W3 F_4
  refine Own.s_aloadN X3 dc_prog_1_method_1_14 rfl rfl rfl ?_
  refine Own.s_iload X3 dc_prog_1_method_1_15 rfl rfl ?_
  have F_8 := (Fld.other W3 (Fld.other W2 F_documents (Or.inr (slot_ne (Or.inr (tw16 hw)) (Or.inr (tw12 hw)) (by decide) (t := .int) (t' := .double) (by decide) (by decide)))) (Or.inr (slot_ne (Or.inr (tw16 hw)) (Or.inr (tw14 hw)) (by decide) (t := .int) (t' := .double) (by decide) (by decide))))
  have E_9 := (Exa.keep E_5 V3.1)
  have O10 := (O6.ev V3)
  refine Own.s_putfield X3 dc_prog_1_method_1_17 (tw15 hw) F_8 E_9 (Or.inr ⟨(tw16 hw), rfl, rfl⟩) (tw3 hw) (ty := .int) (by decide) rfl rfl O10 rfl ?_
  intro T7 h7 X7 V7 W7
  have F7 := Fld.same W7 F_8
  refine Own.s_aloadN X7 dc_prog_1_method_1_20 rfl rfl rfl ?_
  refine Own.s_dload X7 dc_prog_1_method_1_21 rfl rfl ?_
  have F_12 := (Fld.other W7 (Fld.other W3 (Fld.other W2 F_averageLength (Or.inr (slot_ne (Or.inr (tw18 hw)) (Or.inr (tw12 hw)) (by decide) (t := .double) (t' := .double) (by decide) (by decide)))) (Or.inr (slot_ne (Or.inr (tw18 hw)) (Or.inr (tw14 hw)) (by decide) (t := .double) (t' := .double) (by decide) (by decide)))) (Or.inr (slot_ne (Or.inr (tw18 hw)) (Or.inr (tw16 hw)) (by decide) (t := .double) (t' := .int) (by decide) (by decide))))
  have E_13 := (Exa.keep E_9 V7.1)
  have O14 := (O10.ev V7)
  refine Own.s_putfield X7 dc_prog_1_method_1_23 (tw17 hw) F_12 E_13 (Or.inr ⟨(tw18 hw), rfl, rfl⟩) (tw3 hw) (ty := .double) (by decide) rfl rfl O14 rfl ?_
  intro T11 h11 X11 V11 W11
  have F11 := Fld.same W11 F_12
  have E_15 := (Exa.keep E_13 V11.1)
  have F_16 := (Fld.other W11 (Fld.other W7 (Fld.other W3 F2 (Or.inr (slot_ne (Or.inr (tw12 hw)) (Or.inr (tw14 hw)) (by decide) (t := .double) (t' := .double) (by decide) (by decide)))) (Or.inr (slot_ne (Or.inr (tw12 hw)) (Or.inr (tw16 hw)) (by decide) (t := .double) (t' := .int) (by decide) (by decide)))) (Or.inr (slot_ne (Or.inr (tw12 hw)) (Or.inr (tw18 hw)) (by decide) (t := .double) (t' := .double) (by decide) (by decide))))
  have F_17 := (Fld.other W11 (Fld.other W7 F3 (Or.inr (slot_ne (Or.inr (tw14 hw)) (Or.inr (tw16 hw)) (by decide) (t := .double) (t' := .int) (by decide) (by decide)))) (Or.inr (slot_ne (Or.inr (tw14 hw)) (Or.inr (tw18 hw)) (by decide) (t := .double) (t' := .double) (by decide) (by decide))))
  have F_18 := (Fld.other W11 F7 (Or.inr (slot_ne (Or.inr (tw16 hw)) (Or.inr (tw18 hw)) (by decide) (t := .int) (t' := .double) (by decide) (by decide))))
  exact Own.r_void X11 rfl dc_prog_1_method_1_26 (by decide) (by decide) (⟨rfl, E_15, F_16, F_17, F_18, F11⟩)
set_option maxRecDepth 65536 in
set_option maxHeartbeats 40000000 in
theorem rm_score {l : Launch} {Z : State} {a0 : Array Value} (hw : ∀ d ∈ tables_1, d.before a0 Z = true) (a : Addr) (k1 b1 av tf id : UInt64) (dc I_ : Int32) (kn bn j tn ln : Nat) (hk : kn ≤ 3) (hb : bn ≤ 4) (hj : j ≤ 3) (ht : tn ≤ 4095) (hl : ln ≤ 2147483647) (Dk : Own.Dy (kn : Int) 0 k1) (Db : Own.Dy (bn : Int) 2 b1) (Va : FP.Core.val64 av = .fin false (2 ^ 52) ((j : Int) - 52)) (Dt : Own.Dy (tn : Int) 2 tf) (Di : Own.Dy I_.toInt 0 id) (h0 : Heap) (hE : Ext Z.heap h0) (E : Exa Z h0 a "com/example/soft_query/softquery/Bm25") (F_k1 : Fld Z h0 a "com/example/soft_query/softquery/Bm25" "k1" "D" (.double k1)) (F_b : Fld Z h0 a "com/example/soft_query/softquery/Bm25" "b" "D" (.double b1)) (F_documents : Fld Z h0 a "com/example/soft_query/softquery/Bm25" "documents" "I" (.int dc)) (F_averageLength : Fld Z h0 a "com/example/soft_query/softquery/Bm25" "averageLength" "D" (.double av)) :
    Own.Ctr false l Z a0 EL (⟨"com/example/soft_query/softquery/Bm25", "score", "(DDI)D"⟩ : MethodName) prog_1_method_3_code 8 (Option.some Jvm.ClassFile.FieldType.double) ({ frames := 0, cells := 0, slots := 0, locals := 0 } : Room) #[(.ref a), (.double tf), (.double id), (.int (Int32.ofNat ln))] h0 [] (fun v h => ∃ d, v = some (.double d) ∧ ((tn = 0 ∧ Own.Dy 0 0 d) ∨ (tn ≠ 0 ∧ Own.Qu (Own.NN I_ kn j tn) (Own.DD kn bn j tn ln) d))) := by
  refine Own.Ctr.of pn_1 (ef_1 a tf id (Int32.ofNat ln)) hE (ewEL hw) ?_
  intro p e s m below meth c T0 X0 hsafe
  by_cases h0 : tn = 0
  · refine Own.s_dloadN X0 dc_prog_1_method_3_0 rfl rfl ?_
    refine Own.s_dconst0 X0 dc_prog_1_method_3_1 rfl ?_
    obtain ⟨z1, ez1, hz1⟩ : ∃ z : Int32, cmpValue (FP.dcmp tf FP.dconst0) .l = z ∧ z = 0 := Own.Dy.eq Dt (Own.dy0 2) (by omega)
    refine Own.s_dcmp X0 dc_prog_1_method_3_2 z1 ez1 rfl ?_
    refine Own.s_ifF X0 dc_prog_1_method_3_3 ((if0 _ _).trans (teq hz1).2) rfl ?_
    refine Own.s_dconst0 X0 dc_prog_1_method_3_6 rfl ?_
    refine Own.s_dstore X0 dc_prog_1_method_3_7 #[.val (.ref a), .val (.double tf), .second, .val (.double id), .second, .val (.int (Int32.ofNat ln)), .val (.double FP.dconst0), .second] rfl rfl ?_
    refine Own.s_goto X0 dc_prog_1_method_3_9 (by decide) (pc' := 52) (by decide) ?_
    refine Own.s_dload X0 dc_prog_1_method_3_52 rfl rfl ?_
    exact Own.r_dbl X0 rfl dc_prog_1_method_3_54 (by decide) (by decide) (⟨_, rfl, Or.inl ⟨h0, Own.dy0 0⟩⟩)
  · refine Own.s_dloadN X0 dc_prog_1_method_3_0 rfl rfl ?_
    refine Own.s_dconst0 X0 dc_prog_1_method_3_1 rfl ?_
    obtain ⟨z2, ez2, hz2⟩ : ∃ z : Int32, cmpValue (FP.dcmp tf FP.dconst0) .l = z ∧ ¬ z = 0 := Own.Dy.ne Dt (Own.dy0 2) (by omega)
    refine Own.s_dcmp X0 dc_prog_1_method_3_2 z2 ez2 rfl ?_
    refine Own.s_ifT X0 dc_prog_1_method_3_3 ((if0 _ _).trans (feq hz2).2) (by decide) (pc' := 12) (by decide) ?_
    refine Own.s_dloadN X0 dc_prog_1_method_3_12 rfl rfl ?_
    refine Own.s_dloadN X0 dc_prog_1_method_3_13 rfl rfl ?_
    obtain ⟨d3, ed3, D3⟩ : ∃ d, FP.dmul id tf = d ∧ Own.Dy (I_.toInt * (tn : Int)) (2) d := ⟨_, rfl, Own.q_a1 ht Di Dt⟩
    refine Own.s_dmul X0 dc_prog_1_method_3_14 d3 (by rw [ed3]; exact D3.noNaN) ed3 rfl ?_
    refine Own.s_aloadN X0 dc_prog_1_method_3_15 rfl rfl rfl ?_
    refine Own.s_getfield X0 dc_prog_1_method_3_16 (tw11 hw) F_k1 rfl ?_
    intro T4 X4
    refine Own.s_dconst1 X4 dc_prog_1_method_3_19 rfl ?_
    obtain ⟨d5, ed5, D5⟩ : ∃ d, FP.dadd k1 FP.dconst1 = d ∧ Own.Dy ((kn + 1 : Nat) : Int) (0) d := ⟨_, rfl, Own.q_k1 hk Dk⟩
    refine Own.s_dadd X4 dc_prog_1_method_3_20 d5 (by rw [ed5]; exact D5.noNaN) ed5 rfl ?_
    obtain ⟨d6, ed6, D6⟩ : ∃ d, FP.dmul d3 d5 = d ∧ Own.Dy (I_.toInt * ((tn * (kn + 1) : Nat) : Int)) (2) d := ⟨_, rfl, Own.q_n hk ht D3 D5⟩
    refine Own.s_dmul X4 dc_prog_1_method_3_21 d6 (by rw [ed6]; exact D6.noNaN) ed6 rfl ?_
    refine Own.s_dloadN X4 dc_prog_1_method_3_22 rfl rfl ?_
    refine Own.s_aloadN X4 dc_prog_1_method_3_23 rfl rfl rfl ?_
    refine Own.s_getfield X4 dc_prog_1_method_3_24 (tw11 hw) F_k1 rfl ?_
    intro T7 X7
    refine Own.s_dconst1 X7 dc_prog_1_method_3_27 rfl ?_
    refine Own.s_aloadN X7 dc_prog_1_method_3_28 rfl rfl rfl ?_
    refine Own.s_getfield X7 dc_prog_1_method_3_29 (tw13 hw) F_b rfl ?_
    intro T8 X8
    obtain ⟨d9, ed9, D9⟩ : ∃ d, FP.dsub FP.dconst1 b1 = d ∧ Own.Dy ((4 - bn : Nat) : Int) (2) d := ⟨_, rfl, Own.q_b1 hb Db⟩
    refine Own.s_dsub X8 dc_prog_1_method_3_32 d9 (by rw [ed9]; exact D9.noNaN) ed9 rfl ?_
    refine Own.s_aloadN X8 dc_prog_1_method_3_33 rfl rfl rfl ?_
    refine Own.s_getfield X8 dc_prog_1_method_3_34 (tw13 hw) F_b rfl ?_
    intro T10 X10
    refine Own.s_iload X10 dc_prog_1_method_3_37 rfl rfl ?_
    obtain ⟨d11, ed11, D11⟩ : ∃ d, FP.i2d (Int32.ofNat ln) = d ∧ Own.Dy ((ln : Int)) (0) d := ⟨_, rfl, Own.dyN hl⟩
    refine Own.s_i2d X10 dc_prog_1_method_3_39 d11 ed11 rfl ?_
    obtain ⟨d12, ed12, D12⟩ : ∃ d, FP.dmul b1 d11 = d ∧ Own.Dy ((bn * ln : Nat) : Int) (2) d := ⟨_, rfl, Own.q_b2 hb hl Db D11⟩
    refine Own.s_dmul X10 dc_prog_1_method_3_40 d12 (by rw [ed12]; exact D12.noNaN) ed12 rfl ?_
    refine Own.s_aloadN X10 dc_prog_1_method_3_41 rfl rfl rfl ?_
    refine Own.s_getfield X10 dc_prog_1_method_3_42 (tw17 hw) F_averageLength rfl ?_
    intro T13 X13
    obtain ⟨d14, ed14, D14⟩ : ∃ d, FP.ddiv d12 av = d ∧ Own.Dy ((bn * ln : Nat) : Int) (2 + (j : Int)) d := ⟨_, rfl, Own.q_b3 hb hj hl D12 Va⟩
    refine Own.s_ddiv X13 dc_prog_1_method_3_45 d14 (by rw [ed14]; exact D14.noNaN) ed14 rfl ?_
    obtain ⟨d15, ed15, D15⟩ : ∃ d, FP.dadd d9 d14 = d ∧ Own.Dy (((4 - bn) * 2 ^ j + bn * ln : Nat) : Int) (2 + (j : Int)) d := ⟨_, rfl, Own.q_b4 hb hj hl D9 D14⟩
    refine Own.s_dadd X13 dc_prog_1_method_3_46 d15 (by rw [ed15]; exact D15.noNaN) ed15 rfl ?_
    obtain ⟨d16, ed16, D16⟩ : ∃ d, FP.dmul k1 d15 = d ∧ Own.Dy ((kn * ((4 - bn) * 2 ^ j + bn * ln) : Nat) : Int) (2 + (j : Int)) d := ⟨_, rfl, Own.q_b5 hk hb hj hl Dk D15⟩
    refine Own.s_dmul X13 dc_prog_1_method_3_47 d16 (by rw [ed16]; exact D16.noNaN) ed16 rfl ?_
    obtain ⟨d17, ed17, D17⟩ : ∃ d, FP.dadd tf d16 = d ∧ Own.Dy ((Own.DD kn bn j tn ln : Nat) : Int) (2 + (j : Int)) d := ⟨_, rfl, Own.q_d hk hb hj ht hl Dt D16⟩
    refine Own.s_dadd X13 dc_prog_1_method_3_48 d17 (by rw [ed17]; exact D17.noNaN) ed17 rfl ?_
    obtain ⟨d18, ed18, D18⟩ : ∃ d, FP.ddiv d6 d17 = d ∧ Own.Qu (Own.NN I_ kn j tn) (Own.DD kn bn j tn ln) d := ⟨_, rfl, Own.q_q h0 D6 D17⟩
    refine Own.s_ddiv X13 dc_prog_1_method_3_49 d18 (by rw [ed18]; exact D18.noNaN) ed18 rfl ?_
    refine Own.s_dstore X13 dc_prog_1_method_3_50 #[.val (.ref a), .val (.double tf), .second, .val (.double id), .second, .val (.int (Int32.ofNat ln)), .val (.double d18), .second] rfl rfl ?_
    refine Own.s_dload X13 dc_prog_1_method_3_52 rfl rfl ?_
    exact Own.r_dbl X13 rfl dc_prog_1_method_3_54 (by decide) (by decide) (⟨_, rfl, Or.inr ⟨h0, D18⟩⟩)
set_option maxRecDepth 65536 in
set_option maxHeartbeats 40000000 in
theorem rm_law {l : Launch} {Z : State} {a0 : Array Value} (hw : ∀ d ∈ tables_1, d.before a0 Z = true) (p0 p1 p2 p3 : Int32) (h0 : Heap) (hE : Ext Z.heap h0)  :
    Own.Ctr false l Z a0 EL x code maxLocals ret room_1 #[(.int p0), (.int p1), (.int p2), (.int p3)] h0 [] (fun v h => v = some (.int (1 : Int32))) := by
  refine Own.Ctr.of pn_2 (ef_2 p0 p1 p2 p3) hE (ewEL hw) ?_
  intro p e s m below meth c T0 X0 hsafe
  refine Own.s_iloadN X0 at_0 rfl rfl ?_
  refine Own.s_iconst X0 at_1 (3 : Int32) (by decide) rfl ?_
  refine Own.s_iand X0 at_2 rfl ?_
  obtain ⟨kn, hk, ek⟩ := Own.own_mk p3
  rw [ek]
  refine Own.s_istore X0 at_3 #[.val (.int p0), .val (.int p1), .val (.int p2), .val (.int p3), .val (.int (Int32.ofNat kn)), .unset, .unset, .unset, .unset, .unset, .unset, .unset, .unset, .unset, .unset, .unset, .unset, .unset, .unset, .unset, .unset, .unset, .unset, .unset, .unset, .unset, .unset, .unset, .unset] rfl rfl ?_
  refine Own.s_iloadN X0 at_5 rfl rfl ?_
  refine Own.s_iconst X0 at_6 (2 : Int32) (by decide) rfl ?_
  refine Own.s_iushr X0 at_7 rfl ?_
  refine Own.s_bipush X0 at_8 (7 : Int32) (by decide) rfl ?_
  refine Own.s_iand X0 at_10 rfl ?_
  refine Own.s_iconst X0 at_11 (5 : Int32) (by decide) rfl ?_
  refine Own.s_irem X0 at_12 (by decide) rfl ?_
  obtain ⟨bn, hb, eb⟩ := Own.own_bq (XT.ushr p3 (2 : Int32))
  rw [eb]
  refine Own.s_istore X0 at_13 #[.val (.int p0), .val (.int p1), .val (.int p2), .val (.int p3), .val (.int (Int32.ofNat kn)), .val (.int (Int32.ofNat bn)), .unset, .unset, .unset, .unset, .unset, .unset, .unset, .unset, .unset, .unset, .unset, .unset, .unset, .unset, .unset, .unset, .unset, .unset, .unset, .unset, .unset, .unset, .unset] rfl rfl ?_
  refine Own.s_iconst X0 at_15 (1 : Int32) (by decide) rfl ?_
  refine Own.s_iloadN X0 at_16 rfl rfl ?_
  refine Own.s_iconst X0 at_17 (5 : Int32) (by decide) rfl ?_
  refine Own.s_iushr X0 at_18 rfl ?_
  refine Own.s_iconst X0 at_19 (3 : Int32) (by decide) rfl ?_
  refine Own.s_iand X0 at_20 rfl ?_
  refine Own.s_ishl X0 at_21 rfl ?_
  obtain ⟨j, hj, ej⟩ := Own.own_av (XT.ushr p3 (5 : Int32))
  rw [ej]
  refine Own.s_istore X0 at_22 #[.val (.int p0), .val (.int p1), .val (.int p2), .val (.int p3), .val (.int (Int32.ofNat kn)), .val (.int (Int32.ofNat bn)), .val (.int (Int32.ofNat (2 ^ j))), .unset, .unset, .unset, .unset, .unset, .unset, .unset, .unset, .unset, .unset, .unset, .unset, .unset, .unset, .unset, .unset, .unset, .unset, .unset, .unset, .unset, .unset] rfl rfl ?_
  refine Own.s_iloadN X0 at_24 rfl rfl ?_
  refine Own.s_bipush X0 at_25 (7 : Int32) (by decide) rfl ?_
  refine Own.s_ishr X0 at_27 rfl ?_
  refine Own.s_istore X0 at_28 #[.val (.int p0), .val (.int p1), .val (.int p2), .val (.int p3), .val (.int (Int32.ofNat kn)), .val (.int (Int32.ofNat bn)), .val (.int (Int32.ofNat (2 ^ j))), .val (.int (p3 >>> ((7 : Int32) &&& 31))), .unset, .unset, .unset, .unset, .unset, .unset, .unset, .unset, .unset, .unset, .unset, .unset, .unset, .unset, .unset, .unset, .unset, .unset, .unset, .unset, .unset] rfl rfl ?_
  refine Own.s_iloadN X0 at_30 rfl rfl ?_
  refine Own.s_sipush X0 at_31 (4095 : Int32) (by decide) rfl ?_
  refine Own.s_iand X0 at_34 rfl ?_
  obtain ⟨tn, ht, et⟩ := Own.own_tq p0
  rw [et]
  refine Own.s_istore X0 at_35 #[.val (.int p0), .val (.int p1), .val (.int p2), .val (.int p3), .val (.int (Int32.ofNat kn)), .val (.int (Int32.ofNat bn)), .val (.int (Int32.ofNat (2 ^ j))), .val (.int (p3 >>> ((7 : Int32) &&& 31))), .val (.int (Int32.ofNat tn)), .unset, .unset, .unset, .unset, .unset, .unset, .unset, .unset, .unset, .unset, .unset, .unset, .unset, .unset, .unset, .unset, .unset, .unset, .unset, .unset] rfl rfl ?_
  refine Own.s_iloadN X0 at_37 rfl rfl ?_
  refine Own.s_ldcI X0 at_38 (tw0 hw) rfl ?_
  refine Own.s_iand X0 at_40 rfl ?_
  obtain ⟨ln, hl, el⟩ := Own.own_ln p2
  rw [el]
  refine Own.s_istore X0 at_41 #[.val (.int p0), .val (.int p1), .val (.int p2), .val (.int p3), .val (.int (Int32.ofNat kn)), .val (.int (Int32.ofNat bn)), .val (.int (Int32.ofNat (2 ^ j))), .val (.int (p3 >>> ((7 : Int32) &&& 31))), .val (.int (Int32.ofNat tn)), .val (.int (Int32.ofNat ln)), .unset, .unset, .unset, .unset, .unset, .unset, .unset, .unset, .unset, .unset, .unset, .unset, .unset, .unset, .unset, .unset, .unset, .unset, .unset] rfl rfl ?_
  refine Own.s_iload X0 at_43 rfl rfl ?_
  obtain ⟨d1, ed1, D1⟩ : ∃ d, FP.i2d (Int32.ofNat kn) = d ∧ Own.Dy ((kn : Int)) (0) d := ⟨_, rfl, Own.dyN (by omega)⟩
  refine Own.s_i2d X0 at_45 d1 ed1 rfl ?_
  refine Own.s_dstore X0 at_46 #[.val (.int p0), .val (.int p1), .val (.int p2), .val (.int p3), .val (.int (Int32.ofNat kn)), .val (.int (Int32.ofNat bn)), .val (.int (Int32.ofNat (2 ^ j))), .val (.int (p3 >>> ((7 : Int32) &&& 31))), .val (.int (Int32.ofNat tn)), .val (.int (Int32.ofNat ln)), .val (.double d1), .second, .unset, .unset, .unset, .unset, .unset, .unset, .unset, .unset, .unset, .unset, .unset, .unset, .unset, .unset, .unset, .unset, .unset] rfl rfl ?_
  refine Own.s_iload X0 at_48 rfl rfl ?_
  obtain ⟨d2, ed2, D2⟩ : ∃ d, FP.i2d (Int32.ofNat bn) = d ∧ Own.Dy ((bn : Int)) (0) d := ⟨_, rfl, Own.dyN (by omega)⟩
  refine Own.s_i2d X0 at_50 d2 ed2 rfl ?_
  refine Own.s_ldc2D X0 at_51 (tw1 hw) rfl ?_
  obtain ⟨d3, ed3, D3⟩ : ∃ d, FP.ddiv d2 (4616189618054758400 : UInt64) = d ∧ Own.Dy ((bn : Int)) (2) d := ⟨_, rfl, Own.q_div4 (by omega) D2⟩
  refine Own.s_ddiv X0 at_54 d3 (by rw [ed3]; exact D3.noNaN) ed3 rfl ?_
  refine Own.s_dstore X0 at_55 #[.val (.int p0), .val (.int p1), .val (.int p2), .val (.int p3), .val (.int (Int32.ofNat kn)), .val (.int (Int32.ofNat bn)), .val (.int (Int32.ofNat (2 ^ j))), .val (.int (p3 >>> ((7 : Int32) &&& 31))), .val (.int (Int32.ofNat tn)), .val (.int (Int32.ofNat ln)), .val (.double d1), .second, .val (.double d3), .second, .unset, .unset, .unset, .unset, .unset, .unset, .unset, .unset, .unset, .unset, .unset, .unset, .unset, .unset, .unset] rfl rfl ?_
  refine Own.s_iload X0 at_57 rfl rfl ?_
  obtain ⟨d4, ed4, D4⟩ : ∃ d, FP.i2d (Int32.ofNat (2 ^ j)) = d ∧ FP.Core.val64 d = .fin false (2 ^ 52) ((j : Int) - 52) := ⟨_, rfl, Own.valA hj⟩
  refine Own.s_i2d X0 at_59 d4 ed4 rfl ?_
  refine Own.s_dstore X0 at_60 #[.val (.int p0), .val (.int p1), .val (.int p2), .val (.int p3), .val (.int (Int32.ofNat kn)), .val (.int (Int32.ofNat bn)), .val (.int (Int32.ofNat (2 ^ j))), .val (.int (p3 >>> ((7 : Int32) &&& 31))), .val (.int (Int32.ofNat tn)), .val (.int (Int32.ofNat ln)), .val (.double d1), .second, .val (.double d3), .second, .val (.double d4), .second, .unset, .unset, .unset, .unset, .unset, .unset, .unset, .unset, .unset, .unset, .unset, .unset, .unset] rfl rfl ?_
  refine Own.s_iload X0 at_62 rfl rfl ?_
  obtain ⟨d5, ed5, D5⟩ : ∃ d, FP.i2d (Int32.ofNat tn) = d ∧ Own.Dy ((tn : Int)) (0) d := ⟨_, rfl, Own.dyN (by omega)⟩
  refine Own.s_i2d X0 at_64 d5 ed5 rfl ?_
  refine Own.s_ldc2D X0 at_65 (tw1 hw) rfl ?_
  obtain ⟨d6, ed6, D6⟩ : ∃ d, FP.ddiv d5 (4616189618054758400 : UInt64) = d ∧ Own.Dy ((tn : Int)) (2) d := ⟨_, rfl, Own.q_div4 ht D5⟩
  refine Own.s_ddiv X0 at_68 d6 (by rw [ed6]; exact D6.noNaN) ed6 rfl ?_
  refine Own.s_dstore X0 at_69 #[.val (.int p0), .val (.int p1), .val (.int p2), .val (.int p3), .val (.int (Int32.ofNat kn)), .val (.int (Int32.ofNat bn)), .val (.int (Int32.ofNat (2 ^ j))), .val (.int (p3 >>> ((7 : Int32) &&& 31))), .val (.int (Int32.ofNat tn)), .val (.int (Int32.ofNat ln)), .val (.double d1), .second, .val (.double d3), .second, .val (.double d4), .second, .val (.double d6), .second, .unset, .unset, .unset, .unset, .unset, .unset, .unset, .unset, .unset, .unset, .unset] rfl rfl ?_
  refine Own.s_iloadN X0 at_71 rfl rfl ?_
  obtain ⟨d7, ed7, D7⟩ : ∃ d, FP.i2d p1 = d ∧ Own.Dy (p1.toInt) (0) d := ⟨_, rfl, Own.dyI p1⟩
  refine Own.s_i2d X0 at_72 d7 ed7 rfl ?_
  refine Own.s_dstore X0 at_73 #[.val (.int p0), .val (.int p1), .val (.int p2), .val (.int p3), .val (.int (Int32.ofNat kn)), .val (.int (Int32.ofNat bn)), .val (.int (Int32.ofNat (2 ^ j))), .val (.int (p3 >>> ((7 : Int32) &&& 31))), .val (.int (Int32.ofNat tn)), .val (.int (Int32.ofNat ln)), .val (.double d1), .second, .val (.double d3), .second, .val (.double d4), .second, .val (.double d6), .second, .val (.double d7), .second, .unset, .unset, .unset, .unset, .unset, .unset, .unset, .unset, .unset] rfl rfl ?_
  refine Own.s_new X0 at_75 (tw2 hw) (tw3 hw) (tw4 hw) (by decide) (by decide) rfl ?_
  intro b8 T8 h8 X8 V8 g8 E8 O8 D8
  have F8_k1 : Fld Z h8 b8 "com/example/soft_query/softquery/Bm25" "k1" "D" (.double 0) := D8 (Or.inr (tw12 hw)) (ty := .double) (by decide)
  have F8_b : Fld Z h8 b8 "com/example/soft_query/softquery/Bm25" "b" "D" (.double 0) := D8 (Or.inr (tw14 hw)) (ty := .double) (by decide)
  have F8_documents : Fld Z h8 b8 "com/example/soft_query/softquery/Bm25" "documents" "I" (.int 0) := D8 (Or.inr (tw16 hw)) (ty := .int) (by decide)
  have F8_averageLength : Fld Z h8 b8 "com/example/soft_query/softquery/Bm25" "averageLength" "D" (.double 0) := D8 (Or.inr (tw18 hw)) (ty := .double) (by decide)
  refine Own.s_dup X8 at_78 rfl rfl ?_
  refine Own.s_dload X8 at_79 rfl rfl ?_
  refine Own.s_dload X8 at_81 rfl rfl ?_
  refine Own.s_iload X8 at_83 rfl rfl ?_
  refine Own.s_dload X8 at_85 rfl rfl ?_
  refine Own.c_special X8 at_87 rfl (tw5 hw) (tw6 hw) (tw4 hw) (tw7 hw) (by decide) b8 [(.double d1), (.double d3), (.int (p3 >>> ((7 : Int32) &&& 31))), (.double d4)] [(.ref b8)] 1 (rm_init hw b8 d1 d3 (p3 >>> ((7 : Int32) &&& 31)) d4 h8 X8.hE O8.2.1 E8 F8_k1 F8_b F8_documents F8_averageLength) (fun q => nomatch q) (Own.Ok.one O8) (lenOf pd_0 rfl) rfl (Nat.le_of_eq rfl) (by decide) (by decide) (by decide) (by decide) rfl rfl ?_
  intro v9 vm9 T9 h9 L9 X9 V9 Q9
  obtain ⟨rfl, E9, F9_0, F9_1, F9_2, F9_3⟩ := Q9
  refine Own.s_astore X9 at_90 rfl #[.val (.int p0), .val (.int p1), .val (.int p2), .val (.int p3), .val (.int (Int32.ofNat kn)), .val (.int (Int32.ofNat bn)), .val (.int (Int32.ofNat (2 ^ j))), .val (.int (p3 >>> ((7 : Int32) &&& 31))), .val (.int (Int32.ofNat tn)), .val (.int (Int32.ofNat ln)), .val (.double d1), .second, .val (.double d3), .second, .val (.double d4), .second, .val (.double d6), .second, .val (.double d7), .second, .val (.ref b8), .unset, .unset, .unset, .unset, .unset, .unset, .unset, .unset] rfl rfl ?_
  refine Own.s_aload X9 at_92 rfl rfl rfl ?_
  refine Own.s_dload X9 at_94 rfl rfl ?_
  refine Own.s_dload X9 at_96 rfl rfl ?_
  refine Own.s_iload X9 at_98 rfl rfl ?_
  refine Own.c_virtual X9 at_100 (tw19 hw) (tw20 hw) (notFace_of_selects (args := #[]) (mvT X9.hZ (tw22 hw))) (tw22 hw) (tw21 hw) (tw4 hw) (tw23 hw) (by decide) b8 [(.double d6), (.double d7), (.int (Int32.ofNat ln))] [] 0 E9 (rm_score hw b8 d1 d3 d4 d6 d7 (p3 >>> ((7 : Int32) &&& 31)) p1 kn bn j tn ln hk hb hj ht hl D1 D3 D4 D6 D7 h9 X9.hE E9 F9_0 F9_1 F9_2 F9_3) (fun q => nomatch q) Own.Ok.nil (lenOf pd_1 rfl) rfl (Nat.le_of_eq rfl) (by decide) (by decide) (by decide) (by decide) rfl rfl ?_
  intro v10 vm10 T10 h10 L10 X10 V10 Q10
  obtain ⟨sc, rfl, hsc⟩ := Q10
  rcases hsc with ⟨h0, S0⟩ | ⟨h0, S0⟩
  · refine Own.s_dstore X10 at_103 #[.val (.int p0), .val (.int p1), .val (.int p2), .val (.int p3), .val (.int (Int32.ofNat kn)), .val (.int (Int32.ofNat bn)), .val (.int (Int32.ofNat (2 ^ j))), .val (.int (p3 >>> ((7 : Int32) &&& 31))), .val (.int (Int32.ofNat tn)), .val (.int (Int32.ofNat ln)), .val (.double d1), .second, .val (.double d3), .second, .val (.double d4), .second, .val (.double d6), .second, .val (.double d7), .second, .val (.ref b8), .val (.double sc), .second, .unset, .unset, .unset, .unset, .unset, .unset] rfl rfl ?_
    refine Own.s_iload X10 at_105 rfl rfl ?_
    refine Own.s_ifF X10 at_107 ((if0 _ _).trans (teq (congrArg Int32.ofNat h0)).2) rfl ?_
    refine Own.s_dconst0 X10 at_110 rfl ?_
    refine Own.s_dstore X10 at_111 #[.val (.int p0), .val (.int p1), .val (.int p2), .val (.int p3), .val (.int (Int32.ofNat kn)), .val (.int (Int32.ofNat bn)), .val (.int (Int32.ofNat (2 ^ j))), .val (.int (p3 >>> ((7 : Int32) &&& 31))), .val (.int (Int32.ofNat tn)), .val (.int (Int32.ofNat ln)), .val (.double d1), .second, .val (.double d3), .second, .val (.double d4), .second, .val (.double d6), .second, .val (.double d7), .second, .val (.ref b8), .val (.double sc), .second, .val (.double FP.dconst0), .second, .unset, .unset, .unset, .unset] rfl rfl ?_
    refine Own.s_goto X10 at_113 (by decide) (pc' := 174) (by decide) ?_
    refine Own.s_dload X10 at_174 rfl rfl ?_
    refine Own.s_dload X10 at_176 rfl rfl ?_
    obtain ⟨z11, ez11, hz11⟩ : ∃ z : Int32, cmpValue (FP.dcmp sc FP.dconst0) .l = z ∧ z = 0 := Own.Dy.eq S0 (Own.dy0 0) rfl
    refine Own.s_dcmp X10 at_178 z11 ez11 rfl ?_
    refine Own.s_ifF X10 at_179 ((if0 _ _).trans (teq hz11).2) rfl ?_
    refine Own.s_iconst X10 at_182 (1 : Int32) (by decide) rfl ?_
    refine Own.s_goto X10 at_183 (by decide) (pc' := 187) (by decide) ?_
    exact Own.r_nar X10 rfl (Or.inl rfl) at_187 (by decide) (by decide) (by decide)
  · refine Own.s_dstore X10 at_103 #[.val (.int p0), .val (.int p1), .val (.int p2), .val (.int p3), .val (.int (Int32.ofNat kn)), .val (.int (Int32.ofNat bn)), .val (.int (Int32.ofNat (2 ^ j))), .val (.int (p3 >>> ((7 : Int32) &&& 31))), .val (.int (Int32.ofNat tn)), .val (.int (Int32.ofNat ln)), .val (.double d1), .second, .val (.double d3), .second, .val (.double d4), .second, .val (.double d6), .second, .val (.double d7), .second, .val (.ref b8), .val (.double sc), .second, .unset, .unset, .unset, .unset, .unset, .unset] rfl rfl ?_
    refine Own.s_iload X10 at_105 rfl rfl ?_
    refine Own.s_ifT X10 at_107 ((if0 _ _).trans (feq (fun q => h0 (by have e := congrArg Int32.toInt q; rw [Own.ofNat_toInt (by omega)] at e; have e0 : (0 : Int32).toInt = 0 := rfl; omega))).2) (by decide) (pc' := 116) (by decide) ?_
    refine Own.s_iloadN X10 at_116 rfl rfl ?_
    refine Own.s_i2l X10 at_117 rfl ?_
    refine Own.s_iload X10 at_118 rfl rfl ?_
    refine Own.s_i2l X10 at_120 rfl ?_
    refine Own.s_lmul X10 at_121 rfl ?_
    refine Own.s_iload X10 at_122 rfl rfl ?_
    refine Own.s_iconst X10 at_124 (1 : Int32) (by decide) rfl ?_
    refine Own.s_iaddV (Int32.ofNat (kn + 1)) X10 at_125 (Own.ofNat_add kn 1) rfl ?_
    refine Own.s_i2l X10 at_126 rfl ?_
    refine Own.s_lmul X10 at_127 rfl ?_
    refine Own.s_iload X10 at_128 rfl rfl ?_
    refine Own.s_i2l X10 at_130 rfl ?_
    refine Own.s_lmul X10 at_131 rfl ?_
    refine Own.s_lstore X10 at_132 #[.val (.int p0), .val (.int p1), .val (.int p2), .val (.int p3), .val (.int (Int32.ofNat kn)), .val (.int (Int32.ofNat bn)), .val (.int (Int32.ofNat (2 ^ j))), .val (.int (p3 >>> ((7 : Int32) &&& 31))), .val (.int (Int32.ofNat tn)), .val (.int (Int32.ofNat ln)), .val (.double d1), .second, .val (.double d3), .second, .val (.double d4), .second, .val (.double d6), .second, .val (.double d7), .second, .val (.ref b8), .val (.double sc), .second, .unset, .unset, .val (.long ((((p1.toInt64) * ((Int32.ofNat tn).toInt64)) * ((Int32.ofNat (kn + 1)).toInt64)) * ((Int32.ofNat (2 ^ j)).toInt64))), .second, .unset, .unset] rfl rfl ?_
    refine Own.s_iload X10 at_134 rfl rfl ?_
    refine Own.s_i2l X10 at_136 rfl ?_
    refine Own.s_iload X10 at_137 rfl rfl ?_
    refine Own.s_i2l X10 at_139 rfl ?_
    refine Own.s_lmul X10 at_140 rfl ?_
    refine Own.s_iload X10 at_141 rfl rfl ?_
    refine Own.s_i2l X10 at_143 rfl ?_
    refine Own.s_iconst X10 at_144 (4 : Int32) (by decide) rfl ?_
    refine Own.s_iload X10 at_145 rfl rfl ?_
    refine Own.s_isubV (Int32.ofNat (4 - bn)) X10 at_147 (Own.ofNat_sub (a := 4) (b := bn) (by omega)) rfl ?_
    refine Own.s_i2l X10 at_148 rfl ?_
    refine Own.s_iload X10 at_149 rfl rfl ?_
    refine Own.s_i2l X10 at_151 rfl ?_
    refine Own.s_lmul X10 at_152 rfl ?_
    refine Own.s_iload X10 at_153 rfl rfl ?_
    refine Own.s_i2l X10 at_155 rfl ?_
    refine Own.s_iload X10 at_156 rfl rfl ?_
    refine Own.s_i2l X10 at_158 rfl ?_
    refine Own.s_lmul X10 at_159 rfl ?_
    refine Own.s_ladd X10 at_160 rfl ?_
    refine Own.s_lmul X10 at_161 rfl ?_
    refine Own.s_ladd X10 at_162 rfl ?_
    refine Own.s_lstore X10 at_163 #[.val (.int p0), .val (.int p1), .val (.int p2), .val (.int p3), .val (.int (Int32.ofNat kn)), .val (.int (Int32.ofNat bn)), .val (.int (Int32.ofNat (2 ^ j))), .val (.int (p3 >>> ((7 : Int32) &&& 31))), .val (.int (Int32.ofNat tn)), .val (.int (Int32.ofNat ln)), .val (.double d1), .second, .val (.double d3), .second, .val (.double d4), .second, .val (.double d6), .second, .val (.double d7), .second, .val (.ref b8), .val (.double sc), .second, .unset, .unset, .val (.long ((((p1.toInt64) * ((Int32.ofNat tn).toInt64)) * ((Int32.ofNat (kn + 1)).toInt64)) * ((Int32.ofNat (2 ^ j)).toInt64))), .second, .val (.long ((((Int32.ofNat tn).toInt64) * ((Int32.ofNat (2 ^ j)).toInt64)) + (((Int32.ofNat kn).toInt64) * ((((Int32.ofNat (4 - bn)).toInt64) * ((Int32.ofNat (2 ^ j)).toInt64)) + (((Int32.ofNat bn).toInt64) * ((Int32.ofNat ln).toInt64)))))), .second] rfl rfl ?_
    refine Own.s_lload X10 at_165 rfl rfl ?_
    obtain ⟨d12, ed12, D12⟩ : ∃ d, FP.l2d ((((p1.toInt64) * ((Int32.ofNat tn).toInt64)) * ((Int32.ofNat (kn + 1)).toInt64)) * ((Int32.ofNat (2 ^ j)).toInt64)) = d ∧ Own.Dy (Own.NN p1 kn j tn) (0) d := ⟨_, rfl, Own.w_n hk hj ht⟩
    refine Own.s_l2d X10 at_167 d12 ed12 rfl ?_
    refine Own.s_lload X10 at_168 rfl rfl ?_
    obtain ⟨d13, ed13, D13⟩ : ∃ d, FP.l2d ((((Int32.ofNat tn).toInt64) * ((Int32.ofNat (2 ^ j)).toInt64)) + (((Int32.ofNat kn).toInt64) * ((((Int32.ofNat (4 - bn)).toInt64) * ((Int32.ofNat (2 ^ j)).toInt64)) + (((Int32.ofNat bn).toInt64) * ((Int32.ofNat ln).toInt64))))) = d ∧ Own.Dy ((Own.DD kn bn j tn ln : Nat) : Int) (0) d := ⟨_, rfl, Own.w_d hk hb hj ht hl⟩
    refine Own.s_l2d X10 at_170 d13 ed13 rfl ?_
    obtain ⟨d14, ed14, D14⟩ : ∃ d, FP.ddiv d12 d13 = d ∧ Own.Qu (Own.NN p1 kn j tn) (Own.DD kn bn j tn ln) d := ⟨_, rfl, Own.Dy.quo D12 D13 (Own.dd_pos h0)⟩
    refine Own.s_ddiv X10 at_171 d14 (by rw [ed14]; exact D14.noNaN) ed14 rfl ?_
    refine Own.s_dstore X10 at_172 #[.val (.int p0), .val (.int p1), .val (.int p2), .val (.int p3), .val (.int (Int32.ofNat kn)), .val (.int (Int32.ofNat bn)), .val (.int (Int32.ofNat (2 ^ j))), .val (.int (p3 >>> ((7 : Int32) &&& 31))), .val (.int (Int32.ofNat tn)), .val (.int (Int32.ofNat ln)), .val (.double d1), .second, .val (.double d3), .second, .val (.double d4), .second, .val (.double d6), .second, .val (.double d7), .second, .val (.ref b8), .val (.double sc), .second, .val (.double d14), .second, .val (.long ((((p1.toInt64) * ((Int32.ofNat tn).toInt64)) * ((Int32.ofNat (kn + 1)).toInt64)) * ((Int32.ofNat (2 ^ j)).toInt64))), .second, .val (.long ((((Int32.ofNat tn).toInt64) * ((Int32.ofNat (2 ^ j)).toInt64)) + (((Int32.ofNat kn).toInt64) * ((((Int32.ofNat (4 - bn)).toInt64) * ((Int32.ofNat (2 ^ j)).toInt64)) + (((Int32.ofNat bn).toInt64) * ((Int32.ofNat ln).toInt64)))))), .second] rfl rfl ?_
    refine Own.s_dload X10 at_174 rfl rfl ?_
    refine Own.s_dload X10 at_176 rfl rfl ?_
    obtain ⟨z15, ez15, hz15⟩ : ∃ z : Int32, cmpValue (FP.dcmp sc d14) .l = z ∧ z = 0 := Own.Qu.eq S0 D14
    refine Own.s_dcmp X10 at_178 z15 ez15 rfl ?_
    refine Own.s_ifF X10 at_179 ((if0 _ _).trans (teq hz15).2) rfl ?_
    refine Own.s_iconst X10 at_182 (1 : Int32) (by decide) rfl ?_
    refine Own.s_goto X10 at_183 (by decide) (pc' := 187) (by decide) ?_
    exact Own.r_nar X10 rfl (Or.inl rfl) at_187 (by decide) (by decide) (by decide)
set_option maxRecDepth 65536 in
set_option maxHeartbeats 40000000 in
theorem comes_1 {Post : Tables → Env → Array Value → State → Outcome → State → Prop} (hpost : ∀ tb e args s v u, (limb_1_1.after args s (.returned v) u = true ∧ limb_1_2.after args s (.returned v) u = true ∧ True) → FrameEnd s (.returned v) u (Jvm.fieldLocs frame_1_writes args s ++ Jvm.arrayLocs frame_1_arrays args s ++ Jvm.staticLocs frame_1_statics s) 16 128 → Post tb e args s (.returned v) u) :
    ArmFor flags0 classFile x code maxLocals ret World_1 tables_1 room_1 Calls_1 rest_1 Pre_1 Post := by
  intro l hfl _ _ p e ha hc hk s m args below hf hA hF happ hP
  obtain ⟨hcalls, hrest, hpre⟩ := hP
  obtain ⟨-, -, -, hnamed, -, -, -, hat⟩ := (Spec.applies_iff hf).mp happ
  obtain ⟨hg, hn⟩ := and_e (Cond.before_iff.mp (show (Jvm.Cond.and given_1 narrow_1).before args s = true from hpre))
  obtain ⟨hcount, r0⟩ := and_e hg
  obtain ⟨q0, r1⟩ := and_e r0
  obtain ⟨q1, r2⟩ := and_e r1
  obtain ⟨q2, r3⟩ := and_e r2
  have q3 := r3
  obtain ⟨w0, w1, w2, w3, rfl⟩ : ∃ w0 w1 w2 w3 : Value, args = #[w0, w1, w2, w3] := by
    have hs : args.size = 4 := by simpa [Cond.value, given_1] using hcount
    obtain ⟨L⟩ := args
    match L, hs with
    | [w0, w1, w2, w3], _ => exact ⟨w0, w1, w2, w3, rfl⟩
  have hw := fun d (hd : d ∈ tables_1) => atoms_spec (ws := Jvm.Cond.code x code maxLocals ret :: tables_1) hat d (List.mem_cons_of_mem _ hd)
  obtain ⟨i0, e0⟩ := is_v q0
  obtain rfl : w0 = (.int i0) := Option.some.inj e0
  obtain ⟨i1, e1⟩ := is_v q1
  obtain rfl : w1 = (.int i1) := Option.some.inj e1
  obtain ⟨i2, e2⟩ := is_v q2
  obtain rfl : w2 = (.int i2) := Option.some.inj e2
  obtain ⟨i3, e3⟩ := is_v q3
  obtain rfl : w3 = (.int i3) := Option.some.inj e3
  obtain ⟨n, o, g1, g2, g3, v, rfl, L, ⟨N, -, rfl⟩, -, hRW, hFE⟩ := rm_law hw i0 i1 i2 i3 s.heap (Own.Ext.rfl' _) tables_1 p e ha hc hk s m _ below hf ((Spec.applies_iff_loose hf).mp happ).1 ⟨rfl, State.Warmed39.refl s, rfl, fun q => nomatch q⟩ trivial
  have hq := hFE rfl
  refine ⟨n, _, g1, g2, g3, hpost _ _ _ _ _ _ ⟨Cond.after_iff.mpr rfl, Cond.after_iff.mpr (eq_i res_at (Term.int_eval (1)) rfl), trivial⟩ ⟨hq.1, hq.2.1, (hq.2.2.sift fun y hy => Or.inr (N y hy)).mono (by decide) (by decide)⟩⟩
theorem main_1_1 : Claimed_1_1 := comes_1 fun _ _ _ _ _ _ h hF => ⟨h.1, hF⟩
theorem main_1_2 : Claimed_1_2 := comes_1 fun _ _ _ _ _ _ h hF => ⟨h.2.1, hF⟩
end Jvm.Pilot.@@N@@
namespace Jvm.Pilot.@@N@@
open Jvm Jvm.ClassFile Sem Op Lib Jvm.Free Jvm.Stand Jvm.Pilot.@@N@@.Jvm.D
/-! MADE BY PROGRAM (witnessworld.py) out of the Statement's table words and the real class files: 9 classes; the members and pool entries that the words name. The judged class is class 1, her method 1. -/
namespace start1
open Jvm.ClassFile
def u (s : String) : CpInfo := .utf8 (stringToUtf16 s)
/-- a pool by its gaps: so many unusable entries, then the entry; so many at the end -/
def gap : Nat → List CpInfo → List CpInfo
  | 0, r => r
  | n + 1, r => .unusable :: gap n r
def poolList (es : List (Nat × CpInfo)) (last : Nat) : List CpInfo := es.foldr (fun e r => gap e.1 (e.2 :: r)) (gap last [])
def pool (es : List (Nat × CpInfo)) (last : Nat) : Array CpInfo := ⟨poolList es last⟩
def fileOf (pool : Array CpInfo) (this : Nat) (attrs : Array Attribute := #[]) (ms : Array MethodInfo := #[]) (fl : Nat := 33) (sup : Nat := 0) (ifs : Array Nat := #[]) (fds : Array FieldInfo := #[]) : ClassFile where
  minorVersion := 0
  majorVersion := 65
  constantPool := pool
  accessFlags := fl
  thisClass := this
  superClass := sup
  interfaces := ifs
  fields := fds
  methods := ms
  attributes := attrs
def plain (name : String) (sup : Option ClassId) : Class where
  name := name
  kind := .ordinary
  loader := none
  accessFlags := 33
  super := sup
  interfaces := #[]
  cf := none
  fields := #[]
  methods := #[]
  instanceTypes := #[]
  staticTypes := #[]
  resolved := #[]
  callSites := []
  init := .initialized
  statics := none
  mirror := none

def pool0 : Array CpInfo := pool [(5, u "<init>"), (0, u "()V"), (1, .class_ 10), (1, u "java/lang/Object")] 113

def k0c0 : Code := { maxStack := 0, maxLocals := 1, code := object_method_1_code, exceptionTable := #[], attributes := #[] }
def k0m0 : Method := { name := "<init>", desc := "()V", sig := { parameters := [], returnType := none }, accessFlags := 1, code := some k0c0 }
/-- java/lang/Object -/
def k0 : Class := { plain "java/lang/Object" none with
  accessFlags := 33
  interfaces := #[]
  cf := some (fileOf pool0 8 #[] #[{ accessFlags := 1, nameIndex := 5, descriptorIndex := 6, attributes := #[] }] 33 0 #[] #[])
  fields := #[]
  methods := #[k0m0]
  instanceTypes := #[]
  staticTypes := #[]
  resolved := Array.replicate 124 none
  statics := none }

def pool1 : Array CpInfo := pool [(2, .class_ 4), (1, u "java/lang/Object"), (0, u "<init>"), (0, u "()V"), (0, .integer 2147483647), (0, .double 4616189618054758400), (1, .class_ 11), (0, u "com/example/soft_query/softquery/Bm25"), (0, .methodref 10 13), (0, .nameAndType 5 14), (0, u "(DDID)V"), (0, .methodref 10 16), (0, .nameAndType 17 18), (0, u "score"), (0, u "(DDI)D"), (0, .class_ 20), (0, u "com/example/soft_query/softquery/Bm25ScorePinLaw"), (2, u "law"), (0, u "(IIII)Z")] 3

def k1m0 : Method := { name := "<init>", desc := "()V", sig := { parameters := [], returnType := none }, accessFlags := 2, code := none }
def k1c1 : Code := { maxStack := 10, maxLocals := 29, code := code, exceptionTable := #[], attributes := #[] }
def k1m1 : Method := { name := "law", desc := "(IIII)Z", sig := { parameters := [.int, .int, .int, .int], returnType := some .boolean }, accessFlags := 9, code := some k1c1 }
/-- com/example/soft_query/softquery/Bm25ScorePinLaw -/
def k1 : Class := { plain "com/example/soft_query/softquery/Bm25ScorePinLaw" (some 0) with
  accessFlags := 49
  interfaces := #[]
  cf := some (fileOf pool1 19 #[] #[{ accessFlags := 2, nameIndex := 5, descriptorIndex := 6, attributes := #[] }, { accessFlags := 9, nameIndex := 23, descriptorIndex := 24, attributes := #[] }] 49 2 #[] #[])
  fields := #[]
  methods := #[k1m0, k1m1]
  instanceTypes := #[]
  staticTypes := #[]
  resolved := Array.replicate 28 none
  statics := none }

def pool2 : Array CpInfo := pool [(1, .methodref 2 3), (0, .class_ 4), (0, .nameAndType 5 6), (0, u "java/lang/Object"), (0, u "<init>"), (0, u "()V"), (0, .fieldref 8 9), (0, .class_ 10), (0, .nameAndType 11 12), (0, u "com/example/soft_query/softquery/Bm25"), (0, u "k1"), (0, u "D"), (0, .fieldref 8 14), (0, .nameAndType 15 12), (0, u "b"), (0, .fieldref 8 17), (0, .nameAndType 18 19), (0, u "documents"), (0, u "I"), (0, .fieldref 8 21), (0, .nameAndType 22 12), (0, u "averageLength"), (8, u "DEFAULT_K1"), (3, u "DEFAULT_B"), (2, u "(DDID)V"), (3, u "score"), (0, u "(DDI)D")] 3

def k2c0 : Code := { maxStack := 3, maxLocals := 8, code := prog_1_method_1_code, exceptionTable := #[], attributes := #[] }
def k2m0 : Method := { name := "<init>", desc := "(DDID)V", sig := { parameters := [.double, .double, .int, .double], returnType := none }, accessFlags := 0, code := some k2c0 }
def k2c1 : Code := { maxStack := 12, maxLocals := 8, code := prog_1_method_3_code, exceptionTable := #[], attributes := #[] }
def k2m1 : Method := { name := "score", desc := "(DDI)D", sig := { parameters := [.double, .double, .int], returnType := some .double }, accessFlags := 0, code := some k2c1 }
/-- com/example/soft_query/softquery/Bm25 -/
def k2 : Class := { plain "com/example/soft_query/softquery/Bm25" (some 0) with
  accessFlags := 48
  interfaces := #[]
  cf := some (fileOf pool2 8 #[] #[{ accessFlags := 0, nameIndex := 5, descriptorIndex := 38, attributes := #[] }, { accessFlags := 0, nameIndex := 42, descriptorIndex := 43, attributes := #[] }] 48 2 #[] #[{ accessFlags := 24, nameIndex := 31, descriptorIndex := 12, attributes := #[] }, { accessFlags := 24, nameIndex := 35, descriptorIndex := 12, attributes := #[] }, { accessFlags := 18, nameIndex := 11, descriptorIndex := 12, attributes := #[] }, { accessFlags := 18, nameIndex := 15, descriptorIndex := 12, attributes := #[] }, { accessFlags := 18, nameIndex := 18, descriptorIndex := 19, attributes := #[] }, { accessFlags := 18, nameIndex := 22, descriptorIndex := 12, attributes := #[] }])
  fields := #[{ name := "DEFAULT_K1", type := .double, accessFlags := 24, slot := 0, constantValue := 0 }, { name := "DEFAULT_B", type := .double, accessFlags := 24, slot := 1, constantValue := 0 }, { name := "k1", type := .double, accessFlags := 18, slot := 0, constantValue := 0 }, { name := "b", type := .double, accessFlags := 18, slot := 1, constantValue := 0 }, { name := "documents", type := .int, accessFlags := 18, slot := 2, constantValue := 0 }, { name := "averageLength", type := .double, accessFlags := 18, slot := 3, constantValue := 0 }]
  methods := #[k2m0, k2m1]
  instanceTypes := #[.double, .double, .int, .double]
  staticTypes := #[.double, .double]
  resolved := Array.replicate 47 none
  statics := none }

def pool3 : Array CpInfo := pool [(1, u "java/lang/Cloneable"), (0, .class_ 1), (0, u "java/lang/Object"), (0, .class_ 3)] 3

/-- java/lang/Cloneable -/
def k3 : Class := { plain "java/lang/Cloneable" (some 0) with
  accessFlags := 1537
  interfaces := #[]
  cf := some (fileOf pool3 2 #[] #[] 1537 4 #[] #[])
  fields := #[]
  methods := #[]
  instanceTypes := #[]
  staticTypes := #[]
  resolved := Array.replicate 8 none
  statics := none }

def pool4 : Array CpInfo := pool [(1, u "java/io/Serializable"), (0, .class_ 1), (0, u "java/lang/Object"), (0, .class_ 3)] 3

/-- java/io/Serializable -/
def k4 : Class := { plain "java/io/Serializable" (some 0) with
  accessFlags := 1537
  interfaces := #[]
  cf := some (fileOf pool4 2 #[] #[] 1537 4 #[] #[])
  fields := #[]
  methods := #[]
  instanceTypes := #[]
  staticTypes := #[]
  resolved := Array.replicate 8 none
  statics := none }

/-- the primitive byte -/
def k5 : Class := { plain "byte" none with kind := .primitive 'B', accessFlags := 0x411 }
/-- [B -/
def k6 : Class := { plain "[B" (some 0) with kind := .array 5 .byte, interfaces := #[3, 4], accessFlags := 1041 }

/-- the primitive int -/
def k7 : Class := { plain "int" none with kind := .primitive 'I', accessFlags := 0x411 }
/-- [I -/
def k8 : Class := { plain "[I" (some 0) with kind := .array 7 .int, interfaces := #[3, 4], accessFlags := 1041 }

def heap : Heap := #[]
def classes : Array Class := #[k0, k1, k2, k3, k4, k5, k6, k7, k8]
def interned : List (Array UInt16 × Addr) := []
def slotsUsed : Nat := 0
def theMethod : MethodId := ⟨1, 1⟩
def args0 : Array Value := #[.int 5, .int 5, .int 5, .int 5]
def aboutOver (below : List Frame) : State where
  vm := { classes := classes, interned := interned.toArray }
  heap := heap
  slotsUsed := slotsUsed
  threads := #[{ frames := .invoking theMethod args0 :: below }]
def below0 : List Frame := [.native { method := ⟨0, 0⟩, args := #[] }]
def about1 : State := aboutOver below0
def p0 : Program := .bare "" "" ""
def e0 : Env := launch0.env 0 0 0
theorem w_frames : about1.frames = Frame.invoking theMethod args0 :: below0 := rfl
set_option maxRecDepth 65536 in
theorem w_args : argsFit about1.vm theMethod args0 = true := by decide +kernel
set_option maxRecDepth 65536 in
theorem w_heap : heapFits about1 = true := by decide +kernel
set_option maxRecDepth 65536 in
theorem w_runnable : about1.curStatus? = some .runnable := by decide +kernel
set_option maxRecDepth 65536 in
theorem w_alone : about1.alone = true := by decide +kernel
set_option maxRecDepth 65536 in
theorem w_named : about1.methodNamed? x = some theMethod := by decide +kernel
set_option maxRecDepth 65536 in
theorem w_hears : about1.hears theMethod below0 = true := by decide +kernel
set_option maxRecDepth 65536 in
theorem w_ripe : about1.ripe theMethod args0 below0 = true := by decide +kernel
theorem w_running : about1.status = .running := rfl
set_option maxRecDepth 65536 in
theorem w_room : about1.hasRoom e0.platform room_1 = true :=
  launch0.hasRoom_least _ room_1 (by decide +kernel) (by decide +kernel) (by decide +kernel) (by decide +kernel) (by decide +kernel) (by decide +kernel)
theorem allAtoms_all (ts : List Jvm.Cond) (a : Array Jvm.Value) (st : Jvm.State) : (allAtoms ts).before a st = ts.all (fun c => c.before a st) := by
  induction ts with
  | nil => rfl
  | cons c t ih =>
    show (Jvm.Cond.and c (allAtoms t)).before a st = _
    rw [Jvm.Cond.before_and, ih, List.all_cons]
def words1 : List Jvm.Cond := Jvm.Cond.code x code maxLocals ret :: tables_1
/-- a 'code' word, met by the world's own term for the bytes: nothing is compared byte by byte -/
theorem code_word {y : MethodName} {bytes : ByteArray} {mx : Nat} {rt : Option FieldType} {a : Array Value} {s : State} {m : MethodId} {meth : Method} {c : Code} (h1 : s.methodNamed? y = some m) (h2 : s.vm.method? m = some meth) (h3 : meth.code = some c) (h4 : c.code = bytes)
    (h5 : (c.maxLocals == mx && c.exceptionTable.isEmpty && decide (c.maxStack ≤ mostOperands) && decide (meth.sig.returnType = rt) && !meth.locks && decide (parseMethodDescriptor y.desc = some meth.sig)) = true) : (Jvm.Cond.code y bytes mx rt).before a s = true := by
  simp only [Bool.and_eq_true, beq_iff_eq, Bool.not_eq_true', decide_eq_true_eq] at h5
  obtain ⟨⟨⟨⟨⟨g1, g2⟩, g3⟩, g4⟩, g5⟩, g6⟩ := h5
  simp [Cond.before, Cond.holds, Cond.value, h1, h2, h3, h4, g1, g2, g3, g4, g5, g6]
def isCode : Jvm.Cond → Bool
  | .code _ _ _ _ => true
  | _ => false
theorem all_split {L : List Jvm.Cond} {P : Jvm.Cond → Bool} (h1 : L.all (fun c => isCode c || P c) = true) (h2 : ∀ c ∈ L.filter isCode, P c = true) : L.all P = true := by
  refine List.all_eq_true.mpr fun c hc => ?_
  have h := List.all_eq_true.mp h1 c hc
  rcases Bool.eq_false_or_eq_true (isCode c) with hi | hi
  · exact h2 c (List.mem_filter.mpr ⟨hc, hi⟩)
  · simpa [hi] using h
set_option maxRecDepth 65536 in
theorem w_c0 : (Jvm.Cond.code x code maxLocals ret).before args0 about1 = true := code_word (m := ⟨1, 1⟩) (meth := k1m1) (c := k1c1) (by decide +kernel) rfl rfl rfl (by decide +kernel)
set_option maxRecDepth 65536 in
theorem w_c1 : (Jvm.Cond.code ({ cls := "com/example/soft_query/softquery/Bm25", name := "<init>", desc := "(DDID)V" } : Jvm.MethodName) prog_1_method_1_code (8 : Nat) (Option.none : Option Jvm.ClassFile.FieldType)).before args0 about1 = true := code_word (m := ⟨2, 0⟩) (meth := k2m0) (c := k2c0) (by decide +kernel) rfl rfl rfl (by decide +kernel)
set_option maxRecDepth 65536 in
theorem w_c2 : (Jvm.Cond.code ({ cls := "java/lang/Object", name := "<init>", desc := "()V" } : Jvm.MethodName) object_method_1_code (1 : Nat) (Option.none : Option Jvm.ClassFile.FieldType)).before args0 about1 = true := code_word (m := ⟨0, 0⟩) (meth := k0m0) (c := k0c0) (by decide +kernel) rfl rfl rfl (by decide +kernel)
set_option maxRecDepth 65536 in
theorem w_c3 : (Jvm.Cond.code ({ cls := "com/example/soft_query/softquery/Bm25", name := "score", desc := "(DDI)D" } : Jvm.MethodName) prog_1_method_3_code (8 : Nat) (Option.some Jvm.ClassFile.FieldType.double)).before args0 about1 = true := code_word (m := ⟨2, 1⟩) (meth := k2m1) (c := k2c1) (by decide +kernel) rfl rfl rfl (by decide +kernel)
def codes1 : List Jvm.Cond := [Jvm.Cond.code x code maxLocals ret, Jvm.Cond.code ({ cls := "com/example/soft_query/softquery/Bm25", name := "<init>", desc := "(DDID)V" } : Jvm.MethodName) prog_1_method_1_code (8 : Nat) (Option.none : Option Jvm.ClassFile.FieldType), Jvm.Cond.code ({ cls := "java/lang/Object", name := "<init>", desc := "()V" } : Jvm.MethodName) object_method_1_code (1 : Nat) (Option.none : Option Jvm.ClassFile.FieldType), Jvm.Cond.code ({ cls := "com/example/soft_query/softquery/Bm25", name := "score", desc := "(DDI)D" } : Jvm.MethodName) prog_1_method_3_code (8 : Nat) (Option.some Jvm.ClassFile.FieldType.double)]
set_option maxRecDepth 65536 in
theorem codes_eq : words1.filter isCode = codes1 := rfl
theorem w_codes : ∀ c ∈ words1.filter isCode, c.before args0 about1 = true := by
  rw [codes_eq]
  intro c hc
  simp only [codes1, List.mem_cons, List.not_mem_nil, or_false] at hc
  rcases hc with rfl | rfl | rfl | rfl
  · exact w_c0
  · exact w_c1
  · exact w_c2
  · exact w_c3
set_option maxRecDepth 65536 in
theorem w_t1 : (words1.take 24).all (fun c => isCode c || c.before args0 about1) = true := by decide +kernel
set_option maxRecDepth 65536 in
theorem w_t2 : (words1.drop 24).all (fun c => isCode c || c.before args0 about1) = true := by decide +kernel
theorem w_tables : (allAtoms (Jvm.Cond.code x code maxLocals ret :: tables_1)).before args0 about1 = true := by
  rw [allAtoms_all]
  show words1.all (fun c => c.before args0 about1) = true
  refine all_split ?_ w_codes
  rw [← List.take_append_drop 24 words1, List.all_append, w_t1, w_t2]
  rfl
set_option maxRecDepth 65536 in
theorem w_case : (Jvm.Cond.and given_1 narrow_1).before args0 about1 = true := by decide +kernel
theorem w_applies : (headSpec (Jvm.Cond.code x code maxLocals ret :: tables_1) room_1).applies x e0.platform about1 = true :=
  (Spec.applies_iff w_frames).mpr ⟨w_running, w_runnable, w_alone, w_named, w_hears, w_ripe, w_room, w_tables⟩
theorem atStart : AtStart classFile x code maxLocals ret World_1 tables_1 room_1 Calls_1 rest_1 Pre_1 launch0 p0 e0 about1 theMethod args0 below0 :=
  ⟨lists_1, trivial, launch0.admits_env _ _ _, launch0.least_env, fairChoices_fair.cas, fairChoices_fair.clock, w_frames, w_args, w_heap, w_applies, trivial, trivial, w_case⟩
end start1
theorem witness_1 : WitnessClaimed_1 := ⟨start1.p0, start1.e0, start1.about1, start1.theMethod, start1.args0, start1.below0, start1.atStart⟩
end Jvm.Pilot.@@N@@
