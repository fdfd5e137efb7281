import JvmDerived
import JvmDerived.Pilot.@@N@@Statement
import JvmDerived.Pilot.@@N@@Code
set_option linter.unusedVariables false
set_option linter.unusedSimpArgs false

namespace Jvm.Sy
open Jvm Jvm.ClassFile Sem Op Lib Jvm.Free Jvm.Stand Jvm.LawKit Jvm.RoadKit Bundle

/-! ## 1. Abstract values, objects, heaps -/
abbrev WKey := String × String × String
abbrev WObj := (FieldType × List Value) ⊕ (String × List (WKey × Value))
abbrev WHp := List WObj
def gv (ρ : Nat → Nat) : Value → Value
  | .ref a => .ref (ρ a)
  | .int x => .int x
  | .long x => .long x
  | .float x => .float x
  | .double x => .double x
  | .null => .null
  | .retAddr q => .retAddr q
def gs (ρ : Nat → Nat) : Slot → Slot
  | .val v => .val (gv ρ v)
  | .unset => .unset
  | .second => .second
def gS (ρ : Nat → Nat) (S : List Value) : List Value := S.map (gv ρ)
def gL (ρ : Nat → Nat) (L : List Slot) : Array Slot := (L.map (gs ρ)).toArray
section Vals
variable {ρ : Nat → Nat} {v : Value} {ty : FieldType}
theorem cat_gv : (gv ρ v).category = v.category := by cases v <;> rfl
theorem isRef_gv : (gv ρ v).isRef = v.isRef := by cases v <;> rfl
theorem fits_gv : fits ty (gv ρ v) = fits ty v := by cases ty <;> cases v <;> rfl
theorem narrow_gv : narrow ty (gv ρ v) = gv ρ (narrow ty v) := by cases ty <;> cases v <;> rfl
theorem dv_gv : gv ρ (defaultValue ty) = defaultValue ty := by cases ty <;> rfl
theorem gv_inj (h : ∀ i j, ρ i = ρ j → i = j) {w : Value} (e : gv ρ v = gv ρ w) : v = w := by
  cases v <;> cases w <;> simp [gv] at e ⊢ <;> first | exact e | exact h _ _ e
theorem sum_gS (S : List Value) : ((gS ρ S).map fun v => v.category).sum = (S.map Value.category).sum := by
  induction S with
  | nil => rfl
  | cons a t ih => simp only [gS, List.map_cons, List.sum_cons, cat_gv] at ih ⊢; rw [ih]
theorem gL_get (L : List Slot) (k : Nat) : (gL ρ L)[k]? = (L[k]?).map (gs ρ) := by simp [gL]
theorem gL_val {L : List Slot} {k : Nat} (h : L[k]? = some (.val v)) : (gL ρ L)[k]? = some (.val (gv ρ v)) := by rw [gL_get, h]; rfl
theorem gL_size (L : List Slot) : (gL ρ L).size = L.length := by simp [gL]
end Vals
def ArrOk (Z : State) (ρ : Nat → Nat) (h : Heap) (a : Addr) (ty : FieldType) (vs : List Value) : Prop :=
  ∃ cl : Cell, Arr Z h a cl ty ∧ cl.slots.toList = vs.map (gv ρ) ∧ (∀ C, ty = .object C → Ovr Z cl.cls C) ∧ ∀ v ∈ vs, fits ty v = true
def ObjOk (Z : State) (ρ : Nat → Nat) (h : Heap) (a : Addr) (C : String) (fs : List (WKey × Value)) : Prop :=
  Exa Z h a C ∧ (∀ (i : Nat) (O n d : String) (v : Value), fs[i]? = some ((O, n, d), v) → Fld Z h a O n d (gv ρ v)) ∧
    ∀ (i j : Nat) (k1 k2 : WKey) (v1 v2 : Value), i ≠ j → fs[i]? = some (k1, v1) → fs[j]? = some (k2, v2) → RoadKit.slotOf Z k1.1 k1.2.1 k1.2.2 ≠ RoadKit.slotOf Z k2.1 k2.2.1 k2.2.2
def CellOk (Z : State) (ρ : Nat → Nat) (h : Heap) (a : Addr) : WObj → Prop
  | .inl q => ArrOk Z ρ h a q.1 q.2
  | .inr q => ObjOk Z ρ h a q.1 q.2
def WDen (Z : State) (ρ : Nat → Nat) (n0 : Nat) (σ : WHp) (h : Heap) : Prop :=
  h.size = n0 + σ.length ∧ σ.length ≤ 1000 ∧ ∀ (k : Nat) (o : WObj), σ[k]? = some o → CellOk Z ρ h (n0 + k) o
section Heaps
variable {Z : State} {ρ : Nat → Nat} {h h' : Heap} {a b : Addr} {o : WObj} {n0 k sl : Nat} {σ : WHp} {v : Value}
theorem CellOk.ext (F : CellOk Z ρ h a o) (E : Ext h h') : CellOk Z ρ h' a o := by
  rcases o with ⟨ty, vs⟩ | ⟨C, fs⟩
  · obtain ⟨cl, A, r⟩ := F; exact ⟨cl, A.ext E, r⟩
  · obtain ⟨F1, F2, F3⟩ := F; exact ⟨F1.ext E, fun i O n d v q => (F2 i O n d v q).ext E, F3⟩
theorem CellOk.other (F : CellOk Z ρ h b o) (W : Wr h h' a sl v) (q : b ≠ a) : CellOk Z ρ h' b o := by
  rcases o with ⟨ty, vs⟩ | ⟨C, fs⟩
  · obtain ⟨cl, A, r⟩ := F; exact ⟨cl, A.other W q, r⟩
  · obtain ⟨F1, F2, F3⟩ := F; exact ⟨F1.wr W, fun i O n d v y => (F2 i O n d v y).other W (Or.inl q), F3⟩
theorem WDen.push (D : WDen Z ρ n0 σ h) (E : Ext h h') (hs : h'.size = h.size + 1) (hl : σ.length < 1000) (F : CellOk Z ρ h' (n0 + σ.length) o) : WDen Z ρ n0 (σ ++ [o]) h' := by
  obtain ⟨D1, D2, D3⟩ := D
  refine ⟨by rw [hs, D1]; simp [Nat.add_assoc], by simp; omega, fun k o' hk => ?_⟩
  by_cases q : k < σ.length
  · rw [List.getElem?_append_left q] at hk; exact (D3 k o' hk).ext E
  · rw [List.getElem?_append_right (by omega)] at hk
    have e : k - σ.length = 0 := by
      rcases Nat.eq_zero_or_pos (k - σ.length) with z | z
      · exact z
      · rw [List.getElem?_eq_none (by simp; omega)] at hk; cases hk
    rw [e] at hk
    cases hk
    have e2 : k = σ.length := by omega
    rw [e2]; exact F
theorem WDen.put (D : WDen Z ρ n0 σ h) (W : Wr h h' (n0 + k) sl v) (F : CellOk Z ρ h' (n0 + k) o) : WDen Z ρ n0 (σ.set k o) h' := by
  obtain ⟨D1, D2, D3⟩ := D
  refine ⟨by rw [W.size, D1]; simp, by simp; exact D2, fun j o' hj => ?_⟩
  by_cases q : j = k
  · subst q
    rw [List.getElem?_set] at hj
    simp only [if_true] at hj
    split at hj
    · cases hj; exact F
    · cases hj
  · rw [List.getElem?_set_ne (Ne.symm q)] at hj
    exact (D3 j o' hj).other W fun e => q (Nat.add_left_cancel e)
theorem WDen.lt (D : WDen Z ρ n0 σ h) (hk : σ[k]? = some o) : k < 1000 := by
  have := (List.getElem?_eq_some_iff.mp hk).1
  have := D.2.1
  omega
theorem ArrOk.size {ty : FieldType} {vs : List Value} {cl : Cell} (e : cl.slots.toList = vs.map (gv ρ)) : cl.slots.size = vs.length := by
  have := congrArg List.length e
  simpa using this
theorem ArrOk.at {vs : List Value} {cl : Cell} (e : cl.slots.toList = vs.map (gv ρ)) {i : Nat} {w : Value} (hw : vs[i]? = some w) : cl.slots[i]? = some (gv ρ w) := by
  rw [← Array.getElem?_toList, e, List.getElem?_map, hw]; rfl
theorem ArrOk.set {ty : FieldType} {vs : List Value} {cl : Cell} (A : Arr Z h a cl ty) (e : cl.slots.toList = vs.map (gv ρ)) (hO : ∀ C, ty = .object C → Ovr Z cl.cls C) (hf : ∀ v ∈ vs, fits ty v = true) {i : Nat} {w : Value} (W : Wr h h' a i (gv ρ w)) (hw : fits ty w = true) : ArrOk Z ρ h' a ty (vs.set i w) := by
  refine ⟨cl.setSlot i (gv ρ w), A.same W, ?_, hO, fun y hy => ?_⟩
  · show (cl.slots.setIfInBounds i (gv ρ w)).toList = _
    rw [Array.toList_setIfInBounds, e, List.map_set]
  · rcases List.mem_or_eq_of_mem_set hy with q | q
    · exact hf y q
    · rw [q]; exact hw
end Heaps
/-! ## 2. A method's walk -/
abbrev WMC := (State × (Nat → Nat) × Nat) × (String × ByteArray × String × Option FieldType × Nat) × (Nat × Nat × Nat × Nat)
abbrev WMC.Z (G : WMC) : State := G.1.1
abbrev WMC.ρ (G : WMC) : Nat → Nat := G.1.2.1
abbrev WMC.n0 (G : WMC) : Nat := G.1.2.2
abbrev WMC.own (G : WMC) : String := G.2.1.1
abbrev WMC.bytes (G : WMC) : ByteArray := G.2.1.2.1
abbrev WMC.nm (G : WMC) : String := G.2.1.2.2.1
abbrev WMC.ret (G : WMC) : Option FieldType := G.2.1.2.2.2.1
abbrev WMC.ml (G : WMC) : Nat := G.2.1.2.2.2.2
abbrev WMC.j0 (G : WMC) : Nat := G.2.2.1
abbrev WMC.u0 (G : WMC) : Nat := G.2.2.2.1
abbrev WMC.fr (G : WMC) : Nat := G.2.2.2.2.1
abbrev WMC.lo (G : WMC) : Nat := G.2.2.2.2.2
abbrev WCfg := Nat × List Slot × List Value × WHp × Nat
def frm (G : WMC) (m : MethodId) (A : WCfg) : JFrame := mkF m A.1 (gL G.ρ A.2.1) (gS G.ρ A.2.2.1)
def WCtx (G : WMC) (p : Program) (R : Room) (s : State) (m : MethodId) (meth : Method) (c : Code) : Prop :=
  p.tables.exec = Jvm.exec ∧ c.code = G.bytes ∧ G.Z.Warmed39 s.vm ∧ s.vm.findClass G.own = some m.cls ∧ meth.name = G.nm ∧ meth.sig.returnType = G.ret ∧ c.maxLocals = G.ml ∧ s.heap.size = G.n0 + G.j0 ∧ (∀ k, k < 1000 → G.ρ k = G.n0 + k) ∧ (∀ i j, G.ρ i = G.ρ j → i = j) ∧ G.fr ≤ R.frames ∧ G.lo ≤ R.locals
def WHere (G : WMC) (p : Program) (l : Launch) (e : Env) (R : Room) (s : State) (m : MethodId) (args : Array Value) (below : List Frame) (meth : Method) (c : Code) (σ : WHp) (u : Nat) (T : State) : Prop :=
  ∃ locs ce sl, σ.length = G.j0 + ce ∧ u = G.u0 + sl ∧ Stand p l e R s m args below meth c T locs ce sl ∧ WDen G.Z G.ρ G.n0 σ T.heap ∧ Fr G.n0 locs
def WStep (G : WMC) (A B : WCfg) : Prop :=
  A.2.2.2.1.length ≤ B.2.2.2.1.length ∧ A.2.2.2.2 ≤ B.2.2.2.2 ∧
  ∀ (p : Program) (l : Launch) (e : Env) (R : Room) (s : State) (m : MethodId) (args : Array Value) (below : List Frame) (meth : Method) (c : Code),
    WCtx G p R s m meth c → B.2.2.2.1.length ≤ G.j0 + R.cells → B.2.2.2.2 ≤ G.u0 + R.slots →
    ∀ T, WHere G p l e R s m args below meth c A.2.2.2.1 A.2.2.2.2 T →
      ∃ T', WHere G p l e R s m args below meth c B.2.2.2.1 B.2.2.2.2 T' ∧
        ∀ target, Steps p.tables e below (T'.setTop (frm G m B)) target → Steps p.tables e below (T.setTop (frm G m A)) target
def WRun (G : WMC) (A : WCfg) (v : Option Value) (σ' : WHp) (u' : Nat) : Prop :=
  A.2.2.2.1.length ≤ σ'.length ∧ A.2.2.2.2 ≤ u' ∧ (G.ret = none → v = none) ∧
  ∀ (p : Program) (l : Launch) (e : Env) (R : Room) (s : State) (m : MethodId) (args : Array Value) (below : List Frame) (meth : Method) (c : Code),
    WCtx G p R s m meth c → σ'.length ≤ G.j0 + R.cells → u' ≤ G.u0 + R.slots →
    ∀ T, WHere G p l e R s m args below meth c A.2.2.2.1 A.2.2.2.2 T →
      ∃ T', WHere G p l e R s m args below meth c σ' u' T' ∧
        ∀ fs, (∀ (f : JFrame) (acts : List Action), f.method = m → f.locked = none → f.entered = [] → (doReturn e (T'.setTop f) acts (v.map (gv G.ρ))).1 = T'.setFrames fs) →
          Steps p.tables e below (T.setTop (frm G m A)) (T'.setFrames fs)
def WGo (G : WMC) (A : WCfg) (Q : Option Value → WHp → Nat → Prop) : Prop := ∃ v σ' u', Q v σ' u' ∧ WRun G A v σ' u'
def AtI (bytes : ByteArray) (pc : Nat) (i : Instr) (len nx : Nat) : Prop := decode bytes pc = .ok (i, len) ∧ pc + len = nx
def AtJ (bytes : ByteArray) (pc : Nat) (f : Int → Instr) (nx tgt : Nat) : Prop := ∃ o : Int, decode bytes pc = .ok (f o, 3) ∧ pc + 3 = nx ∧ 0 ≤ (pc : Int) + o ∧ ((pc : Int) + o).toNat = tgt
section Walk
variable {G : WMC} {A B C : WCfg} {Q Q' : Option Value → WHp → Nat → Prop}
theorem WStep.refl (A : WCfg) : WStep G A A := ⟨Nat.le_refl _, Nat.le_refl _, fun _ _ _ _ _ _ _ _ _ _ _ _ _ T hT => ⟨T, hT, fun _ k => k⟩⟩
theorem WStep.trans (h1 : WStep G A B) (h2 : WStep G B C) : WStep G A C := by
  obtain ⟨a1, a2, a3⟩ := h1
  obtain ⟨b1, b2, b3⟩ := h2
  refine ⟨Nat.le_trans a1 b1, Nat.le_trans a2 b2, fun p l e R s m args below meth c hC hc hs T hT => ?_⟩
  obtain ⟨T1, hT1, k1⟩ := a3 p l e R s m args below meth c hC (Nat.le_trans b1 hc) (Nat.le_trans b2 hs) T hT
  obtain ⟨T2, hT2, k2⟩ := b3 p l e R s m args below meth c hC hc hs T1 hT1
  exact ⟨T2, hT2, fun t k => k1 t (k2 t k)⟩
theorem WRun.s {v : Option Value} {σ' : WHp} {u' : Nat} (h1 : WStep G A B) (h2 : WRun G B v σ' u') : WRun G A v σ' u' := by
  obtain ⟨a1, a2, a3⟩ := h1
  obtain ⟨b1, b2, b0, b3⟩ := h2
  refine ⟨Nat.le_trans a1 b1, Nat.le_trans a2 b2, b0, fun p l e R s m args below meth c hC hc hs T hT => ?_⟩
  obtain ⟨T1, hT1, k1⟩ := a3 p l e R s m args below meth c hC (Nat.le_trans b1 hc) (Nat.le_trans b2 hs) T hT
  obtain ⟨T2, hT2, k2⟩ := b3 p l e R s m args below meth c hC hc hs T1 hT1
  exact ⟨T2, hT2, fun fs h => k1 _ (k2 fs h)⟩
theorem WGo.s (h1 : WStep G A B) (h2 : WGo G B Q) : WGo G A Q := by
  obtain ⟨v, σ', u', q, r⟩ := h2
  exact ⟨v, σ', u', q, r.s h1⟩
theorem WGo.mono (h1 : WGo G A Q) (h : ∀ v σ' u', Q v σ' u' → Q' v σ' u') : WGo G A Q' := by
  obtain ⟨v, σ', u', q, r⟩ := h1
  exact ⟨v, σ', u', h _ _ _ q, r⟩
theorem WGo.cast {A' : WCfg} (h : WGo G A' Q) (e : A = A') : WGo G A Q := e ▸ h
/-- a step that touches neither the heap nor the tables -/
theorem WStep.pure {pc nx : Nat} {L L' : List Slot} {S S' : List Value} {σ : WHp} {u : Nat}
    (h : ∀ {p : Program} {e : Env} {below : List Frame} {T target : State} {m : MethodId} {c : Code}, At T m c below → p.tables.exec = Jvm.exec → c.code = G.bytes → (∀ i j, G.ρ i = G.ρ j → i = j) →
      Steps p.tables e below (T.setTop (mkF m nx (gL G.ρ L') (gS G.ρ S'))) target → Steps p.tables e below (T.setTop (mkF m pc (gL G.ρ L) (gS G.ρ S))) target) :
    WStep G (pc, L, S, σ, u) (nx, L', S', σ, u) := by
  refine ⟨Nat.le_refl _, Nat.le_refl _, fun p l e R s m args below meth c hC hc hs T hT => ⟨T, hT, fun target k => ?_⟩⟩
  obtain ⟨locs, ce, sl, h1, h2, X, D, N⟩ := hT
  exact h X.here hC.1 hC.2.1 hC.2.2.2.2.2.2.2.2.2.1 k
end Walk
end Jvm.Sy
namespace Jvm.Sy
open Jvm Jvm.ClassFile Sem Op Lib Jvm.Free Jvm.Stand Jvm.LawKit Jvm.RoadKit Bundle
section Pure
variable {G : WMC} {pc nx tgt u : Nat} {L L' : List Slot} {S : List Value} {σ : WHp}
theorem WStep.iload {k : Nat} {x : Int32} (d : AtI G.bytes pc (.iload k) 2 nx) (hl : L[k]? = some (.val (.int x))) : WStep G (pc, L, S, σ, u) (nx, L, .int x :: S, σ, u) := by
  obtain ⟨d, rfl⟩ := d
  exact WStep.pure fun hA hx hby _ k => XS.iload hA hx rfl (hb hby d) (gL_val hl) k
theorem WStep.iloadN {k : Fin 4} {x : Int32} (d : AtI G.bytes pc (.iload_n k) 1 nx) (hl : L[k.val]? = some (.val (.int x))) : WStep G (pc, L, S, σ, u) (nx, L, .int x :: S, σ, u) := by
  obtain ⟨d, rfl⟩ := d
  exact WStep.pure fun hA hx hby _ k => XS.iloadN hA hx rfl (hb hby d) (gL_val hl) k
theorem WStep.lload {k : Nat} {x : Int64} (d : AtI G.bytes pc (.lload k) 2 nx) (hl : L[k]? = some (.val (.long x))) : WStep G (pc, L, S, σ, u) (nx, L, .long x :: S, σ, u) := by
  obtain ⟨d, rfl⟩ := d
  exact WStep.pure fun hA hx hby _ k => XS.lload hA hx rfl (hb hby d) (gL_val hl) k
theorem WStep.lloadN {k : Fin 4} {x : Int64} (d : AtI G.bytes pc (.lload_n k) 1 nx) (hl : L[k.val]? = some (.val (.long x))) : WStep G (pc, L, S, σ, u) (nx, L, .long x :: S, σ, u) := by
  obtain ⟨d, rfl⟩ := d
  exact WStep.pure fun hA hx hby _ k => XS.lloadN hA hx rfl (hb hby d) (gL_val hl) k
theorem WStep.aload {k : Nat} {x : Value} (d : AtI G.bytes pc (.aload k) 2 nx) (hl : L[k]? = some (.val x)) (hr : x.isRef = true) : WStep G (pc, L, S, σ, u) (nx, L, x :: S, σ, u) := by
  obtain ⟨d, rfl⟩ := d
  exact WStep.pure fun hA hx hby _ k => XS.aload hA hx rfl (hb hby d) (gL_val hl) (isRef_gv.trans hr) k
theorem WStep.aloadN {k : Fin 4} {x : Value} (d : AtI G.bytes pc (.aload_n k) 1 nx) (hl : L[k.val]? = some (.val x)) (hr : x.isRef = true) : WStep G (pc, L, S, σ, u) (nx, L, x :: S, σ, u) := by
  obtain ⟨d, rfl⟩ := d
  exact WStep.pure fun hA hx hby _ k => XS.aloadN hA hx rfl (hb hby d) (gL_val hl) (isRef_gv.trans hr) k
theorem WStep.istore {k : Nat} {x : Int32} (d : AtI G.bytes pc (.istore k) 2 nx) (hl : storeLocals (gL G.ρ L) k (.int x) = some (gL G.ρ L')) : WStep G (pc, L, .int x :: S, σ, u) (nx, L', S, σ, u) := by
  obtain ⟨d, rfl⟩ := d
  exact WStep.pure fun hA hx hby _ k => XS.istore hA hx rfl (hb hby d) rfl hl k
theorem WStep.istoreN {k : Fin 4} {x : Int32} (d : AtI G.bytes pc (.istore_n k) 1 nx) (hl : storeLocals (gL G.ρ L) k.val (.int x) = some (gL G.ρ L')) : WStep G (pc, L, .int x :: S, σ, u) (nx, L', S, σ, u) := by
  obtain ⟨d, rfl⟩ := d
  exact WStep.pure fun hA hx hby _ k => XS.istoreN hA hx rfl (hb hby d) rfl hl k
theorem WStep.lstore {k : Nat} {x : Int64} (d : AtI G.bytes pc (.lstore k) 2 nx) (hl : storeLocals (gL G.ρ L) k (.long x) = some (gL G.ρ L')) : WStep G (pc, L, .long x :: S, σ, u) (nx, L', S, σ, u) := by
  obtain ⟨d, rfl⟩ := d
  exact WStep.pure fun hA hx hby _ k => XS.lstore hA hx rfl (hb hby d) rfl hl k
theorem WStep.lstoreN {k : Fin 4} {x : Int64} (d : AtI G.bytes pc (.lstore_n k) 1 nx) (hl : storeLocals (gL G.ρ L) k.val (.long x) = some (gL G.ρ L')) : WStep G (pc, L, .long x :: S, σ, u) (nx, L', S, σ, u) := by
  obtain ⟨d, rfl⟩ := d
  exact WStep.pure fun hA hx hby _ k => XS.lstoreN hA hx rfl (hb hby d) rfl hl k
theorem WStep.astore {k : Nat} {x : Value} (d : AtI G.bytes pc (.astore k) 2 nx) (hr : x.isRef = true) (hl : storeLocals (gL G.ρ L) k (gv G.ρ x) = some (gL G.ρ L')) : WStep G (pc, L, x :: S, σ, u) (nx, L', S, σ, u) := by
  obtain ⟨d, rfl⟩ := d
  exact WStep.pure fun hA hx hby _ k => XS.astore hA hx rfl (hb hby d) rfl (isRef_gv.trans hr) hl k
theorem WStep.astoreN {k : Fin 4} {x : Value} (d : AtI G.bytes pc (.astore_n k) 1 nx) (hr : x.isRef = true) (hl : storeLocals (gL G.ρ L) k.val (gv G.ρ x) = some (gL G.ρ L')) : WStep G (pc, L, x :: S, σ, u) (nx, L', S, σ, u) := by
  obtain ⟨d, rfl⟩ := d
  exact WStep.pure fun hA hx hby _ k => XS.astoreN hA hx rfl (hb hby d) rfl (isRef_gv.trans hr) hl k
theorem WStep.iinc {k : Nat} {cst : Int} {x : Int32} (d : AtI G.bytes pc (.iinc k cst) 3 nx) (hl : L[k]? = some (.val (.int x))) (hl' : storeLocals (gL G.ρ L) k (.int (x + Int32.ofInt cst)) = some (gL G.ρ L')) : WStep G (pc, L, S, σ, u) (nx, L', S, σ, u) := by
  obtain ⟨d, rfl⟩ := d
  exact WStep.pure fun hA hx hby _ k => XS.iinc hA hx rfl (hb hby d) (gL_val hl) hl' k
theorem WStep.iconst {i : Int} (z : Int32) (d : AtI G.bytes pc (.iconst i) 1 nx) (hz : Int32.ofInt i = z) : WStep G (pc, L, S, σ, u) (nx, L, .int z :: S, σ, u) := by
  obtain ⟨d, rfl⟩ := d
  exact WStep.pure fun hA hx hby _ k => by subst hz; exact XS.iconst hA hx rfl (hb hby d) k
theorem WStep.bipush {i : Int} (z : Int32) (d : AtI G.bytes pc (.bipush i) 2 nx) (hz : (Int8.ofInt i).toInt32 = z) : WStep G (pc, L, S, σ, u) (nx, L, .int z :: S, σ, u) := by
  obtain ⟨d, rfl⟩ := d
  exact WStep.pure fun hA hx hby _ k => by subst hz; exact XS.bipush hA hx rfl (hb hby d) k
theorem WStep.sipush {i : Int} (z : Int32) (d : AtI G.bytes pc (.sipush i) 3 nx) (hz : (Int16.ofInt i).toInt32 = z) : WStep G (pc, L, S, σ, u) (nx, L, .int z :: S, σ, u) := by
  obtain ⟨d, rfl⟩ := d
  exact WStep.pure fun hA hx hby _ k => by subst hz; exact XS.sipush hA hx rfl (hb hby d) k
theorem WStep.lconst {i : Fin 2} (z : Int64) (d : AtI G.bytes pc (.lconst i) 1 nx) (hz : Int64.ofNat i = z) : WStep G (pc, L, S, σ, u) (nx, L, .long z :: S, σ, u) := by
  obtain ⟨d, rfl⟩ := d
  exact WStep.pure fun hA hx hby _ k => by subst hz; exact XS.lconst hA hx rfl (hb hby d) k
theorem WStep.aconstNull (d : AtI G.bytes pc .aconst_null 1 nx) : WStep G (pc, L, S, σ, u) (nx, L, .null :: S, σ, u) := by
  obtain ⟨d, rfl⟩ := d
  exact WStep.pure fun hA hx hby _ k => XS.aconstNull hA hx rfl (hb hby d) k
theorem WStep.iadd {x y : Int32} (d : AtI G.bytes pc .iadd 1 nx) : WStep G (pc, L, .int y :: .int x :: S, σ, u) (nx, L, .int (x + y) :: S, σ, u) := by
  obtain ⟨d, rfl⟩ := d
  exact WStep.pure fun hA hx hby _ k => XS.iadd hA hx rfl (hb hby d) rfl k
theorem WStep.isub {x y : Int32} (d : AtI G.bytes pc .isub 1 nx) : WStep G (pc, L, .int y :: .int x :: S, σ, u) (nx, L, .int (x - y) :: S, σ, u) := by
  obtain ⟨d, rfl⟩ := d
  exact WStep.pure fun hA hx hby _ k => XS.isub hA hx rfl (hb hby d) rfl k
theorem WStep.imul {x y : Int32} (d : AtI G.bytes pc .imul 1 nx) : WStep G (pc, L, .int y :: .int x :: S, σ, u) (nx, L, .int (x * y) :: S, σ, u) := by
  obtain ⟨d, rfl⟩ := d
  exact WStep.pure fun hA hx hby _ k => XS.imul hA hx rfl (hb hby d) rfl k
theorem WStep.iand {x y : Int32} (d : AtI G.bytes pc .iand 1 nx) : WStep G (pc, L, .int y :: .int x :: S, σ, u) (nx, L, .int (x &&& y) :: S, σ, u) := by
  obtain ⟨d, rfl⟩ := d
  exact WStep.pure fun hA hx hby _ k => XS.iand hA hx rfl (hb hby d) rfl k
theorem WStep.ior {x y : Int32} (d : AtI G.bytes pc .ior 1 nx) : WStep G (pc, L, .int y :: .int x :: S, σ, u) (nx, L, .int (x ||| y) :: S, σ, u) := by
  obtain ⟨d, rfl⟩ := d
  exact WStep.pure fun hA hx hby _ k => XS.ior hA hx rfl (hb hby d) rfl k
theorem WStep.ixor {x y : Int32} (d : AtI G.bytes pc .ixor 1 nx) : WStep G (pc, L, .int y :: .int x :: S, σ, u) (nx, L, .int (x ^^^ y) :: S, σ, u) := by
  obtain ⟨d, rfl⟩ := d
  exact WStep.pure fun hA hx hby _ k => XS.ixor hA hx rfl (hb hby d) rfl k
theorem WStep.idiv {x y : Int32} (d : AtI G.bytes pc .idiv 1 nx) (hy : y ≠ 0) : WStep G (pc, L, .int y :: .int x :: S, σ, u) (nx, L, .int (x / y) :: S, σ, u) := by
  obtain ⟨d, rfl⟩ := d
  exact WStep.pure fun hA hx hby _ k => XS.idiv hA hx rfl (hb hby d) rfl hy k
theorem WStep.ineg {x : Int32} (d : AtI G.bytes pc .ineg 1 nx) : WStep G (pc, L, .int x :: S, σ, u) (nx, L, .int (-x) :: S, σ, u) := by
  obtain ⟨d, rfl⟩ := d
  exact WStep.pure fun hA hx hby _ k => XS.ineg hA hx rfl (hb hby d) rfl k
theorem WStep.ladd {x y : Int64} (d : AtI G.bytes pc .ladd 1 nx) : WStep G (pc, L, .long y :: .long x :: S, σ, u) (nx, L, .long (x + y) :: S, σ, u) := by
  obtain ⟨d, rfl⟩ := d
  exact WStep.pure fun hA hx hby _ k => XS.ladd hA hx rfl (hb hby d) rfl k
theorem WStep.lsub {x y : Int64} (d : AtI G.bytes pc .lsub 1 nx) : WStep G (pc, L, .long y :: .long x :: S, σ, u) (nx, L, .long (x - y) :: S, σ, u) := by
  obtain ⟨d, rfl⟩ := d
  exact WStep.pure fun hA hx hby _ k => XS.lsub hA hx rfl (hb hby d) rfl k
theorem WStep.lmul {x y : Int64} (d : AtI G.bytes pc .lmul 1 nx) : WStep G (pc, L, .long y :: .long x :: S, σ, u) (nx, L, .long (x * y) :: S, σ, u) := by
  obtain ⟨d, rfl⟩ := d
  exact WStep.pure fun hA hx hby _ k => XS.lmul hA hx rfl (hb hby d) rfl k
theorem WStep.land {x y : Int64} (d : AtI G.bytes pc .land 1 nx) : WStep G (pc, L, .long y :: .long x :: S, σ, u) (nx, L, .long (x &&& y) :: S, σ, u) := by
  obtain ⟨d, rfl⟩ := d
  exact WStep.pure fun hA hx hby _ k => XS.land hA hx rfl (hb hby d) rfl k
theorem WStep.lor {x y : Int64} (d : AtI G.bytes pc .lor 1 nx) : WStep G (pc, L, .long y :: .long x :: S, σ, u) (nx, L, .long (x ||| y) :: S, σ, u) := by
  obtain ⟨d, rfl⟩ := d
  exact WStep.pure fun hA hx hby _ k => XS.lor hA hx rfl (hb hby d) rfl k
theorem WStep.lxor {x y : Int64} (d : AtI G.bytes pc .lxor 1 nx) : WStep G (pc, L, .long y :: .long x :: S, σ, u) (nx, L, .long (x ^^^ y) :: S, σ, u) := by
  obtain ⟨d, rfl⟩ := d
  exact WStep.pure fun hA hx hby _ k => XS.lxor hA hx rfl (hb hby d) rfl k
theorem WStep.ldiv {x y : Int64} (d : AtI G.bytes pc .ldiv 1 nx) (hy : y ≠ 0) : WStep G (pc, L, .long y :: .long x :: S, σ, u) (nx, L, .long (x / y) :: S, σ, u) := by
  obtain ⟨d, rfl⟩ := d
  exact WStep.pure fun hA hx hby _ k => XS.ldiv hA hx rfl (hb hby d) rfl hy k
theorem WStep.lneg {x : Int64} (d : AtI G.bytes pc .lneg 1 nx) : WStep G (pc, L, .long x :: S, σ, u) (nx, L, .long (-x) :: S, σ, u) := by
  obtain ⟨d, rfl⟩ := d
  exact WStep.pure fun hA hx hby _ k => XS.lneg hA hx rfl (hb hby d) rfl k
theorem WStep.irem {x y : Int32} (d : AtI G.bytes pc .irem 1 nx) (hy : y ≠ 0) : WStep G (pc, L, .int y :: .int x :: S, σ, u) (nx, L, .int (x % y) :: S, σ, u) := by
  obtain ⟨d, rfl⟩ := d
  have q : x - x / y * y = x % y := irem_eq_mod x y
  exact WStep.pure fun hA hx hby _ k => XS.irem hA hx rfl (hb hby d) rfl hy (by rw [q]; exact k)
theorem WStep.lrem {x y : Int64} (d : AtI G.bytes pc .lrem 1 nx) (hy : y ≠ 0) : WStep G (pc, L, .long y :: .long x :: S, σ, u) (nx, L, .long (x % y) :: S, σ, u) := by
  obtain ⟨d, rfl⟩ := d
  have q : x - x / y * y = x % y := lrem_mod x y
  exact WStep.pure fun hA hx hby _ k => XS.lrem hA hx rfl (hb hby d) rfl hy (by rw [q]; exact k)
theorem WStep.ishl {x : Int32} {y : Int32} (d : AtI G.bytes pc .ishl 1 nx) : WStep G (pc, L, .int y :: .int x :: S, σ, u) (nx, L, .int (x <<< (y &&& 31)) :: S, σ, u) := by
  obtain ⟨d, rfl⟩ := d
  exact WStep.pure fun hA hx hby _ k => XS.ishl hA hx rfl (hb hby d) rfl k
theorem WStep.ishr {x : Int32} {y : Int32} (d : AtI G.bytes pc .ishr 1 nx) : WStep G (pc, L, .int y :: .int x :: S, σ, u) (nx, L, .int (x >>> (y &&& 31)) :: S, σ, u) := by
  obtain ⟨d, rfl⟩ := d
  exact WStep.pure fun hA hx hby _ k => XS.ishr hA hx rfl (hb hby d) rfl k
theorem WStep.iushr {x : Int32} {y : Int32} (d : AtI G.bytes pc .iushr 1 nx) : WStep G (pc, L, .int y :: .int x :: S, σ, u) (nx, L, .int ((x.toUInt32 >>> (y &&& 31).toUInt32).toInt32) :: S, σ, u) := by
  obtain ⟨d, rfl⟩ := d
  exact WStep.pure fun hA hx hby _ k => XS.iushr hA hx rfl (hb hby d) rfl k
theorem WStep.lshl {x : Int64} {y : Int32} (d : AtI G.bytes pc .lshl 1 nx) : WStep G (pc, L, .int y :: .long x :: S, σ, u) (nx, L, .long (x <<< (y &&& 0x3f).toInt64) :: S, σ, u) := by
  obtain ⟨d, rfl⟩ := d
  exact WStep.pure fun hA hx hby _ k => XS.lshl hA hx rfl (hb hby d) rfl k
theorem WStep.lshr {x : Int64} {y : Int32} (d : AtI G.bytes pc .lshr 1 nx) : WStep G (pc, L, .int y :: .long x :: S, σ, u) (nx, L, .long (x >>> (y &&& 0x3f).toInt64) :: S, σ, u) := by
  obtain ⟨d, rfl⟩ := d
  exact WStep.pure fun hA hx hby _ k => XS.lshr hA hx rfl (hb hby d) rfl k
theorem WStep.lushr {x : Int64} {y : Int32} (d : AtI G.bytes pc .lushr 1 nx) : WStep G (pc, L, .int y :: .long x :: S, σ, u) (nx, L, .long ((x.toUInt64 >>> (y &&& 0x3f).toInt64.toUInt64).toInt64) :: S, σ, u) := by
  obtain ⟨d, rfl⟩ := d
  exact WStep.pure fun hA hx hby _ k => XS.lushr hA hx rfl (hb hby d) rfl k
theorem WStep.i2l {x : Int32} (d : AtI G.bytes pc .i2l 1 nx) : WStep G (pc, L, .int x :: S, σ, u) (nx, L, .long (x.toInt64) :: S, σ, u) := by
  obtain ⟨d, rfl⟩ := d
  exact WStep.pure fun hA hx hby _ k => XS.i2l hA hx rfl (hb hby d) rfl k
theorem WStep.l2i {x : Int64} (d : AtI G.bytes pc .l2i 1 nx) : WStep G (pc, L, .long x :: S, σ, u) (nx, L, .int (x.toInt32) :: S, σ, u) := by
  obtain ⟨d, rfl⟩ := d
  exact WStep.pure fun hA hx hby _ k => XS.l2i hA hx rfl (hb hby d) rfl k
theorem WStep.i2b {x : Int32} (d : AtI G.bytes pc .i2b 1 nx) : WStep G (pc, L, .int x :: S, σ, u) (nx, L, .int (x.toInt8.toInt32) :: S, σ, u) := by
  obtain ⟨d, rfl⟩ := d
  exact WStep.pure fun hA hx hby _ k => XS.i2b hA hx rfl (hb hby d) rfl k
theorem WStep.i2s {x : Int32} (d : AtI G.bytes pc .i2s 1 nx) : WStep G (pc, L, .int x :: S, σ, u) (nx, L, .int (x.toInt16.toInt32) :: S, σ, u) := by
  obtain ⟨d, rfl⟩ := d
  exact WStep.pure fun hA hx hby _ k => XS.i2s hA hx rfl (hb hby d) rfl k
theorem WStep.i2c {x : Int32} (d : AtI G.bytes pc .i2c 1 nx) : WStep G (pc, L, .int x :: S, σ, u) (nx, L, .int (x.toUInt32.toUInt16.toUInt32.toInt32) :: S, σ, u) := by
  obtain ⟨d, rfl⟩ := d
  exact WStep.pure fun hA hx hby _ k => XS.i2c hA hx rfl (hb hby d) rfl k
theorem WStep.lcmp {x y : Int64} (d : AtI G.bytes pc .lcmp 1 nx) : WStep G (pc, L, .long y :: .long x :: S, σ, u) (nx, L, .int (lcmpW x y) :: S, σ, u) := by
  obtain ⟨d, rfl⟩ := d
  exact WStep.pure fun hA hx hby _ k => XS.lcmp hA hx rfl (hb hby d) rfl k
theorem WStep.dup {x : Value} (d : AtI G.bytes pc .dup 1 nx) (hc : x.category = 1) : WStep G (pc, L, x :: S, σ, u) (nx, L, x :: x :: S, σ, u) := by
  obtain ⟨d, rfl⟩ := d
  exact WStep.pure fun hA hx hby _ k => XS.dup hA hx rfl (hb hby d) rfl (cat_gv.trans hc) k
theorem WStep.pop {x : Value} (d : AtI G.bytes pc .pop 1 nx) (hc : x.category = 1) : WStep G (pc, L, x :: S, σ, u) (nx, L, S, σ, u) := by
  obtain ⟨d, rfl⟩ := d
  exact WStep.pure fun hA hx hby _ k => XS.pop hA hx rfl (hb hby d) rfl (cat_gv.trans hc) k
theorem WStep.dupX1 {x y : Value} (d : AtI G.bytes pc .dup_x1 1 nx) (hc : x.category = 1) (hc' : y.category = 1) : WStep G (pc, L, x :: y :: S, σ, u) (nx, L, x :: y :: x :: S, σ, u) := by
  obtain ⟨d, rfl⟩ := d
  exact WStep.pure fun hA hx hby _ k => XS.dupX1 hA hx rfl (hb hby d) rfl (cat_gv.trans hc) (cat_gv.trans hc') k
theorem WStep.dup2 {x y : Value} (d : AtI G.bytes pc .dup2 1 nx) (hc : x.category = 1) (hc' : y.category = 1) : WStep G (pc, L, x :: y :: S, σ, u) (nx, L, x :: y :: x :: y :: S, σ, u) := by
  obtain ⟨d, rfl⟩ := d
  exact WStep.pure fun hA hx hby _ k => XT.dup2 hA hx rfl (hb hby d) rfl (cat_gv.trans hc) (cat_gv.trans hc') k
theorem WStep.dup2L {x : Int64} (d : AtI G.bytes pc .dup2 1 nx) : WStep G (pc, L, .long x :: S, σ, u) (nx, L, .long x :: .long x :: S, σ, u) := by
  obtain ⟨d, rfl⟩ := d
  exact WStep.pure fun hA hx hby _ k => XT.dup2L hA hx rfl (hb hby d) rfl k
theorem WStep.dupX2 {x y z : Value} (d : AtI G.bytes pc .dup_x2 1 nx) (hc1 : x.category = 1) (hc2 : y.category = 1) (hc3 : z.category = 1) : WStep G (pc, L, x :: y :: z :: S, σ, u) (nx, L, x :: y :: z :: x :: S, σ, u) := by
  obtain ⟨d, rfl⟩ := d
  refine WStep.pure fun {p e below T target m c} hA hx hby _ k => ?_
  have hd : decode c.code pc = .ok (.dup_x2, 1) := hb hby d
  have e1 : (gv G.ρ x).category = 1 := cat_gv.trans hc1
  have e2 : (gv G.ρ y).category = 1 := cat_gv.trans hc2
  have e3 : (gv G.ρ z).category = 1 := cat_gv.trans hc3
  show Steps p.tables e below (T.setTop (mkF m pc (gL G.ρ L) (gv G.ρ x :: gv G.ρ y :: gv G.ρ z :: gS G.ρ S))) target
  have kk : Steps p.tables e below (T.setTop (mkF m (pc + 1) (gL G.ρ L) (gv G.ρ x :: gv G.ρ y :: gv G.ρ z :: gv G.ρ x :: gS G.ρ S))) target := k
  jvm_step hA [hA.top, hx, hd, e1, e2, e3]
  exact kk
theorem WStep.goto (d : AtJ G.bytes pc .goto nx tgt) : WStep G (pc, L, S, σ, u) (tgt, L, S, σ, u) := by
  obtain ⟨o, d, rfl, h0, h1⟩ := d
  exact WStep.pure fun hA hx hby _ k => XS.goto hA hx rfl (pc0 := pc) (pc' := tgt) rfl (hb hby d) h0 h1 k
theorem WStep.icmpT {cd : ClassFile.Cond} {x y : Int32} (d : AtJ G.bytes pc (.if_icmp cd) nx tgt) (h : if_icmp.holds cd x y = true) : WStep G (pc, L, .int y :: .int x :: S, σ, u) (tgt, L, S, σ, u) := by
  obtain ⟨o, d, rfl, h0, h1⟩ := d
  exact WStep.pure fun hA hx hby _ k => XS.icmpYes hA hx rfl (pc0 := pc) (pc' := tgt) rfl (hb hby d) rfl h h0 h1 k
theorem WStep.icmpF {cd : ClassFile.Cond} {x y : Int32} (d : AtJ G.bytes pc (.if_icmp cd) nx tgt) (h : if_icmp.holds cd x y = false) : WStep G (pc, L, .int y :: .int x :: S, σ, u) (nx, L, S, σ, u) := by
  obtain ⟨o, d, rfl, h0, h1⟩ := d
  exact WStep.pure fun hA hx hby _ k => XS.icmpNo hA hx rfl (hb hby d) rfl h k
theorem WStep.ifT {cd : ClassFile.Cond} {x : Int32} (d : AtJ G.bytes pc (.ifCond cd) nx tgt) (h : if_icmp.holds cd x 0 = true) : WStep G (pc, L, .int x :: S, σ, u) (tgt, L, S, σ, u) := by
  obtain ⟨o, d, rfl, h0, h1⟩ := d
  exact WStep.pure fun hA hx hby _ k => XS.ifYes hA hx rfl (pc0 := pc) (pc' := tgt) rfl (hb hby d) rfl ((if0 _ _).trans h) h0 h1 k
theorem WStep.ifF {cd : ClassFile.Cond} {x : Int32} (d : AtJ G.bytes pc (.ifCond cd) nx tgt) (h : if_icmp.holds cd x 0 = false) : WStep G (pc, L, .int x :: S, σ, u) (nx, L, S, σ, u) := by
  obtain ⟨o, d, rfl, h0, h1⟩ := d
  exact WStep.pure fun hA hx hby _ k => XS.ifNo hA hx rfl (hb hby d) rfl ((if0 _ _).trans h) k
theorem WStep.nullT (d : AtJ G.bytes pc .ifnull nx tgt) : WStep G (pc, L, .null :: S, σ, u) (tgt, L, S, σ, u) := by
  obtain ⟨o, d, rfl, h0, h1⟩ := d
  exact WStep.pure fun hA hx hby _ k => XS.ifnullYes hA hx rfl (pc0 := pc) (pc' := tgt) rfl (hb hby d) rfl h0 h1 k
theorem WStep.nullF {a : Addr} (d : AtJ G.bytes pc .ifnull nx tgt) : WStep G (pc, L, .ref a :: S, σ, u) (nx, L, S, σ, u) := by
  obtain ⟨o, d, rfl, h0, h1⟩ := d
  exact WStep.pure fun hA hx hby _ k => XS.ifnullNo hA hx rfl (hb hby d) rfl k
theorem WStep.nonnullT {a : Addr} (d : AtJ G.bytes pc .ifnonnull nx tgt) : WStep G (pc, L, .ref a :: S, σ, u) (tgt, L, S, σ, u) := by
  obtain ⟨o, d, rfl, h0, h1⟩ := d
  exact WStep.pure fun hA hx hby _ k => XS.ifnonnullYes hA hx rfl (pc0 := pc) (pc' := tgt) rfl (hb hby d) rfl h0 h1 k
theorem WStep.nonnullF (d : AtJ G.bytes pc .ifnonnull nx tgt) : WStep G (pc, L, .null :: S, σ, u) (nx, L, S, σ, u) := by
  obtain ⟨o, d, rfl, h0, h1⟩ := d
  exact WStep.pure fun hA hx hby _ k => XS.ifnonnullNo hA hx rfl (hb hby d) rfl k
end Pure
section Forks
variable {G : WMC} {pc nx tgt u : Nat} {L : List Slot} {S : List Value} {σ : WHp} {Q : Option Value → WHp → Nat → Prop}
theorem WGo.lt {x y : Int32} (d : AtJ G.bytes pc (.if_icmp .lt) nx tgt) (h1 : x < y → WGo G (tgt, L, S, σ, u) Q) (h2 : ¬ x < y → WGo G (nx, L, S, σ, u) Q) : WGo G (pc, L, .int y :: .int x :: S, σ, u) Q := by
  by_cases h : x < y
  · exact (h1 h).s (WStep.icmpT d (tlt h).1)
  · exact (h2 h).s (WStep.icmpF d (flt h).1)
theorem WGo.lt0 {x : Int32} (d : AtJ G.bytes pc (.ifCond .lt) nx tgt) (h1 : x < 0 → WGo G (tgt, L, S, σ, u) Q) (h2 : ¬ x < 0 → WGo G (nx, L, S, σ, u) Q) : WGo G (pc, L, .int x :: S, σ, u) Q := by
  by_cases h : x < 0
  · exact (h1 h).s (WStep.ifT d (tlt h).1)
  · exact (h2 h).s (WStep.ifF d (flt h).1)
theorem WGo.ltL {x y : Int64} (d : AtJ G.bytes pc (.ifCond .lt) nx tgt) (h1 : x < y → WGo G (tgt, L, S, σ, u) Q) (h2 : ¬ x < y → WGo G (nx, L, S, σ, u) Q) : WGo G (pc, L, .int (lcmpW x y) :: S, σ, u) Q := by
  exact WGo.lt0 d (fun h => h1 ((lw_lt x y).mp h)) (fun h => h2 fun q => h ((lw_lt x y).mpr q))
theorem WGo.ge {x y : Int32} (d : AtJ G.bytes pc (.if_icmp .ge) nx tgt) (h1 : ¬ x < y → WGo G (tgt, L, S, σ, u) Q) (h2 : x < y → WGo G (nx, L, S, σ, u) Q) : WGo G (pc, L, .int y :: .int x :: S, σ, u) Q := by
  by_cases h : x < y
  · exact (h2 h).s (WStep.icmpF d (tlt h).2.1)
  · exact (h1 h).s (WStep.icmpT d (flt h).2.1)
theorem WGo.ge0 {x : Int32} (d : AtJ G.bytes pc (.ifCond .ge) nx tgt) (h1 : ¬ x < 0 → WGo G (tgt, L, S, σ, u) Q) (h2 : x < 0 → WGo G (nx, L, S, σ, u) Q) : WGo G (pc, L, .int x :: S, σ, u) Q := by
  by_cases h : x < 0
  · exact (h2 h).s (WStep.ifF d (tlt h).2.1)
  · exact (h1 h).s (WStep.ifT d (flt h).2.1)
theorem WGo.geL {x y : Int64} (d : AtJ G.bytes pc (.ifCond .ge) nx tgt) (h1 : ¬ x < y → WGo G (tgt, L, S, σ, u) Q) (h2 : x < y → WGo G (nx, L, S, σ, u) Q) : WGo G (pc, L, .int (lcmpW x y) :: S, σ, u) Q := by
  exact WGo.ge0 d (fun h => h1 fun q => h ((lw_lt x y).mpr q)) (fun h => h2 ((lw_lt x y).mp h))
theorem WGo.gt {x y : Int32} (d : AtJ G.bytes pc (.if_icmp .gt) nx tgt) (h1 : y < x → WGo G (tgt, L, S, σ, u) Q) (h2 : ¬ y < x → WGo G (nx, L, S, σ, u) Q) : WGo G (pc, L, .int y :: .int x :: S, σ, u) Q := by
  by_cases h : y < x
  · exact (h1 h).s (WStep.icmpT d (tlt h).2.2.1)
  · exact (h2 h).s (WStep.icmpF d (flt h).2.2.1)
theorem WGo.gt0 {x : Int32} (d : AtJ G.bytes pc (.ifCond .gt) nx tgt) (h1 : 0 < x → WGo G (tgt, L, S, σ, u) Q) (h2 : ¬ 0 < x → WGo G (nx, L, S, σ, u) Q) : WGo G (pc, L, .int x :: S, σ, u) Q := by
  by_cases h : 0 < x
  · exact (h1 h).s (WStep.ifT d (tlt h).2.2.1)
  · exact (h2 h).s (WStep.ifF d (flt h).2.2.1)
theorem WGo.gtL {x y : Int64} (d : AtJ G.bytes pc (.ifCond .gt) nx tgt) (h1 : y < x → WGo G (tgt, L, S, σ, u) Q) (h2 : ¬ y < x → WGo G (nx, L, S, σ, u) Q) : WGo G (pc, L, .int (lcmpW x y) :: S, σ, u) Q := by
  exact WGo.gt0 d (fun h => h1 ((lw_gt x y).mp h)) (fun h => h2 fun q => h ((lw_gt x y).mpr q))
theorem WGo.le {x y : Int32} (d : AtJ G.bytes pc (.if_icmp .le) nx tgt) (h1 : ¬ y < x → WGo G (tgt, L, S, σ, u) Q) (h2 : y < x → WGo G (nx, L, S, σ, u) Q) : WGo G (pc, L, .int y :: .int x :: S, σ, u) Q := by
  by_cases h : y < x
  · exact (h2 h).s (WStep.icmpF d (tlt h).2.2.2)
  · exact (h1 h).s (WStep.icmpT d (flt h).2.2.2)
theorem WGo.le0 {x : Int32} (d : AtJ G.bytes pc (.ifCond .le) nx tgt) (h1 : ¬ 0 < x → WGo G (tgt, L, S, σ, u) Q) (h2 : 0 < x → WGo G (nx, L, S, σ, u) Q) : WGo G (pc, L, .int x :: S, σ, u) Q := by
  by_cases h : 0 < x
  · exact (h2 h).s (WStep.ifF d (tlt h).2.2.2)
  · exact (h1 h).s (WStep.ifT d (flt h).2.2.2)
theorem WGo.leL {x y : Int64} (d : AtJ G.bytes pc (.ifCond .le) nx tgt) (h1 : ¬ y < x → WGo G (tgt, L, S, σ, u) Q) (h2 : y < x → WGo G (nx, L, S, σ, u) Q) : WGo G (pc, L, .int (lcmpW x y) :: S, σ, u) Q := by
  exact WGo.le0 d (fun h => h1 fun q => h ((lw_gt x y).mpr q)) (fun h => h2 ((lw_gt x y).mp h))
theorem WGo.eq {x y : Int32} (d : AtJ G.bytes pc (.if_icmp .eq) nx tgt) (h1 : x = y → WGo G (tgt, L, S, σ, u) Q) (h2 : ¬ x = y → WGo G (nx, L, S, σ, u) Q) : WGo G (pc, L, .int y :: .int x :: S, σ, u) Q := by
  by_cases h : x = y
  · exact (h1 h).s (WStep.icmpT d (teq h).1)
  · exact (h2 h).s (WStep.icmpF d (feq h).1)
theorem WGo.eq0 {x : Int32} (d : AtJ G.bytes pc (.ifCond .eq) nx tgt) (h1 : x = 0 → WGo G (tgt, L, S, σ, u) Q) (h2 : ¬ x = 0 → WGo G (nx, L, S, σ, u) Q) : WGo G (pc, L, .int x :: S, σ, u) Q := by
  by_cases h : x = 0
  · exact (h1 h).s (WStep.ifT d (teq h).1)
  · exact (h2 h).s (WStep.ifF d (feq h).1)
theorem WGo.eqL {x y : Int64} (d : AtJ G.bytes pc (.ifCond .eq) nx tgt) (h1 : x = y → WGo G (tgt, L, S, σ, u) Q) (h2 : ¬ x = y → WGo G (nx, L, S, σ, u) Q) : WGo G (pc, L, .int (lcmpW x y) :: S, σ, u) Q := by
  exact WGo.eq0 d (fun h => h1 ((lw_eq x y).mp h)) (fun h => h2 fun q => h ((lw_eq x y).mpr q))
theorem WGo.ne {x y : Int32} (d : AtJ G.bytes pc (.if_icmp .ne) nx tgt) (h1 : ¬ x = y → WGo G (tgt, L, S, σ, u) Q) (h2 : x = y → WGo G (nx, L, S, σ, u) Q) : WGo G (pc, L, .int y :: .int x :: S, σ, u) Q := by
  by_cases h : x = y
  · exact (h2 h).s (WStep.icmpF d (teq h).2)
  · exact (h1 h).s (WStep.icmpT d (feq h).2)
theorem WGo.ne0 {x : Int32} (d : AtJ G.bytes pc (.ifCond .ne) nx tgt) (h1 : ¬ x = 0 → WGo G (tgt, L, S, σ, u) Q) (h2 : x = 0 → WGo G (nx, L, S, σ, u) Q) : WGo G (pc, L, .int x :: S, σ, u) Q := by
  by_cases h : x = 0
  · exact (h2 h).s (WStep.ifF d (teq h).2)
  · exact (h1 h).s (WStep.ifT d (feq h).2)
theorem WGo.neL {x y : Int64} (d : AtJ G.bytes pc (.ifCond .ne) nx tgt) (h1 : ¬ x = y → WGo G (tgt, L, S, σ, u) Q) (h2 : x = y → WGo G (nx, L, S, σ, u) Q) : WGo G (pc, L, .int (lcmpW x y) :: S, σ, u) Q := by
  exact WGo.ne0 d (fun h => h1 fun q => h ((lw_eq x y).mpr q)) (fun h => h2 ((lw_eq x y).mp h))
end Forks
end Jvm.Sy
namespace Jvm.Sy
open Jvm Jvm.ClassFile Sem Op Lib Jvm.Free Jvm.Stand Jvm.LawKit Jvm.RoadKit Bundle
/-! ## 3. Entering and leaving -/
def entL : List Value → List Slot
  | [] => []
  | v :: r => if v.category = 2 then .val v :: .second :: entL r else .val v :: entL r
def entryL (args : List Value) (maxL : Nat) : List Slot := entL args ++ List.replicate (maxL - (entL args).length) .unset
theorem fill_eq {ρ : Nat → Nat} : ∀ (args : List Value) (acc : Array Slot), (gS ρ args).foldl (fun acc v => if v.category = 2 then (acc.push (.val v)).push .second else acc.push (.val v)) acc = acc ++ ((entL args).map (gs ρ)).toArray
  | [], acc => by simp [gS, entL]
  | v :: r, acc => by
    have ih := fill_eq (ρ := ρ) r
    simp only [gS, List.map_cons, List.foldl_cons, cat_gv] at ih ⊢
    rw [ih]
    by_cases q : v.category = 2
    · simp [entL, q, gs]
    · simp [entL, q, gs]
theorem entry_eq {ρ : Nat → Nat} (args : List Value) (maxL : Nat) : argsToLocals (gS ρ args).toArray maxL = gL ρ (entryL args maxL) := by
  have h := fill_eq (ρ := ρ) args #[]
  simp only [argsToLocals, List.foldl_toArray', List.size_toArray] at *
  rw [h]
  simp [gL, entryL, gs]
theorem entryF_eq {ρ : Nat → Nat} (m : MethodId) (args : List Value) (maxL : Nat) : entryFrame m (gS ρ args).toArray maxL = mkF m 0 (gL ρ (entryL args maxL)) [] := by
  show ({ method := m, pc := 0, locals := argsToLocals _ maxL, stack := [], locked := none } : JFrame) = _
  rw [entry_eq]
section Ret
variable {G : WMC} {pc nx u : Nat} {L : List Slot} {S : List Value} {σ : WHp} {Q : Option Value → WHp → Nat → Prop}
theorem WRun.of {v : Option Value} {A : WCfg} (h0 : G.ret = none → v = none)
    (h : ∀ {p : Program} {l : Launch} {e : Env} {R : Room} {s : State} {m : MethodId} {args : Array Value} {below : List Frame} {meth : Method} {c : Code} {T : State} {locs : List Loc} {ce sl : Nat}, WCtx G p R s m meth c → Stand p l e R s m args below meth c T locs ce sl →
      ∀ fs, (∀ (f : JFrame) (acts : List Action), f.method = m → f.locked = none → f.entered = [] → (doReturn e (T.setTop f) acts (v.map (gv G.ρ))).1 = T.setFrames fs) → Steps p.tables e below (T.setTop (frm G m A)) (T.setFrames fs)) :
    WRun G A v A.2.2.2.1 A.2.2.2.2 := by
  refine ⟨Nat.le_refl _, Nat.le_refl _, h0, fun p l e R s m args below meth c hC hc hs T hT => ⟨T, hT, fun fs hr => ?_⟩⟩
  obtain ⟨locs, ce, sl, h1, h2, X, D, N⟩ := hT
  exact h hC X fs hr
theorem WGo.ireturn (t : FieldType) {z : Int32} (d : AtI G.bytes pc .ireturn 1 nx) (hret : G.ret = some t) (ht : t = .int ∨ t = .boolean ∨ t = .byte ∨ t = .char ∨ t = .short) (q : Q (some (narrow t (.int z))) σ u) : WGo G (pc, L, .int z :: S, σ, u) Q := by
  refine ⟨_, _, _, q, WRun.of (A := (pc, L, .int z :: S, σ, u)) (fun h => by rw [hret] at h; cases h) fun hC X fs hr => ?_⟩
  have hm := hC.2.2.2.2.2.1.trans hret
  rcases ht with rfl | ht
  · exact retOut X hC.1 hm rfl (Or.inl ⟨rfl, Or.inl rfl, _, rfl⟩) (hb hC.2.1 d.1) hr
  · have hn : narrow t (.int z) = .int (nar t z) := by rcases ht with rfl | rfl | rfl | rfl <;> rfl
    rw [hn] at hr
    exact retN X hC.1 hm ht (hb hC.2.1 d.1) hr
theorem WGo.lreturn {z : Int64} (d : AtI G.bytes pc .lreturn 1 nx) (hret : G.ret = some .long) (q : Q (some (.long z)) σ u) : WGo G (pc, L, .long z :: S, σ, u) Q := by
  refine ⟨_, _, _, q, WRun.of (A := (pc, L, .long z :: S, σ, u)) (fun h => by rw [hret] at h; cases h) fun hC X fs hr => ?_⟩
  exact retOut X hC.1 (hC.2.2.2.2.2.1.trans hret) rfl (Or.inr (Or.inl ⟨rfl, rfl, _, rfl⟩)) (hb hC.2.1 d.1) hr
theorem WGo.areturn (t : FieldType) {z : Value} (d : AtI G.bytes pc .areturn 1 nx) (hret : G.ret = some t) (ht : t.isReference = true) (hz : z.isRef = true) (q : Q (some z) σ u) : WGo G (pc, L, z :: S, σ, u) Q := by
  refine ⟨_, _, _, q, WRun.of (A := (pc, L, z :: S, σ, u)) (fun h => by rw [hret] at h; cases h) fun hC X fs hr => ?_⟩
  refine retOut X hC.1 (hC.2.2.2.2.2.1.trans hret) ?_ (Or.inr (Or.inr (Or.inr (Or.inr ⟨rfl, ht, isRef_gv.trans hz⟩)))) (hb hC.2.1 d.1) hr
  cases t <;> first | rfl | cases ht
theorem WGo.vreturn (d : AtI G.bytes pc .return_ 1 nx) (hret : G.ret = none) (q : Q none σ u) : WGo G (pc, L, [], σ, u) Q := by
  refine ⟨_, _, _, q, WRun.of (A := (pc, L, [], σ, u)) (fun _ => rfl) fun hC X fs hr => ?_⟩
  exact X.returnOut hC.1 (hC.2.2.2.2.2.1.trans hret) (hb hC.2.1 d.1) hr
end Ret
/-! ## 4. A method's contract out of its walk -/
theorem met_of {l : Launch} {G : WMC} {y : MethodName} {argsL : List Value} {σ σ' : WHp} {u u' : Nat} {v : Option Value} {ws : List Jvm.Cond} {h : Heap}
    (hy1 : G.own = y.cls) (hy2 : G.nm = y.name) (hj : G.j0 = σ.length) (hu : G.u0 = u) (hpl : plainFor y = true) (hρ : ∀ k, k < 1000 → G.ρ k = G.n0 + k) (hinj : ∀ i j, G.ρ i = G.ρ j → i = j)
    (H : WRun G (0, entryL argsL G.ml, [], σ, u) v σ' u') (D : WDen G.Z G.ρ G.n0 σ h) (RM : Room) (hR1 : G.fr ≤ RM.frames) (hR2 : σ'.length - σ.length ≤ RM.cells) (hR3 : u' - u ≤ RM.slots) (hR4 : G.lo ≤ RM.locals) :
    MetFree l y (head1 (Jvm.Cond.code y G.bytes G.ml G.ret :: ws) RM) (fun a U => a = (gS G.ρ argsL).toArray ∧ G.Z.Warmed39 U.vm ∧ U.heap = h) (fun _ _ _ _ _ => True)
      (fun _ U o U' => ∃ w L, o = .returned w ∧ (w = v.map (gv G.ρ) ∧ Fr G.n0 L ∧ WDen G.Z G.ρ G.n0 σ' U'.heap) ∧ FrameEnd U o U' L (σ'.length - σ.length) (u' - u)) := by
  refine MetFree.of_bodySF hpl hisR ?_
  intro p e s m args below meth c s₁ Bd hml0 hP hK
  obtain ⟨rfl, hZ, hh⟩ := hP
  have X0 : Stand p l e RM s m (gS G.ρ argsL).toArray below meth c s₁ [] 0 0 := Stand.of_body Bd
  have e0 : s₁.heap = h := by rw [← hh, Bd.state]; rfl
  obtain ⟨a1, a2, a0, a3⟩ := H
  have a1' : σ.length ≤ σ'.length := a1
  have a2' : u ≤ u' := a2
  obtain ⟨T', ⟨locs, ce, sl, q1, q2, X, D', N⟩, st⟩ := a3 p l e RM s m _ below meth c ⟨Bd.exec, Bd.bytes, hZ, by rw [hy1]; exact findClass_of_methodNamed Bd.named, (name_of_methodNamed Bd.named Bd.method).1.trans hy2.symm, Bd.returns, hml0, by rw [hh, hj]; exact D.1, hρ, hinj, hR1, hR4⟩ (by omega) (by omega) s₁ ⟨[], 0, 0, hj.symm, hu.symm, X0, by rw [e0]; exact D, Fr.nil _⟩
  obtain ⟨fs, hr, hrun, hended, hW, hsame⟩ := X.leave (v := v.map (gv G.ρ)) (fun hn => by rw [a0 (Bd.returns ▸ hn)]; rfl)
  refine ⟨_, _, ?_, hrun, hended, _, _, rfl, ⟨rfl, N, D'⟩, ⟨_, rfl⟩, hW, hsame.mono (by omega) (by omega)⟩
  rw [entryF_eq]
  exact st fs hr
/-- what a call site knows of its callee -/
def WCallee (Z : State) (a0 : Array Value) (y : MethodName) (Gc : WMC) (n : Nat) : Prop :=
  plainFor y = true ∧ (y.cls ≠ "java/lang/invoke/MethodHandle" ∧ y.cls ≠ "java/lang/invoke/VarHandle") ∧ Gc.own = y.cls ∧ Gc.nm = y.name ∧ Gc.Z = Z ∧ (Jvm.Cond.initialized y.cls).before a0 Z = true ∧ (Jvm.Cond.code y Gc.bytes Gc.ml Gc.ret).before a0 Z = true ∧ (∀ sig, parseMethodDescriptor y.desc = some sig → n = sig.parameters.length)
theorem backFor {p : Program} {l : Launch} {e : Env} {R : Room} {s : State} {args : Array Value} {below : List Frame} {Gc : WMC} {y : MethodName} {a0 : Array Value} {argsL : List Value} {σ σ' : WHp} {u u' W n : Nat} {v : Option Value} {h : Heap}
    (C : WCallee Gc.Z a0 y Gc n) (hj : Gc.j0 = σ.length) (hu : Gc.u0 = u) (hρ : ∀ k, k < 1000 → Gc.ρ k = Gc.n0 + k) (hinj : ∀ i j, Gc.ρ i = Gc.ρ j → i = j)
    (H : WRun Gc (0, entryL argsL Gc.ml, [], σ, u) v σ' u') (D : WDen Gc.Z Gc.ρ Gc.n0 σ h) (hZ : Gc.Z.Warmed39 s.vm) (hf : Gc.fr + 1 ≤ R.frames) (hl : W + (Gc.ml + 11) + Gc.lo ≤ R.locals) :
    Back l R p e below s args y 3 W (fun A a => a = (gS Gc.ρ argsL).toArray ∧ A.U.heap = h ∧ A.cells + (σ'.length - σ.length) ≤ R.cells ∧ A.slots + (u' - u) ≤ R.slots)
      (fun A _ w B => ∃ L, (w = v.map (gv Gc.ρ) ∧ Fr Gc.n0 L ∧ WDen Gc.Z Gc.ρ Gc.n0 σ' B.U.heap) ∧ B.locs = A.locs ++ L ∧ B.cells = A.cells + (σ'.length - σ.length) ∧ B.slots = A.slots + (u' - u)) :=
  backOf (rm := { frames := Gc.fr, cells := σ'.length - σ.length, slots := u' - u, locals := Gc.lo }) (Q := fun w h' L => w = v.map (gv Gc.ρ) ∧ Fr Gc.n0 L ∧ WDen Gc.Z Gc.ρ Gc.n0 σ' h') (met_of C.2.2.1 C.2.2.2.1 hj hu C.1 hρ hinj H D _ (Nat.le_refl _) (Nat.le_refl _) (Nat.le_refl _) (Nat.le_refl _)) hZ C.2.2.2.2.2.2.1 C.2.2.2.2.2.1 hf hl
theorem toL {ρ : Nat → Nat} (v : Option Value) (S : List Value) : gS ρ (v.toList ++ S) = (v.map (gv ρ)).toList ++ gS ρ S := by cases v <;> rfl
section Calls
variable {G Gc : WMC} {pc nx u idx n : Nat} {L : List Slot} {S Sf argsL : List Value} {σ : WHp} {Q Qc : Option Value → WHp → Nat → Prop} {y : MethodName} {a0 : Array Value}
theorem WGo.callS (d : AtI G.bytes pc (.invokestatic idx) 3 nx) (C : WCallee G.Z a0 y Gc n) (wl : (Jvm.Cond.methodLink G.own idx y).before a0 G.Z = true) (ws : (Jvm.Cond.static y).before a0 G.Z = true)
    (H : WGo Gc (0, entryL argsL Gc.ml, [], σ, u) Qc) (hG : Gc.1 = G.1) (hj : Gc.j0 = σ.length) (hu : Gc.u0 = u) (hn : argsL.length = n) (hS : Sf = argsL.reverse ++ S) (hL : L.length = G.ml) (hf : Gc.fr + 1 ≤ G.fr) (hl : (S.map Value.category).sum + (Gc.ml + 11) + Gc.lo ≤ G.lo)
    (K : ∀ v σ' u', Qc v σ' u' → WGo G (nx, L, v.toList ++ S, σ', u') Q) : WGo G (pc, L, Sf, σ, u) Q := by
  obtain ⟨v, σ', u', q, r⟩ := H
  refine (K v σ' u' q).s ?_
  have m1 : σ.length ≤ σ'.length := r.1
  have m2 : u ≤ u' := r.2.1
  refine ⟨m1, m2, fun p l e R s m args below meth c hC hc hs T hT => ?_⟩
  obtain ⟨hx, hby, hZ, hown, hnm, hret, hml, hs0, hρ, hinj, hfr, hlo⟩ := hC
  obtain ⟨locs, ce, sl, h1, h2, X, D, N⟩ := hT
  have eZ : Gc.Z = G.Z := congrArg (·.1) hG
  have eρ : Gc.ρ = G.ρ := congrArg (·.2.1) hG
  have en : Gc.n0 = G.n0 := congrArg (·.2.2) hG
  have h1' : σ.length = G.j0 + ce := h1
  have h2' : u = G.u0 + sl := h2
  have hc' : σ'.length ≤ G.j0 + R.cells := hc
  have hs' : u' ≤ G.u0 + R.slots := hs
  have Bk := backFor (p := p) (l := l) (e := e) (R := R) (s := s) (args := args) (below := below) (W := (S.map Value.category).sum) (eZ ▸ C) hj hu (by rw [eρ, en]; exact hρ) (by rw [eρ]; exact hinj) r (by rw [eZ, eρ, en]; exact D) (by rw [eZ]; exact hZ) (Nat.le_trans hf hfr) (Nat.le_trans hl hlo)
  obtain ⟨C1, C2, C3, C4, C5, C6, C7, C8⟩ := C
  rw [eρ, en, eZ] at Bk
  obtain ⟨w, vm1, ⟨T', L', k', n'⟩, -, X', ⟨Lc, ⟨hw', N', D'⟩, l', y', z'⟩, st⟩ := Jvm.LawKit.callS X hx (y := y) hown (mvT hZ wl) (mvT hZ ws) (mvT hZ C6) (mvT hZ C7) C2 Bk (g := frm G m (pc, L, Sf, σ, u)) rfl (by show (gL _ L).size = _; rw [gL_size, hL, hml]) (argsL := gS G.ρ argsL) (rest := gS G.ρ S)
    (fun sig hsig => by rw [← C8 sig hsig, ← hn]; simp [gS]) (by show gS _ Sf = _; rw [hS]; simp [gS]) (by rw [sum_gS]; show 2 * 0 + _ ≤ _; omega) (hb hby d.1) (fun _ _ => ⟨rfl, rfl, by show ce + _ ≤ _; omega, by show sl + _ ≤ _; omega⟩)
  dsimp only [Pt.U, Pt.locs, Pt.cells, Pt.slots] at X' l' y' z' st D'
  subst l' y' z' hw'
  refine ⟨T', ⟨_, _, _, ?_, ?_, X', D', N.app N'⟩, fun t k => st t ?_⟩
  · show σ'.length = _; omega
  · show u' = _; omega
  · rw [← toL]
    have := d.2
    subst this
    exact k
/-- a constructor -/
theorem WGo.callI {k : Nat} (d : AtI G.bytes pc (.invokespecial idx) 3 nx) (C : WCallee G.Z a0 y Gc n) (hi : y.name = "<init>") (hr : Gc.ret = none) (wl : (Jvm.Cond.methodLink G.own idx y).before a0 G.Z = true) (ws : (Jvm.Cond.instanceMethod y).before a0 G.Z = true) (hk : k < 1000)
    (H : WGo Gc (0, entryL (.ref k :: argsL) Gc.ml, [], σ, u) Qc) (hG : Gc.1 = G.1) (hj : Gc.j0 = σ.length) (hu : Gc.u0 = u) (hn : argsL.length = n) (hS : Sf = argsL.reverse ++ .ref k :: S) (hL : L.length = G.ml) (hf : Gc.fr + 1 ≤ G.fr) (hl : (S.map Value.category).sum + (Gc.ml + 11) + Gc.lo ≤ G.lo)
    (K : ∀ v σ' u', Qc v σ' u' → WGo G (nx, L, v.toList ++ S, σ', u') Q) : WGo G (pc, L, Sf, σ, u) Q := by
  obtain ⟨v, σ', u', q, r⟩ := H
  refine (K v σ' u' q).s ?_
  have m1 : σ.length ≤ σ'.length := r.1
  have m2 : u ≤ u' := r.2.1
  refine ⟨m1, m2, fun p l e R s m args below meth c hC hc hs T hT => ?_⟩
  obtain ⟨hx, hby, hZ, hown, hnm, hret, hml, hs0, hρ, hinj, hfr, hlo⟩ := hC
  obtain ⟨locs, ce, sl, h1, h2, X, D, N⟩ := hT
  have eZ : Gc.Z = G.Z := congrArg (·.1) hG
  have eρ : Gc.ρ = G.ρ := congrArg (·.2.1) hG
  have en : Gc.n0 = G.n0 := congrArg (·.2.2) hG
  have h1' : σ.length = G.j0 + ce := h1
  have h2' : u = G.u0 + sl := h2
  have hc' : σ'.length ≤ G.j0 + R.cells := hc
  have hs' : u' ≤ G.u0 + R.slots := hs
  have Bk := backFor (p := p) (l := l) (e := e) (R := R) (s := s) (args := args) (below := below) (W := (S.map Value.category).sum) (eZ ▸ C) hj hu (by rw [eρ, en]; exact hρ) (by rw [eρ]; exact hinj) r (by rw [eZ, eρ, en]; exact D) (by rw [eZ]; exact hZ) (Nat.le_trans hf hfr) (Nat.le_trans hl hlo)
  obtain ⟨C1, C2, C3, C4, C5, C6, C7, C8⟩ := C
  rw [hr] at C7
  rw [eρ, en, eZ] at Bk
  obtain ⟨w, vm1, ⟨T', L', k', n'⟩, -, X', ⟨Lc, ⟨hw', N', D'⟩, l', y', z'⟩, st⟩ := X.specialBack hx (y := y) hi hown (mvT hZ wl) (mvT hZ ws) (mvT hZ C7) C2 Bk (g := frm G m (pc, L, Sf, σ, u)) rfl (by show (gL _ L).size = _; rw [gL_size, hL, hml]) (Steps.refl _) (a := G.ρ k) (argsL := gS G.ρ argsL) (rest := gS G.ρ S)
    (fun sig hsig => by rw [← C8 sig hsig, ← hn]; simp [gS]) (by show gS _ Sf = _; rw [hS]; simp [gS, gv]) (by rw [sum_gS]; show 2 * 0 + _ ≤ _; omega) (hb hby d.1) (fun _ _ => ⟨rfl, rfl, by show ce + _ ≤ _; omega, by show sl + _ ≤ _; omega⟩)
  dsimp only [Pt.U, Pt.locs, Pt.cells, Pt.slots] at X' l' y' z' st D'
  subst l' y' z' hw'
  refine ⟨T', ⟨_, _, _, ?_, ?_, X', D', N.app N'⟩, fun t k => st.trans ?_⟩
  · show σ'.length = _; omega
  · show u' = _; omega
  · rw [← toL]
    have := d.2
    subst this
    exact k
/-- an instance method that the receiver's class itself selects -/
theorem WGo.callV {k : Nat} {Cn : String} {fs : List (WKey × Value)} {z : MethodName} (d : AtI G.bytes pc (.invokevirtual idx) 3 nx) (C : WCallee G.Z a0 y Gc n) (hz : z.desc = y.desc ∧ (z.cls ≠ "java/lang/invoke/MethodHandle" ∧ z.cls ≠ "java/lang/invoke/VarHandle")) (wl : (Jvm.Cond.methodLink G.own idx z).before a0 G.Z = true) (wd : (Jvm.Cond.declares z).before a0 G.Z = true) (hnf : ∀ s, G.Z.Warmed39 s.vm → NotFace s z) (wsel : (Jvm.Cond.selects Cn z y).before a0 G.Z = true) (ws : (Jvm.Cond.instanceMethod y).before a0 G.Z = true) (hk : σ[k]? = some (.inr (Cn, fs)))
    (H : WGo Gc (0, entryL (.ref k :: argsL) Gc.ml, [], σ, u) Qc) (hG : Gc.1 = G.1) (hj : Gc.j0 = σ.length) (hu : Gc.u0 = u) (hn : argsL.length = n) (hS : Sf = argsL.reverse ++ .ref k :: S) (hL : L.length = G.ml) (hf : Gc.fr + 1 ≤ G.fr) (hl : (S.map Value.category).sum + (Gc.ml + 11) + Gc.lo ≤ G.lo)
    (K : ∀ v σ' u', Qc v σ' u' → WGo G (nx, L, v.toList ++ S, σ', u') Q) : WGo G (pc, L, Sf, σ, u) Q := by
  obtain ⟨v, σ', u', q, r⟩ := H
  refine (K v σ' u' q).s ?_
  have m1 : σ.length ≤ σ'.length := r.1
  have m2 : u ≤ u' := r.2.1
  refine ⟨m1, m2, fun p l e R s m args below meth c hC hc hs T hT => ?_⟩
  obtain ⟨hx, hby, hZ, hown, hnm, hret, hml, hs0, hρ, hinj, hfr, hlo⟩ := hC
  obtain ⟨locs, ce, sl, h1, h2, X, D, N⟩ := hT
  have eZ : Gc.Z = G.Z := congrArg (·.1) hG
  have eρ : Gc.ρ = G.ρ := congrArg (·.2.1) hG
  have en : Gc.n0 = G.n0 := congrArg (·.2.2) hG
  have h1' : σ.length = G.j0 + ce := h1
  have h2' : u = G.u0 + sl := h2
  have hc' : σ'.length ≤ G.j0 + R.cells := hc
  have hs' : u' ≤ G.u0 + R.slots := hs
  have Bk := backFor (p := p) (l := l) (e := e) (R := R) (s := s) (args := args) (below := below) (W := (S.map Value.category).sum) (eZ ▸ C) hj hu (by rw [eρ, en]; exact hρ) (by rw [eρ]; exact hinj) r (by rw [eZ, eρ, en]; exact D) (by rw [eZ]; exact hZ) (Nat.le_trans hf hfr) (Nat.le_trans hl hlo)
  obtain ⟨C1, C2, C3, C4, C5, C6, C7, C8⟩ := C
  rw [eρ, en, eZ] at Bk
  have hE : Exa G.Z T.heap (G.n0 + k) Cn := (D.2.2 k _ hk).1
  rw [← hρ k (D.lt hk)] at hE
  obtain ⟨cq, kq, qa, qb, qc⟩ := isOf hZ rfl hE
  obtain ⟨w, vm1, ⟨T', L', k', n'⟩, -, X', ⟨Lc, ⟨hw', N', D'⟩, l', y', z'⟩, st⟩ := X.virtualBack hx (y := z) (z := y) hown (mvT hZ wl) (mvT hZ wd) (hnf s hZ) (mvT hZ wsel) (mvT hZ ws) hz.2 Bk qa qc (g := frm G m (pc, L, Sf, σ, u)) rfl (by show (gL _ L).size = _; rw [gL_size, hL, hml]) (Steps.refl _) (argsL := gS G.ρ argsL) (rest := gS G.ρ S)
    (fun sig hsig => by rw [hz.1] at hsig; rw [← C8 sig hsig, ← hn]; simp [gS]) (by show gS _ Sf = _; rw [hS]; simp [gS, gv]) (by rw [sum_gS]; show 2 * 0 + _ ≤ _; omega) (hb hby d.1) (fun _ _ => ⟨rfl, rfl, by show ce + _ ≤ _; omega, by show sl + _ ≤ _; omega⟩)
  dsimp only [Pt.U, Pt.locs, Pt.cells, Pt.slots] at X' l' y' z' st D'
  subst l' y' z' hw'
  refine ⟨T', ⟨_, _, _, ?_, ?_, X', D', N.app N'⟩, fun t k => st.trans ?_⟩
  · show σ'.length = _; omega
  · show u' = _; omega
  · rw [← toL]
    have := d.2
    subst this
    exact k
/-- a private method, by invokevirtual -/
theorem WGo.callP {k : Nat} {Cn : String} {fs : List (WKey × Value)} (d : AtI G.bytes pc (.invokevirtual idx) 3 nx) (C : WCallee G.Z a0 y Gc n) (wl : (Jvm.Cond.methodLink G.own idx y).before a0 G.Z = true) (ws : (Jvm.Cond.instanceMethod y).before a0 G.Z = true) (wsel : (Jvm.Cond.selects y.cls y y).before a0 G.Z = true) (wp : (Jvm.Cond.privateMethod y).before a0 G.Z = true) (hk : σ[k]? = some (.inr (Cn, fs)))
    (H : WGo Gc (0, entryL (.ref k :: argsL) Gc.ml, [], σ, u) Qc) (hG : Gc.1 = G.1) (hj : Gc.j0 = σ.length) (hu : Gc.u0 = u) (hn : argsL.length = n) (hS : Sf = argsL.reverse ++ .ref k :: S) (hL : L.length = G.ml) (hf : Gc.fr + 1 ≤ G.fr) (hl : (S.map Value.category).sum + (Gc.ml + 11) + Gc.lo ≤ G.lo)
    (K : ∀ v σ' u', Qc v σ' u' → WGo G (nx, L, v.toList ++ S, σ', u') Q) : WGo G (pc, L, Sf, σ, u) Q := by
  obtain ⟨v, σ', u', q, r⟩ := H
  refine (K v σ' u' q).s ?_
  have m1 : σ.length ≤ σ'.length := r.1
  have m2 : u ≤ u' := r.2.1
  refine ⟨m1, m2, fun p l e R s m args below meth c hC hc hs T hT => ?_⟩
  obtain ⟨hx, hby, hZ, hown, hnm, hret, hml, hs0, hρ, hinj, hfr, hlo⟩ := hC
  obtain ⟨locs, ce, sl, h1, h2, X, D, N⟩ := hT
  have eZ : Gc.Z = G.Z := congrArg (·.1) hG
  have eρ : Gc.ρ = G.ρ := congrArg (·.2.1) hG
  have en : Gc.n0 = G.n0 := congrArg (·.2.2) hG
  have h1' : σ.length = G.j0 + ce := h1
  have h2' : u = G.u0 + sl := h2
  have hc' : σ'.length ≤ G.j0 + R.cells := hc
  have hs' : u' ≤ G.u0 + R.slots := hs
  have Bk := backFor (p := p) (l := l) (e := e) (R := R) (s := s) (args := args) (below := below) (W := (S.map Value.category).sum) (eZ ▸ C) hj hu (by rw [eρ, en]; exact hρ) (by rw [eρ]; exact hinj) r (by rw [eZ, eρ, en]; exact D) (by rw [eZ]; exact hZ) (Nat.le_trans hf hfr) (Nat.le_trans hl hlo)
  obtain ⟨C1, C2, C3, C4, C5, C6, C7, C8⟩ := C
  rw [eρ, en, eZ] at Bk
  have hE : Exa G.Z T.heap (G.n0 + k) Cn := (D.2.2 k _ hk).1
  rw [← hρ k (D.lt hk)] at hE
  obtain ⟨cq, e1, e2⟩ := hE.cell
  obtain ⟨w, vm1, ⟨T', L', k', n'⟩, -, X', ⟨Lc, ⟨hw', N', D'⟩, l', y', z'⟩, st⟩ := X.privateBack hx (y := y) hown (mvT hZ wl) (mvT hZ ws) (mvT hZ wsel) (Cond.privateMethod_at (mvP hZ wp (args := #[]))) (mvT hZ C7) C2 Bk (g := frm G m (pc, L, Sf, σ, u)) rfl (by show (gL _ L).size = _; rw [gL_size, hL, hml]) (Steps.refl _) (a := G.ρ k) e1 e2 (argsL := gS G.ρ argsL) (rest := gS G.ρ S)
    (fun sig hsig => by rw [← C8 sig hsig, ← hn]; simp [gS]) (by show gS _ Sf = _; rw [hS]; simp [gS, gv]) (by rw [sum_gS]; show 2 * 0 + _ ≤ _; omega) (hb hby d.1) (fun _ _ => ⟨rfl, rfl, by show ce + _ ≤ _; omega, by show sl + _ ≤ _; omega⟩)
  dsimp only [Pt.U, Pt.locs, Pt.cells, Pt.slots] at X' l' y' z' st D'
  subst l' y' z' hw'
  refine ⟨T', ⟨_, _, _, ?_, ?_, X', D', N.app N'⟩, fun t k => st.trans ?_⟩
  · show σ'.length = _; omega
  · show u' = _; omega
  · rw [← toL]
    have := d.2
    subst this
    exact k
end Calls
end Jvm.Sy
namespace Jvm.Sy
open Jvm Jvm.ClassFile Sem Op Lib Jvm.Free Jvm.Stand Jvm.LawKit Jvm.RoadKit Bundle
def LaidAll (Z : State) (a0 : Array Value) (C : String) : List (WKey × Value) → Prop
  | [] => True
  | f :: r => (Laid Z a0 C f.1.1 f.1.2.1 f.1.2.2 ∧ ∃ ty, parseFieldDescriptor f.1.2.2 = some ty ∧ f.2 = defaultValue ty) ∧ LaidAll Z a0 C r
theorem LaidAll.at {Z : State} {a0 : Array Value} {C : String} : ∀ {fs : List (WKey × Value)}, LaidAll Z a0 C fs → ∀ {i : Nat} {f : WKey × Value}, fs[i]? = some f → Laid Z a0 C f.1.1 f.1.2.1 f.1.2.2 ∧ ∃ ty, parseFieldDescriptor f.1.2.2 = some ty ∧ f.2 = defaultValue ty
  | [], _, i, f, h => by simp at h
  | g :: r, H, 0, f, h => by simp at h; subst h; exact H.1
  | g :: r, H, i + 1, f, h => LaidAll.at H.2 (i := i) (by simpa using h)
section HeapOps
variable {G : WMC} {pc nx tgt u idx k i n : Nat} {L : List Slot} {S : List Value} {σ : WHp} {a0 : Array Value} {v w : Value} {j : Int32} {vs : List Value} {ty : FieldType} {fs : List (WKey × Value)} {C O nm dd K : String}
theorem WStep.ldc {z : Int32} (d : AtI G.bytes pc (.ldc idx) 2 nx) (wd : (Jvm.Cond.constant G.own idx z).before a0 G.Z = true) : WStep G (pc, L, S, σ, u) (nx, L, .int z :: S, σ, u) := by
  refine ⟨Nat.le_refl _, Nat.le_refl _, fun p l e R s m args below meth c hC hc hs T hT => ?_⟩
  obtain ⟨hx, hby, hZ, hown, hnm, hret, hml, hs0, hρ, hinj, hfr, hlo⟩ := hC
  obtain ⟨locs, ce, sl, h1, h2, X, D, N⟩ := hT
  obtain ⟨d, rfl⟩ := d
  exact ⟨T, ⟨locs, ce, sl, h1, h2, X, D, N⟩, X.ldcInt hx hown (mvT hZ wd) (g := frm G m (pc, L, S, σ, u)) rfl (hb hby d)⟩
theorem WStep.ldcw {z : Int32} (d : AtI G.bytes pc (.ldc_w idx) 3 nx) (wd : (Jvm.Cond.constant G.own idx z).before a0 G.Z = true) : WStep G (pc, L, S, σ, u) (nx, L, .int z :: S, σ, u) := by
  refine ⟨Nat.le_refl _, Nat.le_refl _, fun p l e R s m args below meth c hC hc hs T hT => ?_⟩
  obtain ⟨hx, hby, hZ, hown, hnm, hret, hml, hs0, hρ, hinj, hfr, hlo⟩ := hC
  obtain ⟨locs, ce, sl, h1, h2, X, D, N⟩ := hT
  obtain ⟨d, rfl⟩ := d
  exact ⟨T, ⟨locs, ce, sl, h1, h2, X, D, N⟩, X.ldcwInt hx hown (mvT hZ wd) (g := frm G m (pc, L, S, σ, u)) rfl (hb hby d)⟩
theorem WStep.ldc2 {z : Int64} (d : AtI G.bytes pc (.ldc2_w idx) 3 nx) (wd : (Jvm.Cond.constantLong G.own idx z).before a0 G.Z = true) : WStep G (pc, L, S, σ, u) (nx, L, .long z :: S, σ, u) := by
  refine ⟨Nat.le_refl _, Nat.le_refl _, fun p l e R s m args below meth c hC hc hs T hT => ?_⟩
  obtain ⟨hx, hby, hZ, hown, hnm, hret, hml, hs0, hρ, hinj, hfr, hlo⟩ := hC
  obtain ⟨locs, ce, sl, h1, h2, X, D, N⟩ := hT
  obtain ⟨d, rfl⟩ := d
  exact ⟨T, ⟨locs, ce, sl, h1, h2, X, D, N⟩, X.ldc2Long hx hown (mvT hZ wd) (g := frm G m (pc, L, S, σ, u)) rfl (hb hby d)⟩
theorem WStep.initO (d : AtI G.bytes pc (.invokespecial idx) 3 nx) (w1 : (Jvm.Cond.methodLink G.own idx Lib.objectInit).before a0 G.Z = true) (w2 : (Jvm.Cond.instanceMethod Lib.objectInit).before a0 G.Z = true) (w3 : (Jvm.Cond.code Lib.objectInit ⟨#[0xb1]⟩ 1 none).before a0 G.Z = true)
    (hL : L.length = G.ml) (hf : 1 ≤ G.fr) (hl : (S.map Value.category).sum + 12 ≤ G.lo) : WStep G (pc, L, .ref k :: S, σ, u) (nx, L, S, σ, u) := by
  refine ⟨Nat.le_refl _, Nat.le_refl _, fun p l e R s m args below meth c hC hc hs T hT => ?_⟩
  obtain ⟨hx, hby, hZ, hown, hnm, hret, hml, hs0, hρ, hinj, hfr, hlo⟩ := hC
  obtain ⟨locs, ce, sl, h1, h2, X, D, N⟩ := hT
  obtain ⟨d, rfl⟩ := d
  obtain ⟨T', X', e', st⟩ := RoadKit.initO X hx hZ hown w1 w2 w3 rfl (g := frm G m (pc, L, .ref k :: S, σ, u)) rfl (by show (gL _ L).size = _; rw [gL_size, hL, hml]) rfl (hb hby d) (Nat.le_trans hf hfr) (W := (S.map Value.category).sum) (by have := sum_gS (ρ := G.ρ) S; unfold gS at this; rw [this]; show 2 * 0 + _ ≤ _; omega) (Nat.le_trans hl hlo)
  exact ⟨T', ⟨locs, ce, sl, h1, h2, X', by rw [e']; exact D, N⟩, st⟩
theorem WStep.getF (i : Nat) (d : AtI G.bytes pc (.getfield idx) 3 nx) (wd : (Jvm.Cond.fieldLink G.own idx O nm dd).before a0 G.Z = true) (hk : σ[k]? = some (.inr (C, fs))) (hi : fs[i]? = some ((O, nm, dd), v)) : WStep G (pc, L, .ref k :: S, σ, u) (nx, L, v :: S, σ, u) := by
  refine ⟨Nat.le_refl _, Nat.le_refl _, fun p l e R s m args below meth c hC hc hs T hT => ?_⟩
  obtain ⟨hx, hby, hZ, hown, hnm, hret, hml, hs0, hρ, hinj, hfr, hlo⟩ := hC
  obtain ⟨locs, ce, sl, h1, h2, X, D, N⟩ := hT
  obtain ⟨d, rfl⟩ := d
  have hko : ObjOk G.Z G.ρ T.heap (G.n0 + k) C fs := D.2.2 k _ hk
  have F := hko.2.1 i _ _ _ _ hi
  rw [← hρ k (D.lt hk)] at F
  obtain ⟨T', X', e', st⟩ := RoadKit.getF X hx hZ hown (host := "") (Or.inl wd) Via.refl rfl F (g := frm G m (pc, L, .ref k :: S, σ, u)) rfl rfl (hb hby d)
  exact ⟨T', ⟨locs, ce, sl, h1, h2, X', by rw [e']; exact D, N⟩, st⟩
theorem WStep.putF (i : Nat) (v' : Value) (d : AtI G.bytes pc (.putfield idx) 3 nx) (wd : (Jvm.Cond.fieldLink G.own idx O nm dd).before a0 G.Z = true) (hk : σ[k]? = some (.inr (C, fs))) (hi : fs[i]? = some ((O, nm, dd), w))
    (hlay : (Jvm.Cond.lays C O nm dd).before a0 G.Z = true ∨ ((Jvm.Cond.laysFinal C O nm dd).before a0 G.Z = true ∧ G.own = O ∧ G.nm = "<init>")) (wi : (Jvm.Cond.instantiable C n).before a0 G.Z = true) (hty : parseFieldDescriptor dd = some ty) (hn : narrow ty v = v') (hf : fits ty v' = true) :
    WStep G (pc, L, v :: .ref k :: S, σ, u) (nx, L, S, σ.set k (.inr (C, fs.set i ((O, nm, dd), v'))), u) := by
  refine ⟨by simp, Nat.le_refl _, fun p l e R s m args below meth c hC hc hs T hT => ?_⟩
  obtain ⟨hx, hby, hZ, hown, hnm, hret, hml, hs0, hρ, hinj, hfr, hlo⟩ := hC
  obtain ⟨locs, ce, sl, h1, h2, X, D, N⟩ := hT
  obtain ⟨d, rfl⟩ := d
  have hko : ObjOk G.Z G.ρ T.heap (G.n0 + k) C fs := D.2.2 k _ hk
  obtain ⟨E, Fs, hNe⟩ := hko
  have F := Fs i _ _ _ _ hi
  have hρk := hρ k (D.lt hk)
  obtain ⟨T', h', X', e', W, st⟩ := putFN X hx hZ hown (v := gv G.ρ v) (v' := gv G.ρ v') wd Via.refl rfl F E (hlay.imp id fun q => ⟨q.1, q.2.1, hnm.trans q.2.2⟩) wi hty (by rw [narrow_gv, hn]) (by rw [fits_gv, hf]) (g := frm G m (pc, L, v :: .ref k :: S, σ, u)) rfl (by show gv _ v :: Value.ref (G.ρ k) :: _ = _; rw [hρk]) (hb hby d)
  subst e'
  refine ⟨T', ⟨_, ce, sl, by simpa using h1, h2, X', D.put W ?_, N.app fun y hy => by cases List.mem_singleton.mp hy; exact Nat.le_add_right _ _⟩, st⟩
  have hlt := (List.getElem?_eq_some_iff.mp hi).1
  refine ⟨E.wr W, fun i' O' n' d' y hy => ?_, fun i1 i2 k1 k2 v1 v2 ne q1 q2 => ?_⟩
  · by_cases q : i' = i
    · subst q
      rw [List.getElem?_set_self hlt] at hy
      cases hy
      exact F.same W
    · rw [List.getElem?_set_ne (Ne.symm q)] at hy
      have hne : RoadKit.slotOf G.Z O' n' d' ≠ RoadKit.slotOf G.Z O nm dd := hNe i' i (O', n', d') (O, nm, dd) y w q hy hi
      exact (Fs i' O' n' d' y hy).other W (Or.inr hne)
  · have key : ∀ {i' : Nat} {k' : WKey} {v' : Value}, (fs.set i ((O, nm, dd), v'))[i']? = some (k', v1) → ∃ v'', fs[i']? = some (k', v'') := by
      intro i' k' v' hh
      by_cases q : i' = i
      · subst q
        rw [List.getElem?_set_self hlt] at hh
        cases hh
        exact ⟨_, hi⟩
      · rw [List.getElem?_set_ne (fun z => q z.symm)] at hh
        exact ⟨_, hh⟩
    have key2 : ∀ {i' : Nat} {k' : WKey} {v' : Value}, (fs.set i ((O, nm, dd), v'))[i']? = some (k', v2) → ∃ v'', fs[i']? = some (k', v'') := by
      intro i' k' v' hh
      by_cases q : i' = i
      · subst q
        rw [List.getElem?_set_self hlt] at hh
        cases hh
        exact ⟨_, hi⟩
      · rw [List.getElem?_set_ne (fun z => q z.symm)] at hh
        exact ⟨_, hh⟩
    obtain ⟨_, r1⟩ := key q1
    obtain ⟨_, r2⟩ := key2 q2
    exact hNe i1 i2 _ _ _ _ ne r1 r2
theorem WStep.newO (fs : List (WKey × Value)) (d : AtI G.bytes pc (.new idx) 3 nx) (w1 : (Jvm.Cond.classLink G.own idx C).before a0 G.Z = true) (w2 : (Jvm.Cond.instantiable C n).before a0 G.Z = true) (w3 : (Jvm.Cond.initialized C).before a0 G.Z = true)
    (hfs : LaidAll G.Z a0 C fs) (hnd : (fs.map fun f => f.1.2.1).Nodup) (hlen : σ.length = k) (hk : k < 1000) : WStep G (pc, L, S, σ, u) (nx, L, .ref k :: S, σ ++ [.inr (C, fs)], u + n) := by
  refine ⟨by simp, Nat.le_add_right _ _, fun p l e R s m args below meth c hC hc hs T hT => ?_⟩
  obtain ⟨hx, hby, hZ, hown, hnm, hret, hml, hs0, hρ, hinj, hfr, hlo⟩ := hC
  obtain ⟨locs, ce, sl, h1, h2, X, D, N⟩ := hT
  obtain ⟨d, rfl⟩ := d
  subst hlen
  have h1' : σ.length = G.j0 + ce := h1
  have h2' : u = G.u0 + sl := h2
  have hc' : σ.length + 1 ≤ G.j0 + R.cells := by simpa using hc
  have hs' : u + n ≤ G.u0 + R.slots := hs
  have eS : T.heap.size = G.n0 + σ.length := D.1
  obtain ⟨T', h', X', e', E, A, Dv, -, st⟩ := RoadKit.newO X hx hZ hown w1 w2 w3 rfl (g := frm G m (pc, L, S, σ, u)) rfl (hb hby d) (by omega) (by omega)
  subst e'
  have hsz : T'.heap.size = T.heap.size + 1 := by
    have a1 := X'.heapSize
    have a2 : T.heap.size < T'.heap.size := A.lt
    have a3 : s.heap.size = G.n0 + G.j0 := hs0
    omega
  rw [eS] at A Dv
  have eρ : G.ρ σ.length = T.heap.size := by rw [hρ _ hk, eS]
  refine ⟨T', ⟨locs, ce + 1, sl + n, by simp; omega, by show u + n = _; omega, X', D.push E hsz hk ⟨A, fun i O' n' d' y hy => ?_, fun i1 i2 k1 k2 v1 v2 ne q1 q2 => ?_⟩, N⟩, fun t kt => st t ?_⟩
  · obtain ⟨LL, ty, p1, p2⟩ := hfs.at hy
    have := Dv LL p1
    dsimp only at p2
    rw [p2, dv_gv]
    exact this
  · obtain ⟨LL, ty, p1, p2⟩ := hfs.at q1
    obtain ⟨LL', ty', p1', p2'⟩ := hfs.at q2
    refine slot_ne LL LL' (fun e => ne ?_) p1 p1'
    have b1 := (List.getElem?_eq_some_iff.mp q1).1
    have b2 := (List.getElem?_eq_some_iff.mp q2).1
    refine (List.getElem?_inj (l := fs.map fun f => f.1.2.1) (i := i1) (j := i2) (by simpa using b1) hnd).mp ?_
    rw [List.getElem?_map, List.getElem?_map, q1, q2]
    exact congrArg some e
  · rw [← eρ]; exact kt
theorem WStep.newP {aty : ArrayType} (n : Int32) (m : Nat) (d : AtI G.bytes pc (.newarray aty) 2 nx) (w1 : (Jvm.Cond.arrayClass (newarray.typeOf aty)).before a0 G.Z = true) (hn : ¬ n < 0) (hm : n.toNatClampNeg = m) (hb8 : m * 8 ≤ 536870912) (hlen : σ.length = k) (hk : k < 1000) :
    WStep G (pc, L, .int n :: S, σ, u) (nx, L, .ref k :: S, σ ++ [.inl (newarray.typeOf aty, List.replicate m (defaultValue (newarray.typeOf aty)))], u + m) := by
  refine ⟨by simp, Nat.le_add_right _ _, fun p l e R s me args below meth c hC hc hs T hT => ?_⟩
  obtain ⟨hx, hby, hZ, hown, hnm, hret, hml, hs0, hρ, hinj, hfr, hlo⟩ := hC
  obtain ⟨locs, ce, sl, h1, h2, X, D, N⟩ := hT
  obtain ⟨d, rfl⟩ := d
  subst hlen
  have h1' : σ.length = G.j0 + ce := h1
  have h2' : u = G.u0 + sl := h2
  have hc' : σ.length + 1 ≤ G.j0 + R.cells := by simpa using hc
  have hs' : u + m ≤ G.u0 + R.slots := hs
  have eS : T.heap.size = G.n0 + σ.length := D.1
  obtain ⟨T', h', cA, X', e', E, A, st⟩ := RoadKit.newP X hx hZ w1 rfl (g := frm G me (pc, L, .int n :: S, σ, u)) rfl (hb hby d) rfl hn (cap := m) (by omega) hb8 (by omega) (by omega)
  subst e'
  have hsz : T'.heap.size = T.heap.size + 1 := by
    have a1 := X'.heapSize
    have a2 : T.heap.size < T'.heap.size := A.lt
    have a3 : s.heap.size = G.n0 + G.j0 := hs0
    omega
  rw [eS] at A
  have eρ : G.ρ σ.length = T.heap.size := by rw [hρ _ hk, eS]
  refine ⟨T', ⟨locs, ce + 1, sl + m, by simp; omega, by show u + m = _; omega, X', D.push E hsz hk ⟨_, A, ?_, ?_, ?_⟩, N⟩, fun t kt => st t ?_⟩
  · simp [newA, hm, dv_gv]
  · intro C hC; cases aty <;> cases hC
  · intro y hy
    rw [List.eq_of_mem_replicate hy]
    cases aty <;> rfl
  · rw [← eρ]; exact kt
theorem WStep.newR (n : Int32) (m : Nat) (d : AtI G.bytes pc (.anewarray idx) 3 nx) (w1 : (Jvm.Cond.classLink G.own idx C).before a0 G.Z = true) (w2 : (Jvm.Cond.arrayOver (.object C)).before a0 G.Z = true) (hn : ¬ n < 0) (hm : n.toNatClampNeg = m) (hb8 : m * 8 ≤ 536870912) (hlen : σ.length = k) (hk : k < 1000) :
    WStep G (pc, L, .int n :: S, σ, u) (nx, L, .ref k :: S, σ ++ [.inl (.object C, List.replicate m .null)], u + m) := by
  refine ⟨by simp, Nat.le_add_right _ _, fun p l e R s me args below meth c hC hc hs T hT => ?_⟩
  obtain ⟨hx, hby, hZ, hown, hnm, hret, hml, hs0, hρ, hinj, hfr, hlo⟩ := hC
  obtain ⟨locs, ce, sl, h1, h2, X, D, N⟩ := hT
  obtain ⟨d, rfl⟩ := d
  subst hlen
  have h1' : σ.length = G.j0 + ce := h1
  have h2' : u = G.u0 + sl := h2
  have hc' : σ.length + 1 ≤ G.j0 + R.cells := by simpa using hc
  have hs' : u + m ≤ G.u0 + R.slots := hs
  have eS : T.heap.size = G.n0 + σ.length := D.1
  obtain ⟨T', h', cA, X', e', E, A, hO, st⟩ := RoadKit.newR X hx hZ hown w1 w2 rfl (g := frm G me (pc, L, .int n :: S, σ, u)) rfl (hb hby d) rfl hn (cap := m) (by omega) hb8 (by omega) (by omega)
  subst e'
  have hsz : T'.heap.size = T.heap.size + 1 := by
    have a1 := X'.heapSize
    have a2 : T.heap.size < T'.heap.size := A.lt
    have a3 : s.heap.size = G.n0 + G.j0 := hs0
    omega
  rw [eS] at A
  have eρ : G.ρ σ.length = T.heap.size := by rw [hρ _ hk, eS]
  refine ⟨T', ⟨locs, ce + 1, sl + m, by simp; omega, by show u + m = _; omega, X', D.push E hsz hk ⟨_, A, ?_, ?_, ?_⟩, N⟩, fun t kt => st t ?_⟩
  · simp [newA, hm, defaultValue, gv]
  · intro C' hC; cases hC; exact hO
  · intro y hy
    rw [List.eq_of_mem_replicate hy]
    rfl
  · rw [← eρ]; exact kt
theorem WStep.alen (z : Int32) (d : AtI G.bytes pc .arraylength 1 nx) (hk : σ[k]? = some (.inl (ty, vs))) (hz : vs.length.toInt32 = z) : WStep G (pc, L, .ref k :: S, σ, u) (nx, L, .int z :: S, σ, u) := by
  refine ⟨Nat.le_refl _, Nat.le_refl _, fun p l e R s m args below meth c hC hc hs T hT => ?_⟩
  obtain ⟨hx, hby, hZ, hown, hnm, hret, hml, hs0, hρ, hinj, hfr, hlo⟩ := hC
  obtain ⟨locs, ce, sl, h1, h2, X, D, N⟩ := hT
  obtain ⟨d, rfl⟩ := d
  obtain ⟨cl, A, eC, -⟩ : ArrOk G.Z G.ρ T.heap (G.n0 + k) ty vs := D.2.2 k _ hk
  rw [← hρ k (D.lt hk)] at A
  refine ⟨T, ⟨locs, ce, sl, h1, h2, X, D, N⟩, fun t kt => X.arraylength hx A.1 (State.isArrayOf_alike hZ.alike A.2.1) (g := frm G m (pc, L, .ref k :: S, σ, u)) rfl rfl (hb hby d) t ?_⟩
  rw [ArrOk.size (ty := ty) eC, hz]
  exact kt
theorem WStep.iaload (i : Nat) (d : AtI G.bytes pc .iaload 1 nx) (hk : σ[k]? = some (.inl (.int, vs))) (hj : ¬ j < 0) (hi : j.toNatClampNeg = i) (hv : vs[i]? = some v) : WStep G (pc, L, .int j :: .ref k :: S, σ, u) (nx, L, v :: S, σ, u) := by
  refine ⟨Nat.le_refl _, Nat.le_refl _, fun p l e R s m args below meth c hC hc hs T hT => ?_⟩
  obtain ⟨hx, hby, hZ, hown, hnm, hret, hml, hs0, hρ, hinj, hfr, hlo⟩ := hC
  obtain ⟨locs, ce, sl, h1, h2, X, D, N⟩ := hT
  obtain ⟨d, rfl⟩ := d
  obtain ⟨cl, A, eC, -⟩ : ArrOk G.Z G.ρ T.heap (G.n0 + k) .int vs := D.2.2 k _ hk
  rw [← hρ k (D.lt hk)] at A
  have hlt := (List.getElem?_eq_some_iff.mp hv).1
  exact ⟨T, ⟨locs, ce, sl, h1, h2, X, D, N⟩, fun t kt => X.iaload hx (j := j) (v := gv G.ρ v) A.1 (State.isArrayOf_alike hZ.alike A.2.1) A.2.2 (fun q => q.elim hj fun q => by rw [ArrOk.size (ty := .int) eC, hi] at q; omega) (by rw [hi]; exact ArrOk.at eC hv) (g := frm G m (pc, L, .int j :: .ref k :: S, σ, u)) rfl rfl (hb hby d) t kt⟩
theorem WStep.laload (i : Nat) (d : AtI G.bytes pc .laload 1 nx) (hk : σ[k]? = some (.inl (.long, vs))) (hj : ¬ j < 0) (hi : j.toNatClampNeg = i) (hv : vs[i]? = some v) : WStep G (pc, L, .int j :: .ref k :: S, σ, u) (nx, L, v :: S, σ, u) := by
  refine ⟨Nat.le_refl _, Nat.le_refl _, fun p l e R s m args below meth c hC hc hs T hT => ?_⟩
  obtain ⟨hx, hby, hZ, hown, hnm, hret, hml, hs0, hρ, hinj, hfr, hlo⟩ := hC
  obtain ⟨locs, ce, sl, h1, h2, X, D, N⟩ := hT
  obtain ⟨d, rfl⟩ := d
  obtain ⟨cl, A, eC, -⟩ : ArrOk G.Z G.ρ T.heap (G.n0 + k) .long vs := D.2.2 k _ hk
  rw [← hρ k (D.lt hk)] at A
  have hlt := (List.getElem?_eq_some_iff.mp hv).1
  exact ⟨T, ⟨locs, ce, sl, h1, h2, X, D, N⟩, fun t kt => X.laload hx (j := j) (v := gv G.ρ v) A.1 (State.isArrayOf_alike hZ.alike A.2.1) A.2.2 (fun q => q.elim hj fun q => by rw [ArrOk.size (ty := .long) eC, hi] at q; omega) (by rw [hi]; exact ArrOk.at eC hv) (g := frm G m (pc, L, .int j :: .ref k :: S, σ, u)) rfl rfl (hb hby d) t kt⟩
theorem WStep.caload (i : Nat) (d : AtI G.bytes pc .caload 1 nx) (hk : σ[k]? = some (.inl (.char, vs))) (hj : ¬ j < 0) (hi : j.toNatClampNeg = i) (hv : vs[i]? = some v) : WStep G (pc, L, .int j :: .ref k :: S, σ, u) (nx, L, v :: S, σ, u) := by
  refine ⟨Nat.le_refl _, Nat.le_refl _, fun p l e R s m args below meth c hC hc hs T hT => ?_⟩
  obtain ⟨hx, hby, hZ, hown, hnm, hret, hml, hs0, hρ, hinj, hfr, hlo⟩ := hC
  obtain ⟨locs, ce, sl, h1, h2, X, D, N⟩ := hT
  obtain ⟨d, rfl⟩ := d
  obtain ⟨cl, A, eC, -⟩ : ArrOk G.Z G.ρ T.heap (G.n0 + k) .char vs := D.2.2 k _ hk
  rw [← hρ k (D.lt hk)] at A
  have hlt := (List.getElem?_eq_some_iff.mp hv).1
  exact ⟨T, ⟨locs, ce, sl, h1, h2, X, D, N⟩, fun t kt => X.caload hx (j := j) (v := gv G.ρ v) A.1 (State.isArrayOf_alike hZ.alike A.2.1) A.2.2 (fun q => q.elim hj fun q => by rw [ArrOk.size (ty := .char) eC, hi] at q; omega) (by rw [hi]; exact ArrOk.at eC hv) (g := frm G m (pc, L, .int j :: .ref k :: S, σ, u)) rfl rfl (hb hby d) t kt⟩
theorem WStep.aaload (i : Nat) (d : AtI G.bytes pc .aaload 1 nx) (hk : σ[k]? = some (.inl (ty, vs))) (hty : ty.isReference = true) (hj : ¬ j < 0) (hi : j.toNatClampNeg = i) (hv : vs[i]? = some v) : WStep G (pc, L, .int j :: .ref k :: S, σ, u) (nx, L, v :: S, σ, u) := by
  refine ⟨Nat.le_refl _, Nat.le_refl _, fun p l e R s m args below meth c hC hc hs T hT => ?_⟩
  obtain ⟨hx, hby, hZ, hown, hnm, hret, hml, hs0, hρ, hinj, hfr, hlo⟩ := hC
  obtain ⟨locs, ce, sl, h1, h2, X, D, N⟩ := hT
  obtain ⟨d, rfl⟩ := d
  obtain ⟨cl, A, eC, -⟩ : ArrOk G.Z G.ρ T.heap (G.n0 + k) ty vs := D.2.2 k _ hk
  rw [← hρ k (D.lt hk)] at A
  have hlt := (List.getElem?_eq_some_iff.mp hv).1
  exact ⟨T, ⟨locs, ce, sl, h1, h2, X, D, N⟩, fun t kt => X.aaload hx (j := j) (v := gv G.ρ v) A.1 (State.isArrayOf_alike hZ.alike A.2.1) hty A.2.2 (fun q => q.elim hj fun q => by rw [ArrOk.size (ty := ty) eC, hi] at q; omega) (by rw [hi]; exact ArrOk.at eC hv) (g := frm G m (pc, L, .int j :: .ref k :: S, σ, u)) rfl rfl (hb hby d) t kt⟩
theorem WStep.iastore {z : Int32} (i : Nat) (d : AtI G.bytes pc .iastore 1 nx) (hk : σ[k]? = some (.inl (.int, vs))) (hj : ¬ j < 0) (hi : j.toNatClampNeg = i) (hlt : i < vs.length) : WStep G (pc, L, .int z :: .int j :: .ref k :: S, σ, u) (nx, L, S, σ.set k (.inl (.int, vs.set i (.int z))), u) := by
  refine ⟨by simp, Nat.le_refl _, fun p l e R s m args below meth c hC hc hs T hT => ?_⟩
  obtain ⟨hx, hby, hZ, hown, hnm, hret, hml, hs0, hρ, hinj, hfr, hlo⟩ := hC
  obtain ⟨locs, ce, sl, h1, h2, X, D, N⟩ := hT
  obtain ⟨d, rfl⟩ := d
  obtain ⟨cl, A, eC, hO, hF⟩ : ArrOk G.Z G.ρ T.heap (G.n0 + k) .int vs := D.2.2 k _ hk
  have hρk := hρ k (D.lt hk)
  obtain ⟨T', h', X', e', W, st⟩ := stI X hx hZ rfl A (j := j) (x := z) (fun q => q.elim hj fun q => by rw [ArrOk.size (ty := .int) eC, hi] at q; omega) (g := frm G m (pc, L, .int z :: .int j :: .ref k :: S, σ, u)) rfl (by show _ :: _ :: Value.ref (G.ρ k) :: _ = _; rw [hρk]; rfl) (hb hby d)
  subst e'
  rw [hi] at W
  exact ⟨T', ⟨_, ce, sl, by simpa using h1, h2, X', D.put W (ArrOk.set (w := .int z) A eC hO hF W (rfl)), N.app fun y hy => by cases List.mem_singleton.mp hy; exact Nat.le_add_right _ _⟩, st⟩
theorem WStep.lastore {z : Int64} (i : Nat) (d : AtI G.bytes pc .lastore 1 nx) (hk : σ[k]? = some (.inl (.long, vs))) (hj : ¬ j < 0) (hi : j.toNatClampNeg = i) (hlt : i < vs.length) : WStep G (pc, L, .long z :: .int j :: .ref k :: S, σ, u) (nx, L, S, σ.set k (.inl (.long, vs.set i (.long z))), u) := by
  refine ⟨by simp, Nat.le_refl _, fun p l e R s m args below meth c hC hc hs T hT => ?_⟩
  obtain ⟨hx, hby, hZ, hown, hnm, hret, hml, hs0, hρ, hinj, hfr, hlo⟩ := hC
  obtain ⟨locs, ce, sl, h1, h2, X, D, N⟩ := hT
  obtain ⟨d, rfl⟩ := d
  obtain ⟨cl, A, eC, hO, hF⟩ : ArrOk G.Z G.ρ T.heap (G.n0 + k) .long vs := D.2.2 k _ hk
  have hρk := hρ k (D.lt hk)
  obtain ⟨T', h', X', e', W, st⟩ := stJ X hx hZ rfl A (j := j) (x := z) (fun q => q.elim hj fun q => by rw [ArrOk.size (ty := .long) eC, hi] at q; omega) (g := frm G m (pc, L, .long z :: .int j :: .ref k :: S, σ, u)) rfl (by show _ :: _ :: Value.ref (G.ρ k) :: _ = _; rw [hρk]; rfl) (hb hby d)
  subst e'
  rw [hi] at W
  exact ⟨T', ⟨_, ce, sl, by simpa using h1, h2, X', D.put W (ArrOk.set (w := .long z) A eC hO hF W (rfl)), N.app fun y hy => by cases List.mem_singleton.mp hy; exact Nat.le_add_right _ _⟩, st⟩
theorem WStep.castore {z : Int32} (i : Nat) (d : AtI G.bytes pc .castore 1 nx) (hk : σ[k]? = some (.inl (.char, vs))) (hj : ¬ j < 0) (hi : j.toNatClampNeg = i) (hlt : i < vs.length) : WStep G (pc, L, .int z :: .int j :: .ref k :: S, σ, u) (nx, L, S, σ.set k (.inl (.char, vs.set i (.int (nar .char z)))), u) := by
  refine ⟨by simp, Nat.le_refl _, fun p l e R s m args below meth c hC hc hs T hT => ?_⟩
  obtain ⟨hx, hby, hZ, hown, hnm, hret, hml, hs0, hρ, hinj, hfr, hlo⟩ := hC
  obtain ⟨locs, ce, sl, h1, h2, X, D, N⟩ := hT
  obtain ⟨d, rfl⟩ := d
  obtain ⟨cl, A, eC, hO, hF⟩ : ArrOk G.Z G.ρ T.heap (G.n0 + k) .char vs := D.2.2 k _ hk
  have hρk := hρ k (D.lt hk)
  obtain ⟨T', h', X', e', W, st⟩ := stC X hx hZ rfl A (j := j) (x := z) (fun q => q.elim hj fun q => by rw [ArrOk.size (ty := .char) eC, hi] at q; omega) (g := frm G m (pc, L, .int z :: .int j :: .ref k :: S, σ, u)) rfl (by show _ :: _ :: Value.ref (G.ρ k) :: _ = _; rw [hρk]; rfl) (hb hby d)
  subst e'
  rw [hi] at W
  exact ⟨T', ⟨_, ce, sl, by simpa using h1, h2, X', D.put W (ArrOk.set (w := .int (nar .char z)) A eC hO hF W (fits_nar_char z)), N.app fun y hy => by cases List.mem_singleton.mp hy; exact Nat.le_add_right _ _⟩, st⟩
theorem WStep.aastoreN (i : Nat) (d : AtI G.bytes pc .aastore 1 nx) (hk : σ[k]? = some (.inl (ty, vs))) (hty : ty.isReference = true) (hj : ¬ j < 0) (hi : j.toNatClampNeg = i) (hlt : i < vs.length) : WStep G (pc, L, .null :: .int j :: .ref k :: S, σ, u) (nx, L, S, σ.set k (.inl (ty, vs.set i .null)), u) := by
  refine ⟨by simp, Nat.le_refl _, fun p l e R s m args below meth c hC hc hs T hT => ?_⟩
  obtain ⟨hx, hby, hZ, hown, hnm, hret, hml, hs0, hρ, hinj, hfr, hlo⟩ := hC
  obtain ⟨locs, ce, sl, h1, h2, X, D, N⟩ := hT
  obtain ⟨d, rfl⟩ := d
  obtain ⟨cl, A, eC, hO, hF⟩ : ArrOk G.Z G.ρ T.heap (G.n0 + k) ty vs := D.2.2 k _ hk
  have hρk := hρ k (D.lt hk)
  obtain ⟨T', h', X', e', W, st⟩ := stR X hx hZ rfl A (j := j) (v := .null) (fun q => q.elim hj fun q => by rw [ArrOk.size (ty := ty) eC, hi] at q; omega) hty (Or.inl rfl) (g := frm G m (pc, L, .null :: .int j :: .ref k :: S, σ, u)) rfl (by show _ :: _ :: Value.ref (G.ρ k) :: _ = _; rw [hρk]; rfl) (hb hby d)
  subst e'
  rw [hi] at W
  exact ⟨T', ⟨_, ce, sl, by simpa using h1, h2, X', D.put W (ArrOk.set (w := .null) A eC hO hF W (by cases ty <;> first | rfl | cases hty)), N.app fun y hy => by cases List.mem_singleton.mp hy; exact Nat.le_add_right _ _⟩, st⟩
theorem WStep.aastore {k2 : Nat} (i : Nat) (d : AtI G.bytes pc .aastore 1 nx) (hk : σ[k]? = some (.inl (.object C, vs))) (hk2 : σ[k2]? = some (.inr (C, fs))) (hj : ¬ j < 0) (hi : j.toNatClampNeg = i) (hlt : i < vs.length) : WStep G (pc, L, .ref k2 :: .int j :: .ref k :: S, σ, u) (nx, L, S, σ.set k (.inl (.object C, vs.set i (.ref k2))), u) := by
  refine ⟨by simp, Nat.le_refl _, fun p l e R s m args below meth c hC hc hs T hT => ?_⟩
  obtain ⟨hx, hby, hZ, hown, hnm, hret, hml, hs0, hρ, hinj, hfr, hlo⟩ := hC
  obtain ⟨locs, ce, sl, h1, h2, X, D, N⟩ := hT
  obtain ⟨d, rfl⟩ := d
  obtain ⟨cl, A, eC, hO, hF⟩ : ArrOk G.Z G.ρ T.heap (G.n0 + k) (.object C) vs := D.2.2 k _ hk
  have hρk := hρ k (D.lt hk)
  have hE : Exa G.Z T.heap (G.n0 + k2) C := (D.2.2 k2 _ hk2).1
  rw [← hρ k2 (D.lt hk2)] at hE
  obtain ⟨T', h', X', e', W, st⟩ := stR X hx hZ rfl A (j := j) (v := .ref (G.ρ k2)) (fun q => q.elim hj fun q => by rw [ArrOk.size (ty := .object C) eC, hi] at q; omega) rfl (Sto.of A (hO C rfl) (Ins.self hE)) (g := frm G m (pc, L, .ref k2 :: .int j :: .ref k :: S, σ, u)) rfl (by show _ :: _ :: Value.ref (G.ρ k) :: _ = _; rw [hρk]; rfl) (hb hby d)
  subst e'
  rw [hi] at W
  exact ⟨T', ⟨_, ce, sl, by simpa using h1, h2, X', D.put W (ArrOk.set (w := .ref k2) A eC hO hF W rfl), N.app fun y hy => by cases List.mem_singleton.mp hy; exact Nat.le_add_right _ _⟩, st⟩
theorem WStep.acmp {cd : ACond} {x y : Value} (same : Bool) (pc' : Nat) (d : AtJ G.bytes pc (.if_acmp cd) nx tgt) (h1 : x.isRef = true) (h2 : y.isRef = true) (hq : decide (x = y) = same) (hp : pc' = if acV cd same = true then tgt else nx) : WStep G (pc, L, y :: x :: S, σ, u) (pc', L, S, σ, u) := by
  refine ⟨Nat.le_refl _, Nat.le_refl _, fun p l e R s m args below meth c hC hc hs T hT => ⟨T, hT, fun t kt => ?_⟩⟩
  obtain ⟨hx, hby, hZ, hown, hnm, hret, hml, hs0, hρ, hinj, hfr, hlo⟩ := hC
  obtain ⟨locs, ce, sl, z1, z2, X, D, N⟩ := hT
  obtain ⟨o, d, e1, h0, e2⟩ := d
  refine RoadKit.acmp (g := frm G m (pc, L, y :: x :: S, σ, u)) X hx rfl (isRef_gv.trans h1) (isRef_gv.trans h2) (pc0 := pc) (pc' := pc') (same := same) rfl (hb hby d) rfl ?_ h0 (by rw [hp, e1, e2]) kt
  rw [← hq]
  by_cases q : x = y
  · simp [q]
  · simp only [q, decide_false, decide_eq_false_iff_not]
    exact fun z => q (gv_inj hinj z)
theorem WStep.castN (d : AtI G.bytes pc (.checkcast idx) 3 nx) : WStep G (pc, L, .null :: S, σ, u) (nx, L, .null :: S, σ, u) := by
  refine ⟨Nat.le_refl _, Nat.le_refl _, fun p l e R s m args below meth c hC hc hs T hT => ?_⟩
  obtain ⟨hx, hby, hZ, hown, hnm, hret, hml, hs0, hρ, hinj, hfr, hlo⟩ := hC
  obtain ⟨locs, ce, sl, h1, h2, X, D, N⟩ := hT
  obtain ⟨d, rfl⟩ := d
  exact ⟨T, ⟨locs, ce, sl, h1, h2, X, D, N⟩, X.checkcastNull hx (g := frm G m (pc, L, .null :: S, σ, u)) rfl rfl (hb hby d)⟩
theorem WStep.castY (d : AtI G.bytes pc (.checkcast idx) 3 nx) (w1 : (Jvm.Cond.classLink G.own idx K).before a0 G.Z = true) (hk : σ[k]? = some (.inr (C, fs))) (hw : C = K ∨ (Jvm.Cond.castable C K).before a0 G.Z = true) : WStep G (pc, L, .ref k :: S, σ, u) (nx, L, .ref k :: S, σ, u) := by
  refine ⟨Nat.le_refl _, Nat.le_refl _, fun p l e R s m args below meth c hC hc hs T hT => ?_⟩
  obtain ⟨hx, hby, hZ, hown, hnm, hret, hml, hs0, hρ, hinj, hfr, hlo⟩ := hC
  obtain ⟨locs, ce, sl, h1, h2, X, D, N⟩ := hT
  obtain ⟨d, rfl⟩ := d
  have hE : Exa G.Z T.heap (G.n0 + k) C := (D.2.2 k _ hk).1
  rw [← hρ k (D.lt hk)] at hE
  have hI : Ins G.Z T.heap (G.ρ k) K true := by
    rcases hw with rfl | hw
    · exact Ins.self hE
    · exact Ins.of_exa hE hw
  obtain ⟨T', X', e', st⟩ := RoadKit.castY X hx hZ hown w1 rfl hI (g := frm G m (pc, L, .ref k :: S, σ, u)) rfl rfl (hb hby d)
  exact ⟨T', ⟨locs, ce, sl, h1, h2, X', by rw [e']; exact D, N⟩, st⟩
end HeapOps
end Jvm.Sy

namespace Jvm.Sy
open Jvm Jvm.RoadKit
abbrev wI (x : Int32) : Slot := .val (.int x)
abbrev wJ (x : Int64) : Slot := .val (.long x)
abbrev wR (k : Nat) : Slot := .val (.ref k)
abbrev wN : Slot := .val .null
abbrev wU : Slot := .unset
abbrev wS : Slot := .second
theorem fin_all {n : Nat} (hn : n ≤ 2 ^ 31) {P : Int32 → Prop} (h : ∀ k : Fin n, P (Int32.ofNat k.val)) (c : Int32) (h0 : 0 ≤ c.toInt) (h1 : c.toInt < n) : P c := by
  have e : c = Int32.ofNat c.toInt.toNat := by
    apply Int32.toInt_inj.mp
    rw [Int32.toInt_ofNat_small (by omega)]
    omega
  rw [e]
  exact h ⟨c.toInt.toNat, by omega⟩
/-- ints in an array -/
def ia (ks : List Int32) : List Value := ks.map Value.int
theorem ia_len (ks : List Int32) : (ia ks).length = ks.length := by simp [ia]
theorem ia_ex (ks : List Int32) (i : Nat) (h : i < ks.length) : ∃ e, ks[i]? = some e ∧ (ia ks)[i]? = some (.int e) := ⟨ks[i], by simp [h], by simp [ia, h]⟩
theorem ia_get {ks : List Int32} {i : Nat} {e : Int32} (h : ks[i]? = some e) : (ia ks)[i]? = some (.int e) := by simp [ia, h]
theorem ia_set (ks : List Int32) (i : Nat) (x : Int32) : (ia ks).set i (.int x) = ia (ks.set i x) := by simp [ia, List.map_set]
theorem nn {j : Int32} (h0 : 0 ≤ j.toInt) : ¬ j < 0 := by rw [Int32.lt_iff_toInt_lt]; have : (0 : Int32).toInt = 0 := rfl; omega
theorem nlt {j : Int32} {n : Nat} (h0 : 0 ≤ j.toInt) (h1 : j.toInt < n) : j.toNatClampNeg < n := by simp only [Int32.toNatClampNeg]; omega
/-- a boolean's contract: nothing is written -/
def QB (P : Prop) (σ : WHp) (u : Nat) (v : Option Value) (σ' : WHp) (u' : Nat) : Prop := (v = some (.int 1) ∧ P ∨ v = some (.int 0) ∧ ¬ P) ∧ σ = σ' ∧ u = u'
theorem QB.yes {P : Prop} {σ : WHp} {u : Nat} (h : P) : QB P σ u (some (.int 1)) σ u := ⟨Or.inl ⟨rfl, h⟩, rfl, rfl⟩
theorem QB.no {P : Prop} {σ : WHp} {u : Nat} (h : ¬ P) : QB P σ u (some (.int 0)) σ u := ⟨Or.inr ⟨rfl, h⟩, rfl, rfl⟩
end Jvm.Sy

namespace Jvm.Pilot.@@N@@
open Jvm Jvm.ClassFile Sem Op Lib Jvm.Free Jvm.Stand Jvm.LawKit Jvm.RoadKit Bundle Jvm.Sy Jvm.Pilot.@@N@@.Jvm.D
theorem wd {Z : State} {a0 : Array Value} (hw : ∀ d ∈ tables_1, d.before a0 Z = true) (i : Nat) {d : Jvm.Cond} (h : tables_1[i]? = some d) : d.before a0 Z = true := hw d (List.mem_of_getElem? h)


abbrev g1 (Z : State) (ρ : Nat → Nat) (n0 j0 u0 : Nat) : WMC := ((Z, ρ, n0), ("com/example/tree_for_markup/treeformarkup/RepeatedRunsMayRepeatPinLaw", method_2_code, "draw", (some .char), 6), (j0, u0, 0, 0))
theorem a1_0 : AtI method_2_code 0 (.iload_n 0) 1 1 := ⟨by decide +kernel, rfl⟩
theorem a1_1 : AtI method_2_code 1 (.iconst 2) 1 2 := ⟨by decide +kernel, rfl⟩
theorem a1_2 : AtI method_2_code 2 (.iload_n 1) 1 3 := ⟨by decide +kernel, rfl⟩
theorem a1_3 : AtI method_2_code 3 (.imul) 1 4 := ⟨by decide +kernel, rfl⟩
theorem a1_4 : AtI method_2_code 4 (.iushr) 1 5 := ⟨by decide +kernel, rfl⟩
theorem a1_5 : AtI method_2_code 5 (.iconst 3) 1 6 := ⟨by decide +kernel, rfl⟩
theorem a1_6 : AtI method_2_code 6 (.iand) 1 7 := ⟨by decide +kernel, rfl⟩
theorem a1_7 : AtI method_2_code 7 (.istore 5) 2 9 := ⟨by decide +kernel, rfl⟩
theorem a1_9 : AtI method_2_code 9 (.iload 5) 2 11 := ⟨by decide +kernel, rfl⟩
theorem a1_11 : AtJ method_2_code 11 (.ifCond .ne) 14 17 := ⟨6, by decide +kernel, rfl, by decide, rfl⟩
theorem a1_14 : AtI method_2_code 14 (.bipush 93) 2 16 := ⟨by decide +kernel, rfl⟩
theorem a1_16 : AtI method_2_code 16 (.ireturn) 1 17 := ⟨by decide +kernel, rfl⟩
theorem a1_17 : AtI method_2_code 17 (.lload_n 2) 1 18 := ⟨by decide +kernel, rfl⟩
theorem a1_18 : AtI method_2_code 18 (.bipush 16) 2 20 := ⟨by decide +kernel, rfl⟩
theorem a1_20 : AtI method_2_code 20 (.iload 4) 2 22 := ⟨by decide +kernel, rfl⟩
theorem a1_22 : AtI method_2_code 22 (.imul) 1 23 := ⟨by decide +kernel, rfl⟩
theorem a1_23 : AtI method_2_code 23 (.lushr) 1 24 := ⟨by decide +kernel, rfl⟩
theorem a1_24 : AtI method_2_code 24 (.l2i) 1 25 := ⟨by decide +kernel, rfl⟩
theorem a1_25 : AtI method_2_code 25 (.i2c) 1 26 := ⟨by decide +kernel, rfl⟩
theorem a1_26 : AtI method_2_code 26 (.ireturn) 1 27 := ⟨by decide +kernel, rfl⟩
theorem pd1 : parseMethodDescriptor "(IIJI)C" = some ⟨[.int, .int, .long, .int], some .char⟩ := by decide +kernel
theorem pl1 : plainFor (⟨"com/example/tree_for_markup/treeformarkup/RepeatedRunsMayRepeatPinLaw", "draw", "(IIJI)C"⟩ : MethodName) = true := plainFor_of_name (by first | (simp [plainName, overriddenIn]; done) | decide +kernel)
theorem ok1 {Z : State} {a0 : Array Value} (hw : ∀ d ∈ tables_1, d.before a0 Z = true) (ρ : Nat → Nat) (n0 j0 u0 : Nat) : WCallee Z a0 (⟨"com/example/tree_for_markup/treeformarkup/RepeatedRunsMayRepeatPinLaw", "draw", "(IIJI)C"⟩ : MethodName) (g1 Z ρ n0 j0 u0) 4 :=
  ⟨pl1, (by decide), rfl, rfl, rfl, (wd hw 3 rfl), (wd hw 4 rfl), fun sig h => by cases pd1.symm.trans h; rfl⟩
abbrev g2 (Z : State) (ρ : Nat → Nat) (n0 j0 u0 : Nat) : WMC := ((Z, ρ, n0), ("com/example/tree_for_markup/treeformarkup/RepeatedRunsMayRepeatPinLaw", method_3_code, "at", (some .boolean), 4), (j0, u0, 0, 0))
theorem a2_0 : AtI method_3_code 0 (.iload_n 1) 1 1 := ⟨by decide +kernel, rfl⟩
theorem a2_1 : AtI method_3_code 1 (.iload_n 2) 1 2 := ⟨by decide +kernel, rfl⟩
theorem a2_2 : AtJ method_3_code 2 (.if_icmp .lt) 5 24 := ⟨22, by decide +kernel, rfl, by decide, rfl⟩
theorem a2_5 : AtI method_3_code 5 (.iload_n 1) 1 6 := ⟨by decide +kernel, rfl⟩
theorem a2_6 : AtI method_3_code 6 (.iload_n 3) 1 7 := ⟨by decide +kernel, rfl⟩
theorem a2_7 : AtI method_3_code 7 (.iconst 1) 1 8 := ⟨by decide +kernel, rfl⟩
theorem a2_8 : AtI method_3_code 8 (.isub) 1 9 := ⟨by decide +kernel, rfl⟩
theorem a2_9 : AtJ method_3_code 9 (.if_icmp .ge) 12 24 := ⟨15, by decide +kernel, rfl, by decide, rfl⟩
theorem a2_12 : AtI method_3_code 12 (.aload_n 0) 1 13 := ⟨by decide +kernel, rfl⟩
theorem a2_13 : AtI method_3_code 13 (.iload_n 1) 1 14 := ⟨by decide +kernel, rfl⟩
theorem a2_14 : AtI method_3_code 14 (.caload) 1 15 := ⟨by decide +kernel, rfl⟩
theorem a2_15 : AtI method_3_code 15 (.bipush 93) 2 17 := ⟨by decide +kernel, rfl⟩
theorem a2_17 : AtJ method_3_code 17 (.if_icmp .ne) 20 24 := ⟨7, by decide +kernel, rfl, by decide, rfl⟩
theorem a2_20 : AtI method_3_code 20 (.iconst 1) 1 21 := ⟨by decide +kernel, rfl⟩
theorem a2_21 : AtJ method_3_code 21 (.goto) 24 25 := ⟨4, by decide +kernel, rfl, by decide, rfl⟩
theorem a2_24 : AtI method_3_code 24 (.iconst 0) 1 25 := ⟨by decide +kernel, rfl⟩
theorem a2_25 : AtI method_3_code 25 (.ireturn) 1 26 := ⟨by decide +kernel, rfl⟩
theorem pd2 : parseMethodDescriptor "([CIII)Z" = some ⟨[(.array .char), .int, .int, .int], some .boolean⟩ := by decide +kernel
theorem pl2 : plainFor (⟨"com/example/tree_for_markup/treeformarkup/RepeatedRunsMayRepeatPinLaw", "at", "([CIII)Z"⟩ : MethodName) = true := plainFor_of_name (by first | (simp [plainName, overriddenIn]; done) | decide +kernel)
theorem ok2 {Z : State} {a0 : Array Value} (hw : ∀ d ∈ tables_1, d.before a0 Z = true) (ρ : Nat → Nat) (n0 j0 u0 : Nat) : WCallee Z a0 (⟨"com/example/tree_for_markup/treeformarkup/RepeatedRunsMayRepeatPinLaw", "at", "([CIII)Z"⟩ : MethodName) (g2 Z ρ n0 j0 u0) 4 :=
  ⟨pl2, (by decide), rfl, rfl, rfl, (wd hw 3 rfl), (wd hw 8 rfl), fun sig h => by cases pd2.symm.trans h; rfl⟩
abbrev g3 (Z : State) (ρ : Nat → Nat) (n0 j0 u0 : Nat) : WMC := ((Z, ρ, n0), ("com/example/tree_for_markup/treeformarkup/RepeatedRuns", prog_34_method_3_code, "mayRepeat", (some .boolean), 4), (j0, u0, 0, 0))
theorem a3_0 : AtI prog_34_method_3_code 0 (.iload_n 1) 1 1 := ⟨by decide +kernel, rfl⟩
theorem a3_1 : AtI prog_34_method_3_code 1 (.istore_n 3) 1 2 := ⟨by decide +kernel, rfl⟩
theorem a3_2 : AtI prog_34_method_3_code 2 (.iload_n 3) 1 3 := ⟨by decide +kernel, rfl⟩
theorem a3_3 : AtI prog_34_method_3_code 3 (.iload_n 1) 1 4 := ⟨by decide +kernel, rfl⟩
theorem a3_4 : AtI prog_34_method_3_code 4 (.iload_n 2) 1 5 := ⟨by decide +kernel, rfl⟩
theorem a3_5 : AtI prog_34_method_3_code 5 (.iadd) 1 6 := ⟨by decide +kernel, rfl⟩
theorem a3_6 : AtI prog_34_method_3_code 6 (.iconst 1) 1 7 := ⟨by decide +kernel, rfl⟩
theorem a3_7 : AtI prog_34_method_3_code 7 (.isub) 1 8 := ⟨by decide +kernel, rfl⟩
theorem a3_8 : AtJ prog_34_method_3_code 8 (.if_icmp .ge) 11 25 := ⟨17, by decide +kernel, rfl, by decide, rfl⟩
theorem a3_11 : AtI prog_34_method_3_code 11 (.aload_n 0) 1 12 := ⟨by decide +kernel, rfl⟩
theorem a3_12 : AtI prog_34_method_3_code 12 (.iload_n 3) 1 13 := ⟨by decide +kernel, rfl⟩
theorem a3_13 : AtI prog_34_method_3_code 13 (.caload) 1 14 := ⟨by decide +kernel, rfl⟩
theorem a3_14 : AtI prog_34_method_3_code 14 (.bipush 93) 2 16 := ⟨by decide +kernel, rfl⟩
theorem a3_16 : AtJ prog_34_method_3_code 16 (.if_icmp .eq) 19 25 := ⟨9, by decide +kernel, rfl, by decide, rfl⟩
theorem a3_19 : AtI prog_34_method_3_code 19 (.iinc 3 1) 3 22 := ⟨by decide +kernel, rfl⟩
theorem a3_22 : AtJ prog_34_method_3_code 22 (.goto) 25 2 := ⟨(-20), by decide +kernel, rfl, by decide, rfl⟩
theorem a3_25 : AtI prog_34_method_3_code 25 (.iload_n 3) 1 26 := ⟨by decide +kernel, rfl⟩
theorem a3_26 : AtI prog_34_method_3_code 26 (.iload_n 1) 1 27 := ⟨by decide +kernel, rfl⟩
theorem a3_27 : AtI prog_34_method_3_code 27 (.iload_n 2) 1 28 := ⟨by decide +kernel, rfl⟩
theorem a3_28 : AtI prog_34_method_3_code 28 (.iadd) 1 29 := ⟨by decide +kernel, rfl⟩
theorem a3_29 : AtI prog_34_method_3_code 29 (.iconst 1) 1 30 := ⟨by decide +kernel, rfl⟩
theorem a3_30 : AtI prog_34_method_3_code 30 (.isub) 1 31 := ⟨by decide +kernel, rfl⟩
theorem a3_31 : AtJ prog_34_method_3_code 31 (.if_icmp .ge) 34 38 := ⟨7, by decide +kernel, rfl, by decide, rfl⟩
theorem a3_34 : AtI prog_34_method_3_code 34 (.iconst 1) 1 35 := ⟨by decide +kernel, rfl⟩
theorem a3_35 : AtJ prog_34_method_3_code 35 (.goto) 38 39 := ⟨4, by decide +kernel, rfl, by decide, rfl⟩
theorem a3_38 : AtI prog_34_method_3_code 38 (.iconst 0) 1 39 := ⟨by decide +kernel, rfl⟩
theorem a3_39 : AtI prog_34_method_3_code 39 (.ireturn) 1 40 := ⟨by decide +kernel, rfl⟩
theorem pd3 : parseMethodDescriptor "([CII)Z" = some ⟨[(.array .char), .int, .int], some .boolean⟩ := by decide +kernel
theorem pl3 : plainFor (⟨"com/example/tree_for_markup/treeformarkup/RepeatedRuns", "mayRepeat", "([CII)Z"⟩ : MethodName) = true := plainFor_of_name (by first | (simp [plainName, overriddenIn]; done) | decide +kernel)
theorem ok3 {Z : State} {a0 : Array Value} (hw : ∀ d ∈ tables_1, d.before a0 Z = true) (ρ : Nat → Nat) (n0 j0 u0 : Nat) : WCallee Z a0 (⟨"com/example/tree_for_markup/treeformarkup/RepeatedRuns", "mayRepeat", "([CII)Z"⟩ : MethodName) (g3 Z ρ n0 j0 u0) 3 :=
  ⟨pl3, (by decide), rfl, rfl, rfl, (wd hw 11 rfl), (wd hw 12 rfl), fun sig h => by cases pd3.symm.trans h; rfl⟩
abbrev g0 (Z : State) (ρ : Nat → Nat) (n0 j0 u0 : Nat) : WMC := ((Z, ρ, n0), ("com/example/tree_for_markup/treeformarkup/RepeatedRunsMayRepeatPinLaw", code, "law", ret, maxLocals), (j0, u0, 4, 112))
theorem a0_0 : AtI code 0 (.bipush 6) 2 2 := ⟨by decide +kernel, rfl⟩
theorem a0_2 : AtI code 2 (.newarray .char) 2 4 := ⟨by decide +kernel, rfl⟩
theorem a0_4 : AtI code 4 (.astore 7) 2 6 := ⟨by decide +kernel, rfl⟩
theorem a0_6 : AtI code 6 (.aload 7) 2 8 := ⟨by decide +kernel, rfl⟩
theorem a0_8 : AtI code 8 (.iconst 0) 1 9 := ⟨by decide +kernel, rfl⟩
theorem a0_9 : AtI code 9 (.iload_n 0) 1 10 := ⟨by decide +kernel, rfl⟩
theorem a0_10 : AtI code 10 (.iconst 0) 1 11 := ⟨by decide +kernel, rfl⟩
theorem a0_11 : AtI code 11 (.lload_n 1) 1 12 := ⟨by decide +kernel, rfl⟩
theorem a0_12 : AtI code 12 (.iconst 0) 1 13 := ⟨by decide +kernel, rfl⟩
theorem a0_13 : AtI code 13 (.invokestatic 7) 3 16 := ⟨by decide +kernel, rfl⟩
theorem a0_16 : AtI code 16 (.castore) 1 17 := ⟨by decide +kernel, rfl⟩
theorem a0_17 : AtI code 17 (.aload 7) 2 19 := ⟨by decide +kernel, rfl⟩
theorem a0_19 : AtI code 19 (.iconst 1) 1 20 := ⟨by decide +kernel, rfl⟩
theorem a0_20 : AtI code 20 (.iload_n 0) 1 21 := ⟨by decide +kernel, rfl⟩
theorem a0_21 : AtI code 21 (.iconst 1) 1 22 := ⟨by decide +kernel, rfl⟩
theorem a0_22 : AtI code 22 (.lload_n 1) 1 23 := ⟨by decide +kernel, rfl⟩
theorem a0_23 : AtI code 23 (.iconst 1) 1 24 := ⟨by decide +kernel, rfl⟩
theorem a0_24 : AtI code 24 (.invokestatic 7) 3 27 := ⟨by decide +kernel, rfl⟩
theorem a0_27 : AtI code 27 (.castore) 1 28 := ⟨by decide +kernel, rfl⟩
theorem a0_28 : AtI code 28 (.aload 7) 2 30 := ⟨by decide +kernel, rfl⟩
theorem a0_30 : AtI code 30 (.iconst 2) 1 31 := ⟨by decide +kernel, rfl⟩
theorem a0_31 : AtI code 31 (.iload_n 0) 1 32 := ⟨by decide +kernel, rfl⟩
theorem a0_32 : AtI code 32 (.iconst 2) 1 33 := ⟨by decide +kernel, rfl⟩
theorem a0_33 : AtI code 33 (.lload_n 1) 1 34 := ⟨by decide +kernel, rfl⟩
theorem a0_34 : AtI code 34 (.iconst 2) 1 35 := ⟨by decide +kernel, rfl⟩
theorem a0_35 : AtI code 35 (.invokestatic 7) 3 38 := ⟨by decide +kernel, rfl⟩
theorem a0_38 : AtI code 38 (.castore) 1 39 := ⟨by decide +kernel, rfl⟩
theorem a0_39 : AtI code 39 (.aload 7) 2 41 := ⟨by decide +kernel, rfl⟩
theorem a0_41 : AtI code 41 (.iconst 3) 1 42 := ⟨by decide +kernel, rfl⟩
theorem a0_42 : AtI code 42 (.iload_n 0) 1 43 := ⟨by decide +kernel, rfl⟩
theorem a0_43 : AtI code 43 (.iconst 3) 1 44 := ⟨by decide +kernel, rfl⟩
theorem a0_44 : AtI code 44 (.lload_n 1) 1 45 := ⟨by decide +kernel, rfl⟩
theorem a0_45 : AtI code 45 (.iconst 3) 1 46 := ⟨by decide +kernel, rfl⟩
theorem a0_46 : AtI code 46 (.invokestatic 7) 3 49 := ⟨by decide +kernel, rfl⟩
theorem a0_49 : AtI code 49 (.castore) 1 50 := ⟨by decide +kernel, rfl⟩
theorem a0_50 : AtI code 50 (.aload 7) 2 52 := ⟨by decide +kernel, rfl⟩
theorem a0_52 : AtI code 52 (.iconst 4) 1 53 := ⟨by decide +kernel, rfl⟩
theorem a0_53 : AtI code 53 (.iload_n 0) 1 54 := ⟨by decide +kernel, rfl⟩
theorem a0_54 : AtI code 54 (.iconst 4) 1 55 := ⟨by decide +kernel, rfl⟩
theorem a0_55 : AtI code 55 (.lload_n 3) 1 56 := ⟨by decide +kernel, rfl⟩
theorem a0_56 : AtI code 56 (.iconst 0) 1 57 := ⟨by decide +kernel, rfl⟩
theorem a0_57 : AtI code 57 (.invokestatic 7) 3 60 := ⟨by decide +kernel, rfl⟩
theorem a0_60 : AtI code 60 (.castore) 1 61 := ⟨by decide +kernel, rfl⟩
theorem a0_61 : AtI code 61 (.aload 7) 2 63 := ⟨by decide +kernel, rfl⟩
theorem a0_63 : AtI code 63 (.iconst 5) 1 64 := ⟨by decide +kernel, rfl⟩
theorem a0_64 : AtI code 64 (.iload_n 0) 1 65 := ⟨by decide +kernel, rfl⟩
theorem a0_65 : AtI code 65 (.iconst 5) 1 66 := ⟨by decide +kernel, rfl⟩
theorem a0_66 : AtI code 66 (.lload_n 3) 1 67 := ⟨by decide +kernel, rfl⟩
theorem a0_67 : AtI code 67 (.iconst 1) 1 68 := ⟨by decide +kernel, rfl⟩
theorem a0_68 : AtI code 68 (.invokestatic 7) 3 71 := ⟨by decide +kernel, rfl⟩
theorem a0_71 : AtI code 71 (.castore) 1 72 := ⟨by decide +kernel, rfl⟩
theorem a0_72 : AtI code 72 (.iload 5) 2 74 := ⟨by decide +kernel, rfl⟩
theorem a0_74 : AtI code 74 (.ldc 13) 2 76 := ⟨by decide +kernel, rfl⟩
theorem a0_76 : AtI code 76 (.iand) 1 77 := ⟨by decide +kernel, rfl⟩
theorem a0_77 : AtI code 77 (.bipush 7) 2 79 := ⟨by decide +kernel, rfl⟩
theorem a0_79 : AtI code 79 (.irem) 1 80 := ⟨by decide +kernel, rfl⟩
theorem a0_80 : AtI code 80 (.istore 8) 2 82 := ⟨by decide +kernel, rfl⟩
theorem a0_82 : AtI code 82 (.iload 6) 2 84 := ⟨by decide +kernel, rfl⟩
theorem a0_84 : AtI code 84 (.ldc 13) 2 86 := ⟨by decide +kernel, rfl⟩
theorem a0_86 : AtI code 86 (.iand) 1 87 := ⟨by decide +kernel, rfl⟩
theorem a0_87 : AtI code 87 (.bipush 7) 2 89 := ⟨by decide +kernel, rfl⟩
theorem a0_89 : AtI code 89 (.iload 8) 2 91 := ⟨by decide +kernel, rfl⟩
theorem a0_91 : AtI code 91 (.isub) 1 92 := ⟨by decide +kernel, rfl⟩
theorem a0_92 : AtI code 92 (.irem) 1 93 := ⟨by decide +kernel, rfl⟩
theorem a0_93 : AtI code 93 (.istore 9) 2 95 := ⟨by decide +kernel, rfl⟩
theorem a0_95 : AtI code 95 (.iload 8) 2 97 := ⟨by decide +kernel, rfl⟩
theorem a0_97 : AtI code 97 (.iload 9) 2 99 := ⟨by decide +kernel, rfl⟩
theorem a0_99 : AtI code 99 (.iadd) 1 100 := ⟨by decide +kernel, rfl⟩
theorem a0_100 : AtI code 100 (.istore 10) 2 102 := ⟨by decide +kernel, rfl⟩
theorem a0_102 : AtI code 102 (.aload 7) 2 104 := ⟨by decide +kernel, rfl⟩
theorem a0_104 : AtI code 104 (.iconst 0) 1 105 := ⟨by decide +kernel, rfl⟩
theorem a0_105 : AtI code 105 (.iload 8) 2 107 := ⟨by decide +kernel, rfl⟩
theorem a0_107 : AtI code 107 (.iload 10) 2 109 := ⟨by decide +kernel, rfl⟩
theorem a0_109 : AtI code 109 (.invokestatic 14) 3 112 := ⟨by decide +kernel, rfl⟩
theorem a0_112 : AtJ code 112 (.ifCond .ne) 115 180 := ⟨68, by decide +kernel, rfl, by decide, rfl⟩
theorem a0_115 : AtI code 115 (.aload 7) 2 117 := ⟨by decide +kernel, rfl⟩
theorem a0_117 : AtI code 117 (.iconst 1) 1 118 := ⟨by decide +kernel, rfl⟩
theorem a0_118 : AtI code 118 (.iload 8) 2 120 := ⟨by decide +kernel, rfl⟩
theorem a0_120 : AtI code 120 (.iload 10) 2 122 := ⟨by decide +kernel, rfl⟩
theorem a0_122 : AtI code 122 (.invokestatic 14) 3 125 := ⟨by decide +kernel, rfl⟩
theorem a0_125 : AtJ code 125 (.ifCond .ne) 128 180 := ⟨55, by decide +kernel, rfl, by decide, rfl⟩
theorem a0_128 : AtI code 128 (.aload 7) 2 130 := ⟨by decide +kernel, rfl⟩
theorem a0_130 : AtI code 130 (.iconst 2) 1 131 := ⟨by decide +kernel, rfl⟩
theorem a0_131 : AtI code 131 (.iload 8) 2 133 := ⟨by decide +kernel, rfl⟩
theorem a0_133 : AtI code 133 (.iload 10) 2 135 := ⟨by decide +kernel, rfl⟩
theorem a0_135 : AtI code 135 (.invokestatic 14) 3 138 := ⟨by decide +kernel, rfl⟩
theorem a0_138 : AtJ code 138 (.ifCond .ne) 141 180 := ⟨42, by decide +kernel, rfl, by decide, rfl⟩
theorem a0_141 : AtI code 141 (.aload 7) 2 143 := ⟨by decide +kernel, rfl⟩
theorem a0_143 : AtI code 143 (.iconst 3) 1 144 := ⟨by decide +kernel, rfl⟩
theorem a0_144 : AtI code 144 (.iload 8) 2 146 := ⟨by decide +kernel, rfl⟩
theorem a0_146 : AtI code 146 (.iload 10) 2 148 := ⟨by decide +kernel, rfl⟩
theorem a0_148 : AtI code 148 (.invokestatic 14) 3 151 := ⟨by decide +kernel, rfl⟩
theorem a0_151 : AtJ code 151 (.ifCond .ne) 154 180 := ⟨29, by decide +kernel, rfl, by decide, rfl⟩
theorem a0_154 : AtI code 154 (.aload 7) 2 156 := ⟨by decide +kernel, rfl⟩
theorem a0_156 : AtI code 156 (.iconst 4) 1 157 := ⟨by decide +kernel, rfl⟩
theorem a0_157 : AtI code 157 (.iload 8) 2 159 := ⟨by decide +kernel, rfl⟩
theorem a0_159 : AtI code 159 (.iload 10) 2 161 := ⟨by decide +kernel, rfl⟩
theorem a0_161 : AtI code 161 (.invokestatic 14) 3 164 := ⟨by decide +kernel, rfl⟩
theorem a0_164 : AtJ code 164 (.ifCond .ne) 167 180 := ⟨16, by decide +kernel, rfl, by decide, rfl⟩
theorem a0_167 : AtI code 167 (.aload 7) 2 169 := ⟨by decide +kernel, rfl⟩
theorem a0_169 : AtI code 169 (.iconst 5) 1 170 := ⟨by decide +kernel, rfl⟩
theorem a0_170 : AtI code 170 (.iload 8) 2 172 := ⟨by decide +kernel, rfl⟩
theorem a0_172 : AtI code 172 (.iload 10) 2 174 := ⟨by decide +kernel, rfl⟩
theorem a0_174 : AtI code 174 (.invokestatic 14) 3 177 := ⟨by decide +kernel, rfl⟩
theorem a0_177 : AtJ code 177 (.ifCond .eq) 180 184 := ⟨7, by decide +kernel, rfl, by decide, rfl⟩
theorem a0_180 : AtI code 180 (.iconst 1) 1 181 := ⟨by decide +kernel, rfl⟩
theorem a0_181 : AtJ code 181 (.goto) 184 185 := ⟨4, by decide +kernel, rfl, by decide, rfl⟩
theorem a0_184 : AtI code 184 (.iconst 0) 1 185 := ⟨by decide +kernel, rfl⟩
theorem a0_185 : AtI code 185 (.istore 11) 2 187 := ⟨by decide +kernel, rfl⟩
theorem a0_187 : AtI code 187 (.aload 7) 2 189 := ⟨by decide +kernel, rfl⟩
theorem a0_189 : AtI code 189 (.iload 8) 2 191 := ⟨by decide +kernel, rfl⟩
theorem a0_191 : AtI code 191 (.iload 9) 2 193 := ⟨by decide +kernel, rfl⟩
theorem a0_193 : AtI code 193 (.invokestatic 18) 3 196 := ⟨by decide +kernel, rfl⟩
theorem a0_196 : AtI code 196 (.iload 11) 2 198 := ⟨by decide +kernel, rfl⟩
theorem a0_198 : AtJ code 198 (.if_icmp .ne) 201 205 := ⟨7, by decide +kernel, rfl, by decide, rfl⟩
theorem a0_201 : AtI code 201 (.iconst 1) 1 202 := ⟨by decide +kernel, rfl⟩
theorem a0_202 : AtJ code 202 (.goto) 205 206 := ⟨4, by decide +kernel, rfl, by decide, rfl⟩
theorem a0_205 : AtI code 205 (.iconst 0) 1 206 := ⟨by decide +kernel, rfl⟩
theorem a0_206 : AtI code 206 (.ireturn) 1 207 := ⟨by decide +kernel, rfl⟩
theorem c1 {Z : State} {a0 : Array Value} (hw : ∀ d ∈ tables_1, d.before a0 Z = true) (ρ : Nat → Nat) (n0 : Nat) (s i : Int32) (b : Int64) (k : Int32) (σ : WHp) (u : Nat) : WGo (g1 Z ρ n0 σ.length u) (0, [wI s, wI i, wJ b, wS, wI k, wU], [], σ, u) (fun v σ' u' => (∃ z, v = some (.int z)) ∧ σ = σ' ∧ u = u') := by
  refine WGo.s (WStep.iloadN a1_0 rfl) ?_
  refine WGo.s (WStep.iconst (2 : Int32) a1_1 rfl) ?_
  refine WGo.s (WStep.iloadN a1_2 rfl) ?_
  refine WGo.s (WStep.imul a1_3) ?_
  refine WGo.s (WStep.iushr a1_4) ?_
  refine WGo.s (WStep.iconst (3 : Int32) a1_5 rfl) ?_
  refine WGo.s (WStep.iand a1_6) ?_
  refine WGo.s (WStep.istore (L' := [wI s, wI i, wJ b, wS, wI k, wI (((s.toUInt32 >>> (((2 : Int32) * i) &&& 31).toUInt32).toInt32) &&& (3 : Int32))]) a1_7 rfl) ?_
  refine WGo.s (WStep.iload a1_9 rfl) ?_
  refine WGo.ne0 a1_11 (fun h11 => ?_) (fun h11 => ?_)
  · refine WGo.s (WStep.lloadN a1_17 rfl) ?_
    refine WGo.s (WStep.bipush (16 : Int32) a1_18 rfl) ?_
    refine WGo.s (WStep.iload a1_20 rfl) ?_
    refine WGo.s (WStep.imul a1_22) ?_
    refine WGo.s (WStep.lushr a1_23) ?_
    refine WGo.s (WStep.l2i a1_24) ?_
    refine WGo.s (WStep.i2c a1_25) ?_
    refine WGo.ireturn .char a1_26 rfl (by simp) ?_
    exact ⟨⟨_, rfl⟩, rfl, rfl⟩
  · refine WGo.s (WStep.bipush (93 : Int32) a1_14 rfl) ?_
    refine WGo.ireturn .char a1_16 rfl (by simp) ?_
    exact ⟨⟨_, rfl⟩, rfl, rfl⟩
def P2 (i s e c : Int32) : Prop := ¬ i < s ∧ i < e - 1 ∧ c = 93
theorem c2 {Z : State} {a0 : Array Value} (hw : ∀ d ∈ tables_1, d.before a0 Z = true) (ρ : Nat → Nat) (n0 : Nat) (x0 x1 x2 x3 x4 x5 : Int32) (i s e c : Int32) (n : Nat) (q1 : ¬ i < 0) (q2 : i.toNatClampNeg = n) (q3 : ([(.int x0), (.int x1), (.int x2), (.int x3), (.int x4), (.int x5)] : List Value)[n]? = some (.int c)) (u : Nat) : WGo (g2 Z ρ n0 1 u) (0, [wR 0, wI i, wI s, wI e], [], [(.inl (.char, [(.int x0), (.int x1), (.int x2), (.int x3), (.int x4), (.int x5)]))], u) (QB (P2 i s e c) [(.inl (.char, [(.int x0), (.int x1), (.int x2), (.int x3), (.int x4), (.int x5)]))] u) := by
  refine WGo.s (WStep.iloadN a2_0 rfl) ?_
  refine WGo.s (WStep.iloadN a2_1 rfl) ?_
  refine WGo.lt a2_2 (fun h2 => ?_) (fun h2 => ?_)
  · refine WGo.s (WStep.iconst (0 : Int32) a2_24 rfl) ?_
    refine WGo.ireturn .boolean a2_25 rfl (by simp) ?_
    exact QB.no fun q => q.1 h2
  · refine WGo.s (WStep.iloadN a2_5 rfl) ?_
    refine WGo.s (WStep.iloadN a2_6 rfl) ?_
    refine WGo.s (WStep.iconst (1 : Int32) a2_7 rfl) ?_
    refine WGo.s (WStep.isub a2_8) ?_
    refine WGo.ge a2_9 (fun h9 => ?_) (fun h9 => ?_)
    · refine WGo.s (WStep.iconst (0 : Int32) a2_24 rfl) ?_
      refine WGo.ireturn .boolean a2_25 rfl (by simp) ?_
      exact QB.no fun q => h9 q.2.1
    · refine WGo.s (WStep.aloadN a2_12 rfl rfl) ?_
      refine WGo.s (WStep.iloadN a2_13 rfl) ?_
      refine WGo.s (WStep.caload (n) (v := (.int c)) a2_14 rfl q1 q2 q3) ?_
      refine WGo.s (WStep.bipush (93 : Int32) a2_15 rfl) ?_
      refine WGo.ne a2_17 (fun h17 => ?_) (fun h17 => ?_)
      · refine WGo.s (WStep.iconst (0 : Int32) a2_24 rfl) ?_
        refine WGo.ireturn .boolean a2_25 rfl (by simp) ?_
        exact QB.no fun q => h17 q.2.2
      · refine WGo.s (WStep.iconst (1 : Int32) a2_20 rfl) ?_
        refine WGo.s (WStep.goto a2_21) ?_
        refine WGo.ireturn .boolean a2_25 rfl (by simp) ?_
        exact QB.yes ⟨h2, h9, h17⟩
theorem c3_00 {Z : State} {a0 : Array Value} (hw : ∀ d ∈ tables_1, d.before a0 Z = true) (ρ : Nat → Nat) (n0 : Nat) (x0 x1 x2 x3 x4 x5 : Int32) (u : Nat) : WGo (g3 Z ρ n0 1 u) (0, [wR 0, wI 0, wI 0, wU], [], [(.inl (.char, [(.int x0), (.int x1), (.int x2), (.int x3), (.int x4), (.int x5)]))], u) (QB (False) [(.inl (.char, [(.int x0), (.int x1), (.int x2), (.int x3), (.int x4), (.int x5)]))] u) := by
  refine WGo.s (WStep.iloadN a3_0 rfl) ?_
  refine WGo.s (WStep.istoreN (L' := [wR 0, wI 0, wI 0, wI 0]) a3_1 rfl) ?_
  refine WGo.s (WStep.iloadN a3_2 rfl) ?_
  refine WGo.s (WStep.iloadN a3_3 rfl) ?_
  refine WGo.s (WStep.iloadN a3_4 rfl) ?_
  refine WGo.s (WStep.iadd a3_5) ?_
  show WGo _ (6, [wR 0, wI 0, wI 0, wI 0], [.int 0, .int 0], [(.inl (.char, [(.int x0), (.int x1), (.int x2), (.int x3), (.int x4), (.int x5)]))], u) _
  refine WGo.s (WStep.iconst (1 : Int32) a3_6 rfl) ?_
  refine WGo.s (WStep.isub a3_7) ?_
  show WGo _ (8, [wR 0, wI 0, wI 0, wI 0], [.int (-1), .int 0], [(.inl (.char, [(.int x0), (.int x1), (.int x2), (.int x3), (.int x4), (.int x5)]))], u) _
  refine WGo.s (WStep.icmpT a3_8 (by decide)) ?_
  refine WGo.s (WStep.iloadN a3_25 rfl) ?_
  refine WGo.s (WStep.iloadN a3_26 rfl) ?_
  refine WGo.s (WStep.iloadN a3_27 rfl) ?_
  refine WGo.s (WStep.iadd a3_28) ?_
  show WGo _ (29, [wR 0, wI 0, wI 0, wI 0], [.int 0, .int 0], [(.inl (.char, [(.int x0), (.int x1), (.int x2), (.int x3), (.int x4), (.int x5)]))], u) _
  refine WGo.s (WStep.iconst (1 : Int32) a3_29 rfl) ?_
  refine WGo.s (WStep.isub a3_30) ?_
  show WGo _ (31, [wR 0, wI 0, wI 0, wI 0], [.int (-1), .int 0], [(.inl (.char, [(.int x0), (.int x1), (.int x2), (.int x3), (.int x4), (.int x5)]))], u) _
  refine WGo.s (WStep.icmpT a3_31 (by decide)) ?_
  refine WGo.s (WStep.iconst (0 : Int32) a3_38 rfl) ?_
  refine WGo.ireturn .boolean a3_39 rfl (by simp) ?_
  exact QB.no (by simp_all)
theorem c3_01 {Z : State} {a0 : Array Value} (hw : ∀ d ∈ tables_1, d.before a0 Z = true) (ρ : Nat → Nat) (n0 : Nat) (x0 x1 x2 x3 x4 x5 : Int32) (u : Nat) : WGo (g3 Z ρ n0 1 u) (0, [wR 0, wI 0, wI 1, wU], [], [(.inl (.char, [(.int x0), (.int x1), (.int x2), (.int x3), (.int x4), (.int x5)]))], u) (QB (False) [(.inl (.char, [(.int x0), (.int x1), (.int x2), (.int x3), (.int x4), (.int x5)]))] u) := by
  refine WGo.s (WStep.iloadN a3_0 rfl) ?_
  refine WGo.s (WStep.istoreN (L' := [wR 0, wI 0, wI 1, wI 0]) a3_1 rfl) ?_
  refine WGo.s (WStep.iloadN a3_2 rfl) ?_
  refine WGo.s (WStep.iloadN a3_3 rfl) ?_
  refine WGo.s (WStep.iloadN a3_4 rfl) ?_
  refine WGo.s (WStep.iadd a3_5) ?_
  show WGo _ (6, [wR 0, wI 0, wI 1, wI 0], [.int 1, .int 0], [(.inl (.char, [(.int x0), (.int x1), (.int x2), (.int x3), (.int x4), (.int x5)]))], u) _
  refine WGo.s (WStep.iconst (1 : Int32) a3_6 rfl) ?_
  refine WGo.s (WStep.isub a3_7) ?_
  show WGo _ (8, [wR 0, wI 0, wI 1, wI 0], [.int 0, .int 0], [(.inl (.char, [(.int x0), (.int x1), (.int x2), (.int x3), (.int x4), (.int x5)]))], u) _
  refine WGo.s (WStep.icmpT a3_8 (by decide)) ?_
  refine WGo.s (WStep.iloadN a3_25 rfl) ?_
  refine WGo.s (WStep.iloadN a3_26 rfl) ?_
  refine WGo.s (WStep.iloadN a3_27 rfl) ?_
  refine WGo.s (WStep.iadd a3_28) ?_
  show WGo _ (29, [wR 0, wI 0, wI 1, wI 0], [.int 1, .int 0], [(.inl (.char, [(.int x0), (.int x1), (.int x2), (.int x3), (.int x4), (.int x5)]))], u) _
  refine WGo.s (WStep.iconst (1 : Int32) a3_29 rfl) ?_
  refine WGo.s (WStep.isub a3_30) ?_
  show WGo _ (31, [wR 0, wI 0, wI 1, wI 0], [.int 0, .int 0], [(.inl (.char, [(.int x0), (.int x1), (.int x2), (.int x3), (.int x4), (.int x5)]))], u) _
  refine WGo.s (WStep.icmpT a3_31 (by decide)) ?_
  refine WGo.s (WStep.iconst (0 : Int32) a3_38 rfl) ?_
  refine WGo.ireturn .boolean a3_39 rfl (by simp) ?_
  exact QB.no (by simp_all)
theorem c3_02 {Z : State} {a0 : Array Value} (hw : ∀ d ∈ tables_1, d.before a0 Z = true) (ρ : Nat → Nat) (n0 : Nat) (x0 x1 x2 x3 x4 x5 : Int32) (u : Nat) : WGo (g3 Z ρ n0 1 u) (0, [wR 0, wI 0, wI 2, wU], [], [(.inl (.char, [(.int x0), (.int x1), (.int x2), (.int x3), (.int x4), (.int x5)]))], u) (QB (x0 = 93) [(.inl (.char, [(.int x0), (.int x1), (.int x2), (.int x3), (.int x4), (.int x5)]))] u) := by
  refine WGo.s (WStep.iloadN a3_0 rfl) ?_
  refine WGo.s (WStep.istoreN (L' := [wR 0, wI 0, wI 2, wI 0]) a3_1 rfl) ?_
  refine WGo.s (WStep.iloadN a3_2 rfl) ?_
  refine WGo.s (WStep.iloadN a3_3 rfl) ?_
  refine WGo.s (WStep.iloadN a3_4 rfl) ?_
  refine WGo.s (WStep.iadd a3_5) ?_
  show WGo _ (6, [wR 0, wI 0, wI 2, wI 0], [.int 2, .int 0], [(.inl (.char, [(.int x0), (.int x1), (.int x2), (.int x3), (.int x4), (.int x5)]))], u) _
  refine WGo.s (WStep.iconst (1 : Int32) a3_6 rfl) ?_
  refine WGo.s (WStep.isub a3_7) ?_
  show WGo _ (8, [wR 0, wI 0, wI 2, wI 0], [.int 1, .int 0], [(.inl (.char, [(.int x0), (.int x1), (.int x2), (.int x3), (.int x4), (.int x5)]))], u) _
  refine WGo.s (WStep.icmpF a3_8 (by decide)) ?_
  refine WGo.s (WStep.aloadN a3_11 rfl rfl) ?_
  refine WGo.s (WStep.iloadN a3_12 rfl) ?_
  refine WGo.s (WStep.caload 0 a3_13 rfl (by decide) rfl rfl) ?_
  refine WGo.s (WStep.bipush (93 : Int32) a3_14 rfl) ?_
  refine WGo.eq a3_16 (fun h16 => ?_) (fun h16 => ?_)
  · refine WGo.s (WStep.iloadN a3_25 rfl) ?_
    refine WGo.s (WStep.iloadN a3_26 rfl) ?_
    refine WGo.s (WStep.iloadN a3_27 rfl) ?_
    refine WGo.s (WStep.iadd a3_28) ?_
    show WGo _ (29, [wR 0, wI 0, wI 2, wI 0], [.int 2, .int 0], [(.inl (.char, [(.int x0), (.int x1), (.int x2), (.int x3), (.int x4), (.int x5)]))], u) _
    refine WGo.s (WStep.iconst (1 : Int32) a3_29 rfl) ?_
    refine WGo.s (WStep.isub a3_30) ?_
    show WGo _ (31, [wR 0, wI 0, wI 2, wI 0], [.int 1, .int 0], [(.inl (.char, [(.int x0), (.int x1), (.int x2), (.int x3), (.int x4), (.int x5)]))], u) _
    refine WGo.s (WStep.icmpF a3_31 (by decide)) ?_
    refine WGo.s (WStep.iconst (1 : Int32) a3_34 rfl) ?_
    refine WGo.s (WStep.goto a3_35) ?_
    refine WGo.ireturn .boolean a3_39 rfl (by simp) ?_
    exact QB.yes (by simp_all)
  · refine WGo.s (WStep.iinc (L' := [wR 0, wI 0, wI 2, wI 1]) a3_19 rfl rfl) ?_
    refine WGo.s (WStep.goto a3_22) ?_
    refine WGo.s (WStep.iloadN a3_2 rfl) ?_
    refine WGo.s (WStep.iloadN a3_3 rfl) ?_
    refine WGo.s (WStep.iloadN a3_4 rfl) ?_
    refine WGo.s (WStep.iadd a3_5) ?_
    show WGo _ (6, [wR 0, wI 0, wI 2, wI 1], [.int 2, .int 1], [(.inl (.char, [(.int x0), (.int x1), (.int x2), (.int x3), (.int x4), (.int x5)]))], u) _
    refine WGo.s (WStep.iconst (1 : Int32) a3_6 rfl) ?_
    refine WGo.s (WStep.isub a3_7) ?_
    show WGo _ (8, [wR 0, wI 0, wI 2, wI 1], [.int 1, .int 1], [(.inl (.char, [(.int x0), (.int x1), (.int x2), (.int x3), (.int x4), (.int x5)]))], u) _
    refine WGo.s (WStep.icmpT a3_8 (by decide)) ?_
    refine WGo.s (WStep.iloadN a3_25 rfl) ?_
    refine WGo.s (WStep.iloadN a3_26 rfl) ?_
    refine WGo.s (WStep.iloadN a3_27 rfl) ?_
    refine WGo.s (WStep.iadd a3_28) ?_
    show WGo _ (29, [wR 0, wI 0, wI 2, wI 1], [.int 2, .int 1], [(.inl (.char, [(.int x0), (.int x1), (.int x2), (.int x3), (.int x4), (.int x5)]))], u) _
    refine WGo.s (WStep.iconst (1 : Int32) a3_29 rfl) ?_
    refine WGo.s (WStep.isub a3_30) ?_
    show WGo _ (31, [wR 0, wI 0, wI 2, wI 1], [.int 1, .int 1], [(.inl (.char, [(.int x0), (.int x1), (.int x2), (.int x3), (.int x4), (.int x5)]))], u) _
    refine WGo.s (WStep.icmpT a3_31 (by decide)) ?_
    refine WGo.s (WStep.iconst (0 : Int32) a3_38 rfl) ?_
    refine WGo.ireturn .boolean a3_39 rfl (by simp) ?_
    exact QB.no (by simp_all)
theorem c3_03 {Z : State} {a0 : Array Value} (hw : ∀ d ∈ tables_1, d.before a0 Z = true) (ρ : Nat → Nat) (n0 : Nat) (x0 x1 x2 x3 x4 x5 : Int32) (u : Nat) : WGo (g3 Z ρ n0 1 u) (0, [wR 0, wI 0, wI 3, wU], [], [(.inl (.char, [(.int x0), (.int x1), (.int x2), (.int x3), (.int x4), (.int x5)]))], u) (QB (x0 = 93 ∨ x1 = 93) [(.inl (.char, [(.int x0), (.int x1), (.int x2), (.int x3), (.int x4), (.int x5)]))] u) := by
  refine WGo.s (WStep.iloadN a3_0 rfl) ?_
  refine WGo.s (WStep.istoreN (L' := [wR 0, wI 0, wI 3, wI 0]) a3_1 rfl) ?_
  refine WGo.s (WStep.iloadN a3_2 rfl) ?_
  refine WGo.s (WStep.iloadN a3_3 rfl) ?_
  refine WGo.s (WStep.iloadN a3_4 rfl) ?_
  refine WGo.s (WStep.iadd a3_5) ?_
  show WGo _ (6, [wR 0, wI 0, wI 3, wI 0], [.int 3, .int 0], [(.inl (.char, [(.int x0), (.int x1), (.int x2), (.int x3), (.int x4), (.int x5)]))], u) _
  refine WGo.s (WStep.iconst (1 : Int32) a3_6 rfl) ?_
  refine WGo.s (WStep.isub a3_7) ?_
  show WGo _ (8, [wR 0, wI 0, wI 3, wI 0], [.int 2, .int 0], [(.inl (.char, [(.int x0), (.int x1), (.int x2), (.int x3), (.int x4), (.int x5)]))], u) _
  refine WGo.s (WStep.icmpF a3_8 (by decide)) ?_
  refine WGo.s (WStep.aloadN a3_11 rfl rfl) ?_
  refine WGo.s (WStep.iloadN a3_12 rfl) ?_
  refine WGo.s (WStep.caload 0 a3_13 rfl (by decide) rfl rfl) ?_
  refine WGo.s (WStep.bipush (93 : Int32) a3_14 rfl) ?_
  refine WGo.eq a3_16 (fun h16 => ?_) (fun h16 => ?_)
  · refine WGo.s (WStep.iloadN a3_25 rfl) ?_
    refine WGo.s (WStep.iloadN a3_26 rfl) ?_
    refine WGo.s (WStep.iloadN a3_27 rfl) ?_
    refine WGo.s (WStep.iadd a3_28) ?_
    show WGo _ (29, [wR 0, wI 0, wI 3, wI 0], [.int 3, .int 0], [(.inl (.char, [(.int x0), (.int x1), (.int x2), (.int x3), (.int x4), (.int x5)]))], u) _
    refine WGo.s (WStep.iconst (1 : Int32) a3_29 rfl) ?_
    refine WGo.s (WStep.isub a3_30) ?_
    show WGo _ (31, [wR 0, wI 0, wI 3, wI 0], [.int 2, .int 0], [(.inl (.char, [(.int x0), (.int x1), (.int x2), (.int x3), (.int x4), (.int x5)]))], u) _
    refine WGo.s (WStep.icmpF a3_31 (by decide)) ?_
    refine WGo.s (WStep.iconst (1 : Int32) a3_34 rfl) ?_
    refine WGo.s (WStep.goto a3_35) ?_
    refine WGo.ireturn .boolean a3_39 rfl (by simp) ?_
    exact QB.yes (by simp_all)
  · refine WGo.s (WStep.iinc (L' := [wR 0, wI 0, wI 3, wI 1]) a3_19 rfl rfl) ?_
    refine WGo.s (WStep.goto a3_22) ?_
    refine WGo.s (WStep.iloadN a3_2 rfl) ?_
    refine WGo.s (WStep.iloadN a3_3 rfl) ?_
    refine WGo.s (WStep.iloadN a3_4 rfl) ?_
    refine WGo.s (WStep.iadd a3_5) ?_
    show WGo _ (6, [wR 0, wI 0, wI 3, wI 1], [.int 3, .int 1], [(.inl (.char, [(.int x0), (.int x1), (.int x2), (.int x3), (.int x4), (.int x5)]))], u) _
    refine WGo.s (WStep.iconst (1 : Int32) a3_6 rfl) ?_
    refine WGo.s (WStep.isub a3_7) ?_
    show WGo _ (8, [wR 0, wI 0, wI 3, wI 1], [.int 2, .int 1], [(.inl (.char, [(.int x0), (.int x1), (.int x2), (.int x3), (.int x4), (.int x5)]))], u) _
    refine WGo.s (WStep.icmpF a3_8 (by decide)) ?_
    refine WGo.s (WStep.aloadN a3_11 rfl rfl) ?_
    refine WGo.s (WStep.iloadN a3_12 rfl) ?_
    refine WGo.s (WStep.caload 1 a3_13 rfl (by decide) rfl rfl) ?_
    refine WGo.s (WStep.bipush (93 : Int32) a3_14 rfl) ?_
    refine WGo.eq a3_16 (fun h16_1 => ?_) (fun h16_1 => ?_)
    · refine WGo.s (WStep.iloadN a3_25 rfl) ?_
      refine WGo.s (WStep.iloadN a3_26 rfl) ?_
      refine WGo.s (WStep.iloadN a3_27 rfl) ?_
      refine WGo.s (WStep.iadd a3_28) ?_
      show WGo _ (29, [wR 0, wI 0, wI 3, wI 1], [.int 3, .int 1], [(.inl (.char, [(.int x0), (.int x1), (.int x2), (.int x3), (.int x4), (.int x5)]))], u) _
      refine WGo.s (WStep.iconst (1 : Int32) a3_29 rfl) ?_
      refine WGo.s (WStep.isub a3_30) ?_
      show WGo _ (31, [wR 0, wI 0, wI 3, wI 1], [.int 2, .int 1], [(.inl (.char, [(.int x0), (.int x1), (.int x2), (.int x3), (.int x4), (.int x5)]))], u) _
      refine WGo.s (WStep.icmpF a3_31 (by decide)) ?_
      refine WGo.s (WStep.iconst (1 : Int32) a3_34 rfl) ?_
      refine WGo.s (WStep.goto a3_35) ?_
      refine WGo.ireturn .boolean a3_39 rfl (by simp) ?_
      exact QB.yes (by simp_all)
    · refine WGo.s (WStep.iinc (L' := [wR 0, wI 0, wI 3, wI 2]) a3_19 rfl rfl) ?_
      refine WGo.s (WStep.goto a3_22) ?_
      refine WGo.s (WStep.iloadN a3_2 rfl) ?_
      refine WGo.s (WStep.iloadN a3_3 rfl) ?_
      refine WGo.s (WStep.iloadN a3_4 rfl) ?_
      refine WGo.s (WStep.iadd a3_5) ?_
      show WGo _ (6, [wR 0, wI 0, wI 3, wI 2], [.int 3, .int 2], [(.inl (.char, [(.int x0), (.int x1), (.int x2), (.int x3), (.int x4), (.int x5)]))], u) _
      refine WGo.s (WStep.iconst (1 : Int32) a3_6 rfl) ?_
      refine WGo.s (WStep.isub a3_7) ?_
      show WGo _ (8, [wR 0, wI 0, wI 3, wI 2], [.int 2, .int 2], [(.inl (.char, [(.int x0), (.int x1), (.int x2), (.int x3), (.int x4), (.int x5)]))], u) _
      refine WGo.s (WStep.icmpT a3_8 (by decide)) ?_
      refine WGo.s (WStep.iloadN a3_25 rfl) ?_
      refine WGo.s (WStep.iloadN a3_26 rfl) ?_
      refine WGo.s (WStep.iloadN a3_27 rfl) ?_
      refine WGo.s (WStep.iadd a3_28) ?_
      show WGo _ (29, [wR 0, wI 0, wI 3, wI 2], [.int 3, .int 2], [(.inl (.char, [(.int x0), (.int x1), (.int x2), (.int x3), (.int x4), (.int x5)]))], u) _
      refine WGo.s (WStep.iconst (1 : Int32) a3_29 rfl) ?_
      refine WGo.s (WStep.isub a3_30) ?_
      show WGo _ (31, [wR 0, wI 0, wI 3, wI 2], [.int 2, .int 2], [(.inl (.char, [(.int x0), (.int x1), (.int x2), (.int x3), (.int x4), (.int x5)]))], u) _
      refine WGo.s (WStep.icmpT a3_31 (by decide)) ?_
      refine WGo.s (WStep.iconst (0 : Int32) a3_38 rfl) ?_
      refine WGo.ireturn .boolean a3_39 rfl (by simp) ?_
      exact QB.no (by simp_all)
theorem c3_04 {Z : State} {a0 : Array Value} (hw : ∀ d ∈ tables_1, d.before a0 Z = true) (ρ : Nat → Nat) (n0 : Nat) (x0 x1 x2 x3 x4 x5 : Int32) (u : Nat) : WGo (g3 Z ρ n0 1 u) (0, [wR 0, wI 0, wI 4, wU], [], [(.inl (.char, [(.int x0), (.int x1), (.int x2), (.int x3), (.int x4), (.int x5)]))], u) (QB (x0 = 93 ∨ x1 = 93 ∨ x2 = 93) [(.inl (.char, [(.int x0), (.int x1), (.int x2), (.int x3), (.int x4), (.int x5)]))] u) := by
  refine WGo.s (WStep.iloadN a3_0 rfl) ?_
  refine WGo.s (WStep.istoreN (L' := [wR 0, wI 0, wI 4, wI 0]) a3_1 rfl) ?_
  refine WGo.s (WStep.iloadN a3_2 rfl) ?_
  refine WGo.s (WStep.iloadN a3_3 rfl) ?_
  refine WGo.s (WStep.iloadN a3_4 rfl) ?_
  refine WGo.s (WStep.iadd a3_5) ?_
  show WGo _ (6, [wR 0, wI 0, wI 4, wI 0], [.int 4, .int 0], [(.inl (.char, [(.int x0), (.int x1), (.int x2), (.int x3), (.int x4), (.int x5)]))], u) _
  refine WGo.s (WStep.iconst (1 : Int32) a3_6 rfl) ?_
  refine WGo.s (WStep.isub a3_7) ?_
  show WGo _ (8, [wR 0, wI 0, wI 4, wI 0], [.int 3, .int 0], [(.inl (.char, [(.int x0), (.int x1), (.int x2), (.int x3), (.int x4), (.int x5)]))], u) _
  refine WGo.s (WStep.icmpF a3_8 (by decide)) ?_
  refine WGo.s (WStep.aloadN a3_11 rfl rfl) ?_
  refine WGo.s (WStep.iloadN a3_12 rfl) ?_
  refine WGo.s (WStep.caload 0 a3_13 rfl (by decide) rfl rfl) ?_
  refine WGo.s (WStep.bipush (93 : Int32) a3_14 rfl) ?_
  refine WGo.eq a3_16 (fun h16 => ?_) (fun h16 => ?_)
  · refine WGo.s (WStep.iloadN a3_25 rfl) ?_
    refine WGo.s (WStep.iloadN a3_26 rfl) ?_
    refine WGo.s (WStep.iloadN a3_27 rfl) ?_
    refine WGo.s (WStep.iadd a3_28) ?_
    show WGo _ (29, [wR 0, wI 0, wI 4, wI 0], [.int 4, .int 0], [(.inl (.char, [(.int x0), (.int x1), (.int x2), (.int x3), (.int x4), (.int x5)]))], u) _
    refine WGo.s (WStep.iconst (1 : Int32) a3_29 rfl) ?_
    refine WGo.s (WStep.isub a3_30) ?_
    show WGo _ (31, [wR 0, wI 0, wI 4, wI 0], [.int 3, .int 0], [(.inl (.char, [(.int x0), (.int x1), (.int x2), (.int x3), (.int x4), (.int x5)]))], u) _
    refine WGo.s (WStep.icmpF a3_31 (by decide)) ?_
    refine WGo.s (WStep.iconst (1 : Int32) a3_34 rfl) ?_
    refine WGo.s (WStep.goto a3_35) ?_
    refine WGo.ireturn .boolean a3_39 rfl (by simp) ?_
    exact QB.yes (by simp_all)
  · refine WGo.s (WStep.iinc (L' := [wR 0, wI 0, wI 4, wI 1]) a3_19 rfl rfl) ?_
    refine WGo.s (WStep.goto a3_22) ?_
    refine WGo.s (WStep.iloadN a3_2 rfl) ?_
    refine WGo.s (WStep.iloadN a3_3 rfl) ?_
    refine WGo.s (WStep.iloadN a3_4 rfl) ?_
    refine WGo.s (WStep.iadd a3_5) ?_
    show WGo _ (6, [wR 0, wI 0, wI 4, wI 1], [.int 4, .int 1], [(.inl (.char, [(.int x0), (.int x1), (.int x2), (.int x3), (.int x4), (.int x5)]))], u) _
    refine WGo.s (WStep.iconst (1 : Int32) a3_6 rfl) ?_
    refine WGo.s (WStep.isub a3_7) ?_
    show WGo _ (8, [wR 0, wI 0, wI 4, wI 1], [.int 3, .int 1], [(.inl (.char, [(.int x0), (.int x1), (.int x2), (.int x3), (.int x4), (.int x5)]))], u) _
    refine WGo.s (WStep.icmpF a3_8 (by decide)) ?_
    refine WGo.s (WStep.aloadN a3_11 rfl rfl) ?_
    refine WGo.s (WStep.iloadN a3_12 rfl) ?_
    refine WGo.s (WStep.caload 1 a3_13 rfl (by decide) rfl rfl) ?_
    refine WGo.s (WStep.bipush (93 : Int32) a3_14 rfl) ?_
    refine WGo.eq a3_16 (fun h16_1 => ?_) (fun h16_1 => ?_)
    · refine WGo.s (WStep.iloadN a3_25 rfl) ?_
      refine WGo.s (WStep.iloadN a3_26 rfl) ?_
      refine WGo.s (WStep.iloadN a3_27 rfl) ?_
      refine WGo.s (WStep.iadd a3_28) ?_
      show WGo _ (29, [wR 0, wI 0, wI 4, wI 1], [.int 4, .int 1], [(.inl (.char, [(.int x0), (.int x1), (.int x2), (.int x3), (.int x4), (.int x5)]))], u) _
      refine WGo.s (WStep.iconst (1 : Int32) a3_29 rfl) ?_
      refine WGo.s (WStep.isub a3_30) ?_
      show WGo _ (31, [wR 0, wI 0, wI 4, wI 1], [.int 3, .int 1], [(.inl (.char, [(.int x0), (.int x1), (.int x2), (.int x3), (.int x4), (.int x5)]))], u) _
      refine WGo.s (WStep.icmpF a3_31 (by decide)) ?_
      refine WGo.s (WStep.iconst (1 : Int32) a3_34 rfl) ?_
      refine WGo.s (WStep.goto a3_35) ?_
      refine WGo.ireturn .boolean a3_39 rfl (by simp) ?_
      exact QB.yes (by simp_all)
    · refine WGo.s (WStep.iinc (L' := [wR 0, wI 0, wI 4, wI 2]) a3_19 rfl rfl) ?_
      refine WGo.s (WStep.goto a3_22) ?_
      refine WGo.s (WStep.iloadN a3_2 rfl) ?_
      refine WGo.s (WStep.iloadN a3_3 rfl) ?_
      refine WGo.s (WStep.iloadN a3_4 rfl) ?_
      refine WGo.s (WStep.iadd a3_5) ?_
      show WGo _ (6, [wR 0, wI 0, wI 4, wI 2], [.int 4, .int 2], [(.inl (.char, [(.int x0), (.int x1), (.int x2), (.int x3), (.int x4), (.int x5)]))], u) _
      refine WGo.s (WStep.iconst (1 : Int32) a3_6 rfl) ?_
      refine WGo.s (WStep.isub a3_7) ?_
      show WGo _ (8, [wR 0, wI 0, wI 4, wI 2], [.int 3, .int 2], [(.inl (.char, [(.int x0), (.int x1), (.int x2), (.int x3), (.int x4), (.int x5)]))], u) _
      refine WGo.s (WStep.icmpF a3_8 (by decide)) ?_
      refine WGo.s (WStep.aloadN a3_11 rfl rfl) ?_
      refine WGo.s (WStep.iloadN a3_12 rfl) ?_
      refine WGo.s (WStep.caload 2 a3_13 rfl (by decide) rfl rfl) ?_
      refine WGo.s (WStep.bipush (93 : Int32) a3_14 rfl) ?_
      refine WGo.eq a3_16 (fun h16_2 => ?_) (fun h16_2 => ?_)
      · refine WGo.s (WStep.iloadN a3_25 rfl) ?_
        refine WGo.s (WStep.iloadN a3_26 rfl) ?_
        refine WGo.s (WStep.iloadN a3_27 rfl) ?_
        refine WGo.s (WStep.iadd a3_28) ?_
        show WGo _ (29, [wR 0, wI 0, wI 4, wI 2], [.int 4, .int 2], [(.inl (.char, [(.int x0), (.int x1), (.int x2), (.int x3), (.int x4), (.int x5)]))], u) _
        refine WGo.s (WStep.iconst (1 : Int32) a3_29 rfl) ?_
        refine WGo.s (WStep.isub a3_30) ?_
        show WGo _ (31, [wR 0, wI 0, wI 4, wI 2], [.int 3, .int 2], [(.inl (.char, [(.int x0), (.int x1), (.int x2), (.int x3), (.int x4), (.int x5)]))], u) _
        refine WGo.s (WStep.icmpF a3_31 (by decide)) ?_
        refine WGo.s (WStep.iconst (1 : Int32) a3_34 rfl) ?_
        refine WGo.s (WStep.goto a3_35) ?_
        refine WGo.ireturn .boolean a3_39 rfl (by simp) ?_
        exact QB.yes (by simp_all)
      · refine WGo.s (WStep.iinc (L' := [wR 0, wI 0, wI 4, wI 3]) a3_19 rfl rfl) ?_
        refine WGo.s (WStep.goto a3_22) ?_
        refine WGo.s (WStep.iloadN a3_2 rfl) ?_
        refine WGo.s (WStep.iloadN a3_3 rfl) ?_
        refine WGo.s (WStep.iloadN a3_4 rfl) ?_
        refine WGo.s (WStep.iadd a3_5) ?_
        show WGo _ (6, [wR 0, wI 0, wI 4, wI 3], [.int 4, .int 3], [(.inl (.char, [(.int x0), (.int x1), (.int x2), (.int x3), (.int x4), (.int x5)]))], u) _
        refine WGo.s (WStep.iconst (1 : Int32) a3_6 rfl) ?_
        refine WGo.s (WStep.isub a3_7) ?_
        show WGo _ (8, [wR 0, wI 0, wI 4, wI 3], [.int 3, .int 3], [(.inl (.char, [(.int x0), (.int x1), (.int x2), (.int x3), (.int x4), (.int x5)]))], u) _
        refine WGo.s (WStep.icmpT a3_8 (by decide)) ?_
        refine WGo.s (WStep.iloadN a3_25 rfl) ?_
        refine WGo.s (WStep.iloadN a3_26 rfl) ?_
        refine WGo.s (WStep.iloadN a3_27 rfl) ?_
        refine WGo.s (WStep.iadd a3_28) ?_
        show WGo _ (29, [wR 0, wI 0, wI 4, wI 3], [.int 4, .int 3], [(.inl (.char, [(.int x0), (.int x1), (.int x2), (.int x3), (.int x4), (.int x5)]))], u) _
        refine WGo.s (WStep.iconst (1 : Int32) a3_29 rfl) ?_
        refine WGo.s (WStep.isub a3_30) ?_
        show WGo _ (31, [wR 0, wI 0, wI 4, wI 3], [.int 3, .int 3], [(.inl (.char, [(.int x0), (.int x1), (.int x2), (.int x3), (.int x4), (.int x5)]))], u) _
        refine WGo.s (WStep.icmpT a3_31 (by decide)) ?_
        refine WGo.s (WStep.iconst (0 : Int32) a3_38 rfl) ?_
        refine WGo.ireturn .boolean a3_39 rfl (by simp) ?_
        exact QB.no (by simp_all)
theorem c3_05 {Z : State} {a0 : Array Value} (hw : ∀ d ∈ tables_1, d.before a0 Z = true) (ρ : Nat → Nat) (n0 : Nat) (x0 x1 x2 x3 x4 x5 : Int32) (u : Nat) : WGo (g3 Z ρ n0 1 u) (0, [wR 0, wI 0, wI 5, wU], [], [(.inl (.char, [(.int x0), (.int x1), (.int x2), (.int x3), (.int x4), (.int x5)]))], u) (QB (x0 = 93 ∨ x1 = 93 ∨ x2 = 93 ∨ x3 = 93) [(.inl (.char, [(.int x0), (.int x1), (.int x2), (.int x3), (.int x4), (.int x5)]))] u) := by
  refine WGo.s (WStep.iloadN a3_0 rfl) ?_
  refine WGo.s (WStep.istoreN (L' := [wR 0, wI 0, wI 5, wI 0]) a3_1 rfl) ?_
  refine WGo.s (WStep.iloadN a3_2 rfl) ?_
  refine WGo.s (WStep.iloadN a3_3 rfl) ?_
  refine WGo.s (WStep.iloadN a3_4 rfl) ?_
  refine WGo.s (WStep.iadd a3_5) ?_
  show WGo _ (6, [wR 0, wI 0, wI 5, wI 0], [.int 5, .int 0], [(.inl (.char, [(.int x0), (.int x1), (.int x2), (.int x3), (.int x4), (.int x5)]))], u) _
  refine WGo.s (WStep.iconst (1 : Int32) a3_6 rfl) ?_
  refine WGo.s (WStep.isub a3_7) ?_
  show WGo _ (8, [wR 0, wI 0, wI 5, wI 0], [.int 4, .int 0], [(.inl (.char, [(.int x0), (.int x1), (.int x2), (.int x3), (.int x4), (.int x5)]))], u) _
  refine WGo.s (WStep.icmpF a3_8 (by decide)) ?_
  refine WGo.s (WStep.aloadN a3_11 rfl rfl) ?_
  refine WGo.s (WStep.iloadN a3_12 rfl) ?_
  refine WGo.s (WStep.caload 0 a3_13 rfl (by decide) rfl rfl) ?_
  refine WGo.s (WStep.bipush (93 : Int32) a3_14 rfl) ?_
  refine WGo.eq a3_16 (fun h16 => ?_) (fun h16 => ?_)
  · refine WGo.s (WStep.iloadN a3_25 rfl) ?_
    refine WGo.s (WStep.iloadN a3_26 rfl) ?_
    refine WGo.s (WStep.iloadN a3_27 rfl) ?_
    refine WGo.s (WStep.iadd a3_28) ?_
    show WGo _ (29, [wR 0, wI 0, wI 5, wI 0], [.int 5, .int 0], [(.inl (.char, [(.int x0), (.int x1), (.int x2), (.int x3), (.int x4), (.int x5)]))], u) _
    refine WGo.s (WStep.iconst (1 : Int32) a3_29 rfl) ?_
    refine WGo.s (WStep.isub a3_30) ?_
    show WGo _ (31, [wR 0, wI 0, wI 5, wI 0], [.int 4, .int 0], [(.inl (.char, [(.int x0), (.int x1), (.int x2), (.int x3), (.int x4), (.int x5)]))], u) _
    refine WGo.s (WStep.icmpF a3_31 (by decide)) ?_
    refine WGo.s (WStep.iconst (1 : Int32) a3_34 rfl) ?_
    refine WGo.s (WStep.goto a3_35) ?_
    refine WGo.ireturn .boolean a3_39 rfl (by simp) ?_
    exact QB.yes (by simp_all)
  · refine WGo.s (WStep.iinc (L' := [wR 0, wI 0, wI 5, wI 1]) a3_19 rfl rfl) ?_
    refine WGo.s (WStep.goto a3_22) ?_
    refine WGo.s (WStep.iloadN a3_2 rfl) ?_
    refine WGo.s (WStep.iloadN a3_3 rfl) ?_
    refine WGo.s (WStep.iloadN a3_4 rfl) ?_
    refine WGo.s (WStep.iadd a3_5) ?_
    show WGo _ (6, [wR 0, wI 0, wI 5, wI 1], [.int 5, .int 1], [(.inl (.char, [(.int x0), (.int x1), (.int x2), (.int x3), (.int x4), (.int x5)]))], u) _
    refine WGo.s (WStep.iconst (1 : Int32) a3_6 rfl) ?_
    refine WGo.s (WStep.isub a3_7) ?_
    show WGo _ (8, [wR 0, wI 0, wI 5, wI 1], [.int 4, .int 1], [(.inl (.char, [(.int x0), (.int x1), (.int x2), (.int x3), (.int x4), (.int x5)]))], u) _
    refine WGo.s (WStep.icmpF a3_8 (by decide)) ?_
    refine WGo.s (WStep.aloadN a3_11 rfl rfl) ?_
    refine WGo.s (WStep.iloadN a3_12 rfl) ?_
    refine WGo.s (WStep.caload 1 a3_13 rfl (by decide) rfl rfl) ?_
    refine WGo.s (WStep.bipush (93 : Int32) a3_14 rfl) ?_
    refine WGo.eq a3_16 (fun h16_1 => ?_) (fun h16_1 => ?_)
    · refine WGo.s (WStep.iloadN a3_25 rfl) ?_
      refine WGo.s (WStep.iloadN a3_26 rfl) ?_
      refine WGo.s (WStep.iloadN a3_27 rfl) ?_
      refine WGo.s (WStep.iadd a3_28) ?_
      show WGo _ (29, [wR 0, wI 0, wI 5, wI 1], [.int 5, .int 1], [(.inl (.char, [(.int x0), (.int x1), (.int x2), (.int x3), (.int x4), (.int x5)]))], u) _
      refine WGo.s (WStep.iconst (1 : Int32) a3_29 rfl) ?_
      refine WGo.s (WStep.isub a3_30) ?_
      show WGo _ (31, [wR 0, wI 0, wI 5, wI 1], [.int 4, .int 1], [(.inl (.char, [(.int x0), (.int x1), (.int x2), (.int x3), (.int x4), (.int x5)]))], u) _
      refine WGo.s (WStep.icmpF a3_31 (by decide)) ?_
      refine WGo.s (WStep.iconst (1 : Int32) a3_34 rfl) ?_
      refine WGo.s (WStep.goto a3_35) ?_
      refine WGo.ireturn .boolean a3_39 rfl (by simp) ?_
      exact QB.yes (by simp_all)
    · refine WGo.s (WStep.iinc (L' := [wR 0, wI 0, wI 5, wI 2]) a3_19 rfl rfl) ?_
      refine WGo.s (WStep.goto a3_22) ?_
      refine WGo.s (WStep.iloadN a3_2 rfl) ?_
      refine WGo.s (WStep.iloadN a3_3 rfl) ?_
      refine WGo.s (WStep.iloadN a3_4 rfl) ?_
      refine WGo.s (WStep.iadd a3_5) ?_
      show WGo _ (6, [wR 0, wI 0, wI 5, wI 2], [.int 5, .int 2], [(.inl (.char, [(.int x0), (.int x1), (.int x2), (.int x3), (.int x4), (.int x5)]))], u) _
      refine WGo.s (WStep.iconst (1 : Int32) a3_6 rfl) ?_
      refine WGo.s (WStep.isub a3_7) ?_
      show WGo _ (8, [wR 0, wI 0, wI 5, wI 2], [.int 4, .int 2], [(.inl (.char, [(.int x0), (.int x1), (.int x2), (.int x3), (.int x4), (.int x5)]))], u) _
      refine WGo.s (WStep.icmpF a3_8 (by decide)) ?_
      refine WGo.s (WStep.aloadN a3_11 rfl rfl) ?_
      refine WGo.s (WStep.iloadN a3_12 rfl) ?_
      refine WGo.s (WStep.caload 2 a3_13 rfl (by decide) rfl rfl) ?_
      refine WGo.s (WStep.bipush (93 : Int32) a3_14 rfl) ?_
      refine WGo.eq a3_16 (fun h16_2 => ?_) (fun h16_2 => ?_)
      · refine WGo.s (WStep.iloadN a3_25 rfl) ?_
        refine WGo.s (WStep.iloadN a3_26 rfl) ?_
        refine WGo.s (WStep.iloadN a3_27 rfl) ?_
        refine WGo.s (WStep.iadd a3_28) ?_
        show WGo _ (29, [wR 0, wI 0, wI 5, wI 2], [.int 5, .int 2], [(.inl (.char, [(.int x0), (.int x1), (.int x2), (.int x3), (.int x4), (.int x5)]))], u) _
        refine WGo.s (WStep.iconst (1 : Int32) a3_29 rfl) ?_
        refine WGo.s (WStep.isub a3_30) ?_
        show WGo _ (31, [wR 0, wI 0, wI 5, wI 2], [.int 4, .int 2], [(.inl (.char, [(.int x0), (.int x1), (.int x2), (.int x3), (.int x4), (.int x5)]))], u) _
        refine WGo.s (WStep.icmpF a3_31 (by decide)) ?_
        refine WGo.s (WStep.iconst (1 : Int32) a3_34 rfl) ?_
        refine WGo.s (WStep.goto a3_35) ?_
        refine WGo.ireturn .boolean a3_39 rfl (by simp) ?_
        exact QB.yes (by simp_all)
      · refine WGo.s (WStep.iinc (L' := [wR 0, wI 0, wI 5, wI 3]) a3_19 rfl rfl) ?_
        refine WGo.s (WStep.goto a3_22) ?_
        refine WGo.s (WStep.iloadN a3_2 rfl) ?_
        refine WGo.s (WStep.iloadN a3_3 rfl) ?_
        refine WGo.s (WStep.iloadN a3_4 rfl) ?_
        refine WGo.s (WStep.iadd a3_5) ?_
        show WGo _ (6, [wR 0, wI 0, wI 5, wI 3], [.int 5, .int 3], [(.inl (.char, [(.int x0), (.int x1), (.int x2), (.int x3), (.int x4), (.int x5)]))], u) _
        refine WGo.s (WStep.iconst (1 : Int32) a3_6 rfl) ?_
        refine WGo.s (WStep.isub a3_7) ?_
        show WGo _ (8, [wR 0, wI 0, wI 5, wI 3], [.int 4, .int 3], [(.inl (.char, [(.int x0), (.int x1), (.int x2), (.int x3), (.int x4), (.int x5)]))], u) _
        refine WGo.s (WStep.icmpF a3_8 (by decide)) ?_
        refine WGo.s (WStep.aloadN a3_11 rfl rfl) ?_
        refine WGo.s (WStep.iloadN a3_12 rfl) ?_
        refine WGo.s (WStep.caload 3 a3_13 rfl (by decide) rfl rfl) ?_
        refine WGo.s (WStep.bipush (93 : Int32) a3_14 rfl) ?_
        refine WGo.eq a3_16 (fun h16_3 => ?_) (fun h16_3 => ?_)
        · refine WGo.s (WStep.iloadN a3_25 rfl) ?_
          refine WGo.s (WStep.iloadN a3_26 rfl) ?_
          refine WGo.s (WStep.iloadN a3_27 rfl) ?_
          refine WGo.s (WStep.iadd a3_28) ?_
          show WGo _ (29, [wR 0, wI 0, wI 5, wI 3], [.int 5, .int 3], [(.inl (.char, [(.int x0), (.int x1), (.int x2), (.int x3), (.int x4), (.int x5)]))], u) _
          refine WGo.s (WStep.iconst (1 : Int32) a3_29 rfl) ?_
          refine WGo.s (WStep.isub a3_30) ?_
          show WGo _ (31, [wR 0, wI 0, wI 5, wI 3], [.int 4, .int 3], [(.inl (.char, [(.int x0), (.int x1), (.int x2), (.int x3), (.int x4), (.int x5)]))], u) _
          refine WGo.s (WStep.icmpF a3_31 (by decide)) ?_
          refine WGo.s (WStep.iconst (1 : Int32) a3_34 rfl) ?_
          refine WGo.s (WStep.goto a3_35) ?_
          refine WGo.ireturn .boolean a3_39 rfl (by simp) ?_
          exact QB.yes (by simp_all)
        · refine WGo.s (WStep.iinc (L' := [wR 0, wI 0, wI 5, wI 4]) a3_19 rfl rfl) ?_
          refine WGo.s (WStep.goto a3_22) ?_
          refine WGo.s (WStep.iloadN a3_2 rfl) ?_
          refine WGo.s (WStep.iloadN a3_3 rfl) ?_
          refine WGo.s (WStep.iloadN a3_4 rfl) ?_
          refine WGo.s (WStep.iadd a3_5) ?_
          show WGo _ (6, [wR 0, wI 0, wI 5, wI 4], [.int 5, .int 4], [(.inl (.char, [(.int x0), (.int x1), (.int x2), (.int x3), (.int x4), (.int x5)]))], u) _
          refine WGo.s (WStep.iconst (1 : Int32) a3_6 rfl) ?_
          refine WGo.s (WStep.isub a3_7) ?_
          show WGo _ (8, [wR 0, wI 0, wI 5, wI 4], [.int 4, .int 4], [(.inl (.char, [(.int x0), (.int x1), (.int x2), (.int x3), (.int x4), (.int x5)]))], u) _
          refine WGo.s (WStep.icmpT a3_8 (by decide)) ?_
          refine WGo.s (WStep.iloadN a3_25 rfl) ?_
          refine WGo.s (WStep.iloadN a3_26 rfl) ?_
          refine WGo.s (WStep.iloadN a3_27 rfl) ?_
          refine WGo.s (WStep.iadd a3_28) ?_
          show WGo _ (29, [wR 0, wI 0, wI 5, wI 4], [.int 5, .int 4], [(.inl (.char, [(.int x0), (.int x1), (.int x2), (.int x3), (.int x4), (.int x5)]))], u) _
          refine WGo.s (WStep.iconst (1 : Int32) a3_29 rfl) ?_
          refine WGo.s (WStep.isub a3_30) ?_
          show WGo _ (31, [wR 0, wI 0, wI 5, wI 4], [.int 4, .int 4], [(.inl (.char, [(.int x0), (.int x1), (.int x2), (.int x3), (.int x4), (.int x5)]))], u) _
          refine WGo.s (WStep.icmpT a3_31 (by decide)) ?_
          refine WGo.s (WStep.iconst (0 : Int32) a3_38 rfl) ?_
          refine WGo.ireturn .boolean a3_39 rfl (by simp) ?_
          exact QB.no (by simp_all)
theorem c3_06 {Z : State} {a0 : Array Value} (hw : ∀ d ∈ tables_1, d.before a0 Z = true) (ρ : Nat → Nat) (n0 : Nat) (x0 x1 x2 x3 x4 x5 : Int32) (u : Nat) : WGo (g3 Z ρ n0 1 u) (0, [wR 0, wI 0, wI 6, wU], [], [(.inl (.char, [(.int x0), (.int x1), (.int x2), (.int x3), (.int x4), (.int x5)]))], u) (QB (x0 = 93 ∨ x1 = 93 ∨ x2 = 93 ∨ x3 = 93 ∨ x4 = 93) [(.inl (.char, [(.int x0), (.int x1), (.int x2), (.int x3), (.int x4), (.int x5)]))] u) := by
  refine WGo.s (WStep.iloadN a3_0 rfl) ?_
  refine WGo.s (WStep.istoreN (L' := [wR 0, wI 0, wI 6, wI 0]) a3_1 rfl) ?_
  refine WGo.s (WStep.iloadN a3_2 rfl) ?_
  refine WGo.s (WStep.iloadN a3_3 rfl) ?_
  refine WGo.s (WStep.iloadN a3_4 rfl) ?_
  refine WGo.s (WStep.iadd a3_5) ?_
  show WGo _ (6, [wR 0, wI 0, wI 6, wI 0], [.int 6, .int 0], [(.inl (.char, [(.int x0), (.int x1), (.int x2), (.int x3), (.int x4), (.int x5)]))], u) _
  refine WGo.s (WStep.iconst (1 : Int32) a3_6 rfl) ?_
  refine WGo.s (WStep.isub a3_7) ?_
  show WGo _ (8, [wR 0, wI 0, wI 6, wI 0], [.int 5, .int 0], [(.inl (.char, [(.int x0), (.int x1), (.int x2), (.int x3), (.int x4), (.int x5)]))], u) _
  refine WGo.s (WStep.icmpF a3_8 (by decide)) ?_
  refine WGo.s (WStep.aloadN a3_11 rfl rfl) ?_
  refine WGo.s (WStep.iloadN a3_12 rfl) ?_
  refine WGo.s (WStep.caload 0 a3_13 rfl (by decide) rfl rfl) ?_
  refine WGo.s (WStep.bipush (93 : Int32) a3_14 rfl) ?_
  refine WGo.eq a3_16 (fun h16 => ?_) (fun h16 => ?_)
  · refine WGo.s (WStep.iloadN a3_25 rfl) ?_
    refine WGo.s (WStep.iloadN a3_26 rfl) ?_
    refine WGo.s (WStep.iloadN a3_27 rfl) ?_
    refine WGo.s (WStep.iadd a3_28) ?_
    show WGo _ (29, [wR 0, wI 0, wI 6, wI 0], [.int 6, .int 0], [(.inl (.char, [(.int x0), (.int x1), (.int x2), (.int x3), (.int x4), (.int x5)]))], u) _
    refine WGo.s (WStep.iconst (1 : Int32) a3_29 rfl) ?_
    refine WGo.s (WStep.isub a3_30) ?_
    show WGo _ (31, [wR 0, wI 0, wI 6, wI 0], [.int 5, .int 0], [(.inl (.char, [(.int x0), (.int x1), (.int x2), (.int x3), (.int x4), (.int x5)]))], u) _
    refine WGo.s (WStep.icmpF a3_31 (by decide)) ?_
    refine WGo.s (WStep.iconst (1 : Int32) a3_34 rfl) ?_
    refine WGo.s (WStep.goto a3_35) ?_
    refine WGo.ireturn .boolean a3_39 rfl (by simp) ?_
    exact QB.yes (by simp_all)
  · refine WGo.s (WStep.iinc (L' := [wR 0, wI 0, wI 6, wI 1]) a3_19 rfl rfl) ?_
    refine WGo.s (WStep.goto a3_22) ?_
    refine WGo.s (WStep.iloadN a3_2 rfl) ?_
    refine WGo.s (WStep.iloadN a3_3 rfl) ?_
    refine WGo.s (WStep.iloadN a3_4 rfl) ?_
    refine WGo.s (WStep.iadd a3_5) ?_
    show WGo _ (6, [wR 0, wI 0, wI 6, wI 1], [.int 6, .int 1], [(.inl (.char, [(.int x0), (.int x1), (.int x2), (.int x3), (.int x4), (.int x5)]))], u) _
    refine WGo.s (WStep.iconst (1 : Int32) a3_6 rfl) ?_
    refine WGo.s (WStep.isub a3_7) ?_
    show WGo _ (8, [wR 0, wI 0, wI 6, wI 1], [.int 5, .int 1], [(.inl (.char, [(.int x0), (.int x1), (.int x2), (.int x3), (.int x4), (.int x5)]))], u) _
    refine WGo.s (WStep.icmpF a3_8 (by decide)) ?_
    refine WGo.s (WStep.aloadN a3_11 rfl rfl) ?_
    refine WGo.s (WStep.iloadN a3_12 rfl) ?_
    refine WGo.s (WStep.caload 1 a3_13 rfl (by decide) rfl rfl) ?_
    refine WGo.s (WStep.bipush (93 : Int32) a3_14 rfl) ?_
    refine WGo.eq a3_16 (fun h16_1 => ?_) (fun h16_1 => ?_)
    · refine WGo.s (WStep.iloadN a3_25 rfl) ?_
      refine WGo.s (WStep.iloadN a3_26 rfl) ?_
      refine WGo.s (WStep.iloadN a3_27 rfl) ?_
      refine WGo.s (WStep.iadd a3_28) ?_
      show WGo _ (29, [wR 0, wI 0, wI 6, wI 1], [.int 6, .int 1], [(.inl (.char, [(.int x0), (.int x1), (.int x2), (.int x3), (.int x4), (.int x5)]))], u) _
      refine WGo.s (WStep.iconst (1 : Int32) a3_29 rfl) ?_
      refine WGo.s (WStep.isub a3_30) ?_
      show WGo _ (31, [wR 0, wI 0, wI 6, wI 1], [.int 5, .int 1], [(.inl (.char, [(.int x0), (.int x1), (.int x2), (.int x3), (.int x4), (.int x5)]))], u) _
      refine WGo.s (WStep.icmpF a3_31 (by decide)) ?_
      refine WGo.s (WStep.iconst (1 : Int32) a3_34 rfl) ?_
      refine WGo.s (WStep.goto a3_35) ?_
      refine WGo.ireturn .boolean a3_39 rfl (by simp) ?_
      exact QB.yes (by simp_all)
    · refine WGo.s (WStep.iinc (L' := [wR 0, wI 0, wI 6, wI 2]) a3_19 rfl rfl) ?_
      refine WGo.s (WStep.goto a3_22) ?_
      refine WGo.s (WStep.iloadN a3_2 rfl) ?_
      refine WGo.s (WStep.iloadN a3_3 rfl) ?_
      refine WGo.s (WStep.iloadN a3_4 rfl) ?_
      refine WGo.s (WStep.iadd a3_5) ?_
      show WGo _ (6, [wR 0, wI 0, wI 6, wI 2], [.int 6, .int 2], [(.inl (.char, [(.int x0), (.int x1), (.int x2), (.int x3), (.int x4), (.int x5)]))], u) _
      refine WGo.s (WStep.iconst (1 : Int32) a3_6 rfl) ?_
      refine WGo.s (WStep.isub a3_7) ?_
      show WGo _ (8, [wR 0, wI 0, wI 6, wI 2], [.int 5, .int 2], [(.inl (.char, [(.int x0), (.int x1), (.int x2), (.int x3), (.int x4), (.int x5)]))], u) _
      refine WGo.s (WStep.icmpF a3_8 (by decide)) ?_
      refine WGo.s (WStep.aloadN a3_11 rfl rfl) ?_
      refine WGo.s (WStep.iloadN a3_12 rfl) ?_
      refine WGo.s (WStep.caload 2 a3_13 rfl (by decide) rfl rfl) ?_
      refine WGo.s (WStep.bipush (93 : Int32) a3_14 rfl) ?_
      refine WGo.eq a3_16 (fun h16_2 => ?_) (fun h16_2 => ?_)
      · refine WGo.s (WStep.iloadN a3_25 rfl) ?_
        refine WGo.s (WStep.iloadN a3_26 rfl) ?_
        refine WGo.s (WStep.iloadN a3_27 rfl) ?_
        refine WGo.s (WStep.iadd a3_28) ?_
        show WGo _ (29, [wR 0, wI 0, wI 6, wI 2], [.int 6, .int 2], [(.inl (.char, [(.int x0), (.int x1), (.int x2), (.int x3), (.int x4), (.int x5)]))], u) _
        refine WGo.s (WStep.iconst (1 : Int32) a3_29 rfl) ?_
        refine WGo.s (WStep.isub a3_30) ?_
        show WGo _ (31, [wR 0, wI 0, wI 6, wI 2], [.int 5, .int 2], [(.inl (.char, [(.int x0), (.int x1), (.int x2), (.int x3), (.int x4), (.int x5)]))], u) _
        refine WGo.s (WStep.icmpF a3_31 (by decide)) ?_
        refine WGo.s (WStep.iconst (1 : Int32) a3_34 rfl) ?_
        refine WGo.s (WStep.goto a3_35) ?_
        refine WGo.ireturn .boolean a3_39 rfl (by simp) ?_
        exact QB.yes (by simp_all)
      · refine WGo.s (WStep.iinc (L' := [wR 0, wI 0, wI 6, wI 3]) a3_19 rfl rfl) ?_
        refine WGo.s (WStep.goto a3_22) ?_
        refine WGo.s (WStep.iloadN a3_2 rfl) ?_
        refine WGo.s (WStep.iloadN a3_3 rfl) ?_
        refine WGo.s (WStep.iloadN a3_4 rfl) ?_
        refine WGo.s (WStep.iadd a3_5) ?_
        show WGo _ (6, [wR 0, wI 0, wI 6, wI 3], [.int 6, .int 3], [(.inl (.char, [(.int x0), (.int x1), (.int x2), (.int x3), (.int x4), (.int x5)]))], u) _
        refine WGo.s (WStep.iconst (1 : Int32) a3_6 rfl) ?_
        refine WGo.s (WStep.isub a3_7) ?_
        show WGo _ (8, [wR 0, wI 0, wI 6, wI 3], [.int 5, .int 3], [(.inl (.char, [(.int x0), (.int x1), (.int x2), (.int x3), (.int x4), (.int x5)]))], u) _
        refine WGo.s (WStep.icmpF a3_8 (by decide)) ?_
        refine WGo.s (WStep.aloadN a3_11 rfl rfl) ?_
        refine WGo.s (WStep.iloadN a3_12 rfl) ?_
        refine WGo.s (WStep.caload 3 a3_13 rfl (by decide) rfl rfl) ?_
        refine WGo.s (WStep.bipush (93 : Int32) a3_14 rfl) ?_
        refine WGo.eq a3_16 (fun h16_3 => ?_) (fun h16_3 => ?_)
        · refine WGo.s (WStep.iloadN a3_25 rfl) ?_
          refine WGo.s (WStep.iloadN a3_26 rfl) ?_
          refine WGo.s (WStep.iloadN a3_27 rfl) ?_
          refine WGo.s (WStep.iadd a3_28) ?_
          show WGo _ (29, [wR 0, wI 0, wI 6, wI 3], [.int 6, .int 3], [(.inl (.char, [(.int x0), (.int x1), (.int x2), (.int x3), (.int x4), (.int x5)]))], u) _
          refine WGo.s (WStep.iconst (1 : Int32) a3_29 rfl) ?_
          refine WGo.s (WStep.isub a3_30) ?_
          show WGo _ (31, [wR 0, wI 0, wI 6, wI 3], [.int 5, .int 3], [(.inl (.char, [(.int x0), (.int x1), (.int x2), (.int x3), (.int x4), (.int x5)]))], u) _
          refine WGo.s (WStep.icmpF a3_31 (by decide)) ?_
          refine WGo.s (WStep.iconst (1 : Int32) a3_34 rfl) ?_
          refine WGo.s (WStep.goto a3_35) ?_
          refine WGo.ireturn .boolean a3_39 rfl (by simp) ?_
          exact QB.yes (by simp_all)
        · refine WGo.s (WStep.iinc (L' := [wR 0, wI 0, wI 6, wI 4]) a3_19 rfl rfl) ?_
          refine WGo.s (WStep.goto a3_22) ?_
          refine WGo.s (WStep.iloadN a3_2 rfl) ?_
          refine WGo.s (WStep.iloadN a3_3 rfl) ?_
          refine WGo.s (WStep.iloadN a3_4 rfl) ?_
          refine WGo.s (WStep.iadd a3_5) ?_
          show WGo _ (6, [wR 0, wI 0, wI 6, wI 4], [.int 6, .int 4], [(.inl (.char, [(.int x0), (.int x1), (.int x2), (.int x3), (.int x4), (.int x5)]))], u) _
          refine WGo.s (WStep.iconst (1 : Int32) a3_6 rfl) ?_
          refine WGo.s (WStep.isub a3_7) ?_
          show WGo _ (8, [wR 0, wI 0, wI 6, wI 4], [.int 5, .int 4], [(.inl (.char, [(.int x0), (.int x1), (.int x2), (.int x3), (.int x4), (.int x5)]))], u) _
          refine WGo.s (WStep.icmpF a3_8 (by decide)) ?_
          refine WGo.s (WStep.aloadN a3_11 rfl rfl) ?_
          refine WGo.s (WStep.iloadN a3_12 rfl) ?_
          refine WGo.s (WStep.caload 4 a3_13 rfl (by decide) rfl rfl) ?_
          refine WGo.s (WStep.bipush (93 : Int32) a3_14 rfl) ?_
          refine WGo.eq a3_16 (fun h16_4 => ?_) (fun h16_4 => ?_)
          · refine WGo.s (WStep.iloadN a3_25 rfl) ?_
            refine WGo.s (WStep.iloadN a3_26 rfl) ?_
            refine WGo.s (WStep.iloadN a3_27 rfl) ?_
            refine WGo.s (WStep.iadd a3_28) ?_
            show WGo _ (29, [wR 0, wI 0, wI 6, wI 4], [.int 6, .int 4], [(.inl (.char, [(.int x0), (.int x1), (.int x2), (.int x3), (.int x4), (.int x5)]))], u) _
            refine WGo.s (WStep.iconst (1 : Int32) a3_29 rfl) ?_
            refine WGo.s (WStep.isub a3_30) ?_
            show WGo _ (31, [wR 0, wI 0, wI 6, wI 4], [.int 5, .int 4], [(.inl (.char, [(.int x0), (.int x1), (.int x2), (.int x3), (.int x4), (.int x5)]))], u) _
            refine WGo.s (WStep.icmpF a3_31 (by decide)) ?_
            refine WGo.s (WStep.iconst (1 : Int32) a3_34 rfl) ?_
            refine WGo.s (WStep.goto a3_35) ?_
            refine WGo.ireturn .boolean a3_39 rfl (by simp) ?_
            exact QB.yes (by simp_all)
          · refine WGo.s (WStep.iinc (L' := [wR 0, wI 0, wI 6, wI 5]) a3_19 rfl rfl) ?_
            refine WGo.s (WStep.goto a3_22) ?_
            refine WGo.s (WStep.iloadN a3_2 rfl) ?_
            refine WGo.s (WStep.iloadN a3_3 rfl) ?_
            refine WGo.s (WStep.iloadN a3_4 rfl) ?_
            refine WGo.s (WStep.iadd a3_5) ?_
            show WGo _ (6, [wR 0, wI 0, wI 6, wI 5], [.int 6, .int 5], [(.inl (.char, [(.int x0), (.int x1), (.int x2), (.int x3), (.int x4), (.int x5)]))], u) _
            refine WGo.s (WStep.iconst (1 : Int32) a3_6 rfl) ?_
            refine WGo.s (WStep.isub a3_7) ?_
            show WGo _ (8, [wR 0, wI 0, wI 6, wI 5], [.int 5, .int 5], [(.inl (.char, [(.int x0), (.int x1), (.int x2), (.int x3), (.int x4), (.int x5)]))], u) _
            refine WGo.s (WStep.icmpT a3_8 (by decide)) ?_
            refine WGo.s (WStep.iloadN a3_25 rfl) ?_
            refine WGo.s (WStep.iloadN a3_26 rfl) ?_
            refine WGo.s (WStep.iloadN a3_27 rfl) ?_
            refine WGo.s (WStep.iadd a3_28) ?_
            show WGo _ (29, [wR 0, wI 0, wI 6, wI 5], [.int 6, .int 5], [(.inl (.char, [(.int x0), (.int x1), (.int x2), (.int x3), (.int x4), (.int x5)]))], u) _
            refine WGo.s (WStep.iconst (1 : Int32) a3_29 rfl) ?_
            refine WGo.s (WStep.isub a3_30) ?_
            show WGo _ (31, [wR 0, wI 0, wI 6, wI 5], [.int 5, .int 5], [(.inl (.char, [(.int x0), (.int x1), (.int x2), (.int x3), (.int x4), (.int x5)]))], u) _
            refine WGo.s (WStep.icmpT a3_31 (by decide)) ?_
            refine WGo.s (WStep.iconst (0 : Int32) a3_38 rfl) ?_
            refine WGo.ireturn .boolean a3_39 rfl (by simp) ?_
            exact QB.no (by simp_all)
theorem c3_10 {Z : State} {a0 : Array Value} (hw : ∀ d ∈ tables_1, d.before a0 Z = true) (ρ : Nat → Nat) (n0 : Nat) (x0 x1 x2 x3 x4 x5 : Int32) (u : Nat) : WGo (g3 Z ρ n0 1 u) (0, [wR 0, wI 1, wI 0, wU], [], [(.inl (.char, [(.int x0), (.int x1), (.int x2), (.int x3), (.int x4), (.int x5)]))], u) (QB (False) [(.inl (.char, [(.int x0), (.int x1), (.int x2), (.int x3), (.int x4), (.int x5)]))] u) := by
  refine WGo.s (WStep.iloadN a3_0 rfl) ?_
  refine WGo.s (WStep.istoreN (L' := [wR 0, wI 1, wI 0, wI 1]) a3_1 rfl) ?_
  refine WGo.s (WStep.iloadN a3_2 rfl) ?_
  refine WGo.s (WStep.iloadN a3_3 rfl) ?_
  refine WGo.s (WStep.iloadN a3_4 rfl) ?_
  refine WGo.s (WStep.iadd a3_5) ?_
  show WGo _ (6, [wR 0, wI 1, wI 0, wI 1], [.int 1, .int 1], [(.inl (.char, [(.int x0), (.int x1), (.int x2), (.int x3), (.int x4), (.int x5)]))], u) _
  refine WGo.s (WStep.iconst (1 : Int32) a3_6 rfl) ?_
  refine WGo.s (WStep.isub a3_7) ?_
  show WGo _ (8, [wR 0, wI 1, wI 0, wI 1], [.int 0, .int 1], [(.inl (.char, [(.int x0), (.int x1), (.int x2), (.int x3), (.int x4), (.int x5)]))], u) _
  refine WGo.s (WStep.icmpT a3_8 (by decide)) ?_
  refine WGo.s (WStep.iloadN a3_25 rfl) ?_
  refine WGo.s (WStep.iloadN a3_26 rfl) ?_
  refine WGo.s (WStep.iloadN a3_27 rfl) ?_
  refine WGo.s (WStep.iadd a3_28) ?_
  show WGo _ (29, [wR 0, wI 1, wI 0, wI 1], [.int 1, .int 1], [(.inl (.char, [(.int x0), (.int x1), (.int x2), (.int x3), (.int x4), (.int x5)]))], u) _
  refine WGo.s (WStep.iconst (1 : Int32) a3_29 rfl) ?_
  refine WGo.s (WStep.isub a3_30) ?_
  show WGo _ (31, [wR 0, wI 1, wI 0, wI 1], [.int 0, .int 1], [(.inl (.char, [(.int x0), (.int x1), (.int x2), (.int x3), (.int x4), (.int x5)]))], u) _
  refine WGo.s (WStep.icmpT a3_31 (by decide)) ?_
  refine WGo.s (WStep.iconst (0 : Int32) a3_38 rfl) ?_
  refine WGo.ireturn .boolean a3_39 rfl (by simp) ?_
  exact QB.no (by simp_all)
theorem c3_11 {Z : State} {a0 : Array Value} (hw : ∀ d ∈ tables_1, d.before a0 Z = true) (ρ : Nat → Nat) (n0 : Nat) (x0 x1 x2 x3 x4 x5 : Int32) (u : Nat) : WGo (g3 Z ρ n0 1 u) (0, [wR 0, wI 1, wI 1, wU], [], [(.inl (.char, [(.int x0), (.int x1), (.int x2), (.int x3), (.int x4), (.int x5)]))], u) (QB (False) [(.inl (.char, [(.int x0), (.int x1), (.int x2), (.int x3), (.int x4), (.int x5)]))] u) := by
  refine WGo.s (WStep.iloadN a3_0 rfl) ?_
  refine WGo.s (WStep.istoreN (L' := [wR 0, wI 1, wI 1, wI 1]) a3_1 rfl) ?_
  refine WGo.s (WStep.iloadN a3_2 rfl) ?_
  refine WGo.s (WStep.iloadN a3_3 rfl) ?_
  refine WGo.s (WStep.iloadN a3_4 rfl) ?_
  refine WGo.s (WStep.iadd a3_5) ?_
  show WGo _ (6, [wR 0, wI 1, wI 1, wI 1], [.int 2, .int 1], [(.inl (.char, [(.int x0), (.int x1), (.int x2), (.int x3), (.int x4), (.int x5)]))], u) _
  refine WGo.s (WStep.iconst (1 : Int32) a3_6 rfl) ?_
  refine WGo.s (WStep.isub a3_7) ?_
  show WGo _ (8, [wR 0, wI 1, wI 1, wI 1], [.int 1, .int 1], [(.inl (.char, [(.int x0), (.int x1), (.int x2), (.int x3), (.int x4), (.int x5)]))], u) _
  refine WGo.s (WStep.icmpT a3_8 (by decide)) ?_
  refine WGo.s (WStep.iloadN a3_25 rfl) ?_
  refine WGo.s (WStep.iloadN a3_26 rfl) ?_
  refine WGo.s (WStep.iloadN a3_27 rfl) ?_
  refine WGo.s (WStep.iadd a3_28) ?_
  show WGo _ (29, [wR 0, wI 1, wI 1, wI 1], [.int 2, .int 1], [(.inl (.char, [(.int x0), (.int x1), (.int x2), (.int x3), (.int x4), (.int x5)]))], u) _
  refine WGo.s (WStep.iconst (1 : Int32) a3_29 rfl) ?_
  refine WGo.s (WStep.isub a3_30) ?_
  show WGo _ (31, [wR 0, wI 1, wI 1, wI 1], [.int 1, .int 1], [(.inl (.char, [(.int x0), (.int x1), (.int x2), (.int x3), (.int x4), (.int x5)]))], u) _
  refine WGo.s (WStep.icmpT a3_31 (by decide)) ?_
  refine WGo.s (WStep.iconst (0 : Int32) a3_38 rfl) ?_
  refine WGo.ireturn .boolean a3_39 rfl (by simp) ?_
  exact QB.no (by simp_all)
theorem c3_12 {Z : State} {a0 : Array Value} (hw : ∀ d ∈ tables_1, d.before a0 Z = true) (ρ : Nat → Nat) (n0 : Nat) (x0 x1 x2 x3 x4 x5 : Int32) (u : Nat) : WGo (g3 Z ρ n0 1 u) (0, [wR 0, wI 1, wI 2, wU], [], [(.inl (.char, [(.int x0), (.int x1), (.int x2), (.int x3), (.int x4), (.int x5)]))], u) (QB (x1 = 93) [(.inl (.char, [(.int x0), (.int x1), (.int x2), (.int x3), (.int x4), (.int x5)]))] u) := by
  refine WGo.s (WStep.iloadN a3_0 rfl) ?_
  refine WGo.s (WStep.istoreN (L' := [wR 0, wI 1, wI 2, wI 1]) a3_1 rfl) ?_
  refine WGo.s (WStep.iloadN a3_2 rfl) ?_
  refine WGo.s (WStep.iloadN a3_3 rfl) ?_
  refine WGo.s (WStep.iloadN a3_4 rfl) ?_
  refine WGo.s (WStep.iadd a3_5) ?_
  show WGo _ (6, [wR 0, wI 1, wI 2, wI 1], [.int 3, .int 1], [(.inl (.char, [(.int x0), (.int x1), (.int x2), (.int x3), (.int x4), (.int x5)]))], u) _
  refine WGo.s (WStep.iconst (1 : Int32) a3_6 rfl) ?_
  refine WGo.s (WStep.isub a3_7) ?_
  show WGo _ (8, [wR 0, wI 1, wI 2, wI 1], [.int 2, .int 1], [(.inl (.char, [(.int x0), (.int x1), (.int x2), (.int x3), (.int x4), (.int x5)]))], u) _
  refine WGo.s (WStep.icmpF a3_8 (by decide)) ?_
  refine WGo.s (WStep.aloadN a3_11 rfl rfl) ?_
  refine WGo.s (WStep.iloadN a3_12 rfl) ?_
  refine WGo.s (WStep.caload 1 a3_13 rfl (by decide) rfl rfl) ?_
  refine WGo.s (WStep.bipush (93 : Int32) a3_14 rfl) ?_
  refine WGo.eq a3_16 (fun h16 => ?_) (fun h16 => ?_)
  · refine WGo.s (WStep.iloadN a3_25 rfl) ?_
    refine WGo.s (WStep.iloadN a3_26 rfl) ?_
    refine WGo.s (WStep.iloadN a3_27 rfl) ?_
    refine WGo.s (WStep.iadd a3_28) ?_
    show WGo _ (29, [wR 0, wI 1, wI 2, wI 1], [.int 3, .int 1], [(.inl (.char, [(.int x0), (.int x1), (.int x2), (.int x3), (.int x4), (.int x5)]))], u) _
    refine WGo.s (WStep.iconst (1 : Int32) a3_29 rfl) ?_
    refine WGo.s (WStep.isub a3_30) ?_
    show WGo _ (31, [wR 0, wI 1, wI 2, wI 1], [.int 2, .int 1], [(.inl (.char, [(.int x0), (.int x1), (.int x2), (.int x3), (.int x4), (.int x5)]))], u) _
    refine WGo.s (WStep.icmpF a3_31 (by decide)) ?_
    refine WGo.s (WStep.iconst (1 : Int32) a3_34 rfl) ?_
    refine WGo.s (WStep.goto a3_35) ?_
    refine WGo.ireturn .boolean a3_39 rfl (by simp) ?_
    exact QB.yes (by simp_all)
  · refine WGo.s (WStep.iinc (L' := [wR 0, wI 1, wI 2, wI 2]) a3_19 rfl rfl) ?_
    refine WGo.s (WStep.goto a3_22) ?_
    refine WGo.s (WStep.iloadN a3_2 rfl) ?_
    refine WGo.s (WStep.iloadN a3_3 rfl) ?_
    refine WGo.s (WStep.iloadN a3_4 rfl) ?_
    refine WGo.s (WStep.iadd a3_5) ?_
    show WGo _ (6, [wR 0, wI 1, wI 2, wI 2], [.int 3, .int 2], [(.inl (.char, [(.int x0), (.int x1), (.int x2), (.int x3), (.int x4), (.int x5)]))], u) _
    refine WGo.s (WStep.iconst (1 : Int32) a3_6 rfl) ?_
    refine WGo.s (WStep.isub a3_7) ?_
    show WGo _ (8, [wR 0, wI 1, wI 2, wI 2], [.int 2, .int 2], [(.inl (.char, [(.int x0), (.int x1), (.int x2), (.int x3), (.int x4), (.int x5)]))], u) _
    refine WGo.s (WStep.icmpT a3_8 (by decide)) ?_
    refine WGo.s (WStep.iloadN a3_25 rfl) ?_
    refine WGo.s (WStep.iloadN a3_26 rfl) ?_
    refine WGo.s (WStep.iloadN a3_27 rfl) ?_
    refine WGo.s (WStep.iadd a3_28) ?_
    show WGo _ (29, [wR 0, wI 1, wI 2, wI 2], [.int 3, .int 2], [(.inl (.char, [(.int x0), (.int x1), (.int x2), (.int x3), (.int x4), (.int x5)]))], u) _
    refine WGo.s (WStep.iconst (1 : Int32) a3_29 rfl) ?_
    refine WGo.s (WStep.isub a3_30) ?_
    show WGo _ (31, [wR 0, wI 1, wI 2, wI 2], [.int 2, .int 2], [(.inl (.char, [(.int x0), (.int x1), (.int x2), (.int x3), (.int x4), (.int x5)]))], u) _
    refine WGo.s (WStep.icmpT a3_31 (by decide)) ?_
    refine WGo.s (WStep.iconst (0 : Int32) a3_38 rfl) ?_
    refine WGo.ireturn .boolean a3_39 rfl (by simp) ?_
    exact QB.no (by simp_all)
theorem c3_13 {Z : State} {a0 : Array Value} (hw : ∀ d ∈ tables_1, d.before a0 Z = true) (ρ : Nat → Nat) (n0 : Nat) (x0 x1 x2 x3 x4 x5 : Int32) (u : Nat) : WGo (g3 Z ρ n0 1 u) (0, [wR 0, wI 1, wI 3, wU], [], [(.inl (.char, [(.int x0), (.int x1), (.int x2), (.int x3), (.int x4), (.int x5)]))], u) (QB (x1 = 93 ∨ x2 = 93) [(.inl (.char, [(.int x0), (.int x1), (.int x2), (.int x3), (.int x4), (.int x5)]))] u) := by
  refine WGo.s (WStep.iloadN a3_0 rfl) ?_
  refine WGo.s (WStep.istoreN (L' := [wR 0, wI 1, wI 3, wI 1]) a3_1 rfl) ?_
  refine WGo.s (WStep.iloadN a3_2 rfl) ?_
  refine WGo.s (WStep.iloadN a3_3 rfl) ?_
  refine WGo.s (WStep.iloadN a3_4 rfl) ?_
  refine WGo.s (WStep.iadd a3_5) ?_
  show WGo _ (6, [wR 0, wI 1, wI 3, wI 1], [.int 4, .int 1], [(.inl (.char, [(.int x0), (.int x1), (.int x2), (.int x3), (.int x4), (.int x5)]))], u) _
  refine WGo.s (WStep.iconst (1 : Int32) a3_6 rfl) ?_
  refine WGo.s (WStep.isub a3_7) ?_
  show WGo _ (8, [wR 0, wI 1, wI 3, wI 1], [.int 3, .int 1], [(.inl (.char, [(.int x0), (.int x1), (.int x2), (.int x3), (.int x4), (.int x5)]))], u) _
  refine WGo.s (WStep.icmpF a3_8 (by decide)) ?_
  refine WGo.s (WStep.aloadN a3_11 rfl rfl) ?_
  refine WGo.s (WStep.iloadN a3_12 rfl) ?_
  refine WGo.s (WStep.caload 1 a3_13 rfl (by decide) rfl rfl) ?_
  refine WGo.s (WStep.bipush (93 : Int32) a3_14 rfl) ?_
  refine WGo.eq a3_16 (fun h16 => ?_) (fun h16 => ?_)
  · refine WGo.s (WStep.iloadN a3_25 rfl) ?_
    refine WGo.s (WStep.iloadN a3_26 rfl) ?_
    refine WGo.s (WStep.iloadN a3_27 rfl) ?_
    refine WGo.s (WStep.iadd a3_28) ?_
    show WGo _ (29, [wR 0, wI 1, wI 3, wI 1], [.int 4, .int 1], [(.inl (.char, [(.int x0), (.int x1), (.int x2), (.int x3), (.int x4), (.int x5)]))], u) _
    refine WGo.s (WStep.iconst (1 : Int32) a3_29 rfl) ?_
    refine WGo.s (WStep.isub a3_30) ?_
    show WGo _ (31, [wR 0, wI 1, wI 3, wI 1], [.int 3, .int 1], [(.inl (.char, [(.int x0), (.int x1), (.int x2), (.int x3), (.int x4), (.int x5)]))], u) _
    refine WGo.s (WStep.icmpF a3_31 (by decide)) ?_
    refine WGo.s (WStep.iconst (1 : Int32) a3_34 rfl) ?_
    refine WGo.s (WStep.goto a3_35) ?_
    refine WGo.ireturn .boolean a3_39 rfl (by simp) ?_
    exact QB.yes (by simp_all)
  · refine WGo.s (WStep.iinc (L' := [wR 0, wI 1, wI 3, wI 2]) a3_19 rfl rfl) ?_
    refine WGo.s (WStep.goto a3_22) ?_
    refine WGo.s (WStep.iloadN a3_2 rfl) ?_
    refine WGo.s (WStep.iloadN a3_3 rfl) ?_
    refine WGo.s (WStep.iloadN a3_4 rfl) ?_
    refine WGo.s (WStep.iadd a3_5) ?_
    show WGo _ (6, [wR 0, wI 1, wI 3, wI 2], [.int 4, .int 2], [(.inl (.char, [(.int x0), (.int x1), (.int x2), (.int x3), (.int x4), (.int x5)]))], u) _
    refine WGo.s (WStep.iconst (1 : Int32) a3_6 rfl) ?_
    refine WGo.s (WStep.isub a3_7) ?_
    show WGo _ (8, [wR 0, wI 1, wI 3, wI 2], [.int 3, .int 2], [(.inl (.char, [(.int x0), (.int x1), (.int x2), (.int x3), (.int x4), (.int x5)]))], u) _
    refine WGo.s (WStep.icmpF a3_8 (by decide)) ?_
    refine WGo.s (WStep.aloadN a3_11 rfl rfl) ?_
    refine WGo.s (WStep.iloadN a3_12 rfl) ?_
    refine WGo.s (WStep.caload 2 a3_13 rfl (by decide) rfl rfl) ?_
    refine WGo.s (WStep.bipush (93 : Int32) a3_14 rfl) ?_
    refine WGo.eq a3_16 (fun h16_1 => ?_) (fun h16_1 => ?_)
    · refine WGo.s (WStep.iloadN a3_25 rfl) ?_
      refine WGo.s (WStep.iloadN a3_26 rfl) ?_
      refine WGo.s (WStep.iloadN a3_27 rfl) ?_
      refine WGo.s (WStep.iadd a3_28) ?_
      show WGo _ (29, [wR 0, wI 1, wI 3, wI 2], [.int 4, .int 2], [(.inl (.char, [(.int x0), (.int x1), (.int x2), (.int x3), (.int x4), (.int x5)]))], u) _
      refine WGo.s (WStep.iconst (1 : Int32) a3_29 rfl) ?_
      refine WGo.s (WStep.isub a3_30) ?_
      show WGo _ (31, [wR 0, wI 1, wI 3, wI 2], [.int 3, .int 2], [(.inl (.char, [(.int x0), (.int x1), (.int x2), (.int x3), (.int x4), (.int x5)]))], u) _
      refine WGo.s (WStep.icmpF a3_31 (by decide)) ?_
      refine WGo.s (WStep.iconst (1 : Int32) a3_34 rfl) ?_
      refine WGo.s (WStep.goto a3_35) ?_
      refine WGo.ireturn .boolean a3_39 rfl (by simp) ?_
      exact QB.yes (by simp_all)
    · refine WGo.s (WStep.iinc (L' := [wR 0, wI 1, wI 3, wI 3]) a3_19 rfl rfl) ?_
      refine WGo.s (WStep.goto a3_22) ?_
      refine WGo.s (WStep.iloadN a3_2 rfl) ?_
      refine WGo.s (WStep.iloadN a3_3 rfl) ?_
      refine WGo.s (WStep.iloadN a3_4 rfl) ?_
      refine WGo.s (WStep.iadd a3_5) ?_
      show WGo _ (6, [wR 0, wI 1, wI 3, wI 3], [.int 4, .int 3], [(.inl (.char, [(.int x0), (.int x1), (.int x2), (.int x3), (.int x4), (.int x5)]))], u) _
      refine WGo.s (WStep.iconst (1 : Int32) a3_6 rfl) ?_
      refine WGo.s (WStep.isub a3_7) ?_
      show WGo _ (8, [wR 0, wI 1, wI 3, wI 3], [.int 3, .int 3], [(.inl (.char, [(.int x0), (.int x1), (.int x2), (.int x3), (.int x4), (.int x5)]))], u) _
      refine WGo.s (WStep.icmpT a3_8 (by decide)) ?_
      refine WGo.s (WStep.iloadN a3_25 rfl) ?_
      refine WGo.s (WStep.iloadN a3_26 rfl) ?_
      refine WGo.s (WStep.iloadN a3_27 rfl) ?_
      refine WGo.s (WStep.iadd a3_28) ?_
      show WGo _ (29, [wR 0, wI 1, wI 3, wI 3], [.int 4, .int 3], [(.inl (.char, [(.int x0), (.int x1), (.int x2), (.int x3), (.int x4), (.int x5)]))], u) _
      refine WGo.s (WStep.iconst (1 : Int32) a3_29 rfl) ?_
      refine WGo.s (WStep.isub a3_30) ?_
      show WGo _ (31, [wR 0, wI 1, wI 3, wI 3], [.int 3, .int 3], [(.inl (.char, [(.int x0), (.int x1), (.int x2), (.int x3), (.int x4), (.int x5)]))], u) _
      refine WGo.s (WStep.icmpT a3_31 (by decide)) ?_
      refine WGo.s (WStep.iconst (0 : Int32) a3_38 rfl) ?_
      refine WGo.ireturn .boolean a3_39 rfl (by simp) ?_
      exact QB.no (by simp_all)
theorem c3_14 {Z : State} {a0 : Array Value} (hw : ∀ d ∈ tables_1, d.before a0 Z = true) (ρ : Nat → Nat) (n0 : Nat) (x0 x1 x2 x3 x4 x5 : Int32) (u : Nat) : WGo (g3 Z ρ n0 1 u) (0, [wR 0, wI 1, wI 4, wU], [], [(.inl (.char, [(.int x0), (.int x1), (.int x2), (.int x3), (.int x4), (.int x5)]))], u) (QB (x1 = 93 ∨ x2 = 93 ∨ x3 = 93) [(.inl (.char, [(.int x0), (.int x1), (.int x2), (.int x3), (.int x4), (.int x5)]))] u) := by
  refine WGo.s (WStep.iloadN a3_0 rfl) ?_
  refine WGo.s (WStep.istoreN (L' := [wR 0, wI 1, wI 4, wI 1]) a3_1 rfl) ?_
  refine WGo.s (WStep.iloadN a3_2 rfl) ?_
  refine WGo.s (WStep.iloadN a3_3 rfl) ?_
  refine WGo.s (WStep.iloadN a3_4 rfl) ?_
  refine WGo.s (WStep.iadd a3_5) ?_
  show WGo _ (6, [wR 0, wI 1, wI 4, wI 1], [.int 5, .int 1], [(.inl (.char, [(.int x0), (.int x1), (.int x2), (.int x3), (.int x4), (.int x5)]))], u) _
  refine WGo.s (WStep.iconst (1 : Int32) a3_6 rfl) ?_
  refine WGo.s (WStep.isub a3_7) ?_
  show WGo _ (8, [wR 0, wI 1, wI 4, wI 1], [.int 4, .int 1], [(.inl (.char, [(.int x0), (.int x1), (.int x2), (.int x3), (.int x4), (.int x5)]))], u) _
  refine WGo.s (WStep.icmpF a3_8 (by decide)) ?_
  refine WGo.s (WStep.aloadN a3_11 rfl rfl) ?_
  refine WGo.s (WStep.iloadN a3_12 rfl) ?_
  refine WGo.s (WStep.caload 1 a3_13 rfl (by decide) rfl rfl) ?_
  refine WGo.s (WStep.bipush (93 : Int32) a3_14 rfl) ?_
  refine WGo.eq a3_16 (fun h16 => ?_) (fun h16 => ?_)
  · refine WGo.s (WStep.iloadN a3_25 rfl) ?_
    refine WGo.s (WStep.iloadN a3_26 rfl) ?_
    refine WGo.s (WStep.iloadN a3_27 rfl) ?_
    refine WGo.s (WStep.iadd a3_28) ?_
    show WGo _ (29, [wR 0, wI 1, wI 4, wI 1], [.int 5, .int 1], [(.inl (.char, [(.int x0), (.int x1), (.int x2), (.int x3), (.int x4), (.int x5)]))], u) _
    refine WGo.s (WStep.iconst (1 : Int32) a3_29 rfl) ?_
    refine WGo.s (WStep.isub a3_30) ?_
    show WGo _ (31, [wR 0, wI 1, wI 4, wI 1], [.int 4, .int 1], [(.inl (.char, [(.int x0), (.int x1), (.int x2), (.int x3), (.int x4), (.int x5)]))], u) _
    refine WGo.s (WStep.icmpF a3_31 (by decide)) ?_
    refine WGo.s (WStep.iconst (1 : Int32) a3_34 rfl) ?_
    refine WGo.s (WStep.goto a3_35) ?_
    refine WGo.ireturn .boolean a3_39 rfl (by simp) ?_
    exact QB.yes (by simp_all)
  · refine WGo.s (WStep.iinc (L' := [wR 0, wI 1, wI 4, wI 2]) a3_19 rfl rfl) ?_
    refine WGo.s (WStep.goto a3_22) ?_
    refine WGo.s (WStep.iloadN a3_2 rfl) ?_
    refine WGo.s (WStep.iloadN a3_3 rfl) ?_
    refine WGo.s (WStep.iloadN a3_4 rfl) ?_
    refine WGo.s (WStep.iadd a3_5) ?_
    show WGo _ (6, [wR 0, wI 1, wI 4, wI 2], [.int 5, .int 2], [(.inl (.char, [(.int x0), (.int x1), (.int x2), (.int x3), (.int x4), (.int x5)]))], u) _
    refine WGo.s (WStep.iconst (1 : Int32) a3_6 rfl) ?_
    refine WGo.s (WStep.isub a3_7) ?_
    show WGo _ (8, [wR 0, wI 1, wI 4, wI 2], [.int 4, .int 2], [(.inl (.char, [(.int x0), (.int x1), (.int x2), (.int x3), (.int x4), (.int x5)]))], u) _
    refine WGo.s (WStep.icmpF a3_8 (by decide)) ?_
    refine WGo.s (WStep.aloadN a3_11 rfl rfl) ?_
    refine WGo.s (WStep.iloadN a3_12 rfl) ?_
    refine WGo.s (WStep.caload 2 a3_13 rfl (by decide) rfl rfl) ?_
    refine WGo.s (WStep.bipush (93 : Int32) a3_14 rfl) ?_
    refine WGo.eq a3_16 (fun h16_1 => ?_) (fun h16_1 => ?_)
    · refine WGo.s (WStep.iloadN a3_25 rfl) ?_
      refine WGo.s (WStep.iloadN a3_26 rfl) ?_
      refine WGo.s (WStep.iloadN a3_27 rfl) ?_
      refine WGo.s (WStep.iadd a3_28) ?_
      show WGo _ (29, [wR 0, wI 1, wI 4, wI 2], [.int 5, .int 2], [(.inl (.char, [(.int x0), (.int x1), (.int x2), (.int x3), (.int x4), (.int x5)]))], u) _
      refine WGo.s (WStep.iconst (1 : Int32) a3_29 rfl) ?_
      refine WGo.s (WStep.isub a3_30) ?_
      show WGo _ (31, [wR 0, wI 1, wI 4, wI 2], [.int 4, .int 2], [(.inl (.char, [(.int x0), (.int x1), (.int x2), (.int x3), (.int x4), (.int x5)]))], u) _
      refine WGo.s (WStep.icmpF a3_31 (by decide)) ?_
      refine WGo.s (WStep.iconst (1 : Int32) a3_34 rfl) ?_
      refine WGo.s (WStep.goto a3_35) ?_
      refine WGo.ireturn .boolean a3_39 rfl (by simp) ?_
      exact QB.yes (by simp_all)
    · refine WGo.s (WStep.iinc (L' := [wR 0, wI 1, wI 4, wI 3]) a3_19 rfl rfl) ?_
      refine WGo.s (WStep.goto a3_22) ?_
      refine WGo.s (WStep.iloadN a3_2 rfl) ?_
      refine WGo.s (WStep.iloadN a3_3 rfl) ?_
      refine WGo.s (WStep.iloadN a3_4 rfl) ?_
      refine WGo.s (WStep.iadd a3_5) ?_
      show WGo _ (6, [wR 0, wI 1, wI 4, wI 3], [.int 5, .int 3], [(.inl (.char, [(.int x0), (.int x1), (.int x2), (.int x3), (.int x4), (.int x5)]))], u) _
      refine WGo.s (WStep.iconst (1 : Int32) a3_6 rfl) ?_
      refine WGo.s (WStep.isub a3_7) ?_
      show WGo _ (8, [wR 0, wI 1, wI 4, wI 3], [.int 4, .int 3], [(.inl (.char, [(.int x0), (.int x1), (.int x2), (.int x3), (.int x4), (.int x5)]))], u) _
      refine WGo.s (WStep.icmpF a3_8 (by decide)) ?_
      refine WGo.s (WStep.aloadN a3_11 rfl rfl) ?_
      refine WGo.s (WStep.iloadN a3_12 rfl) ?_
      refine WGo.s (WStep.caload 3 a3_13 rfl (by decide) rfl rfl) ?_
      refine WGo.s (WStep.bipush (93 : Int32) a3_14 rfl) ?_
      refine WGo.eq a3_16 (fun h16_2 => ?_) (fun h16_2 => ?_)
      · refine WGo.s (WStep.iloadN a3_25 rfl) ?_
        refine WGo.s (WStep.iloadN a3_26 rfl) ?_
        refine WGo.s (WStep.iloadN a3_27 rfl) ?_
        refine WGo.s (WStep.iadd a3_28) ?_
        show WGo _ (29, [wR 0, wI 1, wI 4, wI 3], [.int 5, .int 3], [(.inl (.char, [(.int x0), (.int x1), (.int x2), (.int x3), (.int x4), (.int x5)]))], u) _
        refine WGo.s (WStep.iconst (1 : Int32) a3_29 rfl) ?_
        refine WGo.s (WStep.isub a3_30) ?_
        show WGo _ (31, [wR 0, wI 1, wI 4, wI 3], [.int 4, .int 3], [(.inl (.char, [(.int x0), (.int x1), (.int x2), (.int x3), (.int x4), (.int x5)]))], u) _
        refine WGo.s (WStep.icmpF a3_31 (by decide)) ?_
        refine WGo.s (WStep.iconst (1 : Int32) a3_34 rfl) ?_
        refine WGo.s (WStep.goto a3_35) ?_
        refine WGo.ireturn .boolean a3_39 rfl (by simp) ?_
        exact QB.yes (by simp_all)
      · refine WGo.s (WStep.iinc (L' := [wR 0, wI 1, wI 4, wI 4]) a3_19 rfl rfl) ?_
        refine WGo.s (WStep.goto a3_22) ?_
        refine WGo.s (WStep.iloadN a3_2 rfl) ?_
        refine WGo.s (WStep.iloadN a3_3 rfl) ?_
        refine WGo.s (WStep.iloadN a3_4 rfl) ?_
        refine WGo.s (WStep.iadd a3_5) ?_
        show WGo _ (6, [wR 0, wI 1, wI 4, wI 4], [.int 5, .int 4], [(.inl (.char, [(.int x0), (.int x1), (.int x2), (.int x3), (.int x4), (.int x5)]))], u) _
        refine WGo.s (WStep.iconst (1 : Int32) a3_6 rfl) ?_
        refine WGo.s (WStep.isub a3_7) ?_
        show WGo _ (8, [wR 0, wI 1, wI 4, wI 4], [.int 4, .int 4], [(.inl (.char, [(.int x0), (.int x1), (.int x2), (.int x3), (.int x4), (.int x5)]))], u) _
        refine WGo.s (WStep.icmpT a3_8 (by decide)) ?_
        refine WGo.s (WStep.iloadN a3_25 rfl) ?_
        refine WGo.s (WStep.iloadN a3_26 rfl) ?_
        refine WGo.s (WStep.iloadN a3_27 rfl) ?_
        refine WGo.s (WStep.iadd a3_28) ?_
        show WGo _ (29, [wR 0, wI 1, wI 4, wI 4], [.int 5, .int 4], [(.inl (.char, [(.int x0), (.int x1), (.int x2), (.int x3), (.int x4), (.int x5)]))], u) _
        refine WGo.s (WStep.iconst (1 : Int32) a3_29 rfl) ?_
        refine WGo.s (WStep.isub a3_30) ?_
        show WGo _ (31, [wR 0, wI 1, wI 4, wI 4], [.int 4, .int 4], [(.inl (.char, [(.int x0), (.int x1), (.int x2), (.int x3), (.int x4), (.int x5)]))], u) _
        refine WGo.s (WStep.icmpT a3_31 (by decide)) ?_
        refine WGo.s (WStep.iconst (0 : Int32) a3_38 rfl) ?_
        refine WGo.ireturn .boolean a3_39 rfl (by simp) ?_
        exact QB.no (by simp_all)
theorem c3_15 {Z : State} {a0 : Array Value} (hw : ∀ d ∈ tables_1, d.before a0 Z = true) (ρ : Nat → Nat) (n0 : Nat) (x0 x1 x2 x3 x4 x5 : Int32) (u : Nat) : WGo (g3 Z ρ n0 1 u) (0, [wR 0, wI 1, wI 5, wU], [], [(.inl (.char, [(.int x0), (.int x1), (.int x2), (.int x3), (.int x4), (.int x5)]))], u) (QB (x1 = 93 ∨ x2 = 93 ∨ x3 = 93 ∨ x4 = 93) [(.inl (.char, [(.int x0), (.int x1), (.int x2), (.int x3), (.int x4), (.int x5)]))] u) := by
  refine WGo.s (WStep.iloadN a3_0 rfl) ?_
  refine WGo.s (WStep.istoreN (L' := [wR 0, wI 1, wI 5, wI 1]) a3_1 rfl) ?_
  refine WGo.s (WStep.iloadN a3_2 rfl) ?_
  refine WGo.s (WStep.iloadN a3_3 rfl) ?_
  refine WGo.s (WStep.iloadN a3_4 rfl) ?_
  refine WGo.s (WStep.iadd a3_5) ?_
  show WGo _ (6, [wR 0, wI 1, wI 5, wI 1], [.int 6, .int 1], [(.inl (.char, [(.int x0), (.int x1), (.int x2), (.int x3), (.int x4), (.int x5)]))], u) _
  refine WGo.s (WStep.iconst (1 : Int32) a3_6 rfl) ?_
  refine WGo.s (WStep.isub a3_7) ?_
  show WGo _ (8, [wR 0, wI 1, wI 5, wI 1], [.int 5, .int 1], [(.inl (.char, [(.int x0), (.int x1), (.int x2), (.int x3), (.int x4), (.int x5)]))], u) _
  refine WGo.s (WStep.icmpF a3_8 (by decide)) ?_
  refine WGo.s (WStep.aloadN a3_11 rfl rfl) ?_
  refine WGo.s (WStep.iloadN a3_12 rfl) ?_
  refine WGo.s (WStep.caload 1 a3_13 rfl (by decide) rfl rfl) ?_
  refine WGo.s (WStep.bipush (93 : Int32) a3_14 rfl) ?_
  refine WGo.eq a3_16 (fun h16 => ?_) (fun h16 => ?_)
  · refine WGo.s (WStep.iloadN a3_25 rfl) ?_
    refine WGo.s (WStep.iloadN a3_26 rfl) ?_
    refine WGo.s (WStep.iloadN a3_27 rfl) ?_
    refine WGo.s (WStep.iadd a3_28) ?_
    show WGo _ (29, [wR 0, wI 1, wI 5, wI 1], [.int 6, .int 1], [(.inl (.char, [(.int x0), (.int x1), (.int x2), (.int x3), (.int x4), (.int x5)]))], u) _
    refine WGo.s (WStep.iconst (1 : Int32) a3_29 rfl) ?_
    refine WGo.s (WStep.isub a3_30) ?_
    show WGo _ (31, [wR 0, wI 1, wI 5, wI 1], [.int 5, .int 1], [(.inl (.char, [(.int x0), (.int x1), (.int x2), (.int x3), (.int x4), (.int x5)]))], u) _
    refine WGo.s (WStep.icmpF a3_31 (by decide)) ?_
    refine WGo.s (WStep.iconst (1 : Int32) a3_34 rfl) ?_
    refine WGo.s (WStep.goto a3_35) ?_
    refine WGo.ireturn .boolean a3_39 rfl (by simp) ?_
    exact QB.yes (by simp_all)
  · refine WGo.s (WStep.iinc (L' := [wR 0, wI 1, wI 5, wI 2]) a3_19 rfl rfl) ?_
    refine WGo.s (WStep.goto a3_22) ?_
    refine WGo.s (WStep.iloadN a3_2 rfl) ?_
    refine WGo.s (WStep.iloadN a3_3 rfl) ?_
    refine WGo.s (WStep.iloadN a3_4 rfl) ?_
    refine WGo.s (WStep.iadd a3_5) ?_
    show WGo _ (6, [wR 0, wI 1, wI 5, wI 2], [.int 6, .int 2], [(.inl (.char, [(.int x0), (.int x1), (.int x2), (.int x3), (.int x4), (.int x5)]))], u) _
    refine WGo.s (WStep.iconst (1 : Int32) a3_6 rfl) ?_
    refine WGo.s (WStep.isub a3_7) ?_
    show WGo _ (8, [wR 0, wI 1, wI 5, wI 2], [.int 5, .int 2], [(.inl (.char, [(.int x0), (.int x1), (.int x2), (.int x3), (.int x4), (.int x5)]))], u) _
    refine WGo.s (WStep.icmpF a3_8 (by decide)) ?_
    refine WGo.s (WStep.aloadN a3_11 rfl rfl) ?_
    refine WGo.s (WStep.iloadN a3_12 rfl) ?_
    refine WGo.s (WStep.caload 2 a3_13 rfl (by decide) rfl rfl) ?_
    refine WGo.s (WStep.bipush (93 : Int32) a3_14 rfl) ?_
    refine WGo.eq a3_16 (fun h16_1 => ?_) (fun h16_1 => ?_)
    · refine WGo.s (WStep.iloadN a3_25 rfl) ?_
      refine WGo.s (WStep.iloadN a3_26 rfl) ?_
      refine WGo.s (WStep.iloadN a3_27 rfl) ?_
      refine WGo.s (WStep.iadd a3_28) ?_
      show WGo _ (29, [wR 0, wI 1, wI 5, wI 2], [.int 6, .int 2], [(.inl (.char, [(.int x0), (.int x1), (.int x2), (.int x3), (.int x4), (.int x5)]))], u) _
      refine WGo.s (WStep.iconst (1 : Int32) a3_29 rfl) ?_
      refine WGo.s (WStep.isub a3_30) ?_
      show WGo _ (31, [wR 0, wI 1, wI 5, wI 2], [.int 5, .int 2], [(.inl (.char, [(.int x0), (.int x1), (.int x2), (.int x3), (.int x4), (.int x5)]))], u) _
      refine WGo.s (WStep.icmpF a3_31 (by decide)) ?_
      refine WGo.s (WStep.iconst (1 : Int32) a3_34 rfl) ?_
      refine WGo.s (WStep.goto a3_35) ?_
      refine WGo.ireturn .boolean a3_39 rfl (by simp) ?_
      exact QB.yes (by simp_all)
    · refine WGo.s (WStep.iinc (L' := [wR 0, wI 1, wI 5, wI 3]) a3_19 rfl rfl) ?_
      refine WGo.s (WStep.goto a3_22) ?_
      refine WGo.s (WStep.iloadN a3_2 rfl) ?_
      refine WGo.s (WStep.iloadN a3_3 rfl) ?_
      refine WGo.s (WStep.iloadN a3_4 rfl) ?_
      refine WGo.s (WStep.iadd a3_5) ?_
      show WGo _ (6, [wR 0, wI 1, wI 5, wI 3], [.int 6, .int 3], [(.inl (.char, [(.int x0), (.int x1), (.int x2), (.int x3), (.int x4), (.int x5)]))], u) _
      refine WGo.s (WStep.iconst (1 : Int32) a3_6 rfl) ?_
      refine WGo.s (WStep.isub a3_7) ?_
      show WGo _ (8, [wR 0, wI 1, wI 5, wI 3], [.int 5, .int 3], [(.inl (.char, [(.int x0), (.int x1), (.int x2), (.int x3), (.int x4), (.int x5)]))], u) _
      refine WGo.s (WStep.icmpF a3_8 (by decide)) ?_
      refine WGo.s (WStep.aloadN a3_11 rfl rfl) ?_
      refine WGo.s (WStep.iloadN a3_12 rfl) ?_
      refine WGo.s (WStep.caload 3 a3_13 rfl (by decide) rfl rfl) ?_
      refine WGo.s (WStep.bipush (93 : Int32) a3_14 rfl) ?_
      refine WGo.eq a3_16 (fun h16_2 => ?_) (fun h16_2 => ?_)
      · refine WGo.s (WStep.iloadN a3_25 rfl) ?_
        refine WGo.s (WStep.iloadN a3_26 rfl) ?_
        refine WGo.s (WStep.iloadN a3_27 rfl) ?_
        refine WGo.s (WStep.iadd a3_28) ?_
        show WGo _ (29, [wR 0, wI 1, wI 5, wI 3], [.int 6, .int 3], [(.inl (.char, [(.int x0), (.int x1), (.int x2), (.int x3), (.int x4), (.int x5)]))], u) _
        refine WGo.s (WStep.iconst (1 : Int32) a3_29 rfl) ?_
        refine WGo.s (WStep.isub a3_30) ?_
        show WGo _ (31, [wR 0, wI 1, wI 5, wI 3], [.int 5, .int 3], [(.inl (.char, [(.int x0), (.int x1), (.int x2), (.int x3), (.int x4), (.int x5)]))], u) _
        refine WGo.s (WStep.icmpF a3_31 (by decide)) ?_
        refine WGo.s (WStep.iconst (1 : Int32) a3_34 rfl) ?_
        refine WGo.s (WStep.goto a3_35) ?_
        refine WGo.ireturn .boolean a3_39 rfl (by simp) ?_
        exact QB.yes (by simp_all)
      · refine WGo.s (WStep.iinc (L' := [wR 0, wI 1, wI 5, wI 4]) a3_19 rfl rfl) ?_
        refine WGo.s (WStep.goto a3_22) ?_
        refine WGo.s (WStep.iloadN a3_2 rfl) ?_
        refine WGo.s (WStep.iloadN a3_3 rfl) ?_
        refine WGo.s (WStep.iloadN a3_4 rfl) ?_
        refine WGo.s (WStep.iadd a3_5) ?_
        show WGo _ (6, [wR 0, wI 1, wI 5, wI 4], [.int 6, .int 4], [(.inl (.char, [(.int x0), (.int x1), (.int x2), (.int x3), (.int x4), (.int x5)]))], u) _
        refine WGo.s (WStep.iconst (1 : Int32) a3_6 rfl) ?_
        refine WGo.s (WStep.isub a3_7) ?_
        show WGo _ (8, [wR 0, wI 1, wI 5, wI 4], [.int 5, .int 4], [(.inl (.char, [(.int x0), (.int x1), (.int x2), (.int x3), (.int x4), (.int x5)]))], u) _
        refine WGo.s (WStep.icmpF a3_8 (by decide)) ?_
        refine WGo.s (WStep.aloadN a3_11 rfl rfl) ?_
        refine WGo.s (WStep.iloadN a3_12 rfl) ?_
        refine WGo.s (WStep.caload 4 a3_13 rfl (by decide) rfl rfl) ?_
        refine WGo.s (WStep.bipush (93 : Int32) a3_14 rfl) ?_
        refine WGo.eq a3_16 (fun h16_3 => ?_) (fun h16_3 => ?_)
        · refine WGo.s (WStep.iloadN a3_25 rfl) ?_
          refine WGo.s (WStep.iloadN a3_26 rfl) ?_
          refine WGo.s (WStep.iloadN a3_27 rfl) ?_
          refine WGo.s (WStep.iadd a3_28) ?_
          show WGo _ (29, [wR 0, wI 1, wI 5, wI 4], [.int 6, .int 4], [(.inl (.char, [(.int x0), (.int x1), (.int x2), (.int x3), (.int x4), (.int x5)]))], u) _
          refine WGo.s (WStep.iconst (1 : Int32) a3_29 rfl) ?_
          refine WGo.s (WStep.isub a3_30) ?_
          show WGo _ (31, [wR 0, wI 1, wI 5, wI 4], [.int 5, .int 4], [(.inl (.char, [(.int x0), (.int x1), (.int x2), (.int x3), (.int x4), (.int x5)]))], u) _
          refine WGo.s (WStep.icmpF a3_31 (by decide)) ?_
          refine WGo.s (WStep.iconst (1 : Int32) a3_34 rfl) ?_
          refine WGo.s (WStep.goto a3_35) ?_
          refine WGo.ireturn .boolean a3_39 rfl (by simp) ?_
          exact QB.yes (by simp_all)
        · refine WGo.s (WStep.iinc (L' := [wR 0, wI 1, wI 5, wI 5]) a3_19 rfl rfl) ?_
          refine WGo.s (WStep.goto a3_22) ?_
          refine WGo.s (WStep.iloadN a3_2 rfl) ?_
          refine WGo.s (WStep.iloadN a3_3 rfl) ?_
          refine WGo.s (WStep.iloadN a3_4 rfl) ?_
          refine WGo.s (WStep.iadd a3_5) ?_
          show WGo _ (6, [wR 0, wI 1, wI 5, wI 5], [.int 6, .int 5], [(.inl (.char, [(.int x0), (.int x1), (.int x2), (.int x3), (.int x4), (.int x5)]))], u) _
          refine WGo.s (WStep.iconst (1 : Int32) a3_6 rfl) ?_
          refine WGo.s (WStep.isub a3_7) ?_
          show WGo _ (8, [wR 0, wI 1, wI 5, wI 5], [.int 5, .int 5], [(.inl (.char, [(.int x0), (.int x1), (.int x2), (.int x3), (.int x4), (.int x5)]))], u) _
          refine WGo.s (WStep.icmpT a3_8 (by decide)) ?_
          refine WGo.s (WStep.iloadN a3_25 rfl) ?_
          refine WGo.s (WStep.iloadN a3_26 rfl) ?_
          refine WGo.s (WStep.iloadN a3_27 rfl) ?_
          refine WGo.s (WStep.iadd a3_28) ?_
          show WGo _ (29, [wR 0, wI 1, wI 5, wI 5], [.int 6, .int 5], [(.inl (.char, [(.int x0), (.int x1), (.int x2), (.int x3), (.int x4), (.int x5)]))], u) _
          refine WGo.s (WStep.iconst (1 : Int32) a3_29 rfl) ?_
          refine WGo.s (WStep.isub a3_30) ?_
          show WGo _ (31, [wR 0, wI 1, wI 5, wI 5], [.int 5, .int 5], [(.inl (.char, [(.int x0), (.int x1), (.int x2), (.int x3), (.int x4), (.int x5)]))], u) _
          refine WGo.s (WStep.icmpT a3_31 (by decide)) ?_
          refine WGo.s (WStep.iconst (0 : Int32) a3_38 rfl) ?_
          refine WGo.ireturn .boolean a3_39 rfl (by simp) ?_
          exact QB.no (by simp_all)
theorem c3_20 {Z : State} {a0 : Array Value} (hw : ∀ d ∈ tables_1, d.before a0 Z = true) (ρ : Nat → Nat) (n0 : Nat) (x0 x1 x2 x3 x4 x5 : Int32) (u : Nat) : WGo (g3 Z ρ n0 1 u) (0, [wR 0, wI 2, wI 0, wU], [], [(.inl (.char, [(.int x0), (.int x1), (.int x2), (.int x3), (.int x4), (.int x5)]))], u) (QB (False) [(.inl (.char, [(.int x0), (.int x1), (.int x2), (.int x3), (.int x4), (.int x5)]))] u) := by
  refine WGo.s (WStep.iloadN a3_0 rfl) ?_
  refine WGo.s (WStep.istoreN (L' := [wR 0, wI 2, wI 0, wI 2]) a3_1 rfl) ?_
  refine WGo.s (WStep.iloadN a3_2 rfl) ?_
  refine WGo.s (WStep.iloadN a3_3 rfl) ?_
  refine WGo.s (WStep.iloadN a3_4 rfl) ?_
  refine WGo.s (WStep.iadd a3_5) ?_
  show WGo _ (6, [wR 0, wI 2, wI 0, wI 2], [.int 2, .int 2], [(.inl (.char, [(.int x0), (.int x1), (.int x2), (.int x3), (.int x4), (.int x5)]))], u) _
  refine WGo.s (WStep.iconst (1 : Int32) a3_6 rfl) ?_
  refine WGo.s (WStep.isub a3_7) ?_
  show WGo _ (8, [wR 0, wI 2, wI 0, wI 2], [.int 1, .int 2], [(.inl (.char, [(.int x0), (.int x1), (.int x2), (.int x3), (.int x4), (.int x5)]))], u) _
  refine WGo.s (WStep.icmpT a3_8 (by decide)) ?_
  refine WGo.s (WStep.iloadN a3_25 rfl) ?_
  refine WGo.s (WStep.iloadN a3_26 rfl) ?_
  refine WGo.s (WStep.iloadN a3_27 rfl) ?_
  refine WGo.s (WStep.iadd a3_28) ?_
  show WGo _ (29, [wR 0, wI 2, wI 0, wI 2], [.int 2, .int 2], [(.inl (.char, [(.int x0), (.int x1), (.int x2), (.int x3), (.int x4), (.int x5)]))], u) _
  refine WGo.s (WStep.iconst (1 : Int32) a3_29 rfl) ?_
  refine WGo.s (WStep.isub a3_30) ?_
  show WGo _ (31, [wR 0, wI 2, wI 0, wI 2], [.int 1, .int 2], [(.inl (.char, [(.int x0), (.int x1), (.int x2), (.int x3), (.int x4), (.int x5)]))], u) _
  refine WGo.s (WStep.icmpT a3_31 (by decide)) ?_
  refine WGo.s (WStep.iconst (0 : Int32) a3_38 rfl) ?_
  refine WGo.ireturn .boolean a3_39 rfl (by simp) ?_
  exact QB.no (by simp_all)
theorem c3_21 {Z : State} {a0 : Array Value} (hw : ∀ d ∈ tables_1, d.before a0 Z = true) (ρ : Nat → Nat) (n0 : Nat) (x0 x1 x2 x3 x4 x5 : Int32) (u : Nat) : WGo (g3 Z ρ n0 1 u) (0, [wR 0, wI 2, wI 1, wU], [], [(.inl (.char, [(.int x0), (.int x1), (.int x2), (.int x3), (.int x4), (.int x5)]))], u) (QB (False) [(.inl (.char, [(.int x0), (.int x1), (.int x2), (.int x3), (.int x4), (.int x5)]))] u) := by
  refine WGo.s (WStep.iloadN a3_0 rfl) ?_
  refine WGo.s (WStep.istoreN (L' := [wR 0, wI 2, wI 1, wI 2]) a3_1 rfl) ?_
  refine WGo.s (WStep.iloadN a3_2 rfl) ?_
  refine WGo.s (WStep.iloadN a3_3 rfl) ?_
  refine WGo.s (WStep.iloadN a3_4 rfl) ?_
  refine WGo.s (WStep.iadd a3_5) ?_
  show WGo _ (6, [wR 0, wI 2, wI 1, wI 2], [.int 3, .int 2], [(.inl (.char, [(.int x0), (.int x1), (.int x2), (.int x3), (.int x4), (.int x5)]))], u) _
  refine WGo.s (WStep.iconst (1 : Int32) a3_6 rfl) ?_
  refine WGo.s (WStep.isub a3_7) ?_
  show WGo _ (8, [wR 0, wI 2, wI 1, wI 2], [.int 2, .int 2], [(.inl (.char, [(.int x0), (.int x1), (.int x2), (.int x3), (.int x4), (.int x5)]))], u) _
  refine WGo.s (WStep.icmpT a3_8 (by decide)) ?_
  refine WGo.s (WStep.iloadN a3_25 rfl) ?_
  refine WGo.s (WStep.iloadN a3_26 rfl) ?_
  refine WGo.s (WStep.iloadN a3_27 rfl) ?_
  refine WGo.s (WStep.iadd a3_28) ?_
  show WGo _ (29, [wR 0, wI 2, wI 1, wI 2], [.int 3, .int 2], [(.inl (.char, [(.int x0), (.int x1), (.int x2), (.int x3), (.int x4), (.int x5)]))], u) _
  refine WGo.s (WStep.iconst (1 : Int32) a3_29 rfl) ?_
  refine WGo.s (WStep.isub a3_30) ?_
  show WGo _ (31, [wR 0, wI 2, wI 1, wI 2], [.int 2, .int 2], [(.inl (.char, [(.int x0), (.int x1), (.int x2), (.int x3), (.int x4), (.int x5)]))], u) _
  refine WGo.s (WStep.icmpT a3_31 (by decide)) ?_
  refine WGo.s (WStep.iconst (0 : Int32) a3_38 rfl) ?_
  refine WGo.ireturn .boolean a3_39 rfl (by simp) ?_
  exact QB.no (by simp_all)
theorem c3_22 {Z : State} {a0 : Array Value} (hw : ∀ d ∈ tables_1, d.before a0 Z = true) (ρ : Nat → Nat) (n0 : Nat) (x0 x1 x2 x3 x4 x5 : Int32) (u : Nat) : WGo (g3 Z ρ n0 1 u) (0, [wR 0, wI 2, wI 2, wU], [], [(.inl (.char, [(.int x0), (.int x1), (.int x2), (.int x3), (.int x4), (.int x5)]))], u) (QB (x2 = 93) [(.inl (.char, [(.int x0), (.int x1), (.int x2), (.int x3), (.int x4), (.int x5)]))] u) := by
  refine WGo.s (WStep.iloadN a3_0 rfl) ?_
  refine WGo.s (WStep.istoreN (L' := [wR 0, wI 2, wI 2, wI 2]) a3_1 rfl) ?_
  refine WGo.s (WStep.iloadN a3_2 rfl) ?_
  refine WGo.s (WStep.iloadN a3_3 rfl) ?_
  refine WGo.s (WStep.iloadN a3_4 rfl) ?_
  refine WGo.s (WStep.iadd a3_5) ?_
  show WGo _ (6, [wR 0, wI 2, wI 2, wI 2], [.int 4, .int 2], [(.inl (.char, [(.int x0), (.int x1), (.int x2), (.int x3), (.int x4), (.int x5)]))], u) _
  refine WGo.s (WStep.iconst (1 : Int32) a3_6 rfl) ?_
  refine WGo.s (WStep.isub a3_7) ?_
  show WGo _ (8, [wR 0, wI 2, wI 2, wI 2], [.int 3, .int 2], [(.inl (.char, [(.int x0), (.int x1), (.int x2), (.int x3), (.int x4), (.int x5)]))], u) _
  refine WGo.s (WStep.icmpF a3_8 (by decide)) ?_
  refine WGo.s (WStep.aloadN a3_11 rfl rfl) ?_
  refine WGo.s (WStep.iloadN a3_12 rfl) ?_
  refine WGo.s (WStep.caload 2 a3_13 rfl (by decide) rfl rfl) ?_
  refine WGo.s (WStep.bipush (93 : Int32) a3_14 rfl) ?_
  refine WGo.eq a3_16 (fun h16 => ?_) (fun h16 => ?_)
  · refine WGo.s (WStep.iloadN a3_25 rfl) ?_
    refine WGo.s (WStep.iloadN a3_26 rfl) ?_
    refine WGo.s (WStep.iloadN a3_27 rfl) ?_
    refine WGo.s (WStep.iadd a3_28) ?_
    show WGo _ (29, [wR 0, wI 2, wI 2, wI 2], [.int 4, .int 2], [(.inl (.char, [(.int x0), (.int x1), (.int x2), (.int x3), (.int x4), (.int x5)]))], u) _
    refine WGo.s (WStep.iconst (1 : Int32) a3_29 rfl) ?_
    refine WGo.s (WStep.isub a3_30) ?_
    show WGo _ (31, [wR 0, wI 2, wI 2, wI 2], [.int 3, .int 2], [(.inl (.char, [(.int x0), (.int x1), (.int x2), (.int x3), (.int x4), (.int x5)]))], u) _
    refine WGo.s (WStep.icmpF a3_31 (by decide)) ?_
    refine WGo.s (WStep.iconst (1 : Int32) a3_34 rfl) ?_
    refine WGo.s (WStep.goto a3_35) ?_
    refine WGo.ireturn .boolean a3_39 rfl (by simp) ?_
    exact QB.yes (by simp_all)
  · refine WGo.s (WStep.iinc (L' := [wR 0, wI 2, wI 2, wI 3]) a3_19 rfl rfl) ?_
    refine WGo.s (WStep.goto a3_22) ?_
    refine WGo.s (WStep.iloadN a3_2 rfl) ?_
    refine WGo.s (WStep.iloadN a3_3 rfl) ?_
    refine WGo.s (WStep.iloadN a3_4 rfl) ?_
    refine WGo.s (WStep.iadd a3_5) ?_
    show WGo _ (6, [wR 0, wI 2, wI 2, wI 3], [.int 4, .int 3], [(.inl (.char, [(.int x0), (.int x1), (.int x2), (.int x3), (.int x4), (.int x5)]))], u) _
    refine WGo.s (WStep.iconst (1 : Int32) a3_6 rfl) ?_
    refine WGo.s (WStep.isub a3_7) ?_
    show WGo _ (8, [wR 0, wI 2, wI 2, wI 3], [.int 3, .int 3], [(.inl (.char, [(.int x0), (.int x1), (.int x2), (.int x3), (.int x4), (.int x5)]))], u) _
    refine WGo.s (WStep.icmpT a3_8 (by decide)) ?_
    refine WGo.s (WStep.iloadN a3_25 rfl) ?_
    refine WGo.s (WStep.iloadN a3_26 rfl) ?_
    refine WGo.s (WStep.iloadN a3_27 rfl) ?_
    refine WGo.s (WStep.iadd a3_28) ?_
    show WGo _ (29, [wR 0, wI 2, wI 2, wI 3], [.int 4, .int 3], [(.inl (.char, [(.int x0), (.int x1), (.int x2), (.int x3), (.int x4), (.int x5)]))], u) _
    refine WGo.s (WStep.iconst (1 : Int32) a3_29 rfl) ?_
    refine WGo.s (WStep.isub a3_30) ?_
    show WGo _ (31, [wR 0, wI 2, wI 2, wI 3], [.int 3, .int 3], [(.inl (.char, [(.int x0), (.int x1), (.int x2), (.int x3), (.int x4), (.int x5)]))], u) _
    refine WGo.s (WStep.icmpT a3_31 (by decide)) ?_
    refine WGo.s (WStep.iconst (0 : Int32) a3_38 rfl) ?_
    refine WGo.ireturn .boolean a3_39 rfl (by simp) ?_
    exact QB.no (by simp_all)
theorem c3_23 {Z : State} {a0 : Array Value} (hw : ∀ d ∈ tables_1, d.before a0 Z = true) (ρ : Nat → Nat) (n0 : Nat) (x0 x1 x2 x3 x4 x5 : Int32) (u : Nat) : WGo (g3 Z ρ n0 1 u) (0, [wR 0, wI 2, wI 3, wU], [], [(.inl (.char, [(.int x0), (.int x1), (.int x2), (.int x3), (.int x4), (.int x5)]))], u) (QB (x2 = 93 ∨ x3 = 93) [(.inl (.char, [(.int x0), (.int x1), (.int x2), (.int x3), (.int x4), (.int x5)]))] u) := by
  refine WGo.s (WStep.iloadN a3_0 rfl) ?_
  refine WGo.s (WStep.istoreN (L' := [wR 0, wI 2, wI 3, wI 2]) a3_1 rfl) ?_
  refine WGo.s (WStep.iloadN a3_2 rfl) ?_
  refine WGo.s (WStep.iloadN a3_3 rfl) ?_
  refine WGo.s (WStep.iloadN a3_4 rfl) ?_
  refine WGo.s (WStep.iadd a3_5) ?_
  show WGo _ (6, [wR 0, wI 2, wI 3, wI 2], [.int 5, .int 2], [(.inl (.char, [(.int x0), (.int x1), (.int x2), (.int x3), (.int x4), (.int x5)]))], u) _
  refine WGo.s (WStep.iconst (1 : Int32) a3_6 rfl) ?_
  refine WGo.s (WStep.isub a3_7) ?_
  show WGo _ (8, [wR 0, wI 2, wI 3, wI 2], [.int 4, .int 2], [(.inl (.char, [(.int x0), (.int x1), (.int x2), (.int x3), (.int x4), (.int x5)]))], u) _
  refine WGo.s (WStep.icmpF a3_8 (by decide)) ?_
  refine WGo.s (WStep.aloadN a3_11 rfl rfl) ?_
  refine WGo.s (WStep.iloadN a3_12 rfl) ?_
  refine WGo.s (WStep.caload 2 a3_13 rfl (by decide) rfl rfl) ?_
  refine WGo.s (WStep.bipush (93 : Int32) a3_14 rfl) ?_
  refine WGo.eq a3_16 (fun h16 => ?_) (fun h16 => ?_)
  · refine WGo.s (WStep.iloadN a3_25 rfl) ?_
    refine WGo.s (WStep.iloadN a3_26 rfl) ?_
    refine WGo.s (WStep.iloadN a3_27 rfl) ?_
    refine WGo.s (WStep.iadd a3_28) ?_
    show WGo _ (29, [wR 0, wI 2, wI 3, wI 2], [.int 5, .int 2], [(.inl (.char, [(.int x0), (.int x1), (.int x2), (.int x3), (.int x4), (.int x5)]))], u) _
    refine WGo.s (WStep.iconst (1 : Int32) a3_29 rfl) ?_
    refine WGo.s (WStep.isub a3_30) ?_
    show WGo _ (31, [wR 0, wI 2, wI 3, wI 2], [.int 4, .int 2], [(.inl (.char, [(.int x0), (.int x1), (.int x2), (.int x3), (.int x4), (.int x5)]))], u) _
    refine WGo.s (WStep.icmpF a3_31 (by decide)) ?_
    refine WGo.s (WStep.iconst (1 : Int32) a3_34 rfl) ?_
    refine WGo.s (WStep.goto a3_35) ?_
    refine WGo.ireturn .boolean a3_39 rfl (by simp) ?_
    exact QB.yes (by simp_all)
  · refine WGo.s (WStep.iinc (L' := [wR 0, wI 2, wI 3, wI 3]) a3_19 rfl rfl) ?_
    refine WGo.s (WStep.goto a3_22) ?_
    refine WGo.s (WStep.iloadN a3_2 rfl) ?_
    refine WGo.s (WStep.iloadN a3_3 rfl) ?_
    refine WGo.s (WStep.iloadN a3_4 rfl) ?_
    refine WGo.s (WStep.iadd a3_5) ?_
    show WGo _ (6, [wR 0, wI 2, wI 3, wI 3], [.int 5, .int 3], [(.inl (.char, [(.int x0), (.int x1), (.int x2), (.int x3), (.int x4), (.int x5)]))], u) _
    refine WGo.s (WStep.iconst (1 : Int32) a3_6 rfl) ?_
    refine WGo.s (WStep.isub a3_7) ?_
    show WGo _ (8, [wR 0, wI 2, wI 3, wI 3], [.int 4, .int 3], [(.inl (.char, [(.int x0), (.int x1), (.int x2), (.int x3), (.int x4), (.int x5)]))], u) _
    refine WGo.s (WStep.icmpF a3_8 (by decide)) ?_
    refine WGo.s (WStep.aloadN a3_11 rfl rfl) ?_
    refine WGo.s (WStep.iloadN a3_12 rfl) ?_
    refine WGo.s (WStep.caload 3 a3_13 rfl (by decide) rfl rfl) ?_
    refine WGo.s (WStep.bipush (93 : Int32) a3_14 rfl) ?_
    refine WGo.eq a3_16 (fun h16_1 => ?_) (fun h16_1 => ?_)
    · refine WGo.s (WStep.iloadN a3_25 rfl) ?_
      refine WGo.s (WStep.iloadN a3_26 rfl) ?_
      refine WGo.s (WStep.iloadN a3_27 rfl) ?_
      refine WGo.s (WStep.iadd a3_28) ?_
      show WGo _ (29, [wR 0, wI 2, wI 3, wI 3], [.int 5, .int 3], [(.inl (.char, [(.int x0), (.int x1), (.int x2), (.int x3), (.int x4), (.int x5)]))], u) _
      refine WGo.s (WStep.iconst (1 : Int32) a3_29 rfl) ?_
      refine WGo.s (WStep.isub a3_30) ?_
      show WGo _ (31, [wR 0, wI 2, wI 3, wI 3], [.int 4, .int 3], [(.inl (.char, [(.int x0), (.int x1), (.int x2), (.int x3), (.int x4), (.int x5)]))], u) _
      refine WGo.s (WStep.icmpF a3_31 (by decide)) ?_
      refine WGo.s (WStep.iconst (1 : Int32) a3_34 rfl) ?_
      refine WGo.s (WStep.goto a3_35) ?_
      refine WGo.ireturn .boolean a3_39 rfl (by simp) ?_
      exact QB.yes (by simp_all)
    · refine WGo.s (WStep.iinc (L' := [wR 0, wI 2, wI 3, wI 4]) a3_19 rfl rfl) ?_
      refine WGo.s (WStep.goto a3_22) ?_
      refine WGo.s (WStep.iloadN a3_2 rfl) ?_
      refine WGo.s (WStep.iloadN a3_3 rfl) ?_
      refine WGo.s (WStep.iloadN a3_4 rfl) ?_
      refine WGo.s (WStep.iadd a3_5) ?_
      show WGo _ (6, [wR 0, wI 2, wI 3, wI 4], [.int 5, .int 4], [(.inl (.char, [(.int x0), (.int x1), (.int x2), (.int x3), (.int x4), (.int x5)]))], u) _
      refine WGo.s (WStep.iconst (1 : Int32) a3_6 rfl) ?_
      refine WGo.s (WStep.isub a3_7) ?_
      show WGo _ (8, [wR 0, wI 2, wI 3, wI 4], [.int 4, .int 4], [(.inl (.char, [(.int x0), (.int x1), (.int x2), (.int x3), (.int x4), (.int x5)]))], u) _
      refine WGo.s (WStep.icmpT a3_8 (by decide)) ?_
      refine WGo.s (WStep.iloadN a3_25 rfl) ?_
      refine WGo.s (WStep.iloadN a3_26 rfl) ?_
      refine WGo.s (WStep.iloadN a3_27 rfl) ?_
      refine WGo.s (WStep.iadd a3_28) ?_
      show WGo _ (29, [wR 0, wI 2, wI 3, wI 4], [.int 5, .int 4], [(.inl (.char, [(.int x0), (.int x1), (.int x2), (.int x3), (.int x4), (.int x5)]))], u) _
      refine WGo.s (WStep.iconst (1 : Int32) a3_29 rfl) ?_
      refine WGo.s (WStep.isub a3_30) ?_
      show WGo _ (31, [wR 0, wI 2, wI 3, wI 4], [.int 4, .int 4], [(.inl (.char, [(.int x0), (.int x1), (.int x2), (.int x3), (.int x4), (.int x5)]))], u) _
      refine WGo.s (WStep.icmpT a3_31 (by decide)) ?_
      refine WGo.s (WStep.iconst (0 : Int32) a3_38 rfl) ?_
      refine WGo.ireturn .boolean a3_39 rfl (by simp) ?_
      exact QB.no (by simp_all)
theorem c3_24 {Z : State} {a0 : Array Value} (hw : ∀ d ∈ tables_1, d.before a0 Z = true) (ρ : Nat → Nat) (n0 : Nat) (x0 x1 x2 x3 x4 x5 : Int32) (u : Nat) : WGo (g3 Z ρ n0 1 u) (0, [wR 0, wI 2, wI 4, wU], [], [(.inl (.char, [(.int x0), (.int x1), (.int x2), (.int x3), (.int x4), (.int x5)]))], u) (QB (x2 = 93 ∨ x3 = 93 ∨ x4 = 93) [(.inl (.char, [(.int x0), (.int x1), (.int x2), (.int x3), (.int x4), (.int x5)]))] u) := by
  refine WGo.s (WStep.iloadN a3_0 rfl) ?_
  refine WGo.s (WStep.istoreN (L' := [wR 0, wI 2, wI 4, wI 2]) a3_1 rfl) ?_
  refine WGo.s (WStep.iloadN a3_2 rfl) ?_
  refine WGo.s (WStep.iloadN a3_3 rfl) ?_
  refine WGo.s (WStep.iloadN a3_4 rfl) ?_
  refine WGo.s (WStep.iadd a3_5) ?_
  show WGo _ (6, [wR 0, wI 2, wI 4, wI 2], [.int 6, .int 2], [(.inl (.char, [(.int x0), (.int x1), (.int x2), (.int x3), (.int x4), (.int x5)]))], u) _
  refine WGo.s (WStep.iconst (1 : Int32) a3_6 rfl) ?_
  refine WGo.s (WStep.isub a3_7) ?_
  show WGo _ (8, [wR 0, wI 2, wI 4, wI 2], [.int 5, .int 2], [(.inl (.char, [(.int x0), (.int x1), (.int x2), (.int x3), (.int x4), (.int x5)]))], u) _
  refine WGo.s (WStep.icmpF a3_8 (by decide)) ?_
  refine WGo.s (WStep.aloadN a3_11 rfl rfl) ?_
  refine WGo.s (WStep.iloadN a3_12 rfl) ?_
  refine WGo.s (WStep.caload 2 a3_13 rfl (by decide) rfl rfl) ?_
  refine WGo.s (WStep.bipush (93 : Int32) a3_14 rfl) ?_
  refine WGo.eq a3_16 (fun h16 => ?_) (fun h16 => ?_)
  · refine WGo.s (WStep.iloadN a3_25 rfl) ?_
    refine WGo.s (WStep.iloadN a3_26 rfl) ?_
    refine WGo.s (WStep.iloadN a3_27 rfl) ?_
    refine WGo.s (WStep.iadd a3_28) ?_
    show WGo _ (29, [wR 0, wI 2, wI 4, wI 2], [.int 6, .int 2], [(.inl (.char, [(.int x0), (.int x1), (.int x2), (.int x3), (.int x4), (.int x5)]))], u) _
    refine WGo.s (WStep.iconst (1 : Int32) a3_29 rfl) ?_
    refine WGo.s (WStep.isub a3_30) ?_
    show WGo _ (31, [wR 0, wI 2, wI 4, wI 2], [.int 5, .int 2], [(.inl (.char, [(.int x0), (.int x1), (.int x2), (.int x3), (.int x4), (.int x5)]))], u) _
    refine WGo.s (WStep.icmpF a3_31 (by decide)) ?_
    refine WGo.s (WStep.iconst (1 : Int32) a3_34 rfl) ?_
    refine WGo.s (WStep.goto a3_35) ?_
    refine WGo.ireturn .boolean a3_39 rfl (by simp) ?_
    exact QB.yes (by simp_all)
  · refine WGo.s (WStep.iinc (L' := [wR 0, wI 2, wI 4, wI 3]) a3_19 rfl rfl) ?_
    refine WGo.s (WStep.goto a3_22) ?_
    refine WGo.s (WStep.iloadN a3_2 rfl) ?_
    refine WGo.s (WStep.iloadN a3_3 rfl) ?_
    refine WGo.s (WStep.iloadN a3_4 rfl) ?_
    refine WGo.s (WStep.iadd a3_5) ?_
    show WGo _ (6, [wR 0, wI 2, wI 4, wI 3], [.int 6, .int 3], [(.inl (.char, [(.int x0), (.int x1), (.int x2), (.int x3), (.int x4), (.int x5)]))], u) _
    refine WGo.s (WStep.iconst (1 : Int32) a3_6 rfl) ?_
    refine WGo.s (WStep.isub a3_7) ?_
    show WGo _ (8, [wR 0, wI 2, wI 4, wI 3], [.int 5, .int 3], [(.inl (.char, [(.int x0), (.int x1), (.int x2), (.int x3), (.int x4), (.int x5)]))], u) _
    refine WGo.s (WStep.icmpF a3_8 (by decide)) ?_
    refine WGo.s (WStep.aloadN a3_11 rfl rfl) ?_
    refine WGo.s (WStep.iloadN a3_12 rfl) ?_
    refine WGo.s (WStep.caload 3 a3_13 rfl (by decide) rfl rfl) ?_
    refine WGo.s (WStep.bipush (93 : Int32) a3_14 rfl) ?_
    refine WGo.eq a3_16 (fun h16_1 => ?_) (fun h16_1 => ?_)
    · refine WGo.s (WStep.iloadN a3_25 rfl) ?_
      refine WGo.s (WStep.iloadN a3_26 rfl) ?_
      refine WGo.s (WStep.iloadN a3_27 rfl) ?_
      refine WGo.s (WStep.iadd a3_28) ?_
      show WGo _ (29, [wR 0, wI 2, wI 4, wI 3], [.int 6, .int 3], [(.inl (.char, [(.int x0), (.int x1), (.int x2), (.int x3), (.int x4), (.int x5)]))], u) _
      refine WGo.s (WStep.iconst (1 : Int32) a3_29 rfl) ?_
      refine WGo.s (WStep.isub a3_30) ?_
      show WGo _ (31, [wR 0, wI 2, wI 4, wI 3], [.int 5, .int 3], [(.inl (.char, [(.int x0), (.int x1), (.int x2), (.int x3), (.int x4), (.int x5)]))], u) _
      refine WGo.s (WStep.icmpF a3_31 (by decide)) ?_
      refine WGo.s (WStep.iconst (1 : Int32) a3_34 rfl) ?_
      refine WGo.s (WStep.goto a3_35) ?_
      refine WGo.ireturn .boolean a3_39 rfl (by simp) ?_
      exact QB.yes (by simp_all)
    · refine WGo.s (WStep.iinc (L' := [wR 0, wI 2, wI 4, wI 4]) a3_19 rfl rfl) ?_
      refine WGo.s (WStep.goto a3_22) ?_
      refine WGo.s (WStep.iloadN a3_2 rfl) ?_
      refine WGo.s (WStep.iloadN a3_3 rfl) ?_
      refine WGo.s (WStep.iloadN a3_4 rfl) ?_
      refine WGo.s (WStep.iadd a3_5) ?_
      show WGo _ (6, [wR 0, wI 2, wI 4, wI 4], [.int 6, .int 4], [(.inl (.char, [(.int x0), (.int x1), (.int x2), (.int x3), (.int x4), (.int x5)]))], u) _
      refine WGo.s (WStep.iconst (1 : Int32) a3_6 rfl) ?_
      refine WGo.s (WStep.isub a3_7) ?_
      show WGo _ (8, [wR 0, wI 2, wI 4, wI 4], [.int 5, .int 4], [(.inl (.char, [(.int x0), (.int x1), (.int x2), (.int x3), (.int x4), (.int x5)]))], u) _
      refine WGo.s (WStep.icmpF a3_8 (by decide)) ?_
      refine WGo.s (WStep.aloadN a3_11 rfl rfl) ?_
      refine WGo.s (WStep.iloadN a3_12 rfl) ?_
      refine WGo.s (WStep.caload 4 a3_13 rfl (by decide) rfl rfl) ?_
      refine WGo.s (WStep.bipush (93 : Int32) a3_14 rfl) ?_
      refine WGo.eq a3_16 (fun h16_2 => ?_) (fun h16_2 => ?_)
      · refine WGo.s (WStep.iloadN a3_25 rfl) ?_
        refine WGo.s (WStep.iloadN a3_26 rfl) ?_
        refine WGo.s (WStep.iloadN a3_27 rfl) ?_
        refine WGo.s (WStep.iadd a3_28) ?_
        show WGo _ (29, [wR 0, wI 2, wI 4, wI 4], [.int 6, .int 4], [(.inl (.char, [(.int x0), (.int x1), (.int x2), (.int x3), (.int x4), (.int x5)]))], u) _
        refine WGo.s (WStep.iconst (1 : Int32) a3_29 rfl) ?_
        refine WGo.s (WStep.isub a3_30) ?_
        show WGo _ (31, [wR 0, wI 2, wI 4, wI 4], [.int 5, .int 4], [(.inl (.char, [(.int x0), (.int x1), (.int x2), (.int x3), (.int x4), (.int x5)]))], u) _
        refine WGo.s (WStep.icmpF a3_31 (by decide)) ?_
        refine WGo.s (WStep.iconst (1 : Int32) a3_34 rfl) ?_
        refine WGo.s (WStep.goto a3_35) ?_
        refine WGo.ireturn .boolean a3_39 rfl (by simp) ?_
        exact QB.yes (by simp_all)
      · refine WGo.s (WStep.iinc (L' := [wR 0, wI 2, wI 4, wI 5]) a3_19 rfl rfl) ?_
        refine WGo.s (WStep.goto a3_22) ?_
        refine WGo.s (WStep.iloadN a3_2 rfl) ?_
        refine WGo.s (WStep.iloadN a3_3 rfl) ?_
        refine WGo.s (WStep.iloadN a3_4 rfl) ?_
        refine WGo.s (WStep.iadd a3_5) ?_
        show WGo _ (6, [wR 0, wI 2, wI 4, wI 5], [.int 6, .int 5], [(.inl (.char, [(.int x0), (.int x1), (.int x2), (.int x3), (.int x4), (.int x5)]))], u) _
        refine WGo.s (WStep.iconst (1 : Int32) a3_6 rfl) ?_
        refine WGo.s (WStep.isub a3_7) ?_
        show WGo _ (8, [wR 0, wI 2, wI 4, wI 5], [.int 5, .int 5], [(.inl (.char, [(.int x0), (.int x1), (.int x2), (.int x3), (.int x4), (.int x5)]))], u) _
        refine WGo.s (WStep.icmpT a3_8 (by decide)) ?_
        refine WGo.s (WStep.iloadN a3_25 rfl) ?_
        refine WGo.s (WStep.iloadN a3_26 rfl) ?_
        refine WGo.s (WStep.iloadN a3_27 rfl) ?_
        refine WGo.s (WStep.iadd a3_28) ?_
        show WGo _ (29, [wR 0, wI 2, wI 4, wI 5], [.int 6, .int 5], [(.inl (.char, [(.int x0), (.int x1), (.int x2), (.int x3), (.int x4), (.int x5)]))], u) _
        refine WGo.s (WStep.iconst (1 : Int32) a3_29 rfl) ?_
        refine WGo.s (WStep.isub a3_30) ?_
        show WGo _ (31, [wR 0, wI 2, wI 4, wI 5], [.int 5, .int 5], [(.inl (.char, [(.int x0), (.int x1), (.int x2), (.int x3), (.int x4), (.int x5)]))], u) _
        refine WGo.s (WStep.icmpT a3_31 (by decide)) ?_
        refine WGo.s (WStep.iconst (0 : Int32) a3_38 rfl) ?_
        refine WGo.ireturn .boolean a3_39 rfl (by simp) ?_
        exact QB.no (by simp_all)
theorem c3_30 {Z : State} {a0 : Array Value} (hw : ∀ d ∈ tables_1, d.before a0 Z = true) (ρ : Nat → Nat) (n0 : Nat) (x0 x1 x2 x3 x4 x5 : Int32) (u : Nat) : WGo (g3 Z ρ n0 1 u) (0, [wR 0, wI 3, wI 0, wU], [], [(.inl (.char, [(.int x0), (.int x1), (.int x2), (.int x3), (.int x4), (.int x5)]))], u) (QB (False) [(.inl (.char, [(.int x0), (.int x1), (.int x2), (.int x3), (.int x4), (.int x5)]))] u) := by
  refine WGo.s (WStep.iloadN a3_0 rfl) ?_
  refine WGo.s (WStep.istoreN (L' := [wR 0, wI 3, wI 0, wI 3]) a3_1 rfl) ?_
  refine WGo.s (WStep.iloadN a3_2 rfl) ?_
  refine WGo.s (WStep.iloadN a3_3 rfl) ?_
  refine WGo.s (WStep.iloadN a3_4 rfl) ?_
  refine WGo.s (WStep.iadd a3_5) ?_
  show WGo _ (6, [wR 0, wI 3, wI 0, wI 3], [.int 3, .int 3], [(.inl (.char, [(.int x0), (.int x1), (.int x2), (.int x3), (.int x4), (.int x5)]))], u) _
  refine WGo.s (WStep.iconst (1 : Int32) a3_6 rfl) ?_
  refine WGo.s (WStep.isub a3_7) ?_
  show WGo _ (8, [wR 0, wI 3, wI 0, wI 3], [.int 2, .int 3], [(.inl (.char, [(.int x0), (.int x1), (.int x2), (.int x3), (.int x4), (.int x5)]))], u) _
  refine WGo.s (WStep.icmpT a3_8 (by decide)) ?_
  refine WGo.s (WStep.iloadN a3_25 rfl) ?_
  refine WGo.s (WStep.iloadN a3_26 rfl) ?_
  refine WGo.s (WStep.iloadN a3_27 rfl) ?_
  refine WGo.s (WStep.iadd a3_28) ?_
  show WGo _ (29, [wR 0, wI 3, wI 0, wI 3], [.int 3, .int 3], [(.inl (.char, [(.int x0), (.int x1), (.int x2), (.int x3), (.int x4), (.int x5)]))], u) _
  refine WGo.s (WStep.iconst (1 : Int32) a3_29 rfl) ?_
  refine WGo.s (WStep.isub a3_30) ?_
  show WGo _ (31, [wR 0, wI 3, wI 0, wI 3], [.int 2, .int 3], [(.inl (.char, [(.int x0), (.int x1), (.int x2), (.int x3), (.int x4), (.int x5)]))], u) _
  refine WGo.s (WStep.icmpT a3_31 (by decide)) ?_
  refine WGo.s (WStep.iconst (0 : Int32) a3_38 rfl) ?_
  refine WGo.ireturn .boolean a3_39 rfl (by simp) ?_
  exact QB.no (by simp_all)
theorem c3_31 {Z : State} {a0 : Array Value} (hw : ∀ d ∈ tables_1, d.before a0 Z = true) (ρ : Nat → Nat) (n0 : Nat) (x0 x1 x2 x3 x4 x5 : Int32) (u : Nat) : WGo (g3 Z ρ n0 1 u) (0, [wR 0, wI 3, wI 1, wU], [], [(.inl (.char, [(.int x0), (.int x1), (.int x2), (.int x3), (.int x4), (.int x5)]))], u) (QB (False) [(.inl (.char, [(.int x0), (.int x1), (.int x2), (.int x3), (.int x4), (.int x5)]))] u) := by
  refine WGo.s (WStep.iloadN a3_0 rfl) ?_
  refine WGo.s (WStep.istoreN (L' := [wR 0, wI 3, wI 1, wI 3]) a3_1 rfl) ?_
  refine WGo.s (WStep.iloadN a3_2 rfl) ?_
  refine WGo.s (WStep.iloadN a3_3 rfl) ?_
  refine WGo.s (WStep.iloadN a3_4 rfl) ?_
  refine WGo.s (WStep.iadd a3_5) ?_
  show WGo _ (6, [wR 0, wI 3, wI 1, wI 3], [.int 4, .int 3], [(.inl (.char, [(.int x0), (.int x1), (.int x2), (.int x3), (.int x4), (.int x5)]))], u) _
  refine WGo.s (WStep.iconst (1 : Int32) a3_6 rfl) ?_
  refine WGo.s (WStep.isub a3_7) ?_
  show WGo _ (8, [wR 0, wI 3, wI 1, wI 3], [.int 3, .int 3], [(.inl (.char, [(.int x0), (.int x1), (.int x2), (.int x3), (.int x4), (.int x5)]))], u) _
  refine WGo.s (WStep.icmpT a3_8 (by decide)) ?_
  refine WGo.s (WStep.iloadN a3_25 rfl) ?_
  refine WGo.s (WStep.iloadN a3_26 rfl) ?_
  refine WGo.s (WStep.iloadN a3_27 rfl) ?_
  refine WGo.s (WStep.iadd a3_28) ?_
  show WGo _ (29, [wR 0, wI 3, wI 1, wI 3], [.int 4, .int 3], [(.inl (.char, [(.int x0), (.int x1), (.int x2), (.int x3), (.int x4), (.int x5)]))], u) _
  refine WGo.s (WStep.iconst (1 : Int32) a3_29 rfl) ?_
  refine WGo.s (WStep.isub a3_30) ?_
  show WGo _ (31, [wR 0, wI 3, wI 1, wI 3], [.int 3, .int 3], [(.inl (.char, [(.int x0), (.int x1), (.int x2), (.int x3), (.int x4), (.int x5)]))], u) _
  refine WGo.s (WStep.icmpT a3_31 (by decide)) ?_
  refine WGo.s (WStep.iconst (0 : Int32) a3_38 rfl) ?_
  refine WGo.ireturn .boolean a3_39 rfl (by simp) ?_
  exact QB.no (by simp_all)
theorem c3_32 {Z : State} {a0 : Array Value} (hw : ∀ d ∈ tables_1, d.before a0 Z = true) (ρ : Nat → Nat) (n0 : Nat) (x0 x1 x2 x3 x4 x5 : Int32) (u : Nat) : WGo (g3 Z ρ n0 1 u) (0, [wR 0, wI 3, wI 2, wU], [], [(.inl (.char, [(.int x0), (.int x1), (.int x2), (.int x3), (.int x4), (.int x5)]))], u) (QB (x3 = 93) [(.inl (.char, [(.int x0), (.int x1), (.int x2), (.int x3), (.int x4), (.int x5)]))] u) := by
  refine WGo.s (WStep.iloadN a3_0 rfl) ?_
  refine WGo.s (WStep.istoreN (L' := [wR 0, wI 3, wI 2, wI 3]) a3_1 rfl) ?_
  refine WGo.s (WStep.iloadN a3_2 rfl) ?_
  refine WGo.s (WStep.iloadN a3_3 rfl) ?_
  refine WGo.s (WStep.iloadN a3_4 rfl) ?_
  refine WGo.s (WStep.iadd a3_5) ?_
  show WGo _ (6, [wR 0, wI 3, wI 2, wI 3], [.int 5, .int 3], [(.inl (.char, [(.int x0), (.int x1), (.int x2), (.int x3), (.int x4), (.int x5)]))], u) _
  refine WGo.s (WStep.iconst (1 : Int32) a3_6 rfl) ?_
  refine WGo.s (WStep.isub a3_7) ?_
  show WGo _ (8, [wR 0, wI 3, wI 2, wI 3], [.int 4, .int 3], [(.inl (.char, [(.int x0), (.int x1), (.int x2), (.int x3), (.int x4), (.int x5)]))], u) _
  refine WGo.s (WStep.icmpF a3_8 (by decide)) ?_
  refine WGo.s (WStep.aloadN a3_11 rfl rfl) ?_
  refine WGo.s (WStep.iloadN a3_12 rfl) ?_
  refine WGo.s (WStep.caload 3 a3_13 rfl (by decide) rfl rfl) ?_
  refine WGo.s (WStep.bipush (93 : Int32) a3_14 rfl) ?_
  refine WGo.eq a3_16 (fun h16 => ?_) (fun h16 => ?_)
  · refine WGo.s (WStep.iloadN a3_25 rfl) ?_
    refine WGo.s (WStep.iloadN a3_26 rfl) ?_
    refine WGo.s (WStep.iloadN a3_27 rfl) ?_
    refine WGo.s (WStep.iadd a3_28) ?_
    show WGo _ (29, [wR 0, wI 3, wI 2, wI 3], [.int 5, .int 3], [(.inl (.char, [(.int x0), (.int x1), (.int x2), (.int x3), (.int x4), (.int x5)]))], u) _
    refine WGo.s (WStep.iconst (1 : Int32) a3_29 rfl) ?_
    refine WGo.s (WStep.isub a3_30) ?_
    show WGo _ (31, [wR 0, wI 3, wI 2, wI 3], [.int 4, .int 3], [(.inl (.char, [(.int x0), (.int x1), (.int x2), (.int x3), (.int x4), (.int x5)]))], u) _
    refine WGo.s (WStep.icmpF a3_31 (by decide)) ?_
    refine WGo.s (WStep.iconst (1 : Int32) a3_34 rfl) ?_
    refine WGo.s (WStep.goto a3_35) ?_
    refine WGo.ireturn .boolean a3_39 rfl (by simp) ?_
    exact QB.yes (by simp_all)
  · refine WGo.s (WStep.iinc (L' := [wR 0, wI 3, wI 2, wI 4]) a3_19 rfl rfl) ?_
    refine WGo.s (WStep.goto a3_22) ?_
    refine WGo.s (WStep.iloadN a3_2 rfl) ?_
    refine WGo.s (WStep.iloadN a3_3 rfl) ?_
    refine WGo.s (WStep.iloadN a3_4 rfl) ?_
    refine WGo.s (WStep.iadd a3_5) ?_
    show WGo _ (6, [wR 0, wI 3, wI 2, wI 4], [.int 5, .int 4], [(.inl (.char, [(.int x0), (.int x1), (.int x2), (.int x3), (.int x4), (.int x5)]))], u) _
    refine WGo.s (WStep.iconst (1 : Int32) a3_6 rfl) ?_
    refine WGo.s (WStep.isub a3_7) ?_
    show WGo _ (8, [wR 0, wI 3, wI 2, wI 4], [.int 4, .int 4], [(.inl (.char, [(.int x0), (.int x1), (.int x2), (.int x3), (.int x4), (.int x5)]))], u) _
    refine WGo.s (WStep.icmpT a3_8 (by decide)) ?_
    refine WGo.s (WStep.iloadN a3_25 rfl) ?_
    refine WGo.s (WStep.iloadN a3_26 rfl) ?_
    refine WGo.s (WStep.iloadN a3_27 rfl) ?_
    refine WGo.s (WStep.iadd a3_28) ?_
    show WGo _ (29, [wR 0, wI 3, wI 2, wI 4], [.int 5, .int 4], [(.inl (.char, [(.int x0), (.int x1), (.int x2), (.int x3), (.int x4), (.int x5)]))], u) _
    refine WGo.s (WStep.iconst (1 : Int32) a3_29 rfl) ?_
    refine WGo.s (WStep.isub a3_30) ?_
    show WGo _ (31, [wR 0, wI 3, wI 2, wI 4], [.int 4, .int 4], [(.inl (.char, [(.int x0), (.int x1), (.int x2), (.int x3), (.int x4), (.int x5)]))], u) _
    refine WGo.s (WStep.icmpT a3_31 (by decide)) ?_
    refine WGo.s (WStep.iconst (0 : Int32) a3_38 rfl) ?_
    refine WGo.ireturn .boolean a3_39 rfl (by simp) ?_
    exact QB.no (by simp_all)
theorem c3_33 {Z : State} {a0 : Array Value} (hw : ∀ d ∈ tables_1, d.before a0 Z = true) (ρ : Nat → Nat) (n0 : Nat) (x0 x1 x2 x3 x4 x5 : Int32) (u : Nat) : WGo (g3 Z ρ n0 1 u) (0, [wR 0, wI 3, wI 3, wU], [], [(.inl (.char, [(.int x0), (.int x1), (.int x2), (.int x3), (.int x4), (.int x5)]))], u) (QB (x3 = 93 ∨ x4 = 93) [(.inl (.char, [(.int x0), (.int x1), (.int x2), (.int x3), (.int x4), (.int x5)]))] u) := by
  refine WGo.s (WStep.iloadN a3_0 rfl) ?_
  refine WGo.s (WStep.istoreN (L' := [wR 0, wI 3, wI 3, wI 3]) a3_1 rfl) ?_
  refine WGo.s (WStep.iloadN a3_2 rfl) ?_
  refine WGo.s (WStep.iloadN a3_3 rfl) ?_
  refine WGo.s (WStep.iloadN a3_4 rfl) ?_
  refine WGo.s (WStep.iadd a3_5) ?_
  show WGo _ (6, [wR 0, wI 3, wI 3, wI 3], [.int 6, .int 3], [(.inl (.char, [(.int x0), (.int x1), (.int x2), (.int x3), (.int x4), (.int x5)]))], u) _
  refine WGo.s (WStep.iconst (1 : Int32) a3_6 rfl) ?_
  refine WGo.s (WStep.isub a3_7) ?_
  show WGo _ (8, [wR 0, wI 3, wI 3, wI 3], [.int 5, .int 3], [(.inl (.char, [(.int x0), (.int x1), (.int x2), (.int x3), (.int x4), (.int x5)]))], u) _
  refine WGo.s (WStep.icmpF a3_8 (by decide)) ?_
  refine WGo.s (WStep.aloadN a3_11 rfl rfl) ?_
  refine WGo.s (WStep.iloadN a3_12 rfl) ?_
  refine WGo.s (WStep.caload 3 a3_13 rfl (by decide) rfl rfl) ?_
  refine WGo.s (WStep.bipush (93 : Int32) a3_14 rfl) ?_
  refine WGo.eq a3_16 (fun h16 => ?_) (fun h16 => ?_)
  · refine WGo.s (WStep.iloadN a3_25 rfl) ?_
    refine WGo.s (WStep.iloadN a3_26 rfl) ?_
    refine WGo.s (WStep.iloadN a3_27 rfl) ?_
    refine WGo.s (WStep.iadd a3_28) ?_
    show WGo _ (29, [wR 0, wI 3, wI 3, wI 3], [.int 6, .int 3], [(.inl (.char, [(.int x0), (.int x1), (.int x2), (.int x3), (.int x4), (.int x5)]))], u) _
    refine WGo.s (WStep.iconst (1 : Int32) a3_29 rfl) ?_
    refine WGo.s (WStep.isub a3_30) ?_
    show WGo _ (31, [wR 0, wI 3, wI 3, wI 3], [.int 5, .int 3], [(.inl (.char, [(.int x0), (.int x1), (.int x2), (.int x3), (.int x4), (.int x5)]))], u) _
    refine WGo.s (WStep.icmpF a3_31 (by decide)) ?_
    refine WGo.s (WStep.iconst (1 : Int32) a3_34 rfl) ?_
    refine WGo.s (WStep.goto a3_35) ?_
    refine WGo.ireturn .boolean a3_39 rfl (by simp) ?_
    exact QB.yes (by simp_all)
  · refine WGo.s (WStep.iinc (L' := [wR 0, wI 3, wI 3, wI 4]) a3_19 rfl rfl) ?_
    refine WGo.s (WStep.goto a3_22) ?_
    refine WGo.s (WStep.iloadN a3_2 rfl) ?_
    refine WGo.s (WStep.iloadN a3_3 rfl) ?_
    refine WGo.s (WStep.iloadN a3_4 rfl) ?_
    refine WGo.s (WStep.iadd a3_5) ?_
    show WGo _ (6, [wR 0, wI 3, wI 3, wI 4], [.int 6, .int 4], [(.inl (.char, [(.int x0), (.int x1), (.int x2), (.int x3), (.int x4), (.int x5)]))], u) _
    refine WGo.s (WStep.iconst (1 : Int32) a3_6 rfl) ?_
    refine WGo.s (WStep.isub a3_7) ?_
    show WGo _ (8, [wR 0, wI 3, wI 3, wI 4], [.int 5, .int 4], [(.inl (.char, [(.int x0), (.int x1), (.int x2), (.int x3), (.int x4), (.int x5)]))], u) _
    refine WGo.s (WStep.icmpF a3_8 (by decide)) ?_
    refine WGo.s (WStep.aloadN a3_11 rfl rfl) ?_
    refine WGo.s (WStep.iloadN a3_12 rfl) ?_
    refine WGo.s (WStep.caload 4 a3_13 rfl (by decide) rfl rfl) ?_
    refine WGo.s (WStep.bipush (93 : Int32) a3_14 rfl) ?_
    refine WGo.eq a3_16 (fun h16_1 => ?_) (fun h16_1 => ?_)
    · refine WGo.s (WStep.iloadN a3_25 rfl) ?_
      refine WGo.s (WStep.iloadN a3_26 rfl) ?_
      refine WGo.s (WStep.iloadN a3_27 rfl) ?_
      refine WGo.s (WStep.iadd a3_28) ?_
      show WGo _ (29, [wR 0, wI 3, wI 3, wI 4], [.int 6, .int 4], [(.inl (.char, [(.int x0), (.int x1), (.int x2), (.int x3), (.int x4), (.int x5)]))], u) _
      refine WGo.s (WStep.iconst (1 : Int32) a3_29 rfl) ?_
      refine WGo.s (WStep.isub a3_30) ?_
      show WGo _ (31, [wR 0, wI 3, wI 3, wI 4], [.int 5, .int 4], [(.inl (.char, [(.int x0), (.int x1), (.int x2), (.int x3), (.int x4), (.int x5)]))], u) _
      refine WGo.s (WStep.icmpF a3_31 (by decide)) ?_
      refine WGo.s (WStep.iconst (1 : Int32) a3_34 rfl) ?_
      refine WGo.s (WStep.goto a3_35) ?_
      refine WGo.ireturn .boolean a3_39 rfl (by simp) ?_
      exact QB.yes (by simp_all)
    · refine WGo.s (WStep.iinc (L' := [wR 0, wI 3, wI 3, wI 5]) a3_19 rfl rfl) ?_
      refine WGo.s (WStep.goto a3_22) ?_
      refine WGo.s (WStep.iloadN a3_2 rfl) ?_
      refine WGo.s (WStep.iloadN a3_3 rfl) ?_
      refine WGo.s (WStep.iloadN a3_4 rfl) ?_
      refine WGo.s (WStep.iadd a3_5) ?_
      show WGo _ (6, [wR 0, wI 3, wI 3, wI 5], [.int 6, .int 5], [(.inl (.char, [(.int x0), (.int x1), (.int x2), (.int x3), (.int x4), (.int x5)]))], u) _
      refine WGo.s (WStep.iconst (1 : Int32) a3_6 rfl) ?_
      refine WGo.s (WStep.isub a3_7) ?_
      show WGo _ (8, [wR 0, wI 3, wI 3, wI 5], [.int 5, .int 5], [(.inl (.char, [(.int x0), (.int x1), (.int x2), (.int x3), (.int x4), (.int x5)]))], u) _
      refine WGo.s (WStep.icmpT a3_8 (by decide)) ?_
      refine WGo.s (WStep.iloadN a3_25 rfl) ?_
      refine WGo.s (WStep.iloadN a3_26 rfl) ?_
      refine WGo.s (WStep.iloadN a3_27 rfl) ?_
      refine WGo.s (WStep.iadd a3_28) ?_
      show WGo _ (29, [wR 0, wI 3, wI 3, wI 5], [.int 6, .int 5], [(.inl (.char, [(.int x0), (.int x1), (.int x2), (.int x3), (.int x4), (.int x5)]))], u) _
      refine WGo.s (WStep.iconst (1 : Int32) a3_29 rfl) ?_
      refine WGo.s (WStep.isub a3_30) ?_
      show WGo _ (31, [wR 0, wI 3, wI 3, wI 5], [.int 5, .int 5], [(.inl (.char, [(.int x0), (.int x1), (.int x2), (.int x3), (.int x4), (.int x5)]))], u) _
      refine WGo.s (WStep.icmpT a3_31 (by decide)) ?_
      refine WGo.s (WStep.iconst (0 : Int32) a3_38 rfl) ?_
      refine WGo.ireturn .boolean a3_39 rfl (by simp) ?_
      exact QB.no (by simp_all)
theorem c3_40 {Z : State} {a0 : Array Value} (hw : ∀ d ∈ tables_1, d.before a0 Z = true) (ρ : Nat → Nat) (n0 : Nat) (x0 x1 x2 x3 x4 x5 : Int32) (u : Nat) : WGo (g3 Z ρ n0 1 u) (0, [wR 0, wI 4, wI 0, wU], [], [(.inl (.char, [(.int x0), (.int x1), (.int x2), (.int x3), (.int x4), (.int x5)]))], u) (QB (False) [(.inl (.char, [(.int x0), (.int x1), (.int x2), (.int x3), (.int x4), (.int x5)]))] u) := by
  refine WGo.s (WStep.iloadN a3_0 rfl) ?_
  refine WGo.s (WStep.istoreN (L' := [wR 0, wI 4, wI 0, wI 4]) a3_1 rfl) ?_
  refine WGo.s (WStep.iloadN a3_2 rfl) ?_
  refine WGo.s (WStep.iloadN a3_3 rfl) ?_
  refine WGo.s (WStep.iloadN a3_4 rfl) ?_
  refine WGo.s (WStep.iadd a3_5) ?_
  show WGo _ (6, [wR 0, wI 4, wI 0, wI 4], [.int 4, .int 4], [(.inl (.char, [(.int x0), (.int x1), (.int x2), (.int x3), (.int x4), (.int x5)]))], u) _
  refine WGo.s (WStep.iconst (1 : Int32) a3_6 rfl) ?_
  refine WGo.s (WStep.isub a3_7) ?_
  show WGo _ (8, [wR 0, wI 4, wI 0, wI 4], [.int 3, .int 4], [(.inl (.char, [(.int x0), (.int x1), (.int x2), (.int x3), (.int x4), (.int x5)]))], u) _
  refine WGo.s (WStep.icmpT a3_8 (by decide)) ?_
  refine WGo.s (WStep.iloadN a3_25 rfl) ?_
  refine WGo.s (WStep.iloadN a3_26 rfl) ?_
  refine WGo.s (WStep.iloadN a3_27 rfl) ?_
  refine WGo.s (WStep.iadd a3_28) ?_
  show WGo _ (29, [wR 0, wI 4, wI 0, wI 4], [.int 4, .int 4], [(.inl (.char, [(.int x0), (.int x1), (.int x2), (.int x3), (.int x4), (.int x5)]))], u) _
  refine WGo.s (WStep.iconst (1 : Int32) a3_29 rfl) ?_
  refine WGo.s (WStep.isub a3_30) ?_
  show WGo _ (31, [wR 0, wI 4, wI 0, wI 4], [.int 3, .int 4], [(.inl (.char, [(.int x0), (.int x1), (.int x2), (.int x3), (.int x4), (.int x5)]))], u) _
  refine WGo.s (WStep.icmpT a3_31 (by decide)) ?_
  refine WGo.s (WStep.iconst (0 : Int32) a3_38 rfl) ?_
  refine WGo.ireturn .boolean a3_39 rfl (by simp) ?_
  exact QB.no (by simp_all)
theorem c3_41 {Z : State} {a0 : Array Value} (hw : ∀ d ∈ tables_1, d.before a0 Z = true) (ρ : Nat → Nat) (n0 : Nat) (x0 x1 x2 x3 x4 x5 : Int32) (u : Nat) : WGo (g3 Z ρ n0 1 u) (0, [wR 0, wI 4, wI 1, wU], [], [(.inl (.char, [(.int x0), (.int x1), (.int x2), (.int x3), (.int x4), (.int x5)]))], u) (QB (False) [(.inl (.char, [(.int x0), (.int x1), (.int x2), (.int x3), (.int x4), (.int x5)]))] u) := by
  refine WGo.s (WStep.iloadN a3_0 rfl) ?_
  refine WGo.s (WStep.istoreN (L' := [wR 0, wI 4, wI 1, wI 4]) a3_1 rfl) ?_
  refine WGo.s (WStep.iloadN a3_2 rfl) ?_
  refine WGo.s (WStep.iloadN a3_3 rfl) ?_
  refine WGo.s (WStep.iloadN a3_4 rfl) ?_
  refine WGo.s (WStep.iadd a3_5) ?_
  show WGo _ (6, [wR 0, wI 4, wI 1, wI 4], [.int 5, .int 4], [(.inl (.char, [(.int x0), (.int x1), (.int x2), (.int x3), (.int x4), (.int x5)]))], u) _
  refine WGo.s (WStep.iconst (1 : Int32) a3_6 rfl) ?_
  refine WGo.s (WStep.isub a3_7) ?_
  show WGo _ (8, [wR 0, wI 4, wI 1, wI 4], [.int 4, .int 4], [(.inl (.char, [(.int x0), (.int x1), (.int x2), (.int x3), (.int x4), (.int x5)]))], u) _
  refine WGo.s (WStep.icmpT a3_8 (by decide)) ?_
  refine WGo.s (WStep.iloadN a3_25 rfl) ?_
  refine WGo.s (WStep.iloadN a3_26 rfl) ?_
  refine WGo.s (WStep.iloadN a3_27 rfl) ?_
  refine WGo.s (WStep.iadd a3_28) ?_
  show WGo _ (29, [wR 0, wI 4, wI 1, wI 4], [.int 5, .int 4], [(.inl (.char, [(.int x0), (.int x1), (.int x2), (.int x3), (.int x4), (.int x5)]))], u) _
  refine WGo.s (WStep.iconst (1 : Int32) a3_29 rfl) ?_
  refine WGo.s (WStep.isub a3_30) ?_
  show WGo _ (31, [wR 0, wI 4, wI 1, wI 4], [.int 4, .int 4], [(.inl (.char, [(.int x0), (.int x1), (.int x2), (.int x3), (.int x4), (.int x5)]))], u) _
  refine WGo.s (WStep.icmpT a3_31 (by decide)) ?_
  refine WGo.s (WStep.iconst (0 : Int32) a3_38 rfl) ?_
  refine WGo.ireturn .boolean a3_39 rfl (by simp) ?_
  exact QB.no (by simp_all)
theorem c3_42 {Z : State} {a0 : Array Value} (hw : ∀ d ∈ tables_1, d.before a0 Z = true) (ρ : Nat → Nat) (n0 : Nat) (x0 x1 x2 x3 x4 x5 : Int32) (u : Nat) : WGo (g3 Z ρ n0 1 u) (0, [wR 0, wI 4, wI 2, wU], [], [(.inl (.char, [(.int x0), (.int x1), (.int x2), (.int x3), (.int x4), (.int x5)]))], u) (QB (x4 = 93) [(.inl (.char, [(.int x0), (.int x1), (.int x2), (.int x3), (.int x4), (.int x5)]))] u) := by
  refine WGo.s (WStep.iloadN a3_0 rfl) ?_
  refine WGo.s (WStep.istoreN (L' := [wR 0, wI 4, wI 2, wI 4]) a3_1 rfl) ?_
  refine WGo.s (WStep.iloadN a3_2 rfl) ?_
  refine WGo.s (WStep.iloadN a3_3 rfl) ?_
  refine WGo.s (WStep.iloadN a3_4 rfl) ?_
  refine WGo.s (WStep.iadd a3_5) ?_
  show WGo _ (6, [wR 0, wI 4, wI 2, wI 4], [.int 6, .int 4], [(.inl (.char, [(.int x0), (.int x1), (.int x2), (.int x3), (.int x4), (.int x5)]))], u) _
  refine WGo.s (WStep.iconst (1 : Int32) a3_6 rfl) ?_
  refine WGo.s (WStep.isub a3_7) ?_
  show WGo _ (8, [wR 0, wI 4, wI 2, wI 4], [.int 5, .int 4], [(.inl (.char, [(.int x0), (.int x1), (.int x2), (.int x3), (.int x4), (.int x5)]))], u) _
  refine WGo.s (WStep.icmpF a3_8 (by decide)) ?_
  refine WGo.s (WStep.aloadN a3_11 rfl rfl) ?_
  refine WGo.s (WStep.iloadN a3_12 rfl) ?_
  refine WGo.s (WStep.caload 4 a3_13 rfl (by decide) rfl rfl) ?_
  refine WGo.s (WStep.bipush (93 : Int32) a3_14 rfl) ?_
  refine WGo.eq a3_16 (fun h16 => ?_) (fun h16 => ?_)
  · refine WGo.s (WStep.iloadN a3_25 rfl) ?_
    refine WGo.s (WStep.iloadN a3_26 rfl) ?_
    refine WGo.s (WStep.iloadN a3_27 rfl) ?_
    refine WGo.s (WStep.iadd a3_28) ?_
    show WGo _ (29, [wR 0, wI 4, wI 2, wI 4], [.int 6, .int 4], [(.inl (.char, [(.int x0), (.int x1), (.int x2), (.int x3), (.int x4), (.int x5)]))], u) _
    refine WGo.s (WStep.iconst (1 : Int32) a3_29 rfl) ?_
    refine WGo.s (WStep.isub a3_30) ?_
    show WGo _ (31, [wR 0, wI 4, wI 2, wI 4], [.int 5, .int 4], [(.inl (.char, [(.int x0), (.int x1), (.int x2), (.int x3), (.int x4), (.int x5)]))], u) _
    refine WGo.s (WStep.icmpF a3_31 (by decide)) ?_
    refine WGo.s (WStep.iconst (1 : Int32) a3_34 rfl) ?_
    refine WGo.s (WStep.goto a3_35) ?_
    refine WGo.ireturn .boolean a3_39 rfl (by simp) ?_
    exact QB.yes (by simp_all)
  · refine WGo.s (WStep.iinc (L' := [wR 0, wI 4, wI 2, wI 5]) a3_19 rfl rfl) ?_
    refine WGo.s (WStep.goto a3_22) ?_
    refine WGo.s (WStep.iloadN a3_2 rfl) ?_
    refine WGo.s (WStep.iloadN a3_3 rfl) ?_
    refine WGo.s (WStep.iloadN a3_4 rfl) ?_
    refine WGo.s (WStep.iadd a3_5) ?_
    show WGo _ (6, [wR 0, wI 4, wI 2, wI 5], [.int 6, .int 5], [(.inl (.char, [(.int x0), (.int x1), (.int x2), (.int x3), (.int x4), (.int x5)]))], u) _
    refine WGo.s (WStep.iconst (1 : Int32) a3_6 rfl) ?_
    refine WGo.s (WStep.isub a3_7) ?_
    show WGo _ (8, [wR 0, wI 4, wI 2, wI 5], [.int 5, .int 5], [(.inl (.char, [(.int x0), (.int x1), (.int x2), (.int x3), (.int x4), (.int x5)]))], u) _
    refine WGo.s (WStep.icmpT a3_8 (by decide)) ?_
    refine WGo.s (WStep.iloadN a3_25 rfl) ?_
    refine WGo.s (WStep.iloadN a3_26 rfl) ?_
    refine WGo.s (WStep.iloadN a3_27 rfl) ?_
    refine WGo.s (WStep.iadd a3_28) ?_
    show WGo _ (29, [wR 0, wI 4, wI 2, wI 5], [.int 6, .int 5], [(.inl (.char, [(.int x0), (.int x1), (.int x2), (.int x3), (.int x4), (.int x5)]))], u) _
    refine WGo.s (WStep.iconst (1 : Int32) a3_29 rfl) ?_
    refine WGo.s (WStep.isub a3_30) ?_
    show WGo _ (31, [wR 0, wI 4, wI 2, wI 5], [.int 5, .int 5], [(.inl (.char, [(.int x0), (.int x1), (.int x2), (.int x3), (.int x4), (.int x5)]))], u) _
    refine WGo.s (WStep.icmpT a3_31 (by decide)) ?_
    refine WGo.s (WStep.iconst (0 : Int32) a3_38 rfl) ?_
    refine WGo.ireturn .boolean a3_39 rfl (by simp) ?_
    exact QB.no (by simp_all)
theorem c3_50 {Z : State} {a0 : Array Value} (hw : ∀ d ∈ tables_1, d.before a0 Z = true) (ρ : Nat → Nat) (n0 : Nat) (x0 x1 x2 x3 x4 x5 : Int32) (u : Nat) : WGo (g3 Z ρ n0 1 u) (0, [wR 0, wI 5, wI 0, wU], [], [(.inl (.char, [(.int x0), (.int x1), (.int x2), (.int x3), (.int x4), (.int x5)]))], u) (QB (False) [(.inl (.char, [(.int x0), (.int x1), (.int x2), (.int x3), (.int x4), (.int x5)]))] u) := by
  refine WGo.s (WStep.iloadN a3_0 rfl) ?_
  refine WGo.s (WStep.istoreN (L' := [wR 0, wI 5, wI 0, wI 5]) a3_1 rfl) ?_
  refine WGo.s (WStep.iloadN a3_2 rfl) ?_
  refine WGo.s (WStep.iloadN a3_3 rfl) ?_
  refine WGo.s (WStep.iloadN a3_4 rfl) ?_
  refine WGo.s (WStep.iadd a3_5) ?_
  show WGo _ (6, [wR 0, wI 5, wI 0, wI 5], [.int 5, .int 5], [(.inl (.char, [(.int x0), (.int x1), (.int x2), (.int x3), (.int x4), (.int x5)]))], u) _
  refine WGo.s (WStep.iconst (1 : Int32) a3_6 rfl) ?_
  refine WGo.s (WStep.isub a3_7) ?_
  show WGo _ (8, [wR 0, wI 5, wI 0, wI 5], [.int 4, .int 5], [(.inl (.char, [(.int x0), (.int x1), (.int x2), (.int x3), (.int x4), (.int x5)]))], u) _
  refine WGo.s (WStep.icmpT a3_8 (by decide)) ?_
  refine WGo.s (WStep.iloadN a3_25 rfl) ?_
  refine WGo.s (WStep.iloadN a3_26 rfl) ?_
  refine WGo.s (WStep.iloadN a3_27 rfl) ?_
  refine WGo.s (WStep.iadd a3_28) ?_
  show WGo _ (29, [wR 0, wI 5, wI 0, wI 5], [.int 5, .int 5], [(.inl (.char, [(.int x0), (.int x1), (.int x2), (.int x3), (.int x4), (.int x5)]))], u) _
  refine WGo.s (WStep.iconst (1 : Int32) a3_29 rfl) ?_
  refine WGo.s (WStep.isub a3_30) ?_
  show WGo _ (31, [wR 0, wI 5, wI 0, wI 5], [.int 4, .int 5], [(.inl (.char, [(.int x0), (.int x1), (.int x2), (.int x3), (.int x4), (.int x5)]))], u) _
  refine WGo.s (WStep.icmpT a3_31 (by decide)) ?_
  refine WGo.s (WStep.iconst (0 : Int32) a3_38 rfl) ?_
  refine WGo.ireturn .boolean a3_39 rfl (by simp) ?_
  exact QB.no (by simp_all)
theorem c3_51 {Z : State} {a0 : Array Value} (hw : ∀ d ∈ tables_1, d.before a0 Z = true) (ρ : Nat → Nat) (n0 : Nat) (x0 x1 x2 x3 x4 x5 : Int32) (u : Nat) : WGo (g3 Z ρ n0 1 u) (0, [wR 0, wI 5, wI 1, wU], [], [(.inl (.char, [(.int x0), (.int x1), (.int x2), (.int x3), (.int x4), (.int x5)]))], u) (QB (False) [(.inl (.char, [(.int x0), (.int x1), (.int x2), (.int x3), (.int x4), (.int x5)]))] u) := by
  refine WGo.s (WStep.iloadN a3_0 rfl) ?_
  refine WGo.s (WStep.istoreN (L' := [wR 0, wI 5, wI 1, wI 5]) a3_1 rfl) ?_
  refine WGo.s (WStep.iloadN a3_2 rfl) ?_
  refine WGo.s (WStep.iloadN a3_3 rfl) ?_
  refine WGo.s (WStep.iloadN a3_4 rfl) ?_
  refine WGo.s (WStep.iadd a3_5) ?_
  show WGo _ (6, [wR 0, wI 5, wI 1, wI 5], [.int 6, .int 5], [(.inl (.char, [(.int x0), (.int x1), (.int x2), (.int x3), (.int x4), (.int x5)]))], u) _
  refine WGo.s (WStep.iconst (1 : Int32) a3_6 rfl) ?_
  refine WGo.s (WStep.isub a3_7) ?_
  show WGo _ (8, [wR 0, wI 5, wI 1, wI 5], [.int 5, .int 5], [(.inl (.char, [(.int x0), (.int x1), (.int x2), (.int x3), (.int x4), (.int x5)]))], u) _
  refine WGo.s (WStep.icmpT a3_8 (by decide)) ?_
  refine WGo.s (WStep.iloadN a3_25 rfl) ?_
  refine WGo.s (WStep.iloadN a3_26 rfl) ?_
  refine WGo.s (WStep.iloadN a3_27 rfl) ?_
  refine WGo.s (WStep.iadd a3_28) ?_
  show WGo _ (29, [wR 0, wI 5, wI 1, wI 5], [.int 6, .int 5], [(.inl (.char, [(.int x0), (.int x1), (.int x2), (.int x3), (.int x4), (.int x5)]))], u) _
  refine WGo.s (WStep.iconst (1 : Int32) a3_29 rfl) ?_
  refine WGo.s (WStep.isub a3_30) ?_
  show WGo _ (31, [wR 0, wI 5, wI 1, wI 5], [.int 5, .int 5], [(.inl (.char, [(.int x0), (.int x1), (.int x2), (.int x3), (.int x4), (.int x5)]))], u) _
  refine WGo.s (WStep.icmpT a3_31 (by decide)) ?_
  refine WGo.s (WStep.iconst (0 : Int32) a3_38 rfl) ?_
  refine WGo.ireturn .boolean a3_39 rfl (by simp) ?_
  exact QB.no (by simp_all)
theorem c3_60 {Z : State} {a0 : Array Value} (hw : ∀ d ∈ tables_1, d.before a0 Z = true) (ρ : Nat → Nat) (n0 : Nat) (x0 x1 x2 x3 x4 x5 : Int32) (u : Nat) : WGo (g3 Z ρ n0 1 u) (0, [wR 0, wI 6, wI 0, wU], [], [(.inl (.char, [(.int x0), (.int x1), (.int x2), (.int x3), (.int x4), (.int x5)]))], u) (QB (False) [(.inl (.char, [(.int x0), (.int x1), (.int x2), (.int x3), (.int x4), (.int x5)]))] u) := by
  refine WGo.s (WStep.iloadN a3_0 rfl) ?_
  refine WGo.s (WStep.istoreN (L' := [wR 0, wI 6, wI 0, wI 6]) a3_1 rfl) ?_
  refine WGo.s (WStep.iloadN a3_2 rfl) ?_
  refine WGo.s (WStep.iloadN a3_3 rfl) ?_
  refine WGo.s (WStep.iloadN a3_4 rfl) ?_
  refine WGo.s (WStep.iadd a3_5) ?_
  show WGo _ (6, [wR 0, wI 6, wI 0, wI 6], [.int 6, .int 6], [(.inl (.char, [(.int x0), (.int x1), (.int x2), (.int x3), (.int x4), (.int x5)]))], u) _
  refine WGo.s (WStep.iconst (1 : Int32) a3_6 rfl) ?_
  refine WGo.s (WStep.isub a3_7) ?_
  show WGo _ (8, [wR 0, wI 6, wI 0, wI 6], [.int 5, .int 6], [(.inl (.char, [(.int x0), (.int x1), (.int x2), (.int x3), (.int x4), (.int x5)]))], u) _
  refine WGo.s (WStep.icmpT a3_8 (by decide)) ?_
  refine WGo.s (WStep.iloadN a3_25 rfl) ?_
  refine WGo.s (WStep.iloadN a3_26 rfl) ?_
  refine WGo.s (WStep.iloadN a3_27 rfl) ?_
  refine WGo.s (WStep.iadd a3_28) ?_
  show WGo _ (29, [wR 0, wI 6, wI 0, wI 6], [.int 6, .int 6], [(.inl (.char, [(.int x0), (.int x1), (.int x2), (.int x3), (.int x4), (.int x5)]))], u) _
  refine WGo.s (WStep.iconst (1 : Int32) a3_29 rfl) ?_
  refine WGo.s (WStep.isub a3_30) ?_
  show WGo _ (31, [wR 0, wI 6, wI 0, wI 6], [.int 5, .int 6], [(.inl (.char, [(.int x0), (.int x1), (.int x2), (.int x3), (.int x4), (.int x5)]))], u) _
  refine WGo.s (WStep.icmpT a3_31 (by decide)) ?_
  refine WGo.s (WStep.iconst (0 : Int32) a3_38 rfl) ?_
  refine WGo.ireturn .boolean a3_39 rfl (by simp) ?_
  exact QB.no (by simp_all)
theorem remx (x d : Int32) (k : Int32) (h : ((x &&& (2147483647 : Int32)) % d) = k) (hd : 0 < d.toInt) : 0 ≤ k.toInt ∧ k.toInt < d.toInt := by
  have q := c_and x 2147483647 (by decide)
  have r := (c_iremV (x &&& 2147483647) d).1 q.1 hd
  rw [h] at r
  omega
set_option maxHeartbeats 40000000 in
theorem seg (Z : State) (a0 : Array Value) (hw : ∀ d ∈ tables_1, d.before a0 Z = true) (n0 : Nat) (sel s l : Int32) (d1 d2 : Int64) (x0 x1 x2 x3 x4 x5 : Int32) : WGo (g0 Z (fun k => n0 + k) n0 0 0) (72, [wI sel, wJ d1, wS, wJ d2, wS, wI s, wI l, wR 0, wU, wU, wU, wU], [], [(.inl (.char, [(.int x0), (.int x1), (.int x2), (.int x3), (.int x4), (.int x5)]))], 6) (fun v σ' u' => v = some (.int 1) ∧ σ'.length ≤ 16 ∧ u' ≤ 128) := by
  refine WGo.s (WStep.iload a0_72 rfl) ?_
  refine WGo.s (WStep.ldc a0_74 (wd hw 5 rfl)) ?_
  refine WGo.s (WStep.iand a0_76) ?_
  refine WGo.s (WStep.bipush (7 : Int32) a0_77 rfl) ?_
  refine WGo.s (WStep.irem a0_79 (by decide)) ?_
  generalize hg_k : ((s &&& (2147483647 : Int32)) % (7 : Int32)) = k
  have hk := remx _ _ _ hg_k (by decide)
  have hs : k = 0 ∨ k = 1 ∨ k = 2 ∨ k = 3 ∨ k = 4 ∨ k = 5 ∨ k = 6 := by
    have e7 : (7 : Int32).toInt = 7 := rfl
    simp only [← Int32.toInt_inj, Int32.reduceToInt] at *
    omega
  rcases hs with rfl | rfl | rfl | rfl | rfl | rfl | rfl
  · show WGo _ (80, [wI sel, wJ d1, wS, wJ d2, wS, wI s, wI l, wR 0, wU, wU, wU, wU], [.int 0], [(.inl (.char, [(.int x0), (.int x1), (.int x2), (.int x3), (.int x4), (.int x5)]))], 6) _
    refine WGo.s (WStep.istore (L' := [wI sel, wJ d1, wS, wJ d2, wS, wI s, wI l, wR 0, wI 0, wU, wU, wU]) a0_80 rfl) ?_
    refine WGo.s (WStep.iload a0_82 rfl) ?_
    refine WGo.s (WStep.ldc a0_84 (wd hw 5 rfl)) ?_
    refine WGo.s (WStep.iand a0_86) ?_
    refine WGo.s (WStep.bipush (7 : Int32) a0_87 rfl) ?_
    refine WGo.s (WStep.iload a0_89 rfl) ?_
    refine WGo.s (WStep.isub a0_91) ?_
    show WGo _ (92, [wI sel, wJ d1, wS, wJ d2, wS, wI s, wI l, wR 0, wI 0, wU, wU, wU], [.int 7, (.int (l &&& (2147483647 : Int32)))], [(.inl (.char, [(.int x0), (.int x1), (.int x2), (.int x3), (.int x4), (.int x5)]))], 6) _
    refine WGo.s (WStep.irem a0_92 (by decide)) ?_
    generalize hg_m : ((l &&& (2147483647 : Int32)) % (7 : Int32)) = m
    have hm := remx _ _ _ hg_m (by decide)
    have hs : m = 0 ∨ m = 1 ∨ m = 2 ∨ m = 3 ∨ m = 4 ∨ m = 5 ∨ m = 6 := by
      have e7 : (7 : Int32).toInt = 7 := rfl
      simp only [← Int32.toInt_inj, Int32.reduceToInt] at *
      omega
    rcases hs with rfl | rfl | rfl | rfl | rfl | rfl | rfl
    · show WGo _ (93, [wI sel, wJ d1, wS, wJ d2, wS, wI s, wI l, wR 0, wI 0, wU, wU, wU], [.int 0], [(.inl (.char, [(.int x0), (.int x1), (.int x2), (.int x3), (.int x4), (.int x5)]))], 6) _
      refine WGo.s (WStep.istore (L' := [wI sel, wJ d1, wS, wJ d2, wS, wI s, wI l, wR 0, wI 0, wI 0, wU, wU]) a0_93 rfl) ?_
      refine WGo.s (WStep.iload a0_95 rfl) ?_
      refine WGo.s (WStep.iload a0_97 rfl) ?_
      refine WGo.s (WStep.iadd a0_99) ?_
      show WGo _ (100, [wI sel, wJ d1, wS, wJ d2, wS, wI s, wI l, wR 0, wI 0, wI 0, wU, wU], [.int 0], [(.inl (.char, [(.int x0), (.int x1), (.int x2), (.int x3), (.int x4), (.int x5)]))], 6) _
      refine WGo.s (WStep.istore (L' := [wI sel, wJ d1, wS, wJ d2, wS, wI s, wI l, wR 0, wI 0, wI 0, wI 0, wU]) a0_100 rfl) ?_
      refine WGo.s (WStep.aload a0_102 rfl rfl) ?_
      refine WGo.s (WStep.iconst (0 : Int32) a0_104 rfl) ?_
      refine WGo.s (WStep.iload a0_105 rfl) ?_
      refine WGo.s (WStep.iload a0_107 rfl) ?_
      refine WGo.callS a0_109 (ok2 hw _ _ _ _) (wd hw 6 rfl) (wd hw 7 rfl) (argsL := [.ref 0, .int 0, .int 0, .int 0]) (S := []) (c2 hw _ _ x0 x1 x2 x3 x4 x5 0 0 0 x0 0 (by decide) rfl rfl _) rfl rfl rfl rfl rfl rfl (Nat.le_of_ble_eq_true rfl) (Nat.le_of_ble_eq_true rfl) ?_
      rintro _ _ _ ⟨⟨rfl, hA⟩ | ⟨rfl, hA⟩, rfl, rfl⟩
      · exact absurd hA.2.1 (by decide)
      · clear hA
        show WGo _ (112, [wI sel, wJ d1, wS, wJ d2, wS, wI s, wI l, wR 0, wI 0, wI 0, wI 0, wU], [.int 0], [(.inl (.char, [(.int x0), (.int x1), (.int x2), (.int x3), (.int x4), (.int x5)]))], 6) _
        refine WGo.s (WStep.ifF a0_112 (by decide)) ?_
        refine WGo.s (WStep.aload a0_115 rfl rfl) ?_
        refine WGo.s (WStep.iconst (1 : Int32) a0_117 rfl) ?_
        refine WGo.s (WStep.iload a0_118 rfl) ?_
        refine WGo.s (WStep.iload a0_120 rfl) ?_
        refine WGo.callS a0_122 (ok2 hw _ _ _ _) (wd hw 6 rfl) (wd hw 7 rfl) (argsL := [.ref 0, .int 1, .int 0, .int 0]) (S := []) (c2 hw _ _ x0 x1 x2 x3 x4 x5 1 0 0 x1 1 (by decide) rfl rfl _) rfl rfl rfl rfl rfl rfl (Nat.le_of_ble_eq_true rfl) (Nat.le_of_ble_eq_true rfl) ?_
        rintro _ _ _ ⟨⟨rfl, hA⟩ | ⟨rfl, hA⟩, rfl, rfl⟩
        · exact absurd hA.2.1 (by decide)
        · clear hA
          show WGo _ (125, [wI sel, wJ d1, wS, wJ d2, wS, wI s, wI l, wR 0, wI 0, wI 0, wI 0, wU], [.int 0], [(.inl (.char, [(.int x0), (.int x1), (.int x2), (.int x3), (.int x4), (.int x5)]))], 6) _
          refine WGo.s (WStep.ifF a0_125 (by decide)) ?_
          refine WGo.s (WStep.aload a0_128 rfl rfl) ?_
          refine WGo.s (WStep.iconst (2 : Int32) a0_130 rfl) ?_
          refine WGo.s (WStep.iload a0_131 rfl) ?_
          refine WGo.s (WStep.iload a0_133 rfl) ?_
          refine WGo.callS a0_135 (ok2 hw _ _ _ _) (wd hw 6 rfl) (wd hw 7 rfl) (argsL := [.ref 0, .int 2, .int 0, .int 0]) (S := []) (c2 hw _ _ x0 x1 x2 x3 x4 x5 2 0 0 x2 2 (by decide) rfl rfl _) rfl rfl rfl rfl rfl rfl (Nat.le_of_ble_eq_true rfl) (Nat.le_of_ble_eq_true rfl) ?_
          rintro _ _ _ ⟨⟨rfl, hA⟩ | ⟨rfl, hA⟩, rfl, rfl⟩
          · exact absurd hA.2.1 (by decide)
          · clear hA
            show WGo _ (138, [wI sel, wJ d1, wS, wJ d2, wS, wI s, wI l, wR 0, wI 0, wI 0, wI 0, wU], [.int 0], [(.inl (.char, [(.int x0), (.int x1), (.int x2), (.int x3), (.int x4), (.int x5)]))], 6) _
            refine WGo.s (WStep.ifF a0_138 (by decide)) ?_
            refine WGo.s (WStep.aload a0_141 rfl rfl) ?_
            refine WGo.s (WStep.iconst (3 : Int32) a0_143 rfl) ?_
            refine WGo.s (WStep.iload a0_144 rfl) ?_
            refine WGo.s (WStep.iload a0_146 rfl) ?_
            refine WGo.callS a0_148 (ok2 hw _ _ _ _) (wd hw 6 rfl) (wd hw 7 rfl) (argsL := [.ref 0, .int 3, .int 0, .int 0]) (S := []) (c2 hw _ _ x0 x1 x2 x3 x4 x5 3 0 0 x3 3 (by decide) rfl rfl _) rfl rfl rfl rfl rfl rfl (Nat.le_of_ble_eq_true rfl) (Nat.le_of_ble_eq_true rfl) ?_
            rintro _ _ _ ⟨⟨rfl, hA⟩ | ⟨rfl, hA⟩, rfl, rfl⟩
            · exact absurd hA.2.1 (by decide)
            · clear hA
              show WGo _ (151, [wI sel, wJ d1, wS, wJ d2, wS, wI s, wI l, wR 0, wI 0, wI 0, wI 0, wU], [.int 0], [(.inl (.char, [(.int x0), (.int x1), (.int x2), (.int x3), (.int x4), (.int x5)]))], 6) _
              refine WGo.s (WStep.ifF a0_151 (by decide)) ?_
              refine WGo.s (WStep.aload a0_154 rfl rfl) ?_
              refine WGo.s (WStep.iconst (4 : Int32) a0_156 rfl) ?_
              refine WGo.s (WStep.iload a0_157 rfl) ?_
              refine WGo.s (WStep.iload a0_159 rfl) ?_
              refine WGo.callS a0_161 (ok2 hw _ _ _ _) (wd hw 6 rfl) (wd hw 7 rfl) (argsL := [.ref 0, .int 4, .int 0, .int 0]) (S := []) (c2 hw _ _ x0 x1 x2 x3 x4 x5 4 0 0 x4 4 (by decide) rfl rfl _) rfl rfl rfl rfl rfl rfl (Nat.le_of_ble_eq_true rfl) (Nat.le_of_ble_eq_true rfl) ?_
              rintro _ _ _ ⟨⟨rfl, hA⟩ | ⟨rfl, hA⟩, rfl, rfl⟩
              · exact absurd hA.2.1 (by decide)
              · clear hA
                show WGo _ (164, [wI sel, wJ d1, wS, wJ d2, wS, wI s, wI l, wR 0, wI 0, wI 0, wI 0, wU], [.int 0], [(.inl (.char, [(.int x0), (.int x1), (.int x2), (.int x3), (.int x4), (.int x5)]))], 6) _
                refine WGo.s (WStep.ifF a0_164 (by decide)) ?_
                refine WGo.s (WStep.aload a0_167 rfl rfl) ?_
                refine WGo.s (WStep.iconst (5 : Int32) a0_169 rfl) ?_
                refine WGo.s (WStep.iload a0_170 rfl) ?_
                refine WGo.s (WStep.iload a0_172 rfl) ?_
                refine WGo.callS a0_174 (ok2 hw _ _ _ _) (wd hw 6 rfl) (wd hw 7 rfl) (argsL := [.ref 0, .int 5, .int 0, .int 0]) (S := []) (c2 hw _ _ x0 x1 x2 x3 x4 x5 5 0 0 x5 5 (by decide) rfl rfl _) rfl rfl rfl rfl rfl rfl (Nat.le_of_ble_eq_true rfl) (Nat.le_of_ble_eq_true rfl) ?_
                rintro _ _ _ ⟨⟨rfl, hA⟩ | ⟨rfl, hA⟩, rfl, rfl⟩
                · exact absurd hA.2.1 (by decide)
                · clear hA
                  show WGo _ (177, [wI sel, wJ d1, wS, wJ d2, wS, wI s, wI l, wR 0, wI 0, wI 0, wI 0, wU], [.int 0], [(.inl (.char, [(.int x0), (.int x1), (.int x2), (.int x3), (.int x4), (.int x5)]))], 6) _
                  refine WGo.s (WStep.ifT a0_177 (by decide)) ?_
                  refine WGo.s (WStep.iconst (0 : Int32) a0_184 rfl) ?_
                  refine WGo.s (WStep.istore (L' := [wI sel, wJ d1, wS, wJ d2, wS, wI s, wI l, wR 0, wI 0, wI 0, wI 0, wI 0]) a0_185 rfl) ?_
                  refine WGo.s (WStep.aload a0_187 rfl rfl) ?_
                  refine WGo.s (WStep.iload a0_189 rfl) ?_
                  refine WGo.s (WStep.iload a0_191 rfl) ?_
                  refine WGo.callS a0_193 (ok3 hw _ _ _ _) (wd hw 9 rfl) (wd hw 10 rfl) (argsL := [.ref 0, .int 0, .int 0]) (S := []) (c3_00 hw _ _ x0 x1 x2 x3 x4 x5 _) rfl rfl rfl rfl rfl rfl (Nat.le_of_ble_eq_true rfl) (Nat.le_of_ble_eq_true rfl) ?_
                  rintro _ _ _ ⟨⟨rfl, hM⟩ | ⟨rfl, hM⟩, rfl, rfl⟩
                  · exfalso
                    simp_all
                  · skip
                    show WGo _ (196, [wI sel, wJ d1, wS, wJ d2, wS, wI s, wI l, wR 0, wI 0, wI 0, wI 0, wI 0], [.int 0], [(.inl (.char, [(.int x0), (.int x1), (.int x2), (.int x3), (.int x4), (.int x5)]))], 6) _
                    refine WGo.s (WStep.iload a0_196 rfl) ?_
                    refine WGo.s (WStep.icmpF a0_198 (by decide)) ?_
                    refine WGo.s (WStep.iconst (1 : Int32) a0_201 rfl) ?_
                    refine WGo.s (WStep.goto a0_202) ?_
                    refine WGo.ireturn .boolean a0_206 rfl (by simp) ?_
                    exact ⟨rfl, Nat.le_of_ble_eq_true rfl, Nat.le_of_ble_eq_true rfl⟩
    · show WGo _ (93, [wI sel, wJ d1, wS, wJ d2, wS, wI s, wI l, wR 0, wI 0, wU, wU, wU], [.int 1], [(.inl (.char, [(.int x0), (.int x1), (.int x2), (.int x3), (.int x4), (.int x5)]))], 6) _
      refine WGo.s (WStep.istore (L' := [wI sel, wJ d1, wS, wJ d2, wS, wI s, wI l, wR 0, wI 0, wI 1, wU, wU]) a0_93 rfl) ?_
      refine WGo.s (WStep.iload a0_95 rfl) ?_
      refine WGo.s (WStep.iload a0_97 rfl) ?_
      refine WGo.s (WStep.iadd a0_99) ?_
      show WGo _ (100, [wI sel, wJ d1, wS, wJ d2, wS, wI s, wI l, wR 0, wI 0, wI 1, wU, wU], [.int 1], [(.inl (.char, [(.int x0), (.int x1), (.int x2), (.int x3), (.int x4), (.int x5)]))], 6) _
      refine WGo.s (WStep.istore (L' := [wI sel, wJ d1, wS, wJ d2, wS, wI s, wI l, wR 0, wI 0, wI 1, wI 1, wU]) a0_100 rfl) ?_
      refine WGo.s (WStep.aload a0_102 rfl rfl) ?_
      refine WGo.s (WStep.iconst (0 : Int32) a0_104 rfl) ?_
      refine WGo.s (WStep.iload a0_105 rfl) ?_
      refine WGo.s (WStep.iload a0_107 rfl) ?_
      refine WGo.callS a0_109 (ok2 hw _ _ _ _) (wd hw 6 rfl) (wd hw 7 rfl) (argsL := [.ref 0, .int 0, .int 0, .int 1]) (S := []) (c2 hw _ _ x0 x1 x2 x3 x4 x5 0 0 1 x0 0 (by decide) rfl rfl _) rfl rfl rfl rfl rfl rfl (Nat.le_of_ble_eq_true rfl) (Nat.le_of_ble_eq_true rfl) ?_
      rintro _ _ _ ⟨⟨rfl, hA⟩ | ⟨rfl, hA⟩, rfl, rfl⟩
      · exact absurd hA.2.1 (by decide)
      · clear hA
        show WGo _ (112, [wI sel, wJ d1, wS, wJ d2, wS, wI s, wI l, wR 0, wI 0, wI 1, wI 1, wU], [.int 0], [(.inl (.char, [(.int x0), (.int x1), (.int x2), (.int x3), (.int x4), (.int x5)]))], 6) _
        refine WGo.s (WStep.ifF a0_112 (by decide)) ?_
        refine WGo.s (WStep.aload a0_115 rfl rfl) ?_
        refine WGo.s (WStep.iconst (1 : Int32) a0_117 rfl) ?_
        refine WGo.s (WStep.iload a0_118 rfl) ?_
        refine WGo.s (WStep.iload a0_120 rfl) ?_
        refine WGo.callS a0_122 (ok2 hw _ _ _ _) (wd hw 6 rfl) (wd hw 7 rfl) (argsL := [.ref 0, .int 1, .int 0, .int 1]) (S := []) (c2 hw _ _ x0 x1 x2 x3 x4 x5 1 0 1 x1 1 (by decide) rfl rfl _) rfl rfl rfl rfl rfl rfl (Nat.le_of_ble_eq_true rfl) (Nat.le_of_ble_eq_true rfl) ?_
        rintro _ _ _ ⟨⟨rfl, hA⟩ | ⟨rfl, hA⟩, rfl, rfl⟩
        · exact absurd hA.2.1 (by decide)
        · clear hA
          show WGo _ (125, [wI sel, wJ d1, wS, wJ d2, wS, wI s, wI l, wR 0, wI 0, wI 1, wI 1, wU], [.int 0], [(.inl (.char, [(.int x0), (.int x1), (.int x2), (.int x3), (.int x4), (.int x5)]))], 6) _
          refine WGo.s (WStep.ifF a0_125 (by decide)) ?_
          refine WGo.s (WStep.aload a0_128 rfl rfl) ?_
          refine WGo.s (WStep.iconst (2 : Int32) a0_130 rfl) ?_
          refine WGo.s (WStep.iload a0_131 rfl) ?_
          refine WGo.s (WStep.iload a0_133 rfl) ?_
          refine WGo.callS a0_135 (ok2 hw _ _ _ _) (wd hw 6 rfl) (wd hw 7 rfl) (argsL := [.ref 0, .int 2, .int 0, .int 1]) (S := []) (c2 hw _ _ x0 x1 x2 x3 x4 x5 2 0 1 x2 2 (by decide) rfl rfl _) rfl rfl rfl rfl rfl rfl (Nat.le_of_ble_eq_true rfl) (Nat.le_of_ble_eq_true rfl) ?_
          rintro _ _ _ ⟨⟨rfl, hA⟩ | ⟨rfl, hA⟩, rfl, rfl⟩
          · exact absurd hA.2.1 (by decide)
          · clear hA
            show WGo _ (138, [wI sel, wJ d1, wS, wJ d2, wS, wI s, wI l, wR 0, wI 0, wI 1, wI 1, wU], [.int 0], [(.inl (.char, [(.int x0), (.int x1), (.int x2), (.int x3), (.int x4), (.int x5)]))], 6) _
            refine WGo.s (WStep.ifF a0_138 (by decide)) ?_
            refine WGo.s (WStep.aload a0_141 rfl rfl) ?_
            refine WGo.s (WStep.iconst (3 : Int32) a0_143 rfl) ?_
            refine WGo.s (WStep.iload a0_144 rfl) ?_
            refine WGo.s (WStep.iload a0_146 rfl) ?_
            refine WGo.callS a0_148 (ok2 hw _ _ _ _) (wd hw 6 rfl) (wd hw 7 rfl) (argsL := [.ref 0, .int 3, .int 0, .int 1]) (S := []) (c2 hw _ _ x0 x1 x2 x3 x4 x5 3 0 1 x3 3 (by decide) rfl rfl _) rfl rfl rfl rfl rfl rfl (Nat.le_of_ble_eq_true rfl) (Nat.le_of_ble_eq_true rfl) ?_
            rintro _ _ _ ⟨⟨rfl, hA⟩ | ⟨rfl, hA⟩, rfl, rfl⟩
            · exact absurd hA.2.1 (by decide)
            · clear hA
              show WGo _ (151, [wI sel, wJ d1, wS, wJ d2, wS, wI s, wI l, wR 0, wI 0, wI 1, wI 1, wU], [.int 0], [(.inl (.char, [(.int x0), (.int x1), (.int x2), (.int x3), (.int x4), (.int x5)]))], 6) _
              refine WGo.s (WStep.ifF a0_151 (by decide)) ?_
              refine WGo.s (WStep.aload a0_154 rfl rfl) ?_
              refine WGo.s (WStep.iconst (4 : Int32) a0_156 rfl) ?_
              refine WGo.s (WStep.iload a0_157 rfl) ?_
              refine WGo.s (WStep.iload a0_159 rfl) ?_
              refine WGo.callS a0_161 (ok2 hw _ _ _ _) (wd hw 6 rfl) (wd hw 7 rfl) (argsL := [.ref 0, .int 4, .int 0, .int 1]) (S := []) (c2 hw _ _ x0 x1 x2 x3 x4 x5 4 0 1 x4 4 (by decide) rfl rfl _) rfl rfl rfl rfl rfl rfl (Nat.le_of_ble_eq_true rfl) (Nat.le_of_ble_eq_true rfl) ?_
              rintro _ _ _ ⟨⟨rfl, hA⟩ | ⟨rfl, hA⟩, rfl, rfl⟩
              · exact absurd hA.2.1 (by decide)
              · clear hA
                show WGo _ (164, [wI sel, wJ d1, wS, wJ d2, wS, wI s, wI l, wR 0, wI 0, wI 1, wI 1, wU], [.int 0], [(.inl (.char, [(.int x0), (.int x1), (.int x2), (.int x3), (.int x4), (.int x5)]))], 6) _
                refine WGo.s (WStep.ifF a0_164 (by decide)) ?_
                refine WGo.s (WStep.aload a0_167 rfl rfl) ?_
                refine WGo.s (WStep.iconst (5 : Int32) a0_169 rfl) ?_
                refine WGo.s (WStep.iload a0_170 rfl) ?_
                refine WGo.s (WStep.iload a0_172 rfl) ?_
                refine WGo.callS a0_174 (ok2 hw _ _ _ _) (wd hw 6 rfl) (wd hw 7 rfl) (argsL := [.ref 0, .int 5, .int 0, .int 1]) (S := []) (c2 hw _ _ x0 x1 x2 x3 x4 x5 5 0 1 x5 5 (by decide) rfl rfl _) rfl rfl rfl rfl rfl rfl (Nat.le_of_ble_eq_true rfl) (Nat.le_of_ble_eq_true rfl) ?_
                rintro _ _ _ ⟨⟨rfl, hA⟩ | ⟨rfl, hA⟩, rfl, rfl⟩
                · exact absurd hA.2.1 (by decide)
                · clear hA
                  show WGo _ (177, [wI sel, wJ d1, wS, wJ d2, wS, wI s, wI l, wR 0, wI 0, wI 1, wI 1, wU], [.int 0], [(.inl (.char, [(.int x0), (.int x1), (.int x2), (.int x3), (.int x4), (.int x5)]))], 6) _
                  refine WGo.s (WStep.ifT a0_177 (by decide)) ?_
                  refine WGo.s (WStep.iconst (0 : Int32) a0_184 rfl) ?_
                  refine WGo.s (WStep.istore (L' := [wI sel, wJ d1, wS, wJ d2, wS, wI s, wI l, wR 0, wI 0, wI 1, wI 1, wI 0]) a0_185 rfl) ?_
                  refine WGo.s (WStep.aload a0_187 rfl rfl) ?_
                  refine WGo.s (WStep.iload a0_189 rfl) ?_
                  refine WGo.s (WStep.iload a0_191 rfl) ?_
                  refine WGo.callS a0_193 (ok3 hw _ _ _ _) (wd hw 9 rfl) (wd hw 10 rfl) (argsL := [.ref 0, .int 0, .int 1]) (S := []) (c3_01 hw _ _ x0 x1 x2 x3 x4 x5 _) rfl rfl rfl rfl rfl rfl (Nat.le_of_ble_eq_true rfl) (Nat.le_of_ble_eq_true rfl) ?_
                  rintro _ _ _ ⟨⟨rfl, hM⟩ | ⟨rfl, hM⟩, rfl, rfl⟩
                  · exfalso
                    simp_all
                  · skip
                    show WGo _ (196, [wI sel, wJ d1, wS, wJ d2, wS, wI s, wI l, wR 0, wI 0, wI 1, wI 1, wI 0], [.int 0], [(.inl (.char, [(.int x0), (.int x1), (.int x2), (.int x3), (.int x4), (.int x5)]))], 6) _
                    refine WGo.s (WStep.iload a0_196 rfl) ?_
                    refine WGo.s (WStep.icmpF a0_198 (by decide)) ?_
                    refine WGo.s (WStep.iconst (1 : Int32) a0_201 rfl) ?_
                    refine WGo.s (WStep.goto a0_202) ?_
                    refine WGo.ireturn .boolean a0_206 rfl (by simp) ?_
                    exact ⟨rfl, Nat.le_of_ble_eq_true rfl, Nat.le_of_ble_eq_true rfl⟩
    · show WGo _ (93, [wI sel, wJ d1, wS, wJ d2, wS, wI s, wI l, wR 0, wI 0, wU, wU, wU], [.int 2], [(.inl (.char, [(.int x0), (.int x1), (.int x2), (.int x3), (.int x4), (.int x5)]))], 6) _
      refine WGo.s (WStep.istore (L' := [wI sel, wJ d1, wS, wJ d2, wS, wI s, wI l, wR 0, wI 0, wI 2, wU, wU]) a0_93 rfl) ?_
      refine WGo.s (WStep.iload a0_95 rfl) ?_
      refine WGo.s (WStep.iload a0_97 rfl) ?_
      refine WGo.s (WStep.iadd a0_99) ?_
      show WGo _ (100, [wI sel, wJ d1, wS, wJ d2, wS, wI s, wI l, wR 0, wI 0, wI 2, wU, wU], [.int 2], [(.inl (.char, [(.int x0), (.int x1), (.int x2), (.int x3), (.int x4), (.int x5)]))], 6) _
      refine WGo.s (WStep.istore (L' := [wI sel, wJ d1, wS, wJ d2, wS, wI s, wI l, wR 0, wI 0, wI 2, wI 2, wU]) a0_100 rfl) ?_
      refine WGo.s (WStep.aload a0_102 rfl rfl) ?_
      refine WGo.s (WStep.iconst (0 : Int32) a0_104 rfl) ?_
      refine WGo.s (WStep.iload a0_105 rfl) ?_
      refine WGo.s (WStep.iload a0_107 rfl) ?_
      refine WGo.callS a0_109 (ok2 hw _ _ _ _) (wd hw 6 rfl) (wd hw 7 rfl) (argsL := [.ref 0, .int 0, .int 0, .int 2]) (S := []) (c2 hw _ _ x0 x1 x2 x3 x4 x5 0 0 2 x0 0 (by decide) rfl rfl _) rfl rfl rfl rfl rfl rfl (Nat.le_of_ble_eq_true rfl) (Nat.le_of_ble_eq_true rfl) ?_
      rintro _ _ _ ⟨⟨rfl, hA⟩ | ⟨rfl, hA⟩, rfl, rfl⟩
      · have hx0 := hA.2.2
        clear hA
        show WGo _ (112, [wI sel, wJ d1, wS, wJ d2, wS, wI s, wI l, wR 0, wI 0, wI 2, wI 2, wU], [.int 1], [(.inl (.char, [(.int x0), (.int x1), (.int x2), (.int x3), (.int x4), (.int x5)]))], 6) _
        refine WGo.s (WStep.ifT a0_112 (by decide)) ?_
        refine WGo.s (WStep.iconst (1 : Int32) a0_180 rfl) ?_
        refine WGo.s (WStep.goto a0_181) ?_
        refine WGo.s (WStep.istore (L' := [wI sel, wJ d1, wS, wJ d2, wS, wI s, wI l, wR 0, wI 0, wI 2, wI 2, wI 1]) a0_185 rfl) ?_
        refine WGo.s (WStep.aload a0_187 rfl rfl) ?_
        refine WGo.s (WStep.iload a0_189 rfl) ?_
        refine WGo.s (WStep.iload a0_191 rfl) ?_
        refine WGo.callS a0_193 (ok3 hw _ _ _ _) (wd hw 9 rfl) (wd hw 10 rfl) (argsL := [.ref 0, .int 0, .int 2]) (S := []) (c3_02 hw _ _ x0 x1 x2 x3 x4 x5 _) rfl rfl rfl rfl rfl rfl (Nat.le_of_ble_eq_true rfl) (Nat.le_of_ble_eq_true rfl) ?_
        rintro _ _ _ ⟨⟨rfl, hM⟩ | ⟨rfl, hM⟩, rfl, rfl⟩
        · skip
          show WGo _ (196, [wI sel, wJ d1, wS, wJ d2, wS, wI s, wI l, wR 0, wI 0, wI 2, wI 2, wI 1], [.int 1], [(.inl (.char, [(.int x0), (.int x1), (.int x2), (.int x3), (.int x4), (.int x5)]))], 6) _
          refine WGo.s (WStep.iload a0_196 rfl) ?_
          refine WGo.s (WStep.icmpF a0_198 (by decide)) ?_
          refine WGo.s (WStep.iconst (1 : Int32) a0_201 rfl) ?_
          refine WGo.s (WStep.goto a0_202) ?_
          refine WGo.ireturn .boolean a0_206 rfl (by simp) ?_
          exact ⟨rfl, Nat.le_of_ble_eq_true rfl, Nat.le_of_ble_eq_true rfl⟩
        · exfalso
          simp_all
      · have hx0 : ¬ x0 = 93 := fun q => hA ⟨by decide, by decide, q⟩
        clear hA
        show WGo _ (112, [wI sel, wJ d1, wS, wJ d2, wS, wI s, wI l, wR 0, wI 0, wI 2, wI 2, wU], [.int 0], [(.inl (.char, [(.int x0), (.int x1), (.int x2), (.int x3), (.int x4), (.int x5)]))], 6) _
        refine WGo.s (WStep.ifF a0_112 (by decide)) ?_
        refine WGo.s (WStep.aload a0_115 rfl rfl) ?_
        refine WGo.s (WStep.iconst (1 : Int32) a0_117 rfl) ?_
        refine WGo.s (WStep.iload a0_118 rfl) ?_
        refine WGo.s (WStep.iload a0_120 rfl) ?_
        refine WGo.callS a0_122 (ok2 hw _ _ _ _) (wd hw 6 rfl) (wd hw 7 rfl) (argsL := [.ref 0, .int 1, .int 0, .int 2]) (S := []) (c2 hw _ _ x0 x1 x2 x3 x4 x5 1 0 2 x1 1 (by decide) rfl rfl _) rfl rfl rfl rfl rfl rfl (Nat.le_of_ble_eq_true rfl) (Nat.le_of_ble_eq_true rfl) ?_
        rintro _ _ _ ⟨⟨rfl, hA⟩ | ⟨rfl, hA⟩, rfl, rfl⟩
        · exact absurd hA.2.1 (by decide)
        · clear hA
          show WGo _ (125, [wI sel, wJ d1, wS, wJ d2, wS, wI s, wI l, wR 0, wI 0, wI 2, wI 2, wU], [.int 0], [(.inl (.char, [(.int x0), (.int x1), (.int x2), (.int x3), (.int x4), (.int x5)]))], 6) _
          refine WGo.s (WStep.ifF a0_125 (by decide)) ?_
          refine WGo.s (WStep.aload a0_128 rfl rfl) ?_
          refine WGo.s (WStep.iconst (2 : Int32) a0_130 rfl) ?_
          refine WGo.s (WStep.iload a0_131 rfl) ?_
          refine WGo.s (WStep.iload a0_133 rfl) ?_
          refine WGo.callS a0_135 (ok2 hw _ _ _ _) (wd hw 6 rfl) (wd hw 7 rfl) (argsL := [.ref 0, .int 2, .int 0, .int 2]) (S := []) (c2 hw _ _ x0 x1 x2 x3 x4 x5 2 0 2 x2 2 (by decide) rfl rfl _) rfl rfl rfl rfl rfl rfl (Nat.le_of_ble_eq_true rfl) (Nat.le_of_ble_eq_true rfl) ?_
          rintro _ _ _ ⟨⟨rfl, hA⟩ | ⟨rfl, hA⟩, rfl, rfl⟩
          · exact absurd hA.2.1 (by decide)
          · clear hA
            show WGo _ (138, [wI sel, wJ d1, wS, wJ d2, wS, wI s, wI l, wR 0, wI 0, wI 2, wI 2, wU], [.int 0], [(.inl (.char, [(.int x0), (.int x1), (.int x2), (.int x3), (.int x4), (.int x5)]))], 6) _
            refine WGo.s (WStep.ifF a0_138 (by decide)) ?_
            refine WGo.s (WStep.aload a0_141 rfl rfl) ?_
            refine WGo.s (WStep.iconst (3 : Int32) a0_143 rfl) ?_
            refine WGo.s (WStep.iload a0_144 rfl) ?_
            refine WGo.s (WStep.iload a0_146 rfl) ?_
            refine WGo.callS a0_148 (ok2 hw _ _ _ _) (wd hw 6 rfl) (wd hw 7 rfl) (argsL := [.ref 0, .int 3, .int 0, .int 2]) (S := []) (c2 hw _ _ x0 x1 x2 x3 x4 x5 3 0 2 x3 3 (by decide) rfl rfl _) rfl rfl rfl rfl rfl rfl (Nat.le_of_ble_eq_true rfl) (Nat.le_of_ble_eq_true rfl) ?_
            rintro _ _ _ ⟨⟨rfl, hA⟩ | ⟨rfl, hA⟩, rfl, rfl⟩
            · exact absurd hA.2.1 (by decide)
            · clear hA
              show WGo _ (151, [wI sel, wJ d1, wS, wJ d2, wS, wI s, wI l, wR 0, wI 0, wI 2, wI 2, wU], [.int 0], [(.inl (.char, [(.int x0), (.int x1), (.int x2), (.int x3), (.int x4), (.int x5)]))], 6) _
              refine WGo.s (WStep.ifF a0_151 (by decide)) ?_
              refine WGo.s (WStep.aload a0_154 rfl rfl) ?_
              refine WGo.s (WStep.iconst (4 : Int32) a0_156 rfl) ?_
              refine WGo.s (WStep.iload a0_157 rfl) ?_
              refine WGo.s (WStep.iload a0_159 rfl) ?_
              refine WGo.callS a0_161 (ok2 hw _ _ _ _) (wd hw 6 rfl) (wd hw 7 rfl) (argsL := [.ref 0, .int 4, .int 0, .int 2]) (S := []) (c2 hw _ _ x0 x1 x2 x3 x4 x5 4 0 2 x4 4 (by decide) rfl rfl _) rfl rfl rfl rfl rfl rfl (Nat.le_of_ble_eq_true rfl) (Nat.le_of_ble_eq_true rfl) ?_
              rintro _ _ _ ⟨⟨rfl, hA⟩ | ⟨rfl, hA⟩, rfl, rfl⟩
              · exact absurd hA.2.1 (by decide)
              · clear hA
                show WGo _ (164, [wI sel, wJ d1, wS, wJ d2, wS, wI s, wI l, wR 0, wI 0, wI 2, wI 2, wU], [.int 0], [(.inl (.char, [(.int x0), (.int x1), (.int x2), (.int x3), (.int x4), (.int x5)]))], 6) _
                refine WGo.s (WStep.ifF a0_164 (by decide)) ?_
                refine WGo.s (WStep.aload a0_167 rfl rfl) ?_
                refine WGo.s (WStep.iconst (5 : Int32) a0_169 rfl) ?_
                refine WGo.s (WStep.iload a0_170 rfl) ?_
                refine WGo.s (WStep.iload a0_172 rfl) ?_
                refine WGo.callS a0_174 (ok2 hw _ _ _ _) (wd hw 6 rfl) (wd hw 7 rfl) (argsL := [.ref 0, .int 5, .int 0, .int 2]) (S := []) (c2 hw _ _ x0 x1 x2 x3 x4 x5 5 0 2 x5 5 (by decide) rfl rfl _) rfl rfl rfl rfl rfl rfl (Nat.le_of_ble_eq_true rfl) (Nat.le_of_ble_eq_true rfl) ?_
                rintro _ _ _ ⟨⟨rfl, hA⟩ | ⟨rfl, hA⟩, rfl, rfl⟩
                · exact absurd hA.2.1 (by decide)
                · clear hA
                  show WGo _ (177, [wI sel, wJ d1, wS, wJ d2, wS, wI s, wI l, wR 0, wI 0, wI 2, wI 2, wU], [.int 0], [(.inl (.char, [(.int x0), (.int x1), (.int x2), (.int x3), (.int x4), (.int x5)]))], 6) _
                  refine WGo.s (WStep.ifT a0_177 (by decide)) ?_
                  refine WGo.s (WStep.iconst (0 : Int32) a0_184 rfl) ?_
                  refine WGo.s (WStep.istore (L' := [wI sel, wJ d1, wS, wJ d2, wS, wI s, wI l, wR 0, wI 0, wI 2, wI 2, wI 0]) a0_185 rfl) ?_
                  refine WGo.s (WStep.aload a0_187 rfl rfl) ?_
                  refine WGo.s (WStep.iload a0_189 rfl) ?_
                  refine WGo.s (WStep.iload a0_191 rfl) ?_
                  refine WGo.callS a0_193 (ok3 hw _ _ _ _) (wd hw 9 rfl) (wd hw 10 rfl) (argsL := [.ref 0, .int 0, .int 2]) (S := []) (c3_02 hw _ _ x0 x1 x2 x3 x4 x5 _) rfl rfl rfl rfl rfl rfl (Nat.le_of_ble_eq_true rfl) (Nat.le_of_ble_eq_true rfl) ?_
                  rintro _ _ _ ⟨⟨rfl, hM⟩ | ⟨rfl, hM⟩, rfl, rfl⟩
                  · exfalso
                    simp_all
                  · skip
                    show WGo _ (196, [wI sel, wJ d1, wS, wJ d2, wS, wI s, wI l, wR 0, wI 0, wI 2, wI 2, wI 0], [.int 0], [(.inl (.char, [(.int x0), (.int x1), (.int x2), (.int x3), (.int x4), (.int x5)]))], 6) _
                    refine WGo.s (WStep.iload a0_196 rfl) ?_
                    refine WGo.s (WStep.icmpF a0_198 (by decide)) ?_
                    refine WGo.s (WStep.iconst (1 : Int32) a0_201 rfl) ?_
                    refine WGo.s (WStep.goto a0_202) ?_
                    refine WGo.ireturn .boolean a0_206 rfl (by simp) ?_
                    exact ⟨rfl, Nat.le_of_ble_eq_true rfl, Nat.le_of_ble_eq_true rfl⟩
    · show WGo _ (93, [wI sel, wJ d1, wS, wJ d2, wS, wI s, wI l, wR 0, wI 0, wU, wU, wU], [.int 3], [(.inl (.char, [(.int x0), (.int x1), (.int x2), (.int x3), (.int x4), (.int x5)]))], 6) _
      refine WGo.s (WStep.istore (L' := [wI sel, wJ d1, wS, wJ d2, wS, wI s, wI l, wR 0, wI 0, wI 3, wU, wU]) a0_93 rfl) ?_
      refine WGo.s (WStep.iload a0_95 rfl) ?_
      refine WGo.s (WStep.iload a0_97 rfl) ?_
      refine WGo.s (WStep.iadd a0_99) ?_
      show WGo _ (100, [wI sel, wJ d1, wS, wJ d2, wS, wI s, wI l, wR 0, wI 0, wI 3, wU, wU], [.int 3], [(.inl (.char, [(.int x0), (.int x1), (.int x2), (.int x3), (.int x4), (.int x5)]))], 6) _
      refine WGo.s (WStep.istore (L' := [wI sel, wJ d1, wS, wJ d2, wS, wI s, wI l, wR 0, wI 0, wI 3, wI 3, wU]) a0_100 rfl) ?_
      refine WGo.s (WStep.aload a0_102 rfl rfl) ?_
      refine WGo.s (WStep.iconst (0 : Int32) a0_104 rfl) ?_
      refine WGo.s (WStep.iload a0_105 rfl) ?_
      refine WGo.s (WStep.iload a0_107 rfl) ?_
      refine WGo.callS a0_109 (ok2 hw _ _ _ _) (wd hw 6 rfl) (wd hw 7 rfl) (argsL := [.ref 0, .int 0, .int 0, .int 3]) (S := []) (c2 hw _ _ x0 x1 x2 x3 x4 x5 0 0 3 x0 0 (by decide) rfl rfl _) rfl rfl rfl rfl rfl rfl (Nat.le_of_ble_eq_true rfl) (Nat.le_of_ble_eq_true rfl) ?_
      rintro _ _ _ ⟨⟨rfl, hA⟩ | ⟨rfl, hA⟩, rfl, rfl⟩
      · have hx0 := hA.2.2
        clear hA
        show WGo _ (112, [wI sel, wJ d1, wS, wJ d2, wS, wI s, wI l, wR 0, wI 0, wI 3, wI 3, wU], [.int 1], [(.inl (.char, [(.int x0), (.int x1), (.int x2), (.int x3), (.int x4), (.int x5)]))], 6) _
        refine WGo.s (WStep.ifT a0_112 (by decide)) ?_
        refine WGo.s (WStep.iconst (1 : Int32) a0_180 rfl) ?_
        refine WGo.s (WStep.goto a0_181) ?_
        refine WGo.s (WStep.istore (L' := [wI sel, wJ d1, wS, wJ d2, wS, wI s, wI l, wR 0, wI 0, wI 3, wI 3, wI 1]) a0_185 rfl) ?_
        refine WGo.s (WStep.aload a0_187 rfl rfl) ?_
        refine WGo.s (WStep.iload a0_189 rfl) ?_
        refine WGo.s (WStep.iload a0_191 rfl) ?_
        refine WGo.callS a0_193 (ok3 hw _ _ _ _) (wd hw 9 rfl) (wd hw 10 rfl) (argsL := [.ref 0, .int 0, .int 3]) (S := []) (c3_03 hw _ _ x0 x1 x2 x3 x4 x5 _) rfl rfl rfl rfl rfl rfl (Nat.le_of_ble_eq_true rfl) (Nat.le_of_ble_eq_true rfl) ?_
        rintro _ _ _ ⟨⟨rfl, hM⟩ | ⟨rfl, hM⟩, rfl, rfl⟩
        · skip
          show WGo _ (196, [wI sel, wJ d1, wS, wJ d2, wS, wI s, wI l, wR 0, wI 0, wI 3, wI 3, wI 1], [.int 1], [(.inl (.char, [(.int x0), (.int x1), (.int x2), (.int x3), (.int x4), (.int x5)]))], 6) _
          refine WGo.s (WStep.iload a0_196 rfl) ?_
          refine WGo.s (WStep.icmpF a0_198 (by decide)) ?_
          refine WGo.s (WStep.iconst (1 : Int32) a0_201 rfl) ?_
          refine WGo.s (WStep.goto a0_202) ?_
          refine WGo.ireturn .boolean a0_206 rfl (by simp) ?_
          exact ⟨rfl, Nat.le_of_ble_eq_true rfl, Nat.le_of_ble_eq_true rfl⟩
        · exfalso
          simp_all
      · have hx0 : ¬ x0 = 93 := fun q => hA ⟨by decide, by decide, q⟩
        clear hA
        show WGo _ (112, [wI sel, wJ d1, wS, wJ d2, wS, wI s, wI l, wR 0, wI 0, wI 3, wI 3, wU], [.int 0], [(.inl (.char, [(.int x0), (.int x1), (.int x2), (.int x3), (.int x4), (.int x5)]))], 6) _
        refine WGo.s (WStep.ifF a0_112 (by decide)) ?_
        refine WGo.s (WStep.aload a0_115 rfl rfl) ?_
        refine WGo.s (WStep.iconst (1 : Int32) a0_117 rfl) ?_
        refine WGo.s (WStep.iload a0_118 rfl) ?_
        refine WGo.s (WStep.iload a0_120 rfl) ?_
        refine WGo.callS a0_122 (ok2 hw _ _ _ _) (wd hw 6 rfl) (wd hw 7 rfl) (argsL := [.ref 0, .int 1, .int 0, .int 3]) (S := []) (c2 hw _ _ x0 x1 x2 x3 x4 x5 1 0 3 x1 1 (by decide) rfl rfl _) rfl rfl rfl rfl rfl rfl (Nat.le_of_ble_eq_true rfl) (Nat.le_of_ble_eq_true rfl) ?_
        rintro _ _ _ ⟨⟨rfl, hA⟩ | ⟨rfl, hA⟩, rfl, rfl⟩
        · have hx1 := hA.2.2
          clear hA
          show WGo _ (125, [wI sel, wJ d1, wS, wJ d2, wS, wI s, wI l, wR 0, wI 0, wI 3, wI 3, wU], [.int 1], [(.inl (.char, [(.int x0), (.int x1), (.int x2), (.int x3), (.int x4), (.int x5)]))], 6) _
          refine WGo.s (WStep.ifT a0_125 (by decide)) ?_
          refine WGo.s (WStep.iconst (1 : Int32) a0_180 rfl) ?_
          refine WGo.s (WStep.goto a0_181) ?_
          refine WGo.s (WStep.istore (L' := [wI sel, wJ d1, wS, wJ d2, wS, wI s, wI l, wR 0, wI 0, wI 3, wI 3, wI 1]) a0_185 rfl) ?_
          refine WGo.s (WStep.aload a0_187 rfl rfl) ?_
          refine WGo.s (WStep.iload a0_189 rfl) ?_
          refine WGo.s (WStep.iload a0_191 rfl) ?_
          refine WGo.callS a0_193 (ok3 hw _ _ _ _) (wd hw 9 rfl) (wd hw 10 rfl) (argsL := [.ref 0, .int 0, .int 3]) (S := []) (c3_03 hw _ _ x0 x1 x2 x3 x4 x5 _) rfl rfl rfl rfl rfl rfl (Nat.le_of_ble_eq_true rfl) (Nat.le_of_ble_eq_true rfl) ?_
          rintro _ _ _ ⟨⟨rfl, hM⟩ | ⟨rfl, hM⟩, rfl, rfl⟩
          · skip
            show WGo _ (196, [wI sel, wJ d1, wS, wJ d2, wS, wI s, wI l, wR 0, wI 0, wI 3, wI 3, wI 1], [.int 1], [(.inl (.char, [(.int x0), (.int x1), (.int x2), (.int x3), (.int x4), (.int x5)]))], 6) _
            refine WGo.s (WStep.iload a0_196 rfl) ?_
            refine WGo.s (WStep.icmpF a0_198 (by decide)) ?_
            refine WGo.s (WStep.iconst (1 : Int32) a0_201 rfl) ?_
            refine WGo.s (WStep.goto a0_202) ?_
            refine WGo.ireturn .boolean a0_206 rfl (by simp) ?_
            exact ⟨rfl, Nat.le_of_ble_eq_true rfl, Nat.le_of_ble_eq_true rfl⟩
          · exfalso
            simp_all
        · have hx1 : ¬ x1 = 93 := fun q => hA ⟨by decide, by decide, q⟩
          clear hA
          show WGo _ (125, [wI sel, wJ d1, wS, wJ d2, wS, wI s, wI l, wR 0, wI 0, wI 3, wI 3, wU], [.int 0], [(.inl (.char, [(.int x0), (.int x1), (.int x2), (.int x3), (.int x4), (.int x5)]))], 6) _
          refine WGo.s (WStep.ifF a0_125 (by decide)) ?_
          refine WGo.s (WStep.aload a0_128 rfl rfl) ?_
          refine WGo.s (WStep.iconst (2 : Int32) a0_130 rfl) ?_
          refine WGo.s (WStep.iload a0_131 rfl) ?_
          refine WGo.s (WStep.iload a0_133 rfl) ?_
          refine WGo.callS a0_135 (ok2 hw _ _ _ _) (wd hw 6 rfl) (wd hw 7 rfl) (argsL := [.ref 0, .int 2, .int 0, .int 3]) (S := []) (c2 hw _ _ x0 x1 x2 x3 x4 x5 2 0 3 x2 2 (by decide) rfl rfl _) rfl rfl rfl rfl rfl rfl (Nat.le_of_ble_eq_true rfl) (Nat.le_of_ble_eq_true rfl) ?_
          rintro _ _ _ ⟨⟨rfl, hA⟩ | ⟨rfl, hA⟩, rfl, rfl⟩
          · exact absurd hA.2.1 (by decide)
          · clear hA
            show WGo _ (138, [wI sel, wJ d1, wS, wJ d2, wS, wI s, wI l, wR 0, wI 0, wI 3, wI 3, wU], [.int 0], [(.inl (.char, [(.int x0), (.int x1), (.int x2), (.int x3), (.int x4), (.int x5)]))], 6) _
            refine WGo.s (WStep.ifF a0_138 (by decide)) ?_
            refine WGo.s (WStep.aload a0_141 rfl rfl) ?_
            refine WGo.s (WStep.iconst (3 : Int32) a0_143 rfl) ?_
            refine WGo.s (WStep.iload a0_144 rfl) ?_
            refine WGo.s (WStep.iload a0_146 rfl) ?_
            refine WGo.callS a0_148 (ok2 hw _ _ _ _) (wd hw 6 rfl) (wd hw 7 rfl) (argsL := [.ref 0, .int 3, .int 0, .int 3]) (S := []) (c2 hw _ _ x0 x1 x2 x3 x4 x5 3 0 3 x3 3 (by decide) rfl rfl _) rfl rfl rfl rfl rfl rfl (Nat.le_of_ble_eq_true rfl) (Nat.le_of_ble_eq_true rfl) ?_
            rintro _ _ _ ⟨⟨rfl, hA⟩ | ⟨rfl, hA⟩, rfl, rfl⟩
            · exact absurd hA.2.1 (by decide)
            · clear hA
              show WGo _ (151, [wI sel, wJ d1, wS, wJ d2, wS, wI s, wI l, wR 0, wI 0, wI 3, wI 3, wU], [.int 0], [(.inl (.char, [(.int x0), (.int x1), (.int x2), (.int x3), (.int x4), (.int x5)]))], 6) _
              refine WGo.s (WStep.ifF a0_151 (by decide)) ?_
              refine WGo.s (WStep.aload a0_154 rfl rfl) ?_
              refine WGo.s (WStep.iconst (4 : Int32) a0_156 rfl) ?_
              refine WGo.s (WStep.iload a0_157 rfl) ?_
              refine WGo.s (WStep.iload a0_159 rfl) ?_
              refine WGo.callS a0_161 (ok2 hw _ _ _ _) (wd hw 6 rfl) (wd hw 7 rfl) (argsL := [.ref 0, .int 4, .int 0, .int 3]) (S := []) (c2 hw _ _ x0 x1 x2 x3 x4 x5 4 0 3 x4 4 (by decide) rfl rfl _) rfl rfl rfl rfl rfl rfl (Nat.le_of_ble_eq_true rfl) (Nat.le_of_ble_eq_true rfl) ?_
              rintro _ _ _ ⟨⟨rfl, hA⟩ | ⟨rfl, hA⟩, rfl, rfl⟩
              · exact absurd hA.2.1 (by decide)
              · clear hA
                show WGo _ (164, [wI sel, wJ d1, wS, wJ d2, wS, wI s, wI l, wR 0, wI 0, wI 3, wI 3, wU], [.int 0], [(.inl (.char, [(.int x0), (.int x1), (.int x2), (.int x3), (.int x4), (.int x5)]))], 6) _
                refine WGo.s (WStep.ifF a0_164 (by decide)) ?_
                refine WGo.s (WStep.aload a0_167 rfl rfl) ?_
                refine WGo.s (WStep.iconst (5 : Int32) a0_169 rfl) ?_
                refine WGo.s (WStep.iload a0_170 rfl) ?_
                refine WGo.s (WStep.iload a0_172 rfl) ?_
                refine WGo.callS a0_174 (ok2 hw _ _ _ _) (wd hw 6 rfl) (wd hw 7 rfl) (argsL := [.ref 0, .int 5, .int 0, .int 3]) (S := []) (c2 hw _ _ x0 x1 x2 x3 x4 x5 5 0 3 x5 5 (by decide) rfl rfl _) rfl rfl rfl rfl rfl rfl (Nat.le_of_ble_eq_true rfl) (Nat.le_of_ble_eq_true rfl) ?_
                rintro _ _ _ ⟨⟨rfl, hA⟩ | ⟨rfl, hA⟩, rfl, rfl⟩
                · exact absurd hA.2.1 (by decide)
                · clear hA
                  show WGo _ (177, [wI sel, wJ d1, wS, wJ d2, wS, wI s, wI l, wR 0, wI 0, wI 3, wI 3, wU], [.int 0], [(.inl (.char, [(.int x0), (.int x1), (.int x2), (.int x3), (.int x4), (.int x5)]))], 6) _
                  refine WGo.s (WStep.ifT a0_177 (by decide)) ?_
                  refine WGo.s (WStep.iconst (0 : Int32) a0_184 rfl) ?_
                  refine WGo.s (WStep.istore (L' := [wI sel, wJ d1, wS, wJ d2, wS, wI s, wI l, wR 0, wI 0, wI 3, wI 3, wI 0]) a0_185 rfl) ?_
                  refine WGo.s (WStep.aload a0_187 rfl rfl) ?_
                  refine WGo.s (WStep.iload a0_189 rfl) ?_
                  refine WGo.s (WStep.iload a0_191 rfl) ?_
                  refine WGo.callS a0_193 (ok3 hw _ _ _ _) (wd hw 9 rfl) (wd hw 10 rfl) (argsL := [.ref 0, .int 0, .int 3]) (S := []) (c3_03 hw _ _ x0 x1 x2 x3 x4 x5 _) rfl rfl rfl rfl rfl rfl (Nat.le_of_ble_eq_true rfl) (Nat.le_of_ble_eq_true rfl) ?_
                  rintro _ _ _ ⟨⟨rfl, hM⟩ | ⟨rfl, hM⟩, rfl, rfl⟩
                  · exfalso
                    simp_all
                  · skip
                    show WGo _ (196, [wI sel, wJ d1, wS, wJ d2, wS, wI s, wI l, wR 0, wI 0, wI 3, wI 3, wI 0], [.int 0], [(.inl (.char, [(.int x0), (.int x1), (.int x2), (.int x3), (.int x4), (.int x5)]))], 6) _
                    refine WGo.s (WStep.iload a0_196 rfl) ?_
                    refine WGo.s (WStep.icmpF a0_198 (by decide)) ?_
                    refine WGo.s (WStep.iconst (1 : Int32) a0_201 rfl) ?_
                    refine WGo.s (WStep.goto a0_202) ?_
                    refine WGo.ireturn .boolean a0_206 rfl (by simp) ?_
                    exact ⟨rfl, Nat.le_of_ble_eq_true rfl, Nat.le_of_ble_eq_true rfl⟩
    · show WGo _ (93, [wI sel, wJ d1, wS, wJ d2, wS, wI s, wI l, wR 0, wI 0, wU, wU, wU], [.int 4], [(.inl (.char, [(.int x0), (.int x1), (.int x2), (.int x3), (.int x4), (.int x5)]))], 6) _
      refine WGo.s (WStep.istore (L' := [wI sel, wJ d1, wS, wJ d2, wS, wI s, wI l, wR 0, wI 0, wI 4, wU, wU]) a0_93 rfl) ?_
      refine WGo.s (WStep.iload a0_95 rfl) ?_
      refine WGo.s (WStep.iload a0_97 rfl) ?_
      refine WGo.s (WStep.iadd a0_99) ?_
      show WGo _ (100, [wI sel, wJ d1, wS, wJ d2, wS, wI s, wI l, wR 0, wI 0, wI 4, wU, wU], [.int 4], [(.inl (.char, [(.int x0), (.int x1), (.int x2), (.int x3), (.int x4), (.int x5)]))], 6) _
      refine WGo.s (WStep.istore (L' := [wI sel, wJ d1, wS, wJ d2, wS, wI s, wI l, wR 0, wI 0, wI 4, wI 4, wU]) a0_100 rfl) ?_
      refine WGo.s (WStep.aload a0_102 rfl rfl) ?_
      refine WGo.s (WStep.iconst (0 : Int32) a0_104 rfl) ?_
      refine WGo.s (WStep.iload a0_105 rfl) ?_
      refine WGo.s (WStep.iload a0_107 rfl) ?_
      refine WGo.callS a0_109 (ok2 hw _ _ _ _) (wd hw 6 rfl) (wd hw 7 rfl) (argsL := [.ref 0, .int 0, .int 0, .int 4]) (S := []) (c2 hw _ _ x0 x1 x2 x3 x4 x5 0 0 4 x0 0 (by decide) rfl rfl _) rfl rfl rfl rfl rfl rfl (Nat.le_of_ble_eq_true rfl) (Nat.le_of_ble_eq_true rfl) ?_
      rintro _ _ _ ⟨⟨rfl, hA⟩ | ⟨rfl, hA⟩, rfl, rfl⟩
      · have hx0 := hA.2.2
        clear hA
        show WGo _ (112, [wI sel, wJ d1, wS, wJ d2, wS, wI s, wI l, wR 0, wI 0, wI 4, wI 4, wU], [.int 1], [(.inl (.char, [(.int x0), (.int x1), (.int x2), (.int x3), (.int x4), (.int x5)]))], 6) _
        refine WGo.s (WStep.ifT a0_112 (by decide)) ?_
        refine WGo.s (WStep.iconst (1 : Int32) a0_180 rfl) ?_
        refine WGo.s (WStep.goto a0_181) ?_
        refine WGo.s (WStep.istore (L' := [wI sel, wJ d1, wS, wJ d2, wS, wI s, wI l, wR 0, wI 0, wI 4, wI 4, wI 1]) a0_185 rfl) ?_
        refine WGo.s (WStep.aload a0_187 rfl rfl) ?_
        refine WGo.s (WStep.iload a0_189 rfl) ?_
        refine WGo.s (WStep.iload a0_191 rfl) ?_
        refine WGo.callS a0_193 (ok3 hw _ _ _ _) (wd hw 9 rfl) (wd hw 10 rfl) (argsL := [.ref 0, .int 0, .int 4]) (S := []) (c3_04 hw _ _ x0 x1 x2 x3 x4 x5 _) rfl rfl rfl rfl rfl rfl (Nat.le_of_ble_eq_true rfl) (Nat.le_of_ble_eq_true rfl) ?_
        rintro _ _ _ ⟨⟨rfl, hM⟩ | ⟨rfl, hM⟩, rfl, rfl⟩
        · skip
          show WGo _ (196, [wI sel, wJ d1, wS, wJ d2, wS, wI s, wI l, wR 0, wI 0, wI 4, wI 4, wI 1], [.int 1], [(.inl (.char, [(.int x0), (.int x1), (.int x2), (.int x3), (.int x4), (.int x5)]))], 6) _
          refine WGo.s (WStep.iload a0_196 rfl) ?_
          refine WGo.s (WStep.icmpF a0_198 (by decide)) ?_
          refine WGo.s (WStep.iconst (1 : Int32) a0_201 rfl) ?_
          refine WGo.s (WStep.goto a0_202) ?_
          refine WGo.ireturn .boolean a0_206 rfl (by simp) ?_
          exact ⟨rfl, Nat.le_of_ble_eq_true rfl, Nat.le_of_ble_eq_true rfl⟩
        · exfalso
          simp_all
      · have hx0 : ¬ x0 = 93 := fun q => hA ⟨by decide, by decide, q⟩
        clear hA
        show WGo _ (112, [wI sel, wJ d1, wS, wJ d2, wS, wI s, wI l, wR 0, wI 0, wI 4, wI 4, wU], [.int 0], [(.inl (.char, [(.int x0), (.int x1), (.int x2), (.int x3), (.int x4), (.int x5)]))], 6) _
        refine WGo.s (WStep.ifF a0_112 (by decide)) ?_
        refine WGo.s (WStep.aload a0_115 rfl rfl) ?_
        refine WGo.s (WStep.iconst (1 : Int32) a0_117 rfl) ?_
        refine WGo.s (WStep.iload a0_118 rfl) ?_
        refine WGo.s (WStep.iload a0_120 rfl) ?_
        refine WGo.callS a0_122 (ok2 hw _ _ _ _) (wd hw 6 rfl) (wd hw 7 rfl) (argsL := [.ref 0, .int 1, .int 0, .int 4]) (S := []) (c2 hw _ _ x0 x1 x2 x3 x4 x5 1 0 4 x1 1 (by decide) rfl rfl _) rfl rfl rfl rfl rfl rfl (Nat.le_of_ble_eq_true rfl) (Nat.le_of_ble_eq_true rfl) ?_
        rintro _ _ _ ⟨⟨rfl, hA⟩ | ⟨rfl, hA⟩, rfl, rfl⟩
        · have hx1 := hA.2.2
          clear hA
          show WGo _ (125, [wI sel, wJ d1, wS, wJ d2, wS, wI s, wI l, wR 0, wI 0, wI 4, wI 4, wU], [.int 1], [(.inl (.char, [(.int x0), (.int x1), (.int x2), (.int x3), (.int x4), (.int x5)]))], 6) _
          refine WGo.s (WStep.ifT a0_125 (by decide)) ?_
          refine WGo.s (WStep.iconst (1 : Int32) a0_180 rfl) ?_
          refine WGo.s (WStep.goto a0_181) ?_
          refine WGo.s (WStep.istore (L' := [wI sel, wJ d1, wS, wJ d2, wS, wI s, wI l, wR 0, wI 0, wI 4, wI 4, wI 1]) a0_185 rfl) ?_
          refine WGo.s (WStep.aload a0_187 rfl rfl) ?_
          refine WGo.s (WStep.iload a0_189 rfl) ?_
          refine WGo.s (WStep.iload a0_191 rfl) ?_
          refine WGo.callS a0_193 (ok3 hw _ _ _ _) (wd hw 9 rfl) (wd hw 10 rfl) (argsL := [.ref 0, .int 0, .int 4]) (S := []) (c3_04 hw _ _ x0 x1 x2 x3 x4 x5 _) rfl rfl rfl rfl rfl rfl (Nat.le_of_ble_eq_true rfl) (Nat.le_of_ble_eq_true rfl) ?_
          rintro _ _ _ ⟨⟨rfl, hM⟩ | ⟨rfl, hM⟩, rfl, rfl⟩
          · skip
            show WGo _ (196, [wI sel, wJ d1, wS, wJ d2, wS, wI s, wI l, wR 0, wI 0, wI 4, wI 4, wI 1], [.int 1], [(.inl (.char, [(.int x0), (.int x1), (.int x2), (.int x3), (.int x4), (.int x5)]))], 6) _
            refine WGo.s (WStep.iload a0_196 rfl) ?_
            refine WGo.s (WStep.icmpF a0_198 (by decide)) ?_
            refine WGo.s (WStep.iconst (1 : Int32) a0_201 rfl) ?_
            refine WGo.s (WStep.goto a0_202) ?_
            refine WGo.ireturn .boolean a0_206 rfl (by simp) ?_
            exact ⟨rfl, Nat.le_of_ble_eq_true rfl, Nat.le_of_ble_eq_true rfl⟩
          · exfalso
            simp_all
        · have hx1 : ¬ x1 = 93 := fun q => hA ⟨by decide, by decide, q⟩
          clear hA
          show WGo _ (125, [wI sel, wJ d1, wS, wJ d2, wS, wI s, wI l, wR 0, wI 0, wI 4, wI 4, wU], [.int 0], [(.inl (.char, [(.int x0), (.int x1), (.int x2), (.int x3), (.int x4), (.int x5)]))], 6) _
          refine WGo.s (WStep.ifF a0_125 (by decide)) ?_
          refine WGo.s (WStep.aload a0_128 rfl rfl) ?_
          refine WGo.s (WStep.iconst (2 : Int32) a0_130 rfl) ?_
          refine WGo.s (WStep.iload a0_131 rfl) ?_
          refine WGo.s (WStep.iload a0_133 rfl) ?_
          refine WGo.callS a0_135 (ok2 hw _ _ _ _) (wd hw 6 rfl) (wd hw 7 rfl) (argsL := [.ref 0, .int 2, .int 0, .int 4]) (S := []) (c2 hw _ _ x0 x1 x2 x3 x4 x5 2 0 4 x2 2 (by decide) rfl rfl _) rfl rfl rfl rfl rfl rfl (Nat.le_of_ble_eq_true rfl) (Nat.le_of_ble_eq_true rfl) ?_
          rintro _ _ _ ⟨⟨rfl, hA⟩ | ⟨rfl, hA⟩, rfl, rfl⟩
          · have hx2 := hA.2.2
            clear hA
            show WGo _ (138, [wI sel, wJ d1, wS, wJ d2, wS, wI s, wI l, wR 0, wI 0, wI 4, wI 4, wU], [.int 1], [(.inl (.char, [(.int x0), (.int x1), (.int x2), (.int x3), (.int x4), (.int x5)]))], 6) _
            refine WGo.s (WStep.ifT a0_138 (by decide)) ?_
            refine WGo.s (WStep.iconst (1 : Int32) a0_180 rfl) ?_
            refine WGo.s (WStep.goto a0_181) ?_
            refine WGo.s (WStep.istore (L' := [wI sel, wJ d1, wS, wJ d2, wS, wI s, wI l, wR 0, wI 0, wI 4, wI 4, wI 1]) a0_185 rfl) ?_
            refine WGo.s (WStep.aload a0_187 rfl rfl) ?_
            refine WGo.s (WStep.iload a0_189 rfl) ?_
            refine WGo.s (WStep.iload a0_191 rfl) ?_
            refine WGo.callS a0_193 (ok3 hw _ _ _ _) (wd hw 9 rfl) (wd hw 10 rfl) (argsL := [.ref 0, .int 0, .int 4]) (S := []) (c3_04 hw _ _ x0 x1 x2 x3 x4 x5 _) rfl rfl rfl rfl rfl rfl (Nat.le_of_ble_eq_true rfl) (Nat.le_of_ble_eq_true rfl) ?_
            rintro _ _ _ ⟨⟨rfl, hM⟩ | ⟨rfl, hM⟩, rfl, rfl⟩
            · skip
              show WGo _ (196, [wI sel, wJ d1, wS, wJ d2, wS, wI s, wI l, wR 0, wI 0, wI 4, wI 4, wI 1], [.int 1], [(.inl (.char, [(.int x0), (.int x1), (.int x2), (.int x3), (.int x4), (.int x5)]))], 6) _
              refine WGo.s (WStep.iload a0_196 rfl) ?_
              refine WGo.s (WStep.icmpF a0_198 (by decide)) ?_
              refine WGo.s (WStep.iconst (1 : Int32) a0_201 rfl) ?_
              refine WGo.s (WStep.goto a0_202) ?_
              refine WGo.ireturn .boolean a0_206 rfl (by simp) ?_
              exact ⟨rfl, Nat.le_of_ble_eq_true rfl, Nat.le_of_ble_eq_true rfl⟩
            · exfalso
              simp_all
          · have hx2 : ¬ x2 = 93 := fun q => hA ⟨by decide, by decide, q⟩
            clear hA
            show WGo _ (138, [wI sel, wJ d1, wS, wJ d2, wS, wI s, wI l, wR 0, wI 0, wI 4, wI 4, wU], [.int 0], [(.inl (.char, [(.int x0), (.int x1), (.int x2), (.int x3), (.int x4), (.int x5)]))], 6) _
            refine WGo.s (WStep.ifF a0_138 (by decide)) ?_
            refine WGo.s (WStep.aload a0_141 rfl rfl) ?_
            refine WGo.s (WStep.iconst (3 : Int32) a0_143 rfl) ?_
            refine WGo.s (WStep.iload a0_144 rfl) ?_
            refine WGo.s (WStep.iload a0_146 rfl) ?_
            refine WGo.callS a0_148 (ok2 hw _ _ _ _) (wd hw 6 rfl) (wd hw 7 rfl) (argsL := [.ref 0, .int 3, .int 0, .int 4]) (S := []) (c2 hw _ _ x0 x1 x2 x3 x4 x5 3 0 4 x3 3 (by decide) rfl rfl _) rfl rfl rfl rfl rfl rfl (Nat.le_of_ble_eq_true rfl) (Nat.le_of_ble_eq_true rfl) ?_
            rintro _ _ _ ⟨⟨rfl, hA⟩ | ⟨rfl, hA⟩, rfl, rfl⟩
            · exact absurd hA.2.1 (by decide)
            · clear hA
              show WGo _ (151, [wI sel, wJ d1, wS, wJ d2, wS, wI s, wI l, wR 0, wI 0, wI 4, wI 4, wU], [.int 0], [(.inl (.char, [(.int x0), (.int x1), (.int x2), (.int x3), (.int x4), (.int x5)]))], 6) _
              refine WGo.s (WStep.ifF a0_151 (by decide)) ?_
              refine WGo.s (WStep.aload a0_154 rfl rfl) ?_
              refine WGo.s (WStep.iconst (4 : Int32) a0_156 rfl) ?_
              refine WGo.s (WStep.iload a0_157 rfl) ?_
              refine WGo.s (WStep.iload a0_159 rfl) ?_
              refine WGo.callS a0_161 (ok2 hw _ _ _ _) (wd hw 6 rfl) (wd hw 7 rfl) (argsL := [.ref 0, .int 4, .int 0, .int 4]) (S := []) (c2 hw _ _ x0 x1 x2 x3 x4 x5 4 0 4 x4 4 (by decide) rfl rfl _) rfl rfl rfl rfl rfl rfl (Nat.le_of_ble_eq_true rfl) (Nat.le_of_ble_eq_true rfl) ?_
              rintro _ _ _ ⟨⟨rfl, hA⟩ | ⟨rfl, hA⟩, rfl, rfl⟩
              · exact absurd hA.2.1 (by decide)
              · clear hA
                show WGo _ (164, [wI sel, wJ d1, wS, wJ d2, wS, wI s, wI l, wR 0, wI 0, wI 4, wI 4, wU], [.int 0], [(.inl (.char, [(.int x0), (.int x1), (.int x2), (.int x3), (.int x4), (.int x5)]))], 6) _
                refine WGo.s (WStep.ifF a0_164 (by decide)) ?_
                refine WGo.s (WStep.aload a0_167 rfl rfl) ?_
                refine WGo.s (WStep.iconst (5 : Int32) a0_169 rfl) ?_
                refine WGo.s (WStep.iload a0_170 rfl) ?_
                refine WGo.s (WStep.iload a0_172 rfl) ?_
                refine WGo.callS a0_174 (ok2 hw _ _ _ _) (wd hw 6 rfl) (wd hw 7 rfl) (argsL := [.ref 0, .int 5, .int 0, .int 4]) (S := []) (c2 hw _ _ x0 x1 x2 x3 x4 x5 5 0 4 x5 5 (by decide) rfl rfl _) rfl rfl rfl rfl rfl rfl (Nat.le_of_ble_eq_true rfl) (Nat.le_of_ble_eq_true rfl) ?_
                rintro _ _ _ ⟨⟨rfl, hA⟩ | ⟨rfl, hA⟩, rfl, rfl⟩
                · exact absurd hA.2.1 (by decide)
                · clear hA
                  show WGo _ (177, [wI sel, wJ d1, wS, wJ d2, wS, wI s, wI l, wR 0, wI 0, wI 4, wI 4, wU], [.int 0], [(.inl (.char, [(.int x0), (.int x1), (.int x2), (.int x3), (.int x4), (.int x5)]))], 6) _
                  refine WGo.s (WStep.ifT a0_177 (by decide)) ?_
                  refine WGo.s (WStep.iconst (0 : Int32) a0_184 rfl) ?_
                  refine WGo.s (WStep.istore (L' := [wI sel, wJ d1, wS, wJ d2, wS, wI s, wI l, wR 0, wI 0, wI 4, wI 4, wI 0]) a0_185 rfl) ?_
                  refine WGo.s (WStep.aload a0_187 rfl rfl) ?_
                  refine WGo.s (WStep.iload a0_189 rfl) ?_
                  refine WGo.s (WStep.iload a0_191 rfl) ?_
                  refine WGo.callS a0_193 (ok3 hw _ _ _ _) (wd hw 9 rfl) (wd hw 10 rfl) (argsL := [.ref 0, .int 0, .int 4]) (S := []) (c3_04 hw _ _ x0 x1 x2 x3 x4 x5 _) rfl rfl rfl rfl rfl rfl (Nat.le_of_ble_eq_true rfl) (Nat.le_of_ble_eq_true rfl) ?_
                  rintro _ _ _ ⟨⟨rfl, hM⟩ | ⟨rfl, hM⟩, rfl, rfl⟩
                  · exfalso
                    simp_all
                  · skip
                    show WGo _ (196, [wI sel, wJ d1, wS, wJ d2, wS, wI s, wI l, wR 0, wI 0, wI 4, wI 4, wI 0], [.int 0], [(.inl (.char, [(.int x0), (.int x1), (.int x2), (.int x3), (.int x4), (.int x5)]))], 6) _
                    refine WGo.s (WStep.iload a0_196 rfl) ?_
                    refine WGo.s (WStep.icmpF a0_198 (by decide)) ?_
                    refine WGo.s (WStep.iconst (1 : Int32) a0_201 rfl) ?_
                    refine WGo.s (WStep.goto a0_202) ?_
                    refine WGo.ireturn .boolean a0_206 rfl (by simp) ?_
                    exact ⟨rfl, Nat.le_of_ble_eq_true rfl, Nat.le_of_ble_eq_true rfl⟩
    · show WGo _ (93, [wI sel, wJ d1, wS, wJ d2, wS, wI s, wI l, wR 0, wI 0, wU, wU, wU], [.int 5], [(.inl (.char, [(.int x0), (.int x1), (.int x2), (.int x3), (.int x4), (.int x5)]))], 6) _
      refine WGo.s (WStep.istore (L' := [wI sel, wJ d1, wS, wJ d2, wS, wI s, wI l, wR 0, wI 0, wI 5, wU, wU]) a0_93 rfl) ?_
      refine WGo.s (WStep.iload a0_95 rfl) ?_
      refine WGo.s (WStep.iload a0_97 rfl) ?_
      refine WGo.s (WStep.iadd a0_99) ?_
      show WGo _ (100, [wI sel, wJ d1, wS, wJ d2, wS, wI s, wI l, wR 0, wI 0, wI 5, wU, wU], [.int 5], [(.inl (.char, [(.int x0), (.int x1), (.int x2), (.int x3), (.int x4), (.int x5)]))], 6) _
      refine WGo.s (WStep.istore (L' := [wI sel, wJ d1, wS, wJ d2, wS, wI s, wI l, wR 0, wI 0, wI 5, wI 5, wU]) a0_100 rfl) ?_
      refine WGo.s (WStep.aload a0_102 rfl rfl) ?_
      refine WGo.s (WStep.iconst (0 : Int32) a0_104 rfl) ?_
      refine WGo.s (WStep.iload a0_105 rfl) ?_
      refine WGo.s (WStep.iload a0_107 rfl) ?_
      refine WGo.callS a0_109 (ok2 hw _ _ _ _) (wd hw 6 rfl) (wd hw 7 rfl) (argsL := [.ref 0, .int 0, .int 0, .int 5]) (S := []) (c2 hw _ _ x0 x1 x2 x3 x4 x5 0 0 5 x0 0 (by decide) rfl rfl _) rfl rfl rfl rfl rfl rfl (Nat.le_of_ble_eq_true rfl) (Nat.le_of_ble_eq_true rfl) ?_
      rintro _ _ _ ⟨⟨rfl, hA⟩ | ⟨rfl, hA⟩, rfl, rfl⟩
      · have hx0 := hA.2.2
        clear hA
        show WGo _ (112, [wI sel, wJ d1, wS, wJ d2, wS, wI s, wI l, wR 0, wI 0, wI 5, wI 5, wU], [.int 1], [(.inl (.char, [(.int x0), (.int x1), (.int x2), (.int x3), (.int x4), (.int x5)]))], 6) _
        refine WGo.s (WStep.ifT a0_112 (by decide)) ?_
        refine WGo.s (WStep.iconst (1 : Int32) a0_180 rfl) ?_
        refine WGo.s (WStep.goto a0_181) ?_
        refine WGo.s (WStep.istore (L' := [wI sel, wJ d1, wS, wJ d2, wS, wI s, wI l, wR 0, wI 0, wI 5, wI 5, wI 1]) a0_185 rfl) ?_
        refine WGo.s (WStep.aload a0_187 rfl rfl) ?_
        refine WGo.s (WStep.iload a0_189 rfl) ?_
        refine WGo.s (WStep.iload a0_191 rfl) ?_
        refine WGo.callS a0_193 (ok3 hw _ _ _ _) (wd hw 9 rfl) (wd hw 10 rfl) (argsL := [.ref 0, .int 0, .int 5]) (S := []) (c3_05 hw _ _ x0 x1 x2 x3 x4 x5 _) rfl rfl rfl rfl rfl rfl (Nat.le_of_ble_eq_true rfl) (Nat.le_of_ble_eq_true rfl) ?_
        rintro _ _ _ ⟨⟨rfl, hM⟩ | ⟨rfl, hM⟩, rfl, rfl⟩
        · skip
          show WGo _ (196, [wI sel, wJ d1, wS, wJ d2, wS, wI s, wI l, wR 0, wI 0, wI 5, wI 5, wI 1], [.int 1], [(.inl (.char, [(.int x0), (.int x1), (.int x2), (.int x3), (.int x4), (.int x5)]))], 6) _
          refine WGo.s (WStep.iload a0_196 rfl) ?_
          refine WGo.s (WStep.icmpF a0_198 (by decide)) ?_
          refine WGo.s (WStep.iconst (1 : Int32) a0_201 rfl) ?_
          refine WGo.s (WStep.goto a0_202) ?_
          refine WGo.ireturn .boolean a0_206 rfl (by simp) ?_
          exact ⟨rfl, Nat.le_of_ble_eq_true rfl, Nat.le_of_ble_eq_true rfl⟩
        · exfalso
          simp_all
      · have hx0 : ¬ x0 = 93 := fun q => hA ⟨by decide, by decide, q⟩
        clear hA
        show WGo _ (112, [wI sel, wJ d1, wS, wJ d2, wS, wI s, wI l, wR 0, wI 0, wI 5, wI 5, wU], [.int 0], [(.inl (.char, [(.int x0), (.int x1), (.int x2), (.int x3), (.int x4), (.int x5)]))], 6) _
        refine WGo.s (WStep.ifF a0_112 (by decide)) ?_
        refine WGo.s (WStep.aload a0_115 rfl rfl) ?_
        refine WGo.s (WStep.iconst (1 : Int32) a0_117 rfl) ?_
        refine WGo.s (WStep.iload a0_118 rfl) ?_
        refine WGo.s (WStep.iload a0_120 rfl) ?_
        refine WGo.callS a0_122 (ok2 hw _ _ _ _) (wd hw 6 rfl) (wd hw 7 rfl) (argsL := [.ref 0, .int 1, .int 0, .int 5]) (S := []) (c2 hw _ _ x0 x1 x2 x3 x4 x5 1 0 5 x1 1 (by decide) rfl rfl _) rfl rfl rfl rfl rfl rfl (Nat.le_of_ble_eq_true rfl) (Nat.le_of_ble_eq_true rfl) ?_
        rintro _ _ _ ⟨⟨rfl, hA⟩ | ⟨rfl, hA⟩, rfl, rfl⟩
        · have hx1 := hA.2.2
          clear hA
          show WGo _ (125, [wI sel, wJ d1, wS, wJ d2, wS, wI s, wI l, wR 0, wI 0, wI 5, wI 5, wU], [.int 1], [(.inl (.char, [(.int x0), (.int x1), (.int x2), (.int x3), (.int x4), (.int x5)]))], 6) _
          refine WGo.s (WStep.ifT a0_125 (by decide)) ?_
          refine WGo.s (WStep.iconst (1 : Int32) a0_180 rfl) ?_
          refine WGo.s (WStep.goto a0_181) ?_
          refine WGo.s (WStep.istore (L' := [wI sel, wJ d1, wS, wJ d2, wS, wI s, wI l, wR 0, wI 0, wI 5, wI 5, wI 1]) a0_185 rfl) ?_
          refine WGo.s (WStep.aload a0_187 rfl rfl) ?_
          refine WGo.s (WStep.iload a0_189 rfl) ?_
          refine WGo.s (WStep.iload a0_191 rfl) ?_
          refine WGo.callS a0_193 (ok3 hw _ _ _ _) (wd hw 9 rfl) (wd hw 10 rfl) (argsL := [.ref 0, .int 0, .int 5]) (S := []) (c3_05 hw _ _ x0 x1 x2 x3 x4 x5 _) rfl rfl rfl rfl rfl rfl (Nat.le_of_ble_eq_true rfl) (Nat.le_of_ble_eq_true rfl) ?_
          rintro _ _ _ ⟨⟨rfl, hM⟩ | ⟨rfl, hM⟩, rfl, rfl⟩
          · skip
            show WGo _ (196, [wI sel, wJ d1, wS, wJ d2, wS, wI s, wI l, wR 0, wI 0, wI 5, wI 5, wI 1], [.int 1], [(.inl (.char, [(.int x0), (.int x1), (.int x2), (.int x3), (.int x4), (.int x5)]))], 6) _
            refine WGo.s (WStep.iload a0_196 rfl) ?_
            refine WGo.s (WStep.icmpF a0_198 (by decide)) ?_
            refine WGo.s (WStep.iconst (1 : Int32) a0_201 rfl) ?_
            refine WGo.s (WStep.goto a0_202) ?_
            refine WGo.ireturn .boolean a0_206 rfl (by simp) ?_
            exact ⟨rfl, Nat.le_of_ble_eq_true rfl, Nat.le_of_ble_eq_true rfl⟩
          · exfalso
            simp_all
        · have hx1 : ¬ x1 = 93 := fun q => hA ⟨by decide, by decide, q⟩
          clear hA
          show WGo _ (125, [wI sel, wJ d1, wS, wJ d2, wS, wI s, wI l, wR 0, wI 0, wI 5, wI 5, wU], [.int 0], [(.inl (.char, [(.int x0), (.int x1), (.int x2), (.int x3), (.int x4), (.int x5)]))], 6) _
          refine WGo.s (WStep.ifF a0_125 (by decide)) ?_
          refine WGo.s (WStep.aload a0_128 rfl rfl) ?_
          refine WGo.s (WStep.iconst (2 : Int32) a0_130 rfl) ?_
          refine WGo.s (WStep.iload a0_131 rfl) ?_
          refine WGo.s (WStep.iload a0_133 rfl) ?_
          refine WGo.callS a0_135 (ok2 hw _ _ _ _) (wd hw 6 rfl) (wd hw 7 rfl) (argsL := [.ref 0, .int 2, .int 0, .int 5]) (S := []) (c2 hw _ _ x0 x1 x2 x3 x4 x5 2 0 5 x2 2 (by decide) rfl rfl _) rfl rfl rfl rfl rfl rfl (Nat.le_of_ble_eq_true rfl) (Nat.le_of_ble_eq_true rfl) ?_
          rintro _ _ _ ⟨⟨rfl, hA⟩ | ⟨rfl, hA⟩, rfl, rfl⟩
          · have hx2 := hA.2.2
            clear hA
            show WGo _ (138, [wI sel, wJ d1, wS, wJ d2, wS, wI s, wI l, wR 0, wI 0, wI 5, wI 5, wU], [.int 1], [(.inl (.char, [(.int x0), (.int x1), (.int x2), (.int x3), (.int x4), (.int x5)]))], 6) _
            refine WGo.s (WStep.ifT a0_138 (by decide)) ?_
            refine WGo.s (WStep.iconst (1 : Int32) a0_180 rfl) ?_
            refine WGo.s (WStep.goto a0_181) ?_
            refine WGo.s (WStep.istore (L' := [wI sel, wJ d1, wS, wJ d2, wS, wI s, wI l, wR 0, wI 0, wI 5, wI 5, wI 1]) a0_185 rfl) ?_
            refine WGo.s (WStep.aload a0_187 rfl rfl) ?_
            refine WGo.s (WStep.iload a0_189 rfl) ?_
            refine WGo.s (WStep.iload a0_191 rfl) ?_
            refine WGo.callS a0_193 (ok3 hw _ _ _ _) (wd hw 9 rfl) (wd hw 10 rfl) (argsL := [.ref 0, .int 0, .int 5]) (S := []) (c3_05 hw _ _ x0 x1 x2 x3 x4 x5 _) rfl rfl rfl rfl rfl rfl (Nat.le_of_ble_eq_true rfl) (Nat.le_of_ble_eq_true rfl) ?_
            rintro _ _ _ ⟨⟨rfl, hM⟩ | ⟨rfl, hM⟩, rfl, rfl⟩
            · skip
              show WGo _ (196, [wI sel, wJ d1, wS, wJ d2, wS, wI s, wI l, wR 0, wI 0, wI 5, wI 5, wI 1], [.int 1], [(.inl (.char, [(.int x0), (.int x1), (.int x2), (.int x3), (.int x4), (.int x5)]))], 6) _
              refine WGo.s (WStep.iload a0_196 rfl) ?_
              refine WGo.s (WStep.icmpF a0_198 (by decide)) ?_
              refine WGo.s (WStep.iconst (1 : Int32) a0_201 rfl) ?_
              refine WGo.s (WStep.goto a0_202) ?_
              refine WGo.ireturn .boolean a0_206 rfl (by simp) ?_
              exact ⟨rfl, Nat.le_of_ble_eq_true rfl, Nat.le_of_ble_eq_true rfl⟩
            · exfalso
              simp_all
          · have hx2 : ¬ x2 = 93 := fun q => hA ⟨by decide, by decide, q⟩
            clear hA
            show WGo _ (138, [wI sel, wJ d1, wS, wJ d2, wS, wI s, wI l, wR 0, wI 0, wI 5, wI 5, wU], [.int 0], [(.inl (.char, [(.int x0), (.int x1), (.int x2), (.int x3), (.int x4), (.int x5)]))], 6) _
            refine WGo.s (WStep.ifF a0_138 (by decide)) ?_
            refine WGo.s (WStep.aload a0_141 rfl rfl) ?_
            refine WGo.s (WStep.iconst (3 : Int32) a0_143 rfl) ?_
            refine WGo.s (WStep.iload a0_144 rfl) ?_
            refine WGo.s (WStep.iload a0_146 rfl) ?_
            refine WGo.callS a0_148 (ok2 hw _ _ _ _) (wd hw 6 rfl) (wd hw 7 rfl) (argsL := [.ref 0, .int 3, .int 0, .int 5]) (S := []) (c2 hw _ _ x0 x1 x2 x3 x4 x5 3 0 5 x3 3 (by decide) rfl rfl _) rfl rfl rfl rfl rfl rfl (Nat.le_of_ble_eq_true rfl) (Nat.le_of_ble_eq_true rfl) ?_
            rintro _ _ _ ⟨⟨rfl, hA⟩ | ⟨rfl, hA⟩, rfl, rfl⟩
            · have hx3 := hA.2.2
              clear hA
              show WGo _ (151, [wI sel, wJ d1, wS, wJ d2, wS, wI s, wI l, wR 0, wI 0, wI 5, wI 5, wU], [.int 1], [(.inl (.char, [(.int x0), (.int x1), (.int x2), (.int x3), (.int x4), (.int x5)]))], 6) _
              refine WGo.s (WStep.ifT a0_151 (by decide)) ?_
              refine WGo.s (WStep.iconst (1 : Int32) a0_180 rfl) ?_
              refine WGo.s (WStep.goto a0_181) ?_
              refine WGo.s (WStep.istore (L' := [wI sel, wJ d1, wS, wJ d2, wS, wI s, wI l, wR 0, wI 0, wI 5, wI 5, wI 1]) a0_185 rfl) ?_
              refine WGo.s (WStep.aload a0_187 rfl rfl) ?_
              refine WGo.s (WStep.iload a0_189 rfl) ?_
              refine WGo.s (WStep.iload a0_191 rfl) ?_
              refine WGo.callS a0_193 (ok3 hw _ _ _ _) (wd hw 9 rfl) (wd hw 10 rfl) (argsL := [.ref 0, .int 0, .int 5]) (S := []) (c3_05 hw _ _ x0 x1 x2 x3 x4 x5 _) rfl rfl rfl rfl rfl rfl (Nat.le_of_ble_eq_true rfl) (Nat.le_of_ble_eq_true rfl) ?_
              rintro _ _ _ ⟨⟨rfl, hM⟩ | ⟨rfl, hM⟩, rfl, rfl⟩
              · skip
                show WGo _ (196, [wI sel, wJ d1, wS, wJ d2, wS, wI s, wI l, wR 0, wI 0, wI 5, wI 5, wI 1], [.int 1], [(.inl (.char, [(.int x0), (.int x1), (.int x2), (.int x3), (.int x4), (.int x5)]))], 6) _
                refine WGo.s (WStep.iload a0_196 rfl) ?_
                refine WGo.s (WStep.icmpF a0_198 (by decide)) ?_
                refine WGo.s (WStep.iconst (1 : Int32) a0_201 rfl) ?_
                refine WGo.s (WStep.goto a0_202) ?_
                refine WGo.ireturn .boolean a0_206 rfl (by simp) ?_
                exact ⟨rfl, Nat.le_of_ble_eq_true rfl, Nat.le_of_ble_eq_true rfl⟩
              · exfalso
                simp_all
            · have hx3 : ¬ x3 = 93 := fun q => hA ⟨by decide, by decide, q⟩
              clear hA
              show WGo _ (151, [wI sel, wJ d1, wS, wJ d2, wS, wI s, wI l, wR 0, wI 0, wI 5, wI 5, wU], [.int 0], [(.inl (.char, [(.int x0), (.int x1), (.int x2), (.int x3), (.int x4), (.int x5)]))], 6) _
              refine WGo.s (WStep.ifF a0_151 (by decide)) ?_
              refine WGo.s (WStep.aload a0_154 rfl rfl) ?_
              refine WGo.s (WStep.iconst (4 : Int32) a0_156 rfl) ?_
              refine WGo.s (WStep.iload a0_157 rfl) ?_
              refine WGo.s (WStep.iload a0_159 rfl) ?_
              refine WGo.callS a0_161 (ok2 hw _ _ _ _) (wd hw 6 rfl) (wd hw 7 rfl) (argsL := [.ref 0, .int 4, .int 0, .int 5]) (S := []) (c2 hw _ _ x0 x1 x2 x3 x4 x5 4 0 5 x4 4 (by decide) rfl rfl _) rfl rfl rfl rfl rfl rfl (Nat.le_of_ble_eq_true rfl) (Nat.le_of_ble_eq_true rfl) ?_
              rintro _ _ _ ⟨⟨rfl, hA⟩ | ⟨rfl, hA⟩, rfl, rfl⟩
              · exact absurd hA.2.1 (by decide)
              · clear hA
                show WGo _ (164, [wI sel, wJ d1, wS, wJ d2, wS, wI s, wI l, wR 0, wI 0, wI 5, wI 5, wU], [.int 0], [(.inl (.char, [(.int x0), (.int x1), (.int x2), (.int x3), (.int x4), (.int x5)]))], 6) _
                refine WGo.s (WStep.ifF a0_164 (by decide)) ?_
                refine WGo.s (WStep.aload a0_167 rfl rfl) ?_
                refine WGo.s (WStep.iconst (5 : Int32) a0_169 rfl) ?_
                refine WGo.s (WStep.iload a0_170 rfl) ?_
                refine WGo.s (WStep.iload a0_172 rfl) ?_
                refine WGo.callS a0_174 (ok2 hw _ _ _ _) (wd hw 6 rfl) (wd hw 7 rfl) (argsL := [.ref 0, .int 5, .int 0, .int 5]) (S := []) (c2 hw _ _ x0 x1 x2 x3 x4 x5 5 0 5 x5 5 (by decide) rfl rfl _) rfl rfl rfl rfl rfl rfl (Nat.le_of_ble_eq_true rfl) (Nat.le_of_ble_eq_true rfl) ?_
                rintro _ _ _ ⟨⟨rfl, hA⟩ | ⟨rfl, hA⟩, rfl, rfl⟩
                · exact absurd hA.2.1 (by decide)
                · clear hA
                  show WGo _ (177, [wI sel, wJ d1, wS, wJ d2, wS, wI s, wI l, wR 0, wI 0, wI 5, wI 5, wU], [.int 0], [(.inl (.char, [(.int x0), (.int x1), (.int x2), (.int x3), (.int x4), (.int x5)]))], 6) _
                  refine WGo.s (WStep.ifT a0_177 (by decide)) ?_
                  refine WGo.s (WStep.iconst (0 : Int32) a0_184 rfl) ?_
                  refine WGo.s (WStep.istore (L' := [wI sel, wJ d1, wS, wJ d2, wS, wI s, wI l, wR 0, wI 0, wI 5, wI 5, wI 0]) a0_185 rfl) ?_
                  refine WGo.s (WStep.aload a0_187 rfl rfl) ?_
                  refine WGo.s (WStep.iload a0_189 rfl) ?_
                  refine WGo.s (WStep.iload a0_191 rfl) ?_
                  refine WGo.callS a0_193 (ok3 hw _ _ _ _) (wd hw 9 rfl) (wd hw 10 rfl) (argsL := [.ref 0, .int 0, .int 5]) (S := []) (c3_05 hw _ _ x0 x1 x2 x3 x4 x5 _) rfl rfl rfl rfl rfl rfl (Nat.le_of_ble_eq_true rfl) (Nat.le_of_ble_eq_true rfl) ?_
                  rintro _ _ _ ⟨⟨rfl, hM⟩ | ⟨rfl, hM⟩, rfl, rfl⟩
                  · exfalso
                    simp_all
                  · skip
                    show WGo _ (196, [wI sel, wJ d1, wS, wJ d2, wS, wI s, wI l, wR 0, wI 0, wI 5, wI 5, wI 0], [.int 0], [(.inl (.char, [(.int x0), (.int x1), (.int x2), (.int x3), (.int x4), (.int x5)]))], 6) _
                    refine WGo.s (WStep.iload a0_196 rfl) ?_
                    refine WGo.s (WStep.icmpF a0_198 (by decide)) ?_
                    refine WGo.s (WStep.iconst (1 : Int32) a0_201 rfl) ?_
                    refine WGo.s (WStep.goto a0_202) ?_
                    refine WGo.ireturn .boolean a0_206 rfl (by simp) ?_
                    exact ⟨rfl, Nat.le_of_ble_eq_true rfl, Nat.le_of_ble_eq_true rfl⟩
    · show WGo _ (93, [wI sel, wJ d1, wS, wJ d2, wS, wI s, wI l, wR 0, wI 0, wU, wU, wU], [.int 6], [(.inl (.char, [(.int x0), (.int x1), (.int x2), (.int x3), (.int x4), (.int x5)]))], 6) _
      refine WGo.s (WStep.istore (L' := [wI sel, wJ d1, wS, wJ d2, wS, wI s, wI l, wR 0, wI 0, wI 6, wU, wU]) a0_93 rfl) ?_
      refine WGo.s (WStep.iload a0_95 rfl) ?_
      refine WGo.s (WStep.iload a0_97 rfl) ?_
      refine WGo.s (WStep.iadd a0_99) ?_
      show WGo _ (100, [wI sel, wJ d1, wS, wJ d2, wS, wI s, wI l, wR 0, wI 0, wI 6, wU, wU], [.int 6], [(.inl (.char, [(.int x0), (.int x1), (.int x2), (.int x3), (.int x4), (.int x5)]))], 6) _
      refine WGo.s (WStep.istore (L' := [wI sel, wJ d1, wS, wJ d2, wS, wI s, wI l, wR 0, wI 0, wI 6, wI 6, wU]) a0_100 rfl) ?_
      refine WGo.s (WStep.aload a0_102 rfl rfl) ?_
      refine WGo.s (WStep.iconst (0 : Int32) a0_104 rfl) ?_
      refine WGo.s (WStep.iload a0_105 rfl) ?_
      refine WGo.s (WStep.iload a0_107 rfl) ?_
      refine WGo.callS a0_109 (ok2 hw _ _ _ _) (wd hw 6 rfl) (wd hw 7 rfl) (argsL := [.ref 0, .int 0, .int 0, .int 6]) (S := []) (c2 hw _ _ x0 x1 x2 x3 x4 x5 0 0 6 x0 0 (by decide) rfl rfl _) rfl rfl rfl rfl rfl rfl (Nat.le_of_ble_eq_true rfl) (Nat.le_of_ble_eq_true rfl) ?_
      rintro _ _ _ ⟨⟨rfl, hA⟩ | ⟨rfl, hA⟩, rfl, rfl⟩
      · have hx0 := hA.2.2
        clear hA
        show WGo _ (112, [wI sel, wJ d1, wS, wJ d2, wS, wI s, wI l, wR 0, wI 0, wI 6, wI 6, wU], [.int 1], [(.inl (.char, [(.int x0), (.int x1), (.int x2), (.int x3), (.int x4), (.int x5)]))], 6) _
        refine WGo.s (WStep.ifT a0_112 (by decide)) ?_
        refine WGo.s (WStep.iconst (1 : Int32) a0_180 rfl) ?_
        refine WGo.s (WStep.goto a0_181) ?_
        refine WGo.s (WStep.istore (L' := [wI sel, wJ d1, wS, wJ d2, wS, wI s, wI l, wR 0, wI 0, wI 6, wI 6, wI 1]) a0_185 rfl) ?_
        refine WGo.s (WStep.aload a0_187 rfl rfl) ?_
        refine WGo.s (WStep.iload a0_189 rfl) ?_
        refine WGo.s (WStep.iload a0_191 rfl) ?_
        refine WGo.callS a0_193 (ok3 hw _ _ _ _) (wd hw 9 rfl) (wd hw 10 rfl) (argsL := [.ref 0, .int 0, .int 6]) (S := []) (c3_06 hw _ _ x0 x1 x2 x3 x4 x5 _) rfl rfl rfl rfl rfl rfl (Nat.le_of_ble_eq_true rfl) (Nat.le_of_ble_eq_true rfl) ?_
        rintro _ _ _ ⟨⟨rfl, hM⟩ | ⟨rfl, hM⟩, rfl, rfl⟩
        · skip
          show WGo _ (196, [wI sel, wJ d1, wS, wJ d2, wS, wI s, wI l, wR 0, wI 0, wI 6, wI 6, wI 1], [.int 1], [(.inl (.char, [(.int x0), (.int x1), (.int x2), (.int x3), (.int x4), (.int x5)]))], 6) _
          refine WGo.s (WStep.iload a0_196 rfl) ?_
          refine WGo.s (WStep.icmpF a0_198 (by decide)) ?_
          refine WGo.s (WStep.iconst (1 : Int32) a0_201 rfl) ?_
          refine WGo.s (WStep.goto a0_202) ?_
          refine WGo.ireturn .boolean a0_206 rfl (by simp) ?_
          exact ⟨rfl, Nat.le_of_ble_eq_true rfl, Nat.le_of_ble_eq_true rfl⟩
        · exfalso
          simp_all
      · have hx0 : ¬ x0 = 93 := fun q => hA ⟨by decide, by decide, q⟩
        clear hA
        show WGo _ (112, [wI sel, wJ d1, wS, wJ d2, wS, wI s, wI l, wR 0, wI 0, wI 6, wI 6, wU], [.int 0], [(.inl (.char, [(.int x0), (.int x1), (.int x2), (.int x3), (.int x4), (.int x5)]))], 6) _
        refine WGo.s (WStep.ifF a0_112 (by decide)) ?_
        refine WGo.s (WStep.aload a0_115 rfl rfl) ?_
        refine WGo.s (WStep.iconst (1 : Int32) a0_117 rfl) ?_
        refine WGo.s (WStep.iload a0_118 rfl) ?_
        refine WGo.s (WStep.iload a0_120 rfl) ?_
        refine WGo.callS a0_122 (ok2 hw _ _ _ _) (wd hw 6 rfl) (wd hw 7 rfl) (argsL := [.ref 0, .int 1, .int 0, .int 6]) (S := []) (c2 hw _ _ x0 x1 x2 x3 x4 x5 1 0 6 x1 1 (by decide) rfl rfl _) rfl rfl rfl rfl rfl rfl (Nat.le_of_ble_eq_true rfl) (Nat.le_of_ble_eq_true rfl) ?_
        rintro _ _ _ ⟨⟨rfl, hA⟩ | ⟨rfl, hA⟩, rfl, rfl⟩
        · have hx1 := hA.2.2
          clear hA
          show WGo _ (125, [wI sel, wJ d1, wS, wJ d2, wS, wI s, wI l, wR 0, wI 0, wI 6, wI 6, wU], [.int 1], [(.inl (.char, [(.int x0), (.int x1), (.int x2), (.int x3), (.int x4), (.int x5)]))], 6) _
          refine WGo.s (WStep.ifT a0_125 (by decide)) ?_
          refine WGo.s (WStep.iconst (1 : Int32) a0_180 rfl) ?_
          refine WGo.s (WStep.goto a0_181) ?_
          refine WGo.s (WStep.istore (L' := [wI sel, wJ d1, wS, wJ d2, wS, wI s, wI l, wR 0, wI 0, wI 6, wI 6, wI 1]) a0_185 rfl) ?_
          refine WGo.s (WStep.aload a0_187 rfl rfl) ?_
          refine WGo.s (WStep.iload a0_189 rfl) ?_
          refine WGo.s (WStep.iload a0_191 rfl) ?_
          refine WGo.callS a0_193 (ok3 hw _ _ _ _) (wd hw 9 rfl) (wd hw 10 rfl) (argsL := [.ref 0, .int 0, .int 6]) (S := []) (c3_06 hw _ _ x0 x1 x2 x3 x4 x5 _) rfl rfl rfl rfl rfl rfl (Nat.le_of_ble_eq_true rfl) (Nat.le_of_ble_eq_true rfl) ?_
          rintro _ _ _ ⟨⟨rfl, hM⟩ | ⟨rfl, hM⟩, rfl, rfl⟩
          · skip
            show WGo _ (196, [wI sel, wJ d1, wS, wJ d2, wS, wI s, wI l, wR 0, wI 0, wI 6, wI 6, wI 1], [.int 1], [(.inl (.char, [(.int x0), (.int x1), (.int x2), (.int x3), (.int x4), (.int x5)]))], 6) _
            refine WGo.s (WStep.iload a0_196 rfl) ?_
            refine WGo.s (WStep.icmpF a0_198 (by decide)) ?_
            refine WGo.s (WStep.iconst (1 : Int32) a0_201 rfl) ?_
            refine WGo.s (WStep.goto a0_202) ?_
            refine WGo.ireturn .boolean a0_206 rfl (by simp) ?_
            exact ⟨rfl, Nat.le_of_ble_eq_true rfl, Nat.le_of_ble_eq_true rfl⟩
          · exfalso
            simp_all
        · have hx1 : ¬ x1 = 93 := fun q => hA ⟨by decide, by decide, q⟩
          clear hA
          show WGo _ (125, [wI sel, wJ d1, wS, wJ d2, wS, wI s, wI l, wR 0, wI 0, wI 6, wI 6, wU], [.int 0], [(.inl (.char, [(.int x0), (.int x1), (.int x2), (.int x3), (.int x4), (.int x5)]))], 6) _
          refine WGo.s (WStep.ifF a0_125 (by decide)) ?_
          refine WGo.s (WStep.aload a0_128 rfl rfl) ?_
          refine WGo.s (WStep.iconst (2 : Int32) a0_130 rfl) ?_
          refine WGo.s (WStep.iload a0_131 rfl) ?_
          refine WGo.s (WStep.iload a0_133 rfl) ?_
          refine WGo.callS a0_135 (ok2 hw _ _ _ _) (wd hw 6 rfl) (wd hw 7 rfl) (argsL := [.ref 0, .int 2, .int 0, .int 6]) (S := []) (c2 hw _ _ x0 x1 x2 x3 x4 x5 2 0 6 x2 2 (by decide) rfl rfl _) rfl rfl rfl rfl rfl rfl (Nat.le_of_ble_eq_true rfl) (Nat.le_of_ble_eq_true rfl) ?_
          rintro _ _ _ ⟨⟨rfl, hA⟩ | ⟨rfl, hA⟩, rfl, rfl⟩
          · have hx2 := hA.2.2
            clear hA
            show WGo _ (138, [wI sel, wJ d1, wS, wJ d2, wS, wI s, wI l, wR 0, wI 0, wI 6, wI 6, wU], [.int 1], [(.inl (.char, [(.int x0), (.int x1), (.int x2), (.int x3), (.int x4), (.int x5)]))], 6) _
            refine WGo.s (WStep.ifT a0_138 (by decide)) ?_
            refine WGo.s (WStep.iconst (1 : Int32) a0_180 rfl) ?_
            refine WGo.s (WStep.goto a0_181) ?_
            refine WGo.s (WStep.istore (L' := [wI sel, wJ d1, wS, wJ d2, wS, wI s, wI l, wR 0, wI 0, wI 6, wI 6, wI 1]) a0_185 rfl) ?_
            refine WGo.s (WStep.aload a0_187 rfl rfl) ?_
            refine WGo.s (WStep.iload a0_189 rfl) ?_
            refine WGo.s (WStep.iload a0_191 rfl) ?_
            refine WGo.callS a0_193 (ok3 hw _ _ _ _) (wd hw 9 rfl) (wd hw 10 rfl) (argsL := [.ref 0, .int 0, .int 6]) (S := []) (c3_06 hw _ _ x0 x1 x2 x3 x4 x5 _) rfl rfl rfl rfl rfl rfl (Nat.le_of_ble_eq_true rfl) (Nat.le_of_ble_eq_true rfl) ?_
            rintro _ _ _ ⟨⟨rfl, hM⟩ | ⟨rfl, hM⟩, rfl, rfl⟩
            · skip
              show WGo _ (196, [wI sel, wJ d1, wS, wJ d2, wS, wI s, wI l, wR 0, wI 0, wI 6, wI 6, wI 1], [.int 1], [(.inl (.char, [(.int x0), (.int x1), (.int x2), (.int x3), (.int x4), (.int x5)]))], 6) _
              refine WGo.s (WStep.iload a0_196 rfl) ?_
              refine WGo.s (WStep.icmpF a0_198 (by decide)) ?_
              refine WGo.s (WStep.iconst (1 : Int32) a0_201 rfl) ?_
              refine WGo.s (WStep.goto a0_202) ?_
              refine WGo.ireturn .boolean a0_206 rfl (by simp) ?_
              exact ⟨rfl, Nat.le_of_ble_eq_true rfl, Nat.le_of_ble_eq_true rfl⟩
            · exfalso
              simp_all
          · have hx2 : ¬ x2 = 93 := fun q => hA ⟨by decide, by decide, q⟩
            clear hA
            show WGo _ (138, [wI sel, wJ d1, wS, wJ d2, wS, wI s, wI l, wR 0, wI 0, wI 6, wI 6, wU], [.int 0], [(.inl (.char, [(.int x0), (.int x1), (.int x2), (.int x3), (.int x4), (.int x5)]))], 6) _
            refine WGo.s (WStep.ifF a0_138 (by decide)) ?_
            refine WGo.s (WStep.aload a0_141 rfl rfl) ?_
            refine WGo.s (WStep.iconst (3 : Int32) a0_143 rfl) ?_
            refine WGo.s (WStep.iload a0_144 rfl) ?_
            refine WGo.s (WStep.iload a0_146 rfl) ?_
            refine WGo.callS a0_148 (ok2 hw _ _ _ _) (wd hw 6 rfl) (wd hw 7 rfl) (argsL := [.ref 0, .int 3, .int 0, .int 6]) (S := []) (c2 hw _ _ x0 x1 x2 x3 x4 x5 3 0 6 x3 3 (by decide) rfl rfl _) rfl rfl rfl rfl rfl rfl (Nat.le_of_ble_eq_true rfl) (Nat.le_of_ble_eq_true rfl) ?_
            rintro _ _ _ ⟨⟨rfl, hA⟩ | ⟨rfl, hA⟩, rfl, rfl⟩
            · have hx3 := hA.2.2
              clear hA
              show WGo _ (151, [wI sel, wJ d1, wS, wJ d2, wS, wI s, wI l, wR 0, wI 0, wI 6, wI 6, wU], [.int 1], [(.inl (.char, [(.int x0), (.int x1), (.int x2), (.int x3), (.int x4), (.int x5)]))], 6) _
              refine WGo.s (WStep.ifT a0_151 (by decide)) ?_
              refine WGo.s (WStep.iconst (1 : Int32) a0_180 rfl) ?_
              refine WGo.s (WStep.goto a0_181) ?_
              refine WGo.s (WStep.istore (L' := [wI sel, wJ d1, wS, wJ d2, wS, wI s, wI l, wR 0, wI 0, wI 6, wI 6, wI 1]) a0_185 rfl) ?_
              refine WGo.s (WStep.aload a0_187 rfl rfl) ?_
              refine WGo.s (WStep.iload a0_189 rfl) ?_
              refine WGo.s (WStep.iload a0_191 rfl) ?_
              refine WGo.callS a0_193 (ok3 hw _ _ _ _) (wd hw 9 rfl) (wd hw 10 rfl) (argsL := [.ref 0, .int 0, .int 6]) (S := []) (c3_06 hw _ _ x0 x1 x2 x3 x4 x5 _) rfl rfl rfl rfl rfl rfl (Nat.le_of_ble_eq_true rfl) (Nat.le_of_ble_eq_true rfl) ?_
              rintro _ _ _ ⟨⟨rfl, hM⟩ | ⟨rfl, hM⟩, rfl, rfl⟩
              · skip
                show WGo _ (196, [wI sel, wJ d1, wS, wJ d2, wS, wI s, wI l, wR 0, wI 0, wI 6, wI 6, wI 1], [.int 1], [(.inl (.char, [(.int x0), (.int x1), (.int x2), (.int x3), (.int x4), (.int x5)]))], 6) _
                refine WGo.s (WStep.iload a0_196 rfl) ?_
                refine WGo.s (WStep.icmpF a0_198 (by decide)) ?_
                refine WGo.s (WStep.iconst (1 : Int32) a0_201 rfl) ?_
                refine WGo.s (WStep.goto a0_202) ?_
                refine WGo.ireturn .boolean a0_206 rfl (by simp) ?_
                exact ⟨rfl, Nat.le_of_ble_eq_true rfl, Nat.le_of_ble_eq_true rfl⟩
              · exfalso
                simp_all
            · have hx3 : ¬ x3 = 93 := fun q => hA ⟨by decide, by decide, q⟩
              clear hA
              show WGo _ (151, [wI sel, wJ d1, wS, wJ d2, wS, wI s, wI l, wR 0, wI 0, wI 6, wI 6, wU], [.int 0], [(.inl (.char, [(.int x0), (.int x1), (.int x2), (.int x3), (.int x4), (.int x5)]))], 6) _
              refine WGo.s (WStep.ifF a0_151 (by decide)) ?_
              refine WGo.s (WStep.aload a0_154 rfl rfl) ?_
              refine WGo.s (WStep.iconst (4 : Int32) a0_156 rfl) ?_
              refine WGo.s (WStep.iload a0_157 rfl) ?_
              refine WGo.s (WStep.iload a0_159 rfl) ?_
              refine WGo.callS a0_161 (ok2 hw _ _ _ _) (wd hw 6 rfl) (wd hw 7 rfl) (argsL := [.ref 0, .int 4, .int 0, .int 6]) (S := []) (c2 hw _ _ x0 x1 x2 x3 x4 x5 4 0 6 x4 4 (by decide) rfl rfl _) rfl rfl rfl rfl rfl rfl (Nat.le_of_ble_eq_true rfl) (Nat.le_of_ble_eq_true rfl) ?_
              rintro _ _ _ ⟨⟨rfl, hA⟩ | ⟨rfl, hA⟩, rfl, rfl⟩
              · have hx4 := hA.2.2
                clear hA
                show WGo _ (164, [wI sel, wJ d1, wS, wJ d2, wS, wI s, wI l, wR 0, wI 0, wI 6, wI 6, wU], [.int 1], [(.inl (.char, [(.int x0), (.int x1), (.int x2), (.int x3), (.int x4), (.int x5)]))], 6) _
                refine WGo.s (WStep.ifT a0_164 (by decide)) ?_
                refine WGo.s (WStep.iconst (1 : Int32) a0_180 rfl) ?_
                refine WGo.s (WStep.goto a0_181) ?_
                refine WGo.s (WStep.istore (L' := [wI sel, wJ d1, wS, wJ d2, wS, wI s, wI l, wR 0, wI 0, wI 6, wI 6, wI 1]) a0_185 rfl) ?_
                refine WGo.s (WStep.aload a0_187 rfl rfl) ?_
                refine WGo.s (WStep.iload a0_189 rfl) ?_
                refine WGo.s (WStep.iload a0_191 rfl) ?_
                refine WGo.callS a0_193 (ok3 hw _ _ _ _) (wd hw 9 rfl) (wd hw 10 rfl) (argsL := [.ref 0, .int 0, .int 6]) (S := []) (c3_06 hw _ _ x0 x1 x2 x3 x4 x5 _) rfl rfl rfl rfl rfl rfl (Nat.le_of_ble_eq_true rfl) (Nat.le_of_ble_eq_true rfl) ?_
                rintro _ _ _ ⟨⟨rfl, hM⟩ | ⟨rfl, hM⟩, rfl, rfl⟩
                · skip
                  show WGo _ (196, [wI sel, wJ d1, wS, wJ d2, wS, wI s, wI l, wR 0, wI 0, wI 6, wI 6, wI 1], [.int 1], [(.inl (.char, [(.int x0), (.int x1), (.int x2), (.int x3), (.int x4), (.int x5)]))], 6) _
                  refine WGo.s (WStep.iload a0_196 rfl) ?_
                  refine WGo.s (WStep.icmpF a0_198 (by decide)) ?_
                  refine WGo.s (WStep.iconst (1 : Int32) a0_201 rfl) ?_
                  refine WGo.s (WStep.goto a0_202) ?_
                  refine WGo.ireturn .boolean a0_206 rfl (by simp) ?_
                  exact ⟨rfl, Nat.le_of_ble_eq_true rfl, Nat.le_of_ble_eq_true rfl⟩
                · exfalso
                  simp_all
              · have hx4 : ¬ x4 = 93 := fun q => hA ⟨by decide, by decide, q⟩
                clear hA
                show WGo _ (164, [wI sel, wJ d1, wS, wJ d2, wS, wI s, wI l, wR 0, wI 0, wI 6, wI 6, wU], [.int 0], [(.inl (.char, [(.int x0), (.int x1), (.int x2), (.int x3), (.int x4), (.int x5)]))], 6) _
                refine WGo.s (WStep.ifF a0_164 (by decide)) ?_
                refine WGo.s (WStep.aload a0_167 rfl rfl) ?_
                refine WGo.s (WStep.iconst (5 : Int32) a0_169 rfl) ?_
                refine WGo.s (WStep.iload a0_170 rfl) ?_
                refine WGo.s (WStep.iload a0_172 rfl) ?_
                refine WGo.callS a0_174 (ok2 hw _ _ _ _) (wd hw 6 rfl) (wd hw 7 rfl) (argsL := [.ref 0, .int 5, .int 0, .int 6]) (S := []) (c2 hw _ _ x0 x1 x2 x3 x4 x5 5 0 6 x5 5 (by decide) rfl rfl _) rfl rfl rfl rfl rfl rfl (Nat.le_of_ble_eq_true rfl) (Nat.le_of_ble_eq_true rfl) ?_
                rintro _ _ _ ⟨⟨rfl, hA⟩ | ⟨rfl, hA⟩, rfl, rfl⟩
                · exact absurd hA.2.1 (by decide)
                · clear hA
                  show WGo _ (177, [wI sel, wJ d1, wS, wJ d2, wS, wI s, wI l, wR 0, wI 0, wI 6, wI 6, wU], [.int 0], [(.inl (.char, [(.int x0), (.int x1), (.int x2), (.int x3), (.int x4), (.int x5)]))], 6) _
                  refine WGo.s (WStep.ifT a0_177 (by decide)) ?_
                  refine WGo.s (WStep.iconst (0 : Int32) a0_184 rfl) ?_
                  refine WGo.s (WStep.istore (L' := [wI sel, wJ d1, wS, wJ d2, wS, wI s, wI l, wR 0, wI 0, wI 6, wI 6, wI 0]) a0_185 rfl) ?_
                  refine WGo.s (WStep.aload a0_187 rfl rfl) ?_
                  refine WGo.s (WStep.iload a0_189 rfl) ?_
                  refine WGo.s (WStep.iload a0_191 rfl) ?_
                  refine WGo.callS a0_193 (ok3 hw _ _ _ _) (wd hw 9 rfl) (wd hw 10 rfl) (argsL := [.ref 0, .int 0, .int 6]) (S := []) (c3_06 hw _ _ x0 x1 x2 x3 x4 x5 _) rfl rfl rfl rfl rfl rfl (Nat.le_of_ble_eq_true rfl) (Nat.le_of_ble_eq_true rfl) ?_
                  rintro _ _ _ ⟨⟨rfl, hM⟩ | ⟨rfl, hM⟩, rfl, rfl⟩
                  · exfalso
                    simp_all
                  · skip
                    show WGo _ (196, [wI sel, wJ d1, wS, wJ d2, wS, wI s, wI l, wR 0, wI 0, wI 6, wI 6, wI 0], [.int 0], [(.inl (.char, [(.int x0), (.int x1), (.int x2), (.int x3), (.int x4), (.int x5)]))], 6) _
                    refine WGo.s (WStep.iload a0_196 rfl) ?_
                    refine WGo.s (WStep.icmpF a0_198 (by decide)) ?_
                    refine WGo.s (WStep.iconst (1 : Int32) a0_201 rfl) ?_
                    refine WGo.s (WStep.goto a0_202) ?_
                    refine WGo.ireturn .boolean a0_206 rfl (by simp) ?_
                    exact ⟨rfl, Nat.le_of_ble_eq_true rfl, Nat.le_of_ble_eq_true rfl⟩
  · show WGo _ (80, [wI sel, wJ d1, wS, wJ d2, wS, wI s, wI l, wR 0, wU, wU, wU, wU], [.int 1], [(.inl (.char, [(.int x0), (.int x1), (.int x2), (.int x3), (.int x4), (.int x5)]))], 6) _
    refine WGo.s (WStep.istore (L' := [wI sel, wJ d1, wS, wJ d2, wS, wI s, wI l, wR 0, wI 1, wU, wU, wU]) a0_80 rfl) ?_
    refine WGo.s (WStep.iload a0_82 rfl) ?_
    refine WGo.s (WStep.ldc a0_84 (wd hw 5 rfl)) ?_
    refine WGo.s (WStep.iand a0_86) ?_
    refine WGo.s (WStep.bipush (7 : Int32) a0_87 rfl) ?_
    refine WGo.s (WStep.iload a0_89 rfl) ?_
    refine WGo.s (WStep.isub a0_91) ?_
    show WGo _ (92, [wI sel, wJ d1, wS, wJ d2, wS, wI s, wI l, wR 0, wI 1, wU, wU, wU], [.int 6, (.int (l &&& (2147483647 : Int32)))], [(.inl (.char, [(.int x0), (.int x1), (.int x2), (.int x3), (.int x4), (.int x5)]))], 6) _
    refine WGo.s (WStep.irem a0_92 (by decide)) ?_
    generalize hg_m : ((l &&& (2147483647 : Int32)) % (6 : Int32)) = m
    have hm := remx _ _ _ hg_m (by decide)
    have hs : m = 0 ∨ m = 1 ∨ m = 2 ∨ m = 3 ∨ m = 4 ∨ m = 5 := by
      have e7 : (6 : Int32).toInt = 6 := rfl
      simp only [← Int32.toInt_inj, Int32.reduceToInt] at *
      omega
    rcases hs with rfl | rfl | rfl | rfl | rfl | rfl
    · show WGo _ (93, [wI sel, wJ d1, wS, wJ d2, wS, wI s, wI l, wR 0, wI 1, wU, wU, wU], [.int 0], [(.inl (.char, [(.int x0), (.int x1), (.int x2), (.int x3), (.int x4), (.int x5)]))], 6) _
      refine WGo.s (WStep.istore (L' := [wI sel, wJ d1, wS, wJ d2, wS, wI s, wI l, wR 0, wI 1, wI 0, wU, wU]) a0_93 rfl) ?_
      refine WGo.s (WStep.iload a0_95 rfl) ?_
      refine WGo.s (WStep.iload a0_97 rfl) ?_
      refine WGo.s (WStep.iadd a0_99) ?_
      show WGo _ (100, [wI sel, wJ d1, wS, wJ d2, wS, wI s, wI l, wR 0, wI 1, wI 0, wU, wU], [.int 1], [(.inl (.char, [(.int x0), (.int x1), (.int x2), (.int x3), (.int x4), (.int x5)]))], 6) _
      refine WGo.s (WStep.istore (L' := [wI sel, wJ d1, wS, wJ d2, wS, wI s, wI l, wR 0, wI 1, wI 0, wI 1, wU]) a0_100 rfl) ?_
      refine WGo.s (WStep.aload a0_102 rfl rfl) ?_
      refine WGo.s (WStep.iconst (0 : Int32) a0_104 rfl) ?_
      refine WGo.s (WStep.iload a0_105 rfl) ?_
      refine WGo.s (WStep.iload a0_107 rfl) ?_
      refine WGo.callS a0_109 (ok2 hw _ _ _ _) (wd hw 6 rfl) (wd hw 7 rfl) (argsL := [.ref 0, .int 0, .int 1, .int 1]) (S := []) (c2 hw _ _ x0 x1 x2 x3 x4 x5 0 1 1 x0 0 (by decide) rfl rfl _) rfl rfl rfl rfl rfl rfl (Nat.le_of_ble_eq_true rfl) (Nat.le_of_ble_eq_true rfl) ?_
      rintro _ _ _ ⟨⟨rfl, hA⟩ | ⟨rfl, hA⟩, rfl, rfl⟩
      · exact absurd (by decide) hA.1
      · clear hA
        show WGo _ (112, [wI sel, wJ d1, wS, wJ d2, wS, wI s, wI l, wR 0, wI 1, wI 0, wI 1, wU], [.int 0], [(.inl (.char, [(.int x0), (.int x1), (.int x2), (.int x3), (.int x4), (.int x5)]))], 6) _
        refine WGo.s (WStep.ifF a0_112 (by decide)) ?_
        refine WGo.s (WStep.aload a0_115 rfl rfl) ?_
        refine WGo.s (WStep.iconst (1 : Int32) a0_117 rfl) ?_
        refine WGo.s (WStep.iload a0_118 rfl) ?_
        refine WGo.s (WStep.iload a0_120 rfl) ?_
        refine WGo.callS a0_122 (ok2 hw _ _ _ _) (wd hw 6 rfl) (wd hw 7 rfl) (argsL := [.ref 0, .int 1, .int 1, .int 1]) (S := []) (c2 hw _ _ x0 x1 x2 x3 x4 x5 1 1 1 x1 1 (by decide) rfl rfl _) rfl rfl rfl rfl rfl rfl (Nat.le_of_ble_eq_true rfl) (Nat.le_of_ble_eq_true rfl) ?_
        rintro _ _ _ ⟨⟨rfl, hA⟩ | ⟨rfl, hA⟩, rfl, rfl⟩
        · exact absurd hA.2.1 (by decide)
        · clear hA
          show WGo _ (125, [wI sel, wJ d1, wS, wJ d2, wS, wI s, wI l, wR 0, wI 1, wI 0, wI 1, wU], [.int 0], [(.inl (.char, [(.int x0), (.int x1), (.int x2), (.int x3), (.int x4), (.int x5)]))], 6) _
          refine WGo.s (WStep.ifF a0_125 (by decide)) ?_
          refine WGo.s (WStep.aload a0_128 rfl rfl) ?_
          refine WGo.s (WStep.iconst (2 : Int32) a0_130 rfl) ?_
          refine WGo.s (WStep.iload a0_131 rfl) ?_
          refine WGo.s (WStep.iload a0_133 rfl) ?_
          refine WGo.callS a0_135 (ok2 hw _ _ _ _) (wd hw 6 rfl) (wd hw 7 rfl) (argsL := [.ref 0, .int 2, .int 1, .int 1]) (S := []) (c2 hw _ _ x0 x1 x2 x3 x4 x5 2 1 1 x2 2 (by decide) rfl rfl _) rfl rfl rfl rfl rfl rfl (Nat.le_of_ble_eq_true rfl) (Nat.le_of_ble_eq_true rfl) ?_
          rintro _ _ _ ⟨⟨rfl, hA⟩ | ⟨rfl, hA⟩, rfl, rfl⟩
          · exact absurd hA.2.1 (by decide)
          · clear hA
            show WGo _ (138, [wI sel, wJ d1, wS, wJ d2, wS, wI s, wI l, wR 0, wI 1, wI 0, wI 1, wU], [.int 0], [(.inl (.char, [(.int x0), (.int x1), (.int x2), (.int x3), (.int x4), (.int x5)]))], 6) _
            refine WGo.s (WStep.ifF a0_138 (by decide)) ?_
            refine WGo.s (WStep.aload a0_141 rfl rfl) ?_
            refine WGo.s (WStep.iconst (3 : Int32) a0_143 rfl) ?_
            refine WGo.s (WStep.iload a0_144 rfl) ?_
            refine WGo.s (WStep.iload a0_146 rfl) ?_
            refine WGo.callS a0_148 (ok2 hw _ _ _ _) (wd hw 6 rfl) (wd hw 7 rfl) (argsL := [.ref 0, .int 3, .int 1, .int 1]) (S := []) (c2 hw _ _ x0 x1 x2 x3 x4 x5 3 1 1 x3 3 (by decide) rfl rfl _) rfl rfl rfl rfl rfl rfl (Nat.le_of_ble_eq_true rfl) (Nat.le_of_ble_eq_true rfl) ?_
            rintro _ _ _ ⟨⟨rfl, hA⟩ | ⟨rfl, hA⟩, rfl, rfl⟩
            · exact absurd hA.2.1 (by decide)
            · clear hA
              show WGo _ (151, [wI sel, wJ d1, wS, wJ d2, wS, wI s, wI l, wR 0, wI 1, wI 0, wI 1, wU], [.int 0], [(.inl (.char, [(.int x0), (.int x1), (.int x2), (.int x3), (.int x4), (.int x5)]))], 6) _
              refine WGo.s (WStep.ifF a0_151 (by decide)) ?_
              refine WGo.s (WStep.aload a0_154 rfl rfl) ?_
              refine WGo.s (WStep.iconst (4 : Int32) a0_156 rfl) ?_
              refine WGo.s (WStep.iload a0_157 rfl) ?_
              refine WGo.s (WStep.iload a0_159 rfl) ?_
              refine WGo.callS a0_161 (ok2 hw _ _ _ _) (wd hw 6 rfl) (wd hw 7 rfl) (argsL := [.ref 0, .int 4, .int 1, .int 1]) (S := []) (c2 hw _ _ x0 x1 x2 x3 x4 x5 4 1 1 x4 4 (by decide) rfl rfl _) rfl rfl rfl rfl rfl rfl (Nat.le_of_ble_eq_true rfl) (Nat.le_of_ble_eq_true rfl) ?_
              rintro _ _ _ ⟨⟨rfl, hA⟩ | ⟨rfl, hA⟩, rfl, rfl⟩
              · exact absurd hA.2.1 (by decide)
              · clear hA
                show WGo _ (164, [wI sel, wJ d1, wS, wJ d2, wS, wI s, wI l, wR 0, wI 1, wI 0, wI 1, wU], [.int 0], [(.inl (.char, [(.int x0), (.int x1), (.int x2), (.int x3), (.int x4), (.int x5)]))], 6) _
                refine WGo.s (WStep.ifF a0_164 (by decide)) ?_
                refine WGo.s (WStep.aload a0_167 rfl rfl) ?_
                refine WGo.s (WStep.iconst (5 : Int32) a0_169 rfl) ?_
                refine WGo.s (WStep.iload a0_170 rfl) ?_
                refine WGo.s (WStep.iload a0_172 rfl) ?_
                refine WGo.callS a0_174 (ok2 hw _ _ _ _) (wd hw 6 rfl) (wd hw 7 rfl) (argsL := [.ref 0, .int 5, .int 1, .int 1]) (S := []) (c2 hw _ _ x0 x1 x2 x3 x4 x5 5 1 1 x5 5 (by decide) rfl rfl _) rfl rfl rfl rfl rfl rfl (Nat.le_of_ble_eq_true rfl) (Nat.le_of_ble_eq_true rfl) ?_
                rintro _ _ _ ⟨⟨rfl, hA⟩ | ⟨rfl, hA⟩, rfl, rfl⟩
                · exact absurd hA.2.1 (by decide)
                · clear hA
                  show WGo _ (177, [wI sel, wJ d1, wS, wJ d2, wS, wI s, wI l, wR 0, wI 1, wI 0, wI 1, wU], [.int 0], [(.inl (.char, [(.int x0), (.int x1), (.int x2), (.int x3), (.int x4), (.int x5)]))], 6) _
                  refine WGo.s (WStep.ifT a0_177 (by decide)) ?_
                  refine WGo.s (WStep.iconst (0 : Int32) a0_184 rfl) ?_
                  refine WGo.s (WStep.istore (L' := [wI sel, wJ d1, wS, wJ d2, wS, wI s, wI l, wR 0, wI 1, wI 0, wI 1, wI 0]) a0_185 rfl) ?_
                  refine WGo.s (WStep.aload a0_187 rfl rfl) ?_
                  refine WGo.s (WStep.iload a0_189 rfl) ?_
                  refine WGo.s (WStep.iload a0_191 rfl) ?_
                  refine WGo.callS a0_193 (ok3 hw _ _ _ _) (wd hw 9 rfl) (wd hw 10 rfl) (argsL := [.ref 0, .int 1, .int 0]) (S := []) (c3_10 hw _ _ x0 x1 x2 x3 x4 x5 _) rfl rfl rfl rfl rfl rfl (Nat.le_of_ble_eq_true rfl) (Nat.le_of_ble_eq_true rfl) ?_
                  rintro _ _ _ ⟨⟨rfl, hM⟩ | ⟨rfl, hM⟩, rfl, rfl⟩
                  · exfalso
                    simp_all
                  · skip
                    show WGo _ (196, [wI sel, wJ d1, wS, wJ d2, wS, wI s, wI l, wR 0, wI 1, wI 0, wI 1, wI 0], [.int 0], [(.inl (.char, [(.int x0), (.int x1), (.int x2), (.int x3), (.int x4), (.int x5)]))], 6) _
                    refine WGo.s (WStep.iload a0_196 rfl) ?_
                    refine WGo.s (WStep.icmpF a0_198 (by decide)) ?_
                    refine WGo.s (WStep.iconst (1 : Int32) a0_201 rfl) ?_
                    refine WGo.s (WStep.goto a0_202) ?_
                    refine WGo.ireturn .boolean a0_206 rfl (by simp) ?_
                    exact ⟨rfl, Nat.le_of_ble_eq_true rfl, Nat.le_of_ble_eq_true rfl⟩
    · show WGo _ (93, [wI sel, wJ d1, wS, wJ d2, wS, wI s, wI l, wR 0, wI 1, wU, wU, wU], [.int 1], [(.inl (.char, [(.int x0), (.int x1), (.int x2), (.int x3), (.int x4), (.int x5)]))], 6) _
      refine WGo.s (WStep.istore (L' := [wI sel, wJ d1, wS, wJ d2, wS, wI s, wI l, wR 0, wI 1, wI 1, wU, wU]) a0_93 rfl) ?_
      refine WGo.s (WStep.iload a0_95 rfl) ?_
      refine WGo.s (WStep.iload a0_97 rfl) ?_
      refine WGo.s (WStep.iadd a0_99) ?_
      show WGo _ (100, [wI sel, wJ d1, wS, wJ d2, wS, wI s, wI l, wR 0, wI 1, wI 1, wU, wU], [.int 2], [(.inl (.char, [(.int x0), (.int x1), (.int x2), (.int x3), (.int x4), (.int x5)]))], 6) _
      refine WGo.s (WStep.istore (L' := [wI sel, wJ d1, wS, wJ d2, wS, wI s, wI l, wR 0, wI 1, wI 1, wI 2, wU]) a0_100 rfl) ?_
      refine WGo.s (WStep.aload a0_102 rfl rfl) ?_
      refine WGo.s (WStep.iconst (0 : Int32) a0_104 rfl) ?_
      refine WGo.s (WStep.iload a0_105 rfl) ?_
      refine WGo.s (WStep.iload a0_107 rfl) ?_
      refine WGo.callS a0_109 (ok2 hw _ _ _ _) (wd hw 6 rfl) (wd hw 7 rfl) (argsL := [.ref 0, .int 0, .int 1, .int 2]) (S := []) (c2 hw _ _ x0 x1 x2 x3 x4 x5 0 1 2 x0 0 (by decide) rfl rfl _) rfl rfl rfl rfl rfl rfl (Nat.le_of_ble_eq_true rfl) (Nat.le_of_ble_eq_true rfl) ?_
      rintro _ _ _ ⟨⟨rfl, hA⟩ | ⟨rfl, hA⟩, rfl, rfl⟩
      · exact absurd (by decide) hA.1
      · clear hA
        show WGo _ (112, [wI sel, wJ d1, wS, wJ d2, wS, wI s, wI l, wR 0, wI 1, wI 1, wI 2, wU], [.int 0], [(.inl (.char, [(.int x0), (.int x1), (.int x2), (.int x3), (.int x4), (.int x5)]))], 6) _
        refine WGo.s (WStep.ifF a0_112 (by decide)) ?_
        refine WGo.s (WStep.aload a0_115 rfl rfl) ?_
        refine WGo.s (WStep.iconst (1 : Int32) a0_117 rfl) ?_
        refine WGo.s (WStep.iload a0_118 rfl) ?_
        refine WGo.s (WStep.iload a0_120 rfl) ?_
        refine WGo.callS a0_122 (ok2 hw _ _ _ _) (wd hw 6 rfl) (wd hw 7 rfl) (argsL := [.ref 0, .int 1, .int 1, .int 2]) (S := []) (c2 hw _ _ x0 x1 x2 x3 x4 x5 1 1 2 x1 1 (by decide) rfl rfl _) rfl rfl rfl rfl rfl rfl (Nat.le_of_ble_eq_true rfl) (Nat.le_of_ble_eq_true rfl) ?_
        rintro _ _ _ ⟨⟨rfl, hA⟩ | ⟨rfl, hA⟩, rfl, rfl⟩
        · exact absurd hA.2.1 (by decide)
        · clear hA
          show WGo _ (125, [wI sel, wJ d1, wS, wJ d2, wS, wI s, wI l, wR 0, wI 1, wI 1, wI 2, wU], [.int 0], [(.inl (.char, [(.int x0), (.int x1), (.int x2), (.int x3), (.int x4), (.int x5)]))], 6) _
          refine WGo.s (WStep.ifF a0_125 (by decide)) ?_
          refine WGo.s (WStep.aload a0_128 rfl rfl) ?_
          refine WGo.s (WStep.iconst (2 : Int32) a0_130 rfl) ?_
          refine WGo.s (WStep.iload a0_131 rfl) ?_
          refine WGo.s (WStep.iload a0_133 rfl) ?_
          refine WGo.callS a0_135 (ok2 hw _ _ _ _) (wd hw 6 rfl) (wd hw 7 rfl) (argsL := [.ref 0, .int 2, .int 1, .int 2]) (S := []) (c2 hw _ _ x0 x1 x2 x3 x4 x5 2 1 2 x2 2 (by decide) rfl rfl _) rfl rfl rfl rfl rfl rfl (Nat.le_of_ble_eq_true rfl) (Nat.le_of_ble_eq_true rfl) ?_
          rintro _ _ _ ⟨⟨rfl, hA⟩ | ⟨rfl, hA⟩, rfl, rfl⟩
          · exact absurd hA.2.1 (by decide)
          · clear hA
            show WGo _ (138, [wI sel, wJ d1, wS, wJ d2, wS, wI s, wI l, wR 0, wI 1, wI 1, wI 2, wU], [.int 0], [(.inl (.char, [(.int x0), (.int x1), (.int x2), (.int x3), (.int x4), (.int x5)]))], 6) _
            refine WGo.s (WStep.ifF a0_138 (by decide)) ?_
            refine WGo.s (WStep.aload a0_141 rfl rfl) ?_
            refine WGo.s (WStep.iconst (3 : Int32) a0_143 rfl) ?_
            refine WGo.s (WStep.iload a0_144 rfl) ?_
            refine WGo.s (WStep.iload a0_146 rfl) ?_
            refine WGo.callS a0_148 (ok2 hw _ _ _ _) (wd hw 6 rfl) (wd hw 7 rfl) (argsL := [.ref 0, .int 3, .int 1, .int 2]) (S := []) (c2 hw _ _ x0 x1 x2 x3 x4 x5 3 1 2 x3 3 (by decide) rfl rfl _) rfl rfl rfl rfl rfl rfl (Nat.le_of_ble_eq_true rfl) (Nat.le_of_ble_eq_true rfl) ?_
            rintro _ _ _ ⟨⟨rfl, hA⟩ | ⟨rfl, hA⟩, rfl, rfl⟩
            · exact absurd hA.2.1 (by decide)
            · clear hA
              show WGo _ (151, [wI sel, wJ d1, wS, wJ d2, wS, wI s, wI l, wR 0, wI 1, wI 1, wI 2, wU], [.int 0], [(.inl (.char, [(.int x0), (.int x1), (.int x2), (.int x3), (.int x4), (.int x5)]))], 6) _
              refine WGo.s (WStep.ifF a0_151 (by decide)) ?_
              refine WGo.s (WStep.aload a0_154 rfl rfl) ?_
              refine WGo.s (WStep.iconst (4 : Int32) a0_156 rfl) ?_
              refine WGo.s (WStep.iload a0_157 rfl) ?_
              refine WGo.s (WStep.iload a0_159 rfl) ?_
              refine WGo.callS a0_161 (ok2 hw _ _ _ _) (wd hw 6 rfl) (wd hw 7 rfl) (argsL := [.ref 0, .int 4, .int 1, .int 2]) (S := []) (c2 hw _ _ x0 x1 x2 x3 x4 x5 4 1 2 x4 4 (by decide) rfl rfl _) rfl rfl rfl rfl rfl rfl (Nat.le_of_ble_eq_true rfl) (Nat.le_of_ble_eq_true rfl) ?_
              rintro _ _ _ ⟨⟨rfl, hA⟩ | ⟨rfl, hA⟩, rfl, rfl⟩
              · exact absurd hA.2.1 (by decide)
              · clear hA
                show WGo _ (164, [wI sel, wJ d1, wS, wJ d2, wS, wI s, wI l, wR 0, wI 1, wI 1, wI 2, wU], [.int 0], [(.inl (.char, [(.int x0), (.int x1), (.int x2), (.int x3), (.int x4), (.int x5)]))], 6) _
                refine WGo.s (WStep.ifF a0_164 (by decide)) ?_
                refine WGo.s (WStep.aload a0_167 rfl rfl) ?_
                refine WGo.s (WStep.iconst (5 : Int32) a0_169 rfl) ?_
                refine WGo.s (WStep.iload a0_170 rfl) ?_
                refine WGo.s (WStep.iload a0_172 rfl) ?_
                refine WGo.callS a0_174 (ok2 hw _ _ _ _) (wd hw 6 rfl) (wd hw 7 rfl) (argsL := [.ref 0, .int 5, .int 1, .int 2]) (S := []) (c2 hw _ _ x0 x1 x2 x3 x4 x5 5 1 2 x5 5 (by decide) rfl rfl _) rfl rfl rfl rfl rfl rfl (Nat.le_of_ble_eq_true rfl) (Nat.le_of_ble_eq_true rfl) ?_
                rintro _ _ _ ⟨⟨rfl, hA⟩ | ⟨rfl, hA⟩, rfl, rfl⟩
                · exact absurd hA.2.1 (by decide)
                · clear hA
                  show WGo _ (177, [wI sel, wJ d1, wS, wJ d2, wS, wI s, wI l, wR 0, wI 1, wI 1, wI 2, wU], [.int 0], [(.inl (.char, [(.int x0), (.int x1), (.int x2), (.int x3), (.int x4), (.int x5)]))], 6) _
                  refine WGo.s (WStep.ifT a0_177 (by decide)) ?_
                  refine WGo.s (WStep.iconst (0 : Int32) a0_184 rfl) ?_
                  refine WGo.s (WStep.istore (L' := [wI sel, wJ d1, wS, wJ d2, wS, wI s, wI l, wR 0, wI 1, wI 1, wI 2, wI 0]) a0_185 rfl) ?_
                  refine WGo.s (WStep.aload a0_187 rfl rfl) ?_
                  refine WGo.s (WStep.iload a0_189 rfl) ?_
                  refine WGo.s (WStep.iload a0_191 rfl) ?_
                  refine WGo.callS a0_193 (ok3 hw _ _ _ _) (wd hw 9 rfl) (wd hw 10 rfl) (argsL := [.ref 0, .int 1, .int 1]) (S := []) (c3_11 hw _ _ x0 x1 x2 x3 x4 x5 _) rfl rfl rfl rfl rfl rfl (Nat.le_of_ble_eq_true rfl) (Nat.le_of_ble_eq_true rfl) ?_
                  rintro _ _ _ ⟨⟨rfl, hM⟩ | ⟨rfl, hM⟩, rfl, rfl⟩
                  · exfalso
                    simp_all
                  · skip
                    show WGo _ (196, [wI sel, wJ d1, wS, wJ d2, wS, wI s, wI l, wR 0, wI 1, wI 1, wI 2, wI 0], [.int 0], [(.inl (.char, [(.int x0), (.int x1), (.int x2), (.int x3), (.int x4), (.int x5)]))], 6) _
                    refine WGo.s (WStep.iload a0_196 rfl) ?_
                    refine WGo.s (WStep.icmpF a0_198 (by decide)) ?_
                    refine WGo.s (WStep.iconst (1 : Int32) a0_201 rfl) ?_
                    refine WGo.s (WStep.goto a0_202) ?_
                    refine WGo.ireturn .boolean a0_206 rfl (by simp) ?_
                    exact ⟨rfl, Nat.le_of_ble_eq_true rfl, Nat.le_of_ble_eq_true rfl⟩
    · show WGo _ (93, [wI sel, wJ d1, wS, wJ d2, wS, wI s, wI l, wR 0, wI 1, wU, wU, wU], [.int 2], [(.inl (.char, [(.int x0), (.int x1), (.int x2), (.int x3), (.int x4), (.int x5)]))], 6) _
      refine WGo.s (WStep.istore (L' := [wI sel, wJ d1, wS, wJ d2, wS, wI s, wI l, wR 0, wI 1, wI 2, wU, wU]) a0_93 rfl) ?_
      refine WGo.s (WStep.iload a0_95 rfl) ?_
      refine WGo.s (WStep.iload a0_97 rfl) ?_
      refine WGo.s (WStep.iadd a0_99) ?_
      show WGo _ (100, [wI sel, wJ d1, wS, wJ d2, wS, wI s, wI l, wR 0, wI 1, wI 2, wU, wU], [.int 3], [(.inl (.char, [(.int x0), (.int x1), (.int x2), (.int x3), (.int x4), (.int x5)]))], 6) _
      refine WGo.s (WStep.istore (L' := [wI sel, wJ d1, wS, wJ d2, wS, wI s, wI l, wR 0, wI 1, wI 2, wI 3, wU]) a0_100 rfl) ?_
      refine WGo.s (WStep.aload a0_102 rfl rfl) ?_
      refine WGo.s (WStep.iconst (0 : Int32) a0_104 rfl) ?_
      refine WGo.s (WStep.iload a0_105 rfl) ?_
      refine WGo.s (WStep.iload a0_107 rfl) ?_
      refine WGo.callS a0_109 (ok2 hw _ _ _ _) (wd hw 6 rfl) (wd hw 7 rfl) (argsL := [.ref 0, .int 0, .int 1, .int 3]) (S := []) (c2 hw _ _ x0 x1 x2 x3 x4 x5 0 1 3 x0 0 (by decide) rfl rfl _) rfl rfl rfl rfl rfl rfl (Nat.le_of_ble_eq_true rfl) (Nat.le_of_ble_eq_true rfl) ?_
      rintro _ _ _ ⟨⟨rfl, hA⟩ | ⟨rfl, hA⟩, rfl, rfl⟩
      · exact absurd (by decide) hA.1
      · clear hA
        show WGo _ (112, [wI sel, wJ d1, wS, wJ d2, wS, wI s, wI l, wR 0, wI 1, wI 2, wI 3, wU], [.int 0], [(.inl (.char, [(.int x0), (.int x1), (.int x2), (.int x3), (.int x4), (.int x5)]))], 6) _
        refine WGo.s (WStep.ifF a0_112 (by decide)) ?_
        refine WGo.s (WStep.aload a0_115 rfl rfl) ?_
        refine WGo.s (WStep.iconst (1 : Int32) a0_117 rfl) ?_
        refine WGo.s (WStep.iload a0_118 rfl) ?_
        refine WGo.s (WStep.iload a0_120 rfl) ?_
        refine WGo.callS a0_122 (ok2 hw _ _ _ _) (wd hw 6 rfl) (wd hw 7 rfl) (argsL := [.ref 0, .int 1, .int 1, .int 3]) (S := []) (c2 hw _ _ x0 x1 x2 x3 x4 x5 1 1 3 x1 1 (by decide) rfl rfl _) rfl rfl rfl rfl rfl rfl (Nat.le_of_ble_eq_true rfl) (Nat.le_of_ble_eq_true rfl) ?_
        rintro _ _ _ ⟨⟨rfl, hA⟩ | ⟨rfl, hA⟩, rfl, rfl⟩
        · have hx1 := hA.2.2
          clear hA
          show WGo _ (125, [wI sel, wJ d1, wS, wJ d2, wS, wI s, wI l, wR 0, wI 1, wI 2, wI 3, wU], [.int 1], [(.inl (.char, [(.int x0), (.int x1), (.int x2), (.int x3), (.int x4), (.int x5)]))], 6) _
          refine WGo.s (WStep.ifT a0_125 (by decide)) ?_
          refine WGo.s (WStep.iconst (1 : Int32) a0_180 rfl) ?_
          refine WGo.s (WStep.goto a0_181) ?_
          refine WGo.s (WStep.istore (L' := [wI sel, wJ d1, wS, wJ d2, wS, wI s, wI l, wR 0, wI 1, wI 2, wI 3, wI 1]) a0_185 rfl) ?_
          refine WGo.s (WStep.aload a0_187 rfl rfl) ?_
          refine WGo.s (WStep.iload a0_189 rfl) ?_
          refine WGo.s (WStep.iload a0_191 rfl) ?_
          refine WGo.callS a0_193 (ok3 hw _ _ _ _) (wd hw 9 rfl) (wd hw 10 rfl) (argsL := [.ref 0, .int 1, .int 2]) (S := []) (c3_12 hw _ _ x0 x1 x2 x3 x4 x5 _) rfl rfl rfl rfl rfl rfl (Nat.le_of_ble_eq_true rfl) (Nat.le_of_ble_eq_true rfl) ?_
          rintro _ _ _ ⟨⟨rfl, hM⟩ | ⟨rfl, hM⟩, rfl, rfl⟩
          · skip
            show WGo _ (196, [wI sel, wJ d1, wS, wJ d2, wS, wI s, wI l, wR 0, wI 1, wI 2, wI 3, wI 1], [.int 1], [(.inl (.char, [(.int x0), (.int x1), (.int x2), (.int x3), (.int x4), (.int x5)]))], 6) _
            refine WGo.s (WStep.iload a0_196 rfl) ?_
            refine WGo.s (WStep.icmpF a0_198 (by decide)) ?_
            refine WGo.s (WStep.iconst (1 : Int32) a0_201 rfl) ?_
            refine WGo.s (WStep.goto a0_202) ?_
            refine WGo.ireturn .boolean a0_206 rfl (by simp) ?_
            exact ⟨rfl, Nat.le_of_ble_eq_true rfl, Nat.le_of_ble_eq_true rfl⟩
          · exfalso
            simp_all
        · have hx1 : ¬ x1 = 93 := fun q => hA ⟨by decide, by decide, q⟩
          clear hA
          show WGo _ (125, [wI sel, wJ d1, wS, wJ d2, wS, wI s, wI l, wR 0, wI 1, wI 2, wI 3, wU], [.int 0], [(.inl (.char, [(.int x0), (.int x1), (.int x2), (.int x3), (.int x4), (.int x5)]))], 6) _
          refine WGo.s (WStep.ifF a0_125 (by decide)) ?_
          refine WGo.s (WStep.aload a0_128 rfl rfl) ?_
          refine WGo.s (WStep.iconst (2 : Int32) a0_130 rfl) ?_
          refine WGo.s (WStep.iload a0_131 rfl) ?_
          refine WGo.s (WStep.iload a0_133 rfl) ?_
          refine WGo.callS a0_135 (ok2 hw _ _ _ _) (wd hw 6 rfl) (wd hw 7 rfl) (argsL := [.ref 0, .int 2, .int 1, .int 3]) (S := []) (c2 hw _ _ x0 x1 x2 x3 x4 x5 2 1 3 x2 2 (by decide) rfl rfl _) rfl rfl rfl rfl rfl rfl (Nat.le_of_ble_eq_true rfl) (Nat.le_of_ble_eq_true rfl) ?_
          rintro _ _ _ ⟨⟨rfl, hA⟩ | ⟨rfl, hA⟩, rfl, rfl⟩
          · exact absurd hA.2.1 (by decide)
          · clear hA
            show WGo _ (138, [wI sel, wJ d1, wS, wJ d2, wS, wI s, wI l, wR 0, wI 1, wI 2, wI 3, wU], [.int 0], [(.inl (.char, [(.int x0), (.int x1), (.int x2), (.int x3), (.int x4), (.int x5)]))], 6) _
            refine WGo.s (WStep.ifF a0_138 (by decide)) ?_
            refine WGo.s (WStep.aload a0_141 rfl rfl) ?_
            refine WGo.s (WStep.iconst (3 : Int32) a0_143 rfl) ?_
            refine WGo.s (WStep.iload a0_144 rfl) ?_
            refine WGo.s (WStep.iload a0_146 rfl) ?_
            refine WGo.callS a0_148 (ok2 hw _ _ _ _) (wd hw 6 rfl) (wd hw 7 rfl) (argsL := [.ref 0, .int 3, .int 1, .int 3]) (S := []) (c2 hw _ _ x0 x1 x2 x3 x4 x5 3 1 3 x3 3 (by decide) rfl rfl _) rfl rfl rfl rfl rfl rfl (Nat.le_of_ble_eq_true rfl) (Nat.le_of_ble_eq_true rfl) ?_
            rintro _ _ _ ⟨⟨rfl, hA⟩ | ⟨rfl, hA⟩, rfl, rfl⟩
            · exact absurd hA.2.1 (by decide)
            · clear hA
              show WGo _ (151, [wI sel, wJ d1, wS, wJ d2, wS, wI s, wI l, wR 0, wI 1, wI 2, wI 3, wU], [.int 0], [(.inl (.char, [(.int x0), (.int x1), (.int x2), (.int x3), (.int x4), (.int x5)]))], 6) _
              refine WGo.s (WStep.ifF a0_151 (by decide)) ?_
              refine WGo.s (WStep.aload a0_154 rfl rfl) ?_
              refine WGo.s (WStep.iconst (4 : Int32) a0_156 rfl) ?_
              refine WGo.s (WStep.iload a0_157 rfl) ?_
              refine WGo.s (WStep.iload a0_159 rfl) ?_
              refine WGo.callS a0_161 (ok2 hw _ _ _ _) (wd hw 6 rfl) (wd hw 7 rfl) (argsL := [.ref 0, .int 4, .int 1, .int 3]) (S := []) (c2 hw _ _ x0 x1 x2 x3 x4 x5 4 1 3 x4 4 (by decide) rfl rfl _) rfl rfl rfl rfl rfl rfl (Nat.le_of_ble_eq_true rfl) (Nat.le_of_ble_eq_true rfl) ?_
              rintro _ _ _ ⟨⟨rfl, hA⟩ | ⟨rfl, hA⟩, rfl, rfl⟩
              · exact absurd hA.2.1 (by decide)
              · clear hA
                show WGo _ (164, [wI sel, wJ d1, wS, wJ d2, wS, wI s, wI l, wR 0, wI 1, wI 2, wI 3, wU], [.int 0], [(.inl (.char, [(.int x0), (.int x1), (.int x2), (.int x3), (.int x4), (.int x5)]))], 6) _
                refine WGo.s (WStep.ifF a0_164 (by decide)) ?_
                refine WGo.s (WStep.aload a0_167 rfl rfl) ?_
                refine WGo.s (WStep.iconst (5 : Int32) a0_169 rfl) ?_
                refine WGo.s (WStep.iload a0_170 rfl) ?_
                refine WGo.s (WStep.iload a0_172 rfl) ?_
                refine WGo.callS a0_174 (ok2 hw _ _ _ _) (wd hw 6 rfl) (wd hw 7 rfl) (argsL := [.ref 0, .int 5, .int 1, .int 3]) (S := []) (c2 hw _ _ x0 x1 x2 x3 x4 x5 5 1 3 x5 5 (by decide) rfl rfl _) rfl rfl rfl rfl rfl rfl (Nat.le_of_ble_eq_true rfl) (Nat.le_of_ble_eq_true rfl) ?_
                rintro _ _ _ ⟨⟨rfl, hA⟩ | ⟨rfl, hA⟩, rfl, rfl⟩
                · exact absurd hA.2.1 (by decide)
                · clear hA
                  show WGo _ (177, [wI sel, wJ d1, wS, wJ d2, wS, wI s, wI l, wR 0, wI 1, wI 2, wI 3, wU], [.int 0], [(.inl (.char, [(.int x0), (.int x1), (.int x2), (.int x3), (.int x4), (.int x5)]))], 6) _
                  refine WGo.s (WStep.ifT a0_177 (by decide)) ?_
                  refine WGo.s (WStep.iconst (0 : Int32) a0_184 rfl) ?_
                  refine WGo.s (WStep.istore (L' := [wI sel, wJ d1, wS, wJ d2, wS, wI s, wI l, wR 0, wI 1, wI 2, wI 3, wI 0]) a0_185 rfl) ?_
                  refine WGo.s (WStep.aload a0_187 rfl rfl) ?_
                  refine WGo.s (WStep.iload a0_189 rfl) ?_
                  refine WGo.s (WStep.iload a0_191 rfl) ?_
                  refine WGo.callS a0_193 (ok3 hw _ _ _ _) (wd hw 9 rfl) (wd hw 10 rfl) (argsL := [.ref 0, .int 1, .int 2]) (S := []) (c3_12 hw _ _ x0 x1 x2 x3 x4 x5 _) rfl rfl rfl rfl rfl rfl (Nat.le_of_ble_eq_true rfl) (Nat.le_of_ble_eq_true rfl) ?_
                  rintro _ _ _ ⟨⟨rfl, hM⟩ | ⟨rfl, hM⟩, rfl, rfl⟩
                  · exfalso
                    simp_all
                  · skip
                    show WGo _ (196, [wI sel, wJ d1, wS, wJ d2, wS, wI s, wI l, wR 0, wI 1, wI 2, wI 3, wI 0], [.int 0], [(.inl (.char, [(.int x0), (.int x1), (.int x2), (.int x3), (.int x4), (.int x5)]))], 6) _
                    refine WGo.s (WStep.iload a0_196 rfl) ?_
                    refine WGo.s (WStep.icmpF a0_198 (by decide)) ?_
                    refine WGo.s (WStep.iconst (1 : Int32) a0_201 rfl) ?_
                    refine WGo.s (WStep.goto a0_202) ?_
                    refine WGo.ireturn .boolean a0_206 rfl (by simp) ?_
                    exact ⟨rfl, Nat.le_of_ble_eq_true rfl, Nat.le_of_ble_eq_true rfl⟩
    · show WGo _ (93, [wI sel, wJ d1, wS, wJ d2, wS, wI s, wI l, wR 0, wI 1, wU, wU, wU], [.int 3], [(.inl (.char, [(.int x0), (.int x1), (.int x2), (.int x3), (.int x4), (.int x5)]))], 6) _
      refine WGo.s (WStep.istore (L' := [wI sel, wJ d1, wS, wJ d2, wS, wI s, wI l, wR 0, wI 1, wI 3, wU, wU]) a0_93 rfl) ?_
      refine WGo.s (WStep.iload a0_95 rfl) ?_
      refine WGo.s (WStep.iload a0_97 rfl) ?_
      refine WGo.s (WStep.iadd a0_99) ?_
      show WGo _ (100, [wI sel, wJ d1, wS, wJ d2, wS, wI s, wI l, wR 0, wI 1, wI 3, wU, wU], [.int 4], [(.inl (.char, [(.int x0), (.int x1), (.int x2), (.int x3), (.int x4), (.int x5)]))], 6) _
      refine WGo.s (WStep.istore (L' := [wI sel, wJ d1, wS, wJ d2, wS, wI s, wI l, wR 0, wI 1, wI 3, wI 4, wU]) a0_100 rfl) ?_
      refine WGo.s (WStep.aload a0_102 rfl rfl) ?_
      refine WGo.s (WStep.iconst (0 : Int32) a0_104 rfl) ?_
      refine WGo.s (WStep.iload a0_105 rfl) ?_
      refine WGo.s (WStep.iload a0_107 rfl) ?_
      refine WGo.callS a0_109 (ok2 hw _ _ _ _) (wd hw 6 rfl) (wd hw 7 rfl) (argsL := [.ref 0, .int 0, .int 1, .int 4]) (S := []) (c2 hw _ _ x0 x1 x2 x3 x4 x5 0 1 4 x0 0 (by decide) rfl rfl _) rfl rfl rfl rfl rfl rfl (Nat.le_of_ble_eq_true rfl) (Nat.le_of_ble_eq_true rfl) ?_
      rintro _ _ _ ⟨⟨rfl, hA⟩ | ⟨rfl, hA⟩, rfl, rfl⟩
      · exact absurd (by decide) hA.1
      · clear hA
        show WGo _ (112, [wI sel, wJ d1, wS, wJ d2, wS, wI s, wI l, wR 0, wI 1, wI 3, wI 4, wU], [.int 0], [(.inl (.char, [(.int x0), (.int x1), (.int x2), (.int x3), (.int x4), (.int x5)]))], 6) _
        refine WGo.s (WStep.ifF a0_112 (by decide)) ?_
        refine WGo.s (WStep.aload a0_115 rfl rfl) ?_
        refine WGo.s (WStep.iconst (1 : Int32) a0_117 rfl) ?_
        refine WGo.s (WStep.iload a0_118 rfl) ?_
        refine WGo.s (WStep.iload a0_120 rfl) ?_
        refine WGo.callS a0_122 (ok2 hw _ _ _ _) (wd hw 6 rfl) (wd hw 7 rfl) (argsL := [.ref 0, .int 1, .int 1, .int 4]) (S := []) (c2 hw _ _ x0 x1 x2 x3 x4 x5 1 1 4 x1 1 (by decide) rfl rfl _) rfl rfl rfl rfl rfl rfl (Nat.le_of_ble_eq_true rfl) (Nat.le_of_ble_eq_true rfl) ?_
        rintro _ _ _ ⟨⟨rfl, hA⟩ | ⟨rfl, hA⟩, rfl, rfl⟩
        · have hx1 := hA.2.2
          clear hA
          show WGo _ (125, [wI sel, wJ d1, wS, wJ d2, wS, wI s, wI l, wR 0, wI 1, wI 3, wI 4, wU], [.int 1], [(.inl (.char, [(.int x0), (.int x1), (.int x2), (.int x3), (.int x4), (.int x5)]))], 6) _
          refine WGo.s (WStep.ifT a0_125 (by decide)) ?_
          refine WGo.s (WStep.iconst (1 : Int32) a0_180 rfl) ?_
          refine WGo.s (WStep.goto a0_181) ?_
          refine WGo.s (WStep.istore (L' := [wI sel, wJ d1, wS, wJ d2, wS, wI s, wI l, wR 0, wI 1, wI 3, wI 4, wI 1]) a0_185 rfl) ?_
          refine WGo.s (WStep.aload a0_187 rfl rfl) ?_
          refine WGo.s (WStep.iload a0_189 rfl) ?_
          refine WGo.s (WStep.iload a0_191 rfl) ?_
          refine WGo.callS a0_193 (ok3 hw _ _ _ _) (wd hw 9 rfl) (wd hw 10 rfl) (argsL := [.ref 0, .int 1, .int 3]) (S := []) (c3_13 hw _ _ x0 x1 x2 x3 x4 x5 _) rfl rfl rfl rfl rfl rfl (Nat.le_of_ble_eq_true rfl) (Nat.le_of_ble_eq_true rfl) ?_
          rintro _ _ _ ⟨⟨rfl, hM⟩ | ⟨rfl, hM⟩, rfl, rfl⟩
          · skip
            show WGo _ (196, [wI sel, wJ d1, wS, wJ d2, wS, wI s, wI l, wR 0, wI 1, wI 3, wI 4, wI 1], [.int 1], [(.inl (.char, [(.int x0), (.int x1), (.int x2), (.int x3), (.int x4), (.int x5)]))], 6) _
            refine WGo.s (WStep.iload a0_196 rfl) ?_
            refine WGo.s (WStep.icmpF a0_198 (by decide)) ?_
            refine WGo.s (WStep.iconst (1 : Int32) a0_201 rfl) ?_
            refine WGo.s (WStep.goto a0_202) ?_
            refine WGo.ireturn .boolean a0_206 rfl (by simp) ?_
            exact ⟨rfl, Nat.le_of_ble_eq_true rfl, Nat.le_of_ble_eq_true rfl⟩
          · exfalso
            simp_all
        · have hx1 : ¬ x1 = 93 := fun q => hA ⟨by decide, by decide, q⟩
          clear hA
          show WGo _ (125, [wI sel, wJ d1, wS, wJ d2, wS, wI s, wI l, wR 0, wI 1, wI 3, wI 4, wU], [.int 0], [(.inl (.char, [(.int x0), (.int x1), (.int x2), (.int x3), (.int x4), (.int x5)]))], 6) _
          refine WGo.s (WStep.ifF a0_125 (by decide)) ?_
          refine WGo.s (WStep.aload a0_128 rfl rfl) ?_
          refine WGo.s (WStep.iconst (2 : Int32) a0_130 rfl) ?_
          refine WGo.s (WStep.iload a0_131 rfl) ?_
          refine WGo.s (WStep.iload a0_133 rfl) ?_
          refine WGo.callS a0_135 (ok2 hw _ _ _ _) (wd hw 6 rfl) (wd hw 7 rfl) (argsL := [.ref 0, .int 2, .int 1, .int 4]) (S := []) (c2 hw _ _ x0 x1 x2 x3 x4 x5 2 1 4 x2 2 (by decide) rfl rfl _) rfl rfl rfl rfl rfl rfl (Nat.le_of_ble_eq_true rfl) (Nat.le_of_ble_eq_true rfl) ?_
          rintro _ _ _ ⟨⟨rfl, hA⟩ | ⟨rfl, hA⟩, rfl, rfl⟩
          · have hx2 := hA.2.2
            clear hA
            show WGo _ (138, [wI sel, wJ d1, wS, wJ d2, wS, wI s, wI l, wR 0, wI 1, wI 3, wI 4, wU], [.int 1], [(.inl (.char, [(.int x0), (.int x1), (.int x2), (.int x3), (.int x4), (.int x5)]))], 6) _
            refine WGo.s (WStep.ifT a0_138 (by decide)) ?_
            refine WGo.s (WStep.iconst (1 : Int32) a0_180 rfl) ?_
            refine WGo.s (WStep.goto a0_181) ?_
            refine WGo.s (WStep.istore (L' := [wI sel, wJ d1, wS, wJ d2, wS, wI s, wI l, wR 0, wI 1, wI 3, wI 4, wI 1]) a0_185 rfl) ?_
            refine WGo.s (WStep.aload a0_187 rfl rfl) ?_
            refine WGo.s (WStep.iload a0_189 rfl) ?_
            refine WGo.s (WStep.iload a0_191 rfl) ?_
            refine WGo.callS a0_193 (ok3 hw _ _ _ _) (wd hw 9 rfl) (wd hw 10 rfl) (argsL := [.ref 0, .int 1, .int 3]) (S := []) (c3_13 hw _ _ x0 x1 x2 x3 x4 x5 _) rfl rfl rfl rfl rfl rfl (Nat.le_of_ble_eq_true rfl) (Nat.le_of_ble_eq_true rfl) ?_
            rintro _ _ _ ⟨⟨rfl, hM⟩ | ⟨rfl, hM⟩, rfl, rfl⟩
            · skip
              show WGo _ (196, [wI sel, wJ d1, wS, wJ d2, wS, wI s, wI l, wR 0, wI 1, wI 3, wI 4, wI 1], [.int 1], [(.inl (.char, [(.int x0), (.int x1), (.int x2), (.int x3), (.int x4), (.int x5)]))], 6) _
              refine WGo.s (WStep.iload a0_196 rfl) ?_
              refine WGo.s (WStep.icmpF a0_198 (by decide)) ?_
              refine WGo.s (WStep.iconst (1 : Int32) a0_201 rfl) ?_
              refine WGo.s (WStep.goto a0_202) ?_
              refine WGo.ireturn .boolean a0_206 rfl (by simp) ?_
              exact ⟨rfl, Nat.le_of_ble_eq_true rfl, Nat.le_of_ble_eq_true rfl⟩
            · exfalso
              simp_all
          · have hx2 : ¬ x2 = 93 := fun q => hA ⟨by decide, by decide, q⟩
            clear hA
            show WGo _ (138, [wI sel, wJ d1, wS, wJ d2, wS, wI s, wI l, wR 0, wI 1, wI 3, wI 4, wU], [.int 0], [(.inl (.char, [(.int x0), (.int x1), (.int x2), (.int x3), (.int x4), (.int x5)]))], 6) _
            refine WGo.s (WStep.ifF a0_138 (by decide)) ?_
            refine WGo.s (WStep.aload a0_141 rfl rfl) ?_
            refine WGo.s (WStep.iconst (3 : Int32) a0_143 rfl) ?_
            refine WGo.s (WStep.iload a0_144 rfl) ?_
            refine WGo.s (WStep.iload a0_146 rfl) ?_
            refine WGo.callS a0_148 (ok2 hw _ _ _ _) (wd hw 6 rfl) (wd hw 7 rfl) (argsL := [.ref 0, .int 3, .int 1, .int 4]) (S := []) (c2 hw _ _ x0 x1 x2 x3 x4 x5 3 1 4 x3 3 (by decide) rfl rfl _) rfl rfl rfl rfl rfl rfl (Nat.le_of_ble_eq_true rfl) (Nat.le_of_ble_eq_true rfl) ?_
            rintro _ _ _ ⟨⟨rfl, hA⟩ | ⟨rfl, hA⟩, rfl, rfl⟩
            · exact absurd hA.2.1 (by decide)
            · clear hA
              show WGo _ (151, [wI sel, wJ d1, wS, wJ d2, wS, wI s, wI l, wR 0, wI 1, wI 3, wI 4, wU], [.int 0], [(.inl (.char, [(.int x0), (.int x1), (.int x2), (.int x3), (.int x4), (.int x5)]))], 6) _
              refine WGo.s (WStep.ifF a0_151 (by decide)) ?_
              refine WGo.s (WStep.aload a0_154 rfl rfl) ?_
              refine WGo.s (WStep.iconst (4 : Int32) a0_156 rfl) ?_
              refine WGo.s (WStep.iload a0_157 rfl) ?_
              refine WGo.s (WStep.iload a0_159 rfl) ?_
              refine WGo.callS a0_161 (ok2 hw _ _ _ _) (wd hw 6 rfl) (wd hw 7 rfl) (argsL := [.ref 0, .int 4, .int 1, .int 4]) (S := []) (c2 hw _ _ x0 x1 x2 x3 x4 x5 4 1 4 x4 4 (by decide) rfl rfl _) rfl rfl rfl rfl rfl rfl (Nat.le_of_ble_eq_true rfl) (Nat.le_of_ble_eq_true rfl) ?_
              rintro _ _ _ ⟨⟨rfl, hA⟩ | ⟨rfl, hA⟩, rfl, rfl⟩
              · exact absurd hA.2.1 (by decide)
              · clear hA
                show WGo _ (164, [wI sel, wJ d1, wS, wJ d2, wS, wI s, wI l, wR 0, wI 1, wI 3, wI 4, wU], [.int 0], [(.inl (.char, [(.int x0), (.int x1), (.int x2), (.int x3), (.int x4), (.int x5)]))], 6) _
                refine WGo.s (WStep.ifF a0_164 (by decide)) ?_
                refine WGo.s (WStep.aload a0_167 rfl rfl) ?_
                refine WGo.s (WStep.iconst (5 : Int32) a0_169 rfl) ?_
                refine WGo.s (WStep.iload a0_170 rfl) ?_
                refine WGo.s (WStep.iload a0_172 rfl) ?_
                refine WGo.callS a0_174 (ok2 hw _ _ _ _) (wd hw 6 rfl) (wd hw 7 rfl) (argsL := [.ref 0, .int 5, .int 1, .int 4]) (S := []) (c2 hw _ _ x0 x1 x2 x3 x4 x5 5 1 4 x5 5 (by decide) rfl rfl _) rfl rfl rfl rfl rfl rfl (Nat.le_of_ble_eq_true rfl) (Nat.le_of_ble_eq_true rfl) ?_
                rintro _ _ _ ⟨⟨rfl, hA⟩ | ⟨rfl, hA⟩, rfl, rfl⟩
                · exact absurd hA.2.1 (by decide)
                · clear hA
                  show WGo _ (177, [wI sel, wJ d1, wS, wJ d2, wS, wI s, wI l, wR 0, wI 1, wI 3, wI 4, wU], [.int 0], [(.inl (.char, [(.int x0), (.int x1), (.int x2), (.int x3), (.int x4), (.int x5)]))], 6) _
                  refine WGo.s (WStep.ifT a0_177 (by decide)) ?_
                  refine WGo.s (WStep.iconst (0 : Int32) a0_184 rfl) ?_
                  refine WGo.s (WStep.istore (L' := [wI sel, wJ d1, wS, wJ d2, wS, wI s, wI l, wR 0, wI 1, wI 3, wI 4, wI 0]) a0_185 rfl) ?_
                  refine WGo.s (WStep.aload a0_187 rfl rfl) ?_
                  refine WGo.s (WStep.iload a0_189 rfl) ?_
                  refine WGo.s (WStep.iload a0_191 rfl) ?_
                  refine WGo.callS a0_193 (ok3 hw _ _ _ _) (wd hw 9 rfl) (wd hw 10 rfl) (argsL := [.ref 0, .int 1, .int 3]) (S := []) (c3_13 hw _ _ x0 x1 x2 x3 x4 x5 _) rfl rfl rfl rfl rfl rfl (Nat.le_of_ble_eq_true rfl) (Nat.le_of_ble_eq_true rfl) ?_
                  rintro _ _ _ ⟨⟨rfl, hM⟩ | ⟨rfl, hM⟩, rfl, rfl⟩
                  · exfalso
                    simp_all
                  · skip
                    show WGo _ (196, [wI sel, wJ d1, wS, wJ d2, wS, wI s, wI l, wR 0, wI 1, wI 3, wI 4, wI 0], [.int 0], [(.inl (.char, [(.int x0), (.int x1), (.int x2), (.int x3), (.int x4), (.int x5)]))], 6) _
                    refine WGo.s (WStep.iload a0_196 rfl) ?_
                    refine WGo.s (WStep.icmpF a0_198 (by decide)) ?_
                    refine WGo.s (WStep.iconst (1 : Int32) a0_201 rfl) ?_
                    refine WGo.s (WStep.goto a0_202) ?_
                    refine WGo.ireturn .boolean a0_206 rfl (by simp) ?_
                    exact ⟨rfl, Nat.le_of_ble_eq_true rfl, Nat.le_of_ble_eq_true rfl⟩
    · show WGo _ (93, [wI sel, wJ d1, wS, wJ d2, wS, wI s, wI l, wR 0, wI 1, wU, wU, wU], [.int 4], [(.inl (.char, [(.int x0), (.int x1), (.int x2), (.int x3), (.int x4), (.int x5)]))], 6) _
      refine WGo.s (WStep.istore (L' := [wI sel, wJ d1, wS, wJ d2, wS, wI s, wI l, wR 0, wI 1, wI 4, wU, wU]) a0_93 rfl) ?_
      refine WGo.s (WStep.iload a0_95 rfl) ?_
      refine WGo.s (WStep.iload a0_97 rfl) ?_
      refine WGo.s (WStep.iadd a0_99) ?_
      show WGo _ (100, [wI sel, wJ d1, wS, wJ d2, wS, wI s, wI l, wR 0, wI 1, wI 4, wU, wU], [.int 5], [(.inl (.char, [(.int x0), (.int x1), (.int x2), (.int x3), (.int x4), (.int x5)]))], 6) _
      refine WGo.s (WStep.istore (L' := [wI sel, wJ d1, wS, wJ d2, wS, wI s, wI l, wR 0, wI 1, wI 4, wI 5, wU]) a0_100 rfl) ?_
      refine WGo.s (WStep.aload a0_102 rfl rfl) ?_
      refine WGo.s (WStep.iconst (0 : Int32) a0_104 rfl) ?_
      refine WGo.s (WStep.iload a0_105 rfl) ?_
      refine WGo.s (WStep.iload a0_107 rfl) ?_
      refine WGo.callS a0_109 (ok2 hw _ _ _ _) (wd hw 6 rfl) (wd hw 7 rfl) (argsL := [.ref 0, .int 0, .int 1, .int 5]) (S := []) (c2 hw _ _ x0 x1 x2 x3 x4 x5 0 1 5 x0 0 (by decide) rfl rfl _) rfl rfl rfl rfl rfl rfl (Nat.le_of_ble_eq_true rfl) (Nat.le_of_ble_eq_true rfl) ?_
      rintro _ _ _ ⟨⟨rfl, hA⟩ | ⟨rfl, hA⟩, rfl, rfl⟩
      · exact absurd (by decide) hA.1
      · clear hA
        show WGo _ (112, [wI sel, wJ d1, wS, wJ d2, wS, wI s, wI l, wR 0, wI 1, wI 4, wI 5, wU], [.int 0], [(.inl (.char, [(.int x0), (.int x1), (.int x2), (.int x3), (.int x4), (.int x5)]))], 6) _
        refine WGo.s (WStep.ifF a0_112 (by decide)) ?_
        refine WGo.s (WStep.aload a0_115 rfl rfl) ?_
        refine WGo.s (WStep.iconst (1 : Int32) a0_117 rfl) ?_
        refine WGo.s (WStep.iload a0_118 rfl) ?_
        refine WGo.s (WStep.iload a0_120 rfl) ?_
        refine WGo.callS a0_122 (ok2 hw _ _ _ _) (wd hw 6 rfl) (wd hw 7 rfl) (argsL := [.ref 0, .int 1, .int 1, .int 5]) (S := []) (c2 hw _ _ x0 x1 x2 x3 x4 x5 1 1 5 x1 1 (by decide) rfl rfl _) rfl rfl rfl rfl rfl rfl (Nat.le_of_ble_eq_true rfl) (Nat.le_of_ble_eq_true rfl) ?_
        rintro _ _ _ ⟨⟨rfl, hA⟩ | ⟨rfl, hA⟩, rfl, rfl⟩
        · have hx1 := hA.2.2
          clear hA
          show WGo _ (125, [wI sel, wJ d1, wS, wJ d2, wS, wI s, wI l, wR 0, wI 1, wI 4, wI 5, wU], [.int 1], [(.inl (.char, [(.int x0), (.int x1), (.int x2), (.int x3), (.int x4), (.int x5)]))], 6) _
          refine WGo.s (WStep.ifT a0_125 (by decide)) ?_
          refine WGo.s (WStep.iconst (1 : Int32) a0_180 rfl) ?_
          refine WGo.s (WStep.goto a0_181) ?_
          refine WGo.s (WStep.istore (L' := [wI sel, wJ d1, wS, wJ d2, wS, wI s, wI l, wR 0, wI 1, wI 4, wI 5, wI 1]) a0_185 rfl) ?_
          refine WGo.s (WStep.aload a0_187 rfl rfl) ?_
          refine WGo.s (WStep.iload a0_189 rfl) ?_
          refine WGo.s (WStep.iload a0_191 rfl) ?_
          refine WGo.callS a0_193 (ok3 hw _ _ _ _) (wd hw 9 rfl) (wd hw 10 rfl) (argsL := [.ref 0, .int 1, .int 4]) (S := []) (c3_14 hw _ _ x0 x1 x2 x3 x4 x5 _) rfl rfl rfl rfl rfl rfl (Nat.le_of_ble_eq_true rfl) (Nat.le_of_ble_eq_true rfl) ?_
          rintro _ _ _ ⟨⟨rfl, hM⟩ | ⟨rfl, hM⟩, rfl, rfl⟩
          · skip
            show WGo _ (196, [wI sel, wJ d1, wS, wJ d2, wS, wI s, wI l, wR 0, wI 1, wI 4, wI 5, wI 1], [.int 1], [(.inl (.char, [(.int x0), (.int x1), (.int x2), (.int x3), (.int x4), (.int x5)]))], 6) _
            refine WGo.s (WStep.iload a0_196 rfl) ?_
            refine WGo.s (WStep.icmpF a0_198 (by decide)) ?_
            refine WGo.s (WStep.iconst (1 : Int32) a0_201 rfl) ?_
            refine WGo.s (WStep.goto a0_202) ?_
            refine WGo.ireturn .boolean a0_206 rfl (by simp) ?_
            exact ⟨rfl, Nat.le_of_ble_eq_true rfl, Nat.le_of_ble_eq_true rfl⟩
          · exfalso
            simp_all
        · have hx1 : ¬ x1 = 93 := fun q => hA ⟨by decide, by decide, q⟩
          clear hA
          show WGo _ (125, [wI sel, wJ d1, wS, wJ d2, wS, wI s, wI l, wR 0, wI 1, wI 4, wI 5, wU], [.int 0], [(.inl (.char, [(.int x0), (.int x1), (.int x2), (.int x3), (.int x4), (.int x5)]))], 6) _
          refine WGo.s (WStep.ifF a0_125 (by decide)) ?_
          refine WGo.s (WStep.aload a0_128 rfl rfl) ?_
          refine WGo.s (WStep.iconst (2 : Int32) a0_130 rfl) ?_
          refine WGo.s (WStep.iload a0_131 rfl) ?_
          refine WGo.s (WStep.iload a0_133 rfl) ?_
          refine WGo.callS a0_135 (ok2 hw _ _ _ _) (wd hw 6 rfl) (wd hw 7 rfl) (argsL := [.ref 0, .int 2, .int 1, .int 5]) (S := []) (c2 hw _ _ x0 x1 x2 x3 x4 x5 2 1 5 x2 2 (by decide) rfl rfl _) rfl rfl rfl rfl rfl rfl (Nat.le_of_ble_eq_true rfl) (Nat.le_of_ble_eq_true rfl) ?_
          rintro _ _ _ ⟨⟨rfl, hA⟩ | ⟨rfl, hA⟩, rfl, rfl⟩
          · have hx2 := hA.2.2
            clear hA
            show WGo _ (138, [wI sel, wJ d1, wS, wJ d2, wS, wI s, wI l, wR 0, wI 1, wI 4, wI 5, wU], [.int 1], [(.inl (.char, [(.int x0), (.int x1), (.int x2), (.int x3), (.int x4), (.int x5)]))], 6) _
            refine WGo.s (WStep.ifT a0_138 (by decide)) ?_
            refine WGo.s (WStep.iconst (1 : Int32) a0_180 rfl) ?_
            refine WGo.s (WStep.goto a0_181) ?_
            refine WGo.s (WStep.istore (L' := [wI sel, wJ d1, wS, wJ d2, wS, wI s, wI l, wR 0, wI 1, wI 4, wI 5, wI 1]) a0_185 rfl) ?_
            refine WGo.s (WStep.aload a0_187 rfl rfl) ?_
            refine WGo.s (WStep.iload a0_189 rfl) ?_
            refine WGo.s (WStep.iload a0_191 rfl) ?_
            refine WGo.callS a0_193 (ok3 hw _ _ _ _) (wd hw 9 rfl) (wd hw 10 rfl) (argsL := [.ref 0, .int 1, .int 4]) (S := []) (c3_14 hw _ _ x0 x1 x2 x3 x4 x5 _) rfl rfl rfl rfl rfl rfl (Nat.le_of_ble_eq_true rfl) (Nat.le_of_ble_eq_true rfl) ?_
            rintro _ _ _ ⟨⟨rfl, hM⟩ | ⟨rfl, hM⟩, rfl, rfl⟩
            · skip
              show WGo _ (196, [wI sel, wJ d1, wS, wJ d2, wS, wI s, wI l, wR 0, wI 1, wI 4, wI 5, wI 1], [.int 1], [(.inl (.char, [(.int x0), (.int x1), (.int x2), (.int x3), (.int x4), (.int x5)]))], 6) _
              refine WGo.s (WStep.iload a0_196 rfl) ?_
              refine WGo.s (WStep.icmpF a0_198 (by decide)) ?_
              refine WGo.s (WStep.iconst (1 : Int32) a0_201 rfl) ?_
              refine WGo.s (WStep.goto a0_202) ?_
              refine WGo.ireturn .boolean a0_206 rfl (by simp) ?_
              exact ⟨rfl, Nat.le_of_ble_eq_true rfl, Nat.le_of_ble_eq_true rfl⟩
            · exfalso
              simp_all
          · have hx2 : ¬ x2 = 93 := fun q => hA ⟨by decide, by decide, q⟩
            clear hA
            show WGo _ (138, [wI sel, wJ d1, wS, wJ d2, wS, wI s, wI l, wR 0, wI 1, wI 4, wI 5, wU], [.int 0], [(.inl (.char, [(.int x0), (.int x1), (.int x2), (.int x3), (.int x4), (.int x5)]))], 6) _
            refine WGo.s (WStep.ifF a0_138 (by decide)) ?_
            refine WGo.s (WStep.aload a0_141 rfl rfl) ?_
            refine WGo.s (WStep.iconst (3 : Int32) a0_143 rfl) ?_
            refine WGo.s (WStep.iload a0_144 rfl) ?_
            refine WGo.s (WStep.iload a0_146 rfl) ?_
            refine WGo.callS a0_148 (ok2 hw _ _ _ _) (wd hw 6 rfl) (wd hw 7 rfl) (argsL := [.ref 0, .int 3, .int 1, .int 5]) (S := []) (c2 hw _ _ x0 x1 x2 x3 x4 x5 3 1 5 x3 3 (by decide) rfl rfl _) rfl rfl rfl rfl rfl rfl (Nat.le_of_ble_eq_true rfl) (Nat.le_of_ble_eq_true rfl) ?_
            rintro _ _ _ ⟨⟨rfl, hA⟩ | ⟨rfl, hA⟩, rfl, rfl⟩
            · have hx3 := hA.2.2
              clear hA
              show WGo _ (151, [wI sel, wJ d1, wS, wJ d2, wS, wI s, wI l, wR 0, wI 1, wI 4, wI 5, wU], [.int 1], [(.inl (.char, [(.int x0), (.int x1), (.int x2), (.int x3), (.int x4), (.int x5)]))], 6) _
              refine WGo.s (WStep.ifT a0_151 (by decide)) ?_
              refine WGo.s (WStep.iconst (1 : Int32) a0_180 rfl) ?_
              refine WGo.s (WStep.goto a0_181) ?_
              refine WGo.s (WStep.istore (L' := [wI sel, wJ d1, wS, wJ d2, wS, wI s, wI l, wR 0, wI 1, wI 4, wI 5, wI 1]) a0_185 rfl) ?_
              refine WGo.s (WStep.aload a0_187 rfl rfl) ?_
              refine WGo.s (WStep.iload a0_189 rfl) ?_
              refine WGo.s (WStep.iload a0_191 rfl) ?_
              refine WGo.callS a0_193 (ok3 hw _ _ _ _) (wd hw 9 rfl) (wd hw 10 rfl) (argsL := [.ref 0, .int 1, .int 4]) (S := []) (c3_14 hw _ _ x0 x1 x2 x3 x4 x5 _) rfl rfl rfl rfl rfl rfl (Nat.le_of_ble_eq_true rfl) (Nat.le_of_ble_eq_true rfl) ?_
              rintro _ _ _ ⟨⟨rfl, hM⟩ | ⟨rfl, hM⟩, rfl, rfl⟩
              · skip
                show WGo _ (196, [wI sel, wJ d1, wS, wJ d2, wS, wI s, wI l, wR 0, wI 1, wI 4, wI 5, wI 1], [.int 1], [(.inl (.char, [(.int x0), (.int x1), (.int x2), (.int x3), (.int x4), (.int x5)]))], 6) _
                refine WGo.s (WStep.iload a0_196 rfl) ?_
                refine WGo.s (WStep.icmpF a0_198 (by decide)) ?_
                refine WGo.s (WStep.iconst (1 : Int32) a0_201 rfl) ?_
                refine WGo.s (WStep.goto a0_202) ?_
                refine WGo.ireturn .boolean a0_206 rfl (by simp) ?_
                exact ⟨rfl, Nat.le_of_ble_eq_true rfl, Nat.le_of_ble_eq_true rfl⟩
              · exfalso
                simp_all
            · have hx3 : ¬ x3 = 93 := fun q => hA ⟨by decide, by decide, q⟩
              clear hA
              show WGo _ (151, [wI sel, wJ d1, wS, wJ d2, wS, wI s, wI l, wR 0, wI 1, wI 4, wI 5, wU], [.int 0], [(.inl (.char, [(.int x0), (.int x1), (.int x2), (.int x3), (.int x4), (.int x5)]))], 6) _
              refine WGo.s (WStep.ifF a0_151 (by decide)) ?_
              refine WGo.s (WStep.aload a0_154 rfl rfl) ?_
              refine WGo.s (WStep.iconst (4 : Int32) a0_156 rfl) ?_
              refine WGo.s (WStep.iload a0_157 rfl) ?_
              refine WGo.s (WStep.iload a0_159 rfl) ?_
              refine WGo.callS a0_161 (ok2 hw _ _ _ _) (wd hw 6 rfl) (wd hw 7 rfl) (argsL := [.ref 0, .int 4, .int 1, .int 5]) (S := []) (c2 hw _ _ x0 x1 x2 x3 x4 x5 4 1 5 x4 4 (by decide) rfl rfl _) rfl rfl rfl rfl rfl rfl (Nat.le_of_ble_eq_true rfl) (Nat.le_of_ble_eq_true rfl) ?_
              rintro _ _ _ ⟨⟨rfl, hA⟩ | ⟨rfl, hA⟩, rfl, rfl⟩
              · exact absurd hA.2.1 (by decide)
              · clear hA
                show WGo _ (164, [wI sel, wJ d1, wS, wJ d2, wS, wI s, wI l, wR 0, wI 1, wI 4, wI 5, wU], [.int 0], [(.inl (.char, [(.int x0), (.int x1), (.int x2), (.int x3), (.int x4), (.int x5)]))], 6) _
                refine WGo.s (WStep.ifF a0_164 (by decide)) ?_
                refine WGo.s (WStep.aload a0_167 rfl rfl) ?_
                refine WGo.s (WStep.iconst (5 : Int32) a0_169 rfl) ?_
                refine WGo.s (WStep.iload a0_170 rfl) ?_
                refine WGo.s (WStep.iload a0_172 rfl) ?_
                refine WGo.callS a0_174 (ok2 hw _ _ _ _) (wd hw 6 rfl) (wd hw 7 rfl) (argsL := [.ref 0, .int 5, .int 1, .int 5]) (S := []) (c2 hw _ _ x0 x1 x2 x3 x4 x5 5 1 5 x5 5 (by decide) rfl rfl _) rfl rfl rfl rfl rfl rfl (Nat.le_of_ble_eq_true rfl) (Nat.le_of_ble_eq_true rfl) ?_
                rintro _ _ _ ⟨⟨rfl, hA⟩ | ⟨rfl, hA⟩, rfl, rfl⟩
                · exact absurd hA.2.1 (by decide)
                · clear hA
                  show WGo _ (177, [wI sel, wJ d1, wS, wJ d2, wS, wI s, wI l, wR 0, wI 1, wI 4, wI 5, wU], [.int 0], [(.inl (.char, [(.int x0), (.int x1), (.int x2), (.int x3), (.int x4), (.int x5)]))], 6) _
                  refine WGo.s (WStep.ifT a0_177 (by decide)) ?_
                  refine WGo.s (WStep.iconst (0 : Int32) a0_184 rfl) ?_
                  refine WGo.s (WStep.istore (L' := [wI sel, wJ d1, wS, wJ d2, wS, wI s, wI l, wR 0, wI 1, wI 4, wI 5, wI 0]) a0_185 rfl) ?_
                  refine WGo.s (WStep.aload a0_187 rfl rfl) ?_
                  refine WGo.s (WStep.iload a0_189 rfl) ?_
                  refine WGo.s (WStep.iload a0_191 rfl) ?_
                  refine WGo.callS a0_193 (ok3 hw _ _ _ _) (wd hw 9 rfl) (wd hw 10 rfl) (argsL := [.ref 0, .int 1, .int 4]) (S := []) (c3_14 hw _ _ x0 x1 x2 x3 x4 x5 _) rfl rfl rfl rfl rfl rfl (Nat.le_of_ble_eq_true rfl) (Nat.le_of_ble_eq_true rfl) ?_
                  rintro _ _ _ ⟨⟨rfl, hM⟩ | ⟨rfl, hM⟩, rfl, rfl⟩
                  · exfalso
                    simp_all
                  · skip
                    show WGo _ (196, [wI sel, wJ d1, wS, wJ d2, wS, wI s, wI l, wR 0, wI 1, wI 4, wI 5, wI 0], [.int 0], [(.inl (.char, [(.int x0), (.int x1), (.int x2), (.int x3), (.int x4), (.int x5)]))], 6) _
                    refine WGo.s (WStep.iload a0_196 rfl) ?_
                    refine WGo.s (WStep.icmpF a0_198 (by decide)) ?_
                    refine WGo.s (WStep.iconst (1 : Int32) a0_201 rfl) ?_
                    refine WGo.s (WStep.goto a0_202) ?_
                    refine WGo.ireturn .boolean a0_206 rfl (by simp) ?_
                    exact ⟨rfl, Nat.le_of_ble_eq_true rfl, Nat.le_of_ble_eq_true rfl⟩
    · show WGo _ (93, [wI sel, wJ d1, wS, wJ d2, wS, wI s, wI l, wR 0, wI 1, wU, wU, wU], [.int 5], [(.inl (.char, [(.int x0), (.int x1), (.int x2), (.int x3), (.int x4), (.int x5)]))], 6) _
      refine WGo.s (WStep.istore (L' := [wI sel, wJ d1, wS, wJ d2, wS, wI s, wI l, wR 0, wI 1, wI 5, wU, wU]) a0_93 rfl) ?_
      refine WGo.s (WStep.iload a0_95 rfl) ?_
      refine WGo.s (WStep.iload a0_97 rfl) ?_
      refine WGo.s (WStep.iadd a0_99) ?_
      show WGo _ (100, [wI sel, wJ d1, wS, wJ d2, wS, wI s, wI l, wR 0, wI 1, wI 5, wU, wU], [.int 6], [(.inl (.char, [(.int x0), (.int x1), (.int x2), (.int x3), (.int x4), (.int x5)]))], 6) _
      refine WGo.s (WStep.istore (L' := [wI sel, wJ d1, wS, wJ d2, wS, wI s, wI l, wR 0, wI 1, wI 5, wI 6, wU]) a0_100 rfl) ?_
      refine WGo.s (WStep.aload a0_102 rfl rfl) ?_
      refine WGo.s (WStep.iconst (0 : Int32) a0_104 rfl) ?_
      refine WGo.s (WStep.iload a0_105 rfl) ?_
      refine WGo.s (WStep.iload a0_107 rfl) ?_
      refine WGo.callS a0_109 (ok2 hw _ _ _ _) (wd hw 6 rfl) (wd hw 7 rfl) (argsL := [.ref 0, .int 0, .int 1, .int 6]) (S := []) (c2 hw _ _ x0 x1 x2 x3 x4 x5 0 1 6 x0 0 (by decide) rfl rfl _) rfl rfl rfl rfl rfl rfl (Nat.le_of_ble_eq_true rfl) (Nat.le_of_ble_eq_true rfl) ?_
      rintro _ _ _ ⟨⟨rfl, hA⟩ | ⟨rfl, hA⟩, rfl, rfl⟩
      · exact absurd (by decide) hA.1
      · clear hA
        show WGo _ (112, [wI sel, wJ d1, wS, wJ d2, wS, wI s, wI l, wR 0, wI 1, wI 5, wI 6, wU], [.int 0], [(.inl (.char, [(.int x0), (.int x1), (.int x2), (.int x3), (.int x4), (.int x5)]))], 6) _
        refine WGo.s (WStep.ifF a0_112 (by decide)) ?_
        refine WGo.s (WStep.aload a0_115 rfl rfl) ?_
        refine WGo.s (WStep.iconst (1 : Int32) a0_117 rfl) ?_
        refine WGo.s (WStep.iload a0_118 rfl) ?_
        refine WGo.s (WStep.iload a0_120 rfl) ?_
        refine WGo.callS a0_122 (ok2 hw _ _ _ _) (wd hw 6 rfl) (wd hw 7 rfl) (argsL := [.ref 0, .int 1, .int 1, .int 6]) (S := []) (c2 hw _ _ x0 x1 x2 x3 x4 x5 1 1 6 x1 1 (by decide) rfl rfl _) rfl rfl rfl rfl rfl rfl (Nat.le_of_ble_eq_true rfl) (Nat.le_of_ble_eq_true rfl) ?_
        rintro _ _ _ ⟨⟨rfl, hA⟩ | ⟨rfl, hA⟩, rfl, rfl⟩
        · have hx1 := hA.2.2
          clear hA
          show WGo _ (125, [wI sel, wJ d1, wS, wJ d2, wS, wI s, wI l, wR 0, wI 1, wI 5, wI 6, wU], [.int 1], [(.inl (.char, [(.int x0), (.int x1), (.int x2), (.int x3), (.int x4), (.int x5)]))], 6) _
          refine WGo.s (WStep.ifT a0_125 (by decide)) ?_
          refine WGo.s (WStep.iconst (1 : Int32) a0_180 rfl) ?_
          refine WGo.s (WStep.goto a0_181) ?_
          refine WGo.s (WStep.istore (L' := [wI sel, wJ d1, wS, wJ d2, wS, wI s, wI l, wR 0, wI 1, wI 5, wI 6, wI 1]) a0_185 rfl) ?_
          refine WGo.s (WStep.aload a0_187 rfl rfl) ?_
          refine WGo.s (WStep.iload a0_189 rfl) ?_
          refine WGo.s (WStep.iload a0_191 rfl) ?_
          refine WGo.callS a0_193 (ok3 hw _ _ _ _) (wd hw 9 rfl) (wd hw 10 rfl) (argsL := [.ref 0, .int 1, .int 5]) (S := []) (c3_15 hw _ _ x0 x1 x2 x3 x4 x5 _) rfl rfl rfl rfl rfl rfl (Nat.le_of_ble_eq_true rfl) (Nat.le_of_ble_eq_true rfl) ?_
          rintro _ _ _ ⟨⟨rfl, hM⟩ | ⟨rfl, hM⟩, rfl, rfl⟩
          · skip
            show WGo _ (196, [wI sel, wJ d1, wS, wJ d2, wS, wI s, wI l, wR 0, wI 1, wI 5, wI 6, wI 1], [.int 1], [(.inl (.char, [(.int x0), (.int x1), (.int x2), (.int x3), (.int x4), (.int x5)]))], 6) _
            refine WGo.s (WStep.iload a0_196 rfl) ?_
            refine WGo.s (WStep.icmpF a0_198 (by decide)) ?_
            refine WGo.s (WStep.iconst (1 : Int32) a0_201 rfl) ?_
            refine WGo.s (WStep.goto a0_202) ?_
            refine WGo.ireturn .boolean a0_206 rfl (by simp) ?_
            exact ⟨rfl, Nat.le_of_ble_eq_true rfl, Nat.le_of_ble_eq_true rfl⟩
          · exfalso
            simp_all
        · have hx1 : ¬ x1 = 93 := fun q => hA ⟨by decide, by decide, q⟩
          clear hA
          show WGo _ (125, [wI sel, wJ d1, wS, wJ d2, wS, wI s, wI l, wR 0, wI 1, wI 5, wI 6, wU], [.int 0], [(.inl (.char, [(.int x0), (.int x1), (.int x2), (.int x3), (.int x4), (.int x5)]))], 6) _
          refine WGo.s (WStep.ifF a0_125 (by decide)) ?_
          refine WGo.s (WStep.aload a0_128 rfl rfl) ?_
          refine WGo.s (WStep.iconst (2 : Int32) a0_130 rfl) ?_
          refine WGo.s (WStep.iload a0_131 rfl) ?_
          refine WGo.s (WStep.iload a0_133 rfl) ?_
          refine WGo.callS a0_135 (ok2 hw _ _ _ _) (wd hw 6 rfl) (wd hw 7 rfl) (argsL := [.ref 0, .int 2, .int 1, .int 6]) (S := []) (c2 hw _ _ x0 x1 x2 x3 x4 x5 2 1 6 x2 2 (by decide) rfl rfl _) rfl rfl rfl rfl rfl rfl (Nat.le_of_ble_eq_true rfl) (Nat.le_of_ble_eq_true rfl) ?_
          rintro _ _ _ ⟨⟨rfl, hA⟩ | ⟨rfl, hA⟩, rfl, rfl⟩
          · have hx2 := hA.2.2
            clear hA
            show WGo _ (138, [wI sel, wJ d1, wS, wJ d2, wS, wI s, wI l, wR 0, wI 1, wI 5, wI 6, wU], [.int 1], [(.inl (.char, [(.int x0), (.int x1), (.int x2), (.int x3), (.int x4), (.int x5)]))], 6) _
            refine WGo.s (WStep.ifT a0_138 (by decide)) ?_
            refine WGo.s (WStep.iconst (1 : Int32) a0_180 rfl) ?_
            refine WGo.s (WStep.goto a0_181) ?_
            refine WGo.s (WStep.istore (L' := [wI sel, wJ d1, wS, wJ d2, wS, wI s, wI l, wR 0, wI 1, wI 5, wI 6, wI 1]) a0_185 rfl) ?_
            refine WGo.s (WStep.aload a0_187 rfl rfl) ?_
            refine WGo.s (WStep.iload a0_189 rfl) ?_
            refine WGo.s (WStep.iload a0_191 rfl) ?_
            refine WGo.callS a0_193 (ok3 hw _ _ _ _) (wd hw 9 rfl) (wd hw 10 rfl) (argsL := [.ref 0, .int 1, .int 5]) (S := []) (c3_15 hw _ _ x0 x1 x2 x3 x4 x5 _) rfl rfl rfl rfl rfl rfl (Nat.le_of_ble_eq_true rfl) (Nat.le_of_ble_eq_true rfl) ?_
            rintro _ _ _ ⟨⟨rfl, hM⟩ | ⟨rfl, hM⟩, rfl, rfl⟩
            · skip
              show WGo _ (196, [wI sel, wJ d1, wS, wJ d2, wS, wI s, wI l, wR 0, wI 1, wI 5, wI 6, wI 1], [.int 1], [(.inl (.char, [(.int x0), (.int x1), (.int x2), (.int x3), (.int x4), (.int x5)]))], 6) _
              refine WGo.s (WStep.iload a0_196 rfl) ?_
              refine WGo.s (WStep.icmpF a0_198 (by decide)) ?_
              refine WGo.s (WStep.iconst (1 : Int32) a0_201 rfl) ?_
              refine WGo.s (WStep.goto a0_202) ?_
              refine WGo.ireturn .boolean a0_206 rfl (by simp) ?_
              exact ⟨rfl, Nat.le_of_ble_eq_true rfl, Nat.le_of_ble_eq_true rfl⟩
            · exfalso
              simp_all
          · have hx2 : ¬ x2 = 93 := fun q => hA ⟨by decide, by decide, q⟩
            clear hA
            show WGo _ (138, [wI sel, wJ d1, wS, wJ d2, wS, wI s, wI l, wR 0, wI 1, wI 5, wI 6, wU], [.int 0], [(.inl (.char, [(.int x0), (.int x1), (.int x2), (.int x3), (.int x4), (.int x5)]))], 6) _
            refine WGo.s (WStep.ifF a0_138 (by decide)) ?_
            refine WGo.s (WStep.aload a0_141 rfl rfl) ?_
            refine WGo.s (WStep.iconst (3 : Int32) a0_143 rfl) ?_
            refine WGo.s (WStep.iload a0_144 rfl) ?_
            refine WGo.s (WStep.iload a0_146 rfl) ?_
            refine WGo.callS a0_148 (ok2 hw _ _ _ _) (wd hw 6 rfl) (wd hw 7 rfl) (argsL := [.ref 0, .int 3, .int 1, .int 6]) (S := []) (c2 hw _ _ x0 x1 x2 x3 x4 x5 3 1 6 x3 3 (by decide) rfl rfl _) rfl rfl rfl rfl rfl rfl (Nat.le_of_ble_eq_true rfl) (Nat.le_of_ble_eq_true rfl) ?_
            rintro _ _ _ ⟨⟨rfl, hA⟩ | ⟨rfl, hA⟩, rfl, rfl⟩
            · have hx3 := hA.2.2
              clear hA
              show WGo _ (151, [wI sel, wJ d1, wS, wJ d2, wS, wI s, wI l, wR 0, wI 1, wI 5, wI 6, wU], [.int 1], [(.inl (.char, [(.int x0), (.int x1), (.int x2), (.int x3), (.int x4), (.int x5)]))], 6) _
              refine WGo.s (WStep.ifT a0_151 (by decide)) ?_
              refine WGo.s (WStep.iconst (1 : Int32) a0_180 rfl) ?_
              refine WGo.s (WStep.goto a0_181) ?_
              refine WGo.s (WStep.istore (L' := [wI sel, wJ d1, wS, wJ d2, wS, wI s, wI l, wR 0, wI 1, wI 5, wI 6, wI 1]) a0_185 rfl) ?_
              refine WGo.s (WStep.aload a0_187 rfl rfl) ?_
              refine WGo.s (WStep.iload a0_189 rfl) ?_
              refine WGo.s (WStep.iload a0_191 rfl) ?_
              refine WGo.callS a0_193 (ok3 hw _ _ _ _) (wd hw 9 rfl) (wd hw 10 rfl) (argsL := [.ref 0, .int 1, .int 5]) (S := []) (c3_15 hw _ _ x0 x1 x2 x3 x4 x5 _) rfl rfl rfl rfl rfl rfl (Nat.le_of_ble_eq_true rfl) (Nat.le_of_ble_eq_true rfl) ?_
              rintro _ _ _ ⟨⟨rfl, hM⟩ | ⟨rfl, hM⟩, rfl, rfl⟩
              · skip
                show WGo _ (196, [wI sel, wJ d1, wS, wJ d2, wS, wI s, wI l, wR 0, wI 1, wI 5, wI 6, wI 1], [.int 1], [(.inl (.char, [(.int x0), (.int x1), (.int x2), (.int x3), (.int x4), (.int x5)]))], 6) _
                refine WGo.s (WStep.iload a0_196 rfl) ?_
                refine WGo.s (WStep.icmpF a0_198 (by decide)) ?_
                refine WGo.s (WStep.iconst (1 : Int32) a0_201 rfl) ?_
                refine WGo.s (WStep.goto a0_202) ?_
                refine WGo.ireturn .boolean a0_206 rfl (by simp) ?_
                exact ⟨rfl, Nat.le_of_ble_eq_true rfl, Nat.le_of_ble_eq_true rfl⟩
              · exfalso
                simp_all
            · have hx3 : ¬ x3 = 93 := fun q => hA ⟨by decide, by decide, q⟩
              clear hA
              show WGo _ (151, [wI sel, wJ d1, wS, wJ d2, wS, wI s, wI l, wR 0, wI 1, wI 5, wI 6, wU], [.int 0], [(.inl (.char, [(.int x0), (.int x1), (.int x2), (.int x3), (.int x4), (.int x5)]))], 6) _
              refine WGo.s (WStep.ifF a0_151 (by decide)) ?_
              refine WGo.s (WStep.aload a0_154 rfl rfl) ?_
              refine WGo.s (WStep.iconst (4 : Int32) a0_156 rfl) ?_
              refine WGo.s (WStep.iload a0_157 rfl) ?_
              refine WGo.s (WStep.iload a0_159 rfl) ?_
              refine WGo.callS a0_161 (ok2 hw _ _ _ _) (wd hw 6 rfl) (wd hw 7 rfl) (argsL := [.ref 0, .int 4, .int 1, .int 6]) (S := []) (c2 hw _ _ x0 x1 x2 x3 x4 x5 4 1 6 x4 4 (by decide) rfl rfl _) rfl rfl rfl rfl rfl rfl (Nat.le_of_ble_eq_true rfl) (Nat.le_of_ble_eq_true rfl) ?_
              rintro _ _ _ ⟨⟨rfl, hA⟩ | ⟨rfl, hA⟩, rfl, rfl⟩
              · have hx4 := hA.2.2
                clear hA
                show WGo _ (164, [wI sel, wJ d1, wS, wJ d2, wS, wI s, wI l, wR 0, wI 1, wI 5, wI 6, wU], [.int 1], [(.inl (.char, [(.int x0), (.int x1), (.int x2), (.int x3), (.int x4), (.int x5)]))], 6) _
                refine WGo.s (WStep.ifT a0_164 (by decide)) ?_
                refine WGo.s (WStep.iconst (1 : Int32) a0_180 rfl) ?_
                refine WGo.s (WStep.goto a0_181) ?_
                refine WGo.s (WStep.istore (L' := [wI sel, wJ d1, wS, wJ d2, wS, wI s, wI l, wR 0, wI 1, wI 5, wI 6, wI 1]) a0_185 rfl) ?_
                refine WGo.s (WStep.aload a0_187 rfl rfl) ?_
                refine WGo.s (WStep.iload a0_189 rfl) ?_
                refine WGo.s (WStep.iload a0_191 rfl) ?_
                refine WGo.callS a0_193 (ok3 hw _ _ _ _) (wd hw 9 rfl) (wd hw 10 rfl) (argsL := [.ref 0, .int 1, .int 5]) (S := []) (c3_15 hw _ _ x0 x1 x2 x3 x4 x5 _) rfl rfl rfl rfl rfl rfl (Nat.le_of_ble_eq_true rfl) (Nat.le_of_ble_eq_true rfl) ?_
                rintro _ _ _ ⟨⟨rfl, hM⟩ | ⟨rfl, hM⟩, rfl, rfl⟩
                · skip
                  show WGo _ (196, [wI sel, wJ d1, wS, wJ d2, wS, wI s, wI l, wR 0, wI 1, wI 5, wI 6, wI 1], [.int 1], [(.inl (.char, [(.int x0), (.int x1), (.int x2), (.int x3), (.int x4), (.int x5)]))], 6) _
                  refine WGo.s (WStep.iload a0_196 rfl) ?_
                  refine WGo.s (WStep.icmpF a0_198 (by decide)) ?_
                  refine WGo.s (WStep.iconst (1 : Int32) a0_201 rfl) ?_
                  refine WGo.s (WStep.goto a0_202) ?_
                  refine WGo.ireturn .boolean a0_206 rfl (by simp) ?_
                  exact ⟨rfl, Nat.le_of_ble_eq_true rfl, Nat.le_of_ble_eq_true rfl⟩
                · exfalso
                  simp_all
              · have hx4 : ¬ x4 = 93 := fun q => hA ⟨by decide, by decide, q⟩
                clear hA
                show WGo _ (164, [wI sel, wJ d1, wS, wJ d2, wS, wI s, wI l, wR 0, wI 1, wI 5, wI 6, wU], [.int 0], [(.inl (.char, [(.int x0), (.int x1), (.int x2), (.int x3), (.int x4), (.int x5)]))], 6) _
                refine WGo.s (WStep.ifF a0_164 (by decide)) ?_
                refine WGo.s (WStep.aload a0_167 rfl rfl) ?_
                refine WGo.s (WStep.iconst (5 : Int32) a0_169 rfl) ?_
                refine WGo.s (WStep.iload a0_170 rfl) ?_
                refine WGo.s (WStep.iload a0_172 rfl) ?_
                refine WGo.callS a0_174 (ok2 hw _ _ _ _) (wd hw 6 rfl) (wd hw 7 rfl) (argsL := [.ref 0, .int 5, .int 1, .int 6]) (S := []) (c2 hw _ _ x0 x1 x2 x3 x4 x5 5 1 6 x5 5 (by decide) rfl rfl _) rfl rfl rfl rfl rfl rfl (Nat.le_of_ble_eq_true rfl) (Nat.le_of_ble_eq_true rfl) ?_
                rintro _ _ _ ⟨⟨rfl, hA⟩ | ⟨rfl, hA⟩, rfl, rfl⟩
                · exact absurd hA.2.1 (by decide)
                · clear hA
                  show WGo _ (177, [wI sel, wJ d1, wS, wJ d2, wS, wI s, wI l, wR 0, wI 1, wI 5, wI 6, wU], [.int 0], [(.inl (.char, [(.int x0), (.int x1), (.int x2), (.int x3), (.int x4), (.int x5)]))], 6) _
                  refine WGo.s (WStep.ifT a0_177 (by decide)) ?_
                  refine WGo.s (WStep.iconst (0 : Int32) a0_184 rfl) ?_
                  refine WGo.s (WStep.istore (L' := [wI sel, wJ d1, wS, wJ d2, wS, wI s, wI l, wR 0, wI 1, wI 5, wI 6, wI 0]) a0_185 rfl) ?_
                  refine WGo.s (WStep.aload a0_187 rfl rfl) ?_
                  refine WGo.s (WStep.iload a0_189 rfl) ?_
                  refine WGo.s (WStep.iload a0_191 rfl) ?_
                  refine WGo.callS a0_193 (ok3 hw _ _ _ _) (wd hw 9 rfl) (wd hw 10 rfl) (argsL := [.ref 0, .int 1, .int 5]) (S := []) (c3_15 hw _ _ x0 x1 x2 x3 x4 x5 _) rfl rfl rfl rfl rfl rfl (Nat.le_of_ble_eq_true rfl) (Nat.le_of_ble_eq_true rfl) ?_
                  rintro _ _ _ ⟨⟨rfl, hM⟩ | ⟨rfl, hM⟩, rfl, rfl⟩
                  · exfalso
                    simp_all
                  · skip
                    show WGo _ (196, [wI sel, wJ d1, wS, wJ d2, wS, wI s, wI l, wR 0, wI 1, wI 5, wI 6, wI 0], [.int 0], [(.inl (.char, [(.int x0), (.int x1), (.int x2), (.int x3), (.int x4), (.int x5)]))], 6) _
                    refine WGo.s (WStep.iload a0_196 rfl) ?_
                    refine WGo.s (WStep.icmpF a0_198 (by decide)) ?_
                    refine WGo.s (WStep.iconst (1 : Int32) a0_201 rfl) ?_
                    refine WGo.s (WStep.goto a0_202) ?_
                    refine WGo.ireturn .boolean a0_206 rfl (by simp) ?_
                    exact ⟨rfl, Nat.le_of_ble_eq_true rfl, Nat.le_of_ble_eq_true rfl⟩
  · show WGo _ (80, [wI sel, wJ d1, wS, wJ d2, wS, wI s, wI l, wR 0, wU, wU, wU, wU], [.int 2], [(.inl (.char, [(.int x0), (.int x1), (.int x2), (.int x3), (.int x4), (.int x5)]))], 6) _
    refine WGo.s (WStep.istore (L' := [wI sel, wJ d1, wS, wJ d2, wS, wI s, wI l, wR 0, wI 2, wU, wU, wU]) a0_80 rfl) ?_
    refine WGo.s (WStep.iload a0_82 rfl) ?_
    refine WGo.s (WStep.ldc a0_84 (wd hw 5 rfl)) ?_
    refine WGo.s (WStep.iand a0_86) ?_
    refine WGo.s (WStep.bipush (7 : Int32) a0_87 rfl) ?_
    refine WGo.s (WStep.iload a0_89 rfl) ?_
    refine WGo.s (WStep.isub a0_91) ?_
    show WGo _ (92, [wI sel, wJ d1, wS, wJ d2, wS, wI s, wI l, wR 0, wI 2, wU, wU, wU], [.int 5, (.int (l &&& (2147483647 : Int32)))], [(.inl (.char, [(.int x0), (.int x1), (.int x2), (.int x3), (.int x4), (.int x5)]))], 6) _
    refine WGo.s (WStep.irem a0_92 (by decide)) ?_
    generalize hg_m : ((l &&& (2147483647 : Int32)) % (5 : Int32)) = m
    have hm := remx _ _ _ hg_m (by decide)
    have hs : m = 0 ∨ m = 1 ∨ m = 2 ∨ m = 3 ∨ m = 4 := by
      have e7 : (5 : Int32).toInt = 5 := rfl
      simp only [← Int32.toInt_inj, Int32.reduceToInt] at *
      omega
    rcases hs with rfl | rfl | rfl | rfl | rfl
    · show WGo _ (93, [wI sel, wJ d1, wS, wJ d2, wS, wI s, wI l, wR 0, wI 2, wU, wU, wU], [.int 0], [(.inl (.char, [(.int x0), (.int x1), (.int x2), (.int x3), (.int x4), (.int x5)]))], 6) _
      refine WGo.s (WStep.istore (L' := [wI sel, wJ d1, wS, wJ d2, wS, wI s, wI l, wR 0, wI 2, wI 0, wU, wU]) a0_93 rfl) ?_
      refine WGo.s (WStep.iload a0_95 rfl) ?_
      refine WGo.s (WStep.iload a0_97 rfl) ?_
      refine WGo.s (WStep.iadd a0_99) ?_
      show WGo _ (100, [wI sel, wJ d1, wS, wJ d2, wS, wI s, wI l, wR 0, wI 2, wI 0, wU, wU], [.int 2], [(.inl (.char, [(.int x0), (.int x1), (.int x2), (.int x3), (.int x4), (.int x5)]))], 6) _
      refine WGo.s (WStep.istore (L' := [wI sel, wJ d1, wS, wJ d2, wS, wI s, wI l, wR 0, wI 2, wI 0, wI 2, wU]) a0_100 rfl) ?_
      refine WGo.s (WStep.aload a0_102 rfl rfl) ?_
      refine WGo.s (WStep.iconst (0 : Int32) a0_104 rfl) ?_
      refine WGo.s (WStep.iload a0_105 rfl) ?_
      refine WGo.s (WStep.iload a0_107 rfl) ?_
      refine WGo.callS a0_109 (ok2 hw _ _ _ _) (wd hw 6 rfl) (wd hw 7 rfl) (argsL := [.ref 0, .int 0, .int 2, .int 2]) (S := []) (c2 hw _ _ x0 x1 x2 x3 x4 x5 0 2 2 x0 0 (by decide) rfl rfl _) rfl rfl rfl rfl rfl rfl (Nat.le_of_ble_eq_true rfl) (Nat.le_of_ble_eq_true rfl) ?_
      rintro _ _ _ ⟨⟨rfl, hA⟩ | ⟨rfl, hA⟩, rfl, rfl⟩
      · exact absurd (by decide) hA.1
      · clear hA
        show WGo _ (112, [wI sel, wJ d1, wS, wJ d2, wS, wI s, wI l, wR 0, wI 2, wI 0, wI 2, wU], [.int 0], [(.inl (.char, [(.int x0), (.int x1), (.int x2), (.int x3), (.int x4), (.int x5)]))], 6) _
        refine WGo.s (WStep.ifF a0_112 (by decide)) ?_
        refine WGo.s (WStep.aload a0_115 rfl rfl) ?_
        refine WGo.s (WStep.iconst (1 : Int32) a0_117 rfl) ?_
        refine WGo.s (WStep.iload a0_118 rfl) ?_
        refine WGo.s (WStep.iload a0_120 rfl) ?_
        refine WGo.callS a0_122 (ok2 hw _ _ _ _) (wd hw 6 rfl) (wd hw 7 rfl) (argsL := [.ref 0, .int 1, .int 2, .int 2]) (S := []) (c2 hw _ _ x0 x1 x2 x3 x4 x5 1 2 2 x1 1 (by decide) rfl rfl _) rfl rfl rfl rfl rfl rfl (Nat.le_of_ble_eq_true rfl) (Nat.le_of_ble_eq_true rfl) ?_
        rintro _ _ _ ⟨⟨rfl, hA⟩ | ⟨rfl, hA⟩, rfl, rfl⟩
        · exact absurd (by decide) hA.1
        · clear hA
          show WGo _ (125, [wI sel, wJ d1, wS, wJ d2, wS, wI s, wI l, wR 0, wI 2, wI 0, wI 2, wU], [.int 0], [(.inl (.char, [(.int x0), (.int x1), (.int x2), (.int x3), (.int x4), (.int x5)]))], 6) _
          refine WGo.s (WStep.ifF a0_125 (by decide)) ?_
          refine WGo.s (WStep.aload a0_128 rfl rfl) ?_
          refine WGo.s (WStep.iconst (2 : Int32) a0_130 rfl) ?_
          refine WGo.s (WStep.iload a0_131 rfl) ?_
          refine WGo.s (WStep.iload a0_133 rfl) ?_
          refine WGo.callS a0_135 (ok2 hw _ _ _ _) (wd hw 6 rfl) (wd hw 7 rfl) (argsL := [.ref 0, .int 2, .int 2, .int 2]) (S := []) (c2 hw _ _ x0 x1 x2 x3 x4 x5 2 2 2 x2 2 (by decide) rfl rfl _) rfl rfl rfl rfl rfl rfl (Nat.le_of_ble_eq_true rfl) (Nat.le_of_ble_eq_true rfl) ?_
          rintro _ _ _ ⟨⟨rfl, hA⟩ | ⟨rfl, hA⟩, rfl, rfl⟩
          · exact absurd hA.2.1 (by decide)
          · clear hA
            show WGo _ (138, [wI sel, wJ d1, wS, wJ d2, wS, wI s, wI l, wR 0, wI 2, wI 0, wI 2, wU], [.int 0], [(.inl (.char, [(.int x0), (.int x1), (.int x2), (.int x3), (.int x4), (.int x5)]))], 6) _
            refine WGo.s (WStep.ifF a0_138 (by decide)) ?_
            refine WGo.s (WStep.aload a0_141 rfl rfl) ?_
            refine WGo.s (WStep.iconst (3 : Int32) a0_143 rfl) ?_
            refine WGo.s (WStep.iload a0_144 rfl) ?_
            refine WGo.s (WStep.iload a0_146 rfl) ?_
            refine WGo.callS a0_148 (ok2 hw _ _ _ _) (wd hw 6 rfl) (wd hw 7 rfl) (argsL := [.ref 0, .int 3, .int 2, .int 2]) (S := []) (c2 hw _ _ x0 x1 x2 x3 x4 x5 3 2 2 x3 3 (by decide) rfl rfl _) rfl rfl rfl rfl rfl rfl (Nat.le_of_ble_eq_true rfl) (Nat.le_of_ble_eq_true rfl) ?_
            rintro _ _ _ ⟨⟨rfl, hA⟩ | ⟨rfl, hA⟩, rfl, rfl⟩
            · exact absurd hA.2.1 (by decide)
            · clear hA
              show WGo _ (151, [wI sel, wJ d1, wS, wJ d2, wS, wI s, wI l, wR 0, wI 2, wI 0, wI 2, wU], [.int 0], [(.inl (.char, [(.int x0), (.int x1), (.int x2), (.int x3), (.int x4), (.int x5)]))], 6) _
              refine WGo.s (WStep.ifF a0_151 (by decide)) ?_
              refine WGo.s (WStep.aload a0_154 rfl rfl) ?_
              refine WGo.s (WStep.iconst (4 : Int32) a0_156 rfl) ?_
              refine WGo.s (WStep.iload a0_157 rfl) ?_
              refine WGo.s (WStep.iload a0_159 rfl) ?_
              refine WGo.callS a0_161 (ok2 hw _ _ _ _) (wd hw 6 rfl) (wd hw 7 rfl) (argsL := [.ref 0, .int 4, .int 2, .int 2]) (S := []) (c2 hw _ _ x0 x1 x2 x3 x4 x5 4 2 2 x4 4 (by decide) rfl rfl _) rfl rfl rfl rfl rfl rfl (Nat.le_of_ble_eq_true rfl) (Nat.le_of_ble_eq_true rfl) ?_
              rintro _ _ _ ⟨⟨rfl, hA⟩ | ⟨rfl, hA⟩, rfl, rfl⟩
              · exact absurd hA.2.1 (by decide)
              · clear hA
                show WGo _ (164, [wI sel, wJ d1, wS, wJ d2, wS, wI s, wI l, wR 0, wI 2, wI 0, wI 2, wU], [.int 0], [(.inl (.char, [(.int x0), (.int x1), (.int x2), (.int x3), (.int x4), (.int x5)]))], 6) _
                refine WGo.s (WStep.ifF a0_164 (by decide)) ?_
                refine WGo.s (WStep.aload a0_167 rfl rfl) ?_
                refine WGo.s (WStep.iconst (5 : Int32) a0_169 rfl) ?_
                refine WGo.s (WStep.iload a0_170 rfl) ?_
                refine WGo.s (WStep.iload a0_172 rfl) ?_
                refine WGo.callS a0_174 (ok2 hw _ _ _ _) (wd hw 6 rfl) (wd hw 7 rfl) (argsL := [.ref 0, .int 5, .int 2, .int 2]) (S := []) (c2 hw _ _ x0 x1 x2 x3 x4 x5 5 2 2 x5 5 (by decide) rfl rfl _) rfl rfl rfl rfl rfl rfl (Nat.le_of_ble_eq_true rfl) (Nat.le_of_ble_eq_true rfl) ?_
                rintro _ _ _ ⟨⟨rfl, hA⟩ | ⟨rfl, hA⟩, rfl, rfl⟩
                · exact absurd hA.2.1 (by decide)
                · clear hA
                  show WGo _ (177, [wI sel, wJ d1, wS, wJ d2, wS, wI s, wI l, wR 0, wI 2, wI 0, wI 2, wU], [.int 0], [(.inl (.char, [(.int x0), (.int x1), (.int x2), (.int x3), (.int x4), (.int x5)]))], 6) _
                  refine WGo.s (WStep.ifT a0_177 (by decide)) ?_
                  refine WGo.s (WStep.iconst (0 : Int32) a0_184 rfl) ?_
                  refine WGo.s (WStep.istore (L' := [wI sel, wJ d1, wS, wJ d2, wS, wI s, wI l, wR 0, wI 2, wI 0, wI 2, wI 0]) a0_185 rfl) ?_
                  refine WGo.s (WStep.aload a0_187 rfl rfl) ?_
                  refine WGo.s (WStep.iload a0_189 rfl) ?_
                  refine WGo.s (WStep.iload a0_191 rfl) ?_
                  refine WGo.callS a0_193 (ok3 hw _ _ _ _) (wd hw 9 rfl) (wd hw 10 rfl) (argsL := [.ref 0, .int 2, .int 0]) (S := []) (c3_20 hw _ _ x0 x1 x2 x3 x4 x5 _) rfl rfl rfl rfl rfl rfl (Nat.le_of_ble_eq_true rfl) (Nat.le_of_ble_eq_true rfl) ?_
                  rintro _ _ _ ⟨⟨rfl, hM⟩ | ⟨rfl, hM⟩, rfl, rfl⟩
                  · exfalso
                    simp_all
                  · skip
                    show WGo _ (196, [wI sel, wJ d1, wS, wJ d2, wS, wI s, wI l, wR 0, wI 2, wI 0, wI 2, wI 0], [.int 0], [(.inl (.char, [(.int x0), (.int x1), (.int x2), (.int x3), (.int x4), (.int x5)]))], 6) _
                    refine WGo.s (WStep.iload a0_196 rfl) ?_
                    refine WGo.s (WStep.icmpF a0_198 (by decide)) ?_
                    refine WGo.s (WStep.iconst (1 : Int32) a0_201 rfl) ?_
                    refine WGo.s (WStep.goto a0_202) ?_
                    refine WGo.ireturn .boolean a0_206 rfl (by simp) ?_
                    exact ⟨rfl, Nat.le_of_ble_eq_true rfl, Nat.le_of_ble_eq_true rfl⟩
    · show WGo _ (93, [wI sel, wJ d1, wS, wJ d2, wS, wI s, wI l, wR 0, wI 2, wU, wU, wU], [.int 1], [(.inl (.char, [(.int x0), (.int x1), (.int x2), (.int x3), (.int x4), (.int x5)]))], 6) _
      refine WGo.s (WStep.istore (L' := [wI sel, wJ d1, wS, wJ d2, wS, wI s, wI l, wR 0, wI 2, wI 1, wU, wU]) a0_93 rfl) ?_
      refine WGo.s (WStep.iload a0_95 rfl) ?_
      refine WGo.s (WStep.iload a0_97 rfl) ?_
      refine WGo.s (WStep.iadd a0_99) ?_
      show WGo _ (100, [wI sel, wJ d1, wS, wJ d2, wS, wI s, wI l, wR 0, wI 2, wI 1, wU, wU], [.int 3], [(.inl (.char, [(.int x0), (.int x1), (.int x2), (.int x3), (.int x4), (.int x5)]))], 6) _
      refine WGo.s (WStep.istore (L' := [wI sel, wJ d1, wS, wJ d2, wS, wI s, wI l, wR 0, wI 2, wI 1, wI 3, wU]) a0_100 rfl) ?_
      refine WGo.s (WStep.aload a0_102 rfl rfl) ?_
      refine WGo.s (WStep.iconst (0 : Int32) a0_104 rfl) ?_
      refine WGo.s (WStep.iload a0_105 rfl) ?_
      refine WGo.s (WStep.iload a0_107 rfl) ?_
      refine WGo.callS a0_109 (ok2 hw _ _ _ _) (wd hw 6 rfl) (wd hw 7 rfl) (argsL := [.ref 0, .int 0, .int 2, .int 3]) (S := []) (c2 hw _ _ x0 x1 x2 x3 x4 x5 0 2 3 x0 0 (by decide) rfl rfl _) rfl rfl rfl rfl rfl rfl (Nat.le_of_ble_eq_true rfl) (Nat.le_of_ble_eq_true rfl) ?_
      rintro _ _ _ ⟨⟨rfl, hA⟩ | ⟨rfl, hA⟩, rfl, rfl⟩
      · exact absurd (by decide) hA.1
      · clear hA
        show WGo _ (112, [wI sel, wJ d1, wS, wJ d2, wS, wI s, wI l, wR 0, wI 2, wI 1, wI 3, wU], [.int 0], [(.inl (.char, [(.int x0), (.int x1), (.int x2), (.int x3), (.int x4), (.int x5)]))], 6) _
        refine WGo.s (WStep.ifF a0_112 (by decide)) ?_
        refine WGo.s (WStep.aload a0_115 rfl rfl) ?_
        refine WGo.s (WStep.iconst (1 : Int32) a0_117 rfl) ?_
        refine WGo.s (WStep.iload a0_118 rfl) ?_
        refine WGo.s (WStep.iload a0_120 rfl) ?_
        refine WGo.callS a0_122 (ok2 hw _ _ _ _) (wd hw 6 rfl) (wd hw 7 rfl) (argsL := [.ref 0, .int 1, .int 2, .int 3]) (S := []) (c2 hw _ _ x0 x1 x2 x3 x4 x5 1 2 3 x1 1 (by decide) rfl rfl _) rfl rfl rfl rfl rfl rfl (Nat.le_of_ble_eq_true rfl) (Nat.le_of_ble_eq_true rfl) ?_
        rintro _ _ _ ⟨⟨rfl, hA⟩ | ⟨rfl, hA⟩, rfl, rfl⟩
        · exact absurd (by decide) hA.1
        · clear hA
          show WGo _ (125, [wI sel, wJ d1, wS, wJ d2, wS, wI s, wI l, wR 0, wI 2, wI 1, wI 3, wU], [.int 0], [(.inl (.char, [(.int x0), (.int x1), (.int x2), (.int x3), (.int x4), (.int x5)]))], 6) _
          refine WGo.s (WStep.ifF a0_125 (by decide)) ?_
          refine WGo.s (WStep.aload a0_128 rfl rfl) ?_
          refine WGo.s (WStep.iconst (2 : Int32) a0_130 rfl) ?_
          refine WGo.s (WStep.iload a0_131 rfl) ?_
          refine WGo.s (WStep.iload a0_133 rfl) ?_
          refine WGo.callS a0_135 (ok2 hw _ _ _ _) (wd hw 6 rfl) (wd hw 7 rfl) (argsL := [.ref 0, .int 2, .int 2, .int 3]) (S := []) (c2 hw _ _ x0 x1 x2 x3 x4 x5 2 2 3 x2 2 (by decide) rfl rfl _) rfl rfl rfl rfl rfl rfl (Nat.le_of_ble_eq_true rfl) (Nat.le_of_ble_eq_true rfl) ?_
          rintro _ _ _ ⟨⟨rfl, hA⟩ | ⟨rfl, hA⟩, rfl, rfl⟩
          · exact absurd hA.2.1 (by decide)
          · clear hA
            show WGo _ (138, [wI sel, wJ d1, wS, wJ d2, wS, wI s, wI l, wR 0, wI 2, wI 1, wI 3, wU], [.int 0], [(.inl (.char, [(.int x0), (.int x1), (.int x2), (.int x3), (.int x4), (.int x5)]))], 6) _
            refine WGo.s (WStep.ifF a0_138 (by decide)) ?_
            refine WGo.s (WStep.aload a0_141 rfl rfl) ?_
            refine WGo.s (WStep.iconst (3 : Int32) a0_143 rfl) ?_
            refine WGo.s (WStep.iload a0_144 rfl) ?_
            refine WGo.s (WStep.iload a0_146 rfl) ?_
            refine WGo.callS a0_148 (ok2 hw _ _ _ _) (wd hw 6 rfl) (wd hw 7 rfl) (argsL := [.ref 0, .int 3, .int 2, .int 3]) (S := []) (c2 hw _ _ x0 x1 x2 x3 x4 x5 3 2 3 x3 3 (by decide) rfl rfl _) rfl rfl rfl rfl rfl rfl (Nat.le_of_ble_eq_true rfl) (Nat.le_of_ble_eq_true rfl) ?_
            rintro _ _ _ ⟨⟨rfl, hA⟩ | ⟨rfl, hA⟩, rfl, rfl⟩
            · exact absurd hA.2.1 (by decide)
            · clear hA
              show WGo _ (151, [wI sel, wJ d1, wS, wJ d2, wS, wI s, wI l, wR 0, wI 2, wI 1, wI 3, wU], [.int 0], [(.inl (.char, [(.int x0), (.int x1), (.int x2), (.int x3), (.int x4), (.int x5)]))], 6) _
              refine WGo.s (WStep.ifF a0_151 (by decide)) ?_
              refine WGo.s (WStep.aload a0_154 rfl rfl) ?_
              refine WGo.s (WStep.iconst (4 : Int32) a0_156 rfl) ?_
              refine WGo.s (WStep.iload a0_157 rfl) ?_
              refine WGo.s (WStep.iload a0_159 rfl) ?_
              refine WGo.callS a0_161 (ok2 hw _ _ _ _) (wd hw 6 rfl) (wd hw 7 rfl) (argsL := [.ref 0, .int 4, .int 2, .int 3]) (S := []) (c2 hw _ _ x0 x1 x2 x3 x4 x5 4 2 3 x4 4 (by decide) rfl rfl _) rfl rfl rfl rfl rfl rfl (Nat.le_of_ble_eq_true rfl) (Nat.le_of_ble_eq_true rfl) ?_
              rintro _ _ _ ⟨⟨rfl, hA⟩ | ⟨rfl, hA⟩, rfl, rfl⟩
              · exact absurd hA.2.1 (by decide)
              · clear hA
                show WGo _ (164, [wI sel, wJ d1, wS, wJ d2, wS, wI s, wI l, wR 0, wI 2, wI 1, wI 3, wU], [.int 0], [(.inl (.char, [(.int x0), (.int x1), (.int x2), (.int x3), (.int x4), (.int x5)]))], 6) _
                refine WGo.s (WStep.ifF a0_164 (by decide)) ?_
                refine WGo.s (WStep.aload a0_167 rfl rfl) ?_
                refine WGo.s (WStep.iconst (5 : Int32) a0_169 rfl) ?_
                refine WGo.s (WStep.iload a0_170 rfl) ?_
                refine WGo.s (WStep.iload a0_172 rfl) ?_
                refine WGo.callS a0_174 (ok2 hw _ _ _ _) (wd hw 6 rfl) (wd hw 7 rfl) (argsL := [.ref 0, .int 5, .int 2, .int 3]) (S := []) (c2 hw _ _ x0 x1 x2 x3 x4 x5 5 2 3 x5 5 (by decide) rfl rfl _) rfl rfl rfl rfl rfl rfl (Nat.le_of_ble_eq_true rfl) (Nat.le_of_ble_eq_true rfl) ?_
                rintro _ _ _ ⟨⟨rfl, hA⟩ | ⟨rfl, hA⟩, rfl, rfl⟩
                · exact absurd hA.2.1 (by decide)
                · clear hA
                  show WGo _ (177, [wI sel, wJ d1, wS, wJ d2, wS, wI s, wI l, wR 0, wI 2, wI 1, wI 3, wU], [.int 0], [(.inl (.char, [(.int x0), (.int x1), (.int x2), (.int x3), (.int x4), (.int x5)]))], 6) _
                  refine WGo.s (WStep.ifT a0_177 (by decide)) ?_
                  refine WGo.s (WStep.iconst (0 : Int32) a0_184 rfl) ?_
                  refine WGo.s (WStep.istore (L' := [wI sel, wJ d1, wS, wJ d2, wS, wI s, wI l, wR 0, wI 2, wI 1, wI 3, wI 0]) a0_185 rfl) ?_
                  refine WGo.s (WStep.aload a0_187 rfl rfl) ?_
                  refine WGo.s (WStep.iload a0_189 rfl) ?_
                  refine WGo.s (WStep.iload a0_191 rfl) ?_
                  refine WGo.callS a0_193 (ok3 hw _ _ _ _) (wd hw 9 rfl) (wd hw 10 rfl) (argsL := [.ref 0, .int 2, .int 1]) (S := []) (c3_21 hw _ _ x0 x1 x2 x3 x4 x5 _) rfl rfl rfl rfl rfl rfl (Nat.le_of_ble_eq_true rfl) (Nat.le_of_ble_eq_true rfl) ?_
                  rintro _ _ _ ⟨⟨rfl, hM⟩ | ⟨rfl, hM⟩, rfl, rfl⟩
                  · exfalso
                    simp_all
                  · skip
                    show WGo _ (196, [wI sel, wJ d1, wS, wJ d2, wS, wI s, wI l, wR 0, wI 2, wI 1, wI 3, wI 0], [.int 0], [(.inl (.char, [(.int x0), (.int x1), (.int x2), (.int x3), (.int x4), (.int x5)]))], 6) _
                    refine WGo.s (WStep.iload a0_196 rfl) ?_
                    refine WGo.s (WStep.icmpF a0_198 (by decide)) ?_
                    refine WGo.s (WStep.iconst (1 : Int32) a0_201 rfl) ?_
                    refine WGo.s (WStep.goto a0_202) ?_
                    refine WGo.ireturn .boolean a0_206 rfl (by simp) ?_
                    exact ⟨rfl, Nat.le_of_ble_eq_true rfl, Nat.le_of_ble_eq_true rfl⟩
    · show WGo _ (93, [wI sel, wJ d1, wS, wJ d2, wS, wI s, wI l, wR 0, wI 2, wU, wU, wU], [.int 2], [(.inl (.char, [(.int x0), (.int x1), (.int x2), (.int x3), (.int x4), (.int x5)]))], 6) _
      refine WGo.s (WStep.istore (L' := [wI sel, wJ d1, wS, wJ d2, wS, wI s, wI l, wR 0, wI 2, wI 2, wU, wU]) a0_93 rfl) ?_
      refine WGo.s (WStep.iload a0_95 rfl) ?_
      refine WGo.s (WStep.iload a0_97 rfl) ?_
      refine WGo.s (WStep.iadd a0_99) ?_
      show WGo _ (100, [wI sel, wJ d1, wS, wJ d2, wS, wI s, wI l, wR 0, wI 2, wI 2, wU, wU], [.int 4], [(.inl (.char, [(.int x0), (.int x1), (.int x2), (.int x3), (.int x4), (.int x5)]))], 6) _
      refine WGo.s (WStep.istore (L' := [wI sel, wJ d1, wS, wJ d2, wS, wI s, wI l, wR 0, wI 2, wI 2, wI 4, wU]) a0_100 rfl) ?_
      refine WGo.s (WStep.aload a0_102 rfl rfl) ?_
      refine WGo.s (WStep.iconst (0 : Int32) a0_104 rfl) ?_
      refine WGo.s (WStep.iload a0_105 rfl) ?_
      refine WGo.s (WStep.iload a0_107 rfl) ?_
      refine WGo.callS a0_109 (ok2 hw _ _ _ _) (wd hw 6 rfl) (wd hw 7 rfl) (argsL := [.ref 0, .int 0, .int 2, .int 4]) (S := []) (c2 hw _ _ x0 x1 x2 x3 x4 x5 0 2 4 x0 0 (by decide) rfl rfl _) rfl rfl rfl rfl rfl rfl (Nat.le_of_ble_eq_true rfl) (Nat.le_of_ble_eq_true rfl) ?_
      rintro _ _ _ ⟨⟨rfl, hA⟩ | ⟨rfl, hA⟩, rfl, rfl⟩
      · exact absurd (by decide) hA.1
      · clear hA
        show WGo _ (112, [wI sel, wJ d1, wS, wJ d2, wS, wI s, wI l, wR 0, wI 2, wI 2, wI 4, wU], [.int 0], [(.inl (.char, [(.int x0), (.int x1), (.int x2), (.int x3), (.int x4), (.int x5)]))], 6) _
        refine WGo.s (WStep.ifF a0_112 (by decide)) ?_
        refine WGo.s (WStep.aload a0_115 rfl rfl) ?_
        refine WGo.s (WStep.iconst (1 : Int32) a0_117 rfl) ?_
        refine WGo.s (WStep.iload a0_118 rfl) ?_
        refine WGo.s (WStep.iload a0_120 rfl) ?_
        refine WGo.callS a0_122 (ok2 hw _ _ _ _) (wd hw 6 rfl) (wd hw 7 rfl) (argsL := [.ref 0, .int 1, .int 2, .int 4]) (S := []) (c2 hw _ _ x0 x1 x2 x3 x4 x5 1 2 4 x1 1 (by decide) rfl rfl _) rfl rfl rfl rfl rfl rfl (Nat.le_of_ble_eq_true rfl) (Nat.le_of_ble_eq_true rfl) ?_
        rintro _ _ _ ⟨⟨rfl, hA⟩ | ⟨rfl, hA⟩, rfl, rfl⟩
        · exact absurd (by decide) hA.1
        · clear hA
          show WGo _ (125, [wI sel, wJ d1, wS, wJ d2, wS, wI s, wI l, wR 0, wI 2, wI 2, wI 4, wU], [.int 0], [(.inl (.char, [(.int x0), (.int x1), (.int x2), (.int x3), (.int x4), (.int x5)]))], 6) _
          refine WGo.s (WStep.ifF a0_125 (by decide)) ?_
          refine WGo.s (WStep.aload a0_128 rfl rfl) ?_
          refine WGo.s (WStep.iconst (2 : Int32) a0_130 rfl) ?_
          refine WGo.s (WStep.iload a0_131 rfl) ?_
          refine WGo.s (WStep.iload a0_133 rfl) ?_
          refine WGo.callS a0_135 (ok2 hw _ _ _ _) (wd hw 6 rfl) (wd hw 7 rfl) (argsL := [.ref 0, .int 2, .int 2, .int 4]) (S := []) (c2 hw _ _ x0 x1 x2 x3 x4 x5 2 2 4 x2 2 (by decide) rfl rfl _) rfl rfl rfl rfl rfl rfl (Nat.le_of_ble_eq_true rfl) (Nat.le_of_ble_eq_true rfl) ?_
          rintro _ _ _ ⟨⟨rfl, hA⟩ | ⟨rfl, hA⟩, rfl, rfl⟩
          · have hx2 := hA.2.2
            clear hA
            show WGo _ (138, [wI sel, wJ d1, wS, wJ d2, wS, wI s, wI l, wR 0, wI 2, wI 2, wI 4, wU], [.int 1], [(.inl (.char, [(.int x0), (.int x1), (.int x2), (.int x3), (.int x4), (.int x5)]))], 6) _
            refine WGo.s (WStep.ifT a0_138 (by decide)) ?_
            refine WGo.s (WStep.iconst (1 : Int32) a0_180 rfl) ?_
            refine WGo.s (WStep.goto a0_181) ?_
            refine WGo.s (WStep.istore (L' := [wI sel, wJ d1, wS, wJ d2, wS, wI s, wI l, wR 0, wI 2, wI 2, wI 4, wI 1]) a0_185 rfl) ?_
            refine WGo.s (WStep.aload a0_187 rfl rfl) ?_
            refine WGo.s (WStep.iload a0_189 rfl) ?_
            refine WGo.s (WStep.iload a0_191 rfl) ?_
            refine WGo.callS a0_193 (ok3 hw _ _ _ _) (wd hw 9 rfl) (wd hw 10 rfl) (argsL := [.ref 0, .int 2, .int 2]) (S := []) (c3_22 hw _ _ x0 x1 x2 x3 x4 x5 _) rfl rfl rfl rfl rfl rfl (Nat.le_of_ble_eq_true rfl) (Nat.le_of_ble_eq_true rfl) ?_
            rintro _ _ _ ⟨⟨rfl, hM⟩ | ⟨rfl, hM⟩, rfl, rfl⟩
            · skip
              show WGo _ (196, [wI sel, wJ d1, wS, wJ d2, wS, wI s, wI l, wR 0, wI 2, wI 2, wI 4, wI 1], [.int 1], [(.inl (.char, [(.int x0), (.int x1), (.int x2), (.int x3), (.int x4), (.int x5)]))], 6) _
              refine WGo.s (WStep.iload a0_196 rfl) ?_
              refine WGo.s (WStep.icmpF a0_198 (by decide)) ?_
              refine WGo.s (WStep.iconst (1 : Int32) a0_201 rfl) ?_
              refine WGo.s (WStep.goto a0_202) ?_
              refine WGo.ireturn .boolean a0_206 rfl (by simp) ?_
              exact ⟨rfl, Nat.le_of_ble_eq_true rfl, Nat.le_of_ble_eq_true rfl⟩
            · exfalso
              simp_all
          · have hx2 : ¬ x2 = 93 := fun q => hA ⟨by decide, by decide, q⟩
            clear hA
            show WGo _ (138, [wI sel, wJ d1, wS, wJ d2, wS, wI s, wI l, wR 0, wI 2, wI 2, wI 4, wU], [.int 0], [(.inl (.char, [(.int x0), (.int x1), (.int x2), (.int x3), (.int x4), (.int x5)]))], 6) _
            refine WGo.s (WStep.ifF a0_138 (by decide)) ?_
            refine WGo.s (WStep.aload a0_141 rfl rfl) ?_
            refine WGo.s (WStep.iconst (3 : Int32) a0_143 rfl) ?_
            refine WGo.s (WStep.iload a0_144 rfl) ?_
            refine WGo.s (WStep.iload a0_146 rfl) ?_
            refine WGo.callS a0_148 (ok2 hw _ _ _ _) (wd hw 6 rfl) (wd hw 7 rfl) (argsL := [.ref 0, .int 3, .int 2, .int 4]) (S := []) (c2 hw _ _ x0 x1 x2 x3 x4 x5 3 2 4 x3 3 (by decide) rfl rfl _) rfl rfl rfl rfl rfl rfl (Nat.le_of_ble_eq_true rfl) (Nat.le_of_ble_eq_true rfl) ?_
            rintro _ _ _ ⟨⟨rfl, hA⟩ | ⟨rfl, hA⟩, rfl, rfl⟩
            · exact absurd hA.2.1 (by decide)
            · clear hA
              show WGo _ (151, [wI sel, wJ d1, wS, wJ d2, wS, wI s, wI l, wR 0, wI 2, wI 2, wI 4, wU], [.int 0], [(.inl (.char, [(.int x0), (.int x1), (.int x2), (.int x3), (.int x4), (.int x5)]))], 6) _
              refine WGo.s (WStep.ifF a0_151 (by decide)) ?_
              refine WGo.s (WStep.aload a0_154 rfl rfl) ?_
              refine WGo.s (WStep.iconst (4 : Int32) a0_156 rfl) ?_
              refine WGo.s (WStep.iload a0_157 rfl) ?_
              refine WGo.s (WStep.iload a0_159 rfl) ?_
              refine WGo.callS a0_161 (ok2 hw _ _ _ _) (wd hw 6 rfl) (wd hw 7 rfl) (argsL := [.ref 0, .int 4, .int 2, .int 4]) (S := []) (c2 hw _ _ x0 x1 x2 x3 x4 x5 4 2 4 x4 4 (by decide) rfl rfl _) rfl rfl rfl rfl rfl rfl (Nat.le_of_ble_eq_true rfl) (Nat.le_of_ble_eq_true rfl) ?_
              rintro _ _ _ ⟨⟨rfl, hA⟩ | ⟨rfl, hA⟩, rfl, rfl⟩
              · exact absurd hA.2.1 (by decide)
              · clear hA
                show WGo _ (164, [wI sel, wJ d1, wS, wJ d2, wS, wI s, wI l, wR 0, wI 2, wI 2, wI 4, wU], [.int 0], [(.inl (.char, [(.int x0), (.int x1), (.int x2), (.int x3), (.int x4), (.int x5)]))], 6) _
                refine WGo.s (WStep.ifF a0_164 (by decide)) ?_
                refine WGo.s (WStep.aload a0_167 rfl rfl) ?_
                refine WGo.s (WStep.iconst (5 : Int32) a0_169 rfl) ?_
                refine WGo.s (WStep.iload a0_170 rfl) ?_
                refine WGo.s (WStep.iload a0_172 rfl) ?_
                refine WGo.callS a0_174 (ok2 hw _ _ _ _) (wd hw 6 rfl) (wd hw 7 rfl) (argsL := [.ref 0, .int 5, .int 2, .int 4]) (S := []) (c2 hw _ _ x0 x1 x2 x3 x4 x5 5 2 4 x5 5 (by decide) rfl rfl _) rfl rfl rfl rfl rfl rfl (Nat.le_of_ble_eq_true rfl) (Nat.le_of_ble_eq_true rfl) ?_
                rintro _ _ _ ⟨⟨rfl, hA⟩ | ⟨rfl, hA⟩, rfl, rfl⟩
                · exact absurd hA.2.1 (by decide)
                · clear hA
                  show WGo _ (177, [wI sel, wJ d1, wS, wJ d2, wS, wI s, wI l, wR 0, wI 2, wI 2, wI 4, wU], [.int 0], [(.inl (.char, [(.int x0), (.int x1), (.int x2), (.int x3), (.int x4), (.int x5)]))], 6) _
                  refine WGo.s (WStep.ifT a0_177 (by decide)) ?_
                  refine WGo.s (WStep.iconst (0 : Int32) a0_184 rfl) ?_
                  refine WGo.s (WStep.istore (L' := [wI sel, wJ d1, wS, wJ d2, wS, wI s, wI l, wR 0, wI 2, wI 2, wI 4, wI 0]) a0_185 rfl) ?_
                  refine WGo.s (WStep.aload a0_187 rfl rfl) ?_
                  refine WGo.s (WStep.iload a0_189 rfl) ?_
                  refine WGo.s (WStep.iload a0_191 rfl) ?_
                  refine WGo.callS a0_193 (ok3 hw _ _ _ _) (wd hw 9 rfl) (wd hw 10 rfl) (argsL := [.ref 0, .int 2, .int 2]) (S := []) (c3_22 hw _ _ x0 x1 x2 x3 x4 x5 _) rfl rfl rfl rfl rfl rfl (Nat.le_of_ble_eq_true rfl) (Nat.le_of_ble_eq_true rfl) ?_
                  rintro _ _ _ ⟨⟨rfl, hM⟩ | ⟨rfl, hM⟩, rfl, rfl⟩
                  · exfalso
                    simp_all
                  · skip
                    show WGo _ (196, [wI sel, wJ d1, wS, wJ d2, wS, wI s, wI l, wR 0, wI 2, wI 2, wI 4, wI 0], [.int 0], [(.inl (.char, [(.int x0), (.int x1), (.int x2), (.int x3), (.int x4), (.int x5)]))], 6) _
                    refine WGo.s (WStep.iload a0_196 rfl) ?_
                    refine WGo.s (WStep.icmpF a0_198 (by decide)) ?_
                    refine WGo.s (WStep.iconst (1 : Int32) a0_201 rfl) ?_
                    refine WGo.s (WStep.goto a0_202) ?_
                    refine WGo.ireturn .boolean a0_206 rfl (by simp) ?_
                    exact ⟨rfl, Nat.le_of_ble_eq_true rfl, Nat.le_of_ble_eq_true rfl⟩
    · show WGo _ (93, [wI sel, wJ d1, wS, wJ d2, wS, wI s, wI l, wR 0, wI 2, wU, wU, wU], [.int 3], [(.inl (.char, [(.int x0), (.int x1), (.int x2), (.int x3), (.int x4), (.int x5)]))], 6) _
      refine WGo.s (WStep.istore (L' := [wI sel, wJ d1, wS, wJ d2, wS, wI s, wI l, wR 0, wI 2, wI 3, wU, wU]) a0_93 rfl) ?_
      refine WGo.s (WStep.iload a0_95 rfl) ?_
      refine WGo.s (WStep.iload a0_97 rfl) ?_
      refine WGo.s (WStep.iadd a0_99) ?_
      show WGo _ (100, [wI sel, wJ d1, wS, wJ d2, wS, wI s, wI l, wR 0, wI 2, wI 3, wU, wU], [.int 5], [(.inl (.char, [(.int x0), (.int x1), (.int x2), (.int x3), (.int x4), (.int x5)]))], 6) _
      refine WGo.s (WStep.istore (L' := [wI sel, wJ d1, wS, wJ d2, wS, wI s, wI l, wR 0, wI 2, wI 3, wI 5, wU]) a0_100 rfl) ?_
      refine WGo.s (WStep.aload a0_102 rfl rfl) ?_
      refine WGo.s (WStep.iconst (0 : Int32) a0_104 rfl) ?_
      refine WGo.s (WStep.iload a0_105 rfl) ?_
      refine WGo.s (WStep.iload a0_107 rfl) ?_
      refine WGo.callS a0_109 (ok2 hw _ _ _ _) (wd hw 6 rfl) (wd hw 7 rfl) (argsL := [.ref 0, .int 0, .int 2, .int 5]) (S := []) (c2 hw _ _ x0 x1 x2 x3 x4 x5 0 2 5 x0 0 (by decide) rfl rfl _) rfl rfl rfl rfl rfl rfl (Nat.le_of_ble_eq_true rfl) (Nat.le_of_ble_eq_true rfl) ?_
      rintro _ _ _ ⟨⟨rfl, hA⟩ | ⟨rfl, hA⟩, rfl, rfl⟩
      · exact absurd (by decide) hA.1
      · clear hA
        show WGo _ (112, [wI sel, wJ d1, wS, wJ d2, wS, wI s, wI l, wR 0, wI 2, wI 3, wI 5, wU], [.int 0], [(.inl (.char, [(.int x0), (.int x1), (.int x2), (.int x3), (.int x4), (.int x5)]))], 6) _
        refine WGo.s (WStep.ifF a0_112 (by decide)) ?_
        refine WGo.s (WStep.aload a0_115 rfl rfl) ?_
        refine WGo.s (WStep.iconst (1 : Int32) a0_117 rfl) ?_
        refine WGo.s (WStep.iload a0_118 rfl) ?_
        refine WGo.s (WStep.iload a0_120 rfl) ?_
        refine WGo.callS a0_122 (ok2 hw _ _ _ _) (wd hw 6 rfl) (wd hw 7 rfl) (argsL := [.ref 0, .int 1, .int 2, .int 5]) (S := []) (c2 hw _ _ x0 x1 x2 x3 x4 x5 1 2 5 x1 1 (by decide) rfl rfl _) rfl rfl rfl rfl rfl rfl (Nat.le_of_ble_eq_true rfl) (Nat.le_of_ble_eq_true rfl) ?_
        rintro _ _ _ ⟨⟨rfl, hA⟩ | ⟨rfl, hA⟩, rfl, rfl⟩
        · exact absurd (by decide) hA.1
        · clear hA
          show WGo _ (125, [wI sel, wJ d1, wS, wJ d2, wS, wI s, wI l, wR 0, wI 2, wI 3, wI 5, wU], [.int 0], [(.inl (.char, [(.int x0), (.int x1), (.int x2), (.int x3), (.int x4), (.int x5)]))], 6) _
          refine WGo.s (WStep.ifF a0_125 (by decide)) ?_
          refine WGo.s (WStep.aload a0_128 rfl rfl) ?_
          refine WGo.s (WStep.iconst (2 : Int32) a0_130 rfl) ?_
          refine WGo.s (WStep.iload a0_131 rfl) ?_
          refine WGo.s (WStep.iload a0_133 rfl) ?_
          refine WGo.callS a0_135 (ok2 hw _ _ _ _) (wd hw 6 rfl) (wd hw 7 rfl) (argsL := [.ref 0, .int 2, .int 2, .int 5]) (S := []) (c2 hw _ _ x0 x1 x2 x3 x4 x5 2 2 5 x2 2 (by decide) rfl rfl _) rfl rfl rfl rfl rfl rfl (Nat.le_of_ble_eq_true rfl) (Nat.le_of_ble_eq_true rfl) ?_
          rintro _ _ _ ⟨⟨rfl, hA⟩ | ⟨rfl, hA⟩, rfl, rfl⟩
          · have hx2 := hA.2.2
            clear hA
            show WGo _ (138, [wI sel, wJ d1, wS, wJ d2, wS, wI s, wI l, wR 0, wI 2, wI 3, wI 5, wU], [.int 1], [(.inl (.char, [(.int x0), (.int x1), (.int x2), (.int x3), (.int x4), (.int x5)]))], 6) _
            refine WGo.s (WStep.ifT a0_138 (by decide)) ?_
            refine WGo.s (WStep.iconst (1 : Int32) a0_180 rfl) ?_
            refine WGo.s (WStep.goto a0_181) ?_
            refine WGo.s (WStep.istore (L' := [wI sel, wJ d1, wS, wJ d2, wS, wI s, wI l, wR 0, wI 2, wI 3, wI 5, wI 1]) a0_185 rfl) ?_
            refine WGo.s (WStep.aload a0_187 rfl rfl) ?_
            refine WGo.s (WStep.iload a0_189 rfl) ?_
            refine WGo.s (WStep.iload a0_191 rfl) ?_
            refine WGo.callS a0_193 (ok3 hw _ _ _ _) (wd hw 9 rfl) (wd hw 10 rfl) (argsL := [.ref 0, .int 2, .int 3]) (S := []) (c3_23 hw _ _ x0 x1 x2 x3 x4 x5 _) rfl rfl rfl rfl rfl rfl (Nat.le_of_ble_eq_true rfl) (Nat.le_of_ble_eq_true rfl) ?_
            rintro _ _ _ ⟨⟨rfl, hM⟩ | ⟨rfl, hM⟩, rfl, rfl⟩
            · skip
              show WGo _ (196, [wI sel, wJ d1, wS, wJ d2, wS, wI s, wI l, wR 0, wI 2, wI 3, wI 5, wI 1], [.int 1], [(.inl (.char, [(.int x0), (.int x1), (.int x2), (.int x3), (.int x4), (.int x5)]))], 6) _
              refine WGo.s (WStep.iload a0_196 rfl) ?_
              refine WGo.s (WStep.icmpF a0_198 (by decide)) ?_
              refine WGo.s (WStep.iconst (1 : Int32) a0_201 rfl) ?_
              refine WGo.s (WStep.goto a0_202) ?_
              refine WGo.ireturn .boolean a0_206 rfl (by simp) ?_
              exact ⟨rfl, Nat.le_of_ble_eq_true rfl, Nat.le_of_ble_eq_true rfl⟩
            · exfalso
              simp_all
          · have hx2 : ¬ x2 = 93 := fun q => hA ⟨by decide, by decide, q⟩
            clear hA
            show WGo _ (138, [wI sel, wJ d1, wS, wJ d2, wS, wI s, wI l, wR 0, wI 2, wI 3, wI 5, wU], [.int 0], [(.inl (.char, [(.int x0), (.int x1), (.int x2), (.int x3), (.int x4), (.int x5)]))], 6) _
            refine WGo.s (WStep.ifF a0_138 (by decide)) ?_
            refine WGo.s (WStep.aload a0_141 rfl rfl) ?_
            refine WGo.s (WStep.iconst (3 : Int32) a0_143 rfl) ?_
            refine WGo.s (WStep.iload a0_144 rfl) ?_
            refine WGo.s (WStep.iload a0_146 rfl) ?_
            refine WGo.callS a0_148 (ok2 hw _ _ _ _) (wd hw 6 rfl) (wd hw 7 rfl) (argsL := [.ref 0, .int 3, .int 2, .int 5]) (S := []) (c2 hw _ _ x0 x1 x2 x3 x4 x5 3 2 5 x3 3 (by decide) rfl rfl _) rfl rfl rfl rfl rfl rfl (Nat.le_of_ble_eq_true rfl) (Nat.le_of_ble_eq_true rfl) ?_
            rintro _ _ _ ⟨⟨rfl, hA⟩ | ⟨rfl, hA⟩, rfl, rfl⟩
            · have hx3 := hA.2.2
              clear hA
              show WGo _ (151, [wI sel, wJ d1, wS, wJ d2, wS, wI s, wI l, wR 0, wI 2, wI 3, wI 5, wU], [.int 1], [(.inl (.char, [(.int x0), (.int x1), (.int x2), (.int x3), (.int x4), (.int x5)]))], 6) _
              refine WGo.s (WStep.ifT a0_151 (by decide)) ?_
              refine WGo.s (WStep.iconst (1 : Int32) a0_180 rfl) ?_
              refine WGo.s (WStep.goto a0_181) ?_
              refine WGo.s (WStep.istore (L' := [wI sel, wJ d1, wS, wJ d2, wS, wI s, wI l, wR 0, wI 2, wI 3, wI 5, wI 1]) a0_185 rfl) ?_
              refine WGo.s (WStep.aload a0_187 rfl rfl) ?_
              refine WGo.s (WStep.iload a0_189 rfl) ?_
              refine WGo.s (WStep.iload a0_191 rfl) ?_
              refine WGo.callS a0_193 (ok3 hw _ _ _ _) (wd hw 9 rfl) (wd hw 10 rfl) (argsL := [.ref 0, .int 2, .int 3]) (S := []) (c3_23 hw _ _ x0 x1 x2 x3 x4 x5 _) rfl rfl rfl rfl rfl rfl (Nat.le_of_ble_eq_true rfl) (Nat.le_of_ble_eq_true rfl) ?_
              rintro _ _ _ ⟨⟨rfl, hM⟩ | ⟨rfl, hM⟩, rfl, rfl⟩
              · skip
                show WGo _ (196, [wI sel, wJ d1, wS, wJ d2, wS, wI s, wI l, wR 0, wI 2, wI 3, wI 5, wI 1], [.int 1], [(.inl (.char, [(.int x0), (.int x1), (.int x2), (.int x3), (.int x4), (.int x5)]))], 6) _
                refine WGo.s (WStep.iload a0_196 rfl) ?_
                refine WGo.s (WStep.icmpF a0_198 (by decide)) ?_
                refine WGo.s (WStep.iconst (1 : Int32) a0_201 rfl) ?_
                refine WGo.s (WStep.goto a0_202) ?_
                refine WGo.ireturn .boolean a0_206 rfl (by simp) ?_
                exact ⟨rfl, Nat.le_of_ble_eq_true rfl, Nat.le_of_ble_eq_true rfl⟩
              · exfalso
                simp_all
            · have hx3 : ¬ x3 = 93 := fun q => hA ⟨by decide, by decide, q⟩
              clear hA
              show WGo _ (151, [wI sel, wJ d1, wS, wJ d2, wS, wI s, wI l, wR 0, wI 2, wI 3, wI 5, wU], [.int 0], [(.inl (.char, [(.int x0), (.int x1), (.int x2), (.int x3), (.int x4), (.int x5)]))], 6) _
              refine WGo.s (WStep.ifF a0_151 (by decide)) ?_
              refine WGo.s (WStep.aload a0_154 rfl rfl) ?_
              refine WGo.s (WStep.iconst (4 : Int32) a0_156 rfl) ?_
              refine WGo.s (WStep.iload a0_157 rfl) ?_
              refine WGo.s (WStep.iload a0_159 rfl) ?_
              refine WGo.callS a0_161 (ok2 hw _ _ _ _) (wd hw 6 rfl) (wd hw 7 rfl) (argsL := [.ref 0, .int 4, .int 2, .int 5]) (S := []) (c2 hw _ _ x0 x1 x2 x3 x4 x5 4 2 5 x4 4 (by decide) rfl rfl _) rfl rfl rfl rfl rfl rfl (Nat.le_of_ble_eq_true rfl) (Nat.le_of_ble_eq_true rfl) ?_
              rintro _ _ _ ⟨⟨rfl, hA⟩ | ⟨rfl, hA⟩, rfl, rfl⟩
              · exact absurd hA.2.1 (by decide)
              · clear hA
                show WGo _ (164, [wI sel, wJ d1, wS, wJ d2, wS, wI s, wI l, wR 0, wI 2, wI 3, wI 5, wU], [.int 0], [(.inl (.char, [(.int x0), (.int x1), (.int x2), (.int x3), (.int x4), (.int x5)]))], 6) _
                refine WGo.s (WStep.ifF a0_164 (by decide)) ?_
                refine WGo.s (WStep.aload a0_167 rfl rfl) ?_
                refine WGo.s (WStep.iconst (5 : Int32) a0_169 rfl) ?_
                refine WGo.s (WStep.iload a0_170 rfl) ?_
                refine WGo.s (WStep.iload a0_172 rfl) ?_
                refine WGo.callS a0_174 (ok2 hw _ _ _ _) (wd hw 6 rfl) (wd hw 7 rfl) (argsL := [.ref 0, .int 5, .int 2, .int 5]) (S := []) (c2 hw _ _ x0 x1 x2 x3 x4 x5 5 2 5 x5 5 (by decide) rfl rfl _) rfl rfl rfl rfl rfl rfl (Nat.le_of_ble_eq_true rfl) (Nat.le_of_ble_eq_true rfl) ?_
                rintro _ _ _ ⟨⟨rfl, hA⟩ | ⟨rfl, hA⟩, rfl, rfl⟩
                · exact absurd hA.2.1 (by decide)
                · clear hA
                  show WGo _ (177, [wI sel, wJ d1, wS, wJ d2, wS, wI s, wI l, wR 0, wI 2, wI 3, wI 5, wU], [.int 0], [(.inl (.char, [(.int x0), (.int x1), (.int x2), (.int x3), (.int x4), (.int x5)]))], 6) _
                  refine WGo.s (WStep.ifT a0_177 (by decide)) ?_
                  refine WGo.s (WStep.iconst (0 : Int32) a0_184 rfl) ?_
                  refine WGo.s (WStep.istore (L' := [wI sel, wJ d1, wS, wJ d2, wS, wI s, wI l, wR 0, wI 2, wI 3, wI 5, wI 0]) a0_185 rfl) ?_
                  refine WGo.s (WStep.aload a0_187 rfl rfl) ?_
                  refine WGo.s (WStep.iload a0_189 rfl) ?_
                  refine WGo.s (WStep.iload a0_191 rfl) ?_
                  refine WGo.callS a0_193 (ok3 hw _ _ _ _) (wd hw 9 rfl) (wd hw 10 rfl) (argsL := [.ref 0, .int 2, .int 3]) (S := []) (c3_23 hw _ _ x0 x1 x2 x3 x4 x5 _) rfl rfl rfl rfl rfl rfl (Nat.le_of_ble_eq_true rfl) (Nat.le_of_ble_eq_true rfl) ?_
                  rintro _ _ _ ⟨⟨rfl, hM⟩ | ⟨rfl, hM⟩, rfl, rfl⟩
                  · exfalso
                    simp_all
                  · skip
                    show WGo _ (196, [wI sel, wJ d1, wS, wJ d2, wS, wI s, wI l, wR 0, wI 2, wI 3, wI 5, wI 0], [.int 0], [(.inl (.char, [(.int x0), (.int x1), (.int x2), (.int x3), (.int x4), (.int x5)]))], 6) _
                    refine WGo.s (WStep.iload a0_196 rfl) ?_
                    refine WGo.s (WStep.icmpF a0_198 (by decide)) ?_
                    refine WGo.s (WStep.iconst (1 : Int32) a0_201 rfl) ?_
                    refine WGo.s (WStep.goto a0_202) ?_
                    refine WGo.ireturn .boolean a0_206 rfl (by simp) ?_
                    exact ⟨rfl, Nat.le_of_ble_eq_true rfl, Nat.le_of_ble_eq_true rfl⟩
    · show WGo _ (93, [wI sel, wJ d1, wS, wJ d2, wS, wI s, wI l, wR 0, wI 2, wU, wU, wU], [.int 4], [(.inl (.char, [(.int x0), (.int x1), (.int x2), (.int x3), (.int x4), (.int x5)]))], 6) _
      refine WGo.s (WStep.istore (L' := [wI sel, wJ d1, wS, wJ d2, wS, wI s, wI l, wR 0, wI 2, wI 4, wU, wU]) a0_93 rfl) ?_
      refine WGo.s (WStep.iload a0_95 rfl) ?_
      refine WGo.s (WStep.iload a0_97 rfl) ?_
      refine WGo.s (WStep.iadd a0_99) ?_
      show WGo _ (100, [wI sel, wJ d1, wS, wJ d2, wS, wI s, wI l, wR 0, wI 2, wI 4, wU, wU], [.int 6], [(.inl (.char, [(.int x0), (.int x1), (.int x2), (.int x3), (.int x4), (.int x5)]))], 6) _
      refine WGo.s (WStep.istore (L' := [wI sel, wJ d1, wS, wJ d2, wS, wI s, wI l, wR 0, wI 2, wI 4, wI 6, wU]) a0_100 rfl) ?_
      refine WGo.s (WStep.aload a0_102 rfl rfl) ?_
      refine WGo.s (WStep.iconst (0 : Int32) a0_104 rfl) ?_
      refine WGo.s (WStep.iload a0_105 rfl) ?_
      refine WGo.s (WStep.iload a0_107 rfl) ?_
      refine WGo.callS a0_109 (ok2 hw _ _ _ _) (wd hw 6 rfl) (wd hw 7 rfl) (argsL := [.ref 0, .int 0, .int 2, .int 6]) (S := []) (c2 hw _ _ x0 x1 x2 x3 x4 x5 0 2 6 x0 0 (by decide) rfl rfl _) rfl rfl rfl rfl rfl rfl (Nat.le_of_ble_eq_true rfl) (Nat.le_of_ble_eq_true rfl) ?_
      rintro _ _ _ ⟨⟨rfl, hA⟩ | ⟨rfl, hA⟩, rfl, rfl⟩
      · exact absurd (by decide) hA.1
      · clear hA
        show WGo _ (112, [wI sel, wJ d1, wS, wJ d2, wS, wI s, wI l, wR 0, wI 2, wI 4, wI 6, wU], [.int 0], [(.inl (.char, [(.int x0), (.int x1), (.int x2), (.int x3), (.int x4), (.int x5)]))], 6) _
        refine WGo.s (WStep.ifF a0_112 (by decide)) ?_
        refine WGo.s (WStep.aload a0_115 rfl rfl) ?_
        refine WGo.s (WStep.iconst (1 : Int32) a0_117 rfl) ?_
        refine WGo.s (WStep.iload a0_118 rfl) ?_
        refine WGo.s (WStep.iload a0_120 rfl) ?_
        refine WGo.callS a0_122 (ok2 hw _ _ _ _) (wd hw 6 rfl) (wd hw 7 rfl) (argsL := [.ref 0, .int 1, .int 2, .int 6]) (S := []) (c2 hw _ _ x0 x1 x2 x3 x4 x5 1 2 6 x1 1 (by decide) rfl rfl _) rfl rfl rfl rfl rfl rfl (Nat.le_of_ble_eq_true rfl) (Nat.le_of_ble_eq_true rfl) ?_
        rintro _ _ _ ⟨⟨rfl, hA⟩ | ⟨rfl, hA⟩, rfl, rfl⟩
        · exact absurd (by decide) hA.1
        · clear hA
          show WGo _ (125, [wI sel, wJ d1, wS, wJ d2, wS, wI s, wI l, wR 0, wI 2, wI 4, wI 6, wU], [.int 0], [(.inl (.char, [(.int x0), (.int x1), (.int x2), (.int x3), (.int x4), (.int x5)]))], 6) _
          refine WGo.s (WStep.ifF a0_125 (by decide)) ?_
          refine WGo.s (WStep.aload a0_128 rfl rfl) ?_
          refine WGo.s (WStep.iconst (2 : Int32) a0_130 rfl) ?_
          refine WGo.s (WStep.iload a0_131 rfl) ?_
          refine WGo.s (WStep.iload a0_133 rfl) ?_
          refine WGo.callS a0_135 (ok2 hw _ _ _ _) (wd hw 6 rfl) (wd hw 7 rfl) (argsL := [.ref 0, .int 2, .int 2, .int 6]) (S := []) (c2 hw _ _ x0 x1 x2 x3 x4 x5 2 2 6 x2 2 (by decide) rfl rfl _) rfl rfl rfl rfl rfl rfl (Nat.le_of_ble_eq_true rfl) (Nat.le_of_ble_eq_true rfl) ?_
          rintro _ _ _ ⟨⟨rfl, hA⟩ | ⟨rfl, hA⟩, rfl, rfl⟩
          · have hx2 := hA.2.2
            clear hA
            show WGo _ (138, [wI sel, wJ d1, wS, wJ d2, wS, wI s, wI l, wR 0, wI 2, wI 4, wI 6, wU], [.int 1], [(.inl (.char, [(.int x0), (.int x1), (.int x2), (.int x3), (.int x4), (.int x5)]))], 6) _
            refine WGo.s (WStep.ifT a0_138 (by decide)) ?_
            refine WGo.s (WStep.iconst (1 : Int32) a0_180 rfl) ?_
            refine WGo.s (WStep.goto a0_181) ?_
            refine WGo.s (WStep.istore (L' := [wI sel, wJ d1, wS, wJ d2, wS, wI s, wI l, wR 0, wI 2, wI 4, wI 6, wI 1]) a0_185 rfl) ?_
            refine WGo.s (WStep.aload a0_187 rfl rfl) ?_
            refine WGo.s (WStep.iload a0_189 rfl) ?_
            refine WGo.s (WStep.iload a0_191 rfl) ?_
            refine WGo.callS a0_193 (ok3 hw _ _ _ _) (wd hw 9 rfl) (wd hw 10 rfl) (argsL := [.ref 0, .int 2, .int 4]) (S := []) (c3_24 hw _ _ x0 x1 x2 x3 x4 x5 _) rfl rfl rfl rfl rfl rfl (Nat.le_of_ble_eq_true rfl) (Nat.le_of_ble_eq_true rfl) ?_
            rintro _ _ _ ⟨⟨rfl, hM⟩ | ⟨rfl, hM⟩, rfl, rfl⟩
            · skip
              show WGo _ (196, [wI sel, wJ d1, wS, wJ d2, wS, wI s, wI l, wR 0, wI 2, wI 4, wI 6, wI 1], [.int 1], [(.inl (.char, [(.int x0), (.int x1), (.int x2), (.int x3), (.int x4), (.int x5)]))], 6) _
              refine WGo.s (WStep.iload a0_196 rfl) ?_
              refine WGo.s (WStep.icmpF a0_198 (by decide)) ?_
              refine WGo.s (WStep.iconst (1 : Int32) a0_201 rfl) ?_
              refine WGo.s (WStep.goto a0_202) ?_
              refine WGo.ireturn .boolean a0_206 rfl (by simp) ?_
              exact ⟨rfl, Nat.le_of_ble_eq_true rfl, Nat.le_of_ble_eq_true rfl⟩
            · exfalso
              simp_all
          · have hx2 : ¬ x2 = 93 := fun q => hA ⟨by decide, by decide, q⟩
            clear hA
            show WGo _ (138, [wI sel, wJ d1, wS, wJ d2, wS, wI s, wI l, wR 0, wI 2, wI 4, wI 6, wU], [.int 0], [(.inl (.char, [(.int x0), (.int x1), (.int x2), (.int x3), (.int x4), (.int x5)]))], 6) _
            refine WGo.s (WStep.ifF a0_138 (by decide)) ?_
            refine WGo.s (WStep.aload a0_141 rfl rfl) ?_
            refine WGo.s (WStep.iconst (3 : Int32) a0_143 rfl) ?_
            refine WGo.s (WStep.iload a0_144 rfl) ?_
            refine WGo.s (WStep.iload a0_146 rfl) ?_
            refine WGo.callS a0_148 (ok2 hw _ _ _ _) (wd hw 6 rfl) (wd hw 7 rfl) (argsL := [.ref 0, .int 3, .int 2, .int 6]) (S := []) (c2 hw _ _ x0 x1 x2 x3 x4 x5 3 2 6 x3 3 (by decide) rfl rfl _) rfl rfl rfl rfl rfl rfl (Nat.le_of_ble_eq_true rfl) (Nat.le_of_ble_eq_true rfl) ?_
            rintro _ _ _ ⟨⟨rfl, hA⟩ | ⟨rfl, hA⟩, rfl, rfl⟩
            · have hx3 := hA.2.2
              clear hA
              show WGo _ (151, [wI sel, wJ d1, wS, wJ d2, wS, wI s, wI l, wR 0, wI 2, wI 4, wI 6, wU], [.int 1], [(.inl (.char, [(.int x0), (.int x1), (.int x2), (.int x3), (.int x4), (.int x5)]))], 6) _
              refine WGo.s (WStep.ifT a0_151 (by decide)) ?_
              refine WGo.s (WStep.iconst (1 : Int32) a0_180 rfl) ?_
              refine WGo.s (WStep.goto a0_181) ?_
              refine WGo.s (WStep.istore (L' := [wI sel, wJ d1, wS, wJ d2, wS, wI s, wI l, wR 0, wI 2, wI 4, wI 6, wI 1]) a0_185 rfl) ?_
              refine WGo.s (WStep.aload a0_187 rfl rfl) ?_
              refine WGo.s (WStep.iload a0_189 rfl) ?_
              refine WGo.s (WStep.iload a0_191 rfl) ?_
              refine WGo.callS a0_193 (ok3 hw _ _ _ _) (wd hw 9 rfl) (wd hw 10 rfl) (argsL := [.ref 0, .int 2, .int 4]) (S := []) (c3_24 hw _ _ x0 x1 x2 x3 x4 x5 _) rfl rfl rfl rfl rfl rfl (Nat.le_of_ble_eq_true rfl) (Nat.le_of_ble_eq_true rfl) ?_
              rintro _ _ _ ⟨⟨rfl, hM⟩ | ⟨rfl, hM⟩, rfl, rfl⟩
              · skip
                show WGo _ (196, [wI sel, wJ d1, wS, wJ d2, wS, wI s, wI l, wR 0, wI 2, wI 4, wI 6, wI 1], [.int 1], [(.inl (.char, [(.int x0), (.int x1), (.int x2), (.int x3), (.int x4), (.int x5)]))], 6) _
                refine WGo.s (WStep.iload a0_196 rfl) ?_
                refine WGo.s (WStep.icmpF a0_198 (by decide)) ?_
                refine WGo.s (WStep.iconst (1 : Int32) a0_201 rfl) ?_
                refine WGo.s (WStep.goto a0_202) ?_
                refine WGo.ireturn .boolean a0_206 rfl (by simp) ?_
                exact ⟨rfl, Nat.le_of_ble_eq_true rfl, Nat.le_of_ble_eq_true rfl⟩
              · exfalso
                simp_all
            · have hx3 : ¬ x3 = 93 := fun q => hA ⟨by decide, by decide, q⟩
              clear hA
              show WGo _ (151, [wI sel, wJ d1, wS, wJ d2, wS, wI s, wI l, wR 0, wI 2, wI 4, wI 6, wU], [.int 0], [(.inl (.char, [(.int x0), (.int x1), (.int x2), (.int x3), (.int x4), (.int x5)]))], 6) _
              refine WGo.s (WStep.ifF a0_151 (by decide)) ?_
              refine WGo.s (WStep.aload a0_154 rfl rfl) ?_
              refine WGo.s (WStep.iconst (4 : Int32) a0_156 rfl) ?_
              refine WGo.s (WStep.iload a0_157 rfl) ?_
              refine WGo.s (WStep.iload a0_159 rfl) ?_
              refine WGo.callS a0_161 (ok2 hw _ _ _ _) (wd hw 6 rfl) (wd hw 7 rfl) (argsL := [.ref 0, .int 4, .int 2, .int 6]) (S := []) (c2 hw _ _ x0 x1 x2 x3 x4 x5 4 2 6 x4 4 (by decide) rfl rfl _) rfl rfl rfl rfl rfl rfl (Nat.le_of_ble_eq_true rfl) (Nat.le_of_ble_eq_true rfl) ?_
              rintro _ _ _ ⟨⟨rfl, hA⟩ | ⟨rfl, hA⟩, rfl, rfl⟩
              · have hx4 := hA.2.2
                clear hA
                show WGo _ (164, [wI sel, wJ d1, wS, wJ d2, wS, wI s, wI l, wR 0, wI 2, wI 4, wI 6, wU], [.int 1], [(.inl (.char, [(.int x0), (.int x1), (.int x2), (.int x3), (.int x4), (.int x5)]))], 6) _
                refine WGo.s (WStep.ifT a0_164 (by decide)) ?_
                refine WGo.s (WStep.iconst (1 : Int32) a0_180 rfl) ?_
                refine WGo.s (WStep.goto a0_181) ?_
                refine WGo.s (WStep.istore (L' := [wI sel, wJ d1, wS, wJ d2, wS, wI s, wI l, wR 0, wI 2, wI 4, wI 6, wI 1]) a0_185 rfl) ?_
                refine WGo.s (WStep.aload a0_187 rfl rfl) ?_
                refine WGo.s (WStep.iload a0_189 rfl) ?_
                refine WGo.s (WStep.iload a0_191 rfl) ?_
                refine WGo.callS a0_193 (ok3 hw _ _ _ _) (wd hw 9 rfl) (wd hw 10 rfl) (argsL := [.ref 0, .int 2, .int 4]) (S := []) (c3_24 hw _ _ x0 x1 x2 x3 x4 x5 _) rfl rfl rfl rfl rfl rfl (Nat.le_of_ble_eq_true rfl) (Nat.le_of_ble_eq_true rfl) ?_
                rintro _ _ _ ⟨⟨rfl, hM⟩ | ⟨rfl, hM⟩, rfl, rfl⟩
                · skip
                  show WGo _ (196, [wI sel, wJ d1, wS, wJ d2, wS, wI s, wI l, wR 0, wI 2, wI 4, wI 6, wI 1], [.int 1], [(.inl (.char, [(.int x0), (.int x1), (.int x2), (.int x3), (.int x4), (.int x5)]))], 6) _
                  refine WGo.s (WStep.iload a0_196 rfl) ?_
                  refine WGo.s (WStep.icmpF a0_198 (by decide)) ?_
                  refine WGo.s (WStep.iconst (1 : Int32) a0_201 rfl) ?_
                  refine WGo.s (WStep.goto a0_202) ?_
                  refine WGo.ireturn .boolean a0_206 rfl (by simp) ?_
                  exact ⟨rfl, Nat.le_of_ble_eq_true rfl, Nat.le_of_ble_eq_true rfl⟩
                · exfalso
                  simp_all
              · have hx4 : ¬ x4 = 93 := fun q => hA ⟨by decide, by decide, q⟩
                clear hA
                show WGo _ (164, [wI sel, wJ d1, wS, wJ d2, wS, wI s, wI l, wR 0, wI 2, wI 4, wI 6, wU], [.int 0], [(.inl (.char, [(.int x0), (.int x1), (.int x2), (.int x3), (.int x4), (.int x5)]))], 6) _
                refine WGo.s (WStep.ifF a0_164 (by decide)) ?_
                refine WGo.s (WStep.aload a0_167 rfl rfl) ?_
                refine WGo.s (WStep.iconst (5 : Int32) a0_169 rfl) ?_
                refine WGo.s (WStep.iload a0_170 rfl) ?_
                refine WGo.s (WStep.iload a0_172 rfl) ?_
                refine WGo.callS a0_174 (ok2 hw _ _ _ _) (wd hw 6 rfl) (wd hw 7 rfl) (argsL := [.ref 0, .int 5, .int 2, .int 6]) (S := []) (c2 hw _ _ x0 x1 x2 x3 x4 x5 5 2 6 x5 5 (by decide) rfl rfl _) rfl rfl rfl rfl rfl rfl (Nat.le_of_ble_eq_true rfl) (Nat.le_of_ble_eq_true rfl) ?_
                rintro _ _ _ ⟨⟨rfl, hA⟩ | ⟨rfl, hA⟩, rfl, rfl⟩
                · exact absurd hA.2.1 (by decide)
                · clear hA
                  show WGo _ (177, [wI sel, wJ d1, wS, wJ d2, wS, wI s, wI l, wR 0, wI 2, wI 4, wI 6, wU], [.int 0], [(.inl (.char, [(.int x0), (.int x1), (.int x2), (.int x3), (.int x4), (.int x5)]))], 6) _
                  refine WGo.s (WStep.ifT a0_177 (by decide)) ?_
                  refine WGo.s (WStep.iconst (0 : Int32) a0_184 rfl) ?_
                  refine WGo.s (WStep.istore (L' := [wI sel, wJ d1, wS, wJ d2, wS, wI s, wI l, wR 0, wI 2, wI 4, wI 6, wI 0]) a0_185 rfl) ?_
                  refine WGo.s (WStep.aload a0_187 rfl rfl) ?_
                  refine WGo.s (WStep.iload a0_189 rfl) ?_
                  refine WGo.s (WStep.iload a0_191 rfl) ?_
                  refine WGo.callS a0_193 (ok3 hw _ _ _ _) (wd hw 9 rfl) (wd hw 10 rfl) (argsL := [.ref 0, .int 2, .int 4]) (S := []) (c3_24 hw _ _ x0 x1 x2 x3 x4 x5 _) rfl rfl rfl rfl rfl rfl (Nat.le_of_ble_eq_true rfl) (Nat.le_of_ble_eq_true rfl) ?_
                  rintro _ _ _ ⟨⟨rfl, hM⟩ | ⟨rfl, hM⟩, rfl, rfl⟩
                  · exfalso
                    simp_all
                  · skip
                    show WGo _ (196, [wI sel, wJ d1, wS, wJ d2, wS, wI s, wI l, wR 0, wI 2, wI 4, wI 6, wI 0], [.int 0], [(.inl (.char, [(.int x0), (.int x1), (.int x2), (.int x3), (.int x4), (.int x5)]))], 6) _
                    refine WGo.s (WStep.iload a0_196 rfl) ?_
                    refine WGo.s (WStep.icmpF a0_198 (by decide)) ?_
                    refine WGo.s (WStep.iconst (1 : Int32) a0_201 rfl) ?_
                    refine WGo.s (WStep.goto a0_202) ?_
                    refine WGo.ireturn .boolean a0_206 rfl (by simp) ?_
                    exact ⟨rfl, Nat.le_of_ble_eq_true rfl, Nat.le_of_ble_eq_true rfl⟩
  · show WGo _ (80, [wI sel, wJ d1, wS, wJ d2, wS, wI s, wI l, wR 0, wU, wU, wU, wU], [.int 3], [(.inl (.char, [(.int x0), (.int x1), (.int x2), (.int x3), (.int x4), (.int x5)]))], 6) _
    refine WGo.s (WStep.istore (L' := [wI sel, wJ d1, wS, wJ d2, wS, wI s, wI l, wR 0, wI 3, wU, wU, wU]) a0_80 rfl) ?_
    refine WGo.s (WStep.iload a0_82 rfl) ?_
    refine WGo.s (WStep.ldc a0_84 (wd hw 5 rfl)) ?_
    refine WGo.s (WStep.iand a0_86) ?_
    refine WGo.s (WStep.bipush (7 : Int32) a0_87 rfl) ?_
    refine WGo.s (WStep.iload a0_89 rfl) ?_
    refine WGo.s (WStep.isub a0_91) ?_
    show WGo _ (92, [wI sel, wJ d1, wS, wJ d2, wS, wI s, wI l, wR 0, wI 3, wU, wU, wU], [.int 4, (.int (l &&& (2147483647 : Int32)))], [(.inl (.char, [(.int x0), (.int x1), (.int x2), (.int x3), (.int x4), (.int x5)]))], 6) _
    refine WGo.s (WStep.irem a0_92 (by decide)) ?_
    generalize hg_m : ((l &&& (2147483647 : Int32)) % (4 : Int32)) = m
    have hm := remx _ _ _ hg_m (by decide)
    have hs : m = 0 ∨ m = 1 ∨ m = 2 ∨ m = 3 := by
      have e7 : (4 : Int32).toInt = 4 := rfl
      simp only [← Int32.toInt_inj, Int32.reduceToInt] at *
      omega
    rcases hs with rfl | rfl | rfl | rfl
    · show WGo _ (93, [wI sel, wJ d1, wS, wJ d2, wS, wI s, wI l, wR 0, wI 3, wU, wU, wU], [.int 0], [(.inl (.char, [(.int x0), (.int x1), (.int x2), (.int x3), (.int x4), (.int x5)]))], 6) _
      refine WGo.s (WStep.istore (L' := [wI sel, wJ d1, wS, wJ d2, wS, wI s, wI l, wR 0, wI 3, wI 0, wU, wU]) a0_93 rfl) ?_
      refine WGo.s (WStep.iload a0_95 rfl) ?_
      refine WGo.s (WStep.iload a0_97 rfl) ?_
      refine WGo.s (WStep.iadd a0_99) ?_
      show WGo _ (100, [wI sel, wJ d1, wS, wJ d2, wS, wI s, wI l, wR 0, wI 3, wI 0, wU, wU], [.int 3], [(.inl (.char, [(.int x0), (.int x1), (.int x2), (.int x3), (.int x4), (.int x5)]))], 6) _
      refine WGo.s (WStep.istore (L' := [wI sel, wJ d1, wS, wJ d2, wS, wI s, wI l, wR 0, wI 3, wI 0, wI 3, wU]) a0_100 rfl) ?_
      refine WGo.s (WStep.aload a0_102 rfl rfl) ?_
      refine WGo.s (WStep.iconst (0 : Int32) a0_104 rfl) ?_
      refine WGo.s (WStep.iload a0_105 rfl) ?_
      refine WGo.s (WStep.iload a0_107 rfl) ?_
      refine WGo.callS a0_109 (ok2 hw _ _ _ _) (wd hw 6 rfl) (wd hw 7 rfl) (argsL := [.ref 0, .int 0, .int 3, .int 3]) (S := []) (c2 hw _ _ x0 x1 x2 x3 x4 x5 0 3 3 x0 0 (by decide) rfl rfl _) rfl rfl rfl rfl rfl rfl (Nat.le_of_ble_eq_true rfl) (Nat.le_of_ble_eq_true rfl) ?_
      rintro _ _ _ ⟨⟨rfl, hA⟩ | ⟨rfl, hA⟩, rfl, rfl⟩
      · exact absurd (by decide) hA.1
      · clear hA
        show WGo _ (112, [wI sel, wJ d1, wS, wJ d2, wS, wI s, wI l, wR 0, wI 3, wI 0, wI 3, wU], [.int 0], [(.inl (.char, [(.int x0), (.int x1), (.int x2), (.int x3), (.int x4), (.int x5)]))], 6) _
        refine WGo.s (WStep.ifF a0_112 (by decide)) ?_
        refine WGo.s (WStep.aload a0_115 rfl rfl) ?_
        refine WGo.s (WStep.iconst (1 : Int32) a0_117 rfl) ?_
        refine WGo.s (WStep.iload a0_118 rfl) ?_
        refine WGo.s (WStep.iload a0_120 rfl) ?_
        refine WGo.callS a0_122 (ok2 hw _ _ _ _) (wd hw 6 rfl) (wd hw 7 rfl) (argsL := [.ref 0, .int 1, .int 3, .int 3]) (S := []) (c2 hw _ _ x0 x1 x2 x3 x4 x5 1 3 3 x1 1 (by decide) rfl rfl _) rfl rfl rfl rfl rfl rfl (Nat.le_of_ble_eq_true rfl) (Nat.le_of_ble_eq_true rfl) ?_
        rintro _ _ _ ⟨⟨rfl, hA⟩ | ⟨rfl, hA⟩, rfl, rfl⟩
        · exact absurd (by decide) hA.1
        · clear hA
          show WGo _ (125, [wI sel, wJ d1, wS, wJ d2, wS, wI s, wI l, wR 0, wI 3, wI 0, wI 3, wU], [.int 0], [(.inl (.char, [(.int x0), (.int x1), (.int x2), (.int x3), (.int x4), (.int x5)]))], 6) _
          refine WGo.s (WStep.ifF a0_125 (by decide)) ?_
          refine WGo.s (WStep.aload a0_128 rfl rfl) ?_
          refine WGo.s (WStep.iconst (2 : Int32) a0_130 rfl) ?_
          refine WGo.s (WStep.iload a0_131 rfl) ?_
          refine WGo.s (WStep.iload a0_133 rfl) ?_
          refine WGo.callS a0_135 (ok2 hw _ _ _ _) (wd hw 6 rfl) (wd hw 7 rfl) (argsL := [.ref 0, .int 2, .int 3, .int 3]) (S := []) (c2 hw _ _ x0 x1 x2 x3 x4 x5 2 3 3 x2 2 (by decide) rfl rfl _) rfl rfl rfl rfl rfl rfl (Nat.le_of_ble_eq_true rfl) (Nat.le_of_ble_eq_true rfl) ?_
          rintro _ _ _ ⟨⟨rfl, hA⟩ | ⟨rfl, hA⟩, rfl, rfl⟩
          · exact absurd (by decide) hA.1
          · clear hA
            show WGo _ (138, [wI sel, wJ d1, wS, wJ d2, wS, wI s, wI l, wR 0, wI 3, wI 0, wI 3, wU], [.int 0], [(.inl (.char, [(.int x0), (.int x1), (.int x2), (.int x3), (.int x4), (.int x5)]))], 6) _
            refine WGo.s (WStep.ifF a0_138 (by decide)) ?_
            refine WGo.s (WStep.aload a0_141 rfl rfl) ?_
            refine WGo.s (WStep.iconst (3 : Int32) a0_143 rfl) ?_
            refine WGo.s (WStep.iload a0_144 rfl) ?_
            refine WGo.s (WStep.iload a0_146 rfl) ?_
            refine WGo.callS a0_148 (ok2 hw _ _ _ _) (wd hw 6 rfl) (wd hw 7 rfl) (argsL := [.ref 0, .int 3, .int 3, .int 3]) (S := []) (c2 hw _ _ x0 x1 x2 x3 x4 x5 3 3 3 x3 3 (by decide) rfl rfl _) rfl rfl rfl rfl rfl rfl (Nat.le_of_ble_eq_true rfl) (Nat.le_of_ble_eq_true rfl) ?_
            rintro _ _ _ ⟨⟨rfl, hA⟩ | ⟨rfl, hA⟩, rfl, rfl⟩
            · exact absurd hA.2.1 (by decide)
            · clear hA
              show WGo _ (151, [wI sel, wJ d1, wS, wJ d2, wS, wI s, wI l, wR 0, wI 3, wI 0, wI 3, wU], [.int 0], [(.inl (.char, [(.int x0), (.int x1), (.int x2), (.int x3), (.int x4), (.int x5)]))], 6) _
              refine WGo.s (WStep.ifF a0_151 (by decide)) ?_
              refine WGo.s (WStep.aload a0_154 rfl rfl) ?_
              refine WGo.s (WStep.iconst (4 : Int32) a0_156 rfl) ?_
              refine WGo.s (WStep.iload a0_157 rfl) ?_
              refine WGo.s (WStep.iload a0_159 rfl) ?_
              refine WGo.callS a0_161 (ok2 hw _ _ _ _) (wd hw 6 rfl) (wd hw 7 rfl) (argsL := [.ref 0, .int 4, .int 3, .int 3]) (S := []) (c2 hw _ _ x0 x1 x2 x3 x4 x5 4 3 3 x4 4 (by decide) rfl rfl _) rfl rfl rfl rfl rfl rfl (Nat.le_of_ble_eq_true rfl) (Nat.le_of_ble_eq_true rfl) ?_
              rintro _ _ _ ⟨⟨rfl, hA⟩ | ⟨rfl, hA⟩, rfl, rfl⟩
              · exact absurd hA.2.1 (by decide)
              · clear hA
                show WGo _ (164, [wI sel, wJ d1, wS, wJ d2, wS, wI s, wI l, wR 0, wI 3, wI 0, wI 3, wU], [.int 0], [(.inl (.char, [(.int x0), (.int x1), (.int x2), (.int x3), (.int x4), (.int x5)]))], 6) _
                refine WGo.s (WStep.ifF a0_164 (by decide)) ?_
                refine WGo.s (WStep.aload a0_167 rfl rfl) ?_
                refine WGo.s (WStep.iconst (5 : Int32) a0_169 rfl) ?_
                refine WGo.s (WStep.iload a0_170 rfl) ?_
                refine WGo.s (WStep.iload a0_172 rfl) ?_
                refine WGo.callS a0_174 (ok2 hw _ _ _ _) (wd hw 6 rfl) (wd hw 7 rfl) (argsL := [.ref 0, .int 5, .int 3, .int 3]) (S := []) (c2 hw _ _ x0 x1 x2 x3 x4 x5 5 3 3 x5 5 (by decide) rfl rfl _) rfl rfl rfl rfl rfl rfl (Nat.le_of_ble_eq_true rfl) (Nat.le_of_ble_eq_true rfl) ?_
                rintro _ _ _ ⟨⟨rfl, hA⟩ | ⟨rfl, hA⟩, rfl, rfl⟩
                · exact absurd hA.2.1 (by decide)
                · clear hA
                  show WGo _ (177, [wI sel, wJ d1, wS, wJ d2, wS, wI s, wI l, wR 0, wI 3, wI 0, wI 3, wU], [.int 0], [(.inl (.char, [(.int x0), (.int x1), (.int x2), (.int x3), (.int x4), (.int x5)]))], 6) _
                  refine WGo.s (WStep.ifT a0_177 (by decide)) ?_
                  refine WGo.s (WStep.iconst (0 : Int32) a0_184 rfl) ?_
                  refine WGo.s (WStep.istore (L' := [wI sel, wJ d1, wS, wJ d2, wS, wI s, wI l, wR 0, wI 3, wI 0, wI 3, wI 0]) a0_185 rfl) ?_
                  refine WGo.s (WStep.aload a0_187 rfl rfl) ?_
                  refine WGo.s (WStep.iload a0_189 rfl) ?_
                  refine WGo.s (WStep.iload a0_191 rfl) ?_
                  refine WGo.callS a0_193 (ok3 hw _ _ _ _) (wd hw 9 rfl) (wd hw 10 rfl) (argsL := [.ref 0, .int 3, .int 0]) (S := []) (c3_30 hw _ _ x0 x1 x2 x3 x4 x5 _) rfl rfl rfl rfl rfl rfl (Nat.le_of_ble_eq_true rfl) (Nat.le_of_ble_eq_true rfl) ?_
                  rintro _ _ _ ⟨⟨rfl, hM⟩ | ⟨rfl, hM⟩, rfl, rfl⟩
                  · exfalso
                    simp_all
                  · skip
                    show WGo _ (196, [wI sel, wJ d1, wS, wJ d2, wS, wI s, wI l, wR 0, wI 3, wI 0, wI 3, wI 0], [.int 0], [(.inl (.char, [(.int x0), (.int x1), (.int x2), (.int x3), (.int x4), (.int x5)]))], 6) _
                    refine WGo.s (WStep.iload a0_196 rfl) ?_
                    refine WGo.s (WStep.icmpF a0_198 (by decide)) ?_
                    refine WGo.s (WStep.iconst (1 : Int32) a0_201 rfl) ?_
                    refine WGo.s (WStep.goto a0_202) ?_
                    refine WGo.ireturn .boolean a0_206 rfl (by simp) ?_
                    exact ⟨rfl, Nat.le_of_ble_eq_true rfl, Nat.le_of_ble_eq_true rfl⟩
    · show WGo _ (93, [wI sel, wJ d1, wS, wJ d2, wS, wI s, wI l, wR 0, wI 3, wU, wU, wU], [.int 1], [(.inl (.char, [(.int x0), (.int x1), (.int x2), (.int x3), (.int x4), (.int x5)]))], 6) _
      refine WGo.s (WStep.istore (L' := [wI sel, wJ d1, wS, wJ d2, wS, wI s, wI l, wR 0, wI 3, wI 1, wU, wU]) a0_93 rfl) ?_
      refine WGo.s (WStep.iload a0_95 rfl) ?_
      refine WGo.s (WStep.iload a0_97 rfl) ?_
      refine WGo.s (WStep.iadd a0_99) ?_
      show WGo _ (100, [wI sel, wJ d1, wS, wJ d2, wS, wI s, wI l, wR 0, wI 3, wI 1, wU, wU], [.int 4], [(.inl (.char, [(.int x0), (.int x1), (.int x2), (.int x3), (.int x4), (.int x5)]))], 6) _
      refine WGo.s (WStep.istore (L' := [wI sel, wJ d1, wS, wJ d2, wS, wI s, wI l, wR 0, wI 3, wI 1, wI 4, wU]) a0_100 rfl) ?_
      refine WGo.s (WStep.aload a0_102 rfl rfl) ?_
      refine WGo.s (WStep.iconst (0 : Int32) a0_104 rfl) ?_
      refine WGo.s (WStep.iload a0_105 rfl) ?_
      refine WGo.s (WStep.iload a0_107 rfl) ?_
      refine WGo.callS a0_109 (ok2 hw _ _ _ _) (wd hw 6 rfl) (wd hw 7 rfl) (argsL := [.ref 0, .int 0, .int 3, .int 4]) (S := []) (c2 hw _ _ x0 x1 x2 x3 x4 x5 0 3 4 x0 0 (by decide) rfl rfl _) rfl rfl rfl rfl rfl rfl (Nat.le_of_ble_eq_true rfl) (Nat.le_of_ble_eq_true rfl) ?_
      rintro _ _ _ ⟨⟨rfl, hA⟩ | ⟨rfl, hA⟩, rfl, rfl⟩
      · exact absurd (by decide) hA.1
      · clear hA
        show WGo _ (112, [wI sel, wJ d1, wS, wJ d2, wS, wI s, wI l, wR 0, wI 3, wI 1, wI 4, wU], [.int 0], [(.inl (.char, [(.int x0), (.int x1), (.int x2), (.int x3), (.int x4), (.int x5)]))], 6) _
        refine WGo.s (WStep.ifF a0_112 (by decide)) ?_
        refine WGo.s (WStep.aload a0_115 rfl rfl) ?_
        refine WGo.s (WStep.iconst (1 : Int32) a0_117 rfl) ?_
        refine WGo.s (WStep.iload a0_118 rfl) ?_
        refine WGo.s (WStep.iload a0_120 rfl) ?_
        refine WGo.callS a0_122 (ok2 hw _ _ _ _) (wd hw 6 rfl) (wd hw 7 rfl) (argsL := [.ref 0, .int 1, .int 3, .int 4]) (S := []) (c2 hw _ _ x0 x1 x2 x3 x4 x5 1 3 4 x1 1 (by decide) rfl rfl _) rfl rfl rfl rfl rfl rfl (Nat.le_of_ble_eq_true rfl) (Nat.le_of_ble_eq_true rfl) ?_
        rintro _ _ _ ⟨⟨rfl, hA⟩ | ⟨rfl, hA⟩, rfl, rfl⟩
        · exact absurd (by decide) hA.1
        · clear hA
          show WGo _ (125, [wI sel, wJ d1, wS, wJ d2, wS, wI s, wI l, wR 0, wI 3, wI 1, wI 4, wU], [.int 0], [(.inl (.char, [(.int x0), (.int x1), (.int x2), (.int x3), (.int x4), (.int x5)]))], 6) _
          refine WGo.s (WStep.ifF a0_125 (by decide)) ?_
          refine WGo.s (WStep.aload a0_128 rfl rfl) ?_
          refine WGo.s (WStep.iconst (2 : Int32) a0_130 rfl) ?_
          refine WGo.s (WStep.iload a0_131 rfl) ?_
          refine WGo.s (WStep.iload a0_133 rfl) ?_
          refine WGo.callS a0_135 (ok2 hw _ _ _ _) (wd hw 6 rfl) (wd hw 7 rfl) (argsL := [.ref 0, .int 2, .int 3, .int 4]) (S := []) (c2 hw _ _ x0 x1 x2 x3 x4 x5 2 3 4 x2 2 (by decide) rfl rfl _) rfl rfl rfl rfl rfl rfl (Nat.le_of_ble_eq_true rfl) (Nat.le_of_ble_eq_true rfl) ?_
          rintro _ _ _ ⟨⟨rfl, hA⟩ | ⟨rfl, hA⟩, rfl, rfl⟩
          · exact absurd (by decide) hA.1
          · clear hA
            show WGo _ (138, [wI sel, wJ d1, wS, wJ d2, wS, wI s, wI l, wR 0, wI 3, wI 1, wI 4, wU], [.int 0], [(.inl (.char, [(.int x0), (.int x1), (.int x2), (.int x3), (.int x4), (.int x5)]))], 6) _
            refine WGo.s (WStep.ifF a0_138 (by decide)) ?_
            refine WGo.s (WStep.aload a0_141 rfl rfl) ?_
            refine WGo.s (WStep.iconst (3 : Int32) a0_143 rfl) ?_
            refine WGo.s (WStep.iload a0_144 rfl) ?_
            refine WGo.s (WStep.iload a0_146 rfl) ?_
            refine WGo.callS a0_148 (ok2 hw _ _ _ _) (wd hw 6 rfl) (wd hw 7 rfl) (argsL := [.ref 0, .int 3, .int 3, .int 4]) (S := []) (c2 hw _ _ x0 x1 x2 x3 x4 x5 3 3 4 x3 3 (by decide) rfl rfl _) rfl rfl rfl rfl rfl rfl (Nat.le_of_ble_eq_true rfl) (Nat.le_of_ble_eq_true rfl) ?_
            rintro _ _ _ ⟨⟨rfl, hA⟩ | ⟨rfl, hA⟩, rfl, rfl⟩
            · exact absurd hA.2.1 (by decide)
            · clear hA
              show WGo _ (151, [wI sel, wJ d1, wS, wJ d2, wS, wI s, wI l, wR 0, wI 3, wI 1, wI 4, wU], [.int 0], [(.inl (.char, [(.int x0), (.int x1), (.int x2), (.int x3), (.int x4), (.int x5)]))], 6) _
              refine WGo.s (WStep.ifF a0_151 (by decide)) ?_
              refine WGo.s (WStep.aload a0_154 rfl rfl) ?_
              refine WGo.s (WStep.iconst (4 : Int32) a0_156 rfl) ?_
              refine WGo.s (WStep.iload a0_157 rfl) ?_
              refine WGo.s (WStep.iload a0_159 rfl) ?_
              refine WGo.callS a0_161 (ok2 hw _ _ _ _) (wd hw 6 rfl) (wd hw 7 rfl) (argsL := [.ref 0, .int 4, .int 3, .int 4]) (S := []) (c2 hw _ _ x0 x1 x2 x3 x4 x5 4 3 4 x4 4 (by decide) rfl rfl _) rfl rfl rfl rfl rfl rfl (Nat.le_of_ble_eq_true rfl) (Nat.le_of_ble_eq_true rfl) ?_
              rintro _ _ _ ⟨⟨rfl, hA⟩ | ⟨rfl, hA⟩, rfl, rfl⟩
              · exact absurd hA.2.1 (by decide)
              · clear hA
                show WGo _ (164, [wI sel, wJ d1, wS, wJ d2, wS, wI s, wI l, wR 0, wI 3, wI 1, wI 4, wU], [.int 0], [(.inl (.char, [(.int x0), (.int x1), (.int x2), (.int x3), (.int x4), (.int x5)]))], 6) _
                refine WGo.s (WStep.ifF a0_164 (by decide)) ?_
                refine WGo.s (WStep.aload a0_167 rfl rfl) ?_
                refine WGo.s (WStep.iconst (5 : Int32) a0_169 rfl) ?_
                refine WGo.s (WStep.iload a0_170 rfl) ?_
                refine WGo.s (WStep.iload a0_172 rfl) ?_
                refine WGo.callS a0_174 (ok2 hw _ _ _ _) (wd hw 6 rfl) (wd hw 7 rfl) (argsL := [.ref 0, .int 5, .int 3, .int 4]) (S := []) (c2 hw _ _ x0 x1 x2 x3 x4 x5 5 3 4 x5 5 (by decide) rfl rfl _) rfl rfl rfl rfl rfl rfl (Nat.le_of_ble_eq_true rfl) (Nat.le_of_ble_eq_true rfl) ?_
                rintro _ _ _ ⟨⟨rfl, hA⟩ | ⟨rfl, hA⟩, rfl, rfl⟩
                · exact absurd hA.2.1 (by decide)
                · clear hA
                  show WGo _ (177, [wI sel, wJ d1, wS, wJ d2, wS, wI s, wI l, wR 0, wI 3, wI 1, wI 4, wU], [.int 0], [(.inl (.char, [(.int x0), (.int x1), (.int x2), (.int x3), (.int x4), (.int x5)]))], 6) _
                  refine WGo.s (WStep.ifT a0_177 (by decide)) ?_
                  refine WGo.s (WStep.iconst (0 : Int32) a0_184 rfl) ?_
                  refine WGo.s (WStep.istore (L' := [wI sel, wJ d1, wS, wJ d2, wS, wI s, wI l, wR 0, wI 3, wI 1, wI 4, wI 0]) a0_185 rfl) ?_
                  refine WGo.s (WStep.aload a0_187 rfl rfl) ?_
                  refine WGo.s (WStep.iload a0_189 rfl) ?_
                  refine WGo.s (WStep.iload a0_191 rfl) ?_
                  refine WGo.callS a0_193 (ok3 hw _ _ _ _) (wd hw 9 rfl) (wd hw 10 rfl) (argsL := [.ref 0, .int 3, .int 1]) (S := []) (c3_31 hw _ _ x0 x1 x2 x3 x4 x5 _) rfl rfl rfl rfl rfl rfl (Nat.le_of_ble_eq_true rfl) (Nat.le_of_ble_eq_true rfl) ?_
                  rintro _ _ _ ⟨⟨rfl, hM⟩ | ⟨rfl, hM⟩, rfl, rfl⟩
                  · exfalso
                    simp_all
                  · skip
                    show WGo _ (196, [wI sel, wJ d1, wS, wJ d2, wS, wI s, wI l, wR 0, wI 3, wI 1, wI 4, wI 0], [.int 0], [(.inl (.char, [(.int x0), (.int x1), (.int x2), (.int x3), (.int x4), (.int x5)]))], 6) _
                    refine WGo.s (WStep.iload a0_196 rfl) ?_
                    refine WGo.s (WStep.icmpF a0_198 (by decide)) ?_
                    refine WGo.s (WStep.iconst (1 : Int32) a0_201 rfl) ?_
                    refine WGo.s (WStep.goto a0_202) ?_
                    refine WGo.ireturn .boolean a0_206 rfl (by simp) ?_
                    exact ⟨rfl, Nat.le_of_ble_eq_true rfl, Nat.le_of_ble_eq_true rfl⟩
    · show WGo _ (93, [wI sel, wJ d1, wS, wJ d2, wS, wI s, wI l, wR 0, wI 3, wU, wU, wU], [.int 2], [(.inl (.char, [(.int x0), (.int x1), (.int x2), (.int x3), (.int x4), (.int x5)]))], 6) _
      refine WGo.s (WStep.istore (L' := [wI sel, wJ d1, wS, wJ d2, wS, wI s, wI l, wR 0, wI 3, wI 2, wU, wU]) a0_93 rfl) ?_
      refine WGo.s (WStep.iload a0_95 rfl) ?_
      refine WGo.s (WStep.iload a0_97 rfl) ?_
      refine WGo.s (WStep.iadd a0_99) ?_
      show WGo _ (100, [wI sel, wJ d1, wS, wJ d2, wS, wI s, wI l, wR 0, wI 3, wI 2, wU, wU], [.int 5], [(.inl (.char, [(.int x0), (.int x1), (.int x2), (.int x3), (.int x4), (.int x5)]))], 6) _
      refine WGo.s (WStep.istore (L' := [wI sel, wJ d1, wS, wJ d2, wS, wI s, wI l, wR 0, wI 3, wI 2, wI 5, wU]) a0_100 rfl) ?_
      refine WGo.s (WStep.aload a0_102 rfl rfl) ?_
      refine WGo.s (WStep.iconst (0 : Int32) a0_104 rfl) ?_
      refine WGo.s (WStep.iload a0_105 rfl) ?_
      refine WGo.s (WStep.iload a0_107 rfl) ?_
      refine WGo.callS a0_109 (ok2 hw _ _ _ _) (wd hw 6 rfl) (wd hw 7 rfl) (argsL := [.ref 0, .int 0, .int 3, .int 5]) (S := []) (c2 hw _ _ x0 x1 x2 x3 x4 x5 0 3 5 x0 0 (by decide) rfl rfl _) rfl rfl rfl rfl rfl rfl (Nat.le_of_ble_eq_true rfl) (Nat.le_of_ble_eq_true rfl) ?_
      rintro _ _ _ ⟨⟨rfl, hA⟩ | ⟨rfl, hA⟩, rfl, rfl⟩
      · exact absurd (by decide) hA.1
      · clear hA
        show WGo _ (112, [wI sel, wJ d1, wS, wJ d2, wS, wI s, wI l, wR 0, wI 3, wI 2, wI 5, wU], [.int 0], [(.inl (.char, [(.int x0), (.int x1), (.int x2), (.int x3), (.int x4), (.int x5)]))], 6) _
        refine WGo.s (WStep.ifF a0_112 (by decide)) ?_
        refine WGo.s (WStep.aload a0_115 rfl rfl) ?_
        refine WGo.s (WStep.iconst (1 : Int32) a0_117 rfl) ?_
        refine WGo.s (WStep.iload a0_118 rfl) ?_
        refine WGo.s (WStep.iload a0_120 rfl) ?_
        refine WGo.callS a0_122 (ok2 hw _ _ _ _) (wd hw 6 rfl) (wd hw 7 rfl) (argsL := [.ref 0, .int 1, .int 3, .int 5]) (S := []) (c2 hw _ _ x0 x1 x2 x3 x4 x5 1 3 5 x1 1 (by decide) rfl rfl _) rfl rfl rfl rfl rfl rfl (Nat.le_of_ble_eq_true rfl) (Nat.le_of_ble_eq_true rfl) ?_
        rintro _ _ _ ⟨⟨rfl, hA⟩ | ⟨rfl, hA⟩, rfl, rfl⟩
        · exact absurd (by decide) hA.1
        · clear hA
          show WGo _ (125, [wI sel, wJ d1, wS, wJ d2, wS, wI s, wI l, wR 0, wI 3, wI 2, wI 5, wU], [.int 0], [(.inl (.char, [(.int x0), (.int x1), (.int x2), (.int x3), (.int x4), (.int x5)]))], 6) _
          refine WGo.s (WStep.ifF a0_125 (by decide)) ?_
          refine WGo.s (WStep.aload a0_128 rfl rfl) ?_
          refine WGo.s (WStep.iconst (2 : Int32) a0_130 rfl) ?_
          refine WGo.s (WStep.iload a0_131 rfl) ?_
          refine WGo.s (WStep.iload a0_133 rfl) ?_
          refine WGo.callS a0_135 (ok2 hw _ _ _ _) (wd hw 6 rfl) (wd hw 7 rfl) (argsL := [.ref 0, .int 2, .int 3, .int 5]) (S := []) (c2 hw _ _ x0 x1 x2 x3 x4 x5 2 3 5 x2 2 (by decide) rfl rfl _) rfl rfl rfl rfl rfl rfl (Nat.le_of_ble_eq_true rfl) (Nat.le_of_ble_eq_true rfl) ?_
          rintro _ _ _ ⟨⟨rfl, hA⟩ | ⟨rfl, hA⟩, rfl, rfl⟩
          · exact absurd (by decide) hA.1
          · clear hA
            show WGo _ (138, [wI sel, wJ d1, wS, wJ d2, wS, wI s, wI l, wR 0, wI 3, wI 2, wI 5, wU], [.int 0], [(.inl (.char, [(.int x0), (.int x1), (.int x2), (.int x3), (.int x4), (.int x5)]))], 6) _
            refine WGo.s (WStep.ifF a0_138 (by decide)) ?_
            refine WGo.s (WStep.aload a0_141 rfl rfl) ?_
            refine WGo.s (WStep.iconst (3 : Int32) a0_143 rfl) ?_
            refine WGo.s (WStep.iload a0_144 rfl) ?_
            refine WGo.s (WStep.iload a0_146 rfl) ?_
            refine WGo.callS a0_148 (ok2 hw _ _ _ _) (wd hw 6 rfl) (wd hw 7 rfl) (argsL := [.ref 0, .int 3, .int 3, .int 5]) (S := []) (c2 hw _ _ x0 x1 x2 x3 x4 x5 3 3 5 x3 3 (by decide) rfl rfl _) rfl rfl rfl rfl rfl rfl (Nat.le_of_ble_eq_true rfl) (Nat.le_of_ble_eq_true rfl) ?_
            rintro _ _ _ ⟨⟨rfl, hA⟩ | ⟨rfl, hA⟩, rfl, rfl⟩
            · have hx3 := hA.2.2
              clear hA
              show WGo _ (151, [wI sel, wJ d1, wS, wJ d2, wS, wI s, wI l, wR 0, wI 3, wI 2, wI 5, wU], [.int 1], [(.inl (.char, [(.int x0), (.int x1), (.int x2), (.int x3), (.int x4), (.int x5)]))], 6) _
              refine WGo.s (WStep.ifT a0_151 (by decide)) ?_
              refine WGo.s (WStep.iconst (1 : Int32) a0_180 rfl) ?_
              refine WGo.s (WStep.goto a0_181) ?_
              refine WGo.s (WStep.istore (L' := [wI sel, wJ d1, wS, wJ d2, wS, wI s, wI l, wR 0, wI 3, wI 2, wI 5, wI 1]) a0_185 rfl) ?_
              refine WGo.s (WStep.aload a0_187 rfl rfl) ?_
              refine WGo.s (WStep.iload a0_189 rfl) ?_
              refine WGo.s (WStep.iload a0_191 rfl) ?_
              refine WGo.callS a0_193 (ok3 hw _ _ _ _) (wd hw 9 rfl) (wd hw 10 rfl) (argsL := [.ref 0, .int 3, .int 2]) (S := []) (c3_32 hw _ _ x0 x1 x2 x3 x4 x5 _) rfl rfl rfl rfl rfl rfl (Nat.le_of_ble_eq_true rfl) (Nat.le_of_ble_eq_true rfl) ?_
              rintro _ _ _ ⟨⟨rfl, hM⟩ | ⟨rfl, hM⟩, rfl, rfl⟩
              · skip
                show WGo _ (196, [wI sel, wJ d1, wS, wJ d2, wS, wI s, wI l, wR 0, wI 3, wI 2, wI 5, wI 1], [.int 1], [(.inl (.char, [(.int x0), (.int x1), (.int x2), (.int x3), (.int x4), (.int x5)]))], 6) _
                refine WGo.s (WStep.iload a0_196 rfl) ?_
                refine WGo.s (WStep.icmpF a0_198 (by decide)) ?_
                refine WGo.s (WStep.iconst (1 : Int32) a0_201 rfl) ?_
                refine WGo.s (WStep.goto a0_202) ?_
                refine WGo.ireturn .boolean a0_206 rfl (by simp) ?_
                exact ⟨rfl, Nat.le_of_ble_eq_true rfl, Nat.le_of_ble_eq_true rfl⟩
              · exfalso
                simp_all
            · have hx3 : ¬ x3 = 93 := fun q => hA ⟨by decide, by decide, q⟩
              clear hA
              show WGo _ (151, [wI sel, wJ d1, wS, wJ d2, wS, wI s, wI l, wR 0, wI 3, wI 2, wI 5, wU], [.int 0], [(.inl (.char, [(.int x0), (.int x1), (.int x2), (.int x3), (.int x4), (.int x5)]))], 6) _
              refine WGo.s (WStep.ifF a0_151 (by decide)) ?_
              refine WGo.s (WStep.aload a0_154 rfl rfl) ?_
              refine WGo.s (WStep.iconst (4 : Int32) a0_156 rfl) ?_
              refine WGo.s (WStep.iload a0_157 rfl) ?_
              refine WGo.s (WStep.iload a0_159 rfl) ?_
              refine WGo.callS a0_161 (ok2 hw _ _ _ _) (wd hw 6 rfl) (wd hw 7 rfl) (argsL := [.ref 0, .int 4, .int 3, .int 5]) (S := []) (c2 hw _ _ x0 x1 x2 x3 x4 x5 4 3 5 x4 4 (by decide) rfl rfl _) rfl rfl rfl rfl rfl rfl (Nat.le_of_ble_eq_true rfl) (Nat.le_of_ble_eq_true rfl) ?_
              rintro _ _ _ ⟨⟨rfl, hA⟩ | ⟨rfl, hA⟩, rfl, rfl⟩
              · exact absurd hA.2.1 (by decide)
              · clear hA
                show WGo _ (164, [wI sel, wJ d1, wS, wJ d2, wS, wI s, wI l, wR 0, wI 3, wI 2, wI 5, wU], [.int 0], [(.inl (.char, [(.int x0), (.int x1), (.int x2), (.int x3), (.int x4), (.int x5)]))], 6) _
                refine WGo.s (WStep.ifF a0_164 (by decide)) ?_
                refine WGo.s (WStep.aload a0_167 rfl rfl) ?_
                refine WGo.s (WStep.iconst (5 : Int32) a0_169 rfl) ?_
                refine WGo.s (WStep.iload a0_170 rfl) ?_
                refine WGo.s (WStep.iload a0_172 rfl) ?_
                refine WGo.callS a0_174 (ok2 hw _ _ _ _) (wd hw 6 rfl) (wd hw 7 rfl) (argsL := [.ref 0, .int 5, .int 3, .int 5]) (S := []) (c2 hw _ _ x0 x1 x2 x3 x4 x5 5 3 5 x5 5 (by decide) rfl rfl _) rfl rfl rfl rfl rfl rfl (Nat.le_of_ble_eq_true rfl) (Nat.le_of_ble_eq_true rfl) ?_
                rintro _ _ _ ⟨⟨rfl, hA⟩ | ⟨rfl, hA⟩, rfl, rfl⟩
                · exact absurd hA.2.1 (by decide)
                · clear hA
                  show WGo _ (177, [wI sel, wJ d1, wS, wJ d2, wS, wI s, wI l, wR 0, wI 3, wI 2, wI 5, wU], [.int 0], [(.inl (.char, [(.int x0), (.int x1), (.int x2), (.int x3), (.int x4), (.int x5)]))], 6) _
                  refine WGo.s (WStep.ifT a0_177 (by decide)) ?_
                  refine WGo.s (WStep.iconst (0 : Int32) a0_184 rfl) ?_
                  refine WGo.s (WStep.istore (L' := [wI sel, wJ d1, wS, wJ d2, wS, wI s, wI l, wR 0, wI 3, wI 2, wI 5, wI 0]) a0_185 rfl) ?_
                  refine WGo.s (WStep.aload a0_187 rfl rfl) ?_
                  refine WGo.s (WStep.iload a0_189 rfl) ?_
                  refine WGo.s (WStep.iload a0_191 rfl) ?_
                  refine WGo.callS a0_193 (ok3 hw _ _ _ _) (wd hw 9 rfl) (wd hw 10 rfl) (argsL := [.ref 0, .int 3, .int 2]) (S := []) (c3_32 hw _ _ x0 x1 x2 x3 x4 x5 _) rfl rfl rfl rfl rfl rfl (Nat.le_of_ble_eq_true rfl) (Nat.le_of_ble_eq_true rfl) ?_
                  rintro _ _ _ ⟨⟨rfl, hM⟩ | ⟨rfl, hM⟩, rfl, rfl⟩
                  · exfalso
                    simp_all
                  · skip
                    show WGo _ (196, [wI sel, wJ d1, wS, wJ d2, wS, wI s, wI l, wR 0, wI 3, wI 2, wI 5, wI 0], [.int 0], [(.inl (.char, [(.int x0), (.int x1), (.int x2), (.int x3), (.int x4), (.int x5)]))], 6) _
                    refine WGo.s (WStep.iload a0_196 rfl) ?_
                    refine WGo.s (WStep.icmpF a0_198 (by decide)) ?_
                    refine WGo.s (WStep.iconst (1 : Int32) a0_201 rfl) ?_
                    refine WGo.s (WStep.goto a0_202) ?_
                    refine WGo.ireturn .boolean a0_206 rfl (by simp) ?_
                    exact ⟨rfl, Nat.le_of_ble_eq_true rfl, Nat.le_of_ble_eq_true rfl⟩
    · show WGo _ (93, [wI sel, wJ d1, wS, wJ d2, wS, wI s, wI l, wR 0, wI 3, wU, wU, wU], [.int 3], [(.inl (.char, [(.int x0), (.int x1), (.int x2), (.int x3), (.int x4), (.int x5)]))], 6) _
      refine WGo.s (WStep.istore (L' := [wI sel, wJ d1, wS, wJ d2, wS, wI s, wI l, wR 0, wI 3, wI 3, wU, wU]) a0_93 rfl) ?_
      refine WGo.s (WStep.iload a0_95 rfl) ?_
      refine WGo.s (WStep.iload a0_97 rfl) ?_
      refine WGo.s (WStep.iadd a0_99) ?_
      show WGo _ (100, [wI sel, wJ d1, wS, wJ d2, wS, wI s, wI l, wR 0, wI 3, wI 3, wU, wU], [.int 6], [(.inl (.char, [(.int x0), (.int x1), (.int x2), (.int x3), (.int x4), (.int x5)]))], 6) _
      refine WGo.s (WStep.istore (L' := [wI sel, wJ d1, wS, wJ d2, wS, wI s, wI l, wR 0, wI 3, wI 3, wI 6, wU]) a0_100 rfl) ?_
      refine WGo.s (WStep.aload a0_102 rfl rfl) ?_
      refine WGo.s (WStep.iconst (0 : Int32) a0_104 rfl) ?_
      refine WGo.s (WStep.iload a0_105 rfl) ?_
      refine WGo.s (WStep.iload a0_107 rfl) ?_
      refine WGo.callS a0_109 (ok2 hw _ _ _ _) (wd hw 6 rfl) (wd hw 7 rfl) (argsL := [.ref 0, .int 0, .int 3, .int 6]) (S := []) (c2 hw _ _ x0 x1 x2 x3 x4 x5 0 3 6 x0 0 (by decide) rfl rfl _) rfl rfl rfl rfl rfl rfl (Nat.le_of_ble_eq_true rfl) (Nat.le_of_ble_eq_true rfl) ?_
      rintro _ _ _ ⟨⟨rfl, hA⟩ | ⟨rfl, hA⟩, rfl, rfl⟩
      · exact absurd (by decide) hA.1
      · clear hA
        show WGo _ (112, [wI sel, wJ d1, wS, wJ d2, wS, wI s, wI l, wR 0, wI 3, wI 3, wI 6, wU], [.int 0], [(.inl (.char, [(.int x0), (.int x1), (.int x2), (.int x3), (.int x4), (.int x5)]))], 6) _
        refine WGo.s (WStep.ifF a0_112 (by decide)) ?_
        refine WGo.s (WStep.aload a0_115 rfl rfl) ?_
        refine WGo.s (WStep.iconst (1 : Int32) a0_117 rfl) ?_
        refine WGo.s (WStep.iload a0_118 rfl) ?_
        refine WGo.s (WStep.iload a0_120 rfl) ?_
        refine WGo.callS a0_122 (ok2 hw _ _ _ _) (wd hw 6 rfl) (wd hw 7 rfl) (argsL := [.ref 0, .int 1, .int 3, .int 6]) (S := []) (c2 hw _ _ x0 x1 x2 x3 x4 x5 1 3 6 x1 1 (by decide) rfl rfl _) rfl rfl rfl rfl rfl rfl (Nat.le_of_ble_eq_true rfl) (Nat.le_of_ble_eq_true rfl) ?_
        rintro _ _ _ ⟨⟨rfl, hA⟩ | ⟨rfl, hA⟩, rfl, rfl⟩
        · exact absurd (by decide) hA.1
        · clear hA
          show WGo _ (125, [wI sel, wJ d1, wS, wJ d2, wS, wI s, wI l, wR 0, wI 3, wI 3, wI 6, wU], [.int 0], [(.inl (.char, [(.int x0), (.int x1), (.int x2), (.int x3), (.int x4), (.int x5)]))], 6) _
          refine WGo.s (WStep.ifF a0_125 (by decide)) ?_
          refine WGo.s (WStep.aload a0_128 rfl rfl) ?_
          refine WGo.s (WStep.iconst (2 : Int32) a0_130 rfl) ?_
          refine WGo.s (WStep.iload a0_131 rfl) ?_
          refine WGo.s (WStep.iload a0_133 rfl) ?_
          refine WGo.callS a0_135 (ok2 hw _ _ _ _) (wd hw 6 rfl) (wd hw 7 rfl) (argsL := [.ref 0, .int 2, .int 3, .int 6]) (S := []) (c2 hw _ _ x0 x1 x2 x3 x4 x5 2 3 6 x2 2 (by decide) rfl rfl _) rfl rfl rfl rfl rfl rfl (Nat.le_of_ble_eq_true rfl) (Nat.le_of_ble_eq_true rfl) ?_
          rintro _ _ _ ⟨⟨rfl, hA⟩ | ⟨rfl, hA⟩, rfl, rfl⟩
          · exact absurd (by decide) hA.1
          · clear hA
            show WGo _ (138, [wI sel, wJ d1, wS, wJ d2, wS, wI s, wI l, wR 0, wI 3, wI 3, wI 6, wU], [.int 0], [(.inl (.char, [(.int x0), (.int x1), (.int x2), (.int x3), (.int x4), (.int x5)]))], 6) _
            refine WGo.s (WStep.ifF a0_138 (by decide)) ?_
            refine WGo.s (WStep.aload a0_141 rfl rfl) ?_
            refine WGo.s (WStep.iconst (3 : Int32) a0_143 rfl) ?_
            refine WGo.s (WStep.iload a0_144 rfl) ?_
            refine WGo.s (WStep.iload a0_146 rfl) ?_
            refine WGo.callS a0_148 (ok2 hw _ _ _ _) (wd hw 6 rfl) (wd hw 7 rfl) (argsL := [.ref 0, .int 3, .int 3, .int 6]) (S := []) (c2 hw _ _ x0 x1 x2 x3 x4 x5 3 3 6 x3 3 (by decide) rfl rfl _) rfl rfl rfl rfl rfl rfl (Nat.le_of_ble_eq_true rfl) (Nat.le_of_ble_eq_true rfl) ?_
            rintro _ _ _ ⟨⟨rfl, hA⟩ | ⟨rfl, hA⟩, rfl, rfl⟩
            · have hx3 := hA.2.2
              clear hA
              show WGo _ (151, [wI sel, wJ d1, wS, wJ d2, wS, wI s, wI l, wR 0, wI 3, wI 3, wI 6, wU], [.int 1], [(.inl (.char, [(.int x0), (.int x1), (.int x2), (.int x3), (.int x4), (.int x5)]))], 6) _
              refine WGo.s (WStep.ifT a0_151 (by decide)) ?_
              refine WGo.s (WStep.iconst (1 : Int32) a0_180 rfl) ?_
              refine WGo.s (WStep.goto a0_181) ?_
              refine WGo.s (WStep.istore (L' := [wI sel, wJ d1, wS, wJ d2, wS, wI s, wI l, wR 0, wI 3, wI 3, wI 6, wI 1]) a0_185 rfl) ?_
              refine WGo.s (WStep.aload a0_187 rfl rfl) ?_
              refine WGo.s (WStep.iload a0_189 rfl) ?_
              refine WGo.s (WStep.iload a0_191 rfl) ?_
              refine WGo.callS a0_193 (ok3 hw _ _ _ _) (wd hw 9 rfl) (wd hw 10 rfl) (argsL := [.ref 0, .int 3, .int 3]) (S := []) (c3_33 hw _ _ x0 x1 x2 x3 x4 x5 _) rfl rfl rfl rfl rfl rfl (Nat.le_of_ble_eq_true rfl) (Nat.le_of_ble_eq_true rfl) ?_
              rintro _ _ _ ⟨⟨rfl, hM⟩ | ⟨rfl, hM⟩, rfl, rfl⟩
              · skip
                show WGo _ (196, [wI sel, wJ d1, wS, wJ d2, wS, wI s, wI l, wR 0, wI 3, wI 3, wI 6, wI 1], [.int 1], [(.inl (.char, [(.int x0), (.int x1), (.int x2), (.int x3), (.int x4), (.int x5)]))], 6) _
                refine WGo.s (WStep.iload a0_196 rfl) ?_
                refine WGo.s (WStep.icmpF a0_198 (by decide)) ?_
                refine WGo.s (WStep.iconst (1 : Int32) a0_201 rfl) ?_
                refine WGo.s (WStep.goto a0_202) ?_
                refine WGo.ireturn .boolean a0_206 rfl (by simp) ?_
                exact ⟨rfl, Nat.le_of_ble_eq_true rfl, Nat.le_of_ble_eq_true rfl⟩
              · exfalso
                simp_all
            · have hx3 : ¬ x3 = 93 := fun q => hA ⟨by decide, by decide, q⟩
              clear hA
              show WGo _ (151, [wI sel, wJ d1, wS, wJ d2, wS, wI s, wI l, wR 0, wI 3, wI 3, wI 6, wU], [.int 0], [(.inl (.char, [(.int x0), (.int x1), (.int x2), (.int x3), (.int x4), (.int x5)]))], 6) _
              refine WGo.s (WStep.ifF a0_151 (by decide)) ?_
              refine WGo.s (WStep.aload a0_154 rfl rfl) ?_
              refine WGo.s (WStep.iconst (4 : Int32) a0_156 rfl) ?_
              refine WGo.s (WStep.iload a0_157 rfl) ?_
              refine WGo.s (WStep.iload a0_159 rfl) ?_
              refine WGo.callS a0_161 (ok2 hw _ _ _ _) (wd hw 6 rfl) (wd hw 7 rfl) (argsL := [.ref 0, .int 4, .int 3, .int 6]) (S := []) (c2 hw _ _ x0 x1 x2 x3 x4 x5 4 3 6 x4 4 (by decide) rfl rfl _) rfl rfl rfl rfl rfl rfl (Nat.le_of_ble_eq_true rfl) (Nat.le_of_ble_eq_true rfl) ?_
              rintro _ _ _ ⟨⟨rfl, hA⟩ | ⟨rfl, hA⟩, rfl, rfl⟩
              · have hx4 := hA.2.2
                clear hA
                show WGo _ (164, [wI sel, wJ d1, wS, wJ d2, wS, wI s, wI l, wR 0, wI 3, wI 3, wI 6, wU], [.int 1], [(.inl (.char, [(.int x0), (.int x1), (.int x2), (.int x3), (.int x4), (.int x5)]))], 6) _
                refine WGo.s (WStep.ifT a0_164 (by decide)) ?_
                refine WGo.s (WStep.iconst (1 : Int32) a0_180 rfl) ?_
                refine WGo.s (WStep.goto a0_181) ?_
                refine WGo.s (WStep.istore (L' := [wI sel, wJ d1, wS, wJ d2, wS, wI s, wI l, wR 0, wI 3, wI 3, wI 6, wI 1]) a0_185 rfl) ?_
                refine WGo.s (WStep.aload a0_187 rfl rfl) ?_
                refine WGo.s (WStep.iload a0_189 rfl) ?_
                refine WGo.s (WStep.iload a0_191 rfl) ?_
                refine WGo.callS a0_193 (ok3 hw _ _ _ _) (wd hw 9 rfl) (wd hw 10 rfl) (argsL := [.ref 0, .int 3, .int 3]) (S := []) (c3_33 hw _ _ x0 x1 x2 x3 x4 x5 _) rfl rfl rfl rfl rfl rfl (Nat.le_of_ble_eq_true rfl) (Nat.le_of_ble_eq_true rfl) ?_
                rintro _ _ _ ⟨⟨rfl, hM⟩ | ⟨rfl, hM⟩, rfl, rfl⟩
                · skip
                  show WGo _ (196, [wI sel, wJ d1, wS, wJ d2, wS, wI s, wI l, wR 0, wI 3, wI 3, wI 6, wI 1], [.int 1], [(.inl (.char, [(.int x0), (.int x1), (.int x2), (.int x3), (.int x4), (.int x5)]))], 6) _
                  refine WGo.s (WStep.iload a0_196 rfl) ?_
                  refine WGo.s (WStep.icmpF a0_198 (by decide)) ?_
                  refine WGo.s (WStep.iconst (1 : Int32) a0_201 rfl) ?_
                  refine WGo.s (WStep.goto a0_202) ?_
                  refine WGo.ireturn .boolean a0_206 rfl (by simp) ?_
                  exact ⟨rfl, Nat.le_of_ble_eq_true rfl, Nat.le_of_ble_eq_true rfl⟩
                · exfalso
                  simp_all
              · have hx4 : ¬ x4 = 93 := fun q => hA ⟨by decide, by decide, q⟩
                clear hA
                show WGo _ (164, [wI sel, wJ d1, wS, wJ d2, wS, wI s, wI l, wR 0, wI 3, wI 3, wI 6, wU], [.int 0], [(.inl (.char, [(.int x0), (.int x1), (.int x2), (.int x3), (.int x4), (.int x5)]))], 6) _
                refine WGo.s (WStep.ifF a0_164 (by decide)) ?_
                refine WGo.s (WStep.aload a0_167 rfl rfl) ?_
                refine WGo.s (WStep.iconst (5 : Int32) a0_169 rfl) ?_
                refine WGo.s (WStep.iload a0_170 rfl) ?_
                refine WGo.s (WStep.iload a0_172 rfl) ?_
                refine WGo.callS a0_174 (ok2 hw _ _ _ _) (wd hw 6 rfl) (wd hw 7 rfl) (argsL := [.ref 0, .int 5, .int 3, .int 6]) (S := []) (c2 hw _ _ x0 x1 x2 x3 x4 x5 5 3 6 x5 5 (by decide) rfl rfl _) rfl rfl rfl rfl rfl rfl (Nat.le_of_ble_eq_true rfl) (Nat.le_of_ble_eq_true rfl) ?_
                rintro _ _ _ ⟨⟨rfl, hA⟩ | ⟨rfl, hA⟩, rfl, rfl⟩
                · exact absurd hA.2.1 (by decide)
                · clear hA
                  show WGo _ (177, [wI sel, wJ d1, wS, wJ d2, wS, wI s, wI l, wR 0, wI 3, wI 3, wI 6, wU], [.int 0], [(.inl (.char, [(.int x0), (.int x1), (.int x2), (.int x3), (.int x4), (.int x5)]))], 6) _
                  refine WGo.s (WStep.ifT a0_177 (by decide)) ?_
                  refine WGo.s (WStep.iconst (0 : Int32) a0_184 rfl) ?_
                  refine WGo.s (WStep.istore (L' := [wI sel, wJ d1, wS, wJ d2, wS, wI s, wI l, wR 0, wI 3, wI 3, wI 6, wI 0]) a0_185 rfl) ?_
                  refine WGo.s (WStep.aload a0_187 rfl rfl) ?_
                  refine WGo.s (WStep.iload a0_189 rfl) ?_
                  refine WGo.s (WStep.iload a0_191 rfl) ?_
                  refine WGo.callS a0_193 (ok3 hw _ _ _ _) (wd hw 9 rfl) (wd hw 10 rfl) (argsL := [.ref 0, .int 3, .int 3]) (S := []) (c3_33 hw _ _ x0 x1 x2 x3 x4 x5 _) rfl rfl rfl rfl rfl rfl (Nat.le_of_ble_eq_true rfl) (Nat.le_of_ble_eq_true rfl) ?_
                  rintro _ _ _ ⟨⟨rfl, hM⟩ | ⟨rfl, hM⟩, rfl, rfl⟩
                  · exfalso
                    simp_all
                  · skip
                    show WGo _ (196, [wI sel, wJ d1, wS, wJ d2, wS, wI s, wI l, wR 0, wI 3, wI 3, wI 6, wI 0], [.int 0], [(.inl (.char, [(.int x0), (.int x1), (.int x2), (.int x3), (.int x4), (.int x5)]))], 6) _
                    refine WGo.s (WStep.iload a0_196 rfl) ?_
                    refine WGo.s (WStep.icmpF a0_198 (by decide)) ?_
                    refine WGo.s (WStep.iconst (1 : Int32) a0_201 rfl) ?_
                    refine WGo.s (WStep.goto a0_202) ?_
                    refine WGo.ireturn .boolean a0_206 rfl (by simp) ?_
                    exact ⟨rfl, Nat.le_of_ble_eq_true rfl, Nat.le_of_ble_eq_true rfl⟩
  · show WGo _ (80, [wI sel, wJ d1, wS, wJ d2, wS, wI s, wI l, wR 0, wU, wU, wU, wU], [.int 4], [(.inl (.char, [(.int x0), (.int x1), (.int x2), (.int x3), (.int x4), (.int x5)]))], 6) _
    refine WGo.s (WStep.istore (L' := [wI sel, wJ d1, wS, wJ d2, wS, wI s, wI l, wR 0, wI 4, wU, wU, wU]) a0_80 rfl) ?_
    refine WGo.s (WStep.iload a0_82 rfl) ?_
    refine WGo.s (WStep.ldc a0_84 (wd hw 5 rfl)) ?_
    refine WGo.s (WStep.iand a0_86) ?_
    refine WGo.s (WStep.bipush (7 : Int32) a0_87 rfl) ?_
    refine WGo.s (WStep.iload a0_89 rfl) ?_
    refine WGo.s (WStep.isub a0_91) ?_
    show WGo _ (92, [wI sel, wJ d1, wS, wJ d2, wS, wI s, wI l, wR 0, wI 4, wU, wU, wU], [.int 3, (.int (l &&& (2147483647 : Int32)))], [(.inl (.char, [(.int x0), (.int x1), (.int x2), (.int x3), (.int x4), (.int x5)]))], 6) _
    refine WGo.s (WStep.irem a0_92 (by decide)) ?_
    generalize hg_m : ((l &&& (2147483647 : Int32)) % (3 : Int32)) = m
    have hm := remx _ _ _ hg_m (by decide)
    have hs : m = 0 ∨ m = 1 ∨ m = 2 := by
      have e7 : (3 : Int32).toInt = 3 := rfl
      simp only [← Int32.toInt_inj, Int32.reduceToInt] at *
      omega
    rcases hs with rfl | rfl | rfl
    · show WGo _ (93, [wI sel, wJ d1, wS, wJ d2, wS, wI s, wI l, wR 0, wI 4, wU, wU, wU], [.int 0], [(.inl (.char, [(.int x0), (.int x1), (.int x2), (.int x3), (.int x4), (.int x5)]))], 6) _
      refine WGo.s (WStep.istore (L' := [wI sel, wJ d1, wS, wJ d2, wS, wI s, wI l, wR 0, wI 4, wI 0, wU, wU]) a0_93 rfl) ?_
      refine WGo.s (WStep.iload a0_95 rfl) ?_
      refine WGo.s (WStep.iload a0_97 rfl) ?_
      refine WGo.s (WStep.iadd a0_99) ?_
      show WGo _ (100, [wI sel, wJ d1, wS, wJ d2, wS, wI s, wI l, wR 0, wI 4, wI 0, wU, wU], [.int 4], [(.inl (.char, [(.int x0), (.int x1), (.int x2), (.int x3), (.int x4), (.int x5)]))], 6) _
      refine WGo.s (WStep.istore (L' := [wI sel, wJ d1, wS, wJ d2, wS, wI s, wI l, wR 0, wI 4, wI 0, wI 4, wU]) a0_100 rfl) ?_
      refine WGo.s (WStep.aload a0_102 rfl rfl) ?_
      refine WGo.s (WStep.iconst (0 : Int32) a0_104 rfl) ?_
      refine WGo.s (WStep.iload a0_105 rfl) ?_
      refine WGo.s (WStep.iload a0_107 rfl) ?_
      refine WGo.callS a0_109 (ok2 hw _ _ _ _) (wd hw 6 rfl) (wd hw 7 rfl) (argsL := [.ref 0, .int 0, .int 4, .int 4]) (S := []) (c2 hw _ _ x0 x1 x2 x3 x4 x5 0 4 4 x0 0 (by decide) rfl rfl _) rfl rfl rfl rfl rfl rfl (Nat.le_of_ble_eq_true rfl) (Nat.le_of_ble_eq_true rfl) ?_
      rintro _ _ _ ⟨⟨rfl, hA⟩ | ⟨rfl, hA⟩, rfl, rfl⟩
      · exact absurd (by decide) hA.1
      · clear hA
        show WGo _ (112, [wI sel, wJ d1, wS, wJ d2, wS, wI s, wI l, wR 0, wI 4, wI 0, wI 4, wU], [.int 0], [(.inl (.char, [(.int x0), (.int x1), (.int x2), (.int x3), (.int x4), (.int x5)]))], 6) _
        refine WGo.s (WStep.ifF a0_112 (by decide)) ?_
        refine WGo.s (WStep.aload a0_115 rfl rfl) ?_
        refine WGo.s (WStep.iconst (1 : Int32) a0_117 rfl) ?_
        refine WGo.s (WStep.iload a0_118 rfl) ?_
        refine WGo.s (WStep.iload a0_120 rfl) ?_
        refine WGo.callS a0_122 (ok2 hw _ _ _ _) (wd hw 6 rfl) (wd hw 7 rfl) (argsL := [.ref 0, .int 1, .int 4, .int 4]) (S := []) (c2 hw _ _ x0 x1 x2 x3 x4 x5 1 4 4 x1 1 (by decide) rfl rfl _) rfl rfl rfl rfl rfl rfl (Nat.le_of_ble_eq_true rfl) (Nat.le_of_ble_eq_true rfl) ?_
        rintro _ _ _ ⟨⟨rfl, hA⟩ | ⟨rfl, hA⟩, rfl, rfl⟩
        · exact absurd (by decide) hA.1
        · clear hA
          show WGo _ (125, [wI sel, wJ d1, wS, wJ d2, wS, wI s, wI l, wR 0, wI 4, wI 0, wI 4, wU], [.int 0], [(.inl (.char, [(.int x0), (.int x1), (.int x2), (.int x3), (.int x4), (.int x5)]))], 6) _
          refine WGo.s (WStep.ifF a0_125 (by decide)) ?_
          refine WGo.s (WStep.aload a0_128 rfl rfl) ?_
          refine WGo.s (WStep.iconst (2 : Int32) a0_130 rfl) ?_
          refine WGo.s (WStep.iload a0_131 rfl) ?_
          refine WGo.s (WStep.iload a0_133 rfl) ?_
          refine WGo.callS a0_135 (ok2 hw _ _ _ _) (wd hw 6 rfl) (wd hw 7 rfl) (argsL := [.ref 0, .int 2, .int 4, .int 4]) (S := []) (c2 hw _ _ x0 x1 x2 x3 x4 x5 2 4 4 x2 2 (by decide) rfl rfl _) rfl rfl rfl rfl rfl rfl (Nat.le_of_ble_eq_true rfl) (Nat.le_of_ble_eq_true rfl) ?_
          rintro _ _ _ ⟨⟨rfl, hA⟩ | ⟨rfl, hA⟩, rfl, rfl⟩
          · exact absurd (by decide) hA.1
          · clear hA
            show WGo _ (138, [wI sel, wJ d1, wS, wJ d2, wS, wI s, wI l, wR 0, wI 4, wI 0, wI 4, wU], [.int 0], [(.inl (.char, [(.int x0), (.int x1), (.int x2), (.int x3), (.int x4), (.int x5)]))], 6) _
            refine WGo.s (WStep.ifF a0_138 (by decide)) ?_
            refine WGo.s (WStep.aload a0_141 rfl rfl) ?_
            refine WGo.s (WStep.iconst (3 : Int32) a0_143 rfl) ?_
            refine WGo.s (WStep.iload a0_144 rfl) ?_
            refine WGo.s (WStep.iload a0_146 rfl) ?_
            refine WGo.callS a0_148 (ok2 hw _ _ _ _) (wd hw 6 rfl) (wd hw 7 rfl) (argsL := [.ref 0, .int 3, .int 4, .int 4]) (S := []) (c2 hw _ _ x0 x1 x2 x3 x4 x5 3 4 4 x3 3 (by decide) rfl rfl _) rfl rfl rfl rfl rfl rfl (Nat.le_of_ble_eq_true rfl) (Nat.le_of_ble_eq_true rfl) ?_
            rintro _ _ _ ⟨⟨rfl, hA⟩ | ⟨rfl, hA⟩, rfl, rfl⟩
            · exact absurd (by decide) hA.1
            · clear hA
              show WGo _ (151, [wI sel, wJ d1, wS, wJ d2, wS, wI s, wI l, wR 0, wI 4, wI 0, wI 4, wU], [.int 0], [(.inl (.char, [(.int x0), (.int x1), (.int x2), (.int x3), (.int x4), (.int x5)]))], 6) _
              refine WGo.s (WStep.ifF a0_151 (by decide)) ?_
              refine WGo.s (WStep.aload a0_154 rfl rfl) ?_
              refine WGo.s (WStep.iconst (4 : Int32) a0_156 rfl) ?_
              refine WGo.s (WStep.iload a0_157 rfl) ?_
              refine WGo.s (WStep.iload a0_159 rfl) ?_
              refine WGo.callS a0_161 (ok2 hw _ _ _ _) (wd hw 6 rfl) (wd hw 7 rfl) (argsL := [.ref 0, .int 4, .int 4, .int 4]) (S := []) (c2 hw _ _ x0 x1 x2 x3 x4 x5 4 4 4 x4 4 (by decide) rfl rfl _) rfl rfl rfl rfl rfl rfl (Nat.le_of_ble_eq_true rfl) (Nat.le_of_ble_eq_true rfl) ?_
              rintro _ _ _ ⟨⟨rfl, hA⟩ | ⟨rfl, hA⟩, rfl, rfl⟩
              · exact absurd hA.2.1 (by decide)
              · clear hA
                show WGo _ (164, [wI sel, wJ d1, wS, wJ d2, wS, wI s, wI l, wR 0, wI 4, wI 0, wI 4, wU], [.int 0], [(.inl (.char, [(.int x0), (.int x1), (.int x2), (.int x3), (.int x4), (.int x5)]))], 6) _
                refine WGo.s (WStep.ifF a0_164 (by decide)) ?_
                refine WGo.s (WStep.aload a0_167 rfl rfl) ?_
                refine WGo.s (WStep.iconst (5 : Int32) a0_169 rfl) ?_
                refine WGo.s (WStep.iload a0_170 rfl) ?_
                refine WGo.s (WStep.iload a0_172 rfl) ?_
                refine WGo.callS a0_174 (ok2 hw _ _ _ _) (wd hw 6 rfl) (wd hw 7 rfl) (argsL := [.ref 0, .int 5, .int 4, .int 4]) (S := []) (c2 hw _ _ x0 x1 x2 x3 x4 x5 5 4 4 x5 5 (by decide) rfl rfl _) rfl rfl rfl rfl rfl rfl (Nat.le_of_ble_eq_true rfl) (Nat.le_of_ble_eq_true rfl) ?_
                rintro _ _ _ ⟨⟨rfl, hA⟩ | ⟨rfl, hA⟩, rfl, rfl⟩
                · exact absurd hA.2.1 (by decide)
                · clear hA
                  show WGo _ (177, [wI sel, wJ d1, wS, wJ d2, wS, wI s, wI l, wR 0, wI 4, wI 0, wI 4, wU], [.int 0], [(.inl (.char, [(.int x0), (.int x1), (.int x2), (.int x3), (.int x4), (.int x5)]))], 6) _
                  refine WGo.s (WStep.ifT a0_177 (by decide)) ?_
                  refine WGo.s (WStep.iconst (0 : Int32) a0_184 rfl) ?_
                  refine WGo.s (WStep.istore (L' := [wI sel, wJ d1, wS, wJ d2, wS, wI s, wI l, wR 0, wI 4, wI 0, wI 4, wI 0]) a0_185 rfl) ?_
                  refine WGo.s (WStep.aload a0_187 rfl rfl) ?_
                  refine WGo.s (WStep.iload a0_189 rfl) ?_
                  refine WGo.s (WStep.iload a0_191 rfl) ?_
                  refine WGo.callS a0_193 (ok3 hw _ _ _ _) (wd hw 9 rfl) (wd hw 10 rfl) (argsL := [.ref 0, .int 4, .int 0]) (S := []) (c3_40 hw _ _ x0 x1 x2 x3 x4 x5 _) rfl rfl rfl rfl rfl rfl (Nat.le_of_ble_eq_true rfl) (Nat.le_of_ble_eq_true rfl) ?_
                  rintro _ _ _ ⟨⟨rfl, hM⟩ | ⟨rfl, hM⟩, rfl, rfl⟩
                  · exfalso
                    simp_all
                  · skip
                    show WGo _ (196, [wI sel, wJ d1, wS, wJ d2, wS, wI s, wI l, wR 0, wI 4, wI 0, wI 4, wI 0], [.int 0], [(.inl (.char, [(.int x0), (.int x1), (.int x2), (.int x3), (.int x4), (.int x5)]))], 6) _
                    refine WGo.s (WStep.iload a0_196 rfl) ?_
                    refine WGo.s (WStep.icmpF a0_198 (by decide)) ?_
                    refine WGo.s (WStep.iconst (1 : Int32) a0_201 rfl) ?_
                    refine WGo.s (WStep.goto a0_202) ?_
                    refine WGo.ireturn .boolean a0_206 rfl (by simp) ?_
                    exact ⟨rfl, Nat.le_of_ble_eq_true rfl, Nat.le_of_ble_eq_true rfl⟩
    · show WGo _ (93, [wI sel, wJ d1, wS, wJ d2, wS, wI s, wI l, wR 0, wI 4, wU, wU, wU], [.int 1], [(.inl (.char, [(.int x0), (.int x1), (.int x2), (.int x3), (.int x4), (.int x5)]))], 6) _
      refine WGo.s (WStep.istore (L' := [wI sel, wJ d1, wS, wJ d2, wS, wI s, wI l, wR 0, wI 4, wI 1, wU, wU]) a0_93 rfl) ?_
      refine WGo.s (WStep.iload a0_95 rfl) ?_
      refine WGo.s (WStep.iload a0_97 rfl) ?_
      refine WGo.s (WStep.iadd a0_99) ?_
      show WGo _ (100, [wI sel, wJ d1, wS, wJ d2, wS, wI s, wI l, wR 0, wI 4, wI 1, wU, wU], [.int 5], [(.inl (.char, [(.int x0), (.int x1), (.int x2), (.int x3), (.int x4), (.int x5)]))], 6) _
      refine WGo.s (WStep.istore (L' := [wI sel, wJ d1, wS, wJ d2, wS, wI s, wI l, wR 0, wI 4, wI 1, wI 5, wU]) a0_100 rfl) ?_
      refine WGo.s (WStep.aload a0_102 rfl rfl) ?_
      refine WGo.s (WStep.iconst (0 : Int32) a0_104 rfl) ?_
      refine WGo.s (WStep.iload a0_105 rfl) ?_
      refine WGo.s (WStep.iload a0_107 rfl) ?_
      refine WGo.callS a0_109 (ok2 hw _ _ _ _) (wd hw 6 rfl) (wd hw 7 rfl) (argsL := [.ref 0, .int 0, .int 4, .int 5]) (S := []) (c2 hw _ _ x0 x1 x2 x3 x4 x5 0 4 5 x0 0 (by decide) rfl rfl _) rfl rfl rfl rfl rfl rfl (Nat.le_of_ble_eq_true rfl) (Nat.le_of_ble_eq_true rfl) ?_
      rintro _ _ _ ⟨⟨rfl, hA⟩ | ⟨rfl, hA⟩, rfl, rfl⟩
      · exact absurd (by decide) hA.1
      · clear hA
        show WGo _ (112, [wI sel, wJ d1, wS, wJ d2, wS, wI s, wI l, wR 0, wI 4, wI 1, wI 5, wU], [.int 0], [(.inl (.char, [(.int x0), (.int x1), (.int x2), (.int x3), (.int x4), (.int x5)]))], 6) _
        refine WGo.s (WStep.ifF a0_112 (by decide)) ?_
        refine WGo.s (WStep.aload a0_115 rfl rfl) ?_
        refine WGo.s (WStep.iconst (1 : Int32) a0_117 rfl) ?_
        refine WGo.s (WStep.iload a0_118 rfl) ?_
        refine WGo.s (WStep.iload a0_120 rfl) ?_
        refine WGo.callS a0_122 (ok2 hw _ _ _ _) (wd hw 6 rfl) (wd hw 7 rfl) (argsL := [.ref 0, .int 1, .int 4, .int 5]) (S := []) (c2 hw _ _ x0 x1 x2 x3 x4 x5 1 4 5 x1 1 (by decide) rfl rfl _) rfl rfl rfl rfl rfl rfl (Nat.le_of_ble_eq_true rfl) (Nat.le_of_ble_eq_true rfl) ?_
        rintro _ _ _ ⟨⟨rfl, hA⟩ | ⟨rfl, hA⟩, rfl, rfl⟩
        · exact absurd (by decide) hA.1
        · clear hA
          show WGo _ (125, [wI sel, wJ d1, wS, wJ d2, wS, wI s, wI l, wR 0, wI 4, wI 1, wI 5, wU], [.int 0], [(.inl (.char, [(.int x0), (.int x1), (.int x2), (.int x3), (.int x4), (.int x5)]))], 6) _
          refine WGo.s (WStep.ifF a0_125 (by decide)) ?_
          refine WGo.s (WStep.aload a0_128 rfl rfl) ?_
          refine WGo.s (WStep.iconst (2 : Int32) a0_130 rfl) ?_
          refine WGo.s (WStep.iload a0_131 rfl) ?_
          refine WGo.s (WStep.iload a0_133 rfl) ?_
          refine WGo.callS a0_135 (ok2 hw _ _ _ _) (wd hw 6 rfl) (wd hw 7 rfl) (argsL := [.ref 0, .int 2, .int 4, .int 5]) (S := []) (c2 hw _ _ x0 x1 x2 x3 x4 x5 2 4 5 x2 2 (by decide) rfl rfl _) rfl rfl rfl rfl rfl rfl (Nat.le_of_ble_eq_true rfl) (Nat.le_of_ble_eq_true rfl) ?_
          rintro _ _ _ ⟨⟨rfl, hA⟩ | ⟨rfl, hA⟩, rfl, rfl⟩
          · exact absurd (by decide) hA.1
          · clear hA
            show WGo _ (138, [wI sel, wJ d1, wS, wJ d2, wS, wI s, wI l, wR 0, wI 4, wI 1, wI 5, wU], [.int 0], [(.inl (.char, [(.int x0), (.int x1), (.int x2), (.int x3), (.int x4), (.int x5)]))], 6) _
            refine WGo.s (WStep.ifF a0_138 (by decide)) ?_
            refine WGo.s (WStep.aload a0_141 rfl rfl) ?_
            refine WGo.s (WStep.iconst (3 : Int32) a0_143 rfl) ?_
            refine WGo.s (WStep.iload a0_144 rfl) ?_
            refine WGo.s (WStep.iload a0_146 rfl) ?_
            refine WGo.callS a0_148 (ok2 hw _ _ _ _) (wd hw 6 rfl) (wd hw 7 rfl) (argsL := [.ref 0, .int 3, .int 4, .int 5]) (S := []) (c2 hw _ _ x0 x1 x2 x3 x4 x5 3 4 5 x3 3 (by decide) rfl rfl _) rfl rfl rfl rfl rfl rfl (Nat.le_of_ble_eq_true rfl) (Nat.le_of_ble_eq_true rfl) ?_
            rintro _ _ _ ⟨⟨rfl, hA⟩ | ⟨rfl, hA⟩, rfl, rfl⟩
            · exact absurd (by decide) hA.1
            · clear hA
              show WGo _ (151, [wI sel, wJ d1, wS, wJ d2, wS, wI s, wI l, wR 0, wI 4, wI 1, wI 5, wU], [.int 0], [(.inl (.char, [(.int x0), (.int x1), (.int x2), (.int x3), (.int x4), (.int x5)]))], 6) _
              refine WGo.s (WStep.ifF a0_151 (by decide)) ?_
              refine WGo.s (WStep.aload a0_154 rfl rfl) ?_
              refine WGo.s (WStep.iconst (4 : Int32) a0_156 rfl) ?_
              refine WGo.s (WStep.iload a0_157 rfl) ?_
              refine WGo.s (WStep.iload a0_159 rfl) ?_
              refine WGo.callS a0_161 (ok2 hw _ _ _ _) (wd hw 6 rfl) (wd hw 7 rfl) (argsL := [.ref 0, .int 4, .int 4, .int 5]) (S := []) (c2 hw _ _ x0 x1 x2 x3 x4 x5 4 4 5 x4 4 (by decide) rfl rfl _) rfl rfl rfl rfl rfl rfl (Nat.le_of_ble_eq_true rfl) (Nat.le_of_ble_eq_true rfl) ?_
              rintro _ _ _ ⟨⟨rfl, hA⟩ | ⟨rfl, hA⟩, rfl, rfl⟩
              · exact absurd hA.2.1 (by decide)
              · clear hA
                show WGo _ (164, [wI sel, wJ d1, wS, wJ d2, wS, wI s, wI l, wR 0, wI 4, wI 1, wI 5, wU], [.int 0], [(.inl (.char, [(.int x0), (.int x1), (.int x2), (.int x3), (.int x4), (.int x5)]))], 6) _
                refine WGo.s (WStep.ifF a0_164 (by decide)) ?_
                refine WGo.s (WStep.aload a0_167 rfl rfl) ?_
                refine WGo.s (WStep.iconst (5 : Int32) a0_169 rfl) ?_
                refine WGo.s (WStep.iload a0_170 rfl) ?_
                refine WGo.s (WStep.iload a0_172 rfl) ?_
                refine WGo.callS a0_174 (ok2 hw _ _ _ _) (wd hw 6 rfl) (wd hw 7 rfl) (argsL := [.ref 0, .int 5, .int 4, .int 5]) (S := []) (c2 hw _ _ x0 x1 x2 x3 x4 x5 5 4 5 x5 5 (by decide) rfl rfl _) rfl rfl rfl rfl rfl rfl (Nat.le_of_ble_eq_true rfl) (Nat.le_of_ble_eq_true rfl) ?_
                rintro _ _ _ ⟨⟨rfl, hA⟩ | ⟨rfl, hA⟩, rfl, rfl⟩
                · exact absurd hA.2.1 (by decide)
                · clear hA
                  show WGo _ (177, [wI sel, wJ d1, wS, wJ d2, wS, wI s, wI l, wR 0, wI 4, wI 1, wI 5, wU], [.int 0], [(.inl (.char, [(.int x0), (.int x1), (.int x2), (.int x3), (.int x4), (.int x5)]))], 6) _
                  refine WGo.s (WStep.ifT a0_177 (by decide)) ?_
                  refine WGo.s (WStep.iconst (0 : Int32) a0_184 rfl) ?_
                  refine WGo.s (WStep.istore (L' := [wI sel, wJ d1, wS, wJ d2, wS, wI s, wI l, wR 0, wI 4, wI 1, wI 5, wI 0]) a0_185 rfl) ?_
                  refine WGo.s (WStep.aload a0_187 rfl rfl) ?_
                  refine WGo.s (WStep.iload a0_189 rfl) ?_
                  refine WGo.s (WStep.iload a0_191 rfl) ?_
                  refine WGo.callS a0_193 (ok3 hw _ _ _ _) (wd hw 9 rfl) (wd hw 10 rfl) (argsL := [.ref 0, .int 4, .int 1]) (S := []) (c3_41 hw _ _ x0 x1 x2 x3 x4 x5 _) rfl rfl rfl rfl rfl rfl (Nat.le_of_ble_eq_true rfl) (Nat.le_of_ble_eq_true rfl) ?_
                  rintro _ _ _ ⟨⟨rfl, hM⟩ | ⟨rfl, hM⟩, rfl, rfl⟩
                  · exfalso
                    simp_all
                  · skip
                    show WGo _ (196, [wI sel, wJ d1, wS, wJ d2, wS, wI s, wI l, wR 0, wI 4, wI 1, wI 5, wI 0], [.int 0], [(.inl (.char, [(.int x0), (.int x1), (.int x2), (.int x3), (.int x4), (.int x5)]))], 6) _
                    refine WGo.s (WStep.iload a0_196 rfl) ?_
                    refine WGo.s (WStep.icmpF a0_198 (by decide)) ?_
                    refine WGo.s (WStep.iconst (1 : Int32) a0_201 rfl) ?_
                    refine WGo.s (WStep.goto a0_202) ?_
                    refine WGo.ireturn .boolean a0_206 rfl (by simp) ?_
                    exact ⟨rfl, Nat.le_of_ble_eq_true rfl, Nat.le_of_ble_eq_true rfl⟩
    · show WGo _ (93, [wI sel, wJ d1, wS, wJ d2, wS, wI s, wI l, wR 0, wI 4, wU, wU, wU], [.int 2], [(.inl (.char, [(.int x0), (.int x1), (.int x2), (.int x3), (.int x4), (.int x5)]))], 6) _
      refine WGo.s (WStep.istore (L' := [wI sel, wJ d1, wS, wJ d2, wS, wI s, wI l, wR 0, wI 4, wI 2, wU, wU]) a0_93 rfl) ?_
      refine WGo.s (WStep.iload a0_95 rfl) ?_
      refine WGo.s (WStep.iload a0_97 rfl) ?_
      refine WGo.s (WStep.iadd a0_99) ?_
      show WGo _ (100, [wI sel, wJ d1, wS, wJ d2, wS, wI s, wI l, wR 0, wI 4, wI 2, wU, wU], [.int 6], [(.inl (.char, [(.int x0), (.int x1), (.int x2), (.int x3), (.int x4), (.int x5)]))], 6) _
      refine WGo.s (WStep.istore (L' := [wI sel, wJ d1, wS, wJ d2, wS, wI s, wI l, wR 0, wI 4, wI 2, wI 6, wU]) a0_100 rfl) ?_
      refine WGo.s (WStep.aload a0_102 rfl rfl) ?_
      refine WGo.s (WStep.iconst (0 : Int32) a0_104 rfl) ?_
      refine WGo.s (WStep.iload a0_105 rfl) ?_
      refine WGo.s (WStep.iload a0_107 rfl) ?_
      refine WGo.callS a0_109 (ok2 hw _ _ _ _) (wd hw 6 rfl) (wd hw 7 rfl) (argsL := [.ref 0, .int 0, .int 4, .int 6]) (S := []) (c2 hw _ _ x0 x1 x2 x3 x4 x5 0 4 6 x0 0 (by decide) rfl rfl _) rfl rfl rfl rfl rfl rfl (Nat.le_of_ble_eq_true rfl) (Nat.le_of_ble_eq_true rfl) ?_
      rintro _ _ _ ⟨⟨rfl, hA⟩ | ⟨rfl, hA⟩, rfl, rfl⟩
      · exact absurd (by decide) hA.1
      · clear hA
        show WGo _ (112, [wI sel, wJ d1, wS, wJ d2, wS, wI s, wI l, wR 0, wI 4, wI 2, wI 6, wU], [.int 0], [(.inl (.char, [(.int x0), (.int x1), (.int x2), (.int x3), (.int x4), (.int x5)]))], 6) _
        refine WGo.s (WStep.ifF a0_112 (by decide)) ?_
        refine WGo.s (WStep.aload a0_115 rfl rfl) ?_
        refine WGo.s (WStep.iconst (1 : Int32) a0_117 rfl) ?_
        refine WGo.s (WStep.iload a0_118 rfl) ?_
        refine WGo.s (WStep.iload a0_120 rfl) ?_
        refine WGo.callS a0_122 (ok2 hw _ _ _ _) (wd hw 6 rfl) (wd hw 7 rfl) (argsL := [.ref 0, .int 1, .int 4, .int 6]) (S := []) (c2 hw _ _ x0 x1 x2 x3 x4 x5 1 4 6 x1 1 (by decide) rfl rfl _) rfl rfl rfl rfl rfl rfl (Nat.le_of_ble_eq_true rfl) (Nat.le_of_ble_eq_true rfl) ?_
        rintro _ _ _ ⟨⟨rfl, hA⟩ | ⟨rfl, hA⟩, rfl, rfl⟩
        · exact absurd (by decide) hA.1
        · clear hA
          show WGo _ (125, [wI sel, wJ d1, wS, wJ d2, wS, wI s, wI l, wR 0, wI 4, wI 2, wI 6, wU], [.int 0], [(.inl (.char, [(.int x0), (.int x1), (.int x2), (.int x3), (.int x4), (.int x5)]))], 6) _
          refine WGo.s (WStep.ifF a0_125 (by decide)) ?_
          refine WGo.s (WStep.aload a0_128 rfl rfl) ?_
          refine WGo.s (WStep.iconst (2 : Int32) a0_130 rfl) ?_
          refine WGo.s (WStep.iload a0_131 rfl) ?_
          refine WGo.s (WStep.iload a0_133 rfl) ?_
          refine WGo.callS a0_135 (ok2 hw _ _ _ _) (wd hw 6 rfl) (wd hw 7 rfl) (argsL := [.ref 0, .int 2, .int 4, .int 6]) (S := []) (c2 hw _ _ x0 x1 x2 x3 x4 x5 2 4 6 x2 2 (by decide) rfl rfl _) rfl rfl rfl rfl rfl rfl (Nat.le_of_ble_eq_true rfl) (Nat.le_of_ble_eq_true rfl) ?_
          rintro _ _ _ ⟨⟨rfl, hA⟩ | ⟨rfl, hA⟩, rfl, rfl⟩
          · exact absurd (by decide) hA.1
          · clear hA
            show WGo _ (138, [wI sel, wJ d1, wS, wJ d2, wS, wI s, wI l, wR 0, wI 4, wI 2, wI 6, wU], [.int 0], [(.inl (.char, [(.int x0), (.int x1), (.int x2), (.int x3), (.int x4), (.int x5)]))], 6) _
            refine WGo.s (WStep.ifF a0_138 (by decide)) ?_
            refine WGo.s (WStep.aload a0_141 rfl rfl) ?_
            refine WGo.s (WStep.iconst (3 : Int32) a0_143 rfl) ?_
            refine WGo.s (WStep.iload a0_144 rfl) ?_
            refine WGo.s (WStep.iload a0_146 rfl) ?_
            refine WGo.callS a0_148 (ok2 hw _ _ _ _) (wd hw 6 rfl) (wd hw 7 rfl) (argsL := [.ref 0, .int 3, .int 4, .int 6]) (S := []) (c2 hw _ _ x0 x1 x2 x3 x4 x5 3 4 6 x3 3 (by decide) rfl rfl _) rfl rfl rfl rfl rfl rfl (Nat.le_of_ble_eq_true rfl) (Nat.le_of_ble_eq_true rfl) ?_
            rintro _ _ _ ⟨⟨rfl, hA⟩ | ⟨rfl, hA⟩, rfl, rfl⟩
            · exact absurd (by decide) hA.1
            · clear hA
              show WGo _ (151, [wI sel, wJ d1, wS, wJ d2, wS, wI s, wI l, wR 0, wI 4, wI 2, wI 6, wU], [.int 0], [(.inl (.char, [(.int x0), (.int x1), (.int x2), (.int x3), (.int x4), (.int x5)]))], 6) _
              refine WGo.s (WStep.ifF a0_151 (by decide)) ?_
              refine WGo.s (WStep.aload a0_154 rfl rfl) ?_
              refine WGo.s (WStep.iconst (4 : Int32) a0_156 rfl) ?_
              refine WGo.s (WStep.iload a0_157 rfl) ?_
              refine WGo.s (WStep.iload a0_159 rfl) ?_
              refine WGo.callS a0_161 (ok2 hw _ _ _ _) (wd hw 6 rfl) (wd hw 7 rfl) (argsL := [.ref 0, .int 4, .int 4, .int 6]) (S := []) (c2 hw _ _ x0 x1 x2 x3 x4 x5 4 4 6 x4 4 (by decide) rfl rfl _) rfl rfl rfl rfl rfl rfl (Nat.le_of_ble_eq_true rfl) (Nat.le_of_ble_eq_true rfl) ?_
              rintro _ _ _ ⟨⟨rfl, hA⟩ | ⟨rfl, hA⟩, rfl, rfl⟩
              · have hx4 := hA.2.2
                clear hA
                show WGo _ (164, [wI sel, wJ d1, wS, wJ d2, wS, wI s, wI l, wR 0, wI 4, wI 2, wI 6, wU], [.int 1], [(.inl (.char, [(.int x0), (.int x1), (.int x2), (.int x3), (.int x4), (.int x5)]))], 6) _
                refine WGo.s (WStep.ifT a0_164 (by decide)) ?_
                refine WGo.s (WStep.iconst (1 : Int32) a0_180 rfl) ?_
                refine WGo.s (WStep.goto a0_181) ?_
                refine WGo.s (WStep.istore (L' := [wI sel, wJ d1, wS, wJ d2, wS, wI s, wI l, wR 0, wI 4, wI 2, wI 6, wI 1]) a0_185 rfl) ?_
                refine WGo.s (WStep.aload a0_187 rfl rfl) ?_
                refine WGo.s (WStep.iload a0_189 rfl) ?_
                refine WGo.s (WStep.iload a0_191 rfl) ?_
                refine WGo.callS a0_193 (ok3 hw _ _ _ _) (wd hw 9 rfl) (wd hw 10 rfl) (argsL := [.ref 0, .int 4, .int 2]) (S := []) (c3_42 hw _ _ x0 x1 x2 x3 x4 x5 _) rfl rfl rfl rfl rfl rfl (Nat.le_of_ble_eq_true rfl) (Nat.le_of_ble_eq_true rfl) ?_
                rintro _ _ _ ⟨⟨rfl, hM⟩ | ⟨rfl, hM⟩, rfl, rfl⟩
                · skip
                  show WGo _ (196, [wI sel, wJ d1, wS, wJ d2, wS, wI s, wI l, wR 0, wI 4, wI 2, wI 6, wI 1], [.int 1], [(.inl (.char, [(.int x0), (.int x1), (.int x2), (.int x3), (.int x4), (.int x5)]))], 6) _
                  refine WGo.s (WStep.iload a0_196 rfl) ?_
                  refine WGo.s (WStep.icmpF a0_198 (by decide)) ?_
                  refine WGo.s (WStep.iconst (1 : Int32) a0_201 rfl) ?_
                  refine WGo.s (WStep.goto a0_202) ?_
                  refine WGo.ireturn .boolean a0_206 rfl (by simp) ?_
                  exact ⟨rfl, Nat.le_of_ble_eq_true rfl, Nat.le_of_ble_eq_true rfl⟩
                · exfalso
                  simp_all
              · have hx4 : ¬ x4 = 93 := fun q => hA ⟨by decide, by decide, q⟩
                clear hA
                show WGo _ (164, [wI sel, wJ d1, wS, wJ d2, wS, wI s, wI l, wR 0, wI 4, wI 2, wI 6, wU], [.int 0], [(.inl (.char, [(.int x0), (.int x1), (.int x2), (.int x3), (.int x4), (.int x5)]))], 6) _
                refine WGo.s (WStep.ifF a0_164 (by decide)) ?_
                refine WGo.s (WStep.aload a0_167 rfl rfl) ?_
                refine WGo.s (WStep.iconst (5 : Int32) a0_169 rfl) ?_
                refine WGo.s (WStep.iload a0_170 rfl) ?_
                refine WGo.s (WStep.iload a0_172 rfl) ?_
                refine WGo.callS a0_174 (ok2 hw _ _ _ _) (wd hw 6 rfl) (wd hw 7 rfl) (argsL := [.ref 0, .int 5, .int 4, .int 6]) (S := []) (c2 hw _ _ x0 x1 x2 x3 x4 x5 5 4 6 x5 5 (by decide) rfl rfl _) rfl rfl rfl rfl rfl rfl (Nat.le_of_ble_eq_true rfl) (Nat.le_of_ble_eq_true rfl) ?_
                rintro _ _ _ ⟨⟨rfl, hA⟩ | ⟨rfl, hA⟩, rfl, rfl⟩
                · exact absurd hA.2.1 (by decide)
                · clear hA
                  show WGo _ (177, [wI sel, wJ d1, wS, wJ d2, wS, wI s, wI l, wR 0, wI 4, wI 2, wI 6, wU], [.int 0], [(.inl (.char, [(.int x0), (.int x1), (.int x2), (.int x3), (.int x4), (.int x5)]))], 6) _
                  refine WGo.s (WStep.ifT a0_177 (by decide)) ?_
                  refine WGo.s (WStep.iconst (0 : Int32) a0_184 rfl) ?_
                  refine WGo.s (WStep.istore (L' := [wI sel, wJ d1, wS, wJ d2, wS, wI s, wI l, wR 0, wI 4, wI 2, wI 6, wI 0]) a0_185 rfl) ?_
                  refine WGo.s (WStep.aload a0_187 rfl rfl) ?_
                  refine WGo.s (WStep.iload a0_189 rfl) ?_
                  refine WGo.s (WStep.iload a0_191 rfl) ?_
                  refine WGo.callS a0_193 (ok3 hw _ _ _ _) (wd hw 9 rfl) (wd hw 10 rfl) (argsL := [.ref 0, .int 4, .int 2]) (S := []) (c3_42 hw _ _ x0 x1 x2 x3 x4 x5 _) rfl rfl rfl rfl rfl rfl (Nat.le_of_ble_eq_true rfl) (Nat.le_of_ble_eq_true rfl) ?_
                  rintro _ _ _ ⟨⟨rfl, hM⟩ | ⟨rfl, hM⟩, rfl, rfl⟩
                  · exfalso
                    simp_all
                  · skip
                    show WGo _ (196, [wI sel, wJ d1, wS, wJ d2, wS, wI s, wI l, wR 0, wI 4, wI 2, wI 6, wI 0], [.int 0], [(.inl (.char, [(.int x0), (.int x1), (.int x2), (.int x3), (.int x4), (.int x5)]))], 6) _
                    refine WGo.s (WStep.iload a0_196 rfl) ?_
                    refine WGo.s (WStep.icmpF a0_198 (by decide)) ?_
                    refine WGo.s (WStep.iconst (1 : Int32) a0_201 rfl) ?_
                    refine WGo.s (WStep.goto a0_202) ?_
                    refine WGo.ireturn .boolean a0_206 rfl (by simp) ?_
                    exact ⟨rfl, Nat.le_of_ble_eq_true rfl, Nat.le_of_ble_eq_true rfl⟩
  · show WGo _ (80, [wI sel, wJ d1, wS, wJ d2, wS, wI s, wI l, wR 0, wU, wU, wU, wU], [.int 5], [(.inl (.char, [(.int x0), (.int x1), (.int x2), (.int x3), (.int x4), (.int x5)]))], 6) _
    refine WGo.s (WStep.istore (L' := [wI sel, wJ d1, wS, wJ d2, wS, wI s, wI l, wR 0, wI 5, wU, wU, wU]) a0_80 rfl) ?_
    refine WGo.s (WStep.iload a0_82 rfl) ?_
    refine WGo.s (WStep.ldc a0_84 (wd hw 5 rfl)) ?_
    refine WGo.s (WStep.iand a0_86) ?_
    refine WGo.s (WStep.bipush (7 : Int32) a0_87 rfl) ?_
    refine WGo.s (WStep.iload a0_89 rfl) ?_
    refine WGo.s (WStep.isub a0_91) ?_
    show WGo _ (92, [wI sel, wJ d1, wS, wJ d2, wS, wI s, wI l, wR 0, wI 5, wU, wU, wU], [.int 2, (.int (l &&& (2147483647 : Int32)))], [(.inl (.char, [(.int x0), (.int x1), (.int x2), (.int x3), (.int x4), (.int x5)]))], 6) _
    refine WGo.s (WStep.irem a0_92 (by decide)) ?_
    generalize hg_m : ((l &&& (2147483647 : Int32)) % (2 : Int32)) = m
    have hm := remx _ _ _ hg_m (by decide)
    have hs : m = 0 ∨ m = 1 := by
      have e7 : (2 : Int32).toInt = 2 := rfl
      simp only [← Int32.toInt_inj, Int32.reduceToInt] at *
      omega
    rcases hs with rfl | rfl
    · show WGo _ (93, [wI sel, wJ d1, wS, wJ d2, wS, wI s, wI l, wR 0, wI 5, wU, wU, wU], [.int 0], [(.inl (.char, [(.int x0), (.int x1), (.int x2), (.int x3), (.int x4), (.int x5)]))], 6) _
      refine WGo.s (WStep.istore (L' := [wI sel, wJ d1, wS, wJ d2, wS, wI s, wI l, wR 0, wI 5, wI 0, wU, wU]) a0_93 rfl) ?_
      refine WGo.s (WStep.iload a0_95 rfl) ?_
      refine WGo.s (WStep.iload a0_97 rfl) ?_
      refine WGo.s (WStep.iadd a0_99) ?_
      show WGo _ (100, [wI sel, wJ d1, wS, wJ d2, wS, wI s, wI l, wR 0, wI 5, wI 0, wU, wU], [.int 5], [(.inl (.char, [(.int x0), (.int x1), (.int x2), (.int x3), (.int x4), (.int x5)]))], 6) _
      refine WGo.s (WStep.istore (L' := [wI sel, wJ d1, wS, wJ d2, wS, wI s, wI l, wR 0, wI 5, wI 0, wI 5, wU]) a0_100 rfl) ?_
      refine WGo.s (WStep.aload a0_102 rfl rfl) ?_
      refine WGo.s (WStep.iconst (0 : Int32) a0_104 rfl) ?_
      refine WGo.s (WStep.iload a0_105 rfl) ?_
      refine WGo.s (WStep.iload a0_107 rfl) ?_
      refine WGo.callS a0_109 (ok2 hw _ _ _ _) (wd hw 6 rfl) (wd hw 7 rfl) (argsL := [.ref 0, .int 0, .int 5, .int 5]) (S := []) (c2 hw _ _ x0 x1 x2 x3 x4 x5 0 5 5 x0 0 (by decide) rfl rfl _) rfl rfl rfl rfl rfl rfl (Nat.le_of_ble_eq_true rfl) (Nat.le_of_ble_eq_true rfl) ?_
      rintro _ _ _ ⟨⟨rfl, hA⟩ | ⟨rfl, hA⟩, rfl, rfl⟩
      · exact absurd (by decide) hA.1
      · clear hA
        show WGo _ (112, [wI sel, wJ d1, wS, wJ d2, wS, wI s, wI l, wR 0, wI 5, wI 0, wI 5, wU], [.int 0], [(.inl (.char, [(.int x0), (.int x1), (.int x2), (.int x3), (.int x4), (.int x5)]))], 6) _
        refine WGo.s (WStep.ifF a0_112 (by decide)) ?_
        refine WGo.s (WStep.aload a0_115 rfl rfl) ?_
        refine WGo.s (WStep.iconst (1 : Int32) a0_117 rfl) ?_
        refine WGo.s (WStep.iload a0_118 rfl) ?_
        refine WGo.s (WStep.iload a0_120 rfl) ?_
        refine WGo.callS a0_122 (ok2 hw _ _ _ _) (wd hw 6 rfl) (wd hw 7 rfl) (argsL := [.ref 0, .int 1, .int 5, .int 5]) (S := []) (c2 hw _ _ x0 x1 x2 x3 x4 x5 1 5 5 x1 1 (by decide) rfl rfl _) rfl rfl rfl rfl rfl rfl (Nat.le_of_ble_eq_true rfl) (Nat.le_of_ble_eq_true rfl) ?_
        rintro _ _ _ ⟨⟨rfl, hA⟩ | ⟨rfl, hA⟩, rfl, rfl⟩
        · exact absurd (by decide) hA.1
        · clear hA
          show WGo _ (125, [wI sel, wJ d1, wS, wJ d2, wS, wI s, wI l, wR 0, wI 5, wI 0, wI 5, wU], [.int 0], [(.inl (.char, [(.int x0), (.int x1), (.int x2), (.int x3), (.int x4), (.int x5)]))], 6) _
          refine WGo.s (WStep.ifF a0_125 (by decide)) ?_
          refine WGo.s (WStep.aload a0_128 rfl rfl) ?_
          refine WGo.s (WStep.iconst (2 : Int32) a0_130 rfl) ?_
          refine WGo.s (WStep.iload a0_131 rfl) ?_
          refine WGo.s (WStep.iload a0_133 rfl) ?_
          refine WGo.callS a0_135 (ok2 hw _ _ _ _) (wd hw 6 rfl) (wd hw 7 rfl) (argsL := [.ref 0, .int 2, .int 5, .int 5]) (S := []) (c2 hw _ _ x0 x1 x2 x3 x4 x5 2 5 5 x2 2 (by decide) rfl rfl _) rfl rfl rfl rfl rfl rfl (Nat.le_of_ble_eq_true rfl) (Nat.le_of_ble_eq_true rfl) ?_
          rintro _ _ _ ⟨⟨rfl, hA⟩ | ⟨rfl, hA⟩, rfl, rfl⟩
          · exact absurd (by decide) hA.1
          · clear hA
            show WGo _ (138, [wI sel, wJ d1, wS, wJ d2, wS, wI s, wI l, wR 0, wI 5, wI 0, wI 5, wU], [.int 0], [(.inl (.char, [(.int x0), (.int x1), (.int x2), (.int x3), (.int x4), (.int x5)]))], 6) _
            refine WGo.s (WStep.ifF a0_138 (by decide)) ?_
            refine WGo.s (WStep.aload a0_141 rfl rfl) ?_
            refine WGo.s (WStep.iconst (3 : Int32) a0_143 rfl) ?_
            refine WGo.s (WStep.iload a0_144 rfl) ?_
            refine WGo.s (WStep.iload a0_146 rfl) ?_
            refine WGo.callS a0_148 (ok2 hw _ _ _ _) (wd hw 6 rfl) (wd hw 7 rfl) (argsL := [.ref 0, .int 3, .int 5, .int 5]) (S := []) (c2 hw _ _ x0 x1 x2 x3 x4 x5 3 5 5 x3 3 (by decide) rfl rfl _) rfl rfl rfl rfl rfl rfl (Nat.le_of_ble_eq_true rfl) (Nat.le_of_ble_eq_true rfl) ?_
            rintro _ _ _ ⟨⟨rfl, hA⟩ | ⟨rfl, hA⟩, rfl, rfl⟩
            · exact absurd (by decide) hA.1
            · clear hA
              show WGo _ (151, [wI sel, wJ d1, wS, wJ d2, wS, wI s, wI l, wR 0, wI 5, wI 0, wI 5, wU], [.int 0], [(.inl (.char, [(.int x0), (.int x1), (.int x2), (.int x3), (.int x4), (.int x5)]))], 6) _
              refine WGo.s (WStep.ifF a0_151 (by decide)) ?_
              refine WGo.s (WStep.aload a0_154 rfl rfl) ?_
              refine WGo.s (WStep.iconst (4 : Int32) a0_156 rfl) ?_
              refine WGo.s (WStep.iload a0_157 rfl) ?_
              refine WGo.s (WStep.iload a0_159 rfl) ?_
              refine WGo.callS a0_161 (ok2 hw _ _ _ _) (wd hw 6 rfl) (wd hw 7 rfl) (argsL := [.ref 0, .int 4, .int 5, .int 5]) (S := []) (c2 hw _ _ x0 x1 x2 x3 x4 x5 4 5 5 x4 4 (by decide) rfl rfl _) rfl rfl rfl rfl rfl rfl (Nat.le_of_ble_eq_true rfl) (Nat.le_of_ble_eq_true rfl) ?_
              rintro _ _ _ ⟨⟨rfl, hA⟩ | ⟨rfl, hA⟩, rfl, rfl⟩
              · exact absurd (by decide) hA.1
              · clear hA
                show WGo _ (164, [wI sel, wJ d1, wS, wJ d2, wS, wI s, wI l, wR 0, wI 5, wI 0, wI 5, wU], [.int 0], [(.inl (.char, [(.int x0), (.int x1), (.int x2), (.int x3), (.int x4), (.int x5)]))], 6) _
                refine WGo.s (WStep.ifF a0_164 (by decide)) ?_
                refine WGo.s (WStep.aload a0_167 rfl rfl) ?_
                refine WGo.s (WStep.iconst (5 : Int32) a0_169 rfl) ?_
                refine WGo.s (WStep.iload a0_170 rfl) ?_
                refine WGo.s (WStep.iload a0_172 rfl) ?_
                refine WGo.callS a0_174 (ok2 hw _ _ _ _) (wd hw 6 rfl) (wd hw 7 rfl) (argsL := [.ref 0, .int 5, .int 5, .int 5]) (S := []) (c2 hw _ _ x0 x1 x2 x3 x4 x5 5 5 5 x5 5 (by decide) rfl rfl _) rfl rfl rfl rfl rfl rfl (Nat.le_of_ble_eq_true rfl) (Nat.le_of_ble_eq_true rfl) ?_
                rintro _ _ _ ⟨⟨rfl, hA⟩ | ⟨rfl, hA⟩, rfl, rfl⟩
                · exact absurd hA.2.1 (by decide)
                · clear hA
                  show WGo _ (177, [wI sel, wJ d1, wS, wJ d2, wS, wI s, wI l, wR 0, wI 5, wI 0, wI 5, wU], [.int 0], [(.inl (.char, [(.int x0), (.int x1), (.int x2), (.int x3), (.int x4), (.int x5)]))], 6) _
                  refine WGo.s (WStep.ifT a0_177 (by decide)) ?_
                  refine WGo.s (WStep.iconst (0 : Int32) a0_184 rfl) ?_
                  refine WGo.s (WStep.istore (L' := [wI sel, wJ d1, wS, wJ d2, wS, wI s, wI l, wR 0, wI 5, wI 0, wI 5, wI 0]) a0_185 rfl) ?_
                  refine WGo.s (WStep.aload a0_187 rfl rfl) ?_
                  refine WGo.s (WStep.iload a0_189 rfl) ?_
                  refine WGo.s (WStep.iload a0_191 rfl) ?_
                  refine WGo.callS a0_193 (ok3 hw _ _ _ _) (wd hw 9 rfl) (wd hw 10 rfl) (argsL := [.ref 0, .int 5, .int 0]) (S := []) (c3_50 hw _ _ x0 x1 x2 x3 x4 x5 _) rfl rfl rfl rfl rfl rfl (Nat.le_of_ble_eq_true rfl) (Nat.le_of_ble_eq_true rfl) ?_
                  rintro _ _ _ ⟨⟨rfl, hM⟩ | ⟨rfl, hM⟩, rfl, rfl⟩
                  · exfalso
                    simp_all
                  · skip
                    show WGo _ (196, [wI sel, wJ d1, wS, wJ d2, wS, wI s, wI l, wR 0, wI 5, wI 0, wI 5, wI 0], [.int 0], [(.inl (.char, [(.int x0), (.int x1), (.int x2), (.int x3), (.int x4), (.int x5)]))], 6) _
                    refine WGo.s (WStep.iload a0_196 rfl) ?_
                    refine WGo.s (WStep.icmpF a0_198 (by decide)) ?_
                    refine WGo.s (WStep.iconst (1 : Int32) a0_201 rfl) ?_
                    refine WGo.s (WStep.goto a0_202) ?_
                    refine WGo.ireturn .boolean a0_206 rfl (by simp) ?_
                    exact ⟨rfl, Nat.le_of_ble_eq_true rfl, Nat.le_of_ble_eq_true rfl⟩
    · show WGo _ (93, [wI sel, wJ d1, wS, wJ d2, wS, wI s, wI l, wR 0, wI 5, wU, wU, wU], [.int 1], [(.inl (.char, [(.int x0), (.int x1), (.int x2), (.int x3), (.int x4), (.int x5)]))], 6) _
      refine WGo.s (WStep.istore (L' := [wI sel, wJ d1, wS, wJ d2, wS, wI s, wI l, wR 0, wI 5, wI 1, wU, wU]) a0_93 rfl) ?_
      refine WGo.s (WStep.iload a0_95 rfl) ?_
      refine WGo.s (WStep.iload a0_97 rfl) ?_
      refine WGo.s (WStep.iadd a0_99) ?_
      show WGo _ (100, [wI sel, wJ d1, wS, wJ d2, wS, wI s, wI l, wR 0, wI 5, wI 1, wU, wU], [.int 6], [(.inl (.char, [(.int x0), (.int x1), (.int x2), (.int x3), (.int x4), (.int x5)]))], 6) _
      refine WGo.s (WStep.istore (L' := [wI sel, wJ d1, wS, wJ d2, wS, wI s, wI l, wR 0, wI 5, wI 1, wI 6, wU]) a0_100 rfl) ?_
      refine WGo.s (WStep.aload a0_102 rfl rfl) ?_
      refine WGo.s (WStep.iconst (0 : Int32) a0_104 rfl) ?_
      refine WGo.s (WStep.iload a0_105 rfl) ?_
      refine WGo.s (WStep.iload a0_107 rfl) ?_
      refine WGo.callS a0_109 (ok2 hw _ _ _ _) (wd hw 6 rfl) (wd hw 7 rfl) (argsL := [.ref 0, .int 0, .int 5, .int 6]) (S := []) (c2 hw _ _ x0 x1 x2 x3 x4 x5 0 5 6 x0 0 (by decide) rfl rfl _) rfl rfl rfl rfl rfl rfl (Nat.le_of_ble_eq_true rfl) (Nat.le_of_ble_eq_true rfl) ?_
      rintro _ _ _ ⟨⟨rfl, hA⟩ | ⟨rfl, hA⟩, rfl, rfl⟩
      · exact absurd (by decide) hA.1
      · clear hA
        show WGo _ (112, [wI sel, wJ d1, wS, wJ d2, wS, wI s, wI l, wR 0, wI 5, wI 1, wI 6, wU], [.int 0], [(.inl (.char, [(.int x0), (.int x1), (.int x2), (.int x3), (.int x4), (.int x5)]))], 6) _
        refine WGo.s (WStep.ifF a0_112 (by decide)) ?_
        refine WGo.s (WStep.aload a0_115 rfl rfl) ?_
        refine WGo.s (WStep.iconst (1 : Int32) a0_117 rfl) ?_
        refine WGo.s (WStep.iload a0_118 rfl) ?_
        refine WGo.s (WStep.iload a0_120 rfl) ?_
        refine WGo.callS a0_122 (ok2 hw _ _ _ _) (wd hw 6 rfl) (wd hw 7 rfl) (argsL := [.ref 0, .int 1, .int 5, .int 6]) (S := []) (c2 hw _ _ x0 x1 x2 x3 x4 x5 1 5 6 x1 1 (by decide) rfl rfl _) rfl rfl rfl rfl rfl rfl (Nat.le_of_ble_eq_true rfl) (Nat.le_of_ble_eq_true rfl) ?_
        rintro _ _ _ ⟨⟨rfl, hA⟩ | ⟨rfl, hA⟩, rfl, rfl⟩
        · exact absurd (by decide) hA.1
        · clear hA
          show WGo _ (125, [wI sel, wJ d1, wS, wJ d2, wS, wI s, wI l, wR 0, wI 5, wI 1, wI 6, wU], [.int 0], [(.inl (.char, [(.int x0), (.int x1), (.int x2), (.int x3), (.int x4), (.int x5)]))], 6) _
          refine WGo.s (WStep.ifF a0_125 (by decide)) ?_
          refine WGo.s (WStep.aload a0_128 rfl rfl) ?_
          refine WGo.s (WStep.iconst (2 : Int32) a0_130 rfl) ?_
          refine WGo.s (WStep.iload a0_131 rfl) ?_
          refine WGo.s (WStep.iload a0_133 rfl) ?_
          refine WGo.callS a0_135 (ok2 hw _ _ _ _) (wd hw 6 rfl) (wd hw 7 rfl) (argsL := [.ref 0, .int 2, .int 5, .int 6]) (S := []) (c2 hw _ _ x0 x1 x2 x3 x4 x5 2 5 6 x2 2 (by decide) rfl rfl _) rfl rfl rfl rfl rfl rfl (Nat.le_of_ble_eq_true rfl) (Nat.le_of_ble_eq_true rfl) ?_
          rintro _ _ _ ⟨⟨rfl, hA⟩ | ⟨rfl, hA⟩, rfl, rfl⟩
          · exact absurd (by decide) hA.1
          · clear hA
            show WGo _ (138, [wI sel, wJ d1, wS, wJ d2, wS, wI s, wI l, wR 0, wI 5, wI 1, wI 6, wU], [.int 0], [(.inl (.char, [(.int x0), (.int x1), (.int x2), (.int x3), (.int x4), (.int x5)]))], 6) _
            refine WGo.s (WStep.ifF a0_138 (by decide)) ?_
            refine WGo.s (WStep.aload a0_141 rfl rfl) ?_
            refine WGo.s (WStep.iconst (3 : Int32) a0_143 rfl) ?_
            refine WGo.s (WStep.iload a0_144 rfl) ?_
            refine WGo.s (WStep.iload a0_146 rfl) ?_
            refine WGo.callS a0_148 (ok2 hw _ _ _ _) (wd hw 6 rfl) (wd hw 7 rfl) (argsL := [.ref 0, .int 3, .int 5, .int 6]) (S := []) (c2 hw _ _ x0 x1 x2 x3 x4 x5 3 5 6 x3 3 (by decide) rfl rfl _) rfl rfl rfl rfl rfl rfl (Nat.le_of_ble_eq_true rfl) (Nat.le_of_ble_eq_true rfl) ?_
            rintro _ _ _ ⟨⟨rfl, hA⟩ | ⟨rfl, hA⟩, rfl, rfl⟩
            · exact absurd (by decide) hA.1
            · clear hA
              show WGo _ (151, [wI sel, wJ d1, wS, wJ d2, wS, wI s, wI l, wR 0, wI 5, wI 1, wI 6, wU], [.int 0], [(.inl (.char, [(.int x0), (.int x1), (.int x2), (.int x3), (.int x4), (.int x5)]))], 6) _
              refine WGo.s (WStep.ifF a0_151 (by decide)) ?_
              refine WGo.s (WStep.aload a0_154 rfl rfl) ?_
              refine WGo.s (WStep.iconst (4 : Int32) a0_156 rfl) ?_
              refine WGo.s (WStep.iload a0_157 rfl) ?_
              refine WGo.s (WStep.iload a0_159 rfl) ?_
              refine WGo.callS a0_161 (ok2 hw _ _ _ _) (wd hw 6 rfl) (wd hw 7 rfl) (argsL := [.ref 0, .int 4, .int 5, .int 6]) (S := []) (c2 hw _ _ x0 x1 x2 x3 x4 x5 4 5 6 x4 4 (by decide) rfl rfl _) rfl rfl rfl rfl rfl rfl (Nat.le_of_ble_eq_true rfl) (Nat.le_of_ble_eq_true rfl) ?_
              rintro _ _ _ ⟨⟨rfl, hA⟩ | ⟨rfl, hA⟩, rfl, rfl⟩
              · exact absurd (by decide) hA.1
              · clear hA
                show WGo _ (164, [wI sel, wJ d1, wS, wJ d2, wS, wI s, wI l, wR 0, wI 5, wI 1, wI 6, wU], [.int 0], [(.inl (.char, [(.int x0), (.int x1), (.int x2), (.int x3), (.int x4), (.int x5)]))], 6) _
                refine WGo.s (WStep.ifF a0_164 (by decide)) ?_
                refine WGo.s (WStep.aload a0_167 rfl rfl) ?_
                refine WGo.s (WStep.iconst (5 : Int32) a0_169 rfl) ?_
                refine WGo.s (WStep.iload a0_170 rfl) ?_
                refine WGo.s (WStep.iload a0_172 rfl) ?_
                refine WGo.callS a0_174 (ok2 hw _ _ _ _) (wd hw 6 rfl) (wd hw 7 rfl) (argsL := [.ref 0, .int 5, .int 5, .int 6]) (S := []) (c2 hw _ _ x0 x1 x2 x3 x4 x5 5 5 6 x5 5 (by decide) rfl rfl _) rfl rfl rfl rfl rfl rfl (Nat.le_of_ble_eq_true rfl) (Nat.le_of_ble_eq_true rfl) ?_
                rintro _ _ _ ⟨⟨rfl, hA⟩ | ⟨rfl, hA⟩, rfl, rfl⟩
                · exact absurd hA.2.1 (by decide)
                · clear hA
                  show WGo _ (177, [wI sel, wJ d1, wS, wJ d2, wS, wI s, wI l, wR 0, wI 5, wI 1, wI 6, wU], [.int 0], [(.inl (.char, [(.int x0), (.int x1), (.int x2), (.int x3), (.int x4), (.int x5)]))], 6) _
                  refine WGo.s (WStep.ifT a0_177 (by decide)) ?_
                  refine WGo.s (WStep.iconst (0 : Int32) a0_184 rfl) ?_
                  refine WGo.s (WStep.istore (L' := [wI sel, wJ d1, wS, wJ d2, wS, wI s, wI l, wR 0, wI 5, wI 1, wI 6, wI 0]) a0_185 rfl) ?_
                  refine WGo.s (WStep.aload a0_187 rfl rfl) ?_
                  refine WGo.s (WStep.iload a0_189 rfl) ?_
                  refine WGo.s (WStep.iload a0_191 rfl) ?_
                  refine WGo.callS a0_193 (ok3 hw _ _ _ _) (wd hw 9 rfl) (wd hw 10 rfl) (argsL := [.ref 0, .int 5, .int 1]) (S := []) (c3_51 hw _ _ x0 x1 x2 x3 x4 x5 _) rfl rfl rfl rfl rfl rfl (Nat.le_of_ble_eq_true rfl) (Nat.le_of_ble_eq_true rfl) ?_
                  rintro _ _ _ ⟨⟨rfl, hM⟩ | ⟨rfl, hM⟩, rfl, rfl⟩
                  · exfalso
                    simp_all
                  · skip
                    show WGo _ (196, [wI sel, wJ d1, wS, wJ d2, wS, wI s, wI l, wR 0, wI 5, wI 1, wI 6, wI 0], [.int 0], [(.inl (.char, [(.int x0), (.int x1), (.int x2), (.int x3), (.int x4), (.int x5)]))], 6) _
                    refine WGo.s (WStep.iload a0_196 rfl) ?_
                    refine WGo.s (WStep.icmpF a0_198 (by decide)) ?_
                    refine WGo.s (WStep.iconst (1 : Int32) a0_201 rfl) ?_
                    refine WGo.s (WStep.goto a0_202) ?_
                    refine WGo.ireturn .boolean a0_206 rfl (by simp) ?_
                    exact ⟨rfl, Nat.le_of_ble_eq_true rfl, Nat.le_of_ble_eq_true rfl⟩
  · show WGo _ (80, [wI sel, wJ d1, wS, wJ d2, wS, wI s, wI l, wR 0, wU, wU, wU, wU], [.int 6], [(.inl (.char, [(.int x0), (.int x1), (.int x2), (.int x3), (.int x4), (.int x5)]))], 6) _
    refine WGo.s (WStep.istore (L' := [wI sel, wJ d1, wS, wJ d2, wS, wI s, wI l, wR 0, wI 6, wU, wU, wU]) a0_80 rfl) ?_
    refine WGo.s (WStep.iload a0_82 rfl) ?_
    refine WGo.s (WStep.ldc a0_84 (wd hw 5 rfl)) ?_
    refine WGo.s (WStep.iand a0_86) ?_
    refine WGo.s (WStep.bipush (7 : Int32) a0_87 rfl) ?_
    refine WGo.s (WStep.iload a0_89 rfl) ?_
    refine WGo.s (WStep.isub a0_91) ?_
    show WGo _ (92, [wI sel, wJ d1, wS, wJ d2, wS, wI s, wI l, wR 0, wI 6, wU, wU, wU], [.int 1, (.int (l &&& (2147483647 : Int32)))], [(.inl (.char, [(.int x0), (.int x1), (.int x2), (.int x3), (.int x4), (.int x5)]))], 6) _
    refine WGo.s (WStep.irem a0_92 (by decide)) ?_
    generalize hg_m : ((l &&& (2147483647 : Int32)) % (1 : Int32)) = m
    have hm := remx _ _ _ hg_m (by decide)
    have hs : m = 0 := by
      have e7 : (1 : Int32).toInt = 1 := rfl
      simp only [← Int32.toInt_inj, Int32.reduceToInt] at *
      omega
    rcases hs with rfl
    · show WGo _ (93, [wI sel, wJ d1, wS, wJ d2, wS, wI s, wI l, wR 0, wI 6, wU, wU, wU], [.int 0], [(.inl (.char, [(.int x0), (.int x1), (.int x2), (.int x3), (.int x4), (.int x5)]))], 6) _
      refine WGo.s (WStep.istore (L' := [wI sel, wJ d1, wS, wJ d2, wS, wI s, wI l, wR 0, wI 6, wI 0, wU, wU]) a0_93 rfl) ?_
      refine WGo.s (WStep.iload a0_95 rfl) ?_
      refine WGo.s (WStep.iload a0_97 rfl) ?_
      refine WGo.s (WStep.iadd a0_99) ?_
      show WGo _ (100, [wI sel, wJ d1, wS, wJ d2, wS, wI s, wI l, wR 0, wI 6, wI 0, wU, wU], [.int 6], [(.inl (.char, [(.int x0), (.int x1), (.int x2), (.int x3), (.int x4), (.int x5)]))], 6) _
      refine WGo.s (WStep.istore (L' := [wI sel, wJ d1, wS, wJ d2, wS, wI s, wI l, wR 0, wI 6, wI 0, wI 6, wU]) a0_100 rfl) ?_
      refine WGo.s (WStep.aload a0_102 rfl rfl) ?_
      refine WGo.s (WStep.iconst (0 : Int32) a0_104 rfl) ?_
      refine WGo.s (WStep.iload a0_105 rfl) ?_
      refine WGo.s (WStep.iload a0_107 rfl) ?_
      refine WGo.callS a0_109 (ok2 hw _ _ _ _) (wd hw 6 rfl) (wd hw 7 rfl) (argsL := [.ref 0, .int 0, .int 6, .int 6]) (S := []) (c2 hw _ _ x0 x1 x2 x3 x4 x5 0 6 6 x0 0 (by decide) rfl rfl _) rfl rfl rfl rfl rfl rfl (Nat.le_of_ble_eq_true rfl) (Nat.le_of_ble_eq_true rfl) ?_
      rintro _ _ _ ⟨⟨rfl, hA⟩ | ⟨rfl, hA⟩, rfl, rfl⟩
      · exact absurd (by decide) hA.1
      · clear hA
        show WGo _ (112, [wI sel, wJ d1, wS, wJ d2, wS, wI s, wI l, wR 0, wI 6, wI 0, wI 6, wU], [.int 0], [(.inl (.char, [(.int x0), (.int x1), (.int x2), (.int x3), (.int x4), (.int x5)]))], 6) _
        refine WGo.s (WStep.ifF a0_112 (by decide)) ?_
        refine WGo.s (WStep.aload a0_115 rfl rfl) ?_
        refine WGo.s (WStep.iconst (1 : Int32) a0_117 rfl) ?_
        refine WGo.s (WStep.iload a0_118 rfl) ?_
        refine WGo.s (WStep.iload a0_120 rfl) ?_
        refine WGo.callS a0_122 (ok2 hw _ _ _ _) (wd hw 6 rfl) (wd hw 7 rfl) (argsL := [.ref 0, .int 1, .int 6, .int 6]) (S := []) (c2 hw _ _ x0 x1 x2 x3 x4 x5 1 6 6 x1 1 (by decide) rfl rfl _) rfl rfl rfl rfl rfl rfl (Nat.le_of_ble_eq_true rfl) (Nat.le_of_ble_eq_true rfl) ?_
        rintro _ _ _ ⟨⟨rfl, hA⟩ | ⟨rfl, hA⟩, rfl, rfl⟩
        · exact absurd (by decide) hA.1
        · clear hA
          show WGo _ (125, [wI sel, wJ d1, wS, wJ d2, wS, wI s, wI l, wR 0, wI 6, wI 0, wI 6, wU], [.int 0], [(.inl (.char, [(.int x0), (.int x1), (.int x2), (.int x3), (.int x4), (.int x5)]))], 6) _
          refine WGo.s (WStep.ifF a0_125 (by decide)) ?_
          refine WGo.s (WStep.aload a0_128 rfl rfl) ?_
          refine WGo.s (WStep.iconst (2 : Int32) a0_130 rfl) ?_
          refine WGo.s (WStep.iload a0_131 rfl) ?_
          refine WGo.s (WStep.iload a0_133 rfl) ?_
          refine WGo.callS a0_135 (ok2 hw _ _ _ _) (wd hw 6 rfl) (wd hw 7 rfl) (argsL := [.ref 0, .int 2, .int 6, .int 6]) (S := []) (c2 hw _ _ x0 x1 x2 x3 x4 x5 2 6 6 x2 2 (by decide) rfl rfl _) rfl rfl rfl rfl rfl rfl (Nat.le_of_ble_eq_true rfl) (Nat.le_of_ble_eq_true rfl) ?_
          rintro _ _ _ ⟨⟨rfl, hA⟩ | ⟨rfl, hA⟩, rfl, rfl⟩
          · exact absurd (by decide) hA.1
          · clear hA
            show WGo _ (138, [wI sel, wJ d1, wS, wJ d2, wS, wI s, wI l, wR 0, wI 6, wI 0, wI 6, wU], [.int 0], [(.inl (.char, [(.int x0), (.int x1), (.int x2), (.int x3), (.int x4), (.int x5)]))], 6) _
            refine WGo.s (WStep.ifF a0_138 (by decide)) ?_
            refine WGo.s (WStep.aload a0_141 rfl rfl) ?_
            refine WGo.s (WStep.iconst (3 : Int32) a0_143 rfl) ?_
            refine WGo.s (WStep.iload a0_144 rfl) ?_
            refine WGo.s (WStep.iload a0_146 rfl) ?_
            refine WGo.callS a0_148 (ok2 hw _ _ _ _) (wd hw 6 rfl) (wd hw 7 rfl) (argsL := [.ref 0, .int 3, .int 6, .int 6]) (S := []) (c2 hw _ _ x0 x1 x2 x3 x4 x5 3 6 6 x3 3 (by decide) rfl rfl _) rfl rfl rfl rfl rfl rfl (Nat.le_of_ble_eq_true rfl) (Nat.le_of_ble_eq_true rfl) ?_
            rintro _ _ _ ⟨⟨rfl, hA⟩ | ⟨rfl, hA⟩, rfl, rfl⟩
            · exact absurd (by decide) hA.1
            · clear hA
              show WGo _ (151, [wI sel, wJ d1, wS, wJ d2, wS, wI s, wI l, wR 0, wI 6, wI 0, wI 6, wU], [.int 0], [(.inl (.char, [(.int x0), (.int x1), (.int x2), (.int x3), (.int x4), (.int x5)]))], 6) _
              refine WGo.s (WStep.ifF a0_151 (by decide)) ?_
              refine WGo.s (WStep.aload a0_154 rfl rfl) ?_
              refine WGo.s (WStep.iconst (4 : Int32) a0_156 rfl) ?_
              refine WGo.s (WStep.iload a0_157 rfl) ?_
              refine WGo.s (WStep.iload a0_159 rfl) ?_
              refine WGo.callS a0_161 (ok2 hw _ _ _ _) (wd hw 6 rfl) (wd hw 7 rfl) (argsL := [.ref 0, .int 4, .int 6, .int 6]) (S := []) (c2 hw _ _ x0 x1 x2 x3 x4 x5 4 6 6 x4 4 (by decide) rfl rfl _) rfl rfl rfl rfl rfl rfl (Nat.le_of_ble_eq_true rfl) (Nat.le_of_ble_eq_true rfl) ?_
              rintro _ _ _ ⟨⟨rfl, hA⟩ | ⟨rfl, hA⟩, rfl, rfl⟩
              · exact absurd (by decide) hA.1
              · clear hA
                show WGo _ (164, [wI sel, wJ d1, wS, wJ d2, wS, wI s, wI l, wR 0, wI 6, wI 0, wI 6, wU], [.int 0], [(.inl (.char, [(.int x0), (.int x1), (.int x2), (.int x3), (.int x4), (.int x5)]))], 6) _
                refine WGo.s (WStep.ifF a0_164 (by decide)) ?_
                refine WGo.s (WStep.aload a0_167 rfl rfl) ?_
                refine WGo.s (WStep.iconst (5 : Int32) a0_169 rfl) ?_
                refine WGo.s (WStep.iload a0_170 rfl) ?_
                refine WGo.s (WStep.iload a0_172 rfl) ?_
                refine WGo.callS a0_174 (ok2 hw _ _ _ _) (wd hw 6 rfl) (wd hw 7 rfl) (argsL := [.ref 0, .int 5, .int 6, .int 6]) (S := []) (c2 hw _ _ x0 x1 x2 x3 x4 x5 5 6 6 x5 5 (by decide) rfl rfl _) rfl rfl rfl rfl rfl rfl (Nat.le_of_ble_eq_true rfl) (Nat.le_of_ble_eq_true rfl) ?_
                rintro _ _ _ ⟨⟨rfl, hA⟩ | ⟨rfl, hA⟩, rfl, rfl⟩
                · exact absurd (by decide) hA.1
                · clear hA
                  show WGo _ (177, [wI sel, wJ d1, wS, wJ d2, wS, wI s, wI l, wR 0, wI 6, wI 0, wI 6, wU], [.int 0], [(.inl (.char, [(.int x0), (.int x1), (.int x2), (.int x3), (.int x4), (.int x5)]))], 6) _
                  refine WGo.s (WStep.ifT a0_177 (by decide)) ?_
                  refine WGo.s (WStep.iconst (0 : Int32) a0_184 rfl) ?_
                  refine WGo.s (WStep.istore (L' := [wI sel, wJ d1, wS, wJ d2, wS, wI s, wI l, wR 0, wI 6, wI 0, wI 6, wI 0]) a0_185 rfl) ?_
                  refine WGo.s (WStep.aload a0_187 rfl rfl) ?_
                  refine WGo.s (WStep.iload a0_189 rfl) ?_
                  refine WGo.s (WStep.iload a0_191 rfl) ?_
                  refine WGo.callS a0_193 (ok3 hw _ _ _ _) (wd hw 9 rfl) (wd hw 10 rfl) (argsL := [.ref 0, .int 6, .int 0]) (S := []) (c3_60 hw _ _ x0 x1 x2 x3 x4 x5 _) rfl rfl rfl rfl rfl rfl (Nat.le_of_ble_eq_true rfl) (Nat.le_of_ble_eq_true rfl) ?_
                  rintro _ _ _ ⟨⟨rfl, hM⟩ | ⟨rfl, hM⟩, rfl, rfl⟩
                  · exfalso
                    simp_all
                  · skip
                    show WGo _ (196, [wI sel, wJ d1, wS, wJ d2, wS, wI s, wI l, wR 0, wI 6, wI 0, wI 6, wI 0], [.int 0], [(.inl (.char, [(.int x0), (.int x1), (.int x2), (.int x3), (.int x4), (.int x5)]))], 6) _
                    refine WGo.s (WStep.iload a0_196 rfl) ?_
                    refine WGo.s (WStep.icmpF a0_198 (by decide)) ?_
                    refine WGo.s (WStep.iconst (1 : Int32) a0_201 rfl) ?_
                    refine WGo.s (WStep.goto a0_202) ?_
                    refine WGo.ireturn .boolean a0_206 rfl (by simp) ?_
                    exact ⟨rfl, Nat.le_of_ble_eq_true rfl, Nat.le_of_ble_eq_true rfl⟩
theorem law_go (Z : State) (a0 : Array Value) (hw : ∀ d ∈ tables_1, d.before a0 Z = true) (n0 : Nat) (sel : Int32) (d1 d2 : Int64) (s l : Int32) : WGo (g0 Z (fun k => n0 + k) n0 0 0) (0, [wI sel, wJ d1, wS, wJ d2, wS, wI s, wI l, wU, wU, wU, wU, wU], [], [], 0) (fun v σ' u' => v = some (.int 1) ∧ σ'.length ≤ 16 ∧ u' ≤ 128) := by
  refine WGo.s (WStep.bipush (6 : Int32) a0_0 rfl) ?_
  refine WGo.s (WStep.newP (k := 0) (6 : Int32) 6 a0_2 (wd hw 0 rfl) (by decide) rfl (by decide) rfl (by decide)) ?_
  show WGo _ (4, [wI sel, wJ d1, wS, wJ d2, wS, wI s, wI l, wU, wU, wU, wU, wU], [.ref 0], [(.inl (.char, [.int 0, .int 0, .int 0, .int 0, .int 0, .int 0]))], 6) _
  refine WGo.s (WStep.astore (L' := [wI sel, wJ d1, wS, wJ d2, wS, wI s, wI l, wR 0, wU, wU, wU, wU]) a0_4 rfl rfl) ?_
  refine WGo.s (WStep.aload a0_6 rfl rfl) ?_
  refine WGo.s (WStep.iconst (0 : Int32) a0_8 rfl) ?_
  refine WGo.s (WStep.iloadN a0_9 rfl) ?_
  refine WGo.s (WStep.iconst (0 : Int32) a0_10 rfl) ?_
  refine WGo.s (WStep.lloadN a0_11 rfl) ?_
  refine WGo.s (WStep.iconst (0 : Int32) a0_12 rfl) ?_
  refine WGo.callS a0_13 (ok1 hw _ _ _ _) (wd hw 1 rfl) (wd hw 2 rfl) (argsL := [(.int sel), .int 0, (.long d1), .int 0]) (S := [.int 0, .ref 0]) (c1 hw _ _ sel (0 : Int32) d1 (0 : Int32) _ _) rfl rfl rfl rfl rfl rfl (Nat.le_of_ble_eq_true rfl) (Nat.le_of_ble_eq_true rfl) ?_
  rintro _ _ _ ⟨⟨z0, rfl⟩, rfl, rfl⟩
  show WGo _ (16, [wI sel, wJ d1, wS, wJ d2, wS, wI s, wI l, wR 0, wU, wU, wU, wU], [(.int z0), .int 0, .ref 0], [(.inl (.char, [.int 0, .int 0, .int 0, .int 0, .int 0, .int 0]))], 6) _
  refine WGo.s (WStep.castore 0 a0_16 rfl (by decide) rfl (Nat.le_of_ble_eq_true rfl)) ?_
  show WGo _ (17, [wI sel, wJ d1, wS, wJ d2, wS, wI s, wI l, wR 0, wU, wU, wU, wU], [], [(.inl (.char, [(.int (nar .char z0)), .int 0, .int 0, .int 0, .int 0, .int 0]))], 6) _
  refine WGo.s (WStep.aload a0_17 rfl rfl) ?_
  refine WGo.s (WStep.iconst (1 : Int32) a0_19 rfl) ?_
  refine WGo.s (WStep.iloadN a0_20 rfl) ?_
  refine WGo.s (WStep.iconst (1 : Int32) a0_21 rfl) ?_
  refine WGo.s (WStep.lloadN a0_22 rfl) ?_
  refine WGo.s (WStep.iconst (1 : Int32) a0_23 rfl) ?_
  refine WGo.callS a0_24 (ok1 hw _ _ _ _) (wd hw 1 rfl) (wd hw 2 rfl) (argsL := [(.int sel), .int 1, (.long d1), .int 1]) (S := [.int 1, .ref 0]) (c1 hw _ _ sel (1 : Int32) d1 (1 : Int32) _ _) rfl rfl rfl rfl rfl rfl (Nat.le_of_ble_eq_true rfl) (Nat.le_of_ble_eq_true rfl) ?_
  rintro _ _ _ ⟨⟨z1, rfl⟩, rfl, rfl⟩
  show WGo _ (27, [wI sel, wJ d1, wS, wJ d2, wS, wI s, wI l, wR 0, wU, wU, wU, wU], [(.int z1), .int 1, .ref 0], [(.inl (.char, [(.int (nar .char z0)), .int 0, .int 0, .int 0, .int 0, .int 0]))], 6) _
  refine WGo.s (WStep.castore 1 a0_27 rfl (by decide) rfl (Nat.le_of_ble_eq_true rfl)) ?_
  show WGo _ (28, [wI sel, wJ d1, wS, wJ d2, wS, wI s, wI l, wR 0, wU, wU, wU, wU], [], [(.inl (.char, [(.int (nar .char z0)), (.int (nar .char z1)), .int 0, .int 0, .int 0, .int 0]))], 6) _
  refine WGo.s (WStep.aload a0_28 rfl rfl) ?_
  refine WGo.s (WStep.iconst (2 : Int32) a0_30 rfl) ?_
  refine WGo.s (WStep.iloadN a0_31 rfl) ?_
  refine WGo.s (WStep.iconst (2 : Int32) a0_32 rfl) ?_
  refine WGo.s (WStep.lloadN a0_33 rfl) ?_
  refine WGo.s (WStep.iconst (2 : Int32) a0_34 rfl) ?_
  refine WGo.callS a0_35 (ok1 hw _ _ _ _) (wd hw 1 rfl) (wd hw 2 rfl) (argsL := [(.int sel), .int 2, (.long d1), .int 2]) (S := [.int 2, .ref 0]) (c1 hw _ _ sel (2 : Int32) d1 (2 : Int32) _ _) rfl rfl rfl rfl rfl rfl (Nat.le_of_ble_eq_true rfl) (Nat.le_of_ble_eq_true rfl) ?_
  rintro _ _ _ ⟨⟨z2, rfl⟩, rfl, rfl⟩
  show WGo _ (38, [wI sel, wJ d1, wS, wJ d2, wS, wI s, wI l, wR 0, wU, wU, wU, wU], [(.int z2), .int 2, .ref 0], [(.inl (.char, [(.int (nar .char z0)), (.int (nar .char z1)), .int 0, .int 0, .int 0, .int 0]))], 6) _
  refine WGo.s (WStep.castore 2 a0_38 rfl (by decide) rfl (Nat.le_of_ble_eq_true rfl)) ?_
  show WGo _ (39, [wI sel, wJ d1, wS, wJ d2, wS, wI s, wI l, wR 0, wU, wU, wU, wU], [], [(.inl (.char, [(.int (nar .char z0)), (.int (nar .char z1)), (.int (nar .char z2)), .int 0, .int 0, .int 0]))], 6) _
  refine WGo.s (WStep.aload a0_39 rfl rfl) ?_
  refine WGo.s (WStep.iconst (3 : Int32) a0_41 rfl) ?_
  refine WGo.s (WStep.iloadN a0_42 rfl) ?_
  refine WGo.s (WStep.iconst (3 : Int32) a0_43 rfl) ?_
  refine WGo.s (WStep.lloadN a0_44 rfl) ?_
  refine WGo.s (WStep.iconst (3 : Int32) a0_45 rfl) ?_
  refine WGo.callS a0_46 (ok1 hw _ _ _ _) (wd hw 1 rfl) (wd hw 2 rfl) (argsL := [(.int sel), .int 3, (.long d1), .int 3]) (S := [.int 3, .ref 0]) (c1 hw _ _ sel (3 : Int32) d1 (3 : Int32) _ _) rfl rfl rfl rfl rfl rfl (Nat.le_of_ble_eq_true rfl) (Nat.le_of_ble_eq_true rfl) ?_
  rintro _ _ _ ⟨⟨z3, rfl⟩, rfl, rfl⟩
  show WGo _ (49, [wI sel, wJ d1, wS, wJ d2, wS, wI s, wI l, wR 0, wU, wU, wU, wU], [(.int z3), .int 3, .ref 0], [(.inl (.char, [(.int (nar .char z0)), (.int (nar .char z1)), (.int (nar .char z2)), .int 0, .int 0, .int 0]))], 6) _
  refine WGo.s (WStep.castore 3 a0_49 rfl (by decide) rfl (Nat.le_of_ble_eq_true rfl)) ?_
  show WGo _ (50, [wI sel, wJ d1, wS, wJ d2, wS, wI s, wI l, wR 0, wU, wU, wU, wU], [], [(.inl (.char, [(.int (nar .char z0)), (.int (nar .char z1)), (.int (nar .char z2)), (.int (nar .char z3)), .int 0, .int 0]))], 6) _
  refine WGo.s (WStep.aload a0_50 rfl rfl) ?_
  refine WGo.s (WStep.iconst (4 : Int32) a0_52 rfl) ?_
  refine WGo.s (WStep.iloadN a0_53 rfl) ?_
  refine WGo.s (WStep.iconst (4 : Int32) a0_54 rfl) ?_
  refine WGo.s (WStep.lloadN a0_55 rfl) ?_
  refine WGo.s (WStep.iconst (0 : Int32) a0_56 rfl) ?_
  refine WGo.callS a0_57 (ok1 hw _ _ _ _) (wd hw 1 rfl) (wd hw 2 rfl) (argsL := [(.int sel), .int 4, (.long d2), .int 0]) (S := [.int 4, .ref 0]) (c1 hw _ _ sel (4 : Int32) d2 (0 : Int32) _ _) rfl rfl rfl rfl rfl rfl (Nat.le_of_ble_eq_true rfl) (Nat.le_of_ble_eq_true rfl) ?_
  rintro _ _ _ ⟨⟨z4, rfl⟩, rfl, rfl⟩
  show WGo _ (60, [wI sel, wJ d1, wS, wJ d2, wS, wI s, wI l, wR 0, wU, wU, wU, wU], [(.int z4), .int 4, .ref 0], [(.inl (.char, [(.int (nar .char z0)), (.int (nar .char z1)), (.int (nar .char z2)), (.int (nar .char z3)), .int 0, .int 0]))], 6) _
  refine WGo.s (WStep.castore 4 a0_60 rfl (by decide) rfl (Nat.le_of_ble_eq_true rfl)) ?_
  show WGo _ (61, [wI sel, wJ d1, wS, wJ d2, wS, wI s, wI l, wR 0, wU, wU, wU, wU], [], [(.inl (.char, [(.int (nar .char z0)), (.int (nar .char z1)), (.int (nar .char z2)), (.int (nar .char z3)), (.int (nar .char z4)), .int 0]))], 6) _
  refine WGo.s (WStep.aload a0_61 rfl rfl) ?_
  refine WGo.s (WStep.iconst (5 : Int32) a0_63 rfl) ?_
  refine WGo.s (WStep.iloadN a0_64 rfl) ?_
  refine WGo.s (WStep.iconst (5 : Int32) a0_65 rfl) ?_
  refine WGo.s (WStep.lloadN a0_66 rfl) ?_
  refine WGo.s (WStep.iconst (1 : Int32) a0_67 rfl) ?_
  refine WGo.callS a0_68 (ok1 hw _ _ _ _) (wd hw 1 rfl) (wd hw 2 rfl) (argsL := [(.int sel), .int 5, (.long d2), .int 1]) (S := [.int 5, .ref 0]) (c1 hw _ _ sel (5 : Int32) d2 (1 : Int32) _ _) rfl rfl rfl rfl rfl rfl (Nat.le_of_ble_eq_true rfl) (Nat.le_of_ble_eq_true rfl) ?_
  rintro _ _ _ ⟨⟨z5, rfl⟩, rfl, rfl⟩
  show WGo _ (71, [wI sel, wJ d1, wS, wJ d2, wS, wI s, wI l, wR 0, wU, wU, wU, wU], [(.int z5), .int 5, .ref 0], [(.inl (.char, [(.int (nar .char z0)), (.int (nar .char z1)), (.int (nar .char z2)), (.int (nar .char z3)), (.int (nar .char z4)), .int 0]))], 6) _
  refine WGo.s (WStep.castore 5 a0_71 rfl (by decide) rfl (Nat.le_of_ble_eq_true rfl)) ?_
  show WGo _ (72, [wI sel, wJ d1, wS, wJ d2, wS, wI s, wI l, wR 0, wU, wU, wU, wU], [], [(.inl (.char, [(.int (nar .char z0)), (.int (nar .char z1)), (.int (nar .char z2)), (.int (nar .char z3)), (.int (nar .char z4)), (.int (nar .char z5))]))], 6) _
  exact seg Z a0 hw n0 _ _ _ _ _ _ _ _ _ _ _
theorem plx : plainFor x = true := plainFor_of_name (by first | (simp [plainName, overriddenIn, x]; done) | decide +kernel)
set_option maxRecDepth 65536 in
set_option maxHeartbeats 40000000 in
theorem comes_1 {Post : Tables → Env → Array Value → State → Outcome → State → Prop} (hpost : ∀ tb e args s v u, (limb_1_1.after args s (.returned v) u = true ∧ limb_1_2.after args s (.returned v) u = true ∧ True) → FrameEnd s (.returned v) u (Jvm.fieldLocs frame_1_writes args s ++ Jvm.arrayLocs frame_1_arrays args s ++ Jvm.staticLocs frame_1_statics s) 16 128 → Post tb e args s (.returned v) u) :
    ArmFor flags0 classFile x code maxLocals ret World_1 tables_1 room_1 Calls_1 rest_1 Pre_1 Post := by
  intro l hfl _ _ p e ha hc hk s m args below hf hA hF happ hP
  obtain ⟨hcalls, hrest, hpre⟩ := hP
  obtain ⟨-, -, -, hnamed, -, -, -, hat⟩ := (Spec.applies_iff hf).mp happ
  obtain ⟨hg, hn⟩ := and_e (Cond.before_iff.mp (show (Jvm.Cond.and given_1 narrow_1).before args s = true from hpre))
  obtain ⟨gg1, gg2⟩ := and_e hg
  obtain ⟨gg3, gg4⟩ := and_e gg2
  obtain ⟨gg5, gg6⟩ := and_e gg4
  obtain ⟨gg7, gg8⟩ := and_e gg6
  obtain ⟨gg9, gg10⟩ := and_e gg8
  obtain ⟨w0, w1, w2, w3, w4, rfl⟩ : ∃ w0 w1 w2 w3 w4 : Value, args = #[w0, w1, w2, w3, w4] := by
    have hs : args.size = 5 := by simpa [Cond.value, given_1] using gg1
    obtain ⟨L⟩ := args
    match L, hs with
    | [w0, w1, w2, w3, w4], _ => exact ⟨w0, w1, w2, w3, w4, rfl⟩
  have hw := fun d (hd : d ∈ tables_1) => atoms_spec (ws := Jvm.Cond.code x code maxLocals ret :: tables_1) hat d (List.mem_cons_of_mem _ hd)
  obtain ⟨i0, ei0⟩ := is_v gg3
  obtain rfl : w0 = (.int i0) := Option.some.inj ei0
  obtain ⟨i1, ei1⟩ := isL_v gg5
  obtain rfl : w1 = (.long i1) := Option.some.inj ei1
  obtain ⟨i2, ei2⟩ := isL_v gg7
  obtain rfl : w2 = (.long i2) := Option.some.inj ei2
  obtain ⟨i3, ei3⟩ := is_v gg9
  obtain rfl : w3 = (.int i3) := Option.some.inj ei3
  obtain ⟨i4, ei4⟩ := is_v gg10
  obtain rfl : w4 = (.int i4) := Option.some.inj ei4
  obtain ⟨v, σ', u', ⟨rfl, hc1, hu1⟩, r⟩ := law_go s _ hw s.heap.size i0 i1 i2 i3 i4
  have D0 : WDen s (fun k => s.heap.size + k) s.heap.size [] s.heap := ⟨rfl, Nat.zero_le _, fun k o h => by cases h⟩
  obtain ⟨n, o, h1, h2, h3, _, L, rfl, ⟨rfl, N, -⟩, hq⟩ := met_of (l := l) (y := x) (ws := tables_1) (argsL := [(.int i0), (.long i1), (.long i2), (.int i3), (.int i4)]) (h := s.heap) rfl rfl rfl rfl plx (fun k _ => rfl) (fun i j h => Nat.add_left_cancel h) r D0 room_1 (Nat.le_of_ble_eq_true rfl) (Nat.le_trans (Nat.sub_le _ _) (Nat.le_trans hc1 (by decide))) (Nat.le_trans (Nat.sub_le _ _) (Nat.le_trans hu1 (by decide))) (Nat.le_of_ble_eq_true rfl) p e ha hc hk s m _ below hf ((Spec.applies_iff_loose hf).mp happ).1 ⟨rfl, State.Warmed39.refl s, rfl⟩ trivial
  refine ⟨n, _, h1, h2, h3, hpost _ _ _ _ _ _ ⟨Cond.after_iff.mpr rfl, Cond.after_iff.mpr (eq_i res_at (Term.int_eval (1)) rfl), trivial⟩ ⟨hq.1, hq.2.1, (hq.2.2.sift fun y hy => Or.inr (N y hy)).mono (Nat.le_trans (Nat.sub_le _ _) (Nat.le_trans hc1 (by decide))) (Nat.le_trans (Nat.sub_le _ _) (Nat.le_trans hu1 (by decide)))⟩⟩
theorem main_1_1 : Claimed_1_1 := comes_1 fun _ _ _ _ _ _ h hF => ⟨h.1, hF⟩
theorem main_1_2 : Claimed_1_2 := comes_1 fun _ _ _ _ _ _ h hF => ⟨h.2.1, hF⟩
end Jvm.Pilot.@@N@@
namespace Jvm.Pilot.@@N@@
open Jvm Jvm.ClassFile Sem Op Lib Jvm.Free Jvm.Stand Jvm.Pilot.@@N@@.Jvm.D
/-! MADE BY PROGRAM (witnessworld.py) out of the Statement's table words and the real class files: 11 classes; the members and pool entries that the words name. The judged class is class 1, her method 3. -/
namespace start1
open Jvm.ClassFile
def u (s : String) : CpInfo := .utf8 (stringToUtf16 s)
/-- a pool by its gaps: so many unusable entries, then the entry; so many at the end -/
def gap : Nat → List CpInfo → List CpInfo
  | 0, r => r
  | n + 1, r => .unusable :: gap n r
def poolList (es : List (Nat × CpInfo)) (last : Nat) : List CpInfo := es.foldr (fun e r => gap e.1 (e.2 :: r)) (gap last [])
def pool (es : List (Nat × CpInfo)) (last : Nat) : Array CpInfo := ⟨poolList es last⟩
def fileOf (pool : Array CpInfo) (this : Nat) (attrs : Array Attribute := #[]) (ms : Array MethodInfo := #[]) (fl : Nat := 33) (sup : Nat := 0) (ifs : Array Nat := #[]) (fds : Array FieldInfo := #[]) : ClassFile where
  minorVersion := 0
  majorVersion := 65
  constantPool := pool
  accessFlags := fl
  thisClass := this
  superClass := sup
  interfaces := ifs
  fields := fds
  methods := ms
  attributes := attrs
def plain (name : String) (sup : Option ClassId) : Class where
  name := name
  kind := .ordinary
  loader := none
  accessFlags := 33
  super := sup
  interfaces := #[]
  cf := none
  fields := #[]
  methods := #[]
  instanceTypes := #[]
  staticTypes := #[]
  resolved := #[]
  callSites := []
  init := .initialized
  statics := none
  mirror := none

def pool0 : Array CpInfo := pool [(5, u "<init>"), (0, u "()V"), (1, .class_ 10), (1, u "java/lang/Object")] 113

def k0m0 : Method := { name := "<init>", desc := "()V", sig := { parameters := [], returnType := none }, accessFlags := 1, code := none }
/-- java/lang/Object -/
def k0 : Class := { plain "java/lang/Object" none with
  accessFlags := 33
  interfaces := #[]
  cf := some (fileOf pool0 8 #[] #[{ accessFlags := 1, nameIndex := 5, descriptorIndex := 6, attributes := #[] }] 33 0 #[] #[])
  fields := #[]
  methods := #[k0m0]
  instanceTypes := #[]
  staticTypes := #[]
  resolved := Array.replicate 124 none
  statics := none }

def pool1 : Array CpInfo := pool [(2, .class_ 4), (1, u "java/lang/Object"), (0, u "<init>"), (0, u "()V"), (0, .methodref 8 9), (0, .class_ 10), (0, .nameAndType 11 12), (0, u "com/example/tree_for_markup/treeformarkup/RepeatedRunsMayRepeatPinLaw"), (0, u "draw"), (0, u "(IIJI)C"), (0, .integer 2147483647), (0, .methodref 8 15), (0, .nameAndType 16 17), (0, u "at"), (0, u "([CIII)Z"), (0, .methodref 19 20), (0, .class_ 21), (0, .nameAndType 22 23), (0, u "com/example/tree_for_markup/treeformarkup/RepeatedRuns"), (0, u "mayRepeat"), (0, u "([CII)Z"), (3, u "law"), (0, u "(IJJII)Z")] 4

def k1m0 : Method := { name := "<init>", desc := "()V", sig := { parameters := [], returnType := none }, accessFlags := 1, code := none }
def k1c1 : Code := { maxStack := 4, maxLocals := 6, code := method_2_code, exceptionTable := #[], attributes := #[] }
def k1m1 : Method := { name := "draw", desc := "(IIJI)C", sig := { parameters := [.int, .int, .long, .int], returnType := some .char }, accessFlags := 10, code := some k1c1 }
def k1c2 : Code := { maxStack := 3, maxLocals := 4, code := method_3_code, exceptionTable := #[], attributes := #[] }
def k1m2 : Method := { name := "at", desc := "([CIII)Z", sig := { parameters := [(.array .char), .int, .int, .int], returnType := some .boolean }, accessFlags := 10, code := some k1c2 }
def k1c3 : Code := { maxStack := 7, maxLocals := 12, code := code, exceptionTable := #[], attributes := #[] }
def k1m3 : Method := { name := "law", desc := "(IJJII)Z", sig := { parameters := [.int, .long, .long, .int, .int], returnType := some .boolean }, accessFlags := 9, code := some k1c3 }
/-- com/example/tree_for_markup/treeformarkup/RepeatedRunsMayRepeatPinLaw -/
def k1 : Class := { plain "com/example/tree_for_markup/treeformarkup/RepeatedRunsMayRepeatPinLaw" (some 0) with
  accessFlags := 49
  interfaces := #[]
  cf := some (fileOf pool1 8 #[] #[{ accessFlags := 1, nameIndex := 5, descriptorIndex := 6, attributes := #[] }, { accessFlags := 10, nameIndex := 11, descriptorIndex := 12, attributes := #[] }, { accessFlags := 10, nameIndex := 16, descriptorIndex := 17, attributes := #[] }, { accessFlags := 9, nameIndex := 27, descriptorIndex := 28, attributes := #[] }] 49 2 #[] #[])
  fields := #[]
  methods := #[k1m0, k1m1, k1m2, k1m3]
  instanceTypes := #[]
  staticTypes := #[]
  resolved := Array.replicate 33 none
  statics := none }

def pool2 : Array CpInfo := pool [(2, .class_ 4), (1, u "java/lang/Object"), (0, u "<init>"), (0, u "()V"), (1, .class_ 10), (1, u "com/example/tree_for_markup/treeformarkup/RepeatedRuns"), (0, u "kept"), (0, u "[C"), (2, u "mayRepeat"), (0, u "([CII)Z"), (2, u "ends"), (0, u "Lcom/example/tree_for_markup/treeformarkup/RepeatedRuns$PartEnds;"), (1, .class_ 24), (1, u "com/example/tree_for_markup/treeformarkup/RepeatedRuns$PartEnds"), (3, .class_ 30), (1, u "com/example/tree_for_markup/treeformarkup/RepeatedRuns$Ends"), (1, u "I"), (4, .class_ 39), (1, u "com/example/tree_for_markup/treeformarkup/RepeatedRuns$Phase"), (1, u "Lcom/example/tree_for_markup/treeformarkup/RepeatedRuns$Phase;"), (2, u "phase"), (2, u "runStart"), (0, u "J"), (2, u "keptLength")] 88

def k2m0 : Method := { name := "<init>", desc := "()V", sig := { parameters := [], returnType := none }, accessFlags := 0, code := none }
def k2c1 : Code := { maxStack := 3, maxLocals := 4, code := prog_34_method_3_code, exceptionTable := #[], attributes := #[] }
def k2m1 : Method := { name := "mayRepeat", desc := "([CII)Z", sig := { parameters := [(.array .char), .int, .int], returnType := some .boolean }, accessFlags := 8, code := some k2c1 }
/-- com/example/tree_for_markup/treeformarkup/RepeatedRuns -/
def k2 : Class := { plain "com/example/tree_for_markup/treeformarkup/RepeatedRuns" (some 0) with
  accessFlags := 48
  interfaces := #[]
  cf := some (fileOf pool2 8 #[.nestMembers #[28, 22, 37]] #[{ accessFlags := 0, nameIndex := 5, descriptorIndex := 6, attributes := #[] }, { accessFlags := 8, nameIndex := 15, descriptorIndex := 16, attributes := #[] }] 48 2 #[] #[{ accessFlags := 2, nameIndex := 11, descriptorIndex := 12, attributes := #[] }, { accessFlags := 2, nameIndex := 51, descriptorIndex := 32, attributes := #[] }, { accessFlags := 2, nameIndex := 19, descriptorIndex := 20, attributes := #[] }, { accessFlags := 2, nameIndex := 44, descriptorIndex := 41, attributes := #[] }, { accessFlags := 2, nameIndex := 47, descriptorIndex := 48, attributes := #[] }])
  fields := #[{ name := "kept", type := (.array .char), accessFlags := 2, slot := 0, constantValue := 0 }, { name := "keptLength", type := .int, accessFlags := 2, slot := 1, constantValue := 0 }, { name := "ends", type := (.object "com/example/tree_for_markup/treeformarkup/RepeatedRuns$PartEnds"), accessFlags := 2, slot := 2, constantValue := 0 }, { name := "phase", type := (.object "com/example/tree_for_markup/treeformarkup/RepeatedRuns$Phase"), accessFlags := 2, slot := 3, constantValue := 0 }, { name := "runStart", type := .long, accessFlags := 2, slot := 4, constantValue := 0 }]
  methods := #[k2m0, k2m1]
  instanceTypes := #[(.array .char), .int, (.object "com/example/tree_for_markup/treeformarkup/RepeatedRuns$PartEnds"), (.object "com/example/tree_for_markup/treeformarkup/RepeatedRuns$Phase"), .long]
  staticTypes := #[]
  resolved := Array.replicate 140 none
  statics := none }

def pool3 : Array CpInfo := pool [(1, u "java/lang/Cloneable"), (0, .class_ 1), (0, u "java/lang/Object"), (0, .class_ 3)] 3

/-- java/lang/Cloneable -/
def k3 : Class := { plain "java/lang/Cloneable" (some 0) with
  accessFlags := 1537
  interfaces := #[]
  cf := some (fileOf pool3 2 #[] #[] 1537 4 #[] #[])
  fields := #[]
  methods := #[]
  instanceTypes := #[]
  staticTypes := #[]
  resolved := Array.replicate 8 none
  statics := none }

def pool4 : Array CpInfo := pool [(1, u "java/io/Serializable"), (0, .class_ 1), (0, u "java/lang/Object"), (0, .class_ 3)] 3

/-- java/io/Serializable -/
def k4 : Class := { plain "java/io/Serializable" (some 0) with
  accessFlags := 1537
  interfaces := #[]
  cf := some (fileOf pool4 2 #[] #[] 1537 4 #[] #[])
  fields := #[]
  methods := #[]
  instanceTypes := #[]
  staticTypes := #[]
  resolved := Array.replicate 8 none
  statics := none }

/-- the primitive byte -/
def k5 : Class := { plain "byte" none with kind := .primitive 'B', accessFlags := 0x411 }
/-- [B -/
def k6 : Class := { plain "[B" (some 0) with kind := .array 5 .byte, interfaces := #[3, 4], accessFlags := 1041 }

/-- the primitive char -/
def k7 : Class := { plain "char" none with kind := .primitive 'C', accessFlags := 0x411 }
/-- [C -/
def k8 : Class := { plain "[C" (some 0) with kind := .array 7 .char, interfaces := #[3, 4], accessFlags := 1041 }

/-- the primitive int -/
def k9 : Class := { plain "int" none with kind := .primitive 'I', accessFlags := 0x411 }
/-- [I -/
def k10 : Class := { plain "[I" (some 0) with kind := .array 9 .int, interfaces := #[3, 4], accessFlags := 1041 }

def heap : Heap := #[]
def classes : Array Class := #[k0, k1, k2, k3, k4, k5, k6, k7, k8, k9, k10]
def interned : List (Array UInt16 × Addr) := []
def slotsUsed : Nat := 0
def theMethod : MethodId := ⟨1, 3⟩
def args0 : Array Value := #[.int 5, .long 93, .long 3, .int 1, .int 3]
def aboutOver (below : List Frame) : State where
  vm := { classes := classes, interned := interned.toArray }
  heap := heap
  slotsUsed := slotsUsed
  threads := #[{ frames := .invoking theMethod args0 :: below }]
def below0 : List Frame := [.native { method := ⟨0, 0⟩, args := #[] }]
def about1 : State := aboutOver below0
def p0 : Program := .bare "" "" ""
def e0 : Env := launch0.env 0 0 0
theorem w_frames : about1.frames = Frame.invoking theMethod args0 :: below0 := rfl
set_option maxRecDepth 65536 in
theorem w_args : argsFit about1.vm theMethod args0 = true := by decide +kernel
set_option maxRecDepth 65536 in
theorem w_heap : heapFits about1 = true := by decide +kernel
set_option maxRecDepth 65536 in
theorem w_runnable : about1.curStatus? = some .runnable := by decide +kernel
set_option maxRecDepth 65536 in
theorem w_alone : about1.alone = true := by decide +kernel
set_option maxRecDepth 65536 in
theorem w_named : about1.methodNamed? x = some theMethod := by decide +kernel
set_option maxRecDepth 65536 in
theorem w_hears : about1.hears theMethod below0 = true := by decide +kernel
set_option maxRecDepth 65536 in
theorem w_ripe : about1.ripe theMethod args0 below0 = true := by decide +kernel
theorem w_running : about1.status = .running := rfl
set_option maxRecDepth 65536 in
theorem w_room : about1.hasRoom e0.platform room_1 = true :=
  launch0.hasRoom_least _ room_1 (by decide +kernel) (by decide +kernel) (by decide +kernel) (by decide +kernel) (by decide +kernel) (by decide +kernel)
theorem allAtoms_all (ts : List Jvm.Cond) (a : Array Jvm.Value) (st : Jvm.State) : (allAtoms ts).before a st = ts.all (fun c => c.before a st) := by
  induction ts with
  | nil => rfl
  | cons c t ih =>
    show (Jvm.Cond.and c (allAtoms t)).before a st = _
    rw [Jvm.Cond.before_and, ih, List.all_cons]
def words1 : List Jvm.Cond := Jvm.Cond.code x code maxLocals ret :: tables_1
/-- a 'code' word, met by the world's own term for the bytes: nothing is compared byte by byte -/
theorem code_word {y : MethodName} {bytes : ByteArray} {mx : Nat} {rt : Option FieldType} {a : Array Value} {s : State} {m : MethodId} {meth : Method} {c : Code} (h1 : s.methodNamed? y = some m) (h2 : s.vm.method? m = some meth) (h3 : meth.code = some c) (h4 : c.code = bytes)
    (h5 : (c.maxLocals == mx && c.exceptionTable.isEmpty && decide (c.maxStack ≤ mostOperands) && decide (meth.sig.returnType = rt) && !meth.locks && decide (parseMethodDescriptor y.desc = some meth.sig)) = true) : (Jvm.Cond.code y bytes mx rt).before a s = true := by
  simp only [Bool.and_eq_true, beq_iff_eq, Bool.not_eq_true', decide_eq_true_eq] at h5
  obtain ⟨⟨⟨⟨⟨g1, g2⟩, g3⟩, g4⟩, g5⟩, g6⟩ := h5
  simp [Cond.before, Cond.holds, Cond.value, h1, h2, h3, h4, g1, g2, g3, g4, g5, g6]
def isCode : Jvm.Cond → Bool
  | .code _ _ _ _ => true
  | _ => false
theorem all_split {L : List Jvm.Cond} {P : Jvm.Cond → Bool} (h1 : L.all (fun c => isCode c || P c) = true) (h2 : ∀ c ∈ L.filter isCode, P c = true) : L.all P = true := by
  refine List.all_eq_true.mpr fun c hc => ?_
  have h := List.all_eq_true.mp h1 c hc
  rcases Bool.eq_false_or_eq_true (isCode c) with hi | hi
  · exact h2 c (List.mem_filter.mpr ⟨hc, hi⟩)
  · simpa [hi] using h
set_option maxRecDepth 65536 in
theorem w_c0 : (Jvm.Cond.code x code maxLocals ret).before args0 about1 = true := code_word (m := ⟨1, 3⟩) (meth := k1m3) (c := k1c3) (by decide +kernel) rfl rfl rfl (by decide +kernel)
set_option maxRecDepth 65536 in
theorem w_c1 : (Jvm.Cond.code ({ cls := "com/example/tree_for_markup/treeformarkup/RepeatedRunsMayRepeatPinLaw", name := "draw", desc := "(IIJI)C" } : Jvm.MethodName) method_2_code (6 : Nat) (Option.some Jvm.ClassFile.FieldType.char)).before args0 about1 = true := code_word (m := ⟨1, 1⟩) (meth := k1m1) (c := k1c1) (by decide +kernel) rfl rfl rfl (by decide +kernel)
set_option maxRecDepth 65536 in
theorem w_c2 : (Jvm.Cond.code ({ cls := "com/example/tree_for_markup/treeformarkup/RepeatedRunsMayRepeatPinLaw", name := "at", desc := "([CIII)Z" } : Jvm.MethodName) method_3_code (4 : Nat) (Option.some Jvm.ClassFile.FieldType.boolean)).before args0 about1 = true := code_word (m := ⟨1, 2⟩) (meth := k1m2) (c := k1c2) (by decide +kernel) rfl rfl rfl (by decide +kernel)
set_option maxRecDepth 65536 in
theorem w_c3 : (Jvm.Cond.code ({ cls := "com/example/tree_for_markup/treeformarkup/RepeatedRuns", name := "mayRepeat", desc := "([CII)Z" } : Jvm.MethodName) prog_34_method_3_code (4 : Nat) (Option.some Jvm.ClassFile.FieldType.boolean)).before args0 about1 = true := code_word (m := ⟨2, 1⟩) (meth := k2m1) (c := k2c1) (by decide +kernel) rfl rfl rfl (by decide +kernel)
def codes1 : List Jvm.Cond := [Jvm.Cond.code x code maxLocals ret, Jvm.Cond.code ({ cls := "com/example/tree_for_markup/treeformarkup/RepeatedRunsMayRepeatPinLaw", name := "draw", desc := "(IIJI)C" } : Jvm.MethodName) method_2_code (6 : Nat) (Option.some Jvm.ClassFile.FieldType.char), Jvm.Cond.code ({ cls := "com/example/tree_for_markup/treeformarkup/RepeatedRunsMayRepeatPinLaw", name := "at", desc := "([CIII)Z" } : Jvm.MethodName) method_3_code (4 : Nat) (Option.some Jvm.ClassFile.FieldType.boolean), Jvm.Cond.code ({ cls := "com/example/tree_for_markup/treeformarkup/RepeatedRuns", name := "mayRepeat", desc := "([CII)Z" } : Jvm.MethodName) prog_34_method_3_code (4 : Nat) (Option.some Jvm.ClassFile.FieldType.boolean)]
set_option maxRecDepth 65536 in
theorem codes_eq : words1.filter isCode = codes1 := rfl
theorem w_codes : ∀ c ∈ words1.filter isCode, c.before args0 about1 = true := by
  rw [codes_eq]
  intro c hc
  simp only [codes1, List.mem_cons, List.not_mem_nil, or_false] at hc
  rcases hc with rfl | rfl | rfl | rfl
  · exact w_c0
  · exact w_c1
  · exact w_c2
  · exact w_c3
set_option maxRecDepth 65536 in
theorem w_t1 : words1.all (fun c => isCode c || c.before args0 about1) = true := by decide +kernel
theorem w_tables : (allAtoms (Jvm.Cond.code x code maxLocals ret :: tables_1)).before args0 about1 = true := by
  rw [allAtoms_all]
  show words1.all (fun c => c.before args0 about1) = true
  refine all_split ?_ w_codes
  rw [w_t1]
set_option maxRecDepth 65536 in
theorem w_case : (Jvm.Cond.and given_1 narrow_1).before args0 about1 = true := by decide +kernel
theorem w_applies : (headSpec (Jvm.Cond.code x code maxLocals ret :: tables_1) room_1).applies x e0.platform about1 = true :=
  (Spec.applies_iff w_frames).mpr ⟨w_running, w_runnable, w_alone, w_named, w_hears, w_ripe, w_room, w_tables⟩
theorem atStart : AtStart classFile x code maxLocals ret World_1 tables_1 room_1 Calls_1 rest_1 Pre_1 launch0 p0 e0 about1 theMethod args0 below0 :=
  ⟨lists_1, trivial, launch0.admits_env _ _ _, launch0.least_env, fairChoices_fair.cas, fairChoices_fair.clock, w_frames, w_args, w_heap, w_applies, trivial, trivial, w_case⟩
end start1
theorem witness_1 : WitnessClaimed_1 := ⟨start1.p0, start1.e0, start1.about1, start1.theMethod, start1.args0, start1.below0, start1.atStart⟩
end Jvm.Pilot.@@N@@
