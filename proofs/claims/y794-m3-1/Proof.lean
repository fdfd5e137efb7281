import JvmDerived
import JvmDerived.Pilot.@@N@@Statement
import JvmDerived.Pilot.@@N@@Code
set_option linter.unusedVariables false
set_option linter.unusedSimpArgs false

namespace Jvm.Sy
open Jvm Jvm.ClassFile Sem Op Lib Jvm.Free Jvm.Stand Jvm.LawKit Jvm.RoadKit Bundle

/-! ## 1. Abstract values, objects, heaps -/
abbrev WKey := String × String × String
abbrev WObj := (FieldType × List Value) ⊕ (String × List (WKey × Value))
abbrev WHp := List WObj
def gv (ρ : Nat → Nat) : Value → Value
  | .ref a => .ref (ρ a)
  | .int x => .int x
  | .long x => .long x
  | .float x => .float x
  | .double x => .double x
  | .null => .null
  | .retAddr q => .retAddr q
def gs (ρ : Nat → Nat) : Slot → Slot
  | .val v => .val (gv ρ v)
  | .unset => .unset
  | .second => .second
def gS (ρ : Nat → Nat) (S : List Value) : List Value := S.map (gv ρ)
def gL (ρ : Nat → Nat) (L : List Slot) : Array Slot := (L.map (gs ρ)).toArray
section Vals
variable {ρ : Nat → Nat} {v : Value} {ty : FieldType}
theorem cat_gv : (gv ρ v).category = v.category := by cases v <;> rfl
theorem isRef_gv : (gv ρ v).isRef = v.isRef := by cases v <;> rfl
theorem fits_gv : fits ty (gv ρ v) = fits ty v := by cases ty <;> cases v <;> rfl
theorem narrow_gv : narrow ty (gv ρ v) = gv ρ (narrow ty v) := by cases ty <;> cases v <;> rfl
theorem dv_gv : gv ρ (defaultValue ty) = defaultValue ty := by cases ty <;> rfl
theorem gv_inj (h : ∀ i j, ρ i = ρ j → i = j) {w : Value} (e : gv ρ v = gv ρ w) : v = w := by
  cases v <;> cases w <;> simp [gv] at e ⊢ <;> first | exact e | exact h _ _ e
theorem sum_gS (S : List Value) : ((gS ρ S).map fun v => v.category).sum = (S.map Value.category).sum := by
  induction S with
  | nil => rfl
  | cons a t ih => simp only [gS, List.map_cons, List.sum_cons, cat_gv] at ih ⊢; rw [ih]
theorem gL_get (L : List Slot) (k : Nat) : (gL ρ L)[k]? = (L[k]?).map (gs ρ) := by simp [gL]
theorem gL_val {L : List Slot} {k : Nat} (h : L[k]? = some (.val v)) : (gL ρ L)[k]? = some (.val (gv ρ v)) := by rw [gL_get, h]; rfl
theorem gL_size (L : List Slot) : (gL ρ L).size = L.length := by simp [gL]
end Vals
def ArrOk (Z : State) (ρ : Nat → Nat) (h : Heap) (a : Addr) (ty : FieldType) (vs : List Value) : Prop :=
  ∃ cl : Cell, Arr Z h a cl ty ∧ cl.slots.toList = vs.map (gv ρ) ∧ (∀ C, ty = .object C → Ovr Z cl.cls C) ∧ ∀ v ∈ vs, fits ty v = true
def ObjOk (Z : State) (ρ : Nat → Nat) (h : Heap) (a : Addr) (C : String) (fs : List (WKey × Value)) : Prop :=
  Exa Z h a C ∧ (∀ (i : Nat) (O n d : String) (v : Value), fs[i]? = some ((O, n, d), v) → Fld Z h a O n d (gv ρ v)) ∧
    ∀ (i j : Nat) (k1 k2 : WKey) (v1 v2 : Value), i ≠ j → fs[i]? = some (k1, v1) → fs[j]? = some (k2, v2) → RoadKit.slotOf Z k1.1 k1.2.1 k1.2.2 ≠ RoadKit.slotOf Z k2.1 k2.2.1 k2.2.2
def CellOk (Z : State) (ρ : Nat → Nat) (h : Heap) (a : Addr) : WObj → Prop
  | .inl q => ArrOk Z ρ h a q.1 q.2
  | .inr q => ObjOk Z ρ h a q.1 q.2
def WDen (Z : State) (ρ : Nat → Nat) (n0 : Nat) (σ : WHp) (h : Heap) : Prop :=
  h.size = n0 + σ.length ∧ σ.length ≤ 1000 ∧ ∀ (k : Nat) (o : WObj), σ[k]? = some o → CellOk Z ρ h (n0 + k) o
section Heaps
variable {Z : State} {ρ : Nat → Nat} {h h' : Heap} {a b : Addr} {o : WObj} {n0 k sl : Nat} {σ : WHp} {v : Value}
theorem CellOk.ext (F : CellOk Z ρ h a o) (E : Ext h h') : CellOk Z ρ h' a o := by
  rcases o with ⟨ty, vs⟩ | ⟨C, fs⟩
  · obtain ⟨cl, A, r⟩ := F; exact ⟨cl, A.ext E, r⟩
  · obtain ⟨F1, F2, F3⟩ := F; exact ⟨F1.ext E, fun i O n d v q => (F2 i O n d v q).ext E, F3⟩
theorem CellOk.other (F : CellOk Z ρ h b o) (W : Wr h h' a sl v) (q : b ≠ a) : CellOk Z ρ h' b o := by
  rcases o with ⟨ty, vs⟩ | ⟨C, fs⟩
  · obtain ⟨cl, A, r⟩ := F; exact ⟨cl, A.other W q, r⟩
  · obtain ⟨F1, F2, F3⟩ := F; exact ⟨F1.wr W, fun i O n d v y => (F2 i O n d v y).other W (Or.inl q), F3⟩
theorem WDen.push (D : WDen Z ρ n0 σ h) (E : Ext h h') (hs : h'.size = h.size + 1) (hl : σ.length < 1000) (F : CellOk Z ρ h' (n0 + σ.length) o) : WDen Z ρ n0 (σ ++ [o]) h' := by
  obtain ⟨D1, D2, D3⟩ := D
  refine ⟨by rw [hs, D1]; simp [Nat.add_assoc], by simp; omega, fun k o' hk => ?_⟩
  by_cases q : k < σ.length
  · rw [List.getElem?_append_left q] at hk; exact (D3 k o' hk).ext E
  · rw [List.getElem?_append_right (by omega)] at hk
    have e : k - σ.length = 0 := by
      rcases Nat.eq_zero_or_pos (k - σ.length) with z | z
      · exact z
      · rw [List.getElem?_eq_none (by simp; omega)] at hk; cases hk
    rw [e] at hk
    cases hk
    have e2 : k = σ.length := by omega
    rw [e2]; exact F
theorem WDen.put (D : WDen Z ρ n0 σ h) (W : Wr h h' (n0 + k) sl v) (F : CellOk Z ρ h' (n0 + k) o) : WDen Z ρ n0 (σ.set k o) h' := by
  obtain ⟨D1, D2, D3⟩ := D
  refine ⟨by rw [W.size, D1]; simp, by simp; exact D2, fun j o' hj => ?_⟩
  by_cases q : j = k
  · subst q
    rw [List.getElem?_set] at hj
    simp only [if_true] at hj
    split at hj
    · cases hj; exact F
    · cases hj
  · rw [List.getElem?_set_ne (Ne.symm q)] at hj
    exact (D3 j o' hj).other W fun e => q (Nat.add_left_cancel e)
theorem WDen.lt (D : WDen Z ρ n0 σ h) (hk : σ[k]? = some o) : k < 1000 := by
  have := (List.getElem?_eq_some_iff.mp hk).1
  have := D.2.1
  omega
theorem ArrOk.size {ty : FieldType} {vs : List Value} {cl : Cell} (e : cl.slots.toList = vs.map (gv ρ)) : cl.slots.size = vs.length := by
  have := congrArg List.length e
  simpa using this
theorem ArrOk.at {vs : List Value} {cl : Cell} (e : cl.slots.toList = vs.map (gv ρ)) {i : Nat} {w : Value} (hw : vs[i]? = some w) : cl.slots[i]? = some (gv ρ w) := by
  rw [← Array.getElem?_toList, e, List.getElem?_map, hw]; rfl
theorem ArrOk.set {ty : FieldType} {vs : List Value} {cl : Cell} (A : Arr Z h a cl ty) (e : cl.slots.toList = vs.map (gv ρ)) (hO : ∀ C, ty = .object C → Ovr Z cl.cls C) (hf : ∀ v ∈ vs, fits ty v = true) {i : Nat} {w : Value} (W : Wr h h' a i (gv ρ w)) (hw : fits ty w = true) : ArrOk Z ρ h' a ty (vs.set i w) := by
  refine ⟨cl.setSlot i (gv ρ w), A.same W, ?_, hO, fun y hy => ?_⟩
  · show (cl.slots.setIfInBounds i (gv ρ w)).toList = _
    rw [Array.toList_setIfInBounds, e, List.map_set]
  · rcases List.mem_or_eq_of_mem_set hy with q | q
    · exact hf y q
    · rw [q]; exact hw
end Heaps
/-! ## 2. A method's walk -/
abbrev WMC := (State × (Nat → Nat) × Nat) × (String × ByteArray × String × Option FieldType × Nat) × (Nat × Nat × Nat × Nat)
abbrev WMC.Z (G : WMC) : State := G.1.1
abbrev WMC.ρ (G : WMC) : Nat → Nat := G.1.2.1
abbrev WMC.n0 (G : WMC) : Nat := G.1.2.2
abbrev WMC.own (G : WMC) : String := G.2.1.1
abbrev WMC.bytes (G : WMC) : ByteArray := G.2.1.2.1
abbrev WMC.nm (G : WMC) : String := G.2.1.2.2.1
abbrev WMC.ret (G : WMC) : Option FieldType := G.2.1.2.2.2.1
abbrev WMC.ml (G : WMC) : Nat := G.2.1.2.2.2.2
abbrev WMC.j0 (G : WMC) : Nat := G.2.2.1
abbrev WMC.u0 (G : WMC) : Nat := G.2.2.2.1
abbrev WMC.fr (G : WMC) : Nat := G.2.2.2.2.1
abbrev WMC.lo (G : WMC) : Nat := G.2.2.2.2.2
abbrev WCfg := Nat × List Slot × List Value × WHp × Nat
def frm (G : WMC) (m : MethodId) (A : WCfg) : JFrame := mkF m A.1 (gL G.ρ A.2.1) (gS G.ρ A.2.2.1)
def WCtx (G : WMC) (p : Program) (R : Room) (s : State) (m : MethodId) (meth : Method) (c : Code) : Prop :=
  p.tables.exec = Jvm.exec ∧ c.code = G.bytes ∧ G.Z.Warmed39 s.vm ∧ s.vm.findClass G.own = some m.cls ∧ meth.name = G.nm ∧ meth.sig.returnType = G.ret ∧ c.maxLocals = G.ml ∧ s.heap.size = G.n0 + G.j0 ∧ (∀ k, k < 1000 → G.ρ k = G.n0 + k) ∧ (∀ i j, G.ρ i = G.ρ j → i = j) ∧ G.fr ≤ R.frames ∧ G.lo ≤ R.locals
def WHere (G : WMC) (p : Program) (l : Launch) (e : Env) (R : Room) (s : State) (m : MethodId) (args : Array Value) (below : List Frame) (meth : Method) (c : Code) (σ : WHp) (u : Nat) (T : State) : Prop :=
  ∃ locs ce sl, σ.length = G.j0 + ce ∧ u = G.u0 + sl ∧ Stand p l e R s m args below meth c T locs ce sl ∧ WDen G.Z G.ρ G.n0 σ T.heap ∧ Fr G.n0 locs
def WStep (G : WMC) (A B : WCfg) : Prop :=
  A.2.2.2.1.length ≤ B.2.2.2.1.length ∧ A.2.2.2.2 ≤ B.2.2.2.2 ∧
  ∀ (p : Program) (l : Launch) (e : Env) (R : Room) (s : State) (m : MethodId) (args : Array Value) (below : List Frame) (meth : Method) (c : Code),
    WCtx G p R s m meth c → B.2.2.2.1.length ≤ G.j0 + R.cells → B.2.2.2.2 ≤ G.u0 + R.slots →
    ∀ T, WHere G p l e R s m args below meth c A.2.2.2.1 A.2.2.2.2 T →
      ∃ T', WHere G p l e R s m args below meth c B.2.2.2.1 B.2.2.2.2 T' ∧
        ∀ target, Steps p.tables e below (T'.setTop (frm G m B)) target → Steps p.tables e below (T.setTop (frm G m A)) target
def WRun (G : WMC) (A : WCfg) (v : Option Value) (σ' : WHp) (u' : Nat) : Prop :=
  A.2.2.2.1.length ≤ σ'.length ∧ A.2.2.2.2 ≤ u' ∧ (G.ret = none → v = none) ∧
  ∀ (p : Program) (l : Launch) (e : Env) (R : Room) (s : State) (m : MethodId) (args : Array Value) (below : List Frame) (meth : Method) (c : Code),
    WCtx G p R s m meth c → σ'.length ≤ G.j0 + R.cells → u' ≤ G.u0 + R.slots →
    ∀ T, WHere G p l e R s m args below meth c A.2.2.2.1 A.2.2.2.2 T →
      ∃ T', WHere G p l e R s m args below meth c σ' u' T' ∧
        ∀ fs, (∀ (f : JFrame) (acts : List Action), f.method = m → f.locked = none → f.entered = [] → (doReturn e (T'.setTop f) acts (v.map (gv G.ρ))).1 = T'.setFrames fs) →
          Steps p.tables e below (T.setTop (frm G m A)) (T'.setFrames fs)
def WGo (G : WMC) (A : WCfg) (Q : Option Value → WHp → Nat → Prop) : Prop := ∃ v σ' u', Q v σ' u' ∧ WRun G A v σ' u'
def AtI (bytes : ByteArray) (pc : Nat) (i : Instr) (len nx : Nat) : Prop := decode bytes pc = .ok (i, len) ∧ pc + len = nx
def AtJ (bytes : ByteArray) (pc : Nat) (f : Int → Instr) (nx tgt : Nat) : Prop := ∃ o : Int, decode bytes pc = .ok (f o, 3) ∧ pc + 3 = nx ∧ 0 ≤ (pc : Int) + o ∧ ((pc : Int) + o).toNat = tgt
section Walk
variable {G : WMC} {A B C : WCfg} {Q Q' : Option Value → WHp → Nat → Prop}
theorem WStep.refl (A : WCfg) : WStep G A A := ⟨Nat.le_refl _, Nat.le_refl _, fun _ _ _ _ _ _ _ _ _ _ _ _ _ T hT => ⟨T, hT, fun _ k => k⟩⟩
theorem WStep.trans (h1 : WStep G A B) (h2 : WStep G B C) : WStep G A C := by
  obtain ⟨a1, a2, a3⟩ := h1
  obtain ⟨b1, b2, b3⟩ := h2
  refine ⟨Nat.le_trans a1 b1, Nat.le_trans a2 b2, fun p l e R s m args below meth c hC hc hs T hT => ?_⟩
  obtain ⟨T1, hT1, k1⟩ := a3 p l e R s m args below meth c hC (Nat.le_trans b1 hc) (Nat.le_trans b2 hs) T hT
  obtain ⟨T2, hT2, k2⟩ := b3 p l e R s m args below meth c hC hc hs T1 hT1
  exact ⟨T2, hT2, fun t k => k1 t (k2 t k)⟩
theorem WRun.s {v : Option Value} {σ' : WHp} {u' : Nat} (h1 : WStep G A B) (h2 : WRun G B v σ' u') : WRun G A v σ' u' := by
  obtain ⟨a1, a2, a3⟩ := h1
  obtain ⟨b1, b2, b0, b3⟩ := h2
  refine ⟨Nat.le_trans a1 b1, Nat.le_trans a2 b2, b0, fun p l e R s m args below meth c hC hc hs T hT => ?_⟩
  obtain ⟨T1, hT1, k1⟩ := a3 p l e R s m args below meth c hC (Nat.le_trans b1 hc) (Nat.le_trans b2 hs) T hT
  obtain ⟨T2, hT2, k2⟩ := b3 p l e R s m args below meth c hC hc hs T1 hT1
  exact ⟨T2, hT2, fun fs h => k1 _ (k2 fs h)⟩
theorem WGo.s (h1 : WStep G A B) (h2 : WGo G B Q) : WGo G A Q := by
  obtain ⟨v, σ', u', q, r⟩ := h2
  exact ⟨v, σ', u', q, r.s h1⟩
theorem WGo.mono (h1 : WGo G A Q) (h : ∀ v σ' u', Q v σ' u' → Q' v σ' u') : WGo G A Q' := by
  obtain ⟨v, σ', u', q, r⟩ := h1
  exact ⟨v, σ', u', h _ _ _ q, r⟩
theorem WGo.cast {A' : WCfg} (h : WGo G A' Q) (e : A = A') : WGo G A Q := e ▸ h
/-- a step that touches neither the heap nor the tables -/
theorem WStep.pure {pc nx : Nat} {L L' : List Slot} {S S' : List Value} {σ : WHp} {u : Nat}
    (h : ∀ {p : Program} {e : Env} {below : List Frame} {T target : State} {m : MethodId} {c : Code}, At T m c below → p.tables.exec = Jvm.exec → c.code = G.bytes → (∀ i j, G.ρ i = G.ρ j → i = j) →
      Steps p.tables e below (T.setTop (mkF m nx (gL G.ρ L') (gS G.ρ S'))) target → Steps p.tables e below (T.setTop (mkF m pc (gL G.ρ L) (gS G.ρ S))) target) :
    WStep G (pc, L, S, σ, u) (nx, L', S', σ, u) := by
  refine ⟨Nat.le_refl _, Nat.le_refl _, fun p l e R s m args below meth c hC hc hs T hT => ⟨T, hT, fun target k => ?_⟩⟩
  obtain ⟨locs, ce, sl, h1, h2, X, D, N⟩ := hT
  exact h X.here hC.1 hC.2.1 hC.2.2.2.2.2.2.2.2.2.1 k
end Walk
end Jvm.Sy
namespace Jvm.Sy
open Jvm Jvm.ClassFile Sem Op Lib Jvm.Free Jvm.Stand Jvm.LawKit Jvm.RoadKit Bundle
section Pure
variable {G : WMC} {pc nx tgt u : Nat} {L L' : List Slot} {S : List Value} {σ : WHp}
theorem WStep.iload {k : Nat} {x : Int32} (d : AtI G.bytes pc (.iload k) 2 nx) (hl : L[k]? = some (.val (.int x))) : WStep G (pc, L, S, σ, u) (nx, L, .int x :: S, σ, u) := by
  obtain ⟨d, rfl⟩ := d
  exact WStep.pure fun hA hx hby _ k => XS.iload hA hx rfl (hb hby d) (gL_val hl) k
theorem WStep.iloadN {k : Fin 4} {x : Int32} (d : AtI G.bytes pc (.iload_n k) 1 nx) (hl : L[k.val]? = some (.val (.int x))) : WStep G (pc, L, S, σ, u) (nx, L, .int x :: S, σ, u) := by
  obtain ⟨d, rfl⟩ := d
  exact WStep.pure fun hA hx hby _ k => XS.iloadN hA hx rfl (hb hby d) (gL_val hl) k
theorem WStep.lload {k : Nat} {x : Int64} (d : AtI G.bytes pc (.lload k) 2 nx) (hl : L[k]? = some (.val (.long x))) : WStep G (pc, L, S, σ, u) (nx, L, .long x :: S, σ, u) := by
  obtain ⟨d, rfl⟩ := d
  exact WStep.pure fun hA hx hby _ k => XS.lload hA hx rfl (hb hby d) (gL_val hl) k
theorem WStep.lloadN {k : Fin 4} {x : Int64} (d : AtI G.bytes pc (.lload_n k) 1 nx) (hl : L[k.val]? = some (.val (.long x))) : WStep G (pc, L, S, σ, u) (nx, L, .long x :: S, σ, u) := by
  obtain ⟨d, rfl⟩ := d
  exact WStep.pure fun hA hx hby _ k => XS.lloadN hA hx rfl (hb hby d) (gL_val hl) k
theorem WStep.aload {k : Nat} {x : Value} (d : AtI G.bytes pc (.aload k) 2 nx) (hl : L[k]? = some (.val x)) (hr : x.isRef = true) : WStep G (pc, L, S, σ, u) (nx, L, x :: S, σ, u) := by
  obtain ⟨d, rfl⟩ := d
  exact WStep.pure fun hA hx hby _ k => XS.aload hA hx rfl (hb hby d) (gL_val hl) (isRef_gv.trans hr) k
theorem WStep.aloadN {k : Fin 4} {x : Value} (d : AtI G.bytes pc (.aload_n k) 1 nx) (hl : L[k.val]? = some (.val x)) (hr : x.isRef = true) : WStep G (pc, L, S, σ, u) (nx, L, x :: S, σ, u) := by
  obtain ⟨d, rfl⟩ := d
  exact WStep.pure fun hA hx hby _ k => XS.aloadN hA hx rfl (hb hby d) (gL_val hl) (isRef_gv.trans hr) k
theorem WStep.istore {k : Nat} {x : Int32} (d : AtI G.bytes pc (.istore k) 2 nx) (hl : storeLocals (gL G.ρ L) k (.int x) = some (gL G.ρ L')) : WStep G (pc, L, .int x :: S, σ, u) (nx, L', S, σ, u) := by
  obtain ⟨d, rfl⟩ := d
  exact WStep.pure fun hA hx hby _ k => XS.istore hA hx rfl (hb hby d) rfl hl k
theorem WStep.istoreN {k : Fin 4} {x : Int32} (d : AtI G.bytes pc (.istore_n k) 1 nx) (hl : storeLocals (gL G.ρ L) k.val (.int x) = some (gL G.ρ L')) : WStep G (pc, L, .int x :: S, σ, u) (nx, L', S, σ, u) := by
  obtain ⟨d, rfl⟩ := d
  exact WStep.pure fun hA hx hby _ k => XS.istoreN hA hx rfl (hb hby d) rfl hl k
theorem WStep.lstore {k : Nat} {x : Int64} (d : AtI G.bytes pc (.lstore k) 2 nx) (hl : storeLocals (gL G.ρ L) k (.long x) = some (gL G.ρ L')) : WStep G (pc, L, .long x :: S, σ, u) (nx, L', S, σ, u) := by
  obtain ⟨d, rfl⟩ := d
  exact WStep.pure fun hA hx hby _ k => XS.lstore hA hx rfl (hb hby d) rfl hl k
theorem WStep.lstoreN {k : Fin 4} {x : Int64} (d : AtI G.bytes pc (.lstore_n k) 1 nx) (hl : storeLocals (gL G.ρ L) k.val (.long x) = some (gL G.ρ L')) : WStep G (pc, L, .long x :: S, σ, u) (nx, L', S, σ, u) := by
  obtain ⟨d, rfl⟩ := d
  exact WStep.pure fun hA hx hby _ k => XS.lstoreN hA hx rfl (hb hby d) rfl hl k
theorem WStep.astore {k : Nat} {x : Value} (d : AtI G.bytes pc (.astore k) 2 nx) (hr : x.isRef = true) (hl : storeLocals (gL G.ρ L) k (gv G.ρ x) = some (gL G.ρ L')) : WStep G (pc, L, x :: S, σ, u) (nx, L', S, σ, u) := by
  obtain ⟨d, rfl⟩ := d
  exact WStep.pure fun hA hx hby _ k => XS.astore hA hx rfl (hb hby d) rfl (isRef_gv.trans hr) hl k
theorem WStep.astoreN {k : Fin 4} {x : Value} (d : AtI G.bytes pc (.astore_n k) 1 nx) (hr : x.isRef = true) (hl : storeLocals (gL G.ρ L) k.val (gv G.ρ x) = some (gL G.ρ L')) : WStep G (pc, L, x :: S, σ, u) (nx, L', S, σ, u) := by
  obtain ⟨d, rfl⟩ := d
  exact WStep.pure fun hA hx hby _ k => XS.astoreN hA hx rfl (hb hby d) rfl (isRef_gv.trans hr) hl k
theorem WStep.iinc {k : Nat} {cst : Int} {x : Int32} (d : AtI G.bytes pc (.iinc k cst) 3 nx) (hl : L[k]? = some (.val (.int x))) (hl' : storeLocals (gL G.ρ L) k (.int (x + Int32.ofInt cst)) = some (gL G.ρ L')) : WStep G (pc, L, S, σ, u) (nx, L', S, σ, u) := by
  obtain ⟨d, rfl⟩ := d
  exact WStep.pure fun hA hx hby _ k => XS.iinc hA hx rfl (hb hby d) (gL_val hl) hl' k
theorem WStep.iconst {i : Int} (z : Int32) (d : AtI G.bytes pc (.iconst i) 1 nx) (hz : Int32.ofInt i = z) : WStep G (pc, L, S, σ, u) (nx, L, .int z :: S, σ, u) := by
  obtain ⟨d, rfl⟩ := d
  exact WStep.pure fun hA hx hby _ k => by subst hz; exact XS.iconst hA hx rfl (hb hby d) k
theorem WStep.bipush {i : Int} (z : Int32) (d : AtI G.bytes pc (.bipush i) 2 nx) (hz : (Int8.ofInt i).toInt32 = z) : WStep G (pc, L, S, σ, u) (nx, L, .int z :: S, σ, u) := by
  obtain ⟨d, rfl⟩ := d
  exact WStep.pure fun hA hx hby _ k => by subst hz; exact XS.bipush hA hx rfl (hb hby d) k
theorem WStep.sipush {i : Int} (z : Int32) (d : AtI G.bytes pc (.sipush i) 3 nx) (hz : (Int16.ofInt i).toInt32 = z) : WStep G (pc, L, S, σ, u) (nx, L, .int z :: S, σ, u) := by
  obtain ⟨d, rfl⟩ := d
  exact WStep.pure fun hA hx hby _ k => by subst hz; exact XS.sipush hA hx rfl (hb hby d) k
theorem WStep.lconst {i : Fin 2} (z : Int64) (d : AtI G.bytes pc (.lconst i) 1 nx) (hz : Int64.ofNat i = z) : WStep G (pc, L, S, σ, u) (nx, L, .long z :: S, σ, u) := by
  obtain ⟨d, rfl⟩ := d
  exact WStep.pure fun hA hx hby _ k => by subst hz; exact XS.lconst hA hx rfl (hb hby d) k
theorem WStep.aconstNull (d : AtI G.bytes pc .aconst_null 1 nx) : WStep G (pc, L, S, σ, u) (nx, L, .null :: S, σ, u) := by
  obtain ⟨d, rfl⟩ := d
  exact WStep.pure fun hA hx hby _ k => XS.aconstNull hA hx rfl (hb hby d) k
theorem WStep.iadd {x y : Int32} (d : AtI G.bytes pc .iadd 1 nx) : WStep G (pc, L, .int y :: .int x :: S, σ, u) (nx, L, .int (x + y) :: S, σ, u) := by
  obtain ⟨d, rfl⟩ := d
  exact WStep.pure fun hA hx hby _ k => XS.iadd hA hx rfl (hb hby d) rfl k
theorem WStep.isub {x y : Int32} (d : AtI G.bytes pc .isub 1 nx) : WStep G (pc, L, .int y :: .int x :: S, σ, u) (nx, L, .int (x - y) :: S, σ, u) := by
  obtain ⟨d, rfl⟩ := d
  exact WStep.pure fun hA hx hby _ k => XS.isub hA hx rfl (hb hby d) rfl k
theorem WStep.imul {x y : Int32} (d : AtI G.bytes pc .imul 1 nx) : WStep G (pc, L, .int y :: .int x :: S, σ, u) (nx, L, .int (x * y) :: S, σ, u) := by
  obtain ⟨d, rfl⟩ := d
  exact WStep.pure fun hA hx hby _ k => XS.imul hA hx rfl (hb hby d) rfl k
theorem WStep.iand {x y : Int32} (d : AtI G.bytes pc .iand 1 nx) : WStep G (pc, L, .int y :: .int x :: S, σ, u) (nx, L, .int (x &&& y) :: S, σ, u) := by
  obtain ⟨d, rfl⟩ := d
  exact WStep.pure fun hA hx hby _ k => XS.iand hA hx rfl (hb hby d) rfl k
theorem WStep.ior {x y : Int32} (d : AtI G.bytes pc .ior 1 nx) : WStep G (pc, L, .int y :: .int x :: S, σ, u) (nx, L, .int (x ||| y) :: S, σ, u) := by
  obtain ⟨d, rfl⟩ := d
  exact WStep.pure fun hA hx hby _ k => XS.ior hA hx rfl (hb hby d) rfl k
theorem WStep.ixor {x y : Int32} (d : AtI G.bytes pc .ixor 1 nx) : WStep G (pc, L, .int y :: .int x :: S, σ, u) (nx, L, .int (x ^^^ y) :: S, σ, u) := by
  obtain ⟨d, rfl⟩ := d
  exact WStep.pure fun hA hx hby _ k => XS.ixor hA hx rfl (hb hby d) rfl k
theorem WStep.idiv {x y : Int32} (d : AtI G.bytes pc .idiv 1 nx) (hy : y ≠ 0) : WStep G (pc, L, .int y :: .int x :: S, σ, u) (nx, L, .int (x / y) :: S, σ, u) := by
  obtain ⟨d, rfl⟩ := d
  exact WStep.pure fun hA hx hby _ k => XS.idiv hA hx rfl (hb hby d) rfl hy k
theorem WStep.ineg {x : Int32} (d : AtI G.bytes pc .ineg 1 nx) : WStep G (pc, L, .int x :: S, σ, u) (nx, L, .int (-x) :: S, σ, u) := by
  obtain ⟨d, rfl⟩ := d
  exact WStep.pure fun hA hx hby _ k => XS.ineg hA hx rfl (hb hby d) rfl k
theorem WStep.ladd {x y : Int64} (d : AtI G.bytes pc .ladd 1 nx) : WStep G (pc, L, .long y :: .long x :: S, σ, u) (nx, L, .long (x + y) :: S, σ, u) := by
  obtain ⟨d, rfl⟩ := d
  exact WStep.pure fun hA hx hby _ k => XS.ladd hA hx rfl (hb hby d) rfl k
theorem WStep.lsub {x y : Int64} (d : AtI G.bytes pc .lsub 1 nx) : WStep G (pc, L, .long y :: .long x :: S, σ, u) (nx, L, .long (x - y) :: S, σ, u) := by
  obtain ⟨d, rfl⟩ := d
  exact WStep.pure fun hA hx hby _ k => XS.lsub hA hx rfl (hb hby d) rfl k
theorem WStep.lmul {x y : Int64} (d : AtI G.bytes pc .lmul 1 nx) : WStep G (pc, L, .long y :: .long x :: S, σ, u) (nx, L, .long (x * y) :: S, σ, u) := by
  obtain ⟨d, rfl⟩ := d
  exact WStep.pure fun hA hx hby _ k => XS.lmul hA hx rfl (hb hby d) rfl k
theorem WStep.land {x y : Int64} (d : AtI G.bytes pc .land 1 nx) : WStep G (pc, L, .long y :: .long x :: S, σ, u) (nx, L, .long (x &&& y) :: S, σ, u) := by
  obtain ⟨d, rfl⟩ := d
  exact WStep.pure fun hA hx hby _ k => XS.land hA hx rfl (hb hby d) rfl k
theorem WStep.lor {x y : Int64} (d : AtI G.bytes pc .lor 1 nx) : WStep G (pc, L, .long y :: .long x :: S, σ, u) (nx, L, .long (x ||| y) :: S, σ, u) := by
  obtain ⟨d, rfl⟩ := d
  exact WStep.pure fun hA hx hby _ k => XS.lor hA hx rfl (hb hby d) rfl k
theorem WStep.lxor {x y : Int64} (d : AtI G.bytes pc .lxor 1 nx) : WStep G (pc, L, .long y :: .long x :: S, σ, u) (nx, L, .long (x ^^^ y) :: S, σ, u) := by
  obtain ⟨d, rfl⟩ := d
  exact WStep.pure fun hA hx hby _ k => XS.lxor hA hx rfl (hb hby d) rfl k
theorem WStep.ldiv {x y : Int64} (d : AtI G.bytes pc .ldiv 1 nx) (hy : y ≠ 0) : WStep G (pc, L, .long y :: .long x :: S, σ, u) (nx, L, .long (x / y) :: S, σ, u) := by
  obtain ⟨d, rfl⟩ := d
  exact WStep.pure fun hA hx hby _ k => XS.ldiv hA hx rfl (hb hby d) rfl hy k
theorem WStep.lneg {x : Int64} (d : AtI G.bytes pc .lneg 1 nx) : WStep G (pc, L, .long x :: S, σ, u) (nx, L, .long (-x) :: S, σ, u) := by
  obtain ⟨d, rfl⟩ := d
  exact WStep.pure fun hA hx hby _ k => XS.lneg hA hx rfl (hb hby d) rfl k
theorem WStep.irem {x y : Int32} (d : AtI G.bytes pc .irem 1 nx) (hy : y ≠ 0) : WStep G (pc, L, .int y :: .int x :: S, σ, u) (nx, L, .int (x % y) :: S, σ, u) := by
  obtain ⟨d, rfl⟩ := d
  have q : x - x / y * y = x % y := irem_eq_mod x y
  exact WStep.pure fun hA hx hby _ k => XS.irem hA hx rfl (hb hby d) rfl hy (by rw [q]; exact k)
theorem WStep.lrem {x y : Int64} (d : AtI G.bytes pc .lrem 1 nx) (hy : y ≠ 0) : WStep G (pc, L, .long y :: .long x :: S, σ, u) (nx, L, .long (x % y) :: S, σ, u) := by
  obtain ⟨d, rfl⟩ := d
  have q : x - x / y * y = x % y := lrem_mod x y
  exact WStep.pure fun hA hx hby _ k => XS.lrem hA hx rfl (hb hby d) rfl hy (by rw [q]; exact k)
theorem WStep.ishl {x : Int32} {y : Int32} (d : AtI G.bytes pc .ishl 1 nx) : WStep G (pc, L, .int y :: .int x :: S, σ, u) (nx, L, .int (x <<< (y &&& 31)) :: S, σ, u) := by
  obtain ⟨d, rfl⟩ := d
  exact WStep.pure fun hA hx hby _ k => XS.ishl hA hx rfl (hb hby d) rfl k
theorem WStep.ishr {x : Int32} {y : Int32} (d : AtI G.bytes pc .ishr 1 nx) : WStep G (pc, L, .int y :: .int x :: S, σ, u) (nx, L, .int (x >>> (y &&& 31)) :: S, σ, u) := by
  obtain ⟨d, rfl⟩ := d
  exact WStep.pure fun hA hx hby _ k => XS.ishr hA hx rfl (hb hby d) rfl k
theorem WStep.iushr {x : Int32} {y : Int32} (d : AtI G.bytes pc .iushr 1 nx) : WStep G (pc, L, .int y :: .int x :: S, σ, u) (nx, L, .int ((x.toUInt32 >>> (y &&& 31).toUInt32).toInt32) :: S, σ, u) := by
  obtain ⟨d, rfl⟩ := d
  exact WStep.pure fun hA hx hby _ k => XS.iushr hA hx rfl (hb hby d) rfl k
theorem WStep.lshl {x : Int64} {y : Int32} (d : AtI G.bytes pc .lshl 1 nx) : WStep G (pc, L, .int y :: .long x :: S, σ, u) (nx, L, .long (x <<< (y &&& 0x3f).toInt64) :: S, σ, u) := by
  obtain ⟨d, rfl⟩ := d
  exact WStep.pure fun hA hx hby _ k => XS.lshl hA hx rfl (hb hby d) rfl k
theorem WStep.lshr {x : Int64} {y : Int32} (d : AtI G.bytes pc .lshr 1 nx) : WStep G (pc, L, .int y :: .long x :: S, σ, u) (nx, L, .long (x >>> (y &&& 0x3f).toInt64) :: S, σ, u) := by
  obtain ⟨d, rfl⟩ := d
  exact WStep.pure fun hA hx hby _ k => XS.lshr hA hx rfl (hb hby d) rfl k
theorem WStep.lushr {x : Int64} {y : Int32} (d : AtI G.bytes pc .lushr 1 nx) : WStep G (pc, L, .int y :: .long x :: S, σ, u) (nx, L, .long ((x.toUInt64 >>> (y &&& 0x3f).toInt64.toUInt64).toInt64) :: S, σ, u) := by
  obtain ⟨d, rfl⟩ := d
  exact WStep.pure fun hA hx hby _ k => XS.lushr hA hx rfl (hb hby d) rfl k
theorem WStep.i2l {x : Int32} (d : AtI G.bytes pc .i2l 1 nx) : WStep G (pc, L, .int x :: S, σ, u) (nx, L, .long (x.toInt64) :: S, σ, u) := by
  obtain ⟨d, rfl⟩ := d
  exact WStep.pure fun hA hx hby _ k => XS.i2l hA hx rfl (hb hby d) rfl k
theorem WStep.l2i {x : Int64} (d : AtI G.bytes pc .l2i 1 nx) : WStep G (pc, L, .long x :: S, σ, u) (nx, L, .int (x.toInt32) :: S, σ, u) := by
  obtain ⟨d, rfl⟩ := d
  exact WStep.pure fun hA hx hby _ k => XS.l2i hA hx rfl (hb hby d) rfl k
theorem WStep.i2b {x : Int32} (d : AtI G.bytes pc .i2b 1 nx) : WStep G (pc, L, .int x :: S, σ, u) (nx, L, .int (x.toInt8.toInt32) :: S, σ, u) := by
  obtain ⟨d, rfl⟩ := d
  exact WStep.pure fun hA hx hby _ k => XS.i2b hA hx rfl (hb hby d) rfl k
theorem WStep.i2s {x : Int32} (d : AtI G.bytes pc .i2s 1 nx) : WStep G (pc, L, .int x :: S, σ, u) (nx, L, .int (x.toInt16.toInt32) :: S, σ, u) := by
  obtain ⟨d, rfl⟩ := d
  exact WStep.pure fun hA hx hby _ k => XS.i2s hA hx rfl (hb hby d) rfl k
theorem WStep.i2c {x : Int32} (d : AtI G.bytes pc .i2c 1 nx) : WStep G (pc, L, .int x :: S, σ, u) (nx, L, .int (x.toUInt32.toUInt16.toUInt32.toInt32) :: S, σ, u) := by
  obtain ⟨d, rfl⟩ := d
  exact WStep.pure fun hA hx hby _ k => XS.i2c hA hx rfl (hb hby d) rfl k
theorem WStep.lcmp {x y : Int64} (d : AtI G.bytes pc .lcmp 1 nx) : WStep G (pc, L, .long y :: .long x :: S, σ, u) (nx, L, .int (lcmpW x y) :: S, σ, u) := by
  obtain ⟨d, rfl⟩ := d
  exact WStep.pure fun hA hx hby _ k => XS.lcmp hA hx rfl (hb hby d) rfl k
theorem WStep.dup {x : Value} (d : AtI G.bytes pc .dup 1 nx) (hc : x.category = 1) : WStep G (pc, L, x :: S, σ, u) (nx, L, x :: x :: S, σ, u) := by
  obtain ⟨d, rfl⟩ := d
  exact WStep.pure fun hA hx hby _ k => XS.dup hA hx rfl (hb hby d) rfl (cat_gv.trans hc) k
theorem WStep.pop {x : Value} (d : AtI G.bytes pc .pop 1 nx) (hc : x.category = 1) : WStep G (pc, L, x :: S, σ, u) (nx, L, S, σ, u) := by
  obtain ⟨d, rfl⟩ := d
  exact WStep.pure fun hA hx hby _ k => XS.pop hA hx rfl (hb hby d) rfl (cat_gv.trans hc) k
theorem WStep.dupX1 {x y : Value} (d : AtI G.bytes pc .dup_x1 1 nx) (hc : x.category = 1) (hc' : y.category = 1) : WStep G (pc, L, x :: y :: S, σ, u) (nx, L, x :: y :: x :: S, σ, u) := by
  obtain ⟨d, rfl⟩ := d
  exact WStep.pure fun hA hx hby _ k => XS.dupX1 hA hx rfl (hb hby d) rfl (cat_gv.trans hc) (cat_gv.trans hc') k
theorem WStep.dup2 {x y : Value} (d : AtI G.bytes pc .dup2 1 nx) (hc : x.category = 1) (hc' : y.category = 1) : WStep G (pc, L, x :: y :: S, σ, u) (nx, L, x :: y :: x :: y :: S, σ, u) := by
  obtain ⟨d, rfl⟩ := d
  exact WStep.pure fun hA hx hby _ k => XT.dup2 hA hx rfl (hb hby d) rfl (cat_gv.trans hc) (cat_gv.trans hc') k
theorem WStep.dup2L {x : Int64} (d : AtI G.bytes pc .dup2 1 nx) : WStep G (pc, L, .long x :: S, σ, u) (nx, L, .long x :: .long x :: S, σ, u) := by
  obtain ⟨d, rfl⟩ := d
  exact WStep.pure fun hA hx hby _ k => XT.dup2L hA hx rfl (hb hby d) rfl k
theorem WStep.goto (d : AtJ G.bytes pc .goto nx tgt) : WStep G (pc, L, S, σ, u) (tgt, L, S, σ, u) := by
  obtain ⟨o, d, rfl, h0, h1⟩ := d
  exact WStep.pure fun hA hx hby _ k => XS.goto hA hx rfl (pc0 := pc) (pc' := tgt) rfl (hb hby d) h0 h1 k
theorem WStep.icmpT {cd : ClassFile.Cond} {x y : Int32} (d : AtJ G.bytes pc (.if_icmp cd) nx tgt) (h : if_icmp.holds cd x y = true) : WStep G (pc, L, .int y :: .int x :: S, σ, u) (tgt, L, S, σ, u) := by
  obtain ⟨o, d, rfl, h0, h1⟩ := d
  exact WStep.pure fun hA hx hby _ k => XS.icmpYes hA hx rfl (pc0 := pc) (pc' := tgt) rfl (hb hby d) rfl h h0 h1 k
theorem WStep.icmpF {cd : ClassFile.Cond} {x y : Int32} (d : AtJ G.bytes pc (.if_icmp cd) nx tgt) (h : if_icmp.holds cd x y = false) : WStep G (pc, L, .int y :: .int x :: S, σ, u) (nx, L, S, σ, u) := by
  obtain ⟨o, d, rfl, h0, h1⟩ := d
  exact WStep.pure fun hA hx hby _ k => XS.icmpNo hA hx rfl (hb hby d) rfl h k
theorem WStep.ifT {cd : ClassFile.Cond} {x : Int32} (d : AtJ G.bytes pc (.ifCond cd) nx tgt) (h : if_icmp.holds cd x 0 = true) : WStep G (pc, L, .int x :: S, σ, u) (tgt, L, S, σ, u) := by
  obtain ⟨o, d, rfl, h0, h1⟩ := d
  exact WStep.pure fun hA hx hby _ k => XS.ifYes hA hx rfl (pc0 := pc) (pc' := tgt) rfl (hb hby d) rfl ((if0 _ _).trans h) h0 h1 k
theorem WStep.ifF {cd : ClassFile.Cond} {x : Int32} (d : AtJ G.bytes pc (.ifCond cd) nx tgt) (h : if_icmp.holds cd x 0 = false) : WStep G (pc, L, .int x :: S, σ, u) (nx, L, S, σ, u) := by
  obtain ⟨o, d, rfl, h0, h1⟩ := d
  exact WStep.pure fun hA hx hby _ k => XS.ifNo hA hx rfl (hb hby d) rfl ((if0 _ _).trans h) k
theorem WStep.nullT (d : AtJ G.bytes pc .ifnull nx tgt) : WStep G (pc, L, .null :: S, σ, u) (tgt, L, S, σ, u) := by
  obtain ⟨o, d, rfl, h0, h1⟩ := d
  exact WStep.pure fun hA hx hby _ k => XS.ifnullYes hA hx rfl (pc0 := pc) (pc' := tgt) rfl (hb hby d) rfl h0 h1 k
theorem WStep.nullF {a : Addr} (d : AtJ G.bytes pc .ifnull nx tgt) : WStep G (pc, L, .ref a :: S, σ, u) (nx, L, S, σ, u) := by
  obtain ⟨o, d, rfl, h0, h1⟩ := d
  exact WStep.pure fun hA hx hby _ k => XS.ifnullNo hA hx rfl (hb hby d) rfl k
theorem WStep.nonnullT {a : Addr} (d : AtJ G.bytes pc .ifnonnull nx tgt) : WStep G (pc, L, .ref a :: S, σ, u) (tgt, L, S, σ, u) := by
  obtain ⟨o, d, rfl, h0, h1⟩ := d
  exact WStep.pure fun hA hx hby _ k => XS.ifnonnullYes hA hx rfl (pc0 := pc) (pc' := tgt) rfl (hb hby d) rfl h0 h1 k
theorem WStep.nonnullF (d : AtJ G.bytes pc .ifnonnull nx tgt) : WStep G (pc, L, .null :: S, σ, u) (nx, L, S, σ, u) := by
  obtain ⟨o, d, rfl, h0, h1⟩ := d
  exact WStep.pure fun hA hx hby _ k => XS.ifnonnullNo hA hx rfl (hb hby d) rfl k
end Pure
section Forks
variable {G : WMC} {pc nx tgt u : Nat} {L : List Slot} {S : List Value} {σ : WHp} {Q : Option Value → WHp → Nat → Prop}
theorem WGo.lt {x y : Int32} (d : AtJ G.bytes pc (.if_icmp .lt) nx tgt) (h1 : x < y → WGo G (tgt, L, S, σ, u) Q) (h2 : ¬ x < y → WGo G (nx, L, S, σ, u) Q) : WGo G (pc, L, .int y :: .int x :: S, σ, u) Q := by
  by_cases h : x < y
  · exact (h1 h).s (WStep.icmpT d (tlt h).1)
  · exact (h2 h).s (WStep.icmpF d (flt h).1)
theorem WGo.lt0 {x : Int32} (d : AtJ G.bytes pc (.ifCond .lt) nx tgt) (h1 : x < 0 → WGo G (tgt, L, S, σ, u) Q) (h2 : ¬ x < 0 → WGo G (nx, L, S, σ, u) Q) : WGo G (pc, L, .int x :: S, σ, u) Q := by
  by_cases h : x < 0
  · exact (h1 h).s (WStep.ifT d (tlt h).1)
  · exact (h2 h).s (WStep.ifF d (flt h).1)
theorem WGo.ltL {x y : Int64} (d : AtJ G.bytes pc (.ifCond .lt) nx tgt) (h1 : x < y → WGo G (tgt, L, S, σ, u) Q) (h2 : ¬ x < y → WGo G (nx, L, S, σ, u) Q) : WGo G (pc, L, .int (lcmpW x y) :: S, σ, u) Q := by
  exact WGo.lt0 d (fun h => h1 ((lw_lt x y).mp h)) (fun h => h2 fun q => h ((lw_lt x y).mpr q))
theorem WGo.ge {x y : Int32} (d : AtJ G.bytes pc (.if_icmp .ge) nx tgt) (h1 : ¬ x < y → WGo G (tgt, L, S, σ, u) Q) (h2 : x < y → WGo G (nx, L, S, σ, u) Q) : WGo G (pc, L, .int y :: .int x :: S, σ, u) Q := by
  by_cases h : x < y
  · exact (h2 h).s (WStep.icmpF d (tlt h).2.1)
  · exact (h1 h).s (WStep.icmpT d (flt h).2.1)
theorem WGo.ge0 {x : Int32} (d : AtJ G.bytes pc (.ifCond .ge) nx tgt) (h1 : ¬ x < 0 → WGo G (tgt, L, S, σ, u) Q) (h2 : x < 0 → WGo G (nx, L, S, σ, u) Q) : WGo G (pc, L, .int x :: S, σ, u) Q := by
  by_cases h : x < 0
  · exact (h2 h).s (WStep.ifF d (tlt h).2.1)
  · exact (h1 h).s (WStep.ifT d (flt h).2.1)
theorem WGo.geL {x y : Int64} (d : AtJ G.bytes pc (.ifCond .ge) nx tgt) (h1 : ¬ x < y → WGo G (tgt, L, S, σ, u) Q) (h2 : x < y → WGo G (nx, L, S, σ, u) Q) : WGo G (pc, L, .int (lcmpW x y) :: S, σ, u) Q := by
  exact WGo.ge0 d (fun h => h1 fun q => h ((lw_lt x y).mpr q)) (fun h => h2 ((lw_lt x y).mp h))
theorem WGo.gt {x y : Int32} (d : AtJ G.bytes pc (.if_icmp .gt) nx tgt) (h1 : y < x → WGo G (tgt, L, S, σ, u) Q) (h2 : ¬ y < x → WGo G (nx, L, S, σ, u) Q) : WGo G (pc, L, .int y :: .int x :: S, σ, u) Q := by
  by_cases h : y < x
  · exact (h1 h).s (WStep.icmpT d (tlt h).2.2.1)
  · exact (h2 h).s (WStep.icmpF d (flt h).2.2.1)
theorem WGo.gt0 {x : Int32} (d : AtJ G.bytes pc (.ifCond .gt) nx tgt) (h1 : 0 < x → WGo G (tgt, L, S, σ, u) Q) (h2 : ¬ 0 < x → WGo G (nx, L, S, σ, u) Q) : WGo G (pc, L, .int x :: S, σ, u) Q := by
  by_cases h : 0 < x
  · exact (h1 h).s (WStep.ifT d (tlt h).2.2.1)
  · exact (h2 h).s (WStep.ifF d (flt h).2.2.1)
theorem WGo.gtL {x y : Int64} (d : AtJ G.bytes pc (.ifCond .gt) nx tgt) (h1 : y < x → WGo G (tgt, L, S, σ, u) Q) (h2 : ¬ y < x → WGo G (nx, L, S, σ, u) Q) : WGo G (pc, L, .int (lcmpW x y) :: S, σ, u) Q := by
  exact WGo.gt0 d (fun h => h1 ((lw_gt x y).mp h)) (fun h => h2 fun q => h ((lw_gt x y).mpr q))
theorem WGo.le {x y : Int32} (d : AtJ G.bytes pc (.if_icmp .le) nx tgt) (h1 : ¬ y < x → WGo G (tgt, L, S, σ, u) Q) (h2 : y < x → WGo G (nx, L, S, σ, u) Q) : WGo G (pc, L, .int y :: .int x :: S, σ, u) Q := by
  by_cases h : y < x
  · exact (h2 h).s (WStep.icmpF d (tlt h).2.2.2)
  · exact (h1 h).s (WStep.icmpT d (flt h).2.2.2)
theorem WGo.le0 {x : Int32} (d : AtJ G.bytes pc (.ifCond .le) nx tgt) (h1 : ¬ 0 < x → WGo G (tgt, L, S, σ, u) Q) (h2 : 0 < x → WGo G (nx, L, S, σ, u) Q) : WGo G (pc, L, .int x :: S, σ, u) Q := by
  by_cases h : 0 < x
  · exact (h2 h).s (WStep.ifF d (tlt h).2.2.2)
  · exact (h1 h).s (WStep.ifT d (flt h).2.2.2)
theorem WGo.leL {x y : Int64} (d : AtJ G.bytes pc (.ifCond .le) nx tgt) (h1 : ¬ y < x → WGo G (tgt, L, S, σ, u) Q) (h2 : y < x → WGo G (nx, L, S, σ, u) Q) : WGo G (pc, L, .int (lcmpW x y) :: S, σ, u) Q := by
  exact WGo.le0 d (fun h => h1 fun q => h ((lw_gt x y).mpr q)) (fun h => h2 ((lw_gt x y).mp h))
theorem WGo.eq {x y : Int32} (d : AtJ G.bytes pc (.if_icmp .eq) nx tgt) (h1 : x = y → WGo G (tgt, L, S, σ, u) Q) (h2 : ¬ x = y → WGo G (nx, L, S, σ, u) Q) : WGo G (pc, L, .int y :: .int x :: S, σ, u) Q := by
  by_cases h : x = y
  · exact (h1 h).s (WStep.icmpT d (teq h).1)
  · exact (h2 h).s (WStep.icmpF d (feq h).1)
theorem WGo.eq0 {x : Int32} (d : AtJ G.bytes pc (.ifCond .eq) nx tgt) (h1 : x = 0 → WGo G (tgt, L, S, σ, u) Q) (h2 : ¬ x = 0 → WGo G (nx, L, S, σ, u) Q) : WGo G (pc, L, .int x :: S, σ, u) Q := by
  by_cases h : x = 0
  · exact (h1 h).s (WStep.ifT d (teq h).1)
  · exact (h2 h).s (WStep.ifF d (feq h).1)
theorem WGo.eqL {x y : Int64} (d : AtJ G.bytes pc (.ifCond .eq) nx tgt) (h1 : x = y → WGo G (tgt, L, S, σ, u) Q) (h2 : ¬ x = y → WGo G (nx, L, S, σ, u) Q) : WGo G (pc, L, .int (lcmpW x y) :: S, σ, u) Q := by
  exact WGo.eq0 d (fun h => h1 ((lw_eq x y).mp h)) (fun h => h2 fun q => h ((lw_eq x y).mpr q))
theorem WGo.ne {x y : Int32} (d : AtJ G.bytes pc (.if_icmp .ne) nx tgt) (h1 : ¬ x = y → WGo G (tgt, L, S, σ, u) Q) (h2 : x = y → WGo G (nx, L, S, σ, u) Q) : WGo G (pc, L, .int y :: .int x :: S, σ, u) Q := by
  by_cases h : x = y
  · exact (h2 h).s (WStep.icmpF d (teq h).2)
  · exact (h1 h).s (WStep.icmpT d (feq h).2)
theorem WGo.ne0 {x : Int32} (d : AtJ G.bytes pc (.ifCond .ne) nx tgt) (h1 : ¬ x = 0 → WGo G (tgt, L, S, σ, u) Q) (h2 : x = 0 → WGo G (nx, L, S, σ, u) Q) : WGo G (pc, L, .int x :: S, σ, u) Q := by
  by_cases h : x = 0
  · exact (h2 h).s (WStep.ifF d (teq h).2)
  · exact (h1 h).s (WStep.ifT d (feq h).2)
theorem WGo.neL {x y : Int64} (d : AtJ G.bytes pc (.ifCond .ne) nx tgt) (h1 : ¬ x = y → WGo G (tgt, L, S, σ, u) Q) (h2 : x = y → WGo G (nx, L, S, σ, u) Q) : WGo G (pc, L, .int (lcmpW x y) :: S, σ, u) Q := by
  exact WGo.ne0 d (fun h => h1 fun q => h ((lw_eq x y).mpr q)) (fun h => h2 ((lw_eq x y).mp h))
end Forks
end Jvm.Sy
namespace Jvm.Sy
open Jvm Jvm.ClassFile Sem Op Lib Jvm.Free Jvm.Stand Jvm.LawKit Jvm.RoadKit Bundle
/-! ## 3. Entering and leaving -/
def entL : List Value → List Slot
  | [] => []
  | v :: r => if v.category = 2 then .val v :: .second :: entL r else .val v :: entL r
def entryL (args : List Value) (maxL : Nat) : List Slot := entL args ++ List.replicate (maxL - (entL args).length) .unset
theorem fill_eq {ρ : Nat → Nat} : ∀ (args : List Value) (acc : Array Slot), (gS ρ args).foldl (fun acc v => if v.category = 2 then (acc.push (.val v)).push .second else acc.push (.val v)) acc = acc ++ ((entL args).map (gs ρ)).toArray
  | [], acc => by simp [gS, entL]
  | v :: r, acc => by
    have ih := fill_eq (ρ := ρ) r
    simp only [gS, List.map_cons, List.foldl_cons, cat_gv] at ih ⊢
    rw [ih]
    by_cases q : v.category = 2
    · simp [entL, q, gs]
    · simp [entL, q, gs]
theorem entry_eq {ρ : Nat → Nat} (args : List Value) (maxL : Nat) : argsToLocals (gS ρ args).toArray maxL = gL ρ (entryL args maxL) := by
  have h := fill_eq (ρ := ρ) args #[]
  simp only [argsToLocals, List.foldl_toArray', List.size_toArray] at *
  rw [h]
  simp [gL, entryL, gs]
theorem entryF_eq {ρ : Nat → Nat} (m : MethodId) (args : List Value) (maxL : Nat) : entryFrame m (gS ρ args).toArray maxL = mkF m 0 (gL ρ (entryL args maxL)) [] := by
  show ({ method := m, pc := 0, locals := argsToLocals _ maxL, stack := [], locked := none } : JFrame) = _
  rw [entry_eq]
section Ret
variable {G : WMC} {pc nx u : Nat} {L : List Slot} {S : List Value} {σ : WHp} {Q : Option Value → WHp → Nat → Prop}
theorem WRun.of {v : Option Value} {A : WCfg} (h0 : G.ret = none → v = none)
    (h : ∀ {p : Program} {l : Launch} {e : Env} {R : Room} {s : State} {m : MethodId} {args : Array Value} {below : List Frame} {meth : Method} {c : Code} {T : State} {locs : List Loc} {ce sl : Nat}, WCtx G p R s m meth c → Stand p l e R s m args below meth c T locs ce sl →
      ∀ fs, (∀ (f : JFrame) (acts : List Action), f.method = m → f.locked = none → f.entered = [] → (doReturn e (T.setTop f) acts (v.map (gv G.ρ))).1 = T.setFrames fs) → Steps p.tables e below (T.setTop (frm G m A)) (T.setFrames fs)) :
    WRun G A v A.2.2.2.1 A.2.2.2.2 := by
  refine ⟨Nat.le_refl _, Nat.le_refl _, h0, fun p l e R s m args below meth c hC hc hs T hT => ⟨T, hT, fun fs hr => ?_⟩⟩
  obtain ⟨locs, ce, sl, h1, h2, X, D, N⟩ := hT
  exact h hC X fs hr
theorem WGo.ireturn (t : FieldType) {z : Int32} (d : AtI G.bytes pc .ireturn 1 nx) (hret : G.ret = some t) (ht : t = .int ∨ t = .boolean ∨ t = .byte ∨ t = .char ∨ t = .short) (q : Q (some (narrow t (.int z))) σ u) : WGo G (pc, L, .int z :: S, σ, u) Q := by
  refine ⟨_, _, _, q, WRun.of (A := (pc, L, .int z :: S, σ, u)) (fun h => by rw [hret] at h; cases h) fun hC X fs hr => ?_⟩
  have hm := hC.2.2.2.2.2.1.trans hret
  rcases ht with rfl | ht
  · exact retOut X hC.1 hm rfl (Or.inl ⟨rfl, Or.inl rfl, _, rfl⟩) (hb hC.2.1 d.1) hr
  · have hn : narrow t (.int z) = .int (nar t z) := by rcases ht with rfl | rfl | rfl | rfl <;> rfl
    rw [hn] at hr
    exact retN X hC.1 hm ht (hb hC.2.1 d.1) hr
theorem WGo.lreturn {z : Int64} (d : AtI G.bytes pc .lreturn 1 nx) (hret : G.ret = some .long) (q : Q (some (.long z)) σ u) : WGo G (pc, L, .long z :: S, σ, u) Q := by
  refine ⟨_, _, _, q, WRun.of (A := (pc, L, .long z :: S, σ, u)) (fun h => by rw [hret] at h; cases h) fun hC X fs hr => ?_⟩
  exact retOut X hC.1 (hC.2.2.2.2.2.1.trans hret) rfl (Or.inr (Or.inl ⟨rfl, rfl, _, rfl⟩)) (hb hC.2.1 d.1) hr
theorem WGo.areturn (t : FieldType) {z : Value} (d : AtI G.bytes pc .areturn 1 nx) (hret : G.ret = some t) (ht : t.isReference = true) (hz : z.isRef = true) (q : Q (some z) σ u) : WGo G (pc, L, z :: S, σ, u) Q := by
  refine ⟨_, _, _, q, WRun.of (A := (pc, L, z :: S, σ, u)) (fun h => by rw [hret] at h; cases h) fun hC X fs hr => ?_⟩
  refine retOut X hC.1 (hC.2.2.2.2.2.1.trans hret) ?_ (Or.inr (Or.inr (Or.inr (Or.inr ⟨rfl, ht, isRef_gv.trans hz⟩)))) (hb hC.2.1 d.1) hr
  cases t <;> first | rfl | cases ht
theorem WGo.vreturn (d : AtI G.bytes pc .return_ 1 nx) (hret : G.ret = none) (q : Q none σ u) : WGo G (pc, L, [], σ, u) Q := by
  refine ⟨_, _, _, q, WRun.of (A := (pc, L, [], σ, u)) (fun _ => rfl) fun hC X fs hr => ?_⟩
  exact X.returnOut hC.1 (hC.2.2.2.2.2.1.trans hret) (hb hC.2.1 d.1) hr
end Ret
/-! ## 4. A method's contract out of its walk -/
theorem met_of {l : Launch} {G : WMC} {y : MethodName} {argsL : List Value} {σ σ' : WHp} {u u' : Nat} {v : Option Value} {ws : List Jvm.Cond} {h : Heap}
    (hy1 : G.own = y.cls) (hy2 : G.nm = y.name) (hj : G.j0 = σ.length) (hu : G.u0 = u) (hpl : plainFor y = true) (hρ : ∀ k, k < 1000 → G.ρ k = G.n0 + k) (hinj : ∀ i j, G.ρ i = G.ρ j → i = j)
    (H : WRun G (0, entryL argsL G.ml, [], σ, u) v σ' u') (D : WDen G.Z G.ρ G.n0 σ h) (RM : Room) (hR1 : G.fr ≤ RM.frames) (hR2 : σ'.length - σ.length ≤ RM.cells) (hR3 : u' - u ≤ RM.slots) (hR4 : G.lo ≤ RM.locals) :
    MetFree l y (head1 (Jvm.Cond.code y G.bytes G.ml G.ret :: ws) RM) (fun a U => a = (gS G.ρ argsL).toArray ∧ G.Z.Warmed39 U.vm ∧ U.heap = h) (fun _ _ _ _ _ => True)
      (fun _ U o U' => ∃ w L, o = .returned w ∧ (w = v.map (gv G.ρ) ∧ Fr G.n0 L ∧ WDen G.Z G.ρ G.n0 σ' U'.heap) ∧ FrameEnd U o U' L (σ'.length - σ.length) (u' - u)) := by
  refine MetFree.of_bodySF hpl hisR ?_
  intro p e s m args below meth c s₁ Bd hml0 hP hK
  obtain ⟨rfl, hZ, hh⟩ := hP
  have X0 : Stand p l e RM s m (gS G.ρ argsL).toArray below meth c s₁ [] 0 0 := Stand.of_body Bd
  have e0 : s₁.heap = h := by rw [← hh, Bd.state]; rfl
  obtain ⟨a1, a2, a0, a3⟩ := H
  have a1' : σ.length ≤ σ'.length := a1
  have a2' : u ≤ u' := a2
  obtain ⟨T', ⟨locs, ce, sl, q1, q2, X, D', N⟩, st⟩ := a3 p l e RM s m _ below meth c ⟨Bd.exec, Bd.bytes, hZ, by rw [hy1]; exact findClass_of_methodNamed Bd.named, (name_of_methodNamed Bd.named Bd.method).1.trans hy2.symm, Bd.returns, hml0, by rw [hh, hj]; exact D.1, hρ, hinj, hR1, hR4⟩ (by omega) (by omega) s₁ ⟨[], 0, 0, hj.symm, hu.symm, X0, by rw [e0]; exact D, Fr.nil _⟩
  obtain ⟨fs, hr, hrun, hended, hW, hsame⟩ := X.leave (v := v.map (gv G.ρ)) (fun hn => by rw [a0 (Bd.returns ▸ hn)]; rfl)
  refine ⟨_, _, ?_, hrun, hended, _, _, rfl, ⟨rfl, N, D'⟩, ⟨_, rfl⟩, hW, hsame.mono (by omega) (by omega)⟩
  rw [entryF_eq]
  exact st fs hr
/-- what a call site knows of its callee -/
def WCallee (Z : State) (a0 : Array Value) (y : MethodName) (Gc : WMC) (n : Nat) : Prop :=
  plainFor y = true ∧ (y.cls ≠ "java/lang/invoke/MethodHandle" ∧ y.cls ≠ "java/lang/invoke/VarHandle") ∧ Gc.own = y.cls ∧ Gc.nm = y.name ∧ Gc.Z = Z ∧ (Jvm.Cond.initialized y.cls).before a0 Z = true ∧ (Jvm.Cond.code y Gc.bytes Gc.ml Gc.ret).before a0 Z = true ∧ (∀ sig, parseMethodDescriptor y.desc = some sig → n = sig.parameters.length)
theorem backFor {p : Program} {l : Launch} {e : Env} {R : Room} {s : State} {args : Array Value} {below : List Frame} {Gc : WMC} {y : MethodName} {a0 : Array Value} {argsL : List Value} {σ σ' : WHp} {u u' W n : Nat} {v : Option Value} {h : Heap}
    (C : WCallee Gc.Z a0 y Gc n) (hj : Gc.j0 = σ.length) (hu : Gc.u0 = u) (hρ : ∀ k, k < 1000 → Gc.ρ k = Gc.n0 + k) (hinj : ∀ i j, Gc.ρ i = Gc.ρ j → i = j)
    (H : WRun Gc (0, entryL argsL Gc.ml, [], σ, u) v σ' u') (D : WDen Gc.Z Gc.ρ Gc.n0 σ h) (hZ : Gc.Z.Warmed39 s.vm) (hf : Gc.fr + 1 ≤ R.frames) (hl : W + (Gc.ml + 11) + Gc.lo ≤ R.locals) :
    Back l R p e below s args y 3 W (fun A a => a = (gS Gc.ρ argsL).toArray ∧ A.U.heap = h ∧ A.cells + (σ'.length - σ.length) ≤ R.cells ∧ A.slots + (u' - u) ≤ R.slots)
      (fun A _ w B => ∃ L, (w = v.map (gv Gc.ρ) ∧ Fr Gc.n0 L ∧ WDen Gc.Z Gc.ρ Gc.n0 σ' B.U.heap) ∧ B.locs = A.locs ++ L ∧ B.cells = A.cells + (σ'.length - σ.length) ∧ B.slots = A.slots + (u' - u)) :=
  backOf (rm := { frames := Gc.fr, cells := σ'.length - σ.length, slots := u' - u, locals := Gc.lo }) (Q := fun w h' L => w = v.map (gv Gc.ρ) ∧ Fr Gc.n0 L ∧ WDen Gc.Z Gc.ρ Gc.n0 σ' h') (met_of C.2.2.1 C.2.2.2.1 hj hu C.1 hρ hinj H D _ (Nat.le_refl _) (Nat.le_refl _) (Nat.le_refl _) (Nat.le_refl _)) hZ C.2.2.2.2.2.2.1 C.2.2.2.2.2.1 hf hl
theorem toL {ρ : Nat → Nat} (v : Option Value) (S : List Value) : gS ρ (v.toList ++ S) = (v.map (gv ρ)).toList ++ gS ρ S := by cases v <;> rfl
section Calls
variable {G Gc : WMC} {pc nx u idx n : Nat} {L : List Slot} {S Sf argsL : List Value} {σ : WHp} {Q Qc : Option Value → WHp → Nat → Prop} {y : MethodName} {a0 : Array Value}
theorem WGo.callS (d : AtI G.bytes pc (.invokestatic idx) 3 nx) (C : WCallee G.Z a0 y Gc n) (wl : (Jvm.Cond.methodLink G.own idx y).before a0 G.Z = true) (ws : (Jvm.Cond.static y).before a0 G.Z = true)
    (H : WGo Gc (0, entryL argsL Gc.ml, [], σ, u) Qc) (hG : Gc.1 = G.1) (hj : Gc.j0 = σ.length) (hu : Gc.u0 = u) (hn : argsL.length = n) (hS : Sf = argsL.reverse ++ S) (hL : L.length = G.ml) (hf : Gc.fr + 1 ≤ G.fr) (hl : (S.map Value.category).sum + (Gc.ml + 11) + Gc.lo ≤ G.lo)
    (K : ∀ v σ' u', Qc v σ' u' → WGo G (nx, L, v.toList ++ S, σ', u') Q) : WGo G (pc, L, Sf, σ, u) Q := by
  obtain ⟨v, σ', u', q, r⟩ := H
  refine (K v σ' u' q).s ?_
  have m1 : σ.length ≤ σ'.length := r.1
  have m2 : u ≤ u' := r.2.1
  refine ⟨m1, m2, fun p l e R s m args below meth c hC hc hs T hT => ?_⟩
  obtain ⟨hx, hby, hZ, hown, hnm, hret, hml, hs0, hρ, hinj, hfr, hlo⟩ := hC
  obtain ⟨locs, ce, sl, h1, h2, X, D, N⟩ := hT
  have eZ : Gc.Z = G.Z := congrArg (·.1) hG
  have eρ : Gc.ρ = G.ρ := congrArg (·.2.1) hG
  have en : Gc.n0 = G.n0 := congrArg (·.2.2) hG
  have h1' : σ.length = G.j0 + ce := h1
  have h2' : u = G.u0 + sl := h2
  have hc' : σ'.length ≤ G.j0 + R.cells := hc
  have hs' : u' ≤ G.u0 + R.slots := hs
  have Bk := backFor (p := p) (l := l) (e := e) (R := R) (s := s) (args := args) (below := below) (W := (S.map Value.category).sum) (eZ ▸ C) hj hu (by rw [eρ, en]; exact hρ) (by rw [eρ]; exact hinj) r (by rw [eZ, eρ, en]; exact D) (by rw [eZ]; exact hZ) (Nat.le_trans hf hfr) (Nat.le_trans hl hlo)
  obtain ⟨C1, C2, C3, C4, C5, C6, C7, C8⟩ := C
  rw [eρ, en, eZ] at Bk
  obtain ⟨w, vm1, ⟨T', L', k', n'⟩, -, X', ⟨Lc, ⟨hw', N', D'⟩, l', y', z'⟩, st⟩ := Jvm.LawKit.callS X hx (y := y) hown (mvT hZ wl) (mvT hZ ws) (mvT hZ C6) (mvT hZ C7) C2 Bk (g := frm G m (pc, L, Sf, σ, u)) rfl (by show (gL _ L).size = _; rw [gL_size, hL, hml]) (argsL := gS G.ρ argsL) (rest := gS G.ρ S)
    (fun sig hsig => by rw [← C8 sig hsig, ← hn]; simp [gS]) (by show gS _ Sf = _; rw [hS]; simp [gS]) (by rw [sum_gS]; show 2 * 0 + _ ≤ _; omega) (hb hby d.1) (fun _ _ => ⟨rfl, rfl, by show ce + _ ≤ _; omega, by show sl + _ ≤ _; omega⟩)
  dsimp only [Pt.U, Pt.locs, Pt.cells, Pt.slots] at X' l' y' z' st D'
  subst l' y' z' hw'
  refine ⟨T', ⟨_, _, _, ?_, ?_, X', D', N.app N'⟩, fun t k => st t ?_⟩
  · show σ'.length = _; omega
  · show u' = _; omega
  · rw [← toL]
    have := d.2
    subst this
    exact k
/-- a constructor -/
theorem WGo.callI {k : Nat} (d : AtI G.bytes pc (.invokespecial idx) 3 nx) (C : WCallee G.Z a0 y Gc n) (hi : y.name = "<init>") (hr : Gc.ret = none) (wl : (Jvm.Cond.methodLink G.own idx y).before a0 G.Z = true) (ws : (Jvm.Cond.instanceMethod y).before a0 G.Z = true) (hk : k < 1000)
    (H : WGo Gc (0, entryL (.ref k :: argsL) Gc.ml, [], σ, u) Qc) (hG : Gc.1 = G.1) (hj : Gc.j0 = σ.length) (hu : Gc.u0 = u) (hn : argsL.length = n) (hS : Sf = argsL.reverse ++ .ref k :: S) (hL : L.length = G.ml) (hf : Gc.fr + 1 ≤ G.fr) (hl : (S.map Value.category).sum + (Gc.ml + 11) + Gc.lo ≤ G.lo)
    (K : ∀ v σ' u', Qc v σ' u' → WGo G (nx, L, v.toList ++ S, σ', u') Q) : WGo G (pc, L, Sf, σ, u) Q := by
  obtain ⟨v, σ', u', q, r⟩ := H
  refine (K v σ' u' q).s ?_
  have m1 : σ.length ≤ σ'.length := r.1
  have m2 : u ≤ u' := r.2.1
  refine ⟨m1, m2, fun p l e R s m args below meth c hC hc hs T hT => ?_⟩
  obtain ⟨hx, hby, hZ, hown, hnm, hret, hml, hs0, hρ, hinj, hfr, hlo⟩ := hC
  obtain ⟨locs, ce, sl, h1, h2, X, D, N⟩ := hT
  have eZ : Gc.Z = G.Z := congrArg (·.1) hG
  have eρ : Gc.ρ = G.ρ := congrArg (·.2.1) hG
  have en : Gc.n0 = G.n0 := congrArg (·.2.2) hG
  have h1' : σ.length = G.j0 + ce := h1
  have h2' : u = G.u0 + sl := h2
  have hc' : σ'.length ≤ G.j0 + R.cells := hc
  have hs' : u' ≤ G.u0 + R.slots := hs
  have Bk := backFor (p := p) (l := l) (e := e) (R := R) (s := s) (args := args) (below := below) (W := (S.map Value.category).sum) (eZ ▸ C) hj hu (by rw [eρ, en]; exact hρ) (by rw [eρ]; exact hinj) r (by rw [eZ, eρ, en]; exact D) (by rw [eZ]; exact hZ) (Nat.le_trans hf hfr) (Nat.le_trans hl hlo)
  obtain ⟨C1, C2, C3, C4, C5, C6, C7, C8⟩ := C
  rw [hr] at C7
  rw [eρ, en, eZ] at Bk
  obtain ⟨w, vm1, ⟨T', L', k', n'⟩, -, X', ⟨Lc, ⟨hw', N', D'⟩, l', y', z'⟩, st⟩ := X.specialBack hx (y := y) hi hown (mvT hZ wl) (mvT hZ ws) (mvT hZ C7) C2 Bk (g := frm G m (pc, L, Sf, σ, u)) rfl (by show (gL _ L).size = _; rw [gL_size, hL, hml]) (Steps.refl _) (a := G.ρ k) (argsL := gS G.ρ argsL) (rest := gS G.ρ S)
    (fun sig hsig => by rw [← C8 sig hsig, ← hn]; simp [gS]) (by show gS _ Sf = _; rw [hS]; simp [gS, gv]) (by rw [sum_gS]; show 2 * 0 + _ ≤ _; omega) (hb hby d.1) (fun _ _ => ⟨rfl, rfl, by show ce + _ ≤ _; omega, by show sl + _ ≤ _; omega⟩)
  dsimp only [Pt.U, Pt.locs, Pt.cells, Pt.slots] at X' l' y' z' st D'
  subst l' y' z' hw'
  refine ⟨T', ⟨_, _, _, ?_, ?_, X', D', N.app N'⟩, fun t k => st.trans ?_⟩
  · show σ'.length = _; omega
  · show u' = _; omega
  · rw [← toL]
    have := d.2
    subst this
    exact k
/-- an instance method that the receiver's class itself selects -/
theorem WGo.callV {k : Nat} {Cn : String} {fs : List (WKey × Value)} {z : MethodName} (d : AtI G.bytes pc (.invokevirtual idx) 3 nx) (C : WCallee G.Z a0 y Gc n) (hz : z.desc = y.desc ∧ (z.cls ≠ "java/lang/invoke/MethodHandle" ∧ z.cls ≠ "java/lang/invoke/VarHandle")) (wl : (Jvm.Cond.methodLink G.own idx z).before a0 G.Z = true) (wd : (Jvm.Cond.declares z).before a0 G.Z = true) (hnf : ∀ s, G.Z.Warmed39 s.vm → NotFace s z) (wsel : (Jvm.Cond.selects Cn z y).before a0 G.Z = true) (ws : (Jvm.Cond.instanceMethod y).before a0 G.Z = true) (hk : σ[k]? = some (.inr (Cn, fs)))
    (H : WGo Gc (0, entryL (.ref k :: argsL) Gc.ml, [], σ, u) Qc) (hG : Gc.1 = G.1) (hj : Gc.j0 = σ.length) (hu : Gc.u0 = u) (hn : argsL.length = n) (hS : Sf = argsL.reverse ++ .ref k :: S) (hL : L.length = G.ml) (hf : Gc.fr + 1 ≤ G.fr) (hl : (S.map Value.category).sum + (Gc.ml + 11) + Gc.lo ≤ G.lo)
    (K : ∀ v σ' u', Qc v σ' u' → WGo G (nx, L, v.toList ++ S, σ', u') Q) : WGo G (pc, L, Sf, σ, u) Q := by
  obtain ⟨v, σ', u', q, r⟩ := H
  refine (K v σ' u' q).s ?_
  have m1 : σ.length ≤ σ'.length := r.1
  have m2 : u ≤ u' := r.2.1
  refine ⟨m1, m2, fun p l e R s m args below meth c hC hc hs T hT => ?_⟩
  obtain ⟨hx, hby, hZ, hown, hnm, hret, hml, hs0, hρ, hinj, hfr, hlo⟩ := hC
  obtain ⟨locs, ce, sl, h1, h2, X, D, N⟩ := hT
  have eZ : Gc.Z = G.Z := congrArg (·.1) hG
  have eρ : Gc.ρ = G.ρ := congrArg (·.2.1) hG
  have en : Gc.n0 = G.n0 := congrArg (·.2.2) hG
  have h1' : σ.length = G.j0 + ce := h1
  have h2' : u = G.u0 + sl := h2
  have hc' : σ'.length ≤ G.j0 + R.cells := hc
  have hs' : u' ≤ G.u0 + R.slots := hs
  have Bk := backFor (p := p) (l := l) (e := e) (R := R) (s := s) (args := args) (below := below) (W := (S.map Value.category).sum) (eZ ▸ C) hj hu (by rw [eρ, en]; exact hρ) (by rw [eρ]; exact hinj) r (by rw [eZ, eρ, en]; exact D) (by rw [eZ]; exact hZ) (Nat.le_trans hf hfr) (Nat.le_trans hl hlo)
  obtain ⟨C1, C2, C3, C4, C5, C6, C7, C8⟩ := C
  rw [eρ, en, eZ] at Bk
  have hE : Exa G.Z T.heap (G.n0 + k) Cn := (D.2.2 k _ hk).1
  rw [← hρ k (D.lt hk)] at hE
  obtain ⟨cq, kq, qa, qb, qc⟩ := isOf hZ rfl hE
  obtain ⟨w, vm1, ⟨T', L', k', n'⟩, -, X', ⟨Lc, ⟨hw', N', D'⟩, l', y', z'⟩, st⟩ := X.virtualBack hx (y := z) (z := y) hown (mvT hZ wl) (mvT hZ wd) (hnf s hZ) (mvT hZ wsel) (mvT hZ ws) hz.2 Bk qa qc (g := frm G m (pc, L, Sf, σ, u)) rfl (by show (gL _ L).size = _; rw [gL_size, hL, hml]) (Steps.refl _) (argsL := gS G.ρ argsL) (rest := gS G.ρ S)
    (fun sig hsig => by rw [hz.1] at hsig; rw [← C8 sig hsig, ← hn]; simp [gS]) (by show gS _ Sf = _; rw [hS]; simp [gS, gv]) (by rw [sum_gS]; show 2 * 0 + _ ≤ _; omega) (hb hby d.1) (fun _ _ => ⟨rfl, rfl, by show ce + _ ≤ _; omega, by show sl + _ ≤ _; omega⟩)
  dsimp only [Pt.U, Pt.locs, Pt.cells, Pt.slots] at X' l' y' z' st D'
  subst l' y' z' hw'
  refine ⟨T', ⟨_, _, _, ?_, ?_, X', D', N.app N'⟩, fun t k => st.trans ?_⟩
  · show σ'.length = _; omega
  · show u' = _; omega
  · rw [← toL]
    have := d.2
    subst this
    exact k
/-- a private method, by invokevirtual -/
theorem WGo.callP {k : Nat} {Cn : String} {fs : List (WKey × Value)} (d : AtI G.bytes pc (.invokevirtual idx) 3 nx) (C : WCallee G.Z a0 y Gc n) (wl : (Jvm.Cond.methodLink G.own idx y).before a0 G.Z = true) (ws : (Jvm.Cond.instanceMethod y).before a0 G.Z = true) (wsel : (Jvm.Cond.selects y.cls y y).before a0 G.Z = true) (wp : (Jvm.Cond.privateMethod y).before a0 G.Z = true) (hk : σ[k]? = some (.inr (Cn, fs)))
    (H : WGo Gc (0, entryL (.ref k :: argsL) Gc.ml, [], σ, u) Qc) (hG : Gc.1 = G.1) (hj : Gc.j0 = σ.length) (hu : Gc.u0 = u) (hn : argsL.length = n) (hS : Sf = argsL.reverse ++ .ref k :: S) (hL : L.length = G.ml) (hf : Gc.fr + 1 ≤ G.fr) (hl : (S.map Value.category).sum + (Gc.ml + 11) + Gc.lo ≤ G.lo)
    (K : ∀ v σ' u', Qc v σ' u' → WGo G (nx, L, v.toList ++ S, σ', u') Q) : WGo G (pc, L, Sf, σ, u) Q := by
  obtain ⟨v, σ', u', q, r⟩ := H
  refine (K v σ' u' q).s ?_
  have m1 : σ.length ≤ σ'.length := r.1
  have m2 : u ≤ u' := r.2.1
  refine ⟨m1, m2, fun p l e R s m args below meth c hC hc hs T hT => ?_⟩
  obtain ⟨hx, hby, hZ, hown, hnm, hret, hml, hs0, hρ, hinj, hfr, hlo⟩ := hC
  obtain ⟨locs, ce, sl, h1, h2, X, D, N⟩ := hT
  have eZ : Gc.Z = G.Z := congrArg (·.1) hG
  have eρ : Gc.ρ = G.ρ := congrArg (·.2.1) hG
  have en : Gc.n0 = G.n0 := congrArg (·.2.2) hG
  have h1' : σ.length = G.j0 + ce := h1
  have h2' : u = G.u0 + sl := h2
  have hc' : σ'.length ≤ G.j0 + R.cells := hc
  have hs' : u' ≤ G.u0 + R.slots := hs
  have Bk := backFor (p := p) (l := l) (e := e) (R := R) (s := s) (args := args) (below := below) (W := (S.map Value.category).sum) (eZ ▸ C) hj hu (by rw [eρ, en]; exact hρ) (by rw [eρ]; exact hinj) r (by rw [eZ, eρ, en]; exact D) (by rw [eZ]; exact hZ) (Nat.le_trans hf hfr) (Nat.le_trans hl hlo)
  obtain ⟨C1, C2, C3, C4, C5, C6, C7, C8⟩ := C
  rw [eρ, en, eZ] at Bk
  have hE : Exa G.Z T.heap (G.n0 + k) Cn := (D.2.2 k _ hk).1
  rw [← hρ k (D.lt hk)] at hE
  obtain ⟨cq, e1, e2⟩ := hE.cell
  obtain ⟨w, vm1, ⟨T', L', k', n'⟩, -, X', ⟨Lc, ⟨hw', N', D'⟩, l', y', z'⟩, st⟩ := X.privateBack hx (y := y) hown (mvT hZ wl) (mvT hZ ws) (mvT hZ wsel) (Cond.privateMethod_at (mvP hZ wp (args := #[]))) (mvT hZ C7) C2 Bk (g := frm G m (pc, L, Sf, σ, u)) rfl (by show (gL _ L).size = _; rw [gL_size, hL, hml]) (Steps.refl _) (a := G.ρ k) e1 e2 (argsL := gS G.ρ argsL) (rest := gS G.ρ S)
    (fun sig hsig => by rw [← C8 sig hsig, ← hn]; simp [gS]) (by show gS _ Sf = _; rw [hS]; simp [gS, gv]) (by rw [sum_gS]; show 2 * 0 + _ ≤ _; omega) (hb hby d.1) (fun _ _ => ⟨rfl, rfl, by show ce + _ ≤ _; omega, by show sl + _ ≤ _; omega⟩)
  dsimp only [Pt.U, Pt.locs, Pt.cells, Pt.slots] at X' l' y' z' st D'
  subst l' y' z' hw'
  refine ⟨T', ⟨_, _, _, ?_, ?_, X', D', N.app N'⟩, fun t k => st.trans ?_⟩
  · show σ'.length = _; omega
  · show u' = _; omega
  · rw [← toL]
    have := d.2
    subst this
    exact k
end Calls
end Jvm.Sy
namespace Jvm.Sy
open Jvm Jvm.ClassFile Sem Op Lib Jvm.Free Jvm.Stand Jvm.LawKit Jvm.RoadKit Bundle
def LaidAll (Z : State) (a0 : Array Value) (C : String) : List (WKey × Value) → Prop
  | [] => True
  | f :: r => (Laid Z a0 C f.1.1 f.1.2.1 f.1.2.2 ∧ ∃ ty, parseFieldDescriptor f.1.2.2 = some ty ∧ f.2 = defaultValue ty) ∧ LaidAll Z a0 C r
theorem LaidAll.at {Z : State} {a0 : Array Value} {C : String} : ∀ {fs : List (WKey × Value)}, LaidAll Z a0 C fs → ∀ {i : Nat} {f : WKey × Value}, fs[i]? = some f → Laid Z a0 C f.1.1 f.1.2.1 f.1.2.2 ∧ ∃ ty, parseFieldDescriptor f.1.2.2 = some ty ∧ f.2 = defaultValue ty
  | [], _, i, f, h => by simp at h
  | g :: r, H, 0, f, h => by simp at h; subst h; exact H.1
  | g :: r, H, i + 1, f, h => LaidAll.at H.2 (i := i) (by simpa using h)
section HeapOps
variable {G : WMC} {pc nx tgt u idx k i n : Nat} {L : List Slot} {S : List Value} {σ : WHp} {a0 : Array Value} {v w : Value} {j : Int32} {vs : List Value} {ty : FieldType} {fs : List (WKey × Value)} {C O nm dd K : String}
theorem WStep.ldc {z : Int32} (d : AtI G.bytes pc (.ldc idx) 2 nx) (wd : (Jvm.Cond.constant G.own idx z).before a0 G.Z = true) : WStep G (pc, L, S, σ, u) (nx, L, .int z :: S, σ, u) := by
  refine ⟨Nat.le_refl _, Nat.le_refl _, fun p l e R s m args below meth c hC hc hs T hT => ?_⟩
  obtain ⟨hx, hby, hZ, hown, hnm, hret, hml, hs0, hρ, hinj, hfr, hlo⟩ := hC
  obtain ⟨locs, ce, sl, h1, h2, X, D, N⟩ := hT
  obtain ⟨d, rfl⟩ := d
  exact ⟨T, ⟨locs, ce, sl, h1, h2, X, D, N⟩, X.ldcInt hx hown (mvT hZ wd) (g := frm G m (pc, L, S, σ, u)) rfl (hb hby d)⟩
theorem WStep.ldcw {z : Int32} (d : AtI G.bytes pc (.ldc_w idx) 3 nx) (wd : (Jvm.Cond.constant G.own idx z).before a0 G.Z = true) : WStep G (pc, L, S, σ, u) (nx, L, .int z :: S, σ, u) := by
  refine ⟨Nat.le_refl _, Nat.le_refl _, fun p l e R s m args below meth c hC hc hs T hT => ?_⟩
  obtain ⟨hx, hby, hZ, hown, hnm, hret, hml, hs0, hρ, hinj, hfr, hlo⟩ := hC
  obtain ⟨locs, ce, sl, h1, h2, X, D, N⟩ := hT
  obtain ⟨d, rfl⟩ := d
  exact ⟨T, ⟨locs, ce, sl, h1, h2, X, D, N⟩, X.ldcwInt hx hown (mvT hZ wd) (g := frm G m (pc, L, S, σ, u)) rfl (hb hby d)⟩
theorem WStep.ldc2 {z : Int64} (d : AtI G.bytes pc (.ldc2_w idx) 3 nx) (wd : (Jvm.Cond.constantLong G.own idx z).before a0 G.Z = true) : WStep G (pc, L, S, σ, u) (nx, L, .long z :: S, σ, u) := by
  refine ⟨Nat.le_refl _, Nat.le_refl _, fun p l e R s m args below meth c hC hc hs T hT => ?_⟩
  obtain ⟨hx, hby, hZ, hown, hnm, hret, hml, hs0, hρ, hinj, hfr, hlo⟩ := hC
  obtain ⟨locs, ce, sl, h1, h2, X, D, N⟩ := hT
  obtain ⟨d, rfl⟩ := d
  exact ⟨T, ⟨locs, ce, sl, h1, h2, X, D, N⟩, X.ldc2Long hx hown (mvT hZ wd) (g := frm G m (pc, L, S, σ, u)) rfl (hb hby d)⟩
theorem WStep.initO (d : AtI G.bytes pc (.invokespecial idx) 3 nx) (w1 : (Jvm.Cond.methodLink G.own idx Lib.objectInit).before a0 G.Z = true) (w2 : (Jvm.Cond.instanceMethod Lib.objectInit).before a0 G.Z = true) (w3 : (Jvm.Cond.code Lib.objectInit ⟨#[0xb1]⟩ 1 none).before a0 G.Z = true)
    (hL : L.length = G.ml) (hf : 1 ≤ G.fr) (hl : (S.map Value.category).sum + 12 ≤ G.lo) : WStep G (pc, L, .ref k :: S, σ, u) (nx, L, S, σ, u) := by
  refine ⟨Nat.le_refl _, Nat.le_refl _, fun p l e R s m args below meth c hC hc hs T hT => ?_⟩
  obtain ⟨hx, hby, hZ, hown, hnm, hret, hml, hs0, hρ, hinj, hfr, hlo⟩ := hC
  obtain ⟨locs, ce, sl, h1, h2, X, D, N⟩ := hT
  obtain ⟨d, rfl⟩ := d
  obtain ⟨T', X', e', st⟩ := RoadKit.initO X hx hZ hown w1 w2 w3 rfl (g := frm G m (pc, L, .ref k :: S, σ, u)) rfl (by show (gL _ L).size = _; rw [gL_size, hL, hml]) rfl (hb hby d) (Nat.le_trans hf hfr) (W := (S.map Value.category).sum) (by have := sum_gS (ρ := G.ρ) S; unfold gS at this; rw [this]; show 2 * 0 + _ ≤ _; omega) (Nat.le_trans hl hlo)
  exact ⟨T', ⟨locs, ce, sl, h1, h2, X', by rw [e']; exact D, N⟩, st⟩
theorem WStep.getF (i : Nat) (d : AtI G.bytes pc (.getfield idx) 3 nx) (wd : (Jvm.Cond.fieldLink G.own idx O nm dd).before a0 G.Z = true) (hk : σ[k]? = some (.inr (C, fs))) (hi : fs[i]? = some ((O, nm, dd), v)) : WStep G (pc, L, .ref k :: S, σ, u) (nx, L, v :: S, σ, u) := by
  refine ⟨Nat.le_refl _, Nat.le_refl _, fun p l e R s m args below meth c hC hc hs T hT => ?_⟩
  obtain ⟨hx, hby, hZ, hown, hnm, hret, hml, hs0, hρ, hinj, hfr, hlo⟩ := hC
  obtain ⟨locs, ce, sl, h1, h2, X, D, N⟩ := hT
  obtain ⟨d, rfl⟩ := d
  have hko : ObjOk G.Z G.ρ T.heap (G.n0 + k) C fs := D.2.2 k _ hk
  have F := hko.2.1 i _ _ _ _ hi
  rw [← hρ k (D.lt hk)] at F
  obtain ⟨T', X', e', st⟩ := RoadKit.getF X hx hZ hown (host := "") (Or.inl wd) Via.refl rfl F (g := frm G m (pc, L, .ref k :: S, σ, u)) rfl rfl (hb hby d)
  exact ⟨T', ⟨locs, ce, sl, h1, h2, X', by rw [e']; exact D, N⟩, st⟩
theorem WStep.putF (i : Nat) (v' : Value) (d : AtI G.bytes pc (.putfield idx) 3 nx) (wd : (Jvm.Cond.fieldLink G.own idx O nm dd).before a0 G.Z = true) (hk : σ[k]? = some (.inr (C, fs))) (hi : fs[i]? = some ((O, nm, dd), w))
    (hlay : (Jvm.Cond.lays C O nm dd).before a0 G.Z = true ∨ ((Jvm.Cond.laysFinal C O nm dd).before a0 G.Z = true ∧ G.own = O ∧ G.nm = "<init>")) (wi : (Jvm.Cond.instantiable C n).before a0 G.Z = true) (hty : parseFieldDescriptor dd = some ty) (hn : narrow ty v = v') (hf : fits ty v' = true) :
    WStep G (pc, L, v :: .ref k :: S, σ, u) (nx, L, S, σ.set k (.inr (C, fs.set i ((O, nm, dd), v'))), u) := by
  refine ⟨by simp, Nat.le_refl _, fun p l e R s m args below meth c hC hc hs T hT => ?_⟩
  obtain ⟨hx, hby, hZ, hown, hnm, hret, hml, hs0, hρ, hinj, hfr, hlo⟩ := hC
  obtain ⟨locs, ce, sl, h1, h2, X, D, N⟩ := hT
  obtain ⟨d, rfl⟩ := d
  have hko : ObjOk G.Z G.ρ T.heap (G.n0 + k) C fs := D.2.2 k _ hk
  obtain ⟨E, Fs, hNe⟩ := hko
  have F := Fs i _ _ _ _ hi
  have hρk := hρ k (D.lt hk)
  obtain ⟨T', h', X', e', W, st⟩ := putFN X hx hZ hown (v := gv G.ρ v) (v' := gv G.ρ v') wd Via.refl rfl F E (hlay.imp id fun q => ⟨q.1, q.2.1, hnm.trans q.2.2⟩) wi hty (by rw [narrow_gv, hn]) (by rw [fits_gv, hf]) (g := frm G m (pc, L, v :: .ref k :: S, σ, u)) rfl (by show gv _ v :: Value.ref (G.ρ k) :: _ = _; rw [hρk]) (hb hby d)
  subst e'
  refine ⟨T', ⟨_, ce, sl, by simpa using h1, h2, X', D.put W ?_, N.app fun y hy => by cases List.mem_singleton.mp hy; exact Nat.le_add_right _ _⟩, st⟩
  have hlt := (List.getElem?_eq_some_iff.mp hi).1
  refine ⟨E.wr W, fun i' O' n' d' y hy => ?_, fun i1 i2 k1 k2 v1 v2 ne q1 q2 => ?_⟩
  · by_cases q : i' = i
    · subst q
      rw [List.getElem?_set_self hlt] at hy
      cases hy
      exact F.same W
    · rw [List.getElem?_set_ne (Ne.symm q)] at hy
      have hne : RoadKit.slotOf G.Z O' n' d' ≠ RoadKit.slotOf G.Z O nm dd := hNe i' i (O', n', d') (O, nm, dd) y w q hy hi
      exact (Fs i' O' n' d' y hy).other W (Or.inr hne)
  · have key : ∀ {i' : Nat} {k' : WKey} {v' : Value}, (fs.set i ((O, nm, dd), v'))[i']? = some (k', v1) → ∃ v'', fs[i']? = some (k', v'') := by
      intro i' k' v' hh
      by_cases q : i' = i
      · subst q
        rw [List.getElem?_set_self hlt] at hh
        cases hh
        exact ⟨_, hi⟩
      · rw [List.getElem?_set_ne (fun z => q z.symm)] at hh
        exact ⟨_, hh⟩
    have key2 : ∀ {i' : Nat} {k' : WKey} {v' : Value}, (fs.set i ((O, nm, dd), v'))[i']? = some (k', v2) → ∃ v'', fs[i']? = some (k', v'') := by
      intro i' k' v' hh
      by_cases q : i' = i
      · subst q
        rw [List.getElem?_set_self hlt] at hh
        cases hh
        exact ⟨_, hi⟩
      · rw [List.getElem?_set_ne (fun z => q z.symm)] at hh
        exact ⟨_, hh⟩
    obtain ⟨_, r1⟩ := key q1
    obtain ⟨_, r2⟩ := key2 q2
    exact hNe i1 i2 _ _ _ _ ne r1 r2
theorem WStep.newO (fs : List (WKey × Value)) (d : AtI G.bytes pc (.new idx) 3 nx) (w1 : (Jvm.Cond.classLink G.own idx C).before a0 G.Z = true) (w2 : (Jvm.Cond.instantiable C n).before a0 G.Z = true) (w3 : (Jvm.Cond.initialized C).before a0 G.Z = true)
    (hfs : LaidAll G.Z a0 C fs) (hnd : (fs.map fun f => f.1.2.1).Nodup) (hlen : σ.length = k) (hk : k < 1000) : WStep G (pc, L, S, σ, u) (nx, L, .ref k :: S, σ ++ [.inr (C, fs)], u + n) := by
  refine ⟨by simp, Nat.le_add_right _ _, fun p l e R s m args below meth c hC hc hs T hT => ?_⟩
  obtain ⟨hx, hby, hZ, hown, hnm, hret, hml, hs0, hρ, hinj, hfr, hlo⟩ := hC
  obtain ⟨locs, ce, sl, h1, h2, X, D, N⟩ := hT
  obtain ⟨d, rfl⟩ := d
  subst hlen
  have h1' : σ.length = G.j0 + ce := h1
  have h2' : u = G.u0 + sl := h2
  have hc' : σ.length + 1 ≤ G.j0 + R.cells := by simpa using hc
  have hs' : u + n ≤ G.u0 + R.slots := hs
  have eS : T.heap.size = G.n0 + σ.length := D.1
  obtain ⟨T', h', X', e', E, A, Dv, -, st⟩ := RoadKit.newO X hx hZ hown w1 w2 w3 rfl (g := frm G m (pc, L, S, σ, u)) rfl (hb hby d) (by omega) (by omega)
  subst e'
  have hsz : T'.heap.size = T.heap.size + 1 := by
    have a1 := X'.heapSize
    have a2 : T.heap.size < T'.heap.size := A.lt
    have a3 : s.heap.size = G.n0 + G.j0 := hs0
    omega
  rw [eS] at A Dv
  have eρ : G.ρ σ.length = T.heap.size := by rw [hρ _ hk, eS]
  refine ⟨T', ⟨locs, ce + 1, sl + n, by simp; omega, by show u + n = _; omega, X', D.push E hsz hk ⟨A, fun i O' n' d' y hy => ?_, fun i1 i2 k1 k2 v1 v2 ne q1 q2 => ?_⟩, N⟩, fun t kt => st t ?_⟩
  · obtain ⟨LL, ty, p1, p2⟩ := hfs.at hy
    have := Dv LL p1
    dsimp only at p2
    rw [p2, dv_gv]
    exact this
  · obtain ⟨LL, ty, p1, p2⟩ := hfs.at q1
    obtain ⟨LL', ty', p1', p2'⟩ := hfs.at q2
    refine slot_ne LL LL' (fun e => ne ?_) p1 p1'
    have b1 := (List.getElem?_eq_some_iff.mp q1).1
    have b2 := (List.getElem?_eq_some_iff.mp q2).1
    refine (List.getElem?_inj (l := fs.map fun f => f.1.2.1) (i := i1) (j := i2) (by simpa using b1) hnd).mp ?_
    rw [List.getElem?_map, List.getElem?_map, q1, q2]
    exact congrArg some e
  · rw [← eρ]; exact kt
theorem WStep.newP {aty : ArrayType} (n : Int32) (m : Nat) (d : AtI G.bytes pc (.newarray aty) 2 nx) (w1 : (Jvm.Cond.arrayClass (newarray.typeOf aty)).before a0 G.Z = true) (hn : ¬ n < 0) (hm : n.toNatClampNeg = m) (hb8 : m * 8 ≤ 536870912) (hlen : σ.length = k) (hk : k < 1000) :
    WStep G (pc, L, .int n :: S, σ, u) (nx, L, .ref k :: S, σ ++ [.inl (newarray.typeOf aty, List.replicate m (defaultValue (newarray.typeOf aty)))], u + m) := by
  refine ⟨by simp, Nat.le_add_right _ _, fun p l e R s me args below meth c hC hc hs T hT => ?_⟩
  obtain ⟨hx, hby, hZ, hown, hnm, hret, hml, hs0, hρ, hinj, hfr, hlo⟩ := hC
  obtain ⟨locs, ce, sl, h1, h2, X, D, N⟩ := hT
  obtain ⟨d, rfl⟩ := d
  subst hlen
  have h1' : σ.length = G.j0 + ce := h1
  have h2' : u = G.u0 + sl := h2
  have hc' : σ.length + 1 ≤ G.j0 + R.cells := by simpa using hc
  have hs' : u + m ≤ G.u0 + R.slots := hs
  have eS : T.heap.size = G.n0 + σ.length := D.1
  obtain ⟨T', h', cA, X', e', E, A, st⟩ := RoadKit.newP X hx hZ w1 rfl (g := frm G me (pc, L, .int n :: S, σ, u)) rfl (hb hby d) rfl hn (cap := m) (by omega) hb8 (by omega) (by omega)
  subst e'
  have hsz : T'.heap.size = T.heap.size + 1 := by
    have a1 := X'.heapSize
    have a2 : T.heap.size < T'.heap.size := A.lt
    have a3 : s.heap.size = G.n0 + G.j0 := hs0
    omega
  rw [eS] at A
  have eρ : G.ρ σ.length = T.heap.size := by rw [hρ _ hk, eS]
  refine ⟨T', ⟨locs, ce + 1, sl + m, by simp; omega, by show u + m = _; omega, X', D.push E hsz hk ⟨_, A, ?_, ?_, ?_⟩, N⟩, fun t kt => st t ?_⟩
  · simp [newA, hm, dv_gv]
  · intro C hC; cases aty <;> cases hC
  · intro y hy
    rw [List.eq_of_mem_replicate hy]
    cases aty <;> rfl
  · rw [← eρ]; exact kt
theorem WStep.newR (n : Int32) (m : Nat) (d : AtI G.bytes pc (.anewarray idx) 3 nx) (w1 : (Jvm.Cond.classLink G.own idx C).before a0 G.Z = true) (w2 : (Jvm.Cond.arrayOver (.object C)).before a0 G.Z = true) (hn : ¬ n < 0) (hm : n.toNatClampNeg = m) (hb8 : m * 8 ≤ 536870912) (hlen : σ.length = k) (hk : k < 1000) :
    WStep G (pc, L, .int n :: S, σ, u) (nx, L, .ref k :: S, σ ++ [.inl (.object C, List.replicate m .null)], u + m) := by
  refine ⟨by simp, Nat.le_add_right _ _, fun p l e R s me args below meth c hC hc hs T hT => ?_⟩
  obtain ⟨hx, hby, hZ, hown, hnm, hret, hml, hs0, hρ, hinj, hfr, hlo⟩ := hC
  obtain ⟨locs, ce, sl, h1, h2, X, D, N⟩ := hT
  obtain ⟨d, rfl⟩ := d
  subst hlen
  have h1' : σ.length = G.j0 + ce := h1
  have h2' : u = G.u0 + sl := h2
  have hc' : σ.length + 1 ≤ G.j0 + R.cells := by simpa using hc
  have hs' : u + m ≤ G.u0 + R.slots := hs
  have eS : T.heap.size = G.n0 + σ.length := D.1
  obtain ⟨T', h', cA, X', e', E, A, hO, st⟩ := RoadKit.newR X hx hZ hown w1 w2 rfl (g := frm G me (pc, L, .int n :: S, σ, u)) rfl (hb hby d) rfl hn (cap := m) (by omega) hb8 (by omega) (by omega)
  subst e'
  have hsz : T'.heap.size = T.heap.size + 1 := by
    have a1 := X'.heapSize
    have a2 : T.heap.size < T'.heap.size := A.lt
    have a3 : s.heap.size = G.n0 + G.j0 := hs0
    omega
  rw [eS] at A
  have eρ : G.ρ σ.length = T.heap.size := by rw [hρ _ hk, eS]
  refine ⟨T', ⟨locs, ce + 1, sl + m, by simp; omega, by show u + m = _; omega, X', D.push E hsz hk ⟨_, A, ?_, ?_, ?_⟩, N⟩, fun t kt => st t ?_⟩
  · simp [newA, hm, defaultValue, gv]
  · intro C' hC; cases hC; exact hO
  · intro y hy
    rw [List.eq_of_mem_replicate hy]
    rfl
  · rw [← eρ]; exact kt
theorem WStep.alen (z : Int32) (d : AtI G.bytes pc .arraylength 1 nx) (hk : σ[k]? = some (.inl (ty, vs))) (hz : vs.length.toInt32 = z) : WStep G (pc, L, .ref k :: S, σ, u) (nx, L, .int z :: S, σ, u) := by
  refine ⟨Nat.le_refl _, Nat.le_refl _, fun p l e R s m args below meth c hC hc hs T hT => ?_⟩
  obtain ⟨hx, hby, hZ, hown, hnm, hret, hml, hs0, hρ, hinj, hfr, hlo⟩ := hC
  obtain ⟨locs, ce, sl, h1, h2, X, D, N⟩ := hT
  obtain ⟨d, rfl⟩ := d
  obtain ⟨cl, A, eC, -⟩ : ArrOk G.Z G.ρ T.heap (G.n0 + k) ty vs := D.2.2 k _ hk
  rw [← hρ k (D.lt hk)] at A
  refine ⟨T, ⟨locs, ce, sl, h1, h2, X, D, N⟩, fun t kt => X.arraylength hx A.1 (State.isArrayOf_alike hZ.alike A.2.1) (g := frm G m (pc, L, .ref k :: S, σ, u)) rfl rfl (hb hby d) t ?_⟩
  rw [ArrOk.size (ty := ty) eC, hz]
  exact kt
theorem WStep.iaload (i : Nat) (d : AtI G.bytes pc .iaload 1 nx) (hk : σ[k]? = some (.inl (.int, vs))) (hj : ¬ j < 0) (hi : j.toNatClampNeg = i) (hv : vs[i]? = some v) : WStep G (pc, L, .int j :: .ref k :: S, σ, u) (nx, L, v :: S, σ, u) := by
  refine ⟨Nat.le_refl _, Nat.le_refl _, fun p l e R s m args below meth c hC hc hs T hT => ?_⟩
  obtain ⟨hx, hby, hZ, hown, hnm, hret, hml, hs0, hρ, hinj, hfr, hlo⟩ := hC
  obtain ⟨locs, ce, sl, h1, h2, X, D, N⟩ := hT
  obtain ⟨d, rfl⟩ := d
  obtain ⟨cl, A, eC, -⟩ : ArrOk G.Z G.ρ T.heap (G.n0 + k) .int vs := D.2.2 k _ hk
  rw [← hρ k (D.lt hk)] at A
  have hlt := (List.getElem?_eq_some_iff.mp hv).1
  exact ⟨T, ⟨locs, ce, sl, h1, h2, X, D, N⟩, fun t kt => X.iaload hx (j := j) (v := gv G.ρ v) A.1 (State.isArrayOf_alike hZ.alike A.2.1) A.2.2 (fun q => q.elim hj fun q => by rw [ArrOk.size (ty := .int) eC, hi] at q; omega) (by rw [hi]; exact ArrOk.at eC hv) (g := frm G m (pc, L, .int j :: .ref k :: S, σ, u)) rfl rfl (hb hby d) t kt⟩
theorem WStep.laload (i : Nat) (d : AtI G.bytes pc .laload 1 nx) (hk : σ[k]? = some (.inl (.long, vs))) (hj : ¬ j < 0) (hi : j.toNatClampNeg = i) (hv : vs[i]? = some v) : WStep G (pc, L, .int j :: .ref k :: S, σ, u) (nx, L, v :: S, σ, u) := by
  refine ⟨Nat.le_refl _, Nat.le_refl _, fun p l e R s m args below meth c hC hc hs T hT => ?_⟩
  obtain ⟨hx, hby, hZ, hown, hnm, hret, hml, hs0, hρ, hinj, hfr, hlo⟩ := hC
  obtain ⟨locs, ce, sl, h1, h2, X, D, N⟩ := hT
  obtain ⟨d, rfl⟩ := d
  obtain ⟨cl, A, eC, -⟩ : ArrOk G.Z G.ρ T.heap (G.n0 + k) .long vs := D.2.2 k _ hk
  rw [← hρ k (D.lt hk)] at A
  have hlt := (List.getElem?_eq_some_iff.mp hv).1
  exact ⟨T, ⟨locs, ce, sl, h1, h2, X, D, N⟩, fun t kt => X.laload hx (j := j) (v := gv G.ρ v) A.1 (State.isArrayOf_alike hZ.alike A.2.1) A.2.2 (fun q => q.elim hj fun q => by rw [ArrOk.size (ty := .long) eC, hi] at q; omega) (by rw [hi]; exact ArrOk.at eC hv) (g := frm G m (pc, L, .int j :: .ref k :: S, σ, u)) rfl rfl (hb hby d) t kt⟩
theorem WStep.caload (i : Nat) (d : AtI G.bytes pc .caload 1 nx) (hk : σ[k]? = some (.inl (.char, vs))) (hj : ¬ j < 0) (hi : j.toNatClampNeg = i) (hv : vs[i]? = some v) : WStep G (pc, L, .int j :: .ref k :: S, σ, u) (nx, L, v :: S, σ, u) := by
  refine ⟨Nat.le_refl _, Nat.le_refl _, fun p l e R s m args below meth c hC hc hs T hT => ?_⟩
  obtain ⟨hx, hby, hZ, hown, hnm, hret, hml, hs0, hρ, hinj, hfr, hlo⟩ := hC
  obtain ⟨locs, ce, sl, h1, h2, X, D, N⟩ := hT
  obtain ⟨d, rfl⟩ := d
  obtain ⟨cl, A, eC, -⟩ : ArrOk G.Z G.ρ T.heap (G.n0 + k) .char vs := D.2.2 k _ hk
  rw [← hρ k (D.lt hk)] at A
  have hlt := (List.getElem?_eq_some_iff.mp hv).1
  exact ⟨T, ⟨locs, ce, sl, h1, h2, X, D, N⟩, fun t kt => X.caload hx (j := j) (v := gv G.ρ v) A.1 (State.isArrayOf_alike hZ.alike A.2.1) A.2.2 (fun q => q.elim hj fun q => by rw [ArrOk.size (ty := .char) eC, hi] at q; omega) (by rw [hi]; exact ArrOk.at eC hv) (g := frm G m (pc, L, .int j :: .ref k :: S, σ, u)) rfl rfl (hb hby d) t kt⟩
theorem WStep.aaload (i : Nat) (d : AtI G.bytes pc .aaload 1 nx) (hk : σ[k]? = some (.inl (ty, vs))) (hty : ty.isReference = true) (hj : ¬ j < 0) (hi : j.toNatClampNeg = i) (hv : vs[i]? = some v) : WStep G (pc, L, .int j :: .ref k :: S, σ, u) (nx, L, v :: S, σ, u) := by
  refine ⟨Nat.le_refl _, Nat.le_refl _, fun p l e R s m args below meth c hC hc hs T hT => ?_⟩
  obtain ⟨hx, hby, hZ, hown, hnm, hret, hml, hs0, hρ, hinj, hfr, hlo⟩ := hC
  obtain ⟨locs, ce, sl, h1, h2, X, D, N⟩ := hT
  obtain ⟨d, rfl⟩ := d
  obtain ⟨cl, A, eC, -⟩ : ArrOk G.Z G.ρ T.heap (G.n0 + k) ty vs := D.2.2 k _ hk
  rw [← hρ k (D.lt hk)] at A
  have hlt := (List.getElem?_eq_some_iff.mp hv).1
  exact ⟨T, ⟨locs, ce, sl, h1, h2, X, D, N⟩, fun t kt => X.aaload hx (j := j) (v := gv G.ρ v) A.1 (State.isArrayOf_alike hZ.alike A.2.1) hty A.2.2 (fun q => q.elim hj fun q => by rw [ArrOk.size (ty := ty) eC, hi] at q; omega) (by rw [hi]; exact ArrOk.at eC hv) (g := frm G m (pc, L, .int j :: .ref k :: S, σ, u)) rfl rfl (hb hby d) t kt⟩
theorem WStep.iastore {z : Int32} (i : Nat) (d : AtI G.bytes pc .iastore 1 nx) (hk : σ[k]? = some (.inl (.int, vs))) (hj : ¬ j < 0) (hi : j.toNatClampNeg = i) (hlt : i < vs.length) : WStep G (pc, L, .int z :: .int j :: .ref k :: S, σ, u) (nx, L, S, σ.set k (.inl (.int, vs.set i (.int z))), u) := by
  refine ⟨by simp, Nat.le_refl _, fun p l e R s m args below meth c hC hc hs T hT => ?_⟩
  obtain ⟨hx, hby, hZ, hown, hnm, hret, hml, hs0, hρ, hinj, hfr, hlo⟩ := hC
  obtain ⟨locs, ce, sl, h1, h2, X, D, N⟩ := hT
  obtain ⟨d, rfl⟩ := d
  obtain ⟨cl, A, eC, hO, hF⟩ : ArrOk G.Z G.ρ T.heap (G.n0 + k) .int vs := D.2.2 k _ hk
  have hρk := hρ k (D.lt hk)
  obtain ⟨T', h', X', e', W, st⟩ := stI X hx hZ rfl A (j := j) (x := z) (fun q => q.elim hj fun q => by rw [ArrOk.size (ty := .int) eC, hi] at q; omega) (g := frm G m (pc, L, .int z :: .int j :: .ref k :: S, σ, u)) rfl (by show _ :: _ :: Value.ref (G.ρ k) :: _ = _; rw [hρk]; rfl) (hb hby d)
  subst e'
  rw [hi] at W
  exact ⟨T', ⟨_, ce, sl, by simpa using h1, h2, X', D.put W (ArrOk.set (w := .int z) A eC hO hF W (rfl)), N.app fun y hy => by cases List.mem_singleton.mp hy; exact Nat.le_add_right _ _⟩, st⟩
theorem WStep.lastore {z : Int64} (i : Nat) (d : AtI G.bytes pc .lastore 1 nx) (hk : σ[k]? = some (.inl (.long, vs))) (hj : ¬ j < 0) (hi : j.toNatClampNeg = i) (hlt : i < vs.length) : WStep G (pc, L, .long z :: .int j :: .ref k :: S, σ, u) (nx, L, S, σ.set k (.inl (.long, vs.set i (.long z))), u) := by
  refine ⟨by simp, Nat.le_refl _, fun p l e R s m args below meth c hC hc hs T hT => ?_⟩
  obtain ⟨hx, hby, hZ, hown, hnm, hret, hml, hs0, hρ, hinj, hfr, hlo⟩ := hC
  obtain ⟨locs, ce, sl, h1, h2, X, D, N⟩ := hT
  obtain ⟨d, rfl⟩ := d
  obtain ⟨cl, A, eC, hO, hF⟩ : ArrOk G.Z G.ρ T.heap (G.n0 + k) .long vs := D.2.2 k _ hk
  have hρk := hρ k (D.lt hk)
  obtain ⟨T', h', X', e', W, st⟩ := stJ X hx hZ rfl A (j := j) (x := z) (fun q => q.elim hj fun q => by rw [ArrOk.size (ty := .long) eC, hi] at q; omega) (g := frm G m (pc, L, .long z :: .int j :: .ref k :: S, σ, u)) rfl (by show _ :: _ :: Value.ref (G.ρ k) :: _ = _; rw [hρk]; rfl) (hb hby d)
  subst e'
  rw [hi] at W
  exact ⟨T', ⟨_, ce, sl, by simpa using h1, h2, X', D.put W (ArrOk.set (w := .long z) A eC hO hF W (rfl)), N.app fun y hy => by cases List.mem_singleton.mp hy; exact Nat.le_add_right _ _⟩, st⟩
theorem WStep.castore {z : Int32} (i : Nat) (d : AtI G.bytes pc .castore 1 nx) (hk : σ[k]? = some (.inl (.char, vs))) (hj : ¬ j < 0) (hi : j.toNatClampNeg = i) (hlt : i < vs.length) : WStep G (pc, L, .int z :: .int j :: .ref k :: S, σ, u) (nx, L, S, σ.set k (.inl (.char, vs.set i (.int (nar .char z)))), u) := by
  refine ⟨by simp, Nat.le_refl _, fun p l e R s m args below meth c hC hc hs T hT => ?_⟩
  obtain ⟨hx, hby, hZ, hown, hnm, hret, hml, hs0, hρ, hinj, hfr, hlo⟩ := hC
  obtain ⟨locs, ce, sl, h1, h2, X, D, N⟩ := hT
  obtain ⟨d, rfl⟩ := d
  obtain ⟨cl, A, eC, hO, hF⟩ : ArrOk G.Z G.ρ T.heap (G.n0 + k) .char vs := D.2.2 k _ hk
  have hρk := hρ k (D.lt hk)
  obtain ⟨T', h', X', e', W, st⟩ := stC X hx hZ rfl A (j := j) (x := z) (fun q => q.elim hj fun q => by rw [ArrOk.size (ty := .char) eC, hi] at q; omega) (g := frm G m (pc, L, .int z :: .int j :: .ref k :: S, σ, u)) rfl (by show _ :: _ :: Value.ref (G.ρ k) :: _ = _; rw [hρk]; rfl) (hb hby d)
  subst e'
  rw [hi] at W
  exact ⟨T', ⟨_, ce, sl, by simpa using h1, h2, X', D.put W (ArrOk.set (w := .int (nar .char z)) A eC hO hF W (fits_nar_char z)), N.app fun y hy => by cases List.mem_singleton.mp hy; exact Nat.le_add_right _ _⟩, st⟩
theorem WStep.aastoreN (i : Nat) (d : AtI G.bytes pc .aastore 1 nx) (hk : σ[k]? = some (.inl (ty, vs))) (hty : ty.isReference = true) (hj : ¬ j < 0) (hi : j.toNatClampNeg = i) (hlt : i < vs.length) : WStep G (pc, L, .null :: .int j :: .ref k :: S, σ, u) (nx, L, S, σ.set k (.inl (ty, vs.set i .null)), u) := by
  refine ⟨by simp, Nat.le_refl _, fun p l e R s m args below meth c hC hc hs T hT => ?_⟩
  obtain ⟨hx, hby, hZ, hown, hnm, hret, hml, hs0, hρ, hinj, hfr, hlo⟩ := hC
  obtain ⟨locs, ce, sl, h1, h2, X, D, N⟩ := hT
  obtain ⟨d, rfl⟩ := d
  obtain ⟨cl, A, eC, hO, hF⟩ : ArrOk G.Z G.ρ T.heap (G.n0 + k) ty vs := D.2.2 k _ hk
  have hρk := hρ k (D.lt hk)
  obtain ⟨T', h', X', e', W, st⟩ := stR X hx hZ rfl A (j := j) (v := .null) (fun q => q.elim hj fun q => by rw [ArrOk.size (ty := ty) eC, hi] at q; omega) hty (Or.inl rfl) (g := frm G m (pc, L, .null :: .int j :: .ref k :: S, σ, u)) rfl (by show _ :: _ :: Value.ref (G.ρ k) :: _ = _; rw [hρk]; rfl) (hb hby d)
  subst e'
  rw [hi] at W
  exact ⟨T', ⟨_, ce, sl, by simpa using h1, h2, X', D.put W (ArrOk.set (w := .null) A eC hO hF W (by cases ty <;> first | rfl | cases hty)), N.app fun y hy => by cases List.mem_singleton.mp hy; exact Nat.le_add_right _ _⟩, st⟩
theorem WStep.aastore {k2 : Nat} (i : Nat) (d : AtI G.bytes pc .aastore 1 nx) (hk : σ[k]? = some (.inl (.object C, vs))) (hk2 : σ[k2]? = some (.inr (C, fs))) (hj : ¬ j < 0) (hi : j.toNatClampNeg = i) (hlt : i < vs.length) : WStep G (pc, L, .ref k2 :: .int j :: .ref k :: S, σ, u) (nx, L, S, σ.set k (.inl (.object C, vs.set i (.ref k2))), u) := by
  refine ⟨by simp, Nat.le_refl _, fun p l e R s m args below meth c hC hc hs T hT => ?_⟩
  obtain ⟨hx, hby, hZ, hown, hnm, hret, hml, hs0, hρ, hinj, hfr, hlo⟩ := hC
  obtain ⟨locs, ce, sl, h1, h2, X, D, N⟩ := hT
  obtain ⟨d, rfl⟩ := d
  obtain ⟨cl, A, eC, hO, hF⟩ : ArrOk G.Z G.ρ T.heap (G.n0 + k) (.object C) vs := D.2.2 k _ hk
  have hρk := hρ k (D.lt hk)
  have hE : Exa G.Z T.heap (G.n0 + k2) C := (D.2.2 k2 _ hk2).1
  rw [← hρ k2 (D.lt hk2)] at hE
  obtain ⟨T', h', X', e', W, st⟩ := stR X hx hZ rfl A (j := j) (v := .ref (G.ρ k2)) (fun q => q.elim hj fun q => by rw [ArrOk.size (ty := .object C) eC, hi] at q; omega) rfl (Sto.of A (hO C rfl) (Ins.self hE)) (g := frm G m (pc, L, .ref k2 :: .int j :: .ref k :: S, σ, u)) rfl (by show _ :: _ :: Value.ref (G.ρ k) :: _ = _; rw [hρk]; rfl) (hb hby d)
  subst e'
  rw [hi] at W
  exact ⟨T', ⟨_, ce, sl, by simpa using h1, h2, X', D.put W (ArrOk.set (w := .ref k2) A eC hO hF W rfl), N.app fun y hy => by cases List.mem_singleton.mp hy; exact Nat.le_add_right _ _⟩, st⟩
theorem WStep.acmp {cd : ACond} {x y : Value} (same : Bool) (pc' : Nat) (d : AtJ G.bytes pc (.if_acmp cd) nx tgt) (h1 : x.isRef = true) (h2 : y.isRef = true) (hq : decide (x = y) = same) (hp : pc' = if acV cd same = true then tgt else nx) : WStep G (pc, L, y :: x :: S, σ, u) (pc', L, S, σ, u) := by
  refine ⟨Nat.le_refl _, Nat.le_refl _, fun p l e R s m args below meth c hC hc hs T hT => ⟨T, hT, fun t kt => ?_⟩⟩
  obtain ⟨hx, hby, hZ, hown, hnm, hret, hml, hs0, hρ, hinj, hfr, hlo⟩ := hC
  obtain ⟨locs, ce, sl, z1, z2, X, D, N⟩ := hT
  obtain ⟨o, d, e1, h0, e2⟩ := d
  refine RoadKit.acmp (g := frm G m (pc, L, y :: x :: S, σ, u)) X hx rfl (isRef_gv.trans h1) (isRef_gv.trans h2) (pc0 := pc) (pc' := pc') (same := same) rfl (hb hby d) rfl ?_ h0 (by rw [hp, e1, e2]) kt
  rw [← hq]
  by_cases q : x = y
  · simp [q]
  · simp only [q, decide_false, decide_eq_false_iff_not]
    exact fun z => q (gv_inj hinj z)
theorem WStep.castN (d : AtI G.bytes pc (.checkcast idx) 3 nx) : WStep G (pc, L, .null :: S, σ, u) (nx, L, .null :: S, σ, u) := by
  refine ⟨Nat.le_refl _, Nat.le_refl _, fun p l e R s m args below meth c hC hc hs T hT => ?_⟩
  obtain ⟨hx, hby, hZ, hown, hnm, hret, hml, hs0, hρ, hinj, hfr, hlo⟩ := hC
  obtain ⟨locs, ce, sl, h1, h2, X, D, N⟩ := hT
  obtain ⟨d, rfl⟩ := d
  exact ⟨T, ⟨locs, ce, sl, h1, h2, X, D, N⟩, X.checkcastNull hx (g := frm G m (pc, L, .null :: S, σ, u)) rfl rfl (hb hby d)⟩
theorem WStep.castY (d : AtI G.bytes pc (.checkcast idx) 3 nx) (w1 : (Jvm.Cond.classLink G.own idx K).before a0 G.Z = true) (hk : σ[k]? = some (.inr (C, fs))) (hw : C = K ∨ (Jvm.Cond.castable C K).before a0 G.Z = true) : WStep G (pc, L, .ref k :: S, σ, u) (nx, L, .ref k :: S, σ, u) := by
  refine ⟨Nat.le_refl _, Nat.le_refl _, fun p l e R s m args below meth c hC hc hs T hT => ?_⟩
  obtain ⟨hx, hby, hZ, hown, hnm, hret, hml, hs0, hρ, hinj, hfr, hlo⟩ := hC
  obtain ⟨locs, ce, sl, h1, h2, X, D, N⟩ := hT
  obtain ⟨d, rfl⟩ := d
  have hE : Exa G.Z T.heap (G.n0 + k) C := (D.2.2 k _ hk).1
  rw [← hρ k (D.lt hk)] at hE
  have hI : Ins G.Z T.heap (G.ρ k) K true := by
    rcases hw with rfl | hw
    · exact Ins.self hE
    · exact Ins.of_exa hE hw
  obtain ⟨T', X', e', st⟩ := RoadKit.castY X hx hZ hown w1 rfl hI (g := frm G m (pc, L, .ref k :: S, σ, u)) rfl rfl (hb hby d)
  exact ⟨T', ⟨locs, ce, sl, h1, h2, X', by rw [e']; exact D, N⟩, st⟩
end HeapOps
end Jvm.Sy

namespace Jvm.Sy
open Jvm Jvm.RoadKit
theorem fin_all {n : Nat} (hn : n ≤ 2 ^ 31) {P : Int32 → Prop} (h : ∀ k : Fin n, P (Int32.ofNat k.val)) (c : Int32) (h0 : 0 ≤ c.toInt) (h1 : c.toInt < n) : P c := by
  have e : c = Int32.ofNat c.toInt.toNat := by
    apply Int32.toInt_inj.mp
    rw [Int32.toInt_ofNat_small (by omega)]
    omega
  rw [e]
  exact h ⟨c.toInt.toNat, by omega⟩
/-- ints in an array -/
def ia (ks : List Int32) : List Value := ks.map Value.int
theorem ia_len (ks : List Int32) : (ia ks).length = ks.length := by simp [ia]
theorem ia_ex (ks : List Int32) (i : Nat) (h : i < ks.length) : ∃ e, ks[i]? = some e ∧ (ia ks)[i]? = some (.int e) := ⟨ks[i], by simp [h], by simp [ia, h]⟩
theorem ia_get {ks : List Int32} {i : Nat} {e : Int32} (h : ks[i]? = some e) : (ia ks)[i]? = some (.int e) := by simp [ia, h]
theorem ia_set (ks : List Int32) (i : Nat) (x : Int32) : (ia ks).set i (.int x) = ia (ks.set i x) := by simp [ia, List.map_set]
theorem nn {j : Int32} (h0 : 0 ≤ j.toInt) : ¬ j < 0 := by rw [Int32.lt_iff_toInt_lt]; have : (0 : Int32).toInt = 0 := rfl; omega
theorem nlt {j : Int32} {n : Nat} (h0 : 0 ≤ j.toInt) (h1 : j.toInt < n) : j.toNatClampNeg < n := by simp only [Int32.toNatClampNeg]; omega
/-- a boolean's contract: nothing is written -/
def QB (P : Prop) (σ : WHp) (u : Nat) (v : Option Value) (σ' : WHp) (u' : Nat) : Prop := (v = some (.int 1) ∧ P ∨ v = some (.int 0) ∧ ¬ P) ∧ σ = σ' ∧ u = u'
theorem QB.yes {P : Prop} {σ : WHp} {u : Nat} (h : P) : QB P σ u (some (.int 1)) σ u := ⟨Or.inl ⟨rfl, h⟩, rfl, rfl⟩
theorem QB.no {P : Prop} {σ : WHp} {u : Nat} (h : ¬ P) : QB P σ u (some (.int 0)) σ u := ⟨Or.inr ⟨rfl, h⟩, rfl, rfl⟩
end Jvm.Sy

namespace Jvm.Pilot.@@N@@
open Jvm Jvm.ClassFile Sem Op Lib Jvm.Free Jvm.Stand Jvm.LawKit Jvm.RoadKit Bundle Jvm.Sy Jvm.Pilot.@@N@@.Jvm.D

abbrev g1 (Z : State) (ρ : Nat → Nat) (n0 j0 u0 : Nat) : WMC := ((Z, ρ, n0), ("com/example/coarsen/coarsen/abstraction/ShareSpace", prog_16_method_15_code, "andNot", (some (.array .long)), 4), (j0, u0, 0, 0))
theorem a1_0 : AtI prog_16_method_15_code 0 (.aload_n 0) 1 1 := ⟨by decide +kernel, rfl⟩
theorem a1_1 : AtI prog_16_method_15_code 1 (.arraylength) 1 2 := ⟨by decide +kernel, rfl⟩
theorem a1_2 : AtI prog_16_method_15_code 2 (.newarray .long) 2 4 := ⟨by decide +kernel, rfl⟩
theorem a1_4 : AtI prog_16_method_15_code 4 (.astore_n 2) 1 5 := ⟨by decide +kernel, rfl⟩
theorem a1_5 : AtI prog_16_method_15_code 5 (.iconst 0) 1 6 := ⟨by decide +kernel, rfl⟩
theorem a1_6 : AtI prog_16_method_15_code 6 (.istore_n 3) 1 7 := ⟨by decide +kernel, rfl⟩
theorem a1_7 : AtI prog_16_method_15_code 7 (.iload_n 3) 1 8 := ⟨by decide +kernel, rfl⟩
theorem a1_8 : AtI prog_16_method_15_code 8 (.aload_n 2) 1 9 := ⟨by decide +kernel, rfl⟩
theorem a1_9 : AtI prog_16_method_15_code 9 (.arraylength) 1 10 := ⟨by decide +kernel, rfl⟩
theorem a1_10 : AtJ prog_16_method_15_code 10 (.if_icmp .ge) 13 33 := ⟨23, by decide +kernel, rfl, by decide, rfl⟩
theorem a1_13 : AtI prog_16_method_15_code 13 (.aload_n 2) 1 14 := ⟨by decide +kernel, rfl⟩
theorem a1_14 : AtI prog_16_method_15_code 14 (.iload_n 3) 1 15 := ⟨by decide +kernel, rfl⟩
theorem a1_15 : AtI prog_16_method_15_code 15 (.aload_n 0) 1 16 := ⟨by decide +kernel, rfl⟩
theorem a1_16 : AtI prog_16_method_15_code 16 (.iload_n 3) 1 17 := ⟨by decide +kernel, rfl⟩
theorem a1_17 : AtI prog_16_method_15_code 17 (.laload) 1 18 := ⟨by decide +kernel, rfl⟩
theorem a1_18 : AtI prog_16_method_15_code 18 (.aload_n 1) 1 19 := ⟨by decide +kernel, rfl⟩
theorem a1_19 : AtI prog_16_method_15_code 19 (.iload_n 3) 1 20 := ⟨by decide +kernel, rfl⟩
theorem a1_20 : AtI prog_16_method_15_code 20 (.laload) 1 21 := ⟨by decide +kernel, rfl⟩
theorem a1_21 : AtI prog_16_method_15_code 21 (.ldc2_w 211) 3 24 := ⟨by decide +kernel, rfl⟩
theorem a1_24 : AtI prog_16_method_15_code 24 (.lxor) 1 25 := ⟨by decide +kernel, rfl⟩
theorem a1_25 : AtI prog_16_method_15_code 25 (.land) 1 26 := ⟨by decide +kernel, rfl⟩
theorem a1_26 : AtI prog_16_method_15_code 26 (.lastore) 1 27 := ⟨by decide +kernel, rfl⟩
theorem a1_27 : AtI prog_16_method_15_code 27 (.iinc 3 1) 3 30 := ⟨by decide +kernel, rfl⟩
theorem a1_30 : AtJ prog_16_method_15_code 30 (.goto) 33 7 := ⟨(-23), by decide +kernel, rfl, by decide, rfl⟩
theorem a1_33 : AtI prog_16_method_15_code 33 (.aload_n 2) 1 34 := ⟨by decide +kernel, rfl⟩
theorem a1_34 : AtI prog_16_method_15_code 34 (.areturn) 1 35 := ⟨by decide +kernel, rfl⟩
theorem pd1 : parseMethodDescriptor "([J[J)[J" = some ⟨[(.array .long), (.array .long)], some (.array .long)⟩ := by decide +kernel
theorem pl1 : plainFor (⟨"com/example/coarsen/coarsen/abstraction/ShareSpace", "andNot", "([J[J)[J"⟩ : MethodName) = true := plainFor_of_name (by first | (simp [plainName, overriddenIn]; done) | decide +kernel)
theorem ok1 {Z : State} {a0 : Array Value} (hw : ∀ d ∈ tables_1, d.before a0 Z = true) (ρ : Nat → Nat) (n0 j0 u0 : Nat) : WCallee Z a0 (⟨"com/example/coarsen/coarsen/abstraction/ShareSpace", "andNot", "([J[J)[J"⟩ : MethodName) (g1 Z ρ n0 j0 u0) 2 :=
  ⟨pl1, (by decide), rfl, rfl, rfl, (hw _ (List.mem_of_getElem? (i := 3) rfl)), (hw _ (List.mem_of_getElem? (i := 4) rfl)), fun sig h => by cases pd1.symm.trans h; rfl⟩
abbrev g2 (Z : State) (ρ : Nat → Nat) (n0 j0 u0 : Nat) : WMC := ((Z, ρ, n0), ("com/example/coarsen/coarsen/abstraction/ShareSpaceAndNotPinLaw", method_3_code, "wordOk", (some .boolean), 9), (j0, u0, 0, 0))
theorem a2_0 : AtI method_3_code 0 (.lload_n 0) 1 1 := ⟨by decide +kernel, rfl⟩
theorem a2_1 : AtI method_3_code 1 (.lload_n 2) 1 2 := ⟨by decide +kernel, rfl⟩
theorem a2_2 : AtI method_3_code 2 (.lor) 1 3 := ⟨by decide +kernel, rfl⟩
theorem a2_3 : AtI method_3_code 3 (.lload_n 2) 1 4 := ⟨by decide +kernel, rfl⟩
theorem a2_4 : AtI method_3_code 4 (.lcmp) 1 5 := ⟨by decide +kernel, rfl⟩
theorem a2_5 : AtJ method_3_code 5 (.ifCond .ne) 8 12 := ⟨7, by decide +kernel, rfl, by decide, rfl⟩
theorem a2_8 : AtI method_3_code 8 (.iconst 1) 1 9 := ⟨by decide +kernel, rfl⟩
theorem a2_9 : AtJ method_3_code 9 (.goto) 12 13 := ⟨4, by decide +kernel, rfl, by decide, rfl⟩
theorem a2_12 : AtI method_3_code 12 (.iconst 0) 1 13 := ⟨by decide +kernel, rfl⟩
theorem a2_13 : AtI method_3_code 13 (.istore 6) 2 15 := ⟨by decide +kernel, rfl⟩
theorem a2_15 : AtI method_3_code 15 (.lload_n 0) 1 16 := ⟨by decide +kernel, rfl⟩
theorem a2_16 : AtI method_3_code 16 (.lload 4) 2 18 := ⟨by decide +kernel, rfl⟩
theorem a2_18 : AtI method_3_code 18 (.land) 1 19 := ⟨by decide +kernel, rfl⟩
theorem a2_19 : AtI method_3_code 19 (.lconst 0) 1 20 := ⟨by decide +kernel, rfl⟩
theorem a2_20 : AtI method_3_code 20 (.lcmp) 1 21 := ⟨by decide +kernel, rfl⟩
theorem a2_21 : AtJ method_3_code 21 (.ifCond .ne) 24 28 := ⟨7, by decide +kernel, rfl, by decide, rfl⟩
theorem a2_24 : AtI method_3_code 24 (.iconst 1) 1 25 := ⟨by decide +kernel, rfl⟩
theorem a2_25 : AtJ method_3_code 25 (.goto) 28 29 := ⟨4, by decide +kernel, rfl, by decide, rfl⟩
theorem a2_28 : AtI method_3_code 28 (.iconst 0) 1 29 := ⟨by decide +kernel, rfl⟩
theorem a2_29 : AtI method_3_code 29 (.istore 7) 2 31 := ⟨by decide +kernel, rfl⟩
theorem a2_31 : AtI method_3_code 31 (.lload_n 0) 1 32 := ⟨by decide +kernel, rfl⟩
theorem a2_32 : AtI method_3_code 32 (.lload_n 2) 1 33 := ⟨by decide +kernel, rfl⟩
theorem a2_33 : AtI method_3_code 33 (.lload 4) 2 35 := ⟨by decide +kernel, rfl⟩
theorem a2_35 : AtI method_3_code 35 (.land) 1 36 := ⟨by decide +kernel, rfl⟩
theorem a2_36 : AtI method_3_code 36 (.lor) 1 37 := ⟨by decide +kernel, rfl⟩
theorem a2_37 : AtI method_3_code 37 (.lload_n 2) 1 38 := ⟨by decide +kernel, rfl⟩
theorem a2_38 : AtI method_3_code 38 (.lcmp) 1 39 := ⟨by decide +kernel, rfl⟩
theorem a2_39 : AtJ method_3_code 39 (.ifCond .ne) 42 46 := ⟨7, by decide +kernel, rfl, by decide, rfl⟩
theorem a2_42 : AtI method_3_code 42 (.iconst 1) 1 43 := ⟨by decide +kernel, rfl⟩
theorem a2_43 : AtJ method_3_code 43 (.goto) 46 47 := ⟨4, by decide +kernel, rfl, by decide, rfl⟩
theorem a2_46 : AtI method_3_code 46 (.iconst 0) 1 47 := ⟨by decide +kernel, rfl⟩
theorem a2_47 : AtI method_3_code 47 (.istore 8) 2 49 := ⟨by decide +kernel, rfl⟩
theorem a2_49 : AtI method_3_code 49 (.iload 6) 2 51 := ⟨by decide +kernel, rfl⟩
theorem a2_51 : AtJ method_3_code 51 (.ifCond .eq) 54 68 := ⟨17, by decide +kernel, rfl, by decide, rfl⟩
theorem a2_54 : AtI method_3_code 54 (.iload 7) 2 56 := ⟨by decide +kernel, rfl⟩
theorem a2_56 : AtJ method_3_code 56 (.ifCond .eq) 59 68 := ⟨12, by decide +kernel, rfl, by decide, rfl⟩
theorem a2_59 : AtI method_3_code 59 (.iload 8) 2 61 := ⟨by decide +kernel, rfl⟩
theorem a2_61 : AtJ method_3_code 61 (.ifCond .eq) 64 68 := ⟨7, by decide +kernel, rfl, by decide, rfl⟩
theorem a2_64 : AtI method_3_code 64 (.iconst 1) 1 65 := ⟨by decide +kernel, rfl⟩
theorem a2_65 : AtJ method_3_code 65 (.goto) 68 69 := ⟨4, by decide +kernel, rfl, by decide, rfl⟩
theorem a2_68 : AtI method_3_code 68 (.iconst 0) 1 69 := ⟨by decide +kernel, rfl⟩
theorem a2_69 : AtI method_3_code 69 (.ireturn) 1 70 := ⟨by decide +kernel, rfl⟩
theorem pd2 : parseMethodDescriptor "(JJJ)Z" = some ⟨[.long, .long, .long], some .boolean⟩ := by decide +kernel
theorem pl2 : plainFor (⟨"com/example/coarsen/coarsen/abstraction/ShareSpaceAndNotPinLaw", "wordOk", "(JJJ)Z"⟩ : MethodName) = true := plainFor_of_name (by first | (simp [plainName, overriddenIn]; done) | decide +kernel)
theorem ok2 {Z : State} {a0 : Array Value} (hw : ∀ d ∈ tables_1, d.before a0 Z = true) (ρ : Nat → Nat) (n0 j0 u0 : Nat) : WCallee Z a0 (⟨"com/example/coarsen/coarsen/abstraction/ShareSpaceAndNotPinLaw", "wordOk", "(JJJ)Z"⟩ : MethodName) (g2 Z ρ n0 j0 u0) 3 :=
  ⟨pl2, (by decide), rfl, rfl, rfl, (hw _ (List.mem_of_getElem? (i := 8) rfl)), (hw _ (List.mem_of_getElem? (i := 9) rfl)), fun sig h => by cases pd2.symm.trans h; rfl⟩
abbrev g0 (Z : State) (ρ : Nat → Nat) (n0 j0 u0 : Nat) : WMC := ((Z, ρ, n0), ("com/example/coarsen/coarsen/abstraction/ShareSpaceAndNotPinLaw", code, "law", ret, maxLocals), (j0, u0, 4, 128))
theorem a0_0 : AtI code 0 (.iload 8) 2 2 := ⟨by decide +kernel, rfl⟩
theorem a0_2 : AtI code 2 (.iconst 3) 1 3 := ⟨by decide +kernel, rfl⟩
theorem a0_3 : AtI code 3 (.iand) 1 4 := ⟨by decide +kernel, rfl⟩
theorem a0_4 : AtI code 4 (.iconst 3) 1 5 := ⟨by decide +kernel, rfl⟩
theorem a0_5 : AtI code 5 (.irem) 1 6 := ⟨by decide +kernel, rfl⟩
theorem a0_6 : AtI code 6 (.istore 9) 2 8 := ⟨by decide +kernel, rfl⟩
theorem a0_8 : AtI code 8 (.iload 9) 2 10 := ⟨by decide +kernel, rfl⟩
theorem a0_10 : AtI code 10 (.newarray .long) 2 12 := ⟨by decide +kernel, rfl⟩
theorem a0_12 : AtI code 12 (.astore 10) 2 14 := ⟨by decide +kernel, rfl⟩
theorem a0_14 : AtI code 14 (.iload 9) 2 16 := ⟨by decide +kernel, rfl⟩
theorem a0_16 : AtI code 16 (.newarray .long) 2 18 := ⟨by decide +kernel, rfl⟩
theorem a0_18 : AtI code 18 (.astore 11) 2 20 := ⟨by decide +kernel, rfl⟩
theorem a0_20 : AtI code 20 (.iload 9) 2 22 := ⟨by decide +kernel, rfl⟩
theorem a0_22 : AtJ code 22 (.ifCond .le) 25 36 := ⟨14, by decide +kernel, rfl, by decide, rfl⟩
theorem a0_25 : AtI code 25 (.aload 10) 2 27 := ⟨by decide +kernel, rfl⟩
theorem a0_27 : AtI code 27 (.iconst 0) 1 28 := ⟨by decide +kernel, rfl⟩
theorem a0_28 : AtI code 28 (.lload_n 0) 1 29 := ⟨by decide +kernel, rfl⟩
theorem a0_29 : AtI code 29 (.lastore) 1 30 := ⟨by decide +kernel, rfl⟩
theorem a0_30 : AtI code 30 (.aload 11) 2 32 := ⟨by decide +kernel, rfl⟩
theorem a0_32 : AtI code 32 (.iconst 0) 1 33 := ⟨by decide +kernel, rfl⟩
theorem a0_33 : AtI code 33 (.lload 4) 2 35 := ⟨by decide +kernel, rfl⟩
theorem a0_35 : AtI code 35 (.lastore) 1 36 := ⟨by decide +kernel, rfl⟩
theorem a0_36 : AtI code 36 (.iload 9) 2 38 := ⟨by decide +kernel, rfl⟩
theorem a0_38 : AtI code 38 (.iconst 1) 1 39 := ⟨by decide +kernel, rfl⟩
theorem a0_39 : AtJ code 39 (.if_icmp .le) 42 53 := ⟨14, by decide +kernel, rfl, by decide, rfl⟩
theorem a0_42 : AtI code 42 (.aload 10) 2 44 := ⟨by decide +kernel, rfl⟩
theorem a0_44 : AtI code 44 (.iconst 1) 1 45 := ⟨by decide +kernel, rfl⟩
theorem a0_45 : AtI code 45 (.lload_n 2) 1 46 := ⟨by decide +kernel, rfl⟩
theorem a0_46 : AtI code 46 (.lastore) 1 47 := ⟨by decide +kernel, rfl⟩
theorem a0_47 : AtI code 47 (.aload 11) 2 49 := ⟨by decide +kernel, rfl⟩
theorem a0_49 : AtI code 49 (.iconst 1) 1 50 := ⟨by decide +kernel, rfl⟩
theorem a0_50 : AtI code 50 (.lload 6) 2 52 := ⟨by decide +kernel, rfl⟩
theorem a0_52 : AtI code 52 (.lastore) 1 53 := ⟨by decide +kernel, rfl⟩
theorem a0_53 : AtI code 53 (.aload 10) 2 55 := ⟨by decide +kernel, rfl⟩
theorem a0_55 : AtI code 55 (.aload 11) 2 57 := ⟨by decide +kernel, rfl⟩
theorem a0_57 : AtI code 57 (.invokestatic 7) 3 60 := ⟨by decide +kernel, rfl⟩
theorem a0_60 : AtI code 60 (.astore 12) 2 62 := ⟨by decide +kernel, rfl⟩
theorem a0_62 : AtI code 62 (.aload 12) 2 64 := ⟨by decide +kernel, rfl⟩
theorem a0_64 : AtJ code 64 (.ifnull) 67 89 := ⟨25, by decide +kernel, rfl, by decide, rfl⟩
theorem a0_67 : AtI code 67 (.aload 12) 2 69 := ⟨by decide +kernel, rfl⟩
theorem a0_69 : AtI code 69 (.arraylength) 1 70 := ⟨by decide +kernel, rfl⟩
theorem a0_70 : AtI code 70 (.iload 9) 2 72 := ⟨by decide +kernel, rfl⟩
theorem a0_72 : AtJ code 72 (.if_icmp .ne) 75 89 := ⟨17, by decide +kernel, rfl, by decide, rfl⟩
theorem a0_75 : AtI code 75 (.aload 12) 2 77 := ⟨by decide +kernel, rfl⟩
theorem a0_77 : AtI code 77 (.aload 10) 2 79 := ⟨by decide +kernel, rfl⟩
theorem a0_79 : AtJ code 79 (.if_acmp .eq) 82 89 := ⟨10, by decide +kernel, rfl, by decide, rfl⟩
theorem a0_82 : AtI code 82 (.aload 12) 2 84 := ⟨by decide +kernel, rfl⟩
theorem a0_84 : AtI code 84 (.aload 11) 2 86 := ⟨by decide +kernel, rfl⟩
theorem a0_86 : AtJ code 86 (.if_acmp .ne) 89 91 := ⟨5, by decide +kernel, rfl, by decide, rfl⟩
theorem a0_89 : AtI code 89 (.iconst 0) 1 90 := ⟨by decide +kernel, rfl⟩
theorem a0_90 : AtI code 90 (.ireturn) 1 91 := ⟨by decide +kernel, rfl⟩
theorem a0_91 : AtI code 91 (.iconst 1) 1 92 := ⟨by decide +kernel, rfl⟩
theorem a0_92 : AtI code 92 (.istore 13) 2 94 := ⟨by decide +kernel, rfl⟩
theorem a0_94 : AtI code 94 (.iload 9) 2 96 := ⟨by decide +kernel, rfl⟩
theorem a0_96 : AtJ code 96 (.ifCond .le) 99 141 := ⟨45, by decide +kernel, rfl, by decide, rfl⟩
theorem a0_99 : AtI code 99 (.iload 13) 2 101 := ⟨by decide +kernel, rfl⟩
theorem a0_101 : AtI code 101 (.aload 12) 2 103 := ⟨by decide +kernel, rfl⟩
theorem a0_103 : AtI code 103 (.iconst 0) 1 104 := ⟨by decide +kernel, rfl⟩
theorem a0_104 : AtI code 104 (.laload) 1 105 := ⟨by decide +kernel, rfl⟩
theorem a0_105 : AtI code 105 (.lload_n 0) 1 106 := ⟨by decide +kernel, rfl⟩
theorem a0_106 : AtI code 106 (.lload 4) 2 108 := ⟨by decide +kernel, rfl⟩
theorem a0_108 : AtI code 108 (.invokestatic 13) 3 111 := ⟨by decide +kernel, rfl⟩
theorem a0_111 : AtJ code 111 (.ifCond .eq) 114 137 := ⟨26, by decide +kernel, rfl, by decide, rfl⟩
theorem a0_114 : AtI code 114 (.aload 10) 2 116 := ⟨by decide +kernel, rfl⟩
theorem a0_116 : AtI code 116 (.iconst 0) 1 117 := ⟨by decide +kernel, rfl⟩
theorem a0_117 : AtI code 117 (.laload) 1 118 := ⟨by decide +kernel, rfl⟩
theorem a0_118 : AtI code 118 (.lload_n 0) 1 119 := ⟨by decide +kernel, rfl⟩
theorem a0_119 : AtI code 119 (.lcmp) 1 120 := ⟨by decide +kernel, rfl⟩
theorem a0_120 : AtJ code 120 (.ifCond .ne) 123 137 := ⟨17, by decide +kernel, rfl, by decide, rfl⟩
theorem a0_123 : AtI code 123 (.aload 11) 2 125 := ⟨by decide +kernel, rfl⟩
theorem a0_125 : AtI code 125 (.iconst 0) 1 126 := ⟨by decide +kernel, rfl⟩
theorem a0_126 : AtI code 126 (.laload) 1 127 := ⟨by decide +kernel, rfl⟩
theorem a0_127 : AtI code 127 (.lload 4) 2 129 := ⟨by decide +kernel, rfl⟩
theorem a0_129 : AtI code 129 (.lcmp) 1 130 := ⟨by decide +kernel, rfl⟩
theorem a0_130 : AtJ code 130 (.ifCond .ne) 133 137 := ⟨7, by decide +kernel, rfl, by decide, rfl⟩
theorem a0_133 : AtI code 133 (.iconst 1) 1 134 := ⟨by decide +kernel, rfl⟩
theorem a0_134 : AtJ code 134 (.goto) 137 138 := ⟨4, by decide +kernel, rfl, by decide, rfl⟩
theorem a0_137 : AtI code 137 (.iconst 0) 1 138 := ⟨by decide +kernel, rfl⟩
theorem a0_138 : AtI code 138 (.iand) 1 139 := ⟨by decide +kernel, rfl⟩
theorem a0_139 : AtI code 139 (.istore 13) 2 141 := ⟨by decide +kernel, rfl⟩
theorem a0_141 : AtI code 141 (.iload 9) 2 143 := ⟨by decide +kernel, rfl⟩
theorem a0_143 : AtI code 143 (.iconst 1) 1 144 := ⟨by decide +kernel, rfl⟩
theorem a0_144 : AtJ code 144 (.if_icmp .le) 147 189 := ⟨45, by decide +kernel, rfl, by decide, rfl⟩
theorem a0_147 : AtI code 147 (.iload 13) 2 149 := ⟨by decide +kernel, rfl⟩
theorem a0_149 : AtI code 149 (.aload 12) 2 151 := ⟨by decide +kernel, rfl⟩
theorem a0_151 : AtI code 151 (.iconst 1) 1 152 := ⟨by decide +kernel, rfl⟩
theorem a0_152 : AtI code 152 (.laload) 1 153 := ⟨by decide +kernel, rfl⟩
theorem a0_153 : AtI code 153 (.lload_n 2) 1 154 := ⟨by decide +kernel, rfl⟩
theorem a0_154 : AtI code 154 (.lload 6) 2 156 := ⟨by decide +kernel, rfl⟩
theorem a0_156 : AtI code 156 (.invokestatic 13) 3 159 := ⟨by decide +kernel, rfl⟩
theorem a0_159 : AtJ code 159 (.ifCond .eq) 162 185 := ⟨26, by decide +kernel, rfl, by decide, rfl⟩
theorem a0_162 : AtI code 162 (.aload 10) 2 164 := ⟨by decide +kernel, rfl⟩
theorem a0_164 : AtI code 164 (.iconst 1) 1 165 := ⟨by decide +kernel, rfl⟩
theorem a0_165 : AtI code 165 (.laload) 1 166 := ⟨by decide +kernel, rfl⟩
theorem a0_166 : AtI code 166 (.lload_n 2) 1 167 := ⟨by decide +kernel, rfl⟩
theorem a0_167 : AtI code 167 (.lcmp) 1 168 := ⟨by decide +kernel, rfl⟩
theorem a0_168 : AtJ code 168 (.ifCond .ne) 171 185 := ⟨17, by decide +kernel, rfl, by decide, rfl⟩
theorem a0_171 : AtI code 171 (.aload 11) 2 173 := ⟨by decide +kernel, rfl⟩
theorem a0_173 : AtI code 173 (.iconst 1) 1 174 := ⟨by decide +kernel, rfl⟩
theorem a0_174 : AtI code 174 (.laload) 1 175 := ⟨by decide +kernel, rfl⟩
theorem a0_175 : AtI code 175 (.lload 6) 2 177 := ⟨by decide +kernel, rfl⟩
theorem a0_177 : AtI code 177 (.lcmp) 1 178 := ⟨by decide +kernel, rfl⟩
theorem a0_178 : AtJ code 178 (.ifCond .ne) 181 185 := ⟨7, by decide +kernel, rfl, by decide, rfl⟩
theorem a0_181 : AtI code 181 (.iconst 1) 1 182 := ⟨by decide +kernel, rfl⟩
theorem a0_182 : AtJ code 182 (.goto) 185 186 := ⟨4, by decide +kernel, rfl, by decide, rfl⟩
theorem a0_185 : AtI code 185 (.iconst 0) 1 186 := ⟨by decide +kernel, rfl⟩
theorem a0_186 : AtI code 186 (.iand) 1 187 := ⟨by decide +kernel, rfl⟩
theorem a0_187 : AtI code 187 (.istore 13) 2 189 := ⟨by decide +kernel, rfl⟩
theorem a0_189 : AtI code 189 (.iload 13) 2 191 := ⟨by decide +kernel, rfl⟩
theorem a0_191 : AtI code 191 (.ireturn) 1 192 := ⟨by decide +kernel, rfl⟩
def P2 (r s o : Int64) : Prop := (r ||| s) = s ∧ (r &&& o) = 0 ∧ (r ||| (s &&& o)) = s
theorem c2 {Z : State} {a0 : Array Value} (hw : ∀ d ∈ tables_1, d.before a0 Z = true) (ρ : Nat → Nat) (n0 : Nat) (r s o : Int64) (σ : WHp) (u : Nat) : WGo (g2 Z ρ n0 σ.length u) (0, [.val (.long r), .second, .val (.long s), .second, .val (.long o), .second, .unset, .unset, .unset], [], σ, u) (QB (P2 r s o) σ u) := by
  refine WGo.s (WStep.lloadN a2_0 rfl) ?_
  refine WGo.s (WStep.lloadN a2_1 rfl) ?_
  refine WGo.s (WStep.lor a2_2) ?_
  refine WGo.s (WStep.lloadN a2_3 rfl) ?_
  refine WGo.s (WStep.lcmp a2_4) ?_
  refine WGo.neL a2_5 (fun h5 => ?_) (fun h5 => ?_)
  · refine WGo.s (WStep.iconst (0 : Int32) a2_12 rfl) ?_
    refine WGo.s (WStep.istore (L' := [.val (.long r), .second, .val (.long s), .second, .val (.long o), .second, .val (.int (0 : Int32)), .unset, .unset]) a2_13 rfl) ?_
    refine WGo.s (WStep.lloadN a2_15 rfl) ?_
    refine WGo.s (WStep.lload a2_16 rfl) ?_
    refine WGo.s (WStep.land a2_18) ?_
    refine WGo.s (WStep.lconst (0 : Int64) a2_19 rfl) ?_
    refine WGo.s (WStep.lcmp a2_20) ?_
    refine WGo.neL a2_21 (fun h21 => ?_) (fun h21 => ?_)
    · refine WGo.s (WStep.iconst (0 : Int32) a2_28 rfl) ?_
      refine WGo.s (WStep.istore (L' := [.val (.long r), .second, .val (.long s), .second, .val (.long o), .second, .val (.int (0 : Int32)), .val (.int (0 : Int32)), .unset]) a2_29 rfl) ?_
      refine WGo.s (WStep.lloadN a2_31 rfl) ?_
      refine WGo.s (WStep.lloadN a2_32 rfl) ?_
      refine WGo.s (WStep.lload a2_33 rfl) ?_
      refine WGo.s (WStep.land a2_35) ?_
      refine WGo.s (WStep.lor a2_36) ?_
      refine WGo.s (WStep.lloadN a2_37 rfl) ?_
      refine WGo.s (WStep.lcmp a2_38) ?_
      refine WGo.neL a2_39 (fun h39 => ?_) (fun h39 => ?_)
      · refine WGo.s (WStep.iconst (0 : Int32) a2_46 rfl) ?_
        refine WGo.s (WStep.istore (L' := [.val (.long r), .second, .val (.long s), .second, .val (.long o), .second, .val (.int (0 : Int32)), .val (.int (0 : Int32)), .val (.int (0 : Int32))]) a2_47 rfl) ?_
        refine WGo.s (WStep.iload a2_49 rfl) ?_
        refine WGo.s (WStep.ifT a2_51 (by decide)) ?_
        refine WGo.s (WStep.iconst (0 : Int32) a2_68 rfl) ?_
        refine WGo.ireturn .boolean a2_69 rfl (by simp) ?_
        exact QB.no (by unfold P2; simp_all)
      · refine WGo.s (WStep.iconst (1 : Int32) a2_42 rfl) ?_
        refine WGo.s (WStep.goto a2_43) ?_
        refine WGo.s (WStep.istore (L' := [.val (.long r), .second, .val (.long s), .second, .val (.long o), .second, .val (.int (0 : Int32)), .val (.int (0 : Int32)), .val (.int (1 : Int32))]) a2_47 rfl) ?_
        refine WGo.s (WStep.iload a2_49 rfl) ?_
        refine WGo.s (WStep.ifT a2_51 (by decide)) ?_
        refine WGo.s (WStep.iconst (0 : Int32) a2_68 rfl) ?_
        refine WGo.ireturn .boolean a2_69 rfl (by simp) ?_
        exact QB.no (by unfold P2; simp_all)
    · refine WGo.s (WStep.iconst (1 : Int32) a2_24 rfl) ?_
      refine WGo.s (WStep.goto a2_25) ?_
      refine WGo.s (WStep.istore (L' := [.val (.long r), .second, .val (.long s), .second, .val (.long o), .second, .val (.int (0 : Int32)), .val (.int (1 : Int32)), .unset]) a2_29 rfl) ?_
      refine WGo.s (WStep.lloadN a2_31 rfl) ?_
      refine WGo.s (WStep.lloadN a2_32 rfl) ?_
      refine WGo.s (WStep.lload a2_33 rfl) ?_
      refine WGo.s (WStep.land a2_35) ?_
      refine WGo.s (WStep.lor a2_36) ?_
      refine WGo.s (WStep.lloadN a2_37 rfl) ?_
      refine WGo.s (WStep.lcmp a2_38) ?_
      refine WGo.neL a2_39 (fun h39 => ?_) (fun h39 => ?_)
      · refine WGo.s (WStep.iconst (0 : Int32) a2_46 rfl) ?_
        refine WGo.s (WStep.istore (L' := [.val (.long r), .second, .val (.long s), .second, .val (.long o), .second, .val (.int (0 : Int32)), .val (.int (1 : Int32)), .val (.int (0 : Int32))]) a2_47 rfl) ?_
        refine WGo.s (WStep.iload a2_49 rfl) ?_
        refine WGo.s (WStep.ifT a2_51 (by decide)) ?_
        refine WGo.s (WStep.iconst (0 : Int32) a2_68 rfl) ?_
        refine WGo.ireturn .boolean a2_69 rfl (by simp) ?_
        exact QB.no (by unfold P2; simp_all)
      · refine WGo.s (WStep.iconst (1 : Int32) a2_42 rfl) ?_
        refine WGo.s (WStep.goto a2_43) ?_
        refine WGo.s (WStep.istore (L' := [.val (.long r), .second, .val (.long s), .second, .val (.long o), .second, .val (.int (0 : Int32)), .val (.int (1 : Int32)), .val (.int (1 : Int32))]) a2_47 rfl) ?_
        refine WGo.s (WStep.iload a2_49 rfl) ?_
        refine WGo.s (WStep.ifT a2_51 (by decide)) ?_
        refine WGo.s (WStep.iconst (0 : Int32) a2_68 rfl) ?_
        refine WGo.ireturn .boolean a2_69 rfl (by simp) ?_
        exact QB.no (by unfold P2; simp_all)
  · refine WGo.s (WStep.iconst (1 : Int32) a2_8 rfl) ?_
    refine WGo.s (WStep.goto a2_9) ?_
    refine WGo.s (WStep.istore (L' := [.val (.long r), .second, .val (.long s), .second, .val (.long o), .second, .val (.int (1 : Int32)), .unset, .unset]) a2_13 rfl) ?_
    refine WGo.s (WStep.lloadN a2_15 rfl) ?_
    refine WGo.s (WStep.lload a2_16 rfl) ?_
    refine WGo.s (WStep.land a2_18) ?_
    refine WGo.s (WStep.lconst (0 : Int64) a2_19 rfl) ?_
    refine WGo.s (WStep.lcmp a2_20) ?_
    refine WGo.neL a2_21 (fun h21 => ?_) (fun h21 => ?_)
    · refine WGo.s (WStep.iconst (0 : Int32) a2_28 rfl) ?_
      refine WGo.s (WStep.istore (L' := [.val (.long r), .second, .val (.long s), .second, .val (.long o), .second, .val (.int (1 : Int32)), .val (.int (0 : Int32)), .unset]) a2_29 rfl) ?_
      refine WGo.s (WStep.lloadN a2_31 rfl) ?_
      refine WGo.s (WStep.lloadN a2_32 rfl) ?_
      refine WGo.s (WStep.lload a2_33 rfl) ?_
      refine WGo.s (WStep.land a2_35) ?_
      refine WGo.s (WStep.lor a2_36) ?_
      refine WGo.s (WStep.lloadN a2_37 rfl) ?_
      refine WGo.s (WStep.lcmp a2_38) ?_
      refine WGo.neL a2_39 (fun h39 => ?_) (fun h39 => ?_)
      · refine WGo.s (WStep.iconst (0 : Int32) a2_46 rfl) ?_
        refine WGo.s (WStep.istore (L' := [.val (.long r), .second, .val (.long s), .second, .val (.long o), .second, .val (.int (1 : Int32)), .val (.int (0 : Int32)), .val (.int (0 : Int32))]) a2_47 rfl) ?_
        refine WGo.s (WStep.iload a2_49 rfl) ?_
        refine WGo.s (WStep.ifF a2_51 (by decide)) ?_
        refine WGo.s (WStep.iload a2_54 rfl) ?_
        refine WGo.s (WStep.ifT a2_56 (by decide)) ?_
        refine WGo.s (WStep.iconst (0 : Int32) a2_68 rfl) ?_
        refine WGo.ireturn .boolean a2_69 rfl (by simp) ?_
        exact QB.no (by unfold P2; simp_all)
      · refine WGo.s (WStep.iconst (1 : Int32) a2_42 rfl) ?_
        refine WGo.s (WStep.goto a2_43) ?_
        refine WGo.s (WStep.istore (L' := [.val (.long r), .second, .val (.long s), .second, .val (.long o), .second, .val (.int (1 : Int32)), .val (.int (0 : Int32)), .val (.int (1 : Int32))]) a2_47 rfl) ?_
        refine WGo.s (WStep.iload a2_49 rfl) ?_
        refine WGo.s (WStep.ifF a2_51 (by decide)) ?_
        refine WGo.s (WStep.iload a2_54 rfl) ?_
        refine WGo.s (WStep.ifT a2_56 (by decide)) ?_
        refine WGo.s (WStep.iconst (0 : Int32) a2_68 rfl) ?_
        refine WGo.ireturn .boolean a2_69 rfl (by simp) ?_
        exact QB.no (by unfold P2; simp_all)
    · refine WGo.s (WStep.iconst (1 : Int32) a2_24 rfl) ?_
      refine WGo.s (WStep.goto a2_25) ?_
      refine WGo.s (WStep.istore (L' := [.val (.long r), .second, .val (.long s), .second, .val (.long o), .second, .val (.int (1 : Int32)), .val (.int (1 : Int32)), .unset]) a2_29 rfl) ?_
      refine WGo.s (WStep.lloadN a2_31 rfl) ?_
      refine WGo.s (WStep.lloadN a2_32 rfl) ?_
      refine WGo.s (WStep.lload a2_33 rfl) ?_
      refine WGo.s (WStep.land a2_35) ?_
      refine WGo.s (WStep.lor a2_36) ?_
      refine WGo.s (WStep.lloadN a2_37 rfl) ?_
      refine WGo.s (WStep.lcmp a2_38) ?_
      refine WGo.neL a2_39 (fun h39 => ?_) (fun h39 => ?_)
      · refine WGo.s (WStep.iconst (0 : Int32) a2_46 rfl) ?_
        refine WGo.s (WStep.istore (L' := [.val (.long r), .second, .val (.long s), .second, .val (.long o), .second, .val (.int (1 : Int32)), .val (.int (1 : Int32)), .val (.int (0 : Int32))]) a2_47 rfl) ?_
        refine WGo.s (WStep.iload a2_49 rfl) ?_
        refine WGo.s (WStep.ifF a2_51 (by decide)) ?_
        refine WGo.s (WStep.iload a2_54 rfl) ?_
        refine WGo.s (WStep.ifF a2_56 (by decide)) ?_
        refine WGo.s (WStep.iload a2_59 rfl) ?_
        refine WGo.s (WStep.ifT a2_61 (by decide)) ?_
        refine WGo.s (WStep.iconst (0 : Int32) a2_68 rfl) ?_
        refine WGo.ireturn .boolean a2_69 rfl (by simp) ?_
        exact QB.no (by unfold P2; simp_all)
      · refine WGo.s (WStep.iconst (1 : Int32) a2_42 rfl) ?_
        refine WGo.s (WStep.goto a2_43) ?_
        refine WGo.s (WStep.istore (L' := [.val (.long r), .second, .val (.long s), .second, .val (.long o), .second, .val (.int (1 : Int32)), .val (.int (1 : Int32)), .val (.int (1 : Int32))]) a2_47 rfl) ?_
        refine WGo.s (WStep.iload a2_49 rfl) ?_
        refine WGo.s (WStep.ifF a2_51 (by decide)) ?_
        refine WGo.s (WStep.iload a2_54 rfl) ?_
        refine WGo.s (WStep.ifF a2_56 (by decide)) ?_
        refine WGo.s (WStep.iload a2_59 rfl) ?_
        refine WGo.s (WStep.ifF a2_61 (by decide)) ?_
        refine WGo.s (WStep.iconst (1 : Int32) a2_64 rfl) ?_
        refine WGo.s (WStep.goto a2_65) ?_
        refine WGo.ireturn .boolean a2_69 rfl (by simp) ?_
        exact QB.yes (by unfold P2; simp_all)
theorem okw (s o : Int64) : P2 (s &&& (o ^^^ (-1 : Int64))) s o := by
  have e : ∀ i, (Int64.toBitVec (-1)).getLsbD i = decide (i < 64) := by
    intro i
    have : Int64.toBitVec (-1) = BitVec.allOnes 64 := by decide
    rw [this, BitVec.getLsbD_allOnes]
  refine ⟨?_, ?_, ?_⟩ <;> apply Int64.toBitVec_inj.mp <;> apply BitVec.eq_of_getLsbD_eq <;> intro i hi <;> simp only [Int64.toBitVec_or, Int64.toBitVec_and, Int64.toBitVec_xor, BitVec.getLsbD_or, BitVec.getLsbD_and, BitVec.getLsbD_xor, e, hi, decide_true]
  · cases s.toBitVec.getLsbD i <;> cases o.toBitVec.getLsbD i <;> rfl
  · have z : (Int64.toBitVec 0).getLsbD i = false := by
      have : Int64.toBitVec 0 = 0#64 := by decide
      rw [this]; simp
    rw [z]
    cases s.toBitVec.getLsbD i <;> cases o.toBitVec.getLsbD i <;> rfl
  · cases s.toBitVec.getLsbD i <;> cases o.toBitVec.getLsbD i <;> rfl
theorem c1_0 {Z : State} {a0 : Array Value} (hw : ∀ d ∈ tables_1, d.before a0 Z = true) (ρ : Nat → Nat) (n0 : Nat) (u : Nat) : WGo (g1 Z ρ n0 2 u) (0, [.val (.ref 0), .val (.ref 1), .unset, .unset], [], [(.inl (.long, [])), (.inl (.long, []))], u) (fun v σ' u' => v = some (.ref 2) ∧ [(.inl (.long, [])), (.inl (.long, [])), (.inl (.long, []))] = σ' ∧ u + 0 = u') := by
  refine WGo.s (WStep.aloadN a1_0 rfl rfl) ?_
  refine WGo.s (WStep.alen (0 : Int32) a1_1 rfl rfl) ?_
  refine WGo.s (WStep.newP (k := 2) (0 : Int32) 0 a1_2 (hw _ (List.mem_of_getElem? (i := 0) rfl)) (by decide) rfl (by decide) rfl (by decide)) ?_
  show WGo _ (4, [.val (.ref 0), .val (.ref 1), .unset, .unset], [(.ref 2)], [(.inl (.long, [])), (.inl (.long, [])), (.inl (.long, []))], (u + 0)) _
  refine WGo.s (WStep.astoreN (L' := [.val (.ref 0), .val (.ref 1), .val (.ref 2), .unset]) a1_4 rfl rfl) ?_
  refine WGo.s (WStep.iconst (0 : Int32) a1_5 rfl) ?_
  refine WGo.s (WStep.istoreN (L' := [.val (.ref 0), .val (.ref 1), .val (.ref 2), .val (.int (0 : Int32))]) a1_6 rfl) ?_
  refine WGo.s (WStep.iloadN a1_7 rfl) ?_
  refine WGo.s (WStep.aloadN a1_8 rfl rfl) ?_
  refine WGo.s (WStep.alen (0 : Int32) a1_9 rfl rfl) ?_
  refine WGo.s (WStep.icmpT a1_10 (by decide)) ?_
  refine WGo.s (WStep.aloadN a1_33 rfl rfl) ?_
  refine WGo.areturn (.array .long) a1_34 rfl rfl rfl ?_
  exact ⟨rfl, rfl, rfl⟩
theorem c1_1 {Z : State} {a0 : Array Value} (hw : ∀ d ∈ tables_1, d.before a0 Z = true) (ρ : Nat → Nat) (n0 : Nat) (s0 o0 : Int64) (u : Nat) : WGo (g1 Z ρ n0 2 u) (0, [.val (.ref 0), .val (.ref 1), .unset, .unset], [], [(.inl (.long, [(.long s0)])), (.inl (.long, [(.long o0)]))], u) (fun v σ' u' => v = some (.ref 2) ∧ [(.inl (.long, [(.long s0)])), (.inl (.long, [(.long o0)])), (.inl (.long, [(.long (s0 &&& (o0 ^^^ (-1 : Int64))))]))] = σ' ∧ u + 1 = u') := by
  refine WGo.s (WStep.aloadN a1_0 rfl rfl) ?_
  refine WGo.s (WStep.alen (1 : Int32) a1_1 rfl rfl) ?_
  refine WGo.s (WStep.newP (k := 2) (1 : Int32) 1 a1_2 (hw _ (List.mem_of_getElem? (i := 0) rfl)) (by decide) rfl (by decide) rfl (by decide)) ?_
  show WGo _ (4, [.val (.ref 0), .val (.ref 1), .unset, .unset], [(.ref 2)], [(.inl (.long, [(.long s0)])), (.inl (.long, [(.long o0)])), (.inl (.long, [(.long (0 : Int64))]))], (u + 1)) _
  refine WGo.s (WStep.astoreN (L' := [.val (.ref 0), .val (.ref 1), .val (.ref 2), .unset]) a1_4 rfl rfl) ?_
  refine WGo.s (WStep.iconst (0 : Int32) a1_5 rfl) ?_
  refine WGo.s (WStep.istoreN (L' := [.val (.ref 0), .val (.ref 1), .val (.ref 2), .val (.int (0 : Int32))]) a1_6 rfl) ?_
  refine WGo.s (WStep.iloadN a1_7 rfl) ?_
  refine WGo.s (WStep.aloadN a1_8 rfl rfl) ?_
  refine WGo.s (WStep.alen (1 : Int32) a1_9 rfl rfl) ?_
  refine WGo.s (WStep.icmpF a1_10 (by decide)) ?_
  refine WGo.s (WStep.aloadN a1_13 rfl rfl) ?_
  refine WGo.s (WStep.iloadN a1_14 rfl) ?_
  refine WGo.s (WStep.aloadN a1_15 rfl rfl) ?_
  refine WGo.s (WStep.iloadN a1_16 rfl) ?_
  refine WGo.s (WStep.laload 0 a1_17 rfl (by decide) rfl rfl) ?_
  refine WGo.s (WStep.aloadN a1_18 rfl rfl) ?_
  refine WGo.s (WStep.iloadN a1_19 rfl) ?_
  refine WGo.s (WStep.laload 0 a1_20 rfl (by decide) rfl rfl) ?_
  refine WGo.s (WStep.ldc2 a1_21 (hw _ (List.mem_of_getElem? (i := 5) rfl))) ?_
  refine WGo.s (WStep.lxor a1_24) ?_
  refine WGo.s (WStep.land a1_25) ?_
  refine WGo.s (WStep.lastore 0 a1_26 rfl (by decide) rfl (Nat.le_of_ble_eq_true rfl)) ?_
  show WGo _ (27, [.val (.ref 0), .val (.ref 1), .val (.ref 2), .val (.int (0 : Int32))], [], [(.inl (.long, [(.long s0)])), (.inl (.long, [(.long o0)])), (.inl (.long, [(.long (s0 &&& (o0 ^^^ (-1 : Int64))))]))], (u + 1)) _
  refine WGo.s (WStep.iinc (L' := [.val (.ref 0), .val (.ref 1), .val (.ref 2), .val (.int (1 : Int32))]) a1_27 rfl rfl) ?_
  refine WGo.s (WStep.goto a1_30) ?_
  refine WGo.s (WStep.iloadN a1_7 rfl) ?_
  refine WGo.s (WStep.aloadN a1_8 rfl rfl) ?_
  refine WGo.s (WStep.alen (1 : Int32) a1_9 rfl rfl) ?_
  refine WGo.s (WStep.icmpT a1_10 (by decide)) ?_
  refine WGo.s (WStep.aloadN a1_33 rfl rfl) ?_
  refine WGo.areturn (.array .long) a1_34 rfl rfl rfl ?_
  exact ⟨rfl, rfl, rfl⟩
theorem c1_2 {Z : State} {a0 : Array Value} (hw : ∀ d ∈ tables_1, d.before a0 Z = true) (ρ : Nat → Nat) (n0 : Nat) (s0 o0 : Int64) (s1 o1 : Int64) (u : Nat) : WGo (g1 Z ρ n0 2 u) (0, [.val (.ref 0), .val (.ref 1), .unset, .unset], [], [(.inl (.long, [(.long s0), (.long s1)])), (.inl (.long, [(.long o0), (.long o1)]))], u) (fun v σ' u' => v = some (.ref 2) ∧ [(.inl (.long, [(.long s0), (.long s1)])), (.inl (.long, [(.long o0), (.long o1)])), (.inl (.long, [(.long (s0 &&& (o0 ^^^ (-1 : Int64)))), (.long (s1 &&& (o1 ^^^ (-1 : Int64))))]))] = σ' ∧ u + 2 = u') := by
  refine WGo.s (WStep.aloadN a1_0 rfl rfl) ?_
  refine WGo.s (WStep.alen (2 : Int32) a1_1 rfl rfl) ?_
  refine WGo.s (WStep.newP (k := 2) (2 : Int32) 2 a1_2 (hw _ (List.mem_of_getElem? (i := 0) rfl)) (by decide) rfl (by decide) rfl (by decide)) ?_
  show WGo _ (4, [.val (.ref 0), .val (.ref 1), .unset, .unset], [(.ref 2)], [(.inl (.long, [(.long s0), (.long s1)])), (.inl (.long, [(.long o0), (.long o1)])), (.inl (.long, [(.long (0 : Int64)), (.long (0 : Int64))]))], (u + 2)) _
  refine WGo.s (WStep.astoreN (L' := [.val (.ref 0), .val (.ref 1), .val (.ref 2), .unset]) a1_4 rfl rfl) ?_
  refine WGo.s (WStep.iconst (0 : Int32) a1_5 rfl) ?_
  refine WGo.s (WStep.istoreN (L' := [.val (.ref 0), .val (.ref 1), .val (.ref 2), .val (.int (0 : Int32))]) a1_6 rfl) ?_
  refine WGo.s (WStep.iloadN a1_7 rfl) ?_
  refine WGo.s (WStep.aloadN a1_8 rfl rfl) ?_
  refine WGo.s (WStep.alen (2 : Int32) a1_9 rfl rfl) ?_
  refine WGo.s (WStep.icmpF a1_10 (by decide)) ?_
  refine WGo.s (WStep.aloadN a1_13 rfl rfl) ?_
  refine WGo.s (WStep.iloadN a1_14 rfl) ?_
  refine WGo.s (WStep.aloadN a1_15 rfl rfl) ?_
  refine WGo.s (WStep.iloadN a1_16 rfl) ?_
  refine WGo.s (WStep.laload 0 a1_17 rfl (by decide) rfl rfl) ?_
  refine WGo.s (WStep.aloadN a1_18 rfl rfl) ?_
  refine WGo.s (WStep.iloadN a1_19 rfl) ?_
  refine WGo.s (WStep.laload 0 a1_20 rfl (by decide) rfl rfl) ?_
  refine WGo.s (WStep.ldc2 a1_21 (hw _ (List.mem_of_getElem? (i := 5) rfl))) ?_
  refine WGo.s (WStep.lxor a1_24) ?_
  refine WGo.s (WStep.land a1_25) ?_
  refine WGo.s (WStep.lastore 0 a1_26 rfl (by decide) rfl (Nat.le_of_ble_eq_true rfl)) ?_
  show WGo _ (27, [.val (.ref 0), .val (.ref 1), .val (.ref 2), .val (.int (0 : Int32))], [], [(.inl (.long, [(.long s0), (.long s1)])), (.inl (.long, [(.long o0), (.long o1)])), (.inl (.long, [(.long (s0 &&& (o0 ^^^ (-1 : Int64)))), (.long (0 : Int64))]))], (u + 2)) _
  refine WGo.s (WStep.iinc (L' := [.val (.ref 0), .val (.ref 1), .val (.ref 2), .val (.int (1 : Int32))]) a1_27 rfl rfl) ?_
  refine WGo.s (WStep.goto a1_30) ?_
  refine WGo.s (WStep.iloadN a1_7 rfl) ?_
  refine WGo.s (WStep.aloadN a1_8 rfl rfl) ?_
  refine WGo.s (WStep.alen (2 : Int32) a1_9 rfl rfl) ?_
  refine WGo.s (WStep.icmpF a1_10 (by decide)) ?_
  refine WGo.s (WStep.aloadN a1_13 rfl rfl) ?_
  refine WGo.s (WStep.iloadN a1_14 rfl) ?_
  refine WGo.s (WStep.aloadN a1_15 rfl rfl) ?_
  refine WGo.s (WStep.iloadN a1_16 rfl) ?_
  refine WGo.s (WStep.laload 1 a1_17 rfl (by decide) rfl rfl) ?_
  refine WGo.s (WStep.aloadN a1_18 rfl rfl) ?_
  refine WGo.s (WStep.iloadN a1_19 rfl) ?_
  refine WGo.s (WStep.laload 1 a1_20 rfl (by decide) rfl rfl) ?_
  refine WGo.s (WStep.ldc2 a1_21 (hw _ (List.mem_of_getElem? (i := 5) rfl))) ?_
  refine WGo.s (WStep.lxor a1_24) ?_
  refine WGo.s (WStep.land a1_25) ?_
  refine WGo.s (WStep.lastore 1 a1_26 rfl (by decide) rfl (Nat.le_of_ble_eq_true rfl)) ?_
  show WGo _ (27, [.val (.ref 0), .val (.ref 1), .val (.ref 2), .val (.int (1 : Int32))], [], [(.inl (.long, [(.long s0), (.long s1)])), (.inl (.long, [(.long o0), (.long o1)])), (.inl (.long, [(.long (s0 &&& (o0 ^^^ (-1 : Int64)))), (.long (s1 &&& (o1 ^^^ (-1 : Int64))))]))], (u + 2)) _
  refine WGo.s (WStep.iinc (L' := [.val (.ref 0), .val (.ref 1), .val (.ref 2), .val (.int (2 : Int32))]) a1_27 rfl rfl) ?_
  refine WGo.s (WStep.goto a1_30) ?_
  refine WGo.s (WStep.iloadN a1_7 rfl) ?_
  refine WGo.s (WStep.aloadN a1_8 rfl rfl) ?_
  refine WGo.s (WStep.alen (2 : Int32) a1_9 rfl rfl) ?_
  refine WGo.s (WStep.icmpT a1_10 (by decide)) ?_
  refine WGo.s (WStep.aloadN a1_33 rfl rfl) ?_
  refine WGo.areturn (.array .long) a1_34 rfl rfl rfl ?_
  exact ⟨rfl, rfl, rfl⟩
theorem law_go (Z : State) (a0 : Array Value) (hw : ∀ d ∈ tables_1, d.before a0 Z = true) (n0 : Nat) (s0 s1 o0 o1 : Int64) (n : Int32) : WGo (g0 Z (fun k => n0 + k) n0 0 0) (0, [.val (.long s0), .second, .val (.long s1), .second, .val (.long o0), .second, .val (.long o1), .second, .val (.int n), .unset, .unset, .unset, .unset, .unset], [], [], 0) (fun v σ' u' => v = some (.int 1) ∧ σ'.length ≤ 16 ∧ u' ≤ 128) := by
  refine WGo.s (WStep.iload a0_0 rfl) ?_
  refine WGo.s (WStep.iconst (3 : Int32) a0_2 rfl) ?_
  refine WGo.s (WStep.iand a0_3) ?_
  refine WGo.s (WStep.iconst (3 : Int32) a0_4 rfl) ?_
  refine WGo.s (WStep.irem a0_5 (by decide)) ?_
  generalize hg_k : ((n &&& (3 : Int32)) % (3 : Int32)) = k
  have hn : k = 0 ∨ k = 1 ∨ k = 2 := by
    have q := c_and n 3 (by decide)
    have r := (c_iremV (n &&& 3) 3).1 q.1 (by decide)
    have e5 : (3 : Int32).toInt = 3 := rfl
    rw [hg_k] at r
    simp only [← Int32.toInt_inj, Int32.reduceToInt]
    omega
  rcases hn with rfl | rfl | rfl
  · show WGo _ (6, [.val (.long s0), .second, .val (.long s1), .second, .val (.long o0), .second, .val (.long o1), .second, .val (.int n), .unset, .unset, .unset, .unset, .unset], [(.int (0 : Int32))], [], 0) _
    refine WGo.s (WStep.istore (L' := [.val (.long s0), .second, .val (.long s1), .second, .val (.long o0), .second, .val (.long o1), .second, .val (.int n), .val (.int (0 : Int32)), .unset, .unset, .unset, .unset]) a0_6 rfl) ?_
    refine WGo.s (WStep.iload a0_8 rfl) ?_
    refine WGo.s (WStep.newP (k := 0) (0 : Int32) 0 a0_10 (hw _ (List.mem_of_getElem? (i := 0) rfl)) (by decide) rfl (by decide) rfl (by decide)) ?_
    show WGo _ (12, [.val (.long s0), .second, .val (.long s1), .second, .val (.long o0), .second, .val (.long o1), .second, .val (.int n), .val (.int (0 : Int32)), .unset, .unset, .unset, .unset], [(.ref 0)], [(.inl (.long, []))], 0) _
    refine WGo.s (WStep.astore (L' := [.val (.long s0), .second, .val (.long s1), .second, .val (.long o0), .second, .val (.long o1), .second, .val (.int n), .val (.int (0 : Int32)), .val (.ref 0), .unset, .unset, .unset]) a0_12 rfl rfl) ?_
    refine WGo.s (WStep.iload a0_14 rfl) ?_
    refine WGo.s (WStep.newP (k := 1) (0 : Int32) 0 a0_16 (hw _ (List.mem_of_getElem? (i := 0) rfl)) (by decide) rfl (by decide) rfl (by decide)) ?_
    show WGo _ (18, [.val (.long s0), .second, .val (.long s1), .second, .val (.long o0), .second, .val (.long o1), .second, .val (.int n), .val (.int (0 : Int32)), .val (.ref 0), .unset, .unset, .unset], [(.ref 1)], [(.inl (.long, [])), (.inl (.long, []))], 0) _
    refine WGo.s (WStep.astore (L' := [.val (.long s0), .second, .val (.long s1), .second, .val (.long o0), .second, .val (.long o1), .second, .val (.int n), .val (.int (0 : Int32)), .val (.ref 0), .val (.ref 1), .unset, .unset]) a0_18 rfl rfl) ?_
    refine WGo.s (WStep.iload a0_20 rfl) ?_
    refine WGo.s (WStep.ifT a0_22 (by decide)) ?_
    refine WGo.s (WStep.iload a0_36 rfl) ?_
    refine WGo.s (WStep.iconst (1 : Int32) a0_38 rfl) ?_
    refine WGo.s (WStep.icmpT a0_39 (by decide)) ?_
    refine WGo.s (WStep.aload a0_53 rfl rfl) ?_
    refine WGo.s (WStep.aload a0_55 rfl rfl) ?_
    refine WGo.callS a0_57 (ok1 hw _ _ _ _) (hw _ (List.mem_of_getElem? (i := 1) rfl)) (hw _ (List.mem_of_getElem? (i := 2) rfl)) (argsL := [(.ref 0), (.ref 1)]) (S := []) (c1_0 hw _ _ _) rfl rfl rfl rfl rfl rfl (Nat.le_of_ble_eq_true rfl) (Nat.le_of_ble_eq_true rfl) ?_
    rintro _ _ _ ⟨rfl, rfl, rfl⟩
    show WGo _ (60, [.val (.long s0), .second, .val (.long s1), .second, .val (.long o0), .second, .val (.long o1), .second, .val (.int n), .val (.int (0 : Int32)), .val (.ref 0), .val (.ref 1), .unset, .unset], [(.ref 2)], [(.inl (.long, [])), (.inl (.long, [])), (.inl (.long, []))], 0) _
    refine WGo.s (WStep.astore (L' := [.val (.long s0), .second, .val (.long s1), .second, .val (.long o0), .second, .val (.long o1), .second, .val (.int n), .val (.int (0 : Int32)), .val (.ref 0), .val (.ref 1), .val (.ref 2), .unset]) a0_60 rfl rfl) ?_
    refine WGo.s (WStep.aload a0_62 rfl rfl) ?_
    refine WGo.s (WStep.nullF a0_64) ?_
    refine WGo.s (WStep.aload a0_67 rfl rfl) ?_
    refine WGo.s (WStep.alen (0 : Int32) a0_69 rfl rfl) ?_
    refine WGo.s (WStep.iload a0_70 rfl) ?_
    refine WGo.s (WStep.icmpF a0_72 (by decide)) ?_
    refine WGo.s (WStep.aload a0_75 rfl rfl) ?_
    refine WGo.s (WStep.aload a0_77 rfl rfl) ?_
    refine WGo.s (WStep.acmp false 82 a0_79 rfl rfl (by decide) rfl) ?_
    refine WGo.s (WStep.aload a0_82 rfl rfl) ?_
    refine WGo.s (WStep.aload a0_84 rfl rfl) ?_
    refine WGo.s (WStep.acmp false 91 a0_86 rfl rfl (by decide) rfl) ?_
    refine WGo.s (WStep.iconst (1 : Int32) a0_91 rfl) ?_
    refine WGo.s (WStep.istore (L' := [.val (.long s0), .second, .val (.long s1), .second, .val (.long o0), .second, .val (.long o1), .second, .val (.int n), .val (.int (0 : Int32)), .val (.ref 0), .val (.ref 1), .val (.ref 2), .val (.int (1 : Int32))]) a0_92 rfl) ?_
    refine WGo.s (WStep.iload a0_94 rfl) ?_
    refine WGo.s (WStep.ifT a0_96 (by decide)) ?_
    refine WGo.s (WStep.iload a0_141 rfl) ?_
    refine WGo.s (WStep.iconst (1 : Int32) a0_143 rfl) ?_
    refine WGo.s (WStep.icmpT a0_144 (by decide)) ?_
    refine WGo.s (WStep.iload a0_189 rfl) ?_
    refine WGo.ireturn .boolean a0_191 rfl (by simp) ?_
    exact ⟨rfl, Nat.le_of_ble_eq_true rfl, Nat.le_of_ble_eq_true rfl⟩
  · show WGo _ (6, [.val (.long s0), .second, .val (.long s1), .second, .val (.long o0), .second, .val (.long o1), .second, .val (.int n), .unset, .unset, .unset, .unset, .unset], [(.int (1 : Int32))], [], 0) _
    refine WGo.s (WStep.istore (L' := [.val (.long s0), .second, .val (.long s1), .second, .val (.long o0), .second, .val (.long o1), .second, .val (.int n), .val (.int (1 : Int32)), .unset, .unset, .unset, .unset]) a0_6 rfl) ?_
    refine WGo.s (WStep.iload a0_8 rfl) ?_
    refine WGo.s (WStep.newP (k := 0) (1 : Int32) 1 a0_10 (hw _ (List.mem_of_getElem? (i := 0) rfl)) (by decide) rfl (by decide) rfl (by decide)) ?_
    show WGo _ (12, [.val (.long s0), .second, .val (.long s1), .second, .val (.long o0), .second, .val (.long o1), .second, .val (.int n), .val (.int (1 : Int32)), .unset, .unset, .unset, .unset], [(.ref 0)], [(.inl (.long, [(.long (0 : Int64))]))], 1) _
    refine WGo.s (WStep.astore (L' := [.val (.long s0), .second, .val (.long s1), .second, .val (.long o0), .second, .val (.long o1), .second, .val (.int n), .val (.int (1 : Int32)), .val (.ref 0), .unset, .unset, .unset]) a0_12 rfl rfl) ?_
    refine WGo.s (WStep.iload a0_14 rfl) ?_
    refine WGo.s (WStep.newP (k := 1) (1 : Int32) 1 a0_16 (hw _ (List.mem_of_getElem? (i := 0) rfl)) (by decide) rfl (by decide) rfl (by decide)) ?_
    show WGo _ (18, [.val (.long s0), .second, .val (.long s1), .second, .val (.long o0), .second, .val (.long o1), .second, .val (.int n), .val (.int (1 : Int32)), .val (.ref 0), .unset, .unset, .unset], [(.ref 1)], [(.inl (.long, [(.long (0 : Int64))])), (.inl (.long, [(.long (0 : Int64))]))], 2) _
    refine WGo.s (WStep.astore (L' := [.val (.long s0), .second, .val (.long s1), .second, .val (.long o0), .second, .val (.long o1), .second, .val (.int n), .val (.int (1 : Int32)), .val (.ref 0), .val (.ref 1), .unset, .unset]) a0_18 rfl rfl) ?_
    refine WGo.s (WStep.iload a0_20 rfl) ?_
    refine WGo.s (WStep.ifF a0_22 (by decide)) ?_
    refine WGo.s (WStep.aload a0_25 rfl rfl) ?_
    refine WGo.s (WStep.iconst (0 : Int32) a0_27 rfl) ?_
    refine WGo.s (WStep.lloadN a0_28 rfl) ?_
    refine WGo.s (WStep.lastore 0 a0_29 rfl (by decide) rfl (Nat.le_of_ble_eq_true rfl)) ?_
    show WGo _ (30, [.val (.long s0), .second, .val (.long s1), .second, .val (.long o0), .second, .val (.long o1), .second, .val (.int n), .val (.int (1 : Int32)), .val (.ref 0), .val (.ref 1), .unset, .unset], [], [(.inl (.long, [(.long s0)])), (.inl (.long, [(.long (0 : Int64))]))], 2) _
    refine WGo.s (WStep.aload a0_30 rfl rfl) ?_
    refine WGo.s (WStep.iconst (0 : Int32) a0_32 rfl) ?_
    refine WGo.s (WStep.lload a0_33 rfl) ?_
    refine WGo.s (WStep.lastore 0 a0_35 rfl (by decide) rfl (Nat.le_of_ble_eq_true rfl)) ?_
    show WGo _ (36, [.val (.long s0), .second, .val (.long s1), .second, .val (.long o0), .second, .val (.long o1), .second, .val (.int n), .val (.int (1 : Int32)), .val (.ref 0), .val (.ref 1), .unset, .unset], [], [(.inl (.long, [(.long s0)])), (.inl (.long, [(.long o0)]))], 2) _
    refine WGo.s (WStep.iload a0_36 rfl) ?_
    refine WGo.s (WStep.iconst (1 : Int32) a0_38 rfl) ?_
    refine WGo.s (WStep.icmpT a0_39 (by decide)) ?_
    refine WGo.s (WStep.aload a0_53 rfl rfl) ?_
    refine WGo.s (WStep.aload a0_55 rfl rfl) ?_
    refine WGo.callS a0_57 (ok1 hw _ _ _ _) (hw _ (List.mem_of_getElem? (i := 1) rfl)) (hw _ (List.mem_of_getElem? (i := 2) rfl)) (argsL := [(.ref 0), (.ref 1)]) (S := []) (c1_1 hw _ _ s0 o0 _) rfl rfl rfl rfl rfl rfl (Nat.le_of_ble_eq_true rfl) (Nat.le_of_ble_eq_true rfl) ?_
    rintro _ _ _ ⟨rfl, rfl, rfl⟩
    show WGo _ (60, [.val (.long s0), .second, .val (.long s1), .second, .val (.long o0), .second, .val (.long o1), .second, .val (.int n), .val (.int (1 : Int32)), .val (.ref 0), .val (.ref 1), .unset, .unset], [(.ref 2)], [(.inl (.long, [(.long s0)])), (.inl (.long, [(.long o0)])), (.inl (.long, [(.long (s0 &&& (o0 ^^^ (-1 : Int64))))]))], 3) _
    refine WGo.s (WStep.astore (L' := [.val (.long s0), .second, .val (.long s1), .second, .val (.long o0), .second, .val (.long o1), .second, .val (.int n), .val (.int (1 : Int32)), .val (.ref 0), .val (.ref 1), .val (.ref 2), .unset]) a0_60 rfl rfl) ?_
    refine WGo.s (WStep.aload a0_62 rfl rfl) ?_
    refine WGo.s (WStep.nullF a0_64) ?_
    refine WGo.s (WStep.aload a0_67 rfl rfl) ?_
    refine WGo.s (WStep.alen (1 : Int32) a0_69 rfl rfl) ?_
    refine WGo.s (WStep.iload a0_70 rfl) ?_
    refine WGo.s (WStep.icmpF a0_72 (by decide)) ?_
    refine WGo.s (WStep.aload a0_75 rfl rfl) ?_
    refine WGo.s (WStep.aload a0_77 rfl rfl) ?_
    refine WGo.s (WStep.acmp false 82 a0_79 rfl rfl (by decide) rfl) ?_
    refine WGo.s (WStep.aload a0_82 rfl rfl) ?_
    refine WGo.s (WStep.aload a0_84 rfl rfl) ?_
    refine WGo.s (WStep.acmp false 91 a0_86 rfl rfl (by decide) rfl) ?_
    refine WGo.s (WStep.iconst (1 : Int32) a0_91 rfl) ?_
    refine WGo.s (WStep.istore (L' := [.val (.long s0), .second, .val (.long s1), .second, .val (.long o0), .second, .val (.long o1), .second, .val (.int n), .val (.int (1 : Int32)), .val (.ref 0), .val (.ref 1), .val (.ref 2), .val (.int (1 : Int32))]) a0_92 rfl) ?_
    refine WGo.s (WStep.iload a0_94 rfl) ?_
    refine WGo.s (WStep.ifF a0_96 (by decide)) ?_
    refine WGo.s (WStep.iload a0_99 rfl) ?_
    refine WGo.s (WStep.aload a0_101 rfl rfl) ?_
    refine WGo.s (WStep.iconst (0 : Int32) a0_103 rfl) ?_
    refine WGo.s (WStep.laload 0 a0_104 rfl (by decide) rfl rfl) ?_
    refine WGo.s (WStep.lloadN a0_105 rfl) ?_
    refine WGo.s (WStep.lload a0_106 rfl) ?_
    refine WGo.callS a0_108 (ok2 hw _ _ _ _) (hw _ (List.mem_of_getElem? (i := 6) rfl)) (hw _ (List.mem_of_getElem? (i := 7) rfl)) (argsL := [(.long (s0 &&& (o0 ^^^ (-1 : Int64)))), (.long s0), (.long o0)]) (S := [(.int (1 : Int32))]) (c2 hw _ _ (s0 &&& (o0 ^^^ (-1 : Int64))) s0 o0 _ _) rfl rfl rfl rfl rfl rfl (Nat.le_of_ble_eq_true rfl) (Nat.le_of_ble_eq_true rfl) ?_
    rintro _ _ _ ⟨⟨rfl, hP⟩ | ⟨rfl, hP⟩, rfl, rfl⟩
    · skip
      show WGo _ (111, [.val (.long s0), .second, .val (.long s1), .second, .val (.long o0), .second, .val (.long o1), .second, .val (.int n), .val (.int (1 : Int32)), .val (.ref 0), .val (.ref 1), .val (.ref 2), .val (.int (1 : Int32))], [(.int (1 : Int32)), (.int (1 : Int32))], [(.inl (.long, [(.long s0)])), (.inl (.long, [(.long o0)])), (.inl (.long, [(.long (s0 &&& (o0 ^^^ (-1 : Int64))))]))], 3) _
      refine WGo.s (WStep.ifF a0_111 (by decide)) ?_
      refine WGo.s (WStep.aload a0_114 rfl rfl) ?_
      refine WGo.s (WStep.iconst (0 : Int32) a0_116 rfl) ?_
      refine WGo.s (WStep.laload 0 a0_117 rfl (by decide) rfl rfl) ?_
      refine WGo.s (WStep.lloadN a0_118 rfl) ?_
      refine WGo.s (WStep.lcmp a0_119) ?_
      refine WGo.s (WStep.ifF a0_120 (teq ((lw_eq _ _).mpr rfl)).2) ?_
      refine WGo.s (WStep.aload a0_123 rfl rfl) ?_
      refine WGo.s (WStep.iconst (0 : Int32) a0_125 rfl) ?_
      refine WGo.s (WStep.laload 0 a0_126 rfl (by decide) rfl rfl) ?_
      refine WGo.s (WStep.lload a0_127 rfl) ?_
      refine WGo.s (WStep.lcmp a0_129) ?_
      refine WGo.s (WStep.ifF a0_130 (teq ((lw_eq _ _).mpr rfl)).2) ?_
      refine WGo.s (WStep.iconst (1 : Int32) a0_133 rfl) ?_
      refine WGo.s (WStep.goto a0_134) ?_
      refine WGo.s (WStep.iand a0_138) ?_
      show WGo _ (139, [.val (.long s0), .second, .val (.long s1), .second, .val (.long o0), .second, .val (.long o1), .second, .val (.int n), .val (.int (1 : Int32)), .val (.ref 0), .val (.ref 1), .val (.ref 2), .val (.int (1 : Int32))], [(.int (1 : Int32))], [(.inl (.long, [(.long s0)])), (.inl (.long, [(.long o0)])), (.inl (.long, [(.long (s0 &&& (o0 ^^^ (-1 : Int64))))]))], 3) _
      refine WGo.s (WStep.istore (L' := [.val (.long s0), .second, .val (.long s1), .second, .val (.long o0), .second, .val (.long o1), .second, .val (.int n), .val (.int (1 : Int32)), .val (.ref 0), .val (.ref 1), .val (.ref 2), .val (.int (1 : Int32))]) a0_139 rfl) ?_
      refine WGo.s (WStep.iload a0_141 rfl) ?_
      refine WGo.s (WStep.iconst (1 : Int32) a0_143 rfl) ?_
      refine WGo.s (WStep.icmpT a0_144 (by decide)) ?_
      refine WGo.s (WStep.iload a0_189 rfl) ?_
      refine WGo.ireturn .boolean a0_191 rfl (by simp) ?_
      exact ⟨rfl, Nat.le_of_ble_eq_true rfl, Nat.le_of_ble_eq_true rfl⟩
    · exact absurd (okw _ _) hP
  · show WGo _ (6, [.val (.long s0), .second, .val (.long s1), .second, .val (.long o0), .second, .val (.long o1), .second, .val (.int n), .unset, .unset, .unset, .unset, .unset], [(.int (2 : Int32))], [], 0) _
    refine WGo.s (WStep.istore (L' := [.val (.long s0), .second, .val (.long s1), .second, .val (.long o0), .second, .val (.long o1), .second, .val (.int n), .val (.int (2 : Int32)), .unset, .unset, .unset, .unset]) a0_6 rfl) ?_
    refine WGo.s (WStep.iload a0_8 rfl) ?_
    refine WGo.s (WStep.newP (k := 0) (2 : Int32) 2 a0_10 (hw _ (List.mem_of_getElem? (i := 0) rfl)) (by decide) rfl (by decide) rfl (by decide)) ?_
    show WGo _ (12, [.val (.long s0), .second, .val (.long s1), .second, .val (.long o0), .second, .val (.long o1), .second, .val (.int n), .val (.int (2 : Int32)), .unset, .unset, .unset, .unset], [(.ref 0)], [(.inl (.long, [(.long (0 : Int64)), (.long (0 : Int64))]))], 2) _
    refine WGo.s (WStep.astore (L' := [.val (.long s0), .second, .val (.long s1), .second, .val (.long o0), .second, .val (.long o1), .second, .val (.int n), .val (.int (2 : Int32)), .val (.ref 0), .unset, .unset, .unset]) a0_12 rfl rfl) ?_
    refine WGo.s (WStep.iload a0_14 rfl) ?_
    refine WGo.s (WStep.newP (k := 1) (2 : Int32) 2 a0_16 (hw _ (List.mem_of_getElem? (i := 0) rfl)) (by decide) rfl (by decide) rfl (by decide)) ?_
    show WGo _ (18, [.val (.long s0), .second, .val (.long s1), .second, .val (.long o0), .second, .val (.long o1), .second, .val (.int n), .val (.int (2 : Int32)), .val (.ref 0), .unset, .unset, .unset], [(.ref 1)], [(.inl (.long, [(.long (0 : Int64)), (.long (0 : Int64))])), (.inl (.long, [(.long (0 : Int64)), (.long (0 : Int64))]))], 4) _
    refine WGo.s (WStep.astore (L' := [.val (.long s0), .second, .val (.long s1), .second, .val (.long o0), .second, .val (.long o1), .second, .val (.int n), .val (.int (2 : Int32)), .val (.ref 0), .val (.ref 1), .unset, .unset]) a0_18 rfl rfl) ?_
    refine WGo.s (WStep.iload a0_20 rfl) ?_
    refine WGo.s (WStep.ifF a0_22 (by decide)) ?_
    refine WGo.s (WStep.aload a0_25 rfl rfl) ?_
    refine WGo.s (WStep.iconst (0 : Int32) a0_27 rfl) ?_
    refine WGo.s (WStep.lloadN a0_28 rfl) ?_
    refine WGo.s (WStep.lastore 0 a0_29 rfl (by decide) rfl (Nat.le_of_ble_eq_true rfl)) ?_
    show WGo _ (30, [.val (.long s0), .second, .val (.long s1), .second, .val (.long o0), .second, .val (.long o1), .second, .val (.int n), .val (.int (2 : Int32)), .val (.ref 0), .val (.ref 1), .unset, .unset], [], [(.inl (.long, [(.long s0), (.long (0 : Int64))])), (.inl (.long, [(.long (0 : Int64)), (.long (0 : Int64))]))], 4) _
    refine WGo.s (WStep.aload a0_30 rfl rfl) ?_
    refine WGo.s (WStep.iconst (0 : Int32) a0_32 rfl) ?_
    refine WGo.s (WStep.lload a0_33 rfl) ?_
    refine WGo.s (WStep.lastore 0 a0_35 rfl (by decide) rfl (Nat.le_of_ble_eq_true rfl)) ?_
    show WGo _ (36, [.val (.long s0), .second, .val (.long s1), .second, .val (.long o0), .second, .val (.long o1), .second, .val (.int n), .val (.int (2 : Int32)), .val (.ref 0), .val (.ref 1), .unset, .unset], [], [(.inl (.long, [(.long s0), (.long (0 : Int64))])), (.inl (.long, [(.long o0), (.long (0 : Int64))]))], 4) _
    refine WGo.s (WStep.iload a0_36 rfl) ?_
    refine WGo.s (WStep.iconst (1 : Int32) a0_38 rfl) ?_
    refine WGo.s (WStep.icmpF a0_39 (by decide)) ?_
    refine WGo.s (WStep.aload a0_42 rfl rfl) ?_
    refine WGo.s (WStep.iconst (1 : Int32) a0_44 rfl) ?_
    refine WGo.s (WStep.lloadN a0_45 rfl) ?_
    refine WGo.s (WStep.lastore 1 a0_46 rfl (by decide) rfl (Nat.le_of_ble_eq_true rfl)) ?_
    show WGo _ (47, [.val (.long s0), .second, .val (.long s1), .second, .val (.long o0), .second, .val (.long o1), .second, .val (.int n), .val (.int (2 : Int32)), .val (.ref 0), .val (.ref 1), .unset, .unset], [], [(.inl (.long, [(.long s0), (.long s1)])), (.inl (.long, [(.long o0), (.long (0 : Int64))]))], 4) _
    refine WGo.s (WStep.aload a0_47 rfl rfl) ?_
    refine WGo.s (WStep.iconst (1 : Int32) a0_49 rfl) ?_
    refine WGo.s (WStep.lload a0_50 rfl) ?_
    refine WGo.s (WStep.lastore 1 a0_52 rfl (by decide) rfl (Nat.le_of_ble_eq_true rfl)) ?_
    show WGo _ (53, [.val (.long s0), .second, .val (.long s1), .second, .val (.long o0), .second, .val (.long o1), .second, .val (.int n), .val (.int (2 : Int32)), .val (.ref 0), .val (.ref 1), .unset, .unset], [], [(.inl (.long, [(.long s0), (.long s1)])), (.inl (.long, [(.long o0), (.long o1)]))], 4) _
    refine WGo.s (WStep.aload a0_53 rfl rfl) ?_
    refine WGo.s (WStep.aload a0_55 rfl rfl) ?_
    refine WGo.callS a0_57 (ok1 hw _ _ _ _) (hw _ (List.mem_of_getElem? (i := 1) rfl)) (hw _ (List.mem_of_getElem? (i := 2) rfl)) (argsL := [(.ref 0), (.ref 1)]) (S := []) (c1_2 hw _ _ s0 o0 s1 o1 _) rfl rfl rfl rfl rfl rfl (Nat.le_of_ble_eq_true rfl) (Nat.le_of_ble_eq_true rfl) ?_
    rintro _ _ _ ⟨rfl, rfl, rfl⟩
    show WGo _ (60, [.val (.long s0), .second, .val (.long s1), .second, .val (.long o0), .second, .val (.long o1), .second, .val (.int n), .val (.int (2 : Int32)), .val (.ref 0), .val (.ref 1), .unset, .unset], [(.ref 2)], [(.inl (.long, [(.long s0), (.long s1)])), (.inl (.long, [(.long o0), (.long o1)])), (.inl (.long, [(.long (s0 &&& (o0 ^^^ (-1 : Int64)))), (.long (s1 &&& (o1 ^^^ (-1 : Int64))))]))], 6) _
    refine WGo.s (WStep.astore (L' := [.val (.long s0), .second, .val (.long s1), .second, .val (.long o0), .second, .val (.long o1), .second, .val (.int n), .val (.int (2 : Int32)), .val (.ref 0), .val (.ref 1), .val (.ref 2), .unset]) a0_60 rfl rfl) ?_
    refine WGo.s (WStep.aload a0_62 rfl rfl) ?_
    refine WGo.s (WStep.nullF a0_64) ?_
    refine WGo.s (WStep.aload a0_67 rfl rfl) ?_
    refine WGo.s (WStep.alen (2 : Int32) a0_69 rfl rfl) ?_
    refine WGo.s (WStep.iload a0_70 rfl) ?_
    refine WGo.s (WStep.icmpF a0_72 (by decide)) ?_
    refine WGo.s (WStep.aload a0_75 rfl rfl) ?_
    refine WGo.s (WStep.aload a0_77 rfl rfl) ?_
    refine WGo.s (WStep.acmp false 82 a0_79 rfl rfl (by decide) rfl) ?_
    refine WGo.s (WStep.aload a0_82 rfl rfl) ?_
    refine WGo.s (WStep.aload a0_84 rfl rfl) ?_
    refine WGo.s (WStep.acmp false 91 a0_86 rfl rfl (by decide) rfl) ?_
    refine WGo.s (WStep.iconst (1 : Int32) a0_91 rfl) ?_
    refine WGo.s (WStep.istore (L' := [.val (.long s0), .second, .val (.long s1), .second, .val (.long o0), .second, .val (.long o1), .second, .val (.int n), .val (.int (2 : Int32)), .val (.ref 0), .val (.ref 1), .val (.ref 2), .val (.int (1 : Int32))]) a0_92 rfl) ?_
    refine WGo.s (WStep.iload a0_94 rfl) ?_
    refine WGo.s (WStep.ifF a0_96 (by decide)) ?_
    refine WGo.s (WStep.iload a0_99 rfl) ?_
    refine WGo.s (WStep.aload a0_101 rfl rfl) ?_
    refine WGo.s (WStep.iconst (0 : Int32) a0_103 rfl) ?_
    refine WGo.s (WStep.laload 0 a0_104 rfl (by decide) rfl rfl) ?_
    refine WGo.s (WStep.lloadN a0_105 rfl) ?_
    refine WGo.s (WStep.lload a0_106 rfl) ?_
    refine WGo.callS a0_108 (ok2 hw _ _ _ _) (hw _ (List.mem_of_getElem? (i := 6) rfl)) (hw _ (List.mem_of_getElem? (i := 7) rfl)) (argsL := [(.long (s0 &&& (o0 ^^^ (-1 : Int64)))), (.long s0), (.long o0)]) (S := [(.int (1 : Int32))]) (c2 hw _ _ (s0 &&& (o0 ^^^ (-1 : Int64))) s0 o0 _ _) rfl rfl rfl rfl rfl rfl (Nat.le_of_ble_eq_true rfl) (Nat.le_of_ble_eq_true rfl) ?_
    rintro _ _ _ ⟨⟨rfl, hP⟩ | ⟨rfl, hP⟩, rfl, rfl⟩
    · skip
      show WGo _ (111, [.val (.long s0), .second, .val (.long s1), .second, .val (.long o0), .second, .val (.long o1), .second, .val (.int n), .val (.int (2 : Int32)), .val (.ref 0), .val (.ref 1), .val (.ref 2), .val (.int (1 : Int32))], [(.int (1 : Int32)), (.int (1 : Int32))], [(.inl (.long, [(.long s0), (.long s1)])), (.inl (.long, [(.long o0), (.long o1)])), (.inl (.long, [(.long (s0 &&& (o0 ^^^ (-1 : Int64)))), (.long (s1 &&& (o1 ^^^ (-1 : Int64))))]))], 6) _
      refine WGo.s (WStep.ifF a0_111 (by decide)) ?_
      refine WGo.s (WStep.aload a0_114 rfl rfl) ?_
      refine WGo.s (WStep.iconst (0 : Int32) a0_116 rfl) ?_
      refine WGo.s (WStep.laload 0 a0_117 rfl (by decide) rfl rfl) ?_
      refine WGo.s (WStep.lloadN a0_118 rfl) ?_
      refine WGo.s (WStep.lcmp a0_119) ?_
      refine WGo.s (WStep.ifF a0_120 (teq ((lw_eq _ _).mpr rfl)).2) ?_
      refine WGo.s (WStep.aload a0_123 rfl rfl) ?_
      refine WGo.s (WStep.iconst (0 : Int32) a0_125 rfl) ?_
      refine WGo.s (WStep.laload 0 a0_126 rfl (by decide) rfl rfl) ?_
      refine WGo.s (WStep.lload a0_127 rfl) ?_
      refine WGo.s (WStep.lcmp a0_129) ?_
      refine WGo.s (WStep.ifF a0_130 (teq ((lw_eq _ _).mpr rfl)).2) ?_
      refine WGo.s (WStep.iconst (1 : Int32) a0_133 rfl) ?_
      refine WGo.s (WStep.goto a0_134) ?_
      refine WGo.s (WStep.iand a0_138) ?_
      show WGo _ (139, [.val (.long s0), .second, .val (.long s1), .second, .val (.long o0), .second, .val (.long o1), .second, .val (.int n), .val (.int (2 : Int32)), .val (.ref 0), .val (.ref 1), .val (.ref 2), .val (.int (1 : Int32))], [(.int (1 : Int32))], [(.inl (.long, [(.long s0), (.long s1)])), (.inl (.long, [(.long o0), (.long o1)])), (.inl (.long, [(.long (s0 &&& (o0 ^^^ (-1 : Int64)))), (.long (s1 &&& (o1 ^^^ (-1 : Int64))))]))], 6) _
      refine WGo.s (WStep.istore (L' := [.val (.long s0), .second, .val (.long s1), .second, .val (.long o0), .second, .val (.long o1), .second, .val (.int n), .val (.int (2 : Int32)), .val (.ref 0), .val (.ref 1), .val (.ref 2), .val (.int (1 : Int32))]) a0_139 rfl) ?_
      refine WGo.s (WStep.iload a0_141 rfl) ?_
      refine WGo.s (WStep.iconst (1 : Int32) a0_143 rfl) ?_
      refine WGo.s (WStep.icmpF a0_144 (by decide)) ?_
      refine WGo.s (WStep.iload a0_147 rfl) ?_
      refine WGo.s (WStep.aload a0_149 rfl rfl) ?_
      refine WGo.s (WStep.iconst (1 : Int32) a0_151 rfl) ?_
      refine WGo.s (WStep.laload 1 a0_152 rfl (by decide) rfl rfl) ?_
      refine WGo.s (WStep.lloadN a0_153 rfl) ?_
      refine WGo.s (WStep.lload a0_154 rfl) ?_
      refine WGo.callS a0_156 (ok2 hw _ _ _ _) (hw _ (List.mem_of_getElem? (i := 6) rfl)) (hw _ (List.mem_of_getElem? (i := 7) rfl)) (argsL := [(.long (s1 &&& (o1 ^^^ (-1 : Int64)))), (.long s1), (.long o1)]) (S := [(.int (1 : Int32))]) (c2 hw _ _ (s1 &&& (o1 ^^^ (-1 : Int64))) s1 o1 _ _) rfl rfl rfl rfl rfl rfl (Nat.le_of_ble_eq_true rfl) (Nat.le_of_ble_eq_true rfl) ?_
      rintro _ _ _ ⟨⟨rfl, hP⟩ | ⟨rfl, hP⟩, rfl, rfl⟩
      · skip
        show WGo _ (159, [.val (.long s0), .second, .val (.long s1), .second, .val (.long o0), .second, .val (.long o1), .second, .val (.int n), .val (.int (2 : Int32)), .val (.ref 0), .val (.ref 1), .val (.ref 2), .val (.int (1 : Int32))], [(.int (1 : Int32)), (.int (1 : Int32))], [(.inl (.long, [(.long s0), (.long s1)])), (.inl (.long, [(.long o0), (.long o1)])), (.inl (.long, [(.long (s0 &&& (o0 ^^^ (-1 : Int64)))), (.long (s1 &&& (o1 ^^^ (-1 : Int64))))]))], 6) _
        refine WGo.s (WStep.ifF a0_159 (by decide)) ?_
        refine WGo.s (WStep.aload a0_162 rfl rfl) ?_
        refine WGo.s (WStep.iconst (1 : Int32) a0_164 rfl) ?_
        refine WGo.s (WStep.laload 1 a0_165 rfl (by decide) rfl rfl) ?_
        refine WGo.s (WStep.lloadN a0_166 rfl) ?_
        refine WGo.s (WStep.lcmp a0_167) ?_
        refine WGo.s (WStep.ifF a0_168 (teq ((lw_eq _ _).mpr rfl)).2) ?_
        refine WGo.s (WStep.aload a0_171 rfl rfl) ?_
        refine WGo.s (WStep.iconst (1 : Int32) a0_173 rfl) ?_
        refine WGo.s (WStep.laload 1 a0_174 rfl (by decide) rfl rfl) ?_
        refine WGo.s (WStep.lload a0_175 rfl) ?_
        refine WGo.s (WStep.lcmp a0_177) ?_
        refine WGo.s (WStep.ifF a0_178 (teq ((lw_eq _ _).mpr rfl)).2) ?_
        refine WGo.s (WStep.iconst (1 : Int32) a0_181 rfl) ?_
        refine WGo.s (WStep.goto a0_182) ?_
        refine WGo.s (WStep.iand a0_186) ?_
        show WGo _ (187, [.val (.long s0), .second, .val (.long s1), .second, .val (.long o0), .second, .val (.long o1), .second, .val (.int n), .val (.int (2 : Int32)), .val (.ref 0), .val (.ref 1), .val (.ref 2), .val (.int (1 : Int32))], [(.int (1 : Int32))], [(.inl (.long, [(.long s0), (.long s1)])), (.inl (.long, [(.long o0), (.long o1)])), (.inl (.long, [(.long (s0 &&& (o0 ^^^ (-1 : Int64)))), (.long (s1 &&& (o1 ^^^ (-1 : Int64))))]))], 6) _
        refine WGo.s (WStep.istore (L' := [.val (.long s0), .second, .val (.long s1), .second, .val (.long o0), .second, .val (.long o1), .second, .val (.int n), .val (.int (2 : Int32)), .val (.ref 0), .val (.ref 1), .val (.ref 2), .val (.int (1 : Int32))]) a0_187 rfl) ?_
        refine WGo.s (WStep.iload a0_189 rfl) ?_
        refine WGo.ireturn .boolean a0_191 rfl (by simp) ?_
        exact ⟨rfl, Nat.le_of_ble_eq_true rfl, Nat.le_of_ble_eq_true rfl⟩
      · exact absurd (okw _ _) hP
    · exact absurd (okw _ _) hP
theorem plx : plainFor x = true := plainFor_of_name (by first | (simp [plainName, overriddenIn, x]; done) | decide +kernel)
set_option maxRecDepth 65536 in
set_option maxHeartbeats 40000000 in
theorem comes_1 {Post : Tables → Env → Array Value → State → Outcome → State → Prop} (hpost : ∀ tb e args s v u, (limb_1_1.after args s (.returned v) u = true ∧ limb_1_2.after args s (.returned v) u = true ∧ True) → FrameEnd s (.returned v) u (Jvm.fieldLocs frame_1_writes args s ++ Jvm.arrayLocs frame_1_arrays args s ++ Jvm.staticLocs frame_1_statics s) 16 128 → Post tb e args s (.returned v) u) :
    ArmFor flags0 classFile x code maxLocals ret World_1 tables_1 room_1 Calls_1 rest_1 Pre_1 Post := by
  intro l hfl _ _ p e ha hc hk s m args below hf hA hF happ hP
  obtain ⟨hcalls, hrest, hpre⟩ := hP
  obtain ⟨-, -, -, hnamed, -, -, -, hat⟩ := (Spec.applies_iff hf).mp happ
  obtain ⟨hg, hn⟩ := and_e (Cond.before_iff.mp (show (Jvm.Cond.and given_1 narrow_1).before args s = true from hpre))
  obtain ⟨gg1, gg2⟩ := and_e hg
  obtain ⟨gg3, gg4⟩ := and_e gg2
  obtain ⟨gg5, gg6⟩ := and_e gg4
  obtain ⟨gg7, gg8⟩ := and_e gg6
  obtain ⟨gg9, gg10⟩ := and_e gg8
  obtain ⟨w0, w1, w2, w3, w4, rfl⟩ : ∃ w0 w1 w2 w3 w4 : Value, args = #[w0, w1, w2, w3, w4] := by
    have hs : args.size = 5 := by simpa [Cond.value, given_1] using gg1
    obtain ⟨L⟩ := args
    match L, hs with
    | [w0, w1, w2, w3, w4], _ => exact ⟨w0, w1, w2, w3, w4, rfl⟩
  have hw := fun d (hd : d ∈ tables_1) => atoms_spec (ws := Jvm.Cond.code x code maxLocals ret :: tables_1) hat d (List.mem_cons_of_mem _ hd)
  obtain ⟨i0, ei0⟩ := isL_v gg3
  obtain rfl : w0 = (.long i0) := Option.some.inj ei0
  obtain ⟨i1, ei1⟩ := isL_v gg5
  obtain rfl : w1 = (.long i1) := Option.some.inj ei1
  obtain ⟨i2, ei2⟩ := isL_v gg7
  obtain rfl : w2 = (.long i2) := Option.some.inj ei2
  obtain ⟨i3, ei3⟩ := isL_v gg9
  obtain rfl : w3 = (.long i3) := Option.some.inj ei3
  obtain ⟨i4, ei4⟩ := is_v gg10
  obtain rfl : w4 = (.int i4) := Option.some.inj ei4
  obtain ⟨v, σ', u', ⟨rfl, hc1, hu1⟩, r⟩ := law_go s _ hw s.heap.size i0 i1 i2 i3 i4
  have D0 : WDen s (fun k => s.heap.size + k) s.heap.size [] s.heap := ⟨rfl, Nat.zero_le _, fun k o h => by cases h⟩
  obtain ⟨n, o, h1, h2, h3, _, L, rfl, ⟨rfl, N, -⟩, hq⟩ := met_of (l := l) (y := x) (ws := tables_1) (argsL := [(.long i0), (.long i1), (.long i2), (.long i3), (.int i4)]) (h := s.heap) rfl rfl rfl rfl plx (fun k _ => rfl) (fun i j h => Nat.add_left_cancel h) r D0 room_1 (Nat.le_of_ble_eq_true rfl) (Nat.le_trans (Nat.sub_le _ _) (Nat.le_trans hc1 (by decide))) (Nat.le_trans (Nat.sub_le _ _) (Nat.le_trans hu1 (by decide))) (Nat.le_of_ble_eq_true rfl) p e ha hc hk s m _ below hf ((Spec.applies_iff_loose hf).mp happ).1 ⟨rfl, State.Warmed39.refl s, rfl⟩ trivial
  refine ⟨n, _, h1, h2, h3, hpost _ _ _ _ _ _ ⟨Cond.after_iff.mpr rfl, Cond.after_iff.mpr (eq_i res_at (Term.int_eval (1)) rfl), trivial⟩ ⟨hq.1, hq.2.1, (hq.2.2.sift fun y hy => Or.inr (N y hy)).mono (Nat.le_trans (Nat.sub_le _ _) (Nat.le_trans hc1 (by decide))) (Nat.le_trans (Nat.sub_le _ _) (Nat.le_trans hu1 (by decide)))⟩⟩
theorem main_1_1 : Claimed_1_1 := comes_1 fun _ _ _ _ _ _ h hF => ⟨h.1, hF⟩
theorem main_1_2 : Claimed_1_2 := comes_1 fun _ _ _ _ _ _ h hF => ⟨h.2.1, hF⟩
end Jvm.Pilot.@@N@@
namespace Jvm.Pilot.@@N@@
open Jvm Jvm.ClassFile Sem Op Lib Jvm.Free Jvm.Stand Jvm.Pilot.@@N@@.Jvm.D
/-! MADE BY PROGRAM (witnessworld.py) out of the Statement's table words and the real class files: 11 classes; the members and pool entries that the words name. The judged class is class 1, her method 1. -/
namespace start1
open Jvm.ClassFile
def u (s : String) : CpInfo := .utf8 (stringToUtf16 s)
/-- a pool by its gaps: so many unusable entries, then the entry; so many at the end -/
def gap : Nat → List CpInfo → List CpInfo
  | 0, r => r
  | n + 1, r => .unusable :: gap n r
def poolList (es : List (Nat × CpInfo)) (last : Nat) : List CpInfo := es.foldr (fun e r => gap e.1 (e.2 :: r)) (gap last [])
def pool (es : List (Nat × CpInfo)) (last : Nat) : Array CpInfo := ⟨poolList es last⟩
def fileOf (pool : Array CpInfo) (this : Nat) (attrs : Array Attribute := #[]) (ms : Array MethodInfo := #[]) (fl : Nat := 33) (sup : Nat := 0) (ifs : Array Nat := #[]) (fds : Array FieldInfo := #[]) : ClassFile where
  minorVersion := 0
  majorVersion := 65
  constantPool := pool
  accessFlags := fl
  thisClass := this
  superClass := sup
  interfaces := ifs
  fields := fds
  methods := ms
  attributes := attrs
def plain (name : String) (sup : Option ClassId) : Class where
  name := name
  kind := .ordinary
  loader := none
  accessFlags := 33
  super := sup
  interfaces := #[]
  cf := none
  fields := #[]
  methods := #[]
  instanceTypes := #[]
  staticTypes := #[]
  resolved := #[]
  callSites := []
  init := .initialized
  statics := none
  mirror := none

def pool0 : Array CpInfo := pool [(5, u "<init>"), (0, u "()V"), (1, .class_ 10), (1, u "java/lang/Object")] 113

def k0m0 : Method := { name := "<init>", desc := "()V", sig := { parameters := [], returnType := none }, accessFlags := 1, code := none }
/-- java/lang/Object -/
def k0 : Class := { plain "java/lang/Object" none with
  accessFlags := 33
  interfaces := #[]
  cf := some (fileOf pool0 8 #[] #[{ accessFlags := 1, nameIndex := 5, descriptorIndex := 6, attributes := #[] }] 33 0 #[] #[])
  fields := #[]
  methods := #[k0m0]
  instanceTypes := #[]
  staticTypes := #[]
  resolved := Array.replicate 124 none
  statics := none }

def pool1 : Array CpInfo := pool [(2, .class_ 4), (1, u "java/lang/Object"), (0, u "<init>"), (0, u "()V"), (0, .methodref 8 9), (0, .class_ 10), (0, .nameAndType 11 12), (0, u "com/example/coarsen/coarsen/abstraction/ShareSpace"), (0, u "andNot"), (0, u "([J[J)[J"), (0, .methodref 14 15), (0, .class_ 16), (0, .nameAndType 17 18), (0, u "com/example/coarsen/coarsen/abstraction/ShareSpaceAndNotPinLaw"), (0, u "wordOk"), (0, u "(JJJ)Z"), (2, u "law"), (0, u "(JJJJI)Z")] 5

def k1m0 : Method := { name := "<init>", desc := "()V", sig := { parameters := [], returnType := none }, accessFlags := 1, code := none }
def k1c1 : Code := { maxStack := 7, maxLocals := 14, code := code, exceptionTable := #[], attributes := #[] }
def k1m1 : Method := { name := "law", desc := "(JJJJI)Z", sig := { parameters := [.long, .long, .long, .long, .int], returnType := some .boolean }, accessFlags := 9, code := some k1c1 }
def k1c2 : Code := { maxStack := 6, maxLocals := 9, code := method_3_code, exceptionTable := #[], attributes := #[] }
def k1m2 : Method := { name := "wordOk", desc := "(JJJ)Z", sig := { parameters := [.long, .long, .long], returnType := some .boolean }, accessFlags := 10, code := some k1c2 }
/-- com/example/coarsen/coarsen/abstraction/ShareSpaceAndNotPinLaw -/
def k1 : Class := { plain "com/example/coarsen/coarsen/abstraction/ShareSpaceAndNotPinLaw" (some 0) with
  accessFlags := 49
  interfaces := #[]
  cf := some (fileOf pool1 14 #[] #[{ accessFlags := 1, nameIndex := 5, descriptorIndex := 6, attributes := #[] }, { accessFlags := 9, nameIndex := 21, descriptorIndex := 22, attributes := #[] }, { accessFlags := 10, nameIndex := 17, descriptorIndex := 18, attributes := #[] }] 49 2 #[] #[])
  fields := #[]
  methods := #[k1m0, k1m1, k1m2]
  instanceTypes := #[]
  staticTypes := #[]
  resolved := Array.replicate 28 none
  statics := none }

def pool2 : Array CpInfo := pool [(2, .class_ 4), (1, u "java/lang/Object"), (3, .class_ 10), (1, u "com/example/coarsen/coarsen/abstraction/ShareSpace"), (0, u "supply"), (0, u "D"), (2, u "weights"), (0, u "[[D"), (2, u "weighty"), (0, u "[[J"), (2, u "matched"), (0, u "[Lcom/example/coarsen/coarsen/abstraction/ShareSpace$Box;"), (49, .class_ 75), (0, u "com/example/coarsen/coarsen/abstraction/ShareSpace$Box"), (22, u "WHOLE"), (0, u "Lcom/example/coarsen/coarsen/abstraction/ShareSpace$Box;"), (14, u "([J[J)[J"), (96, .long 18446744073709551615), (1, u "DAYS"), (0, u "I"), (24, u "andNot")] 7

def k2c0 : Code := { maxStack := 8, maxLocals := 4, code := prog_16_method_15_code, exceptionTable := #[], attributes := #[] }
def k2m0 : Method := { name := "andNot", desc := "([J[J)[J", sig := { parameters := [(.array .long), (.array .long)], returnType := some (.array .long) }, accessFlags := 8, code := some k2c0 }
/-- com/example/coarsen/coarsen/abstraction/ShareSpace -/
def k2 : Class := { plain "com/example/coarsen/coarsen/abstraction/ShareSpace" (some 0) with
  accessFlags := 48
  interfaces := #[]
  cf := some (fileOf pool2 8 #[.nestMembers #[74]] #[{ accessFlags := 8, nameIndex := 239, descriptorIndex := 114, attributes := #[] }] 48 2 #[] #[{ accessFlags := 26, nameIndex := 98, descriptorIndex := 99, attributes := #[] }, { accessFlags := 26, nameIndex := 213, descriptorIndex := 214, attributes := #[] }, { accessFlags := 18, nameIndex := 11, descriptorIndex := 12, attributes := #[] }, { accessFlags := 18, nameIndex := 15, descriptorIndex := 16, attributes := #[] }, { accessFlags := 18, nameIndex := 19, descriptorIndex := 20, attributes := #[] }, { accessFlags := 18, nameIndex := 23, descriptorIndex := 24, attributes := #[] }])
  fields := #[{ name := "WHOLE", type := (.object "com/example/coarsen/coarsen/abstraction/ShareSpace$Box"), accessFlags := 26, slot := 0, constantValue := 0 }, { name := "DAYS", type := .int, accessFlags := 26, slot := 1, constantValue := 0 }, { name := "supply", type := .double, accessFlags := 18, slot := 0, constantValue := 0 }, { name := "weights", type := (.array (.array .double)), accessFlags := 18, slot := 1, constantValue := 0 }, { name := "weighty", type := (.array (.array .long)), accessFlags := 18, slot := 2, constantValue := 0 }, { name := "matched", type := (.array (.object "com/example/coarsen/coarsen/abstraction/ShareSpace$Box")), accessFlags := 18, slot := 3, constantValue := 0 }]
  methods := #[k2m0]
  instanceTypes := #[.double, (.array (.array .double)), (.array (.array .long)), (.array (.object "com/example/coarsen/coarsen/abstraction/ShareSpace$Box"))]
  staticTypes := #[(.object "com/example/coarsen/coarsen/abstraction/ShareSpace$Box"), .int]
  resolved := Array.replicate 247 none
  statics := none }

def pool3 : Array CpInfo := pool [(1, u "java/lang/Cloneable"), (0, .class_ 1), (0, u "java/lang/Object"), (0, .class_ 3)] 3

/-- java/lang/Cloneable -/
def k3 : Class := { plain "java/lang/Cloneable" (some 0) with
  accessFlags := 1537
  interfaces := #[]
  cf := some (fileOf pool3 2 #[] #[] 1537 4 #[] #[])
  fields := #[]
  methods := #[]
  instanceTypes := #[]
  staticTypes := #[]
  resolved := Array.replicate 8 none
  statics := none }

def pool4 : Array CpInfo := pool [(1, u "java/io/Serializable"), (0, .class_ 1), (0, u "java/lang/Object"), (0, .class_ 3)] 3

/-- java/io/Serializable -/
def k4 : Class := { plain "java/io/Serializable" (some 0) with
  accessFlags := 1537
  interfaces := #[]
  cf := some (fileOf pool4 2 #[] #[] 1537 4 #[] #[])
  fields := #[]
  methods := #[]
  instanceTypes := #[]
  staticTypes := #[]
  resolved := Array.replicate 8 none
  statics := none }

/-- the primitive byte -/
def k5 : Class := { plain "byte" none with kind := .primitive 'B', accessFlags := 0x411 }
/-- [B -/
def k6 : Class := { plain "[B" (some 0) with kind := .array 5 .byte, interfaces := #[3, 4], accessFlags := 1041 }

/-- the primitive int -/
def k7 : Class := { plain "int" none with kind := .primitive 'I', accessFlags := 0x411 }
/-- [I -/
def k8 : Class := { plain "[I" (some 0) with kind := .array 7 .int, interfaces := #[3, 4], accessFlags := 1041 }

/-- the primitive long -/
def k9 : Class := { plain "long" none with kind := .primitive 'J', accessFlags := 0x411 }
/-- [J -/
def k10 : Class := { plain "[J" (some 0) with kind := .array 9 .long, interfaces := #[3, 4], accessFlags := 1041 }

def heap : Heap := #[]
def classes : Array Class := #[k0, k1, k2, k3, k4, k5, k6, k7, k8, k9, k10]
def interned : List (Array UInt16 × Addr) := []
def slotsUsed : Nat := 0
def theMethod : MethodId := ⟨1, 1⟩
def args0 : Array Value := #[.long 5, .long 0, .long 3, .long 7, .int 2]
def aboutOver (below : List Frame) : State where
  vm := { classes := classes, interned := interned.toArray }
  heap := heap
  slotsUsed := slotsUsed
  threads := #[{ frames := .invoking theMethod args0 :: below }]
def below0 : List Frame := [.native { method := ⟨0, 0⟩, args := #[] }]
def about1 : State := aboutOver below0
def p0 : Program := .bare "" "" ""
def e0 : Env := launch0.env 0 0 0
theorem w_frames : about1.frames = Frame.invoking theMethod args0 :: below0 := rfl
set_option maxRecDepth 65536 in
theorem w_args : argsFit about1.vm theMethod args0 = true := by decide +kernel
set_option maxRecDepth 65536 in
theorem w_heap : heapFits about1 = true := by decide +kernel
set_option maxRecDepth 65536 in
theorem w_runnable : about1.curStatus? = some .runnable := by decide +kernel
set_option maxRecDepth 65536 in
theorem w_alone : about1.alone = true := by decide +kernel
set_option maxRecDepth 65536 in
theorem w_named : about1.methodNamed? x = some theMethod := by decide +kernel
set_option maxRecDepth 65536 in
theorem w_hears : about1.hears theMethod below0 = true := by decide +kernel
set_option maxRecDepth 65536 in
theorem w_ripe : about1.ripe theMethod args0 below0 = true := by decide +kernel
theorem w_running : about1.status = .running := rfl
set_option maxRecDepth 65536 in
theorem w_room : about1.hasRoom e0.platform room_1 = true :=
  launch0.hasRoom_least _ room_1 (by decide +kernel) (by decide +kernel) (by decide +kernel) (by decide +kernel) (by decide +kernel) (by decide +kernel)
theorem allAtoms_all (ts : List Jvm.Cond) (a : Array Jvm.Value) (st : Jvm.State) : (allAtoms ts).before a st = ts.all (fun c => c.before a st) := by
  induction ts with
  | nil => rfl
  | cons c t ih =>
    show (Jvm.Cond.and c (allAtoms t)).before a st = _
    rw [Jvm.Cond.before_and, ih, List.all_cons]
def words1 : List Jvm.Cond := Jvm.Cond.code x code maxLocals ret :: tables_1
/-- a 'code' word, met by the world's own term for the bytes: nothing is compared byte by byte -/
theorem code_word {y : MethodName} {bytes : ByteArray} {mx : Nat} {rt : Option FieldType} {a : Array Value} {s : State} {m : MethodId} {meth : Method} {c : Code} (h1 : s.methodNamed? y = some m) (h2 : s.vm.method? m = some meth) (h3 : meth.code = some c) (h4 : c.code = bytes)
    (h5 : (c.maxLocals == mx && c.exceptionTable.isEmpty && decide (c.maxStack ≤ mostOperands) && decide (meth.sig.returnType = rt) && !meth.locks && decide (parseMethodDescriptor y.desc = some meth.sig)) = true) : (Jvm.Cond.code y bytes mx rt).before a s = true := by
  simp only [Bool.and_eq_true, beq_iff_eq, Bool.not_eq_true', decide_eq_true_eq] at h5
  obtain ⟨⟨⟨⟨⟨g1, g2⟩, g3⟩, g4⟩, g5⟩, g6⟩ := h5
  simp [Cond.before, Cond.holds, Cond.value, h1, h2, h3, h4, g1, g2, g3, g4, g5, g6]
def isCode : Jvm.Cond → Bool
  | .code _ _ _ _ => true
  | _ => false
theorem all_split {L : List Jvm.Cond} {P : Jvm.Cond → Bool} (h1 : L.all (fun c => isCode c || P c) = true) (h2 : ∀ c ∈ L.filter isCode, P c = true) : L.all P = true := by
  refine List.all_eq_true.mpr fun c hc => ?_
  have h := List.all_eq_true.mp h1 c hc
  rcases Bool.eq_false_or_eq_true (isCode c) with hi | hi
  · exact h2 c (List.mem_filter.mpr ⟨hc, hi⟩)
  · simpa [hi] using h
set_option maxRecDepth 65536 in
theorem w_c0 : (Jvm.Cond.code x code maxLocals ret).before args0 about1 = true := code_word (m := ⟨1, 1⟩) (meth := k1m1) (c := k1c1) (by decide +kernel) rfl rfl rfl (by decide +kernel)
set_option maxRecDepth 65536 in
theorem w_c1 : (Jvm.Cond.code ({ cls := "com/example/coarsen/coarsen/abstraction/ShareSpace", name := "andNot", desc := "([J[J)[J" } : Jvm.MethodName) prog_16_method_15_code (4 : Nat) (Option.some (Jvm.ClassFile.FieldType.array Jvm.ClassFile.FieldType.long))).before args0 about1 = true := code_word (m := ⟨2, 0⟩) (meth := k2m0) (c := k2c0) (by decide +kernel) rfl rfl rfl (by decide +kernel)
set_option maxRecDepth 65536 in
theorem w_c2 : (Jvm.Cond.code ({ cls := "com/example/coarsen/coarsen/abstraction/ShareSpaceAndNotPinLaw", name := "wordOk", desc := "(JJJ)Z" } : Jvm.MethodName) method_3_code (9 : Nat) (Option.some Jvm.ClassFile.FieldType.boolean)).before args0 about1 = true := code_word (m := ⟨1, 2⟩) (meth := k1m2) (c := k1c2) (by decide +kernel) rfl rfl rfl (by decide +kernel)
def codes1 : List Jvm.Cond := [Jvm.Cond.code x code maxLocals ret, Jvm.Cond.code ({ cls := "com/example/coarsen/coarsen/abstraction/ShareSpace", name := "andNot", desc := "([J[J)[J" } : Jvm.MethodName) prog_16_method_15_code (4 : Nat) (Option.some (Jvm.ClassFile.FieldType.array Jvm.ClassFile.FieldType.long)), Jvm.Cond.code ({ cls := "com/example/coarsen/coarsen/abstraction/ShareSpaceAndNotPinLaw", name := "wordOk", desc := "(JJJ)Z" } : Jvm.MethodName) method_3_code (9 : Nat) (Option.some Jvm.ClassFile.FieldType.boolean)]
set_option maxRecDepth 65536 in
theorem codes_eq : words1.filter isCode = codes1 := rfl
theorem w_codes : ∀ c ∈ words1.filter isCode, c.before args0 about1 = true := by
  rw [codes_eq]
  intro c hc
  simp only [codes1, List.mem_cons, List.not_mem_nil, or_false] at hc
  rcases hc with rfl | rfl | rfl
  · exact w_c0
  · exact w_c1
  · exact w_c2
set_option maxRecDepth 65536 in
theorem w_t1 : words1.all (fun c => isCode c || c.before args0 about1) = true := by decide +kernel
theorem w_tables : (allAtoms (Jvm.Cond.code x code maxLocals ret :: tables_1)).before args0 about1 = true := by
  rw [allAtoms_all]
  show words1.all (fun c => c.before args0 about1) = true
  refine all_split ?_ w_codes
  rw [w_t1]
set_option maxRecDepth 65536 in
theorem w_case : (Jvm.Cond.and given_1 narrow_1).before args0 about1 = true := by decide +kernel
theorem w_applies : (headSpec (Jvm.Cond.code x code maxLocals ret :: tables_1) room_1).applies x e0.platform about1 = true :=
  (Spec.applies_iff w_frames).mpr ⟨w_running, w_runnable, w_alone, w_named, w_hears, w_ripe, w_room, w_tables⟩
theorem atStart : AtStart classFile x code maxLocals ret World_1 tables_1 room_1 Calls_1 rest_1 Pre_1 launch0 p0 e0 about1 theMethod args0 below0 :=
  ⟨lists_1, trivial, launch0.admits_env _ _ _, launch0.least_env, fairChoices_fair.cas, fairChoices_fair.clock, w_frames, w_args, w_heap, w_applies, trivial, trivial, w_case⟩
end start1
theorem witness_1 : WitnessClaimed_1 := ⟨start1.p0, start1.e0, start1.about1, start1.theMethod, start1.args0, start1.below0, start1.atStart⟩
end Jvm.Pilot.@@N@@
