import JvmDerived
import JvmDerived.Pilot.@@N@@Statement
import JvmDerived.Pilot.@@N@@Code
set_option linter.unusedVariables false
set_option linter.unusedSimpArgs false

namespace Jvm.Sy
open Jvm Jvm.ClassFile Sem Op Lib Jvm.Free Jvm.Stand Jvm.LawKit Jvm.RoadKit Bundle

/-! ## 1. Abstract values, objects, heaps -/
abbrev WKey := String × String × String
abbrev WObj := (FieldType × List Value) ⊕ (String × List (WKey × Value))
abbrev WHp := List WObj
def gv (ρ : Nat → Nat) : Value → Value
  | .ref a => .ref (ρ a)
  | .int x => .int x
  | .long x => .long x
  | .float x => .float x
  | .double x => .double x
  | .null => .null
  | .retAddr q => .retAddr q
def gs (ρ : Nat → Nat) : Slot → Slot
  | .val v => .val (gv ρ v)
  | .unset => .unset
  | .second => .second
def gS (ρ : Nat → Nat) (S : List Value) : List Value := S.map (gv ρ)
def gL (ρ : Nat → Nat) (L : List Slot) : Array Slot := (L.map (gs ρ)).toArray
section Vals
variable {ρ : Nat → Nat} {v : Value} {ty : FieldType}
theorem cat_gv : (gv ρ v).category = v.category := by cases v <;> rfl
theorem isRef_gv : (gv ρ v).isRef = v.isRef := by cases v <;> rfl
theorem fits_gv : fits ty (gv ρ v) = fits ty v := by cases ty <;> cases v <;> rfl
theorem narrow_gv : narrow ty (gv ρ v) = gv ρ (narrow ty v) := by cases ty <;> cases v <;> rfl
theorem dv_gv : gv ρ (defaultValue ty) = defaultValue ty := by cases ty <;> rfl
theorem gv_inj (h : ∀ i j, ρ i = ρ j → i = j) {w : Value} (e : gv ρ v = gv ρ w) : v = w := by
  cases v <;> cases w <;> simp [gv] at e ⊢ <;> first | exact e | exact h _ _ e
theorem sum_gS (S : List Value) : ((gS ρ S).map fun v => v.category).sum = (S.map Value.category).sum := by
  induction S with
  | nil => rfl
  | cons a t ih => simp only [gS, List.map_cons, List.sum_cons, cat_gv] at ih ⊢; rw [ih]
theorem gL_get (L : List Slot) (k : Nat) : (gL ρ L)[k]? = (L[k]?).map (gs ρ) := by simp [gL]
theorem gL_val {L : List Slot} {k : Nat} (h : L[k]? = some (.val v)) : (gL ρ L)[k]? = some (.val (gv ρ v)) := by rw [gL_get, h]; rfl
theorem gL_size (L : List Slot) : (gL ρ L).size = L.length := by simp [gL]
end Vals
def ArrOk (Z : State) (ρ : Nat → Nat) (h : Heap) (a : Addr) (ty : FieldType) (vs : List Value) : Prop :=
  ∃ cl : Cell, Arr Z h a cl ty ∧ cl.slots.toList = vs.map (gv ρ) ∧ (∀ C, ty = .object C → Ovr Z cl.cls C) ∧ ∀ v ∈ vs, fits ty v = true
def ObjOk (Z : State) (ρ : Nat → Nat) (h : Heap) (a : Addr) (C : String) (fs : List (WKey × Value)) : Prop :=
  Exa Z h a C ∧ (∀ (i : Nat) (O n d : String) (v : Value), fs[i]? = some ((O, n, d), v) → Fld Z h a O n d (gv ρ v)) ∧
    ∀ (i j : Nat) (k1 k2 : WKey) (v1 v2 : Value), i ≠ j → fs[i]? = some (k1, v1) → fs[j]? = some (k2, v2) → RoadKit.slotOf Z k1.1 k1.2.1 k1.2.2 ≠ RoadKit.slotOf Z k2.1 k2.2.1 k2.2.2
def CellOk (Z : State) (ρ : Nat → Nat) (h : Heap) (a : Addr) : WObj → Prop
  | .inl q => ArrOk Z ρ h a q.1 q.2
  | .inr q => ObjOk Z ρ h a q.1 q.2
def WDen (Z : State) (ρ : Nat → Nat) (n0 : Nat) (σ : WHp) (h : Heap) : Prop :=
  h.size = n0 + σ.length ∧ σ.length ≤ 1000 ∧ ∀ (k : Nat) (o : WObj), σ[k]? = some o → CellOk Z ρ h (n0 + k) o
section Heaps
variable {Z : State} {ρ : Nat → Nat} {h h' : Heap} {a b : Addr} {o : WObj} {n0 k sl : Nat} {σ : WHp} {v : Value}
theorem CellOk.ext (F : CellOk Z ρ h a o) (E : Ext h h') : CellOk Z ρ h' a o := by
  rcases o with ⟨ty, vs⟩ | ⟨C, fs⟩
  · obtain ⟨cl, A, r⟩ := F; exact ⟨cl, A.ext E, r⟩
  · obtain ⟨F1, F2, F3⟩ := F; exact ⟨F1.ext E, fun i O n d v q => (F2 i O n d v q).ext E, F3⟩
theorem CellOk.other (F : CellOk Z ρ h b o) (W : Wr h h' a sl v) (q : b ≠ a) : CellOk Z ρ h' b o := by
  rcases o with ⟨ty, vs⟩ | ⟨C, fs⟩
  · obtain ⟨cl, A, r⟩ := F; exact ⟨cl, A.other W q, r⟩
  · obtain ⟨F1, F2, F3⟩ := F; exact ⟨F1.wr W, fun i O n d v y => (F2 i O n d v y).other W (Or.inl q), F3⟩
theorem WDen.push (D : WDen Z ρ n0 σ h) (E : Ext h h') (hs : h'.size = h.size + 1) (hl : σ.length < 1000) (F : CellOk Z ρ h' (n0 + σ.length) o) : WDen Z ρ n0 (σ ++ [o]) h' := by
  obtain ⟨D1, D2, D3⟩ := D
  refine ⟨by rw [hs, D1]; simp [Nat.add_assoc], by simp; omega, fun k o' hk => ?_⟩
  by_cases q : k < σ.length
  · rw [List.getElem?_append_left q] at hk; exact (D3 k o' hk).ext E
  · rw [List.getElem?_append_right (by omega)] at hk
    have e : k - σ.length = 0 := by
      rcases Nat.eq_zero_or_pos (k - σ.length) with z | z
      · exact z
      · rw [List.getElem?_eq_none (by simp; omega)] at hk; cases hk
    rw [e] at hk
    cases hk
    have e2 : k = σ.length := by omega
    rw [e2]; exact F
theorem WDen.put (D : WDen Z ρ n0 σ h) (W : Wr h h' (n0 + k) sl v) (F : CellOk Z ρ h' (n0 + k) o) : WDen Z ρ n0 (σ.set k o) h' := by
  obtain ⟨D1, D2, D3⟩ := D
  refine ⟨by rw [W.size, D1]; simp, by simp; exact D2, fun j o' hj => ?_⟩
  by_cases q : j = k
  · subst q
    rw [List.getElem?_set] at hj
    simp only [if_true] at hj
    split at hj
    · cases hj; exact F
    · cases hj
  · rw [List.getElem?_set_ne (Ne.symm q)] at hj
    exact (D3 j o' hj).other W fun e => q (Nat.add_left_cancel e)
theorem WDen.lt (D : WDen Z ρ n0 σ h) (hk : σ[k]? = some o) : k < 1000 := by
  have := (List.getElem?_eq_some_iff.mp hk).1
  have := D.2.1
  omega
theorem ArrOk.size {ty : FieldType} {vs : List Value} {cl : Cell} (e : cl.slots.toList = vs.map (gv ρ)) : cl.slots.size = vs.length := by
  have := congrArg List.length e
  simpa using this
theorem ArrOk.at {vs : List Value} {cl : Cell} (e : cl.slots.toList = vs.map (gv ρ)) {i : Nat} {w : Value} (hw : vs[i]? = some w) : cl.slots[i]? = some (gv ρ w) := by
  rw [← Array.getElem?_toList, e, List.getElem?_map, hw]; rfl
theorem ArrOk.set {ty : FieldType} {vs : List Value} {cl : Cell} (A : Arr Z h a cl ty) (e : cl.slots.toList = vs.map (gv ρ)) (hO : ∀ C, ty = .object C → Ovr Z cl.cls C) (hf : ∀ v ∈ vs, fits ty v = true) {i : Nat} {w : Value} (W : Wr h h' a i (gv ρ w)) (hw : fits ty w = true) : ArrOk Z ρ h' a ty (vs.set i w) := by
  refine ⟨cl.setSlot i (gv ρ w), A.same W, ?_, hO, fun y hy => ?_⟩
  · show (cl.slots.setIfInBounds i (gv ρ w)).toList = _
    rw [Array.toList_setIfInBounds, e, List.map_set]
  · rcases List.mem_or_eq_of_mem_set hy with q | q
    · exact hf y q
    · rw [q]; exact hw
end Heaps
/-! ## 2. A method's walk -/
abbrev WMC := (State × (Nat → Nat) × Nat) × (String × ByteArray × String × Option FieldType × Nat) × (Nat × Nat × Nat × Nat)
abbrev WMC.Z (G : WMC) : State := G.1.1
abbrev WMC.ρ (G : WMC) : Nat → Nat := G.1.2.1
abbrev WMC.n0 (G : WMC) : Nat := G.1.2.2
abbrev WMC.own (G : WMC) : String := G.2.1.1
abbrev WMC.bytes (G : WMC) : ByteArray := G.2.1.2.1
abbrev WMC.nm (G : WMC) : String := G.2.1.2.2.1
abbrev WMC.ret (G : WMC) : Option FieldType := G.2.1.2.2.2.1
abbrev WMC.ml (G : WMC) : Nat := G.2.1.2.2.2.2
abbrev WMC.j0 (G : WMC) : Nat := G.2.2.1
abbrev WMC.u0 (G : WMC) : Nat := G.2.2.2.1
abbrev WMC.fr (G : WMC) : Nat := G.2.2.2.2.1
abbrev WMC.lo (G : WMC) : Nat := G.2.2.2.2.2
abbrev WCfg := Nat × List Slot × List Value × WHp × Nat
def frm (G : WMC) (m : MethodId) (A : WCfg) : JFrame := mkF m A.1 (gL G.ρ A.2.1) (gS G.ρ A.2.2.1)
def WCtx (G : WMC) (p : Program) (R : Room) (s : State) (m : MethodId) (meth : Method) (c : Code) : Prop :=
  p.tables.exec = Jvm.exec ∧ c.code = G.bytes ∧ G.Z.Warmed39 s.vm ∧ s.vm.findClass G.own = some m.cls ∧ meth.name = G.nm ∧ meth.sig.returnType = G.ret ∧ c.maxLocals = G.ml ∧ s.heap.size = G.n0 + G.j0 ∧ (∀ k, k < 1000 → G.ρ k = G.n0 + k) ∧ (∀ i j, G.ρ i = G.ρ j → i = j) ∧ G.fr ≤ R.frames ∧ G.lo ≤ R.locals
def WHere (G : WMC) (p : Program) (l : Launch) (e : Env) (R : Room) (s : State) (m : MethodId) (args : Array Value) (below : List Frame) (meth : Method) (c : Code) (σ : WHp) (u : Nat) (T : State) : Prop :=
  ∃ locs ce sl, σ.length = G.j0 + ce ∧ u = G.u0 + sl ∧ Stand p l e R s m args below meth c T locs ce sl ∧ WDen G.Z G.ρ G.n0 σ T.heap ∧ Fr G.n0 locs
def WStep (G : WMC) (A B : WCfg) : Prop :=
  A.2.2.2.1.length ≤ B.2.2.2.1.length ∧ A.2.2.2.2 ≤ B.2.2.2.2 ∧
  ∀ (p : Program) (l : Launch) (e : Env) (R : Room) (s : State) (m : MethodId) (args : Array Value) (below : List Frame) (meth : Method) (c : Code),
    WCtx G p R s m meth c → B.2.2.2.1.length ≤ G.j0 + R.cells → B.2.2.2.2 ≤ G.u0 + R.slots →
    ∀ T, WHere G p l e R s m args below meth c A.2.2.2.1 A.2.2.2.2 T →
      ∃ T', WHere G p l e R s m args below meth c B.2.2.2.1 B.2.2.2.2 T' ∧
        ∀ target, Steps p.tables e below (T'.setTop (frm G m B)) target → Steps p.tables e below (T.setTop (frm G m A)) target
def WRun (G : WMC) (A : WCfg) (v : Option Value) (σ' : WHp) (u' : Nat) : Prop :=
  A.2.2.2.1.length ≤ σ'.length ∧ A.2.2.2.2 ≤ u' ∧ (G.ret = none → v = none) ∧
  ∀ (p : Program) (l : Launch) (e : Env) (R : Room) (s : State) (m : MethodId) (args : Array Value) (below : List Frame) (meth : Method) (c : Code),
    WCtx G p R s m meth c → σ'.length ≤ G.j0 + R.cells → u' ≤ G.u0 + R.slots →
    ∀ T, WHere G p l e R s m args below meth c A.2.2.2.1 A.2.2.2.2 T →
      ∃ T', WHere G p l e R s m args below meth c σ' u' T' ∧
        ∀ fs, (∀ (f : JFrame) (acts : List Action), f.method = m → f.locked = none → f.entered = [] → (doReturn e (T'.setTop f) acts (v.map (gv G.ρ))).1 = T'.setFrames fs) →
          Steps p.tables e below (T.setTop (frm G m A)) (T'.setFrames fs)
def WGo (G : WMC) (A : WCfg) (Q : Option Value → WHp → Nat → Prop) : Prop := ∃ v σ' u', Q v σ' u' ∧ WRun G A v σ' u'
def AtI (bytes : ByteArray) (pc : Nat) (i : Instr) (len nx : Nat) : Prop := decode bytes pc = .ok (i, len) ∧ pc + len = nx
def AtJ (bytes : ByteArray) (pc : Nat) (f : Int → Instr) (nx tgt : Nat) : Prop := ∃ o : Int, decode bytes pc = .ok (f o, 3) ∧ pc + 3 = nx ∧ 0 ≤ (pc : Int) + o ∧ ((pc : Int) + o).toNat = tgt
section Walk
variable {G : WMC} {A B C : WCfg} {Q Q' : Option Value → WHp → Nat → Prop}
theorem WStep.refl (A : WCfg) : WStep G A A := ⟨Nat.le_refl _, Nat.le_refl _, fun _ _ _ _ _ _ _ _ _ _ _ _ _ T hT => ⟨T, hT, fun _ k => k⟩⟩
theorem WStep.trans (h1 : WStep G A B) (h2 : WStep G B C) : WStep G A C := by
  obtain ⟨a1, a2, a3⟩ := h1
  obtain ⟨b1, b2, b3⟩ := h2
  refine ⟨Nat.le_trans a1 b1, Nat.le_trans a2 b2, fun p l e R s m args below meth c hC hc hs T hT => ?_⟩
  obtain ⟨T1, hT1, k1⟩ := a3 p l e R s m args below meth c hC (Nat.le_trans b1 hc) (Nat.le_trans b2 hs) T hT
  obtain ⟨T2, hT2, k2⟩ := b3 p l e R s m args below meth c hC hc hs T1 hT1
  exact ⟨T2, hT2, fun t k => k1 t (k2 t k)⟩
theorem WRun.s {v : Option Value} {σ' : WHp} {u' : Nat} (h1 : WStep G A B) (h2 : WRun G B v σ' u') : WRun G A v σ' u' := by
  obtain ⟨a1, a2, a3⟩ := h1
  obtain ⟨b1, b2, b0, b3⟩ := h2
  refine ⟨Nat.le_trans a1 b1, Nat.le_trans a2 b2, b0, fun p l e R s m args below meth c hC hc hs T hT => ?_⟩
  obtain ⟨T1, hT1, k1⟩ := a3 p l e R s m args below meth c hC (Nat.le_trans b1 hc) (Nat.le_trans b2 hs) T hT
  obtain ⟨T2, hT2, k2⟩ := b3 p l e R s m args below meth c hC hc hs T1 hT1
  exact ⟨T2, hT2, fun fs h => k1 _ (k2 fs h)⟩
theorem WGo.s (h1 : WStep G A B) (h2 : WGo G B Q) : WGo G A Q := by
  obtain ⟨v, σ', u', q, r⟩ := h2
  exact ⟨v, σ', u', q, r.s h1⟩
theorem WGo.mono (h1 : WGo G A Q) (h : ∀ v σ' u', Q v σ' u' → Q' v σ' u') : WGo G A Q' := by
  obtain ⟨v, σ', u', q, r⟩ := h1
  exact ⟨v, σ', u', h _ _ _ q, r⟩
theorem WGo.cast {A' : WCfg} (h : WGo G A' Q) (e : A = A') : WGo G A Q := e ▸ h
/-- a step that touches neither the heap nor the tables -/
theorem WStep.pure {pc nx : Nat} {L L' : List Slot} {S S' : List Value} {σ : WHp} {u : Nat}
    (h : ∀ {p : Program} {e : Env} {below : List Frame} {T target : State} {m : MethodId} {c : Code}, At T m c below → p.tables.exec = Jvm.exec → c.code = G.bytes → (∀ i j, G.ρ i = G.ρ j → i = j) →
      Steps p.tables e below (T.setTop (mkF m nx (gL G.ρ L') (gS G.ρ S'))) target → Steps p.tables e below (T.setTop (mkF m pc (gL G.ρ L) (gS G.ρ S))) target) :
    WStep G (pc, L, S, σ, u) (nx, L', S', σ, u) := by
  refine ⟨Nat.le_refl _, Nat.le_refl _, fun p l e R s m args below meth c hC hc hs T hT => ⟨T, hT, fun target k => ?_⟩⟩
  obtain ⟨locs, ce, sl, h1, h2, X, D, N⟩ := hT
  exact h X.here hC.1 hC.2.1 hC.2.2.2.2.2.2.2.2.2.1 k
end Walk
end Jvm.Sy
namespace Jvm.Sy
open Jvm Jvm.ClassFile Sem Op Lib Jvm.Free Jvm.Stand Jvm.LawKit Jvm.RoadKit Bundle
section Pure
variable {G : WMC} {pc nx tgt u : Nat} {L L' : List Slot} {S : List Value} {σ : WHp}
theorem WStep.iload {k : Nat} {x : Int32} (d : AtI G.bytes pc (.iload k) 2 nx) (hl : L[k]? = some (.val (.int x))) : WStep G (pc, L, S, σ, u) (nx, L, .int x :: S, σ, u) := by
  obtain ⟨d, rfl⟩ := d
  exact WStep.pure fun hA hx hby _ k => XS.iload hA hx rfl (hb hby d) (gL_val hl) k
theorem WStep.iloadN {k : Fin 4} {x : Int32} (d : AtI G.bytes pc (.iload_n k) 1 nx) (hl : L[k.val]? = some (.val (.int x))) : WStep G (pc, L, S, σ, u) (nx, L, .int x :: S, σ, u) := by
  obtain ⟨d, rfl⟩ := d
  exact WStep.pure fun hA hx hby _ k => XS.iloadN hA hx rfl (hb hby d) (gL_val hl) k
theorem WStep.lload {k : Nat} {x : Int64} (d : AtI G.bytes pc (.lload k) 2 nx) (hl : L[k]? = some (.val (.long x))) : WStep G (pc, L, S, σ, u) (nx, L, .long x :: S, σ, u) := by
  obtain ⟨d, rfl⟩ := d
  exact WStep.pure fun hA hx hby _ k => XS.lload hA hx rfl (hb hby d) (gL_val hl) k
theorem WStep.lloadN {k : Fin 4} {x : Int64} (d : AtI G.bytes pc (.lload_n k) 1 nx) (hl : L[k.val]? = some (.val (.long x))) : WStep G (pc, L, S, σ, u) (nx, L, .long x :: S, σ, u) := by
  obtain ⟨d, rfl⟩ := d
  exact WStep.pure fun hA hx hby _ k => XS.lloadN hA hx rfl (hb hby d) (gL_val hl) k
theorem WStep.aload {k : Nat} {x : Value} (d : AtI G.bytes pc (.aload k) 2 nx) (hl : L[k]? = some (.val x)) (hr : x.isRef = true) : WStep G (pc, L, S, σ, u) (nx, L, x :: S, σ, u) := by
  obtain ⟨d, rfl⟩ := d
  exact WStep.pure fun hA hx hby _ k => XS.aload hA hx rfl (hb hby d) (gL_val hl) (isRef_gv.trans hr) k
theorem WStep.aloadN {k : Fin 4} {x : Value} (d : AtI G.bytes pc (.aload_n k) 1 nx) (hl : L[k.val]? = some (.val x)) (hr : x.isRef = true) : WStep G (pc, L, S, σ, u) (nx, L, x :: S, σ, u) := by
  obtain ⟨d, rfl⟩ := d
  exact WStep.pure fun hA hx hby _ k => XS.aloadN hA hx rfl (hb hby d) (gL_val hl) (isRef_gv.trans hr) k
theorem WStep.istore {k : Nat} {x : Int32} (d : AtI G.bytes pc (.istore k) 2 nx) (hl : storeLocals (gL G.ρ L) k (.int x) = some (gL G.ρ L')) : WStep G (pc, L, .int x :: S, σ, u) (nx, L', S, σ, u) := by
  obtain ⟨d, rfl⟩ := d
  exact WStep.pure fun hA hx hby _ k => XS.istore hA hx rfl (hb hby d) rfl hl k
theorem WStep.istoreN {k : Fin 4} {x : Int32} (d : AtI G.bytes pc (.istore_n k) 1 nx) (hl : storeLocals (gL G.ρ L) k.val (.int x) = some (gL G.ρ L')) : WStep G (pc, L, .int x :: S, σ, u) (nx, L', S, σ, u) := by
  obtain ⟨d, rfl⟩ := d
  exact WStep.pure fun hA hx hby _ k => XS.istoreN hA hx rfl (hb hby d) rfl hl k
theorem WStep.lstore {k : Nat} {x : Int64} (d : AtI G.bytes pc (.lstore k) 2 nx) (hl : storeLocals (gL G.ρ L) k (.long x) = some (gL G.ρ L')) : WStep G (pc, L, .long x :: S, σ, u) (nx, L', S, σ, u) := by
  obtain ⟨d, rfl⟩ := d
  exact WStep.pure fun hA hx hby _ k => XS.lstore hA hx rfl (hb hby d) rfl hl k
theorem WStep.lstoreN {k : Fin 4} {x : Int64} (d : AtI G.bytes pc (.lstore_n k) 1 nx) (hl : storeLocals (gL G.ρ L) k.val (.long x) = some (gL G.ρ L')) : WStep G (pc, L, .long x :: S, σ, u) (nx, L', S, σ, u) := by
  obtain ⟨d, rfl⟩ := d
  exact WStep.pure fun hA hx hby _ k => XS.lstoreN hA hx rfl (hb hby d) rfl hl k
theorem WStep.astore {k : Nat} {x : Value} (d : AtI G.bytes pc (.astore k) 2 nx) (hr : x.isRef = true) (hl : storeLocals (gL G.ρ L) k (gv G.ρ x) = some (gL G.ρ L')) : WStep G (pc, L, x :: S, σ, u) (nx, L', S, σ, u) := by
  obtain ⟨d, rfl⟩ := d
  exact WStep.pure fun hA hx hby _ k => XS.astore hA hx rfl (hb hby d) rfl (isRef_gv.trans hr) hl k
theorem WStep.astoreN {k : Fin 4} {x : Value} (d : AtI G.bytes pc (.astore_n k) 1 nx) (hr : x.isRef = true) (hl : storeLocals (gL G.ρ L) k.val (gv G.ρ x) = some (gL G.ρ L')) : WStep G (pc, L, x :: S, σ, u) (nx, L', S, σ, u) := by
  obtain ⟨d, rfl⟩ := d
  exact WStep.pure fun hA hx hby _ k => XS.astoreN hA hx rfl (hb hby d) rfl (isRef_gv.trans hr) hl k
theorem WStep.iinc {k : Nat} {cst : Int} {x : Int32} (d : AtI G.bytes pc (.iinc k cst) 3 nx) (hl : L[k]? = some (.val (.int x))) (hl' : storeLocals (gL G.ρ L) k (.int (x + Int32.ofInt cst)) = some (gL G.ρ L')) : WStep G (pc, L, S, σ, u) (nx, L', S, σ, u) := by
  obtain ⟨d, rfl⟩ := d
  exact WStep.pure fun hA hx hby _ k => XS.iinc hA hx rfl (hb hby d) (gL_val hl) hl' k
theorem WStep.iconst {i : Int} (z : Int32) (d : AtI G.bytes pc (.iconst i) 1 nx) (hz : Int32.ofInt i = z) : WStep G (pc, L, S, σ, u) (nx, L, .int z :: S, σ, u) := by
  obtain ⟨d, rfl⟩ := d
  exact WStep.pure fun hA hx hby _ k => by subst hz; exact XS.iconst hA hx rfl (hb hby d) k
theorem WStep.bipush {i : Int} (z : Int32) (d : AtI G.bytes pc (.bipush i) 2 nx) (hz : (Int8.ofInt i).toInt32 = z) : WStep G (pc, L, S, σ, u) (nx, L, .int z :: S, σ, u) := by
  obtain ⟨d, rfl⟩ := d
  exact WStep.pure fun hA hx hby _ k => by subst hz; exact XS.bipush hA hx rfl (hb hby d) k
theorem WStep.sipush {i : Int} (z : Int32) (d : AtI G.bytes pc (.sipush i) 3 nx) (hz : (Int16.ofInt i).toInt32 = z) : WStep G (pc, L, S, σ, u) (nx, L, .int z :: S, σ, u) := by
  obtain ⟨d, rfl⟩ := d
  exact WStep.pure fun hA hx hby _ k => by subst hz; exact XS.sipush hA hx rfl (hb hby d) k
theorem WStep.lconst {i : Fin 2} (z : Int64) (d : AtI G.bytes pc (.lconst i) 1 nx) (hz : Int64.ofNat i = z) : WStep G (pc, L, S, σ, u) (nx, L, .long z :: S, σ, u) := by
  obtain ⟨d, rfl⟩ := d
  exact WStep.pure fun hA hx hby _ k => by subst hz; exact XS.lconst hA hx rfl (hb hby d) k
theorem WStep.aconstNull (d : AtI G.bytes pc .aconst_null 1 nx) : WStep G (pc, L, S, σ, u) (nx, L, .null :: S, σ, u) := by
  obtain ⟨d, rfl⟩ := d
  exact WStep.pure fun hA hx hby _ k => XS.aconstNull hA hx rfl (hb hby d) k
theorem WStep.iadd {x y : Int32} (d : AtI G.bytes pc .iadd 1 nx) : WStep G (pc, L, .int y :: .int x :: S, σ, u) (nx, L, .int (x + y) :: S, σ, u) := by
  obtain ⟨d, rfl⟩ := d
  exact WStep.pure fun hA hx hby _ k => XS.iadd hA hx rfl (hb hby d) rfl k
theorem WStep.isub {x y : Int32} (d : AtI G.bytes pc .isub 1 nx) : WStep G (pc, L, .int y :: .int x :: S, σ, u) (nx, L, .int (x - y) :: S, σ, u) := by
  obtain ⟨d, rfl⟩ := d
  exact WStep.pure fun hA hx hby _ k => XS.isub hA hx rfl (hb hby d) rfl k
theorem WStep.imul {x y : Int32} (d : AtI G.bytes pc .imul 1 nx) : WStep G (pc, L, .int y :: .int x :: S, σ, u) (nx, L, .int (x * y) :: S, σ, u) := by
  obtain ⟨d, rfl⟩ := d
  exact WStep.pure fun hA hx hby _ k => XS.imul hA hx rfl (hb hby d) rfl k
theorem WStep.iand {x y : Int32} (d : AtI G.bytes pc .iand 1 nx) : WStep G (pc, L, .int y :: .int x :: S, σ, u) (nx, L, .int (x &&& y) :: S, σ, u) := by
  obtain ⟨d, rfl⟩ := d
  exact WStep.pure fun hA hx hby _ k => XS.iand hA hx rfl (hb hby d) rfl k
theorem WStep.ior {x y : Int32} (d : AtI G.bytes pc .ior 1 nx) : WStep G (pc, L, .int y :: .int x :: S, σ, u) (nx, L, .int (x ||| y) :: S, σ, u) := by
  obtain ⟨d, rfl⟩ := d
  exact WStep.pure fun hA hx hby _ k => XS.ior hA hx rfl (hb hby d) rfl k
theorem WStep.ixor {x y : Int32} (d : AtI G.bytes pc .ixor 1 nx) : WStep G (pc, L, .int y :: .int x :: S, σ, u) (nx, L, .int (x ^^^ y) :: S, σ, u) := by
  obtain ⟨d, rfl⟩ := d
  exact WStep.pure fun hA hx hby _ k => XS.ixor hA hx rfl (hb hby d) rfl k
theorem WStep.idiv {x y : Int32} (d : AtI G.bytes pc .idiv 1 nx) (hy : y ≠ 0) : WStep G (pc, L, .int y :: .int x :: S, σ, u) (nx, L, .int (x / y) :: S, σ, u) := by
  obtain ⟨d, rfl⟩ := d
  exact WStep.pure fun hA hx hby _ k => XS.idiv hA hx rfl (hb hby d) rfl hy k
theorem WStep.ineg {x : Int32} (d : AtI G.bytes pc .ineg 1 nx) : WStep G (pc, L, .int x :: S, σ, u) (nx, L, .int (-x) :: S, σ, u) := by
  obtain ⟨d, rfl⟩ := d
  exact WStep.pure fun hA hx hby _ k => XS.ineg hA hx rfl (hb hby d) rfl k
theorem WStep.ladd {x y : Int64} (d : AtI G.bytes pc .ladd 1 nx) : WStep G (pc, L, .long y :: .long x :: S, σ, u) (nx, L, .long (x + y) :: S, σ, u) := by
  obtain ⟨d, rfl⟩ := d
  exact WStep.pure fun hA hx hby _ k => XS.ladd hA hx rfl (hb hby d) rfl k
theorem WStep.lsub {x y : Int64} (d : AtI G.bytes pc .lsub 1 nx) : WStep G (pc, L, .long y :: .long x :: S, σ, u) (nx, L, .long (x - y) :: S, σ, u) := by
  obtain ⟨d, rfl⟩ := d
  exact WStep.pure fun hA hx hby _ k => XS.lsub hA hx rfl (hb hby d) rfl k
theorem WStep.lmul {x y : Int64} (d : AtI G.bytes pc .lmul 1 nx) : WStep G (pc, L, .long y :: .long x :: S, σ, u) (nx, L, .long (x * y) :: S, σ, u) := by
  obtain ⟨d, rfl⟩ := d
  exact WStep.pure fun hA hx hby _ k => XS.lmul hA hx rfl (hb hby d) rfl k
theorem WStep.land {x y : Int64} (d : AtI G.bytes pc .land 1 nx) : WStep G (pc, L, .long y :: .long x :: S, σ, u) (nx, L, .long (x &&& y) :: S, σ, u) := by
  obtain ⟨d, rfl⟩ := d
  exact WStep.pure fun hA hx hby _ k => XS.land hA hx rfl (hb hby d) rfl k
theorem WStep.lor {x y : Int64} (d : AtI G.bytes pc .lor 1 nx) : WStep G (pc, L, .long y :: .long x :: S, σ, u) (nx, L, .long (x ||| y) :: S, σ, u) := by
  obtain ⟨d, rfl⟩ := d
  exact WStep.pure fun hA hx hby _ k => XS.lor hA hx rfl (hb hby d) rfl k
theorem WStep.lxor {x y : Int64} (d : AtI G.bytes pc .lxor 1 nx) : WStep G (pc, L, .long y :: .long x :: S, σ, u) (nx, L, .long (x ^^^ y) :: S, σ, u) := by
  obtain ⟨d, rfl⟩ := d
  exact WStep.pure fun hA hx hby _ k => XS.lxor hA hx rfl (hb hby d) rfl k
theorem WStep.ldiv {x y : Int64} (d : AtI G.bytes pc .ldiv 1 nx) (hy : y ≠ 0) : WStep G (pc, L, .long y :: .long x :: S, σ, u) (nx, L, .long (x / y) :: S, σ, u) := by
  obtain ⟨d, rfl⟩ := d
  exact WStep.pure fun hA hx hby _ k => XS.ldiv hA hx rfl (hb hby d) rfl hy k
theorem WStep.lneg {x : Int64} (d : AtI G.bytes pc .lneg 1 nx) : WStep G (pc, L, .long x :: S, σ, u) (nx, L, .long (-x) :: S, σ, u) := by
  obtain ⟨d, rfl⟩ := d
  exact WStep.pure fun hA hx hby _ k => XS.lneg hA hx rfl (hb hby d) rfl k
theorem WStep.irem {x y : Int32} (d : AtI G.bytes pc .irem 1 nx) (hy : y ≠ 0) : WStep G (pc, L, .int y :: .int x :: S, σ, u) (nx, L, .int (x % y) :: S, σ, u) := by
  obtain ⟨d, rfl⟩ := d
  have q : x - x / y * y = x % y := irem_eq_mod x y
  exact WStep.pure fun hA hx hby _ k => XS.irem hA hx rfl (hb hby d) rfl hy (by rw [q]; exact k)
theorem WStep.lrem {x y : Int64} (d : AtI G.bytes pc .lrem 1 nx) (hy : y ≠ 0) : WStep G (pc, L, .long y :: .long x :: S, σ, u) (nx, L, .long (x % y) :: S, σ, u) := by
  obtain ⟨d, rfl⟩ := d
  have q : x - x / y * y = x % y := lrem_mod x y
  exact WStep.pure fun hA hx hby _ k => XS.lrem hA hx rfl (hb hby d) rfl hy (by rw [q]; exact k)
theorem WStep.ishl {x : Int32} {y : Int32} (d : AtI G.bytes pc .ishl 1 nx) : WStep G (pc, L, .int y :: .int x :: S, σ, u) (nx, L, .int (x <<< (y &&& 31)) :: S, σ, u) := by
  obtain ⟨d, rfl⟩ := d
  exact WStep.pure fun hA hx hby _ k => XS.ishl hA hx rfl (hb hby d) rfl k
theorem WStep.ishr {x : Int32} {y : Int32} (d : AtI G.bytes pc .ishr 1 nx) : WStep G (pc, L, .int y :: .int x :: S, σ, u) (nx, L, .int (x >>> (y &&& 31)) :: S, σ, u) := by
  obtain ⟨d, rfl⟩ := d
  exact WStep.pure fun hA hx hby _ k => XS.ishr hA hx rfl (hb hby d) rfl k
theorem WStep.iushr {x : Int32} {y : Int32} (d : AtI G.bytes pc .iushr 1 nx) : WStep G (pc, L, .int y :: .int x :: S, σ, u) (nx, L, .int ((x.toUInt32 >>> (y &&& 31).toUInt32).toInt32) :: S, σ, u) := by
  obtain ⟨d, rfl⟩ := d
  exact WStep.pure fun hA hx hby _ k => XS.iushr hA hx rfl (hb hby d) rfl k
theorem WStep.lshl {x : Int64} {y : Int32} (d : AtI G.bytes pc .lshl 1 nx) : WStep G (pc, L, .int y :: .long x :: S, σ, u) (nx, L, .long (x <<< (y &&& 0x3f).toInt64) :: S, σ, u) := by
  obtain ⟨d, rfl⟩ := d
  exact WStep.pure fun hA hx hby _ k => XS.lshl hA hx rfl (hb hby d) rfl k
theorem WStep.lshr {x : Int64} {y : Int32} (d : AtI G.bytes pc .lshr 1 nx) : WStep G (pc, L, .int y :: .long x :: S, σ, u) (nx, L, .long (x >>> (y &&& 0x3f).toInt64) :: S, σ, u) := by
  obtain ⟨d, rfl⟩ := d
  exact WStep.pure fun hA hx hby _ k => XS.lshr hA hx rfl (hb hby d) rfl k
theorem WStep.lushr {x : Int64} {y : Int32} (d : AtI G.bytes pc .lushr 1 nx) : WStep G (pc, L, .int y :: .long x :: S, σ, u) (nx, L, .long ((x.toUInt64 >>> (y &&& 0x3f).toInt64.toUInt64).toInt64) :: S, σ, u) := by
  obtain ⟨d, rfl⟩ := d
  exact WStep.pure fun hA hx hby _ k => XS.lushr hA hx rfl (hb hby d) rfl k
theorem WStep.i2l {x : Int32} (d : AtI G.bytes pc .i2l 1 nx) : WStep G (pc, L, .int x :: S, σ, u) (nx, L, .long (x.toInt64) :: S, σ, u) := by
  obtain ⟨d, rfl⟩ := d
  exact WStep.pure fun hA hx hby _ k => XS.i2l hA hx rfl (hb hby d) rfl k
theorem WStep.l2i {x : Int64} (d : AtI G.bytes pc .l2i 1 nx) : WStep G (pc, L, .long x :: S, σ, u) (nx, L, .int (x.toInt32) :: S, σ, u) := by
  obtain ⟨d, rfl⟩ := d
  exact WStep.pure fun hA hx hby _ k => XS.l2i hA hx rfl (hb hby d) rfl k
theorem WStep.i2b {x : Int32} (d : AtI G.bytes pc .i2b 1 nx) : WStep G (pc, L, .int x :: S, σ, u) (nx, L, .int (x.toInt8.toInt32) :: S, σ, u) := by
  obtain ⟨d, rfl⟩ := d
  exact WStep.pure fun hA hx hby _ k => XS.i2b hA hx rfl (hb hby d) rfl k
theorem WStep.i2s {x : Int32} (d : AtI G.bytes pc .i2s 1 nx) : WStep G (pc, L, .int x :: S, σ, u) (nx, L, .int (x.toInt16.toInt32) :: S, σ, u) := by
  obtain ⟨d, rfl⟩ := d
  exact WStep.pure fun hA hx hby _ k => XS.i2s hA hx rfl (hb hby d) rfl k
theorem WStep.i2c {x : Int32} (d : AtI G.bytes pc .i2c 1 nx) : WStep G (pc, L, .int x :: S, σ, u) (nx, L, .int (x.toUInt32.toUInt16.toUInt32.toInt32) :: S, σ, u) := by
  obtain ⟨d, rfl⟩ := d
  exact WStep.pure fun hA hx hby _ k => XS.i2c hA hx rfl (hb hby d) rfl k
theorem WStep.lcmp {x y : Int64} (d : AtI G.bytes pc .lcmp 1 nx) : WStep G (pc, L, .long y :: .long x :: S, σ, u) (nx, L, .int (lcmpW x y) :: S, σ, u) := by
  obtain ⟨d, rfl⟩ := d
  exact WStep.pure fun hA hx hby _ k => XS.lcmp hA hx rfl (hb hby d) rfl k
theorem WStep.dup {x : Value} (d : AtI G.bytes pc .dup 1 nx) (hc : x.category = 1) : WStep G (pc, L, x :: S, σ, u) (nx, L, x :: x :: S, σ, u) := by
  obtain ⟨d, rfl⟩ := d
  exact WStep.pure fun hA hx hby _ k => XS.dup hA hx rfl (hb hby d) rfl (cat_gv.trans hc) k
theorem WStep.pop {x : Value} (d : AtI G.bytes pc .pop 1 nx) (hc : x.category = 1) : WStep G (pc, L, x :: S, σ, u) (nx, L, S, σ, u) := by
  obtain ⟨d, rfl⟩ := d
  exact WStep.pure fun hA hx hby _ k => XS.pop hA hx rfl (hb hby d) rfl (cat_gv.trans hc) k
theorem WStep.dupX1 {x y : Value} (d : AtI G.bytes pc .dup_x1 1 nx) (hc : x.category = 1) (hc' : y.category = 1) : WStep G (pc, L, x :: y :: S, σ, u) (nx, L, x :: y :: x :: S, σ, u) := by
  obtain ⟨d, rfl⟩ := d
  exact WStep.pure fun hA hx hby _ k => XS.dupX1 hA hx rfl (hb hby d) rfl (cat_gv.trans hc) (cat_gv.trans hc') k
theorem WStep.dup2 {x y : Value} (d : AtI G.bytes pc .dup2 1 nx) (hc : x.category = 1) (hc' : y.category = 1) : WStep G (pc, L, x :: y :: S, σ, u) (nx, L, x :: y :: x :: y :: S, σ, u) := by
  obtain ⟨d, rfl⟩ := d
  exact WStep.pure fun hA hx hby _ k => XT.dup2 hA hx rfl (hb hby d) rfl (cat_gv.trans hc) (cat_gv.trans hc') k
theorem WStep.dup2L {x : Int64} (d : AtI G.bytes pc .dup2 1 nx) : WStep G (pc, L, .long x :: S, σ, u) (nx, L, .long x :: .long x :: S, σ, u) := by
  obtain ⟨d, rfl⟩ := d
  exact WStep.pure fun hA hx hby _ k => XT.dup2L hA hx rfl (hb hby d) rfl k
theorem WStep.goto (d : AtJ G.bytes pc .goto nx tgt) : WStep G (pc, L, S, σ, u) (tgt, L, S, σ, u) := by
  obtain ⟨o, d, rfl, h0, h1⟩ := d
  exact WStep.pure fun hA hx hby _ k => XS.goto hA hx rfl (pc0 := pc) (pc' := tgt) rfl (hb hby d) h0 h1 k
theorem WStep.icmpT {cd : ClassFile.Cond} {x y : Int32} (d : AtJ G.bytes pc (.if_icmp cd) nx tgt) (h : if_icmp.holds cd x y = true) : WStep G (pc, L, .int y :: .int x :: S, σ, u) (tgt, L, S, σ, u) := by
  obtain ⟨o, d, rfl, h0, h1⟩ := d
  exact WStep.pure fun hA hx hby _ k => XS.icmpYes hA hx rfl (pc0 := pc) (pc' := tgt) rfl (hb hby d) rfl h h0 h1 k
theorem WStep.icmpF {cd : ClassFile.Cond} {x y : Int32} (d : AtJ G.bytes pc (.if_icmp cd) nx tgt) (h : if_icmp.holds cd x y = false) : WStep G (pc, L, .int y :: .int x :: S, σ, u) (nx, L, S, σ, u) := by
  obtain ⟨o, d, rfl, h0, h1⟩ := d
  exact WStep.pure fun hA hx hby _ k => XS.icmpNo hA hx rfl (hb hby d) rfl h k
theorem WStep.ifT {cd : ClassFile.Cond} {x : Int32} (d : AtJ G.bytes pc (.ifCond cd) nx tgt) (h : if_icmp.holds cd x 0 = true) : WStep G (pc, L, .int x :: S, σ, u) (tgt, L, S, σ, u) := by
  obtain ⟨o, d, rfl, h0, h1⟩ := d
  exact WStep.pure fun hA hx hby _ k => XS.ifYes hA hx rfl (pc0 := pc) (pc' := tgt) rfl (hb hby d) rfl ((if0 _ _).trans h) h0 h1 k
theorem WStep.ifF {cd : ClassFile.Cond} {x : Int32} (d : AtJ G.bytes pc (.ifCond cd) nx tgt) (h : if_icmp.holds cd x 0 = false) : WStep G (pc, L, .int x :: S, σ, u) (nx, L, S, σ, u) := by
  obtain ⟨o, d, rfl, h0, h1⟩ := d
  exact WStep.pure fun hA hx hby _ k => XS.ifNo hA hx rfl (hb hby d) rfl ((if0 _ _).trans h) k
theorem WStep.nullT (d : AtJ G.bytes pc .ifnull nx tgt) : WStep G (pc, L, .null :: S, σ, u) (tgt, L, S, σ, u) := by
  obtain ⟨o, d, rfl, h0, h1⟩ := d
  exact WStep.pure fun hA hx hby _ k => XS.ifnullYes hA hx rfl (pc0 := pc) (pc' := tgt) rfl (hb hby d) rfl h0 h1 k
theorem WStep.nullF {a : Addr} (d : AtJ G.bytes pc .ifnull nx tgt) : WStep G (pc, L, .ref a :: S, σ, u) (nx, L, S, σ, u) := by
  obtain ⟨o, d, rfl, h0, h1⟩ := d
  exact WStep.pure fun hA hx hby _ k => XS.ifnullNo hA hx rfl (hb hby d) rfl k
theorem WStep.nonnullT {a : Addr} (d : AtJ G.bytes pc .ifnonnull nx tgt) : WStep G (pc, L, .ref a :: S, σ, u) (tgt, L, S, σ, u) := by
  obtain ⟨o, d, rfl, h0, h1⟩ := d
  exact WStep.pure fun hA hx hby _ k => XS.ifnonnullYes hA hx rfl (pc0 := pc) (pc' := tgt) rfl (hb hby d) rfl h0 h1 k
theorem WStep.nonnullF (d : AtJ G.bytes pc .ifnonnull nx tgt) : WStep G (pc, L, .null :: S, σ, u) (nx, L, S, σ, u) := by
  obtain ⟨o, d, rfl, h0, h1⟩ := d
  exact WStep.pure fun hA hx hby _ k => XS.ifnonnullNo hA hx rfl (hb hby d) rfl k
end Pure
section Forks
variable {G : WMC} {pc nx tgt u : Nat} {L : List Slot} {S : List Value} {σ : WHp} {Q : Option Value → WHp → Nat → Prop}
theorem WGo.lt {x y : Int32} (d : AtJ G.bytes pc (.if_icmp .lt) nx tgt) (h1 : x < y → WGo G (tgt, L, S, σ, u) Q) (h2 : ¬ x < y → WGo G (nx, L, S, σ, u) Q) : WGo G (pc, L, .int y :: .int x :: S, σ, u) Q := by
  by_cases h : x < y
  · exact (h1 h).s (WStep.icmpT d (tlt h).1)
  · exact (h2 h).s (WStep.icmpF d (flt h).1)
theorem WGo.lt0 {x : Int32} (d : AtJ G.bytes pc (.ifCond .lt) nx tgt) (h1 : x < 0 → WGo G (tgt, L, S, σ, u) Q) (h2 : ¬ x < 0 → WGo G (nx, L, S, σ, u) Q) : WGo G (pc, L, .int x :: S, σ, u) Q := by
  by_cases h : x < 0
  · exact (h1 h).s (WStep.ifT d (tlt h).1)
  · exact (h2 h).s (WStep.ifF d (flt h).1)
theorem WGo.ltL {x y : Int64} (d : AtJ G.bytes pc (.ifCond .lt) nx tgt) (h1 : x < y → WGo G (tgt, L, S, σ, u) Q) (h2 : ¬ x < y → WGo G (nx, L, S, σ, u) Q) : WGo G (pc, L, .int (lcmpW x y) :: S, σ, u) Q := by
  exact WGo.lt0 d (fun h => h1 ((lw_lt x y).mp h)) (fun h => h2 fun q => h ((lw_lt x y).mpr q))
theorem WGo.ge {x y : Int32} (d : AtJ G.bytes pc (.if_icmp .ge) nx tgt) (h1 : ¬ x < y → WGo G (tgt, L, S, σ, u) Q) (h2 : x < y → WGo G (nx, L, S, σ, u) Q) : WGo G (pc, L, .int y :: .int x :: S, σ, u) Q := by
  by_cases h : x < y
  · exact (h2 h).s (WStep.icmpF d (tlt h).2.1)
  · exact (h1 h).s (WStep.icmpT d (flt h).2.1)
theorem WGo.ge0 {x : Int32} (d : AtJ G.bytes pc (.ifCond .ge) nx tgt) (h1 : ¬ x < 0 → WGo G (tgt, L, S, σ, u) Q) (h2 : x < 0 → WGo G (nx, L, S, σ, u) Q) : WGo G (pc, L, .int x :: S, σ, u) Q := by
  by_cases h : x < 0
  · exact (h2 h).s (WStep.ifF d (tlt h).2.1)
  · exact (h1 h).s (WStep.ifT d (flt h).2.1)
theorem WGo.geL {x y : Int64} (d : AtJ G.bytes pc (.ifCond .ge) nx tgt) (h1 : ¬ x < y → WGo G (tgt, L, S, σ, u) Q) (h2 : x < y → WGo G (nx, L, S, σ, u) Q) : WGo G (pc, L, .int (lcmpW x y) :: S, σ, u) Q := by
  exact WGo.ge0 d (fun h => h1 fun q => h ((lw_lt x y).mpr q)) (fun h => h2 ((lw_lt x y).mp h))
theorem WGo.gt {x y : Int32} (d : AtJ G.bytes pc (.if_icmp .gt) nx tgt) (h1 : y < x → WGo G (tgt, L, S, σ, u) Q) (h2 : ¬ y < x → WGo G (nx, L, S, σ, u) Q) : WGo G (pc, L, .int y :: .int x :: S, σ, u) Q := by
  by_cases h : y < x
  · exact (h1 h).s (WStep.icmpT d (tlt h).2.2.1)
  · exact (h2 h).s (WStep.icmpF d (flt h).2.2.1)
theorem WGo.gt0 {x : Int32} (d : AtJ G.bytes pc (.ifCond .gt) nx tgt) (h1 : 0 < x → WGo G (tgt, L, S, σ, u) Q) (h2 : ¬ 0 < x → WGo G (nx, L, S, σ, u) Q) : WGo G (pc, L, .int x :: S, σ, u) Q := by
  by_cases h : 0 < x
  · exact (h1 h).s (WStep.ifT d (tlt h).2.2.1)
  · exact (h2 h).s (WStep.ifF d (flt h).2.2.1)
theorem WGo.gtL {x y : Int64} (d : AtJ G.bytes pc (.ifCond .gt) nx tgt) (h1 : y < x → WGo G (tgt, L, S, σ, u) Q) (h2 : ¬ y < x → WGo G (nx, L, S, σ, u) Q) : WGo G (pc, L, .int (lcmpW x y) :: S, σ, u) Q := by
  exact WGo.gt0 d (fun h => h1 ((lw_gt x y).mp h)) (fun h => h2 fun q => h ((lw_gt x y).mpr q))
theorem WGo.le {x y : Int32} (d : AtJ G.bytes pc (.if_icmp .le) nx tgt) (h1 : ¬ y < x → WGo G (tgt, L, S, σ, u) Q) (h2 : y < x → WGo G (nx, L, S, σ, u) Q) : WGo G (pc, L, .int y :: .int x :: S, σ, u) Q := by
  by_cases h : y < x
  · exact (h2 h).s (WStep.icmpF d (tlt h).2.2.2)
  · exact (h1 h).s (WStep.icmpT d (flt h).2.2.2)
theorem WGo.le0 {x : Int32} (d : AtJ G.bytes pc (.ifCond .le) nx tgt) (h1 : ¬ 0 < x → WGo G (tgt, L, S, σ, u) Q) (h2 : 0 < x → WGo G (nx, L, S, σ, u) Q) : WGo G (pc, L, .int x :: S, σ, u) Q := by
  by_cases h : 0 < x
  · exact (h2 h).s (WStep.ifF d (tlt h).2.2.2)
  · exact (h1 h).s (WStep.ifT d (flt h).2.2.2)
theorem WGo.leL {x y : Int64} (d : AtJ G.bytes pc (.ifCond .le) nx tgt) (h1 : ¬ y < x → WGo G (tgt, L, S, σ, u) Q) (h2 : y < x → WGo G (nx, L, S, σ, u) Q) : WGo G (pc, L, .int (lcmpW x y) :: S, σ, u) Q := by
  exact WGo.le0 d (fun h => h1 fun q => h ((lw_gt x y).mpr q)) (fun h => h2 ((lw_gt x y).mp h))
theorem WGo.eq {x y : Int32} (d : AtJ G.bytes pc (.if_icmp .eq) nx tgt) (h1 : x = y → WGo G (tgt, L, S, σ, u) Q) (h2 : ¬ x = y → WGo G (nx, L, S, σ, u) Q) : WGo G (pc, L, .int y :: .int x :: S, σ, u) Q := by
  by_cases h : x = y
  · exact (h1 h).s (WStep.icmpT d (teq h).1)
  · exact (h2 h).s (WStep.icmpF d (feq h).1)
theorem WGo.eq0 {x : Int32} (d : AtJ G.bytes pc (.ifCond .eq) nx tgt) (h1 : x = 0 → WGo G (tgt, L, S, σ, u) Q) (h2 : ¬ x = 0 → WGo G (nx, L, S, σ, u) Q) : WGo G (pc, L, .int x :: S, σ, u) Q := by
  by_cases h : x = 0
  · exact (h1 h).s (WStep.ifT d (teq h).1)
  · exact (h2 h).s (WStep.ifF d (feq h).1)
theorem WGo.eqL {x y : Int64} (d : AtJ G.bytes pc (.ifCond .eq) nx tgt) (h1 : x = y → WGo G (tgt, L, S, σ, u) Q) (h2 : ¬ x = y → WGo G (nx, L, S, σ, u) Q) : WGo G (pc, L, .int (lcmpW x y) :: S, σ, u) Q := by
  exact WGo.eq0 d (fun h => h1 ((lw_eq x y).mp h)) (fun h => h2 fun q => h ((lw_eq x y).mpr q))
theorem WGo.ne {x y : Int32} (d : AtJ G.bytes pc (.if_icmp .ne) nx tgt) (h1 : ¬ x = y → WGo G (tgt, L, S, σ, u) Q) (h2 : x = y → WGo G (nx, L, S, σ, u) Q) : WGo G (pc, L, .int y :: .int x :: S, σ, u) Q := by
  by_cases h : x = y
  · exact (h2 h).s (WStep.icmpF d (teq h).2)
  · exact (h1 h).s (WStep.icmpT d (feq h).2)
theorem WGo.ne0 {x : Int32} (d : AtJ G.bytes pc (.ifCond .ne) nx tgt) (h1 : ¬ x = 0 → WGo G (tgt, L, S, σ, u) Q) (h2 : x = 0 → WGo G (nx, L, S, σ, u) Q) : WGo G (pc, L, .int x :: S, σ, u) Q := by
  by_cases h : x = 0
  · exact (h2 h).s (WStep.ifF d (teq h).2)
  · exact (h1 h).s (WStep.ifT d (feq h).2)
theorem WGo.neL {x y : Int64} (d : AtJ G.bytes pc (.ifCond .ne) nx tgt) (h1 : ¬ x = y → WGo G (tgt, L, S, σ, u) Q) (h2 : x = y → WGo G (nx, L, S, σ, u) Q) : WGo G (pc, L, .int (lcmpW x y) :: S, σ, u) Q := by
  exact WGo.ne0 d (fun h => h1 fun q => h ((lw_eq x y).mpr q)) (fun h => h2 ((lw_eq x y).mp h))
end Forks
end Jvm.Sy
namespace Jvm.Sy
open Jvm Jvm.ClassFile Sem Op Lib Jvm.Free Jvm.Stand Jvm.LawKit Jvm.RoadKit Bundle
/-! ## 3. Entering and leaving -/
def entL : List Value → List Slot
  | [] => []
  | v :: r => if v.category = 2 then .val v :: .second :: entL r else .val v :: entL r
def entryL (args : List Value) (maxL : Nat) : List Slot := entL args ++ List.replicate (maxL - (entL args).length) .unset
theorem fill_eq {ρ : Nat → Nat} : ∀ (args : List Value) (acc : Array Slot), (gS ρ args).foldl (fun acc v => if v.category = 2 then (acc.push (.val v)).push .second else acc.push (.val v)) acc = acc ++ ((entL args).map (gs ρ)).toArray
  | [], acc => by simp [gS, entL]
  | v :: r, acc => by
    have ih := fill_eq (ρ := ρ) r
    simp only [gS, List.map_cons, List.foldl_cons, cat_gv] at ih ⊢
    rw [ih]
    by_cases q : v.category = 2
    · simp [entL, q, gs]
    · simp [entL, q, gs]
theorem entry_eq {ρ : Nat → Nat} (args : List Value) (maxL : Nat) : argsToLocals (gS ρ args).toArray maxL = gL ρ (entryL args maxL) := by
  have h := fill_eq (ρ := ρ) args #[]
  simp only [argsToLocals, List.foldl_toArray', List.size_toArray] at *
  rw [h]
  simp [gL, entryL, gs]
theorem entryF_eq {ρ : Nat → Nat} (m : MethodId) (args : List Value) (maxL : Nat) : entryFrame m (gS ρ args).toArray maxL = mkF m 0 (gL ρ (entryL args maxL)) [] := by
  show ({ method := m, pc := 0, locals := argsToLocals _ maxL, stack := [], locked := none } : JFrame) = _
  rw [entry_eq]
section Ret
variable {G : WMC} {pc nx u : Nat} {L : List Slot} {S : List Value} {σ : WHp} {Q : Option Value → WHp → Nat → Prop}
theorem WRun.of {v : Option Value} {A : WCfg} (h0 : G.ret = none → v = none)
    (h : ∀ {p : Program} {l : Launch} {e : Env} {R : Room} {s : State} {m : MethodId} {args : Array Value} {below : List Frame} {meth : Method} {c : Code} {T : State} {locs : List Loc} {ce sl : Nat}, WCtx G p R s m meth c → Stand p l e R s m args below meth c T locs ce sl →
      ∀ fs, (∀ (f : JFrame) (acts : List Action), f.method = m → f.locked = none → f.entered = [] → (doReturn e (T.setTop f) acts (v.map (gv G.ρ))).1 = T.setFrames fs) → Steps p.tables e below (T.setTop (frm G m A)) (T.setFrames fs)) :
    WRun G A v A.2.2.2.1 A.2.2.2.2 := by
  refine ⟨Nat.le_refl _, Nat.le_refl _, h0, fun p l e R s m args below meth c hC hc hs T hT => ⟨T, hT, fun fs hr => ?_⟩⟩
  obtain ⟨locs, ce, sl, h1, h2, X, D, N⟩ := hT
  exact h hC X fs hr
theorem WGo.ireturn (t : FieldType) {z : Int32} (d : AtI G.bytes pc .ireturn 1 nx) (hret : G.ret = some t) (ht : t = .int ∨ t = .boolean ∨ t = .byte ∨ t = .char ∨ t = .short) (q : Q (some (narrow t (.int z))) σ u) : WGo G (pc, L, .int z :: S, σ, u) Q := by
  refine ⟨_, _, _, q, WRun.of (A := (pc, L, .int z :: S, σ, u)) (fun h => by rw [hret] at h; cases h) fun hC X fs hr => ?_⟩
  have hm := hC.2.2.2.2.2.1.trans hret
  rcases ht with rfl | ht
  · exact retOut X hC.1 hm rfl (Or.inl ⟨rfl, Or.inl rfl, _, rfl⟩) (hb hC.2.1 d.1) hr
  · have hn : narrow t (.int z) = .int (nar t z) := by rcases ht with rfl | rfl | rfl | rfl <;> rfl
    rw [hn] at hr
    exact retN X hC.1 hm ht (hb hC.2.1 d.1) hr
theorem WGo.lreturn {z : Int64} (d : AtI G.bytes pc .lreturn 1 nx) (hret : G.ret = some .long) (q : Q (some (.long z)) σ u) : WGo G (pc, L, .long z :: S, σ, u) Q := by
  refine ⟨_, _, _, q, WRun.of (A := (pc, L, .long z :: S, σ, u)) (fun h => by rw [hret] at h; cases h) fun hC X fs hr => ?_⟩
  exact retOut X hC.1 (hC.2.2.2.2.2.1.trans hret) rfl (Or.inr (Or.inl ⟨rfl, rfl, _, rfl⟩)) (hb hC.2.1 d.1) hr
theorem WGo.areturn (t : FieldType) {z : Value} (d : AtI G.bytes pc .areturn 1 nx) (hret : G.ret = some t) (ht : t.isReference = true) (hz : z.isRef = true) (q : Q (some z) σ u) : WGo G (pc, L, z :: S, σ, u) Q := by
  refine ⟨_, _, _, q, WRun.of (A := (pc, L, z :: S, σ, u)) (fun h => by rw [hret] at h; cases h) fun hC X fs hr => ?_⟩
  refine retOut X hC.1 (hC.2.2.2.2.2.1.trans hret) ?_ (Or.inr (Or.inr (Or.inr (Or.inr ⟨rfl, ht, isRef_gv.trans hz⟩)))) (hb hC.2.1 d.1) hr
  cases t <;> first | rfl | cases ht
theorem WGo.vreturn (d : AtI G.bytes pc .return_ 1 nx) (hret : G.ret = none) (q : Q none σ u) : WGo G (pc, L, [], σ, u) Q := by
  refine ⟨_, _, _, q, WRun.of (A := (pc, L, [], σ, u)) (fun _ => rfl) fun hC X fs hr => ?_⟩
  exact X.returnOut hC.1 (hC.2.2.2.2.2.1.trans hret) (hb hC.2.1 d.1) hr
end Ret
/-! ## 4. A method's contract out of its walk -/
theorem met_of {l : Launch} {G : WMC} {y : MethodName} {argsL : List Value} {σ σ' : WHp} {u u' : Nat} {v : Option Value} {ws : List Jvm.Cond} {h : Heap}
    (hy1 : G.own = y.cls) (hy2 : G.nm = y.name) (hj : G.j0 = σ.length) (hu : G.u0 = u) (hpl : plainFor y = true) (hρ : ∀ k, k < 1000 → G.ρ k = G.n0 + k) (hinj : ∀ i j, G.ρ i = G.ρ j → i = j)
    (H : WRun G (0, entryL argsL G.ml, [], σ, u) v σ' u') (D : WDen G.Z G.ρ G.n0 σ h) (RM : Room) (hR1 : G.fr ≤ RM.frames) (hR2 : σ'.length - σ.length ≤ RM.cells) (hR3 : u' - u ≤ RM.slots) (hR4 : G.lo ≤ RM.locals) :
    MetFree l y (head1 (Jvm.Cond.code y G.bytes G.ml G.ret :: ws) RM) (fun a U => a = (gS G.ρ argsL).toArray ∧ G.Z.Warmed39 U.vm ∧ U.heap = h) (fun _ _ _ _ _ => True)
      (fun _ U o U' => ∃ w L, o = .returned w ∧ (w = v.map (gv G.ρ) ∧ Fr G.n0 L ∧ WDen G.Z G.ρ G.n0 σ' U'.heap) ∧ FrameEnd U o U' L (σ'.length - σ.length) (u' - u)) := by
  refine MetFree.of_bodySF hpl hisR ?_
  intro p e s m args below meth c s₁ Bd hml0 hP hK
  obtain ⟨rfl, hZ, hh⟩ := hP
  have X0 : Stand p l e RM s m (gS G.ρ argsL).toArray below meth c s₁ [] 0 0 := Stand.of_body Bd
  have e0 : s₁.heap = h := by rw [← hh, Bd.state]; rfl
  obtain ⟨a1, a2, a0, a3⟩ := H
  have a1' : σ.length ≤ σ'.length := a1
  have a2' : u ≤ u' := a2
  obtain ⟨T', ⟨locs, ce, sl, q1, q2, X, D', N⟩, st⟩ := a3 p l e RM s m _ below meth c ⟨Bd.exec, Bd.bytes, hZ, by rw [hy1]; exact findClass_of_methodNamed Bd.named, (name_of_methodNamed Bd.named Bd.method).1.trans hy2.symm, Bd.returns, hml0, by rw [hh, hj]; exact D.1, hρ, hinj, hR1, hR4⟩ (by omega) (by omega) s₁ ⟨[], 0, 0, hj.symm, hu.symm, X0, by rw [e0]; exact D, Fr.nil _⟩
  obtain ⟨fs, hr, hrun, hended, hW, hsame⟩ := X.leave (v := v.map (gv G.ρ)) (fun hn => by rw [a0 (Bd.returns ▸ hn)]; rfl)
  refine ⟨_, _, ?_, hrun, hended, _, _, rfl, ⟨rfl, N, D'⟩, ⟨_, rfl⟩, hW, hsame.mono (by omega) (by omega)⟩
  rw [entryF_eq]
  exact st fs hr
/-- what a call site knows of its callee -/
def WCallee (Z : State) (a0 : Array Value) (y : MethodName) (Gc : WMC) (n : Nat) : Prop :=
  plainFor y = true ∧ (y.cls ≠ "java/lang/invoke/MethodHandle" ∧ y.cls ≠ "java/lang/invoke/VarHandle") ∧ Gc.own = y.cls ∧ Gc.nm = y.name ∧ Gc.Z = Z ∧ (Jvm.Cond.initialized y.cls).before a0 Z = true ∧ (Jvm.Cond.code y Gc.bytes Gc.ml Gc.ret).before a0 Z = true ∧ (∀ sig, parseMethodDescriptor y.desc = some sig → n = sig.parameters.length)
theorem backFor {p : Program} {l : Launch} {e : Env} {R : Room} {s : State} {args : Array Value} {below : List Frame} {Gc : WMC} {y : MethodName} {a0 : Array Value} {argsL : List Value} {σ σ' : WHp} {u u' W n : Nat} {v : Option Value} {h : Heap}
    (C : WCallee Gc.Z a0 y Gc n) (hj : Gc.j0 = σ.length) (hu : Gc.u0 = u) (hρ : ∀ k, k < 1000 → Gc.ρ k = Gc.n0 + k) (hinj : ∀ i j, Gc.ρ i = Gc.ρ j → i = j)
    (H : WRun Gc (0, entryL argsL Gc.ml, [], σ, u) v σ' u') (D : WDen Gc.Z Gc.ρ Gc.n0 σ h) (hZ : Gc.Z.Warmed39 s.vm) (hf : Gc.fr + 1 ≤ R.frames) (hl : W + (Gc.ml + 11) + Gc.lo ≤ R.locals) :
    Back l R p e below s args y 3 W (fun A a => a = (gS Gc.ρ argsL).toArray ∧ A.U.heap = h ∧ A.cells + (σ'.length - σ.length) ≤ R.cells ∧ A.slots + (u' - u) ≤ R.slots)
      (fun A _ w B => ∃ L, (w = v.map (gv Gc.ρ) ∧ Fr Gc.n0 L ∧ WDen Gc.Z Gc.ρ Gc.n0 σ' B.U.heap) ∧ B.locs = A.locs ++ L ∧ B.cells = A.cells + (σ'.length - σ.length) ∧ B.slots = A.slots + (u' - u)) :=
  backOf (rm := { frames := Gc.fr, cells := σ'.length - σ.length, slots := u' - u, locals := Gc.lo }) (Q := fun w h' L => w = v.map (gv Gc.ρ) ∧ Fr Gc.n0 L ∧ WDen Gc.Z Gc.ρ Gc.n0 σ' h') (met_of C.2.2.1 C.2.2.2.1 hj hu C.1 hρ hinj H D _ (Nat.le_refl _) (Nat.le_refl _) (Nat.le_refl _) (Nat.le_refl _)) hZ C.2.2.2.2.2.2.1 C.2.2.2.2.2.1 hf hl
theorem toL {ρ : Nat → Nat} (v : Option Value) (S : List Value) : gS ρ (v.toList ++ S) = (v.map (gv ρ)).toList ++ gS ρ S := by cases v <;> rfl
section Calls
variable {G Gc : WMC} {pc nx u idx n : Nat} {L : List Slot} {S Sf argsL : List Value} {σ : WHp} {Q Qc : Option Value → WHp → Nat → Prop} {y : MethodName} {a0 : Array Value}
theorem WGo.callS (d : AtI G.bytes pc (.invokestatic idx) 3 nx) (C : WCallee G.Z a0 y Gc n) (wl : (Jvm.Cond.methodLink G.own idx y).before a0 G.Z = true) (ws : (Jvm.Cond.static y).before a0 G.Z = true)
    (H : WGo Gc (0, entryL argsL Gc.ml, [], σ, u) Qc) (hG : Gc.1 = G.1) (hj : Gc.j0 = σ.length) (hu : Gc.u0 = u) (hn : argsL.length = n) (hS : Sf = argsL.reverse ++ S) (hL : L.length = G.ml) (hf : Gc.fr + 1 ≤ G.fr) (hl : (S.map Value.category).sum + (Gc.ml + 11) + Gc.lo ≤ G.lo)
    (K : ∀ v σ' u', Qc v σ' u' → WGo G (nx, L, v.toList ++ S, σ', u') Q) : WGo G (pc, L, Sf, σ, u) Q := by
  obtain ⟨v, σ', u', q, r⟩ := H
  refine (K v σ' u' q).s ?_
  have m1 : σ.length ≤ σ'.length := r.1
  have m2 : u ≤ u' := r.2.1
  refine ⟨m1, m2, fun p l e R s m args below meth c hC hc hs T hT => ?_⟩
  obtain ⟨hx, hby, hZ, hown, hnm, hret, hml, hs0, hρ, hinj, hfr, hlo⟩ := hC
  obtain ⟨locs, ce, sl, h1, h2, X, D, N⟩ := hT
  have eZ : Gc.Z = G.Z := congrArg (·.1) hG
  have eρ : Gc.ρ = G.ρ := congrArg (·.2.1) hG
  have en : Gc.n0 = G.n0 := congrArg (·.2.2) hG
  have h1' : σ.length = G.j0 + ce := h1
  have h2' : u = G.u0 + sl := h2
  have hc' : σ'.length ≤ G.j0 + R.cells := hc
  have hs' : u' ≤ G.u0 + R.slots := hs
  have Bk := backFor (p := p) (l := l) (e := e) (R := R) (s := s) (args := args) (below := below) (W := (S.map Value.category).sum) (eZ ▸ C) hj hu (by rw [eρ, en]; exact hρ) (by rw [eρ]; exact hinj) r (by rw [eZ, eρ, en]; exact D) (by rw [eZ]; exact hZ) (Nat.le_trans hf hfr) (Nat.le_trans hl hlo)
  obtain ⟨C1, C2, C3, C4, C5, C6, C7, C8⟩ := C
  rw [eρ, en, eZ] at Bk
  obtain ⟨w, vm1, ⟨T', L', k', n'⟩, -, X', ⟨Lc, ⟨hw', N', D'⟩, l', y', z'⟩, st⟩ := Jvm.LawKit.callS X hx (y := y) hown (mvT hZ wl) (mvT hZ ws) (mvT hZ C6) (mvT hZ C7) C2 Bk (g := frm G m (pc, L, Sf, σ, u)) rfl (by show (gL _ L).size = _; rw [gL_size, hL, hml]) (argsL := gS G.ρ argsL) (rest := gS G.ρ S)
    (fun sig hsig => by rw [← C8 sig hsig, ← hn]; simp [gS]) (by show gS _ Sf = _; rw [hS]; simp [gS]) (by rw [sum_gS]; show 2 * 0 + _ ≤ _; omega) (hb hby d.1) (fun _ _ => ⟨rfl, rfl, by show ce + _ ≤ _; omega, by show sl + _ ≤ _; omega⟩)
  dsimp only [Pt.U, Pt.locs, Pt.cells, Pt.slots] at X' l' y' z' st D'
  subst l' y' z' hw'
  refine ⟨T', ⟨_, _, _, ?_, ?_, X', D', N.app N'⟩, fun t k => st t ?_⟩
  · show σ'.length = _; omega
  · show u' = _; omega
  · rw [← toL]
    have := d.2
    subst this
    exact k
/-- a constructor -/
theorem WGo.callI {k : Nat} (d : AtI G.bytes pc (.invokespecial idx) 3 nx) (C : WCallee G.Z a0 y Gc n) (hi : y.name = "<init>") (hr : Gc.ret = none) (wl : (Jvm.Cond.methodLink G.own idx y).before a0 G.Z = true) (ws : (Jvm.Cond.instanceMethod y).before a0 G.Z = true) (hk : k < 1000)
    (H : WGo Gc (0, entryL (.ref k :: argsL) Gc.ml, [], σ, u) Qc) (hG : Gc.1 = G.1) (hj : Gc.j0 = σ.length) (hu : Gc.u0 = u) (hn : argsL.length = n) (hS : Sf = argsL.reverse ++ .ref k :: S) (hL : L.length = G.ml) (hf : Gc.fr + 1 ≤ G.fr) (hl : (S.map Value.category).sum + (Gc.ml + 11) + Gc.lo ≤ G.lo)
    (K : ∀ v σ' u', Qc v σ' u' → WGo G (nx, L, v.toList ++ S, σ', u') Q) : WGo G (pc, L, Sf, σ, u) Q := by
  obtain ⟨v, σ', u', q, r⟩ := H
  refine (K v σ' u' q).s ?_
  have m1 : σ.length ≤ σ'.length := r.1
  have m2 : u ≤ u' := r.2.1
  refine ⟨m1, m2, fun p l e R s m args below meth c hC hc hs T hT => ?_⟩
  obtain ⟨hx, hby, hZ, hown, hnm, hret, hml, hs0, hρ, hinj, hfr, hlo⟩ := hC
  obtain ⟨locs, ce, sl, h1, h2, X, D, N⟩ := hT
  have eZ : Gc.Z = G.Z := congrArg (·.1) hG
  have eρ : Gc.ρ = G.ρ := congrArg (·.2.1) hG
  have en : Gc.n0 = G.n0 := congrArg (·.2.2) hG
  have h1' : σ.length = G.j0 + ce := h1
  have h2' : u = G.u0 + sl := h2
  have hc' : σ'.length ≤ G.j0 + R.cells := hc
  have hs' : u' ≤ G.u0 + R.slots := hs
  have Bk := backFor (p := p) (l := l) (e := e) (R := R) (s := s) (args := args) (below := below) (W := (S.map Value.category).sum) (eZ ▸ C) hj hu (by rw [eρ, en]; exact hρ) (by rw [eρ]; exact hinj) r (by rw [eZ, eρ, en]; exact D) (by rw [eZ]; exact hZ) (Nat.le_trans hf hfr) (Nat.le_trans hl hlo)
  obtain ⟨C1, C2, C3, C4, C5, C6, C7, C8⟩ := C
  rw [hr] at C7
  rw [eρ, en, eZ] at Bk
  obtain ⟨w, vm1, ⟨T', L', k', n'⟩, -, X', ⟨Lc, ⟨hw', N', D'⟩, l', y', z'⟩, st⟩ := X.specialBack hx (y := y) hi hown (mvT hZ wl) (mvT hZ ws) (mvT hZ C7) C2 Bk (g := frm G m (pc, L, Sf, σ, u)) rfl (by show (gL _ L).size = _; rw [gL_size, hL, hml]) (Steps.refl _) (a := G.ρ k) (argsL := gS G.ρ argsL) (rest := gS G.ρ S)
    (fun sig hsig => by rw [← C8 sig hsig, ← hn]; simp [gS]) (by show gS _ Sf = _; rw [hS]; simp [gS, gv]) (by rw [sum_gS]; show 2 * 0 + _ ≤ _; omega) (hb hby d.1) (fun _ _ => ⟨rfl, rfl, by show ce + _ ≤ _; omega, by show sl + _ ≤ _; omega⟩)
  dsimp only [Pt.U, Pt.locs, Pt.cells, Pt.slots] at X' l' y' z' st D'
  subst l' y' z' hw'
  refine ⟨T', ⟨_, _, _, ?_, ?_, X', D', N.app N'⟩, fun t k => st.trans ?_⟩
  · show σ'.length = _; omega
  · show u' = _; omega
  · rw [← toL]
    have := d.2
    subst this
    exact k
/-- an instance method that the receiver's class itself selects -/
theorem WGo.callV {k : Nat} {Cn : String} {fs : List (WKey × Value)} {z : MethodName} (d : AtI G.bytes pc (.invokevirtual idx) 3 nx) (C : WCallee G.Z a0 y Gc n) (hz : z.desc = y.desc ∧ (z.cls ≠ "java/lang/invoke/MethodHandle" ∧ z.cls ≠ "java/lang/invoke/VarHandle")) (wl : (Jvm.Cond.methodLink G.own idx z).before a0 G.Z = true) (wd : (Jvm.Cond.declares z).before a0 G.Z = true) (hnf : ∀ s, G.Z.Warmed39 s.vm → NotFace s z) (wsel : (Jvm.Cond.selects Cn z y).before a0 G.Z = true) (ws : (Jvm.Cond.instanceMethod y).before a0 G.Z = true) (hk : σ[k]? = some (.inr (Cn, fs)))
    (H : WGo Gc (0, entryL (.ref k :: argsL) Gc.ml, [], σ, u) Qc) (hG : Gc.1 = G.1) (hj : Gc.j0 = σ.length) (hu : Gc.u0 = u) (hn : argsL.length = n) (hS : Sf = argsL.reverse ++ .ref k :: S) (hL : L.length = G.ml) (hf : Gc.fr + 1 ≤ G.fr) (hl : (S.map Value.category).sum + (Gc.ml + 11) + Gc.lo ≤ G.lo)
    (K : ∀ v σ' u', Qc v σ' u' → WGo G (nx, L, v.toList ++ S, σ', u') Q) : WGo G (pc, L, Sf, σ, u) Q := by
  obtain ⟨v, σ', u', q, r⟩ := H
  refine (K v σ' u' q).s ?_
  have m1 : σ.length ≤ σ'.length := r.1
  have m2 : u ≤ u' := r.2.1
  refine ⟨m1, m2, fun p l e R s m args below meth c hC hc hs T hT => ?_⟩
  obtain ⟨hx, hby, hZ, hown, hnm, hret, hml, hs0, hρ, hinj, hfr, hlo⟩ := hC
  obtain ⟨locs, ce, sl, h1, h2, X, D, N⟩ := hT
  have eZ : Gc.Z = G.Z := congrArg (·.1) hG
  have eρ : Gc.ρ = G.ρ := congrArg (·.2.1) hG
  have en : Gc.n0 = G.n0 := congrArg (·.2.2) hG
  have h1' : σ.length = G.j0 + ce := h1
  have h2' : u = G.u0 + sl := h2
  have hc' : σ'.length ≤ G.j0 + R.cells := hc
  have hs' : u' ≤ G.u0 + R.slots := hs
  have Bk := backFor (p := p) (l := l) (e := e) (R := R) (s := s) (args := args) (below := below) (W := (S.map Value.category).sum) (eZ ▸ C) hj hu (by rw [eρ, en]; exact hρ) (by rw [eρ]; exact hinj) r (by rw [eZ, eρ, en]; exact D) (by rw [eZ]; exact hZ) (Nat.le_trans hf hfr) (Nat.le_trans hl hlo)
  obtain ⟨C1, C2, C3, C4, C5, C6, C7, C8⟩ := C
  rw [eρ, en, eZ] at Bk
  have hE : Exa G.Z T.heap (G.n0 + k) Cn := (D.2.2 k _ hk).1
  rw [← hρ k (D.lt hk)] at hE
  obtain ⟨cq, kq, qa, qb, qc⟩ := isOf hZ rfl hE
  obtain ⟨w, vm1, ⟨T', L', k', n'⟩, -, X', ⟨Lc, ⟨hw', N', D'⟩, l', y', z'⟩, st⟩ := X.virtualBack hx (y := z) (z := y) hown (mvT hZ wl) (mvT hZ wd) (hnf s hZ) (mvT hZ wsel) (mvT hZ ws) hz.2 Bk qa qc (g := frm G m (pc, L, Sf, σ, u)) rfl (by show (gL _ L).size = _; rw [gL_size, hL, hml]) (Steps.refl _) (argsL := gS G.ρ argsL) (rest := gS G.ρ S)
    (fun sig hsig => by rw [hz.1] at hsig; rw [← C8 sig hsig, ← hn]; simp [gS]) (by show gS _ Sf = _; rw [hS]; simp [gS, gv]) (by rw [sum_gS]; show 2 * 0 + _ ≤ _; omega) (hb hby d.1) (fun _ _ => ⟨rfl, rfl, by show ce + _ ≤ _; omega, by show sl + _ ≤ _; omega⟩)
  dsimp only [Pt.U, Pt.locs, Pt.cells, Pt.slots] at X' l' y' z' st D'
  subst l' y' z' hw'
  refine ⟨T', ⟨_, _, _, ?_, ?_, X', D', N.app N'⟩, fun t k => st.trans ?_⟩
  · show σ'.length = _; omega
  · show u' = _; omega
  · rw [← toL]
    have := d.2
    subst this
    exact k
/-- a private method, by invokevirtual -/
theorem WGo.callP {k : Nat} {Cn : String} {fs : List (WKey × Value)} (d : AtI G.bytes pc (.invokevirtual idx) 3 nx) (C : WCallee G.Z a0 y Gc n) (wl : (Jvm.Cond.methodLink G.own idx y).before a0 G.Z = true) (ws : (Jvm.Cond.instanceMethod y).before a0 G.Z = true) (wsel : (Jvm.Cond.selects y.cls y y).before a0 G.Z = true) (wp : (Jvm.Cond.privateMethod y).before a0 G.Z = true) (hk : σ[k]? = some (.inr (Cn, fs)))
    (H : WGo Gc (0, entryL (.ref k :: argsL) Gc.ml, [], σ, u) Qc) (hG : Gc.1 = G.1) (hj : Gc.j0 = σ.length) (hu : Gc.u0 = u) (hn : argsL.length = n) (hS : Sf = argsL.reverse ++ .ref k :: S) (hL : L.length = G.ml) (hf : Gc.fr + 1 ≤ G.fr) (hl : (S.map Value.category).sum + (Gc.ml + 11) + Gc.lo ≤ G.lo)
    (K : ∀ v σ' u', Qc v σ' u' → WGo G (nx, L, v.toList ++ S, σ', u') Q) : WGo G (pc, L, Sf, σ, u) Q := by
  obtain ⟨v, σ', u', q, r⟩ := H
  refine (K v σ' u' q).s ?_
  have m1 : σ.length ≤ σ'.length := r.1
  have m2 : u ≤ u' := r.2.1
  refine ⟨m1, m2, fun p l e R s m args below meth c hC hc hs T hT => ?_⟩
  obtain ⟨hx, hby, hZ, hown, hnm, hret, hml, hs0, hρ, hinj, hfr, hlo⟩ := hC
  obtain ⟨locs, ce, sl, h1, h2, X, D, N⟩ := hT
  have eZ : Gc.Z = G.Z := congrArg (·.1) hG
  have eρ : Gc.ρ = G.ρ := congrArg (·.2.1) hG
  have en : Gc.n0 = G.n0 := congrArg (·.2.2) hG
  have h1' : σ.length = G.j0 + ce := h1
  have h2' : u = G.u0 + sl := h2
  have hc' : σ'.length ≤ G.j0 + R.cells := hc
  have hs' : u' ≤ G.u0 + R.slots := hs
  have Bk := backFor (p := p) (l := l) (e := e) (R := R) (s := s) (args := args) (below := below) (W := (S.map Value.category).sum) (eZ ▸ C) hj hu (by rw [eρ, en]; exact hρ) (by rw [eρ]; exact hinj) r (by rw [eZ, eρ, en]; exact D) (by rw [eZ]; exact hZ) (Nat.le_trans hf hfr) (Nat.le_trans hl hlo)
  obtain ⟨C1, C2, C3, C4, C5, C6, C7, C8⟩ := C
  rw [eρ, en, eZ] at Bk
  have hE : Exa G.Z T.heap (G.n0 + k) Cn := (D.2.2 k _ hk).1
  rw [← hρ k (D.lt hk)] at hE
  obtain ⟨cq, e1, e2⟩ := hE.cell
  obtain ⟨w, vm1, ⟨T', L', k', n'⟩, -, X', ⟨Lc, ⟨hw', N', D'⟩, l', y', z'⟩, st⟩ := X.privateBack hx (y := y) hown (mvT hZ wl) (mvT hZ ws) (mvT hZ wsel) (Cond.privateMethod_at (mvP hZ wp (args := #[]))) (mvT hZ C7) C2 Bk (g := frm G m (pc, L, Sf, σ, u)) rfl (by show (gL _ L).size = _; rw [gL_size, hL, hml]) (Steps.refl _) (a := G.ρ k) e1 e2 (argsL := gS G.ρ argsL) (rest := gS G.ρ S)
    (fun sig hsig => by rw [← C8 sig hsig, ← hn]; simp [gS]) (by show gS _ Sf = _; rw [hS]; simp [gS, gv]) (by rw [sum_gS]; show 2 * 0 + _ ≤ _; omega) (hb hby d.1) (fun _ _ => ⟨rfl, rfl, by show ce + _ ≤ _; omega, by show sl + _ ≤ _; omega⟩)
  dsimp only [Pt.U, Pt.locs, Pt.cells, Pt.slots] at X' l' y' z' st D'
  subst l' y' z' hw'
  refine ⟨T', ⟨_, _, _, ?_, ?_, X', D', N.app N'⟩, fun t k => st.trans ?_⟩
  · show σ'.length = _; omega
  · show u' = _; omega
  · rw [← toL]
    have := d.2
    subst this
    exact k
end Calls
end Jvm.Sy
namespace Jvm.Sy
open Jvm Jvm.ClassFile Sem Op Lib Jvm.Free Jvm.Stand Jvm.LawKit Jvm.RoadKit Bundle
def LaidAll (Z : State) (a0 : Array Value) (C : String) : List (WKey × Value) → Prop
  | [] => True
  | f :: r => (Laid Z a0 C f.1.1 f.1.2.1 f.1.2.2 ∧ ∃ ty, parseFieldDescriptor f.1.2.2 = some ty ∧ f.2 = defaultValue ty) ∧ LaidAll Z a0 C r
theorem LaidAll.at {Z : State} {a0 : Array Value} {C : String} : ∀ {fs : List (WKey × Value)}, LaidAll Z a0 C fs → ∀ {i : Nat} {f : WKey × Value}, fs[i]? = some f → Laid Z a0 C f.1.1 f.1.2.1 f.1.2.2 ∧ ∃ ty, parseFieldDescriptor f.1.2.2 = some ty ∧ f.2 = defaultValue ty
  | [], _, i, f, h => by simp at h
  | g :: r, H, 0, f, h => by simp at h; subst h; exact H.1
  | g :: r, H, i + 1, f, h => LaidAll.at H.2 (i := i) (by simpa using h)
section HeapOps
variable {G : WMC} {pc nx tgt u idx k i n : Nat} {L : List Slot} {S : List Value} {σ : WHp} {a0 : Array Value} {v w : Value} {j : Int32} {vs : List Value} {ty : FieldType} {fs : List (WKey × Value)} {C O nm dd K : String}
theorem WStep.ldc {z : Int32} (d : AtI G.bytes pc (.ldc idx) 2 nx) (wd : (Jvm.Cond.constant G.own idx z).before a0 G.Z = true) : WStep G (pc, L, S, σ, u) (nx, L, .int z :: S, σ, u) := by
  refine ⟨Nat.le_refl _, Nat.le_refl _, fun p l e R s m args below meth c hC hc hs T hT => ?_⟩
  obtain ⟨hx, hby, hZ, hown, hnm, hret, hml, hs0, hρ, hinj, hfr, hlo⟩ := hC
  obtain ⟨locs, ce, sl, h1, h2, X, D, N⟩ := hT
  obtain ⟨d, rfl⟩ := d
  exact ⟨T, ⟨locs, ce, sl, h1, h2, X, D, N⟩, X.ldcInt hx hown (mvT hZ wd) (g := frm G m (pc, L, S, σ, u)) rfl (hb hby d)⟩
theorem WStep.ldcw {z : Int32} (d : AtI G.bytes pc (.ldc_w idx) 3 nx) (wd : (Jvm.Cond.constant G.own idx z).before a0 G.Z = true) : WStep G (pc, L, S, σ, u) (nx, L, .int z :: S, σ, u) := by
  refine ⟨Nat.le_refl _, Nat.le_refl _, fun p l e R s m args below meth c hC hc hs T hT => ?_⟩
  obtain ⟨hx, hby, hZ, hown, hnm, hret, hml, hs0, hρ, hinj, hfr, hlo⟩ := hC
  obtain ⟨locs, ce, sl, h1, h2, X, D, N⟩ := hT
  obtain ⟨d, rfl⟩ := d
  exact ⟨T, ⟨locs, ce, sl, h1, h2, X, D, N⟩, X.ldcwInt hx hown (mvT hZ wd) (g := frm G m (pc, L, S, σ, u)) rfl (hb hby d)⟩
theorem WStep.ldc2 {z : Int64} (d : AtI G.bytes pc (.ldc2_w idx) 3 nx) (wd : (Jvm.Cond.constantLong G.own idx z).before a0 G.Z = true) : WStep G (pc, L, S, σ, u) (nx, L, .long z :: S, σ, u) := by
  refine ⟨Nat.le_refl _, Nat.le_refl _, fun p l e R s m args below meth c hC hc hs T hT => ?_⟩
  obtain ⟨hx, hby, hZ, hown, hnm, hret, hml, hs0, hρ, hinj, hfr, hlo⟩ := hC
  obtain ⟨locs, ce, sl, h1, h2, X, D, N⟩ := hT
  obtain ⟨d, rfl⟩ := d
  exact ⟨T, ⟨locs, ce, sl, h1, h2, X, D, N⟩, X.ldc2Long hx hown (mvT hZ wd) (g := frm G m (pc, L, S, σ, u)) rfl (hb hby d)⟩
theorem WStep.initO (d : AtI G.bytes pc (.invokespecial idx) 3 nx) (w1 : (Jvm.Cond.methodLink G.own idx Lib.objectInit).before a0 G.Z = true) (w2 : (Jvm.Cond.instanceMethod Lib.objectInit).before a0 G.Z = true) (w3 : (Jvm.Cond.code Lib.objectInit ⟨#[0xb1]⟩ 1 none).before a0 G.Z = true)
    (hL : L.length = G.ml) (hf : 1 ≤ G.fr) (hl : (S.map Value.category).sum + 12 ≤ G.lo) : WStep G (pc, L, .ref k :: S, σ, u) (nx, L, S, σ, u) := by
  refine ⟨Nat.le_refl _, Nat.le_refl _, fun p l e R s m args below meth c hC hc hs T hT => ?_⟩
  obtain ⟨hx, hby, hZ, hown, hnm, hret, hml, hs0, hρ, hinj, hfr, hlo⟩ := hC
  obtain ⟨locs, ce, sl, h1, h2, X, D, N⟩ := hT
  obtain ⟨d, rfl⟩ := d
  obtain ⟨T', X', e', st⟩ := RoadKit.initO X hx hZ hown w1 w2 w3 rfl (g := frm G m (pc, L, .ref k :: S, σ, u)) rfl (by show (gL _ L).size = _; rw [gL_size, hL, hml]) rfl (hb hby d) (Nat.le_trans hf hfr) (W := (S.map Value.category).sum) (by have := sum_gS (ρ := G.ρ) S; unfold gS at this; rw [this]; show 2 * 0 + _ ≤ _; omega) (Nat.le_trans hl hlo)
  exact ⟨T', ⟨locs, ce, sl, h1, h2, X', by rw [e']; exact D, N⟩, st⟩
theorem WStep.getF (i : Nat) (d : AtI G.bytes pc (.getfield idx) 3 nx) (wd : (Jvm.Cond.fieldLink G.own idx O nm dd).before a0 G.Z = true) (hk : σ[k]? = some (.inr (C, fs))) (hi : fs[i]? = some ((O, nm, dd), v)) : WStep G (pc, L, .ref k :: S, σ, u) (nx, L, v :: S, σ, u) := by
  refine ⟨Nat.le_refl _, Nat.le_refl _, fun p l e R s m args below meth c hC hc hs T hT => ?_⟩
  obtain ⟨hx, hby, hZ, hown, hnm, hret, hml, hs0, hρ, hinj, hfr, hlo⟩ := hC
  obtain ⟨locs, ce, sl, h1, h2, X, D, N⟩ := hT
  obtain ⟨d, rfl⟩ := d
  have hko : ObjOk G.Z G.ρ T.heap (G.n0 + k) C fs := D.2.2 k _ hk
  have F := hko.2.1 i _ _ _ _ hi
  rw [← hρ k (D.lt hk)] at F
  obtain ⟨T', X', e', st⟩ := RoadKit.getF X hx hZ hown (host := "") (Or.inl wd) Via.refl rfl F (g := frm G m (pc, L, .ref k :: S, σ, u)) rfl rfl (hb hby d)
  exact ⟨T', ⟨locs, ce, sl, h1, h2, X', by rw [e']; exact D, N⟩, st⟩
theorem WStep.putF (i : Nat) (v' : Value) (d : AtI G.bytes pc (.putfield idx) 3 nx) (wd : (Jvm.Cond.fieldLink G.own idx O nm dd).before a0 G.Z = true) (hk : σ[k]? = some (.inr (C, fs))) (hi : fs[i]? = some ((O, nm, dd), w))
    (hlay : (Jvm.Cond.lays C O nm dd).before a0 G.Z = true ∨ ((Jvm.Cond.laysFinal C O nm dd).before a0 G.Z = true ∧ G.own = O ∧ G.nm = "<init>")) (wi : (Jvm.Cond.instantiable C n).before a0 G.Z = true) (hty : parseFieldDescriptor dd = some ty) (hn : narrow ty v = v') (hf : fits ty v' = true) :
    WStep G (pc, L, v :: .ref k :: S, σ, u) (nx, L, S, σ.set k (.inr (C, fs.set i ((O, nm, dd), v'))), u) := by
  refine ⟨by simp, Nat.le_refl _, fun p l e R s m args below meth c hC hc hs T hT => ?_⟩
  obtain ⟨hx, hby, hZ, hown, hnm, hret, hml, hs0, hρ, hinj, hfr, hlo⟩ := hC
  obtain ⟨locs, ce, sl, h1, h2, X, D, N⟩ := hT
  obtain ⟨d, rfl⟩ := d
  have hko : ObjOk G.Z G.ρ T.heap (G.n0 + k) C fs := D.2.2 k _ hk
  obtain ⟨E, Fs, hNe⟩ := hko
  have F := Fs i _ _ _ _ hi
  have hρk := hρ k (D.lt hk)
  obtain ⟨T', h', X', e', W, st⟩ := putFN X hx hZ hown (v := gv G.ρ v) (v' := gv G.ρ v') wd Via.refl rfl F E (hlay.imp id fun q => ⟨q.1, q.2.1, hnm.trans q.2.2⟩) wi hty (by rw [narrow_gv, hn]) (by rw [fits_gv, hf]) (g := frm G m (pc, L, v :: .ref k :: S, σ, u)) rfl (by show gv _ v :: Value.ref (G.ρ k) :: _ = _; rw [hρk]) (hb hby d)
  subst e'
  refine ⟨T', ⟨_, ce, sl, by simpa using h1, h2, X', D.put W ?_, N.app fun y hy => by cases List.mem_singleton.mp hy; exact Nat.le_add_right _ _⟩, st⟩
  have hlt := (List.getElem?_eq_some_iff.mp hi).1
  refine ⟨E.wr W, fun i' O' n' d' y hy => ?_, fun i1 i2 k1 k2 v1 v2 ne q1 q2 => ?_⟩
  · by_cases q : i' = i
    · subst q
      rw [List.getElem?_set_self hlt] at hy
      cases hy
      exact F.same W
    · rw [List.getElem?_set_ne (Ne.symm q)] at hy
      have hne : RoadKit.slotOf G.Z O' n' d' ≠ RoadKit.slotOf G.Z O nm dd := hNe i' i (O', n', d') (O, nm, dd) y w q hy hi
      exact (Fs i' O' n' d' y hy).other W (Or.inr hne)
  · have key : ∀ {i' : Nat} {k' : WKey} {v' : Value}, (fs.set i ((O, nm, dd), v'))[i']? = some (k', v1) → ∃ v'', fs[i']? = some (k', v'') := by
      intro i' k' v' hh
      by_cases q : i' = i
      · subst q
        rw [List.getElem?_set_self hlt] at hh
        cases hh
        exact ⟨_, hi⟩
      · rw [List.getElem?_set_ne (fun z => q z.symm)] at hh
        exact ⟨_, hh⟩
    have key2 : ∀ {i' : Nat} {k' : WKey} {v' : Value}, (fs.set i ((O, nm, dd), v'))[i']? = some (k', v2) → ∃ v'', fs[i']? = some (k', v'') := by
      intro i' k' v' hh
      by_cases q : i' = i
      · subst q
        rw [List.getElem?_set_self hlt] at hh
        cases hh
        exact ⟨_, hi⟩
      · rw [List.getElem?_set_ne (fun z => q z.symm)] at hh
        exact ⟨_, hh⟩
    obtain ⟨_, r1⟩ := key q1
    obtain ⟨_, r2⟩ := key2 q2
    exact hNe i1 i2 _ _ _ _ ne r1 r2
theorem WStep.newO (fs : List (WKey × Value)) (d : AtI G.bytes pc (.new idx) 3 nx) (w1 : (Jvm.Cond.classLink G.own idx C).before a0 G.Z = true) (w2 : (Jvm.Cond.instantiable C n).before a0 G.Z = true) (w3 : (Jvm.Cond.initialized C).before a0 G.Z = true)
    (hfs : LaidAll G.Z a0 C fs) (hnd : (fs.map fun f => f.1.2.1).Nodup) (hlen : σ.length = k) (hk : k < 1000) : WStep G (pc, L, S, σ, u) (nx, L, .ref k :: S, σ ++ [.inr (C, fs)], u + n) := by
  refine ⟨by simp, Nat.le_add_right _ _, fun p l e R s m args below meth c hC hc hs T hT => ?_⟩
  obtain ⟨hx, hby, hZ, hown, hnm, hret, hml, hs0, hρ, hinj, hfr, hlo⟩ := hC
  obtain ⟨locs, ce, sl, h1, h2, X, D, N⟩ := hT
  obtain ⟨d, rfl⟩ := d
  subst hlen
  have h1' : σ.length = G.j0 + ce := h1
  have h2' : u = G.u0 + sl := h2
  have hc' : σ.length + 1 ≤ G.j0 + R.cells := by simpa using hc
  have hs' : u + n ≤ G.u0 + R.slots := hs
  have eS : T.heap.size = G.n0 + σ.length := D.1
  obtain ⟨T', h', X', e', E, A, Dv, -, st⟩ := RoadKit.newO X hx hZ hown w1 w2 w3 rfl (g := frm G m (pc, L, S, σ, u)) rfl (hb hby d) (by omega) (by omega)
  subst e'
  have hsz : T'.heap.size = T.heap.size + 1 := by
    have a1 := X'.heapSize
    have a2 : T.heap.size < T'.heap.size := A.lt
    have a3 : s.heap.size = G.n0 + G.j0 := hs0
    omega
  rw [eS] at A Dv
  have eρ : G.ρ σ.length = T.heap.size := by rw [hρ _ hk, eS]
  refine ⟨T', ⟨locs, ce + 1, sl + n, by simp; omega, by show u + n = _; omega, X', D.push E hsz hk ⟨A, fun i O' n' d' y hy => ?_, fun i1 i2 k1 k2 v1 v2 ne q1 q2 => ?_⟩, N⟩, fun t kt => st t ?_⟩
  · obtain ⟨LL, ty, p1, p2⟩ := hfs.at hy
    have := Dv LL p1
    dsimp only at p2
    rw [p2, dv_gv]
    exact this
  · obtain ⟨LL, ty, p1, p2⟩ := hfs.at q1
    obtain ⟨LL', ty', p1', p2'⟩ := hfs.at q2
    refine slot_ne LL LL' (fun e => ne ?_) p1 p1'
    have b1 := (List.getElem?_eq_some_iff.mp q1).1
    have b2 := (List.getElem?_eq_some_iff.mp q2).1
    refine (List.getElem?_inj (l := fs.map fun f => f.1.2.1) (i := i1) (j := i2) (by simpa using b1) hnd).mp ?_
    rw [List.getElem?_map, List.getElem?_map, q1, q2]
    exact congrArg some e
  · rw [← eρ]; exact kt
theorem WStep.newP {aty : ArrayType} (n : Int32) (m : Nat) (d : AtI G.bytes pc (.newarray aty) 2 nx) (w1 : (Jvm.Cond.arrayClass (newarray.typeOf aty)).before a0 G.Z = true) (hn : ¬ n < 0) (hm : n.toNatClampNeg = m) (hb8 : m * 8 ≤ 536870912) (hlen : σ.length = k) (hk : k < 1000) :
    WStep G (pc, L, .int n :: S, σ, u) (nx, L, .ref k :: S, σ ++ [.inl (newarray.typeOf aty, List.replicate m (defaultValue (newarray.typeOf aty)))], u + m) := by
  refine ⟨by simp, Nat.le_add_right _ _, fun p l e R s me args below meth c hC hc hs T hT => ?_⟩
  obtain ⟨hx, hby, hZ, hown, hnm, hret, hml, hs0, hρ, hinj, hfr, hlo⟩ := hC
  obtain ⟨locs, ce, sl, h1, h2, X, D, N⟩ := hT
  obtain ⟨d, rfl⟩ := d
  subst hlen
  have h1' : σ.length = G.j0 + ce := h1
  have h2' : u = G.u0 + sl := h2
  have hc' : σ.length + 1 ≤ G.j0 + R.cells := by simpa using hc
  have hs' : u + m ≤ G.u0 + R.slots := hs
  have eS : T.heap.size = G.n0 + σ.length := D.1
  obtain ⟨T', h', cA, X', e', E, A, st⟩ := RoadKit.newP X hx hZ w1 rfl (g := frm G me (pc, L, .int n :: S, σ, u)) rfl (hb hby d) rfl hn (cap := m) (by omega) hb8 (by omega) (by omega)
  subst e'
  have hsz : T'.heap.size = T.heap.size + 1 := by
    have a1 := X'.heapSize
    have a2 : T.heap.size < T'.heap.size := A.lt
    have a3 : s.heap.size = G.n0 + G.j0 := hs0
    omega
  rw [eS] at A
  have eρ : G.ρ σ.length = T.heap.size := by rw [hρ _ hk, eS]
  refine ⟨T', ⟨locs, ce + 1, sl + m, by simp; omega, by show u + m = _; omega, X', D.push E hsz hk ⟨_, A, ?_, ?_, ?_⟩, N⟩, fun t kt => st t ?_⟩
  · simp [newA, hm, dv_gv]
  · intro C hC; cases aty <;> cases hC
  · intro y hy
    rw [List.eq_of_mem_replicate hy]
    cases aty <;> rfl
  · rw [← eρ]; exact kt
theorem WStep.newR (n : Int32) (m : Nat) (d : AtI G.bytes pc (.anewarray idx) 3 nx) (w1 : (Jvm.Cond.classLink G.own idx C).before a0 G.Z = true) (w2 : (Jvm.Cond.arrayOver (.object C)).before a0 G.Z = true) (hn : ¬ n < 0) (hm : n.toNatClampNeg = m) (hb8 : m * 8 ≤ 536870912) (hlen : σ.length = k) (hk : k < 1000) :
    WStep G (pc, L, .int n :: S, σ, u) (nx, L, .ref k :: S, σ ++ [.inl (.object C, List.replicate m .null)], u + m) := by
  refine ⟨by simp, Nat.le_add_right _ _, fun p l e R s me args below meth c hC hc hs T hT => ?_⟩
  obtain ⟨hx, hby, hZ, hown, hnm, hret, hml, hs0, hρ, hinj, hfr, hlo⟩ := hC
  obtain ⟨locs, ce, sl, h1, h2, X, D, N⟩ := hT
  obtain ⟨d, rfl⟩ := d
  subst hlen
  have h1' : σ.length = G.j0 + ce := h1
  have h2' : u = G.u0 + sl := h2
  have hc' : σ.length + 1 ≤ G.j0 + R.cells := by simpa using hc
  have hs' : u + m ≤ G.u0 + R.slots := hs
  have eS : T.heap.size = G.n0 + σ.length := D.1
  obtain ⟨T', h', cA, X', e', E, A, hO, st⟩ := RoadKit.newR X hx hZ hown w1 w2 rfl (g := frm G me (pc, L, .int n :: S, σ, u)) rfl (hb hby d) rfl hn (cap := m) (by omega) hb8 (by omega) (by omega)
  subst e'
  have hsz : T'.heap.size = T.heap.size + 1 := by
    have a1 := X'.heapSize
    have a2 : T.heap.size < T'.heap.size := A.lt
    have a3 : s.heap.size = G.n0 + G.j0 := hs0
    omega
  rw [eS] at A
  have eρ : G.ρ σ.length = T.heap.size := by rw [hρ _ hk, eS]
  refine ⟨T', ⟨locs, ce + 1, sl + m, by simp; omega, by show u + m = _; omega, X', D.push E hsz hk ⟨_, A, ?_, ?_, ?_⟩, N⟩, fun t kt => st t ?_⟩
  · simp [newA, hm, defaultValue, gv]
  · intro C' hC; cases hC; exact hO
  · intro y hy
    rw [List.eq_of_mem_replicate hy]
    rfl
  · rw [← eρ]; exact kt
theorem WStep.alen (z : Int32) (d : AtI G.bytes pc .arraylength 1 nx) (hk : σ[k]? = some (.inl (ty, vs))) (hz : vs.length.toInt32 = z) : WStep G (pc, L, .ref k :: S, σ, u) (nx, L, .int z :: S, σ, u) := by
  refine ⟨Nat.le_refl _, Nat.le_refl _, fun p l e R s m args below meth c hC hc hs T hT => ?_⟩
  obtain ⟨hx, hby, hZ, hown, hnm, hret, hml, hs0, hρ, hinj, hfr, hlo⟩ := hC
  obtain ⟨locs, ce, sl, h1, h2, X, D, N⟩ := hT
  obtain ⟨d, rfl⟩ := d
  obtain ⟨cl, A, eC, -⟩ : ArrOk G.Z G.ρ T.heap (G.n0 + k) ty vs := D.2.2 k _ hk
  rw [← hρ k (D.lt hk)] at A
  refine ⟨T, ⟨locs, ce, sl, h1, h2, X, D, N⟩, fun t kt => X.arraylength hx A.1 (State.isArrayOf_alike hZ.alike A.2.1) (g := frm G m (pc, L, .ref k :: S, σ, u)) rfl rfl (hb hby d) t ?_⟩
  rw [ArrOk.size (ty := ty) eC, hz]
  exact kt
theorem WStep.iaload (i : Nat) (d : AtI G.bytes pc .iaload 1 nx) (hk : σ[k]? = some (.inl (.int, vs))) (hj : ¬ j < 0) (hi : j.toNatClampNeg = i) (hv : vs[i]? = some v) : WStep G (pc, L, .int j :: .ref k :: S, σ, u) (nx, L, v :: S, σ, u) := by
  refine ⟨Nat.le_refl _, Nat.le_refl _, fun p l e R s m args below meth c hC hc hs T hT => ?_⟩
  obtain ⟨hx, hby, hZ, hown, hnm, hret, hml, hs0, hρ, hinj, hfr, hlo⟩ := hC
  obtain ⟨locs, ce, sl, h1, h2, X, D, N⟩ := hT
  obtain ⟨d, rfl⟩ := d
  obtain ⟨cl, A, eC, -⟩ : ArrOk G.Z G.ρ T.heap (G.n0 + k) .int vs := D.2.2 k _ hk
  rw [← hρ k (D.lt hk)] at A
  have hlt := (List.getElem?_eq_some_iff.mp hv).1
  exact ⟨T, ⟨locs, ce, sl, h1, h2, X, D, N⟩, fun t kt => X.iaload hx (j := j) (v := gv G.ρ v) A.1 (State.isArrayOf_alike hZ.alike A.2.1) A.2.2 (fun q => q.elim hj fun q => by rw [ArrOk.size (ty := .int) eC, hi] at q; omega) (by rw [hi]; exact ArrOk.at eC hv) (g := frm G m (pc, L, .int j :: .ref k :: S, σ, u)) rfl rfl (hb hby d) t kt⟩
theorem WStep.laload (i : Nat) (d : AtI G.bytes pc .laload 1 nx) (hk : σ[k]? = some (.inl (.long, vs))) (hj : ¬ j < 0) (hi : j.toNatClampNeg = i) (hv : vs[i]? = some v) : WStep G (pc, L, .int j :: .ref k :: S, σ, u) (nx, L, v :: S, σ, u) := by
  refine ⟨Nat.le_refl _, Nat.le_refl _, fun p l e R s m args below meth c hC hc hs T hT => ?_⟩
  obtain ⟨hx, hby, hZ, hown, hnm, hret, hml, hs0, hρ, hinj, hfr, hlo⟩ := hC
  obtain ⟨locs, ce, sl, h1, h2, X, D, N⟩ := hT
  obtain ⟨d, rfl⟩ := d
  obtain ⟨cl, A, eC, -⟩ : ArrOk G.Z G.ρ T.heap (G.n0 + k) .long vs := D.2.2 k _ hk
  rw [← hρ k (D.lt hk)] at A
  have hlt := (List.getElem?_eq_some_iff.mp hv).1
  exact ⟨T, ⟨locs, ce, sl, h1, h2, X, D, N⟩, fun t kt => X.laload hx (j := j) (v := gv G.ρ v) A.1 (State.isArrayOf_alike hZ.alike A.2.1) A.2.2 (fun q => q.elim hj fun q => by rw [ArrOk.size (ty := .long) eC, hi] at q; omega) (by rw [hi]; exact ArrOk.at eC hv) (g := frm G m (pc, L, .int j :: .ref k :: S, σ, u)) rfl rfl (hb hby d) t kt⟩
theorem WStep.caload (i : Nat) (d : AtI G.bytes pc .caload 1 nx) (hk : σ[k]? = some (.inl (.char, vs))) (hj : ¬ j < 0) (hi : j.toNatClampNeg = i) (hv : vs[i]? = some v) : WStep G (pc, L, .int j :: .ref k :: S, σ, u) (nx, L, v :: S, σ, u) := by
  refine ⟨Nat.le_refl _, Nat.le_refl _, fun p l e R s m args below meth c hC hc hs T hT => ?_⟩
  obtain ⟨hx, hby, hZ, hown, hnm, hret, hml, hs0, hρ, hinj, hfr, hlo⟩ := hC
  obtain ⟨locs, ce, sl, h1, h2, X, D, N⟩ := hT
  obtain ⟨d, rfl⟩ := d
  obtain ⟨cl, A, eC, -⟩ : ArrOk G.Z G.ρ T.heap (G.n0 + k) .char vs := D.2.2 k _ hk
  rw [← hρ k (D.lt hk)] at A
  have hlt := (List.getElem?_eq_some_iff.mp hv).1
  exact ⟨T, ⟨locs, ce, sl, h1, h2, X, D, N⟩, fun t kt => X.caload hx (j := j) (v := gv G.ρ v) A.1 (State.isArrayOf_alike hZ.alike A.2.1) A.2.2 (fun q => q.elim hj fun q => by rw [ArrOk.size (ty := .char) eC, hi] at q; omega) (by rw [hi]; exact ArrOk.at eC hv) (g := frm G m (pc, L, .int j :: .ref k :: S, σ, u)) rfl rfl (hb hby d) t kt⟩
theorem WStep.aaload (i : Nat) (d : AtI G.bytes pc .aaload 1 nx) (hk : σ[k]? = some (.inl (ty, vs))) (hty : ty.isReference = true) (hj : ¬ j < 0) (hi : j.toNatClampNeg = i) (hv : vs[i]? = some v) : WStep G (pc, L, .int j :: .ref k :: S, σ, u) (nx, L, v :: S, σ, u) := by
  refine ⟨Nat.le_refl _, Nat.le_refl _, fun p l e R s m args below meth c hC hc hs T hT => ?_⟩
  obtain ⟨hx, hby, hZ, hown, hnm, hret, hml, hs0, hρ, hinj, hfr, hlo⟩ := hC
  obtain ⟨locs, ce, sl, h1, h2, X, D, N⟩ := hT
  obtain ⟨d, rfl⟩ := d
  obtain ⟨cl, A, eC, -⟩ : ArrOk G.Z G.ρ T.heap (G.n0 + k) ty vs := D.2.2 k _ hk
  rw [← hρ k (D.lt hk)] at A
  have hlt := (List.getElem?_eq_some_iff.mp hv).1
  exact ⟨T, ⟨locs, ce, sl, h1, h2, X, D, N⟩, fun t kt => X.aaload hx (j := j) (v := gv G.ρ v) A.1 (State.isArrayOf_alike hZ.alike A.2.1) hty A.2.2 (fun q => q.elim hj fun q => by rw [ArrOk.size (ty := ty) eC, hi] at q; omega) (by rw [hi]; exact ArrOk.at eC hv) (g := frm G m (pc, L, .int j :: .ref k :: S, σ, u)) rfl rfl (hb hby d) t kt⟩
theorem WStep.iastore {z : Int32} (i : Nat) (d : AtI G.bytes pc .iastore 1 nx) (hk : σ[k]? = some (.inl (.int, vs))) (hj : ¬ j < 0) (hi : j.toNatClampNeg = i) (hlt : i < vs.length) : WStep G (pc, L, .int z :: .int j :: .ref k :: S, σ, u) (nx, L, S, σ.set k (.inl (.int, vs.set i (.int z))), u) := by
  refine ⟨by simp, Nat.le_refl _, fun p l e R s m args below meth c hC hc hs T hT => ?_⟩
  obtain ⟨hx, hby, hZ, hown, hnm, hret, hml, hs0, hρ, hinj, hfr, hlo⟩ := hC
  obtain ⟨locs, ce, sl, h1, h2, X, D, N⟩ := hT
  obtain ⟨d, rfl⟩ := d
  obtain ⟨cl, A, eC, hO, hF⟩ : ArrOk G.Z G.ρ T.heap (G.n0 + k) .int vs := D.2.2 k _ hk
  have hρk := hρ k (D.lt hk)
  obtain ⟨T', h', X', e', W, st⟩ := stI X hx hZ rfl A (j := j) (x := z) (fun q => q.elim hj fun q => by rw [ArrOk.size (ty := .int) eC, hi] at q; omega) (g := frm G m (pc, L, .int z :: .int j :: .ref k :: S, σ, u)) rfl (by show _ :: _ :: Value.ref (G.ρ k) :: _ = _; rw [hρk]; rfl) (hb hby d)
  subst e'
  rw [hi] at W
  exact ⟨T', ⟨_, ce, sl, by simpa using h1, h2, X', D.put W (ArrOk.set (w := .int z) A eC hO hF W (rfl)), N.app fun y hy => by cases List.mem_singleton.mp hy; exact Nat.le_add_right _ _⟩, st⟩
theorem WStep.lastore {z : Int64} (i : Nat) (d : AtI G.bytes pc .lastore 1 nx) (hk : σ[k]? = some (.inl (.long, vs))) (hj : ¬ j < 0) (hi : j.toNatClampNeg = i) (hlt : i < vs.length) : WStep G (pc, L, .long z :: .int j :: .ref k :: S, σ, u) (nx, L, S, σ.set k (.inl (.long, vs.set i (.long z))), u) := by
  refine ⟨by simp, Nat.le_refl _, fun p l e R s m args below meth c hC hc hs T hT => ?_⟩
  obtain ⟨hx, hby, hZ, hown, hnm, hret, hml, hs0, hρ, hinj, hfr, hlo⟩ := hC
  obtain ⟨locs, ce, sl, h1, h2, X, D, N⟩ := hT
  obtain ⟨d, rfl⟩ := d
  obtain ⟨cl, A, eC, hO, hF⟩ : ArrOk G.Z G.ρ T.heap (G.n0 + k) .long vs := D.2.2 k _ hk
  have hρk := hρ k (D.lt hk)
  obtain ⟨T', h', X', e', W, st⟩ := stJ X hx hZ rfl A (j := j) (x := z) (fun q => q.elim hj fun q => by rw [ArrOk.size (ty := .long) eC, hi] at q; omega) (g := frm G m (pc, L, .long z :: .int j :: .ref k :: S, σ, u)) rfl (by show _ :: _ :: Value.ref (G.ρ k) :: _ = _; rw [hρk]; rfl) (hb hby d)
  subst e'
  rw [hi] at W
  exact ⟨T', ⟨_, ce, sl, by simpa using h1, h2, X', D.put W (ArrOk.set (w := .long z) A eC hO hF W (rfl)), N.app fun y hy => by cases List.mem_singleton.mp hy; exact Nat.le_add_right _ _⟩, st⟩
theorem WStep.castore {z : Int32} (i : Nat) (d : AtI G.bytes pc .castore 1 nx) (hk : σ[k]? = some (.inl (.char, vs))) (hj : ¬ j < 0) (hi : j.toNatClampNeg = i) (hlt : i < vs.length) : WStep G (pc, L, .int z :: .int j :: .ref k :: S, σ, u) (nx, L, S, σ.set k (.inl (.char, vs.set i (.int (nar .char z)))), u) := by
  refine ⟨by simp, Nat.le_refl _, fun p l e R s m args below meth c hC hc hs T hT => ?_⟩
  obtain ⟨hx, hby, hZ, hown, hnm, hret, hml, hs0, hρ, hinj, hfr, hlo⟩ := hC
  obtain ⟨locs, ce, sl, h1, h2, X, D, N⟩ := hT
  obtain ⟨d, rfl⟩ := d
  obtain ⟨cl, A, eC, hO, hF⟩ : ArrOk G.Z G.ρ T.heap (G.n0 + k) .char vs := D.2.2 k _ hk
  have hρk := hρ k (D.lt hk)
  obtain ⟨T', h', X', e', W, st⟩ := stC X hx hZ rfl A (j := j) (x := z) (fun q => q.elim hj fun q => by rw [ArrOk.size (ty := .char) eC, hi] at q; omega) (g := frm G m (pc, L, .int z :: .int j :: .ref k :: S, σ, u)) rfl (by show _ :: _ :: Value.ref (G.ρ k) :: _ = _; rw [hρk]; rfl) (hb hby d)
  subst e'
  rw [hi] at W
  exact ⟨T', ⟨_, ce, sl, by simpa using h1, h2, X', D.put W (ArrOk.set (w := .int (nar .char z)) A eC hO hF W (fits_nar_char z)), N.app fun y hy => by cases List.mem_singleton.mp hy; exact Nat.le_add_right _ _⟩, st⟩
theorem WStep.aastoreN (i : Nat) (d : AtI G.bytes pc .aastore 1 nx) (hk : σ[k]? = some (.inl (ty, vs))) (hty : ty.isReference = true) (hj : ¬ j < 0) (hi : j.toNatClampNeg = i) (hlt : i < vs.length) : WStep G (pc, L, .null :: .int j :: .ref k :: S, σ, u) (nx, L, S, σ.set k (.inl (ty, vs.set i .null)), u) := by
  refine ⟨by simp, Nat.le_refl _, fun p l e R s m args below meth c hC hc hs T hT => ?_⟩
  obtain ⟨hx, hby, hZ, hown, hnm, hret, hml, hs0, hρ, hinj, hfr, hlo⟩ := hC
  obtain ⟨locs, ce, sl, h1, h2, X, D, N⟩ := hT
  obtain ⟨d, rfl⟩ := d
  obtain ⟨cl, A, eC, hO, hF⟩ : ArrOk G.Z G.ρ T.heap (G.n0 + k) ty vs := D.2.2 k _ hk
  have hρk := hρ k (D.lt hk)
  obtain ⟨T', h', X', e', W, st⟩ := stR X hx hZ rfl A (j := j) (v := .null) (fun q => q.elim hj fun q => by rw [ArrOk.size (ty := ty) eC, hi] at q; omega) hty (Or.inl rfl) (g := frm G m (pc, L, .null :: .int j :: .ref k :: S, σ, u)) rfl (by show _ :: _ :: Value.ref (G.ρ k) :: _ = _; rw [hρk]; rfl) (hb hby d)
  subst e'
  rw [hi] at W
  exact ⟨T', ⟨_, ce, sl, by simpa using h1, h2, X', D.put W (ArrOk.set (w := .null) A eC hO hF W (by cases ty <;> first | rfl | cases hty)), N.app fun y hy => by cases List.mem_singleton.mp hy; exact Nat.le_add_right _ _⟩, st⟩
theorem WStep.aastore {k2 : Nat} (i : Nat) (d : AtI G.bytes pc .aastore 1 nx) (hk : σ[k]? = some (.inl (.object C, vs))) (hk2 : σ[k2]? = some (.inr (C, fs))) (hj : ¬ j < 0) (hi : j.toNatClampNeg = i) (hlt : i < vs.length) : WStep G (pc, L, .ref k2 :: .int j :: .ref k :: S, σ, u) (nx, L, S, σ.set k (.inl (.object C, vs.set i (.ref k2))), u) := by
  refine ⟨by simp, Nat.le_refl _, fun p l e R s m args below meth c hC hc hs T hT => ?_⟩
  obtain ⟨hx, hby, hZ, hown, hnm, hret, hml, hs0, hρ, hinj, hfr, hlo⟩ := hC
  obtain ⟨locs, ce, sl, h1, h2, X, D, N⟩ := hT
  obtain ⟨d, rfl⟩ := d
  obtain ⟨cl, A, eC, hO, hF⟩ : ArrOk G.Z G.ρ T.heap (G.n0 + k) (.object C) vs := D.2.2 k _ hk
  have hρk := hρ k (D.lt hk)
  have hE : Exa G.Z T.heap (G.n0 + k2) C := (D.2.2 k2 _ hk2).1
  rw [← hρ k2 (D.lt hk2)] at hE
  obtain ⟨T', h', X', e', W, st⟩ := stR X hx hZ rfl A (j := j) (v := .ref (G.ρ k2)) (fun q => q.elim hj fun q => by rw [ArrOk.size (ty := .object C) eC, hi] at q; omega) rfl (Sto.of A (hO C rfl) (Ins.self hE)) (g := frm G m (pc, L, .ref k2 :: .int j :: .ref k :: S, σ, u)) rfl (by show _ :: _ :: Value.ref (G.ρ k) :: _ = _; rw [hρk]; rfl) (hb hby d)
  subst e'
  rw [hi] at W
  exact ⟨T', ⟨_, ce, sl, by simpa using h1, h2, X', D.put W (ArrOk.set (w := .ref k2) A eC hO hF W rfl), N.app fun y hy => by cases List.mem_singleton.mp hy; exact Nat.le_add_right _ _⟩, st⟩
theorem WStep.acmp {cd : ACond} {x y : Value} (same : Bool) (pc' : Nat) (d : AtJ G.bytes pc (.if_acmp cd) nx tgt) (h1 : x.isRef = true) (h2 : y.isRef = true) (hq : decide (x = y) = same) (hp : pc' = if acV cd same = true then tgt else nx) : WStep G (pc, L, y :: x :: S, σ, u) (pc', L, S, σ, u) := by
  refine ⟨Nat.le_refl _, Nat.le_refl _, fun p l e R s m args below meth c hC hc hs T hT => ⟨T, hT, fun t kt => ?_⟩⟩
  obtain ⟨hx, hby, hZ, hown, hnm, hret, hml, hs0, hρ, hinj, hfr, hlo⟩ := hC
  obtain ⟨locs, ce, sl, z1, z2, X, D, N⟩ := hT
  obtain ⟨o, d, e1, h0, e2⟩ := d
  refine RoadKit.acmp (g := frm G m (pc, L, y :: x :: S, σ, u)) X hx rfl (isRef_gv.trans h1) (isRef_gv.trans h2) (pc0 := pc) (pc' := pc') (same := same) rfl (hb hby d) rfl ?_ h0 (by rw [hp, e1, e2]) kt
  rw [← hq]
  by_cases q : x = y
  · simp [q]
  · simp only [q, decide_false, decide_eq_false_iff_not]
    exact fun z => q (gv_inj hinj z)
theorem WStep.castN (d : AtI G.bytes pc (.checkcast idx) 3 nx) : WStep G (pc, L, .null :: S, σ, u) (nx, L, .null :: S, σ, u) := by
  refine ⟨Nat.le_refl _, Nat.le_refl _, fun p l e R s m args below meth c hC hc hs T hT => ?_⟩
  obtain ⟨hx, hby, hZ, hown, hnm, hret, hml, hs0, hρ, hinj, hfr, hlo⟩ := hC
  obtain ⟨locs, ce, sl, h1, h2, X, D, N⟩ := hT
  obtain ⟨d, rfl⟩ := d
  exact ⟨T, ⟨locs, ce, sl, h1, h2, X, D, N⟩, X.checkcastNull hx (g := frm G m (pc, L, .null :: S, σ, u)) rfl rfl (hb hby d)⟩
theorem WStep.castY (d : AtI G.bytes pc (.checkcast idx) 3 nx) (w1 : (Jvm.Cond.classLink G.own idx K).before a0 G.Z = true) (hk : σ[k]? = some (.inr (C, fs))) (hw : C = K ∨ (Jvm.Cond.castable C K).before a0 G.Z = true) : WStep G (pc, L, .ref k :: S, σ, u) (nx, L, .ref k :: S, σ, u) := by
  refine ⟨Nat.le_refl _, Nat.le_refl _, fun p l e R s m args below meth c hC hc hs T hT => ?_⟩
  obtain ⟨hx, hby, hZ, hown, hnm, hret, hml, hs0, hρ, hinj, hfr, hlo⟩ := hC
  obtain ⟨locs, ce, sl, h1, h2, X, D, N⟩ := hT
  obtain ⟨d, rfl⟩ := d
  have hE : Exa G.Z T.heap (G.n0 + k) C := (D.2.2 k _ hk).1
  rw [← hρ k (D.lt hk)] at hE
  have hI : Ins G.Z T.heap (G.ρ k) K true := by
    rcases hw with rfl | hw
    · exact Ins.self hE
    · exact Ins.of_exa hE hw
  obtain ⟨T', X', e', st⟩ := RoadKit.castY X hx hZ hown w1 rfl hI (g := frm G m (pc, L, .ref k :: S, σ, u)) rfl rfl (hb hby d)
  exact ⟨T', ⟨locs, ce, sl, h1, h2, X', by rw [e']; exact D, N⟩, st⟩
end HeapOps
end Jvm.Sy

namespace Jvm.Sy
open Jvm Jvm.RoadKit
theorem fin_all {n : Nat} (hn : n ≤ 2 ^ 31) {P : Int32 → Prop} (h : ∀ k : Fin n, P (Int32.ofNat k.val)) (c : Int32) (h0 : 0 ≤ c.toInt) (h1 : c.toInt < n) : P c := by
  have e : c = Int32.ofNat c.toInt.toNat := by
    apply Int32.toInt_inj.mp
    rw [Int32.toInt_ofNat_small (by omega)]
    omega
  rw [e]
  exact h ⟨c.toInt.toNat, by omega⟩
/-- ints in an array -/
def ia (ks : List Int32) : List Value := ks.map Value.int
theorem ia_len (ks : List Int32) : (ia ks).length = ks.length := by simp [ia]
theorem ia_ex (ks : List Int32) (i : Nat) (h : i < ks.length) : ∃ e, ks[i]? = some e ∧ (ia ks)[i]? = some (.int e) := ⟨ks[i], by simp [h], by simp [ia, h]⟩
theorem ia_get {ks : List Int32} {i : Nat} {e : Int32} (h : ks[i]? = some e) : (ia ks)[i]? = some (.int e) := by simp [ia, h]
theorem ia_set (ks : List Int32) (i : Nat) (x : Int32) : (ia ks).set i (.int x) = ia (ks.set i x) := by simp [ia, List.map_set]
theorem nn {j : Int32} (h0 : 0 ≤ j.toInt) : ¬ j < 0 := by rw [Int32.lt_iff_toInt_lt]; have : (0 : Int32).toInt = 0 := rfl; omega
theorem nlt {j : Int32} {n : Nat} (h0 : 0 ≤ j.toInt) (h1 : j.toInt < n) : j.toNatClampNeg < n := by simp only [Int32.toNatClampNeg]; omega
/-- a boolean's contract: nothing is written -/
def QB (P : Prop) (σ : WHp) (u : Nat) (v : Option Value) (σ' : WHp) (u' : Nat) : Prop := (v = some (.int 1) ∧ P ∨ v = some (.int 0) ∧ ¬ P) ∧ σ = σ' ∧ u = u'
theorem QB.yes {P : Prop} {σ : WHp} {u : Nat} (h : P) : QB P σ u (some (.int 1)) σ u := ⟨Or.inl ⟨rfl, h⟩, rfl, rfl⟩
theorem QB.no {P : Prop} {σ : WHp} {u : Nat} (h : ¬ P) : QB P σ u (some (.int 0)) σ u := ⟨Or.inr ⟨rfl, h⟩, rfl, rfl⟩
end Jvm.Sy

namespace Jvm.Pilot.@@N@@
open Jvm Jvm.ClassFile Sem Op Lib Jvm.Free Jvm.Stand Jvm.LawKit Jvm.RoadKit Bundle Jvm.Sy Jvm.Pilot.@@N@@.Jvm.D

abbrev g4 (Z : State) (ρ : Nat → Nat) (n0 j0 u0 : Nat) : WMC := ((Z, ρ, n0), ("com/example/treekeeper/treekeeper/xml/XmlChars", prog_121_method_2_code, "isChar", (some .boolean), 1), (j0, u0, 0, 0))
theorem a4_0 : AtI prog_121_method_2_code 0 (.iload_n 0) 1 1 := ⟨by decide +kernel, rfl⟩
theorem a4_1 : AtI prog_121_method_2_code 1 (.bipush 9) 2 3 := ⟨by decide +kernel, rfl⟩
theorem a4_3 : AtJ prog_121_method_2_code 3 (.if_icmp .eq) 6 54 := ⟨51, by decide +kernel, rfl, by decide, rfl⟩
theorem a4_6 : AtI prog_121_method_2_code 6 (.iload_n 0) 1 7 := ⟨by decide +kernel, rfl⟩
theorem a4_7 : AtI prog_121_method_2_code 7 (.bipush 10) 2 9 := ⟨by decide +kernel, rfl⟩
theorem a4_9 : AtJ prog_121_method_2_code 9 (.if_icmp .eq) 12 54 := ⟨45, by decide +kernel, rfl, by decide, rfl⟩
theorem a4_12 : AtI prog_121_method_2_code 12 (.iload_n 0) 1 13 := ⟨by decide +kernel, rfl⟩
theorem a4_13 : AtI prog_121_method_2_code 13 (.bipush 13) 2 15 := ⟨by decide +kernel, rfl⟩
theorem a4_15 : AtJ prog_121_method_2_code 15 (.if_icmp .eq) 18 54 := ⟨39, by decide +kernel, rfl, by decide, rfl⟩
theorem a4_18 : AtI prog_121_method_2_code 18 (.iload_n 0) 1 19 := ⟨by decide +kernel, rfl⟩
theorem a4_19 : AtI prog_121_method_2_code 19 (.bipush 32) 2 21 := ⟨by decide +kernel, rfl⟩
theorem a4_21 : AtJ prog_121_method_2_code 21 (.if_icmp .lt) 24 30 := ⟨9, by decide +kernel, rfl, by decide, rfl⟩
theorem a4_24 : AtI prog_121_method_2_code 24 (.iload_n 0) 1 25 := ⟨by decide +kernel, rfl⟩
theorem a4_25 : AtI prog_121_method_2_code 25 (.ldc 7) 2 27 := ⟨by decide +kernel, rfl⟩
theorem a4_27 : AtJ prog_121_method_2_code 27 (.if_icmp .le) 30 54 := ⟨27, by decide +kernel, rfl, by decide, rfl⟩
theorem a4_30 : AtI prog_121_method_2_code 30 (.iload_n 0) 1 31 := ⟨by decide +kernel, rfl⟩
theorem a4_31 : AtI prog_121_method_2_code 31 (.ldc 8) 2 33 := ⟨by decide +kernel, rfl⟩
theorem a4_33 : AtJ prog_121_method_2_code 33 (.if_icmp .lt) 36 42 := ⟨9, by decide +kernel, rfl, by decide, rfl⟩
theorem a4_36 : AtI prog_121_method_2_code 36 (.iload_n 0) 1 37 := ⟨by decide +kernel, rfl⟩
theorem a4_37 : AtI prog_121_method_2_code 37 (.ldc 9) 2 39 := ⟨by decide +kernel, rfl⟩
theorem a4_39 : AtJ prog_121_method_2_code 39 (.if_icmp .le) 42 54 := ⟨15, by decide +kernel, rfl, by decide, rfl⟩
theorem a4_42 : AtI prog_121_method_2_code 42 (.iload_n 0) 1 43 := ⟨by decide +kernel, rfl⟩
theorem a4_43 : AtI prog_121_method_2_code 43 (.ldc 10) 2 45 := ⟨by decide +kernel, rfl⟩
theorem a4_45 : AtJ prog_121_method_2_code 45 (.if_icmp .lt) 48 58 := ⟨13, by decide +kernel, rfl, by decide, rfl⟩
theorem a4_48 : AtI prog_121_method_2_code 48 (.iload_n 0) 1 49 := ⟨by decide +kernel, rfl⟩
theorem a4_49 : AtI prog_121_method_2_code 49 (.ldc 11) 2 51 := ⟨by decide +kernel, rfl⟩
theorem a4_51 : AtJ prog_121_method_2_code 51 (.if_icmp .gt) 54 58 := ⟨7, by decide +kernel, rfl, by decide, rfl⟩
theorem a4_54 : AtI prog_121_method_2_code 54 (.iconst 1) 1 55 := ⟨by decide +kernel, rfl⟩
theorem a4_55 : AtJ prog_121_method_2_code 55 (.goto) 58 59 := ⟨4, by decide +kernel, rfl, by decide, rfl⟩
theorem a4_58 : AtI prog_121_method_2_code 58 (.iconst 0) 1 59 := ⟨by decide +kernel, rfl⟩
theorem a4_59 : AtI prog_121_method_2_code 59 (.ireturn) 1 60 := ⟨by decide +kernel, rfl⟩
theorem pd4 : parseMethodDescriptor "(I)Z" = some ⟨[.int], some .boolean⟩ := by decide +kernel
theorem pl4 : plainFor (⟨"com/example/treekeeper/treekeeper/xml/XmlChars", "isChar", "(I)Z"⟩ : MethodName) = true := plainFor_of_name (by first | (simp [plainName, overriddenIn]; done) | decide +kernel)
theorem ok4 {Z : State} {a0 : Array Value} (hw : ∀ d ∈ tables_1, d.before a0 Z = true) (ρ : Nat → Nat) (n0 j0 u0 : Nat) : WCallee Z a0 (⟨"com/example/treekeeper/treekeeper/xml/XmlChars", "isChar", "(I)Z"⟩ : MethodName) (g4 Z ρ n0 j0 u0) 1 :=
  ⟨pl4, (by decide), rfl, rfl, rfl, (hw _ (List.mem_of_getElem? (i := 16) rfl)), (hw _ (List.mem_of_getElem? (i := 29) rfl)), fun sig h => by cases pd4.symm.trans h; rfl⟩
abbrev g3 (Z : State) (ρ : Nat → Nat) (n0 j0 u0 : Nat) : WMC := ((Z, ρ, n0), ("com/example/treekeeper/treekeeper/xml/XmlCharsIsNameStartCharPinLaw", method_2_code, "excluded", (some .boolean), 1), (j0, u0, 0, 0))
theorem a3_0 : AtI method_2_code 0 (.iload_n 0) 1 1 := ⟨by decide +kernel, rfl⟩
theorem a3_1 : AtI method_2_code 1 (.bipush 65) 2 3 := ⟨by decide +kernel, rfl⟩
theorem a3_3 : AtJ method_2_code 3 (.if_icmp .ge) 6 8 := ⟨5, by decide +kernel, rfl, by decide, rfl⟩
theorem a3_6 : AtI method_2_code 6 (.iconst 1) 1 7 := ⟨by decide +kernel, rfl⟩
theorem a3_7 : AtI method_2_code 7 (.ireturn) 1 8 := ⟨by decide +kernel, rfl⟩
theorem a3_8 : AtI method_2_code 8 (.iload_n 0) 1 9 := ⟨by decide +kernel, rfl⟩
theorem a3_9 : AtI method_2_code 9 (.bipush 91) 2 11 := ⟨by decide +kernel, rfl⟩
theorem a3_11 : AtJ method_2_code 11 (.if_icmp .lt) 14 22 := ⟨11, by decide +kernel, rfl, by decide, rfl⟩
theorem a3_14 : AtI method_2_code 14 (.iload_n 0) 1 15 := ⟨by decide +kernel, rfl⟩
theorem a3_15 : AtI method_2_code 15 (.bipush 94) 2 17 := ⟨by decide +kernel, rfl⟩
theorem a3_17 : AtJ method_2_code 17 (.if_icmp .gt) 20 22 := ⟨5, by decide +kernel, rfl, by decide, rfl⟩
theorem a3_20 : AtI method_2_code 20 (.iconst 1) 1 21 := ⟨by decide +kernel, rfl⟩
theorem a3_21 : AtI method_2_code 21 (.ireturn) 1 22 := ⟨by decide +kernel, rfl⟩
theorem a3_22 : AtI method_2_code 22 (.iload_n 0) 1 23 := ⟨by decide +kernel, rfl⟩
theorem a3_23 : AtI method_2_code 23 (.bipush 96) 2 25 := ⟨by decide +kernel, rfl⟩
theorem a3_25 : AtJ method_2_code 25 (.if_icmp .ne) 28 30 := ⟨5, by decide +kernel, rfl, by decide, rfl⟩
theorem a3_28 : AtI method_2_code 28 (.iconst 1) 1 29 := ⟨by decide +kernel, rfl⟩
theorem a3_29 : AtI method_2_code 29 (.ireturn) 1 30 := ⟨by decide +kernel, rfl⟩
theorem a3_30 : AtI method_2_code 30 (.iload_n 0) 1 31 := ⟨by decide +kernel, rfl⟩
theorem a3_31 : AtI method_2_code 31 (.bipush 123) 2 33 := ⟨by decide +kernel, rfl⟩
theorem a3_33 : AtJ method_2_code 33 (.if_icmp .lt) 36 45 := ⟨12, by decide +kernel, rfl, by decide, rfl⟩
theorem a3_36 : AtI method_2_code 36 (.iload_n 0) 1 37 := ⟨by decide +kernel, rfl⟩
theorem a3_37 : AtI method_2_code 37 (.sipush 191) 3 40 := ⟨by decide +kernel, rfl⟩
theorem a3_40 : AtJ method_2_code 40 (.if_icmp .gt) 43 45 := ⟨5, by decide +kernel, rfl, by decide, rfl⟩
theorem a3_43 : AtI method_2_code 43 (.iconst 1) 1 44 := ⟨by decide +kernel, rfl⟩
theorem a3_44 : AtI method_2_code 44 (.ireturn) 1 45 := ⟨by decide +kernel, rfl⟩
theorem a3_45 : AtI method_2_code 45 (.iload_n 0) 1 46 := ⟨by decide +kernel, rfl⟩
theorem a3_46 : AtI method_2_code 46 (.sipush 215) 3 49 := ⟨by decide +kernel, rfl⟩
theorem a3_49 : AtJ method_2_code 49 (.if_icmp .ne) 52 54 := ⟨5, by decide +kernel, rfl, by decide, rfl⟩
theorem a3_52 : AtI method_2_code 52 (.iconst 1) 1 53 := ⟨by decide +kernel, rfl⟩
theorem a3_53 : AtI method_2_code 53 (.ireturn) 1 54 := ⟨by decide +kernel, rfl⟩
theorem a3_54 : AtI method_2_code 54 (.iload_n 0) 1 55 := ⟨by decide +kernel, rfl⟩
theorem a3_55 : AtI method_2_code 55 (.sipush 247) 3 58 := ⟨by decide +kernel, rfl⟩
theorem a3_58 : AtJ method_2_code 58 (.if_icmp .ne) 61 63 := ⟨5, by decide +kernel, rfl, by decide, rfl⟩
theorem a3_61 : AtI method_2_code 61 (.iconst 1) 1 62 := ⟨by decide +kernel, rfl⟩
theorem a3_62 : AtI method_2_code 62 (.ireturn) 1 63 := ⟨by decide +kernel, rfl⟩
theorem a3_63 : AtI method_2_code 63 (.iload_n 0) 1 64 := ⟨by decide +kernel, rfl⟩
theorem a3_64 : AtI method_2_code 64 (.sipush 768) 3 67 := ⟨by decide +kernel, rfl⟩
theorem a3_67 : AtJ method_2_code 67 (.if_icmp .lt) 70 79 := ⟨12, by decide +kernel, rfl, by decide, rfl⟩
theorem a3_70 : AtI method_2_code 70 (.iload_n 0) 1 71 := ⟨by decide +kernel, rfl⟩
theorem a3_71 : AtI method_2_code 71 (.sipush 879) 3 74 := ⟨by decide +kernel, rfl⟩
theorem a3_74 : AtJ method_2_code 74 (.if_icmp .gt) 77 79 := ⟨5, by decide +kernel, rfl, by decide, rfl⟩
theorem a3_77 : AtI method_2_code 77 (.iconst 1) 1 78 := ⟨by decide +kernel, rfl⟩
theorem a3_78 : AtI method_2_code 78 (.ireturn) 1 79 := ⟨by decide +kernel, rfl⟩
theorem a3_79 : AtI method_2_code 79 (.iload_n 0) 1 80 := ⟨by decide +kernel, rfl⟩
theorem a3_80 : AtI method_2_code 80 (.sipush 894) 3 83 := ⟨by decide +kernel, rfl⟩
theorem a3_83 : AtJ method_2_code 83 (.if_icmp .ne) 86 88 := ⟨5, by decide +kernel, rfl, by decide, rfl⟩
theorem a3_86 : AtI method_2_code 86 (.iconst 1) 1 87 := ⟨by decide +kernel, rfl⟩
theorem a3_87 : AtI method_2_code 87 (.ireturn) 1 88 := ⟨by decide +kernel, rfl⟩
theorem a3_88 : AtI method_2_code 88 (.iload_n 0) 1 89 := ⟨by decide +kernel, rfl⟩
theorem a3_89 : AtI method_2_code 89 (.sipush 8192) 3 92 := ⟨by decide +kernel, rfl⟩
theorem a3_92 : AtJ method_2_code 92 (.if_icmp .lt) 95 104 := ⟨12, by decide +kernel, rfl, by decide, rfl⟩
theorem a3_95 : AtI method_2_code 95 (.iload_n 0) 1 96 := ⟨by decide +kernel, rfl⟩
theorem a3_96 : AtI method_2_code 96 (.sipush 8203) 3 99 := ⟨by decide +kernel, rfl⟩
theorem a3_99 : AtJ method_2_code 99 (.if_icmp .gt) 102 104 := ⟨5, by decide +kernel, rfl, by decide, rfl⟩
theorem a3_102 : AtI method_2_code 102 (.iconst 1) 1 103 := ⟨by decide +kernel, rfl⟩
theorem a3_103 : AtI method_2_code 103 (.ireturn) 1 104 := ⟨by decide +kernel, rfl⟩
theorem a3_104 : AtI method_2_code 104 (.iload_n 0) 1 105 := ⟨by decide +kernel, rfl⟩
theorem a3_105 : AtI method_2_code 105 (.sipush 8206) 3 108 := ⟨by decide +kernel, rfl⟩
theorem a3_108 : AtJ method_2_code 108 (.if_icmp .lt) 111 120 := ⟨12, by decide +kernel, rfl, by decide, rfl⟩
theorem a3_111 : AtI method_2_code 111 (.iload_n 0) 1 112 := ⟨by decide +kernel, rfl⟩
theorem a3_112 : AtI method_2_code 112 (.sipush 8303) 3 115 := ⟨by decide +kernel, rfl⟩
theorem a3_115 : AtJ method_2_code 115 (.if_icmp .gt) 118 120 := ⟨5, by decide +kernel, rfl, by decide, rfl⟩
theorem a3_118 : AtI method_2_code 118 (.iconst 1) 1 119 := ⟨by decide +kernel, rfl⟩
theorem a3_119 : AtI method_2_code 119 (.ireturn) 1 120 := ⟨by decide +kernel, rfl⟩
theorem a3_120 : AtI method_2_code 120 (.iload_n 0) 1 121 := ⟨by decide +kernel, rfl⟩
theorem a3_121 : AtI method_2_code 121 (.sipush 8592) 3 124 := ⟨by decide +kernel, rfl⟩
theorem a3_124 : AtJ method_2_code 124 (.if_icmp .lt) 127 136 := ⟨12, by decide +kernel, rfl, by decide, rfl⟩
theorem a3_127 : AtI method_2_code 127 (.iload_n 0) 1 128 := ⟨by decide +kernel, rfl⟩
theorem a3_128 : AtI method_2_code 128 (.sipush 11263) 3 131 := ⟨by decide +kernel, rfl⟩
theorem a3_131 : AtJ method_2_code 131 (.if_icmp .gt) 134 136 := ⟨5, by decide +kernel, rfl, by decide, rfl⟩
theorem a3_134 : AtI method_2_code 134 (.iconst 1) 1 135 := ⟨by decide +kernel, rfl⟩
theorem a3_135 : AtI method_2_code 135 (.ireturn) 1 136 := ⟨by decide +kernel, rfl⟩
theorem a3_136 : AtI method_2_code 136 (.iload_n 0) 1 137 := ⟨by decide +kernel, rfl⟩
theorem a3_137 : AtI method_2_code 137 (.sipush 12272) 3 140 := ⟨by decide +kernel, rfl⟩
theorem a3_140 : AtJ method_2_code 140 (.if_icmp .lt) 143 152 := ⟨12, by decide +kernel, rfl, by decide, rfl⟩
theorem a3_143 : AtI method_2_code 143 (.iload_n 0) 1 144 := ⟨by decide +kernel, rfl⟩
theorem a3_144 : AtI method_2_code 144 (.sipush 12288) 3 147 := ⟨by decide +kernel, rfl⟩
theorem a3_147 : AtJ method_2_code 147 (.if_icmp .gt) 150 152 := ⟨5, by decide +kernel, rfl, by decide, rfl⟩
theorem a3_150 : AtI method_2_code 150 (.iconst 1) 1 151 := ⟨by decide +kernel, rfl⟩
theorem a3_151 : AtI method_2_code 151 (.ireturn) 1 152 := ⟨by decide +kernel, rfl⟩
theorem a3_152 : AtI method_2_code 152 (.iload_n 0) 1 153 := ⟨by decide +kernel, rfl⟩
theorem a3_153 : AtI method_2_code 153 (.ldc 7) 2 155 := ⟨by decide +kernel, rfl⟩
theorem a3_155 : AtJ method_2_code 155 (.if_icmp .lt) 158 166 := ⟨11, by decide +kernel, rfl, by decide, rfl⟩
theorem a3_158 : AtI method_2_code 158 (.iload_n 0) 1 159 := ⟨by decide +kernel, rfl⟩
theorem a3_159 : AtI method_2_code 159 (.ldc 8) 2 161 := ⟨by decide +kernel, rfl⟩
theorem a3_161 : AtJ method_2_code 161 (.if_icmp .gt) 164 166 := ⟨5, by decide +kernel, rfl, by decide, rfl⟩
theorem a3_164 : AtI method_2_code 164 (.iconst 1) 1 165 := ⟨by decide +kernel, rfl⟩
theorem a3_165 : AtI method_2_code 165 (.ireturn) 1 166 := ⟨by decide +kernel, rfl⟩
theorem a3_166 : AtI method_2_code 166 (.iload_n 0) 1 167 := ⟨by decide +kernel, rfl⟩
theorem a3_167 : AtI method_2_code 167 (.ldc 9) 2 169 := ⟨by decide +kernel, rfl⟩
theorem a3_169 : AtJ method_2_code 169 (.if_icmp .lt) 172 180 := ⟨11, by decide +kernel, rfl, by decide, rfl⟩
theorem a3_172 : AtI method_2_code 172 (.iload_n 0) 1 173 := ⟨by decide +kernel, rfl⟩
theorem a3_173 : AtI method_2_code 173 (.ldc 10) 2 175 := ⟨by decide +kernel, rfl⟩
theorem a3_175 : AtJ method_2_code 175 (.if_icmp .gt) 178 180 := ⟨5, by decide +kernel, rfl, by decide, rfl⟩
theorem a3_178 : AtI method_2_code 178 (.iconst 1) 1 179 := ⟨by decide +kernel, rfl⟩
theorem a3_179 : AtI method_2_code 179 (.ireturn) 1 180 := ⟨by decide +kernel, rfl⟩
theorem a3_180 : AtI method_2_code 180 (.iload_n 0) 1 181 := ⟨by decide +kernel, rfl⟩
theorem a3_181 : AtI method_2_code 181 (.ldc 11) 2 183 := ⟨by decide +kernel, rfl⟩
theorem a3_183 : AtJ method_2_code 183 (.if_icmp .lt) 186 194 := ⟨11, by decide +kernel, rfl, by decide, rfl⟩
theorem a3_186 : AtI method_2_code 186 (.iload_n 0) 1 187 := ⟨by decide +kernel, rfl⟩
theorem a3_187 : AtI method_2_code 187 (.ldc 12) 2 189 := ⟨by decide +kernel, rfl⟩
theorem a3_189 : AtJ method_2_code 189 (.if_icmp .gt) 192 194 := ⟨5, by decide +kernel, rfl, by decide, rfl⟩
theorem a3_192 : AtI method_2_code 192 (.iconst 1) 1 193 := ⟨by decide +kernel, rfl⟩
theorem a3_193 : AtI method_2_code 193 (.ireturn) 1 194 := ⟨by decide +kernel, rfl⟩
theorem a3_194 : AtI method_2_code 194 (.iload_n 0) 1 195 := ⟨by decide +kernel, rfl⟩
theorem a3_195 : AtI method_2_code 195 (.ldc 13) 2 197 := ⟨by decide +kernel, rfl⟩
theorem a3_197 : AtJ method_2_code 197 (.if_icmp .le) 200 202 := ⟨5, by decide +kernel, rfl, by decide, rfl⟩
theorem a3_200 : AtI method_2_code 200 (.iconst 1) 1 201 := ⟨by decide +kernel, rfl⟩
theorem a3_201 : AtI method_2_code 201 (.ireturn) 1 202 := ⟨by decide +kernel, rfl⟩
theorem a3_202 : AtI method_2_code 202 (.iconst 0) 1 203 := ⟨by decide +kernel, rfl⟩
theorem a3_203 : AtI method_2_code 203 (.ireturn) 1 204 := ⟨by decide +kernel, rfl⟩
theorem pd3 : parseMethodDescriptor "(I)Z" = some ⟨[.int], some .boolean⟩ := by decide +kernel
theorem pl3 : plainFor (⟨"com/example/treekeeper/treekeeper/xml/XmlCharsIsNameStartCharPinLaw", "excluded", "(I)Z"⟩ : MethodName) = true := plainFor_of_name (by first | (simp [plainName, overriddenIn]; done) | decide +kernel)
theorem ok3 {Z : State} {a0 : Array Value} (hw : ∀ d ∈ tables_1, d.before a0 Z = true) (ρ : Nat → Nat) (n0 j0 u0 : Nat) : WCallee Z a0 (⟨"com/example/treekeeper/treekeeper/xml/XmlCharsIsNameStartCharPinLaw", "excluded", "(I)Z"⟩ : MethodName) (g3 Z ρ n0 j0 u0) 1 :=
  ⟨pl3, (by decide), rfl, rfl, rfl, (hw _ (List.mem_of_getElem? (i := 12) rfl)), (hw _ (List.mem_of_getElem? (i := 23) rfl)), fun sig h => by cases pd3.symm.trans h; rfl⟩
abbrev g2 (Z : State) (ρ : Nat → Nat) (n0 j0 u0 : Nat) : WMC := ((Z, ρ, n0), ("com/example/treekeeper/treekeeper/xml/XmlChars", prog_121_method_4_code, "isNameStartChar", (some .boolean), 1), (j0, u0, 0, 0))
theorem a2_0 : AtI prog_121_method_4_code 0 (.iload_n 0) 1 1 := ⟨by decide +kernel, rfl⟩
theorem a2_1 : AtI prog_121_method_4_code 1 (.bipush 65) 2 3 := ⟨by decide +kernel, rfl⟩
theorem a2_3 : AtJ prog_121_method_4_code 3 (.if_icmp .lt) 6 12 := ⟨9, by decide +kernel, rfl, by decide, rfl⟩
theorem a2_6 : AtI prog_121_method_4_code 6 (.iload_n 0) 1 7 := ⟨by decide +kernel, rfl⟩
theorem a2_7 : AtI prog_121_method_4_code 7 (.bipush 90) 2 9 := ⟨by decide +kernel, rfl⟩
theorem a2_9 : AtJ prog_121_method_4_code 9 (.if_icmp .le) 12 191 := ⟨182, by decide +kernel, rfl, by decide, rfl⟩
theorem a2_12 : AtI prog_121_method_4_code 12 (.iload_n 0) 1 13 := ⟨by decide +kernel, rfl⟩
theorem a2_13 : AtI prog_121_method_4_code 13 (.bipush 97) 2 15 := ⟨by decide +kernel, rfl⟩
theorem a2_15 : AtJ prog_121_method_4_code 15 (.if_icmp .lt) 18 24 := ⟨9, by decide +kernel, rfl, by decide, rfl⟩
theorem a2_18 : AtI prog_121_method_4_code 18 (.iload_n 0) 1 19 := ⟨by decide +kernel, rfl⟩
theorem a2_19 : AtI prog_121_method_4_code 19 (.bipush 122) 2 21 := ⟨by decide +kernel, rfl⟩
theorem a2_21 : AtJ prog_121_method_4_code 21 (.if_icmp .le) 24 191 := ⟨170, by decide +kernel, rfl, by decide, rfl⟩
theorem a2_24 : AtI prog_121_method_4_code 24 (.iload_n 0) 1 25 := ⟨by decide +kernel, rfl⟩
theorem a2_25 : AtI prog_121_method_4_code 25 (.bipush 95) 2 27 := ⟨by decide +kernel, rfl⟩
theorem a2_27 : AtJ prog_121_method_4_code 27 (.if_icmp .eq) 30 191 := ⟨164, by decide +kernel, rfl, by decide, rfl⟩
theorem a2_30 : AtI prog_121_method_4_code 30 (.iload_n 0) 1 31 := ⟨by decide +kernel, rfl⟩
theorem a2_31 : AtI prog_121_method_4_code 31 (.sipush 192) 3 34 := ⟨by decide +kernel, rfl⟩
theorem a2_34 : AtJ prog_121_method_4_code 34 (.if_icmp .lt) 37 44 := ⟨10, by decide +kernel, rfl, by decide, rfl⟩
theorem a2_37 : AtI prog_121_method_4_code 37 (.iload_n 0) 1 38 := ⟨by decide +kernel, rfl⟩
theorem a2_38 : AtI prog_121_method_4_code 38 (.sipush 214) 3 41 := ⟨by decide +kernel, rfl⟩
theorem a2_41 : AtJ prog_121_method_4_code 41 (.if_icmp .le) 44 191 := ⟨150, by decide +kernel, rfl, by decide, rfl⟩
theorem a2_44 : AtI prog_121_method_4_code 44 (.iload_n 0) 1 45 := ⟨by decide +kernel, rfl⟩
theorem a2_45 : AtI prog_121_method_4_code 45 (.sipush 216) 3 48 := ⟨by decide +kernel, rfl⟩
theorem a2_48 : AtJ prog_121_method_4_code 48 (.if_icmp .lt) 51 58 := ⟨10, by decide +kernel, rfl, by decide, rfl⟩
theorem a2_51 : AtI prog_121_method_4_code 51 (.iload_n 0) 1 52 := ⟨by decide +kernel, rfl⟩
theorem a2_52 : AtI prog_121_method_4_code 52 (.sipush 246) 3 55 := ⟨by decide +kernel, rfl⟩
theorem a2_55 : AtJ prog_121_method_4_code 55 (.if_icmp .le) 58 191 := ⟨136, by decide +kernel, rfl, by decide, rfl⟩
theorem a2_58 : AtI prog_121_method_4_code 58 (.iload_n 0) 1 59 := ⟨by decide +kernel, rfl⟩
theorem a2_59 : AtI prog_121_method_4_code 59 (.sipush 248) 3 62 := ⟨by decide +kernel, rfl⟩
theorem a2_62 : AtJ prog_121_method_4_code 62 (.if_icmp .lt) 65 72 := ⟨10, by decide +kernel, rfl, by decide, rfl⟩
theorem a2_65 : AtI prog_121_method_4_code 65 (.iload_n 0) 1 66 := ⟨by decide +kernel, rfl⟩
theorem a2_66 : AtI prog_121_method_4_code 66 (.sipush 767) 3 69 := ⟨by decide +kernel, rfl⟩
theorem a2_69 : AtJ prog_121_method_4_code 69 (.if_icmp .le) 72 191 := ⟨122, by decide +kernel, rfl, by decide, rfl⟩
theorem a2_72 : AtI prog_121_method_4_code 72 (.iload_n 0) 1 73 := ⟨by decide +kernel, rfl⟩
theorem a2_73 : AtI prog_121_method_4_code 73 (.sipush 880) 3 76 := ⟨by decide +kernel, rfl⟩
theorem a2_76 : AtJ prog_121_method_4_code 76 (.if_icmp .lt) 79 86 := ⟨10, by decide +kernel, rfl, by decide, rfl⟩
theorem a2_79 : AtI prog_121_method_4_code 79 (.iload_n 0) 1 80 := ⟨by decide +kernel, rfl⟩
theorem a2_80 : AtI prog_121_method_4_code 80 (.sipush 893) 3 83 := ⟨by decide +kernel, rfl⟩
theorem a2_83 : AtJ prog_121_method_4_code 83 (.if_icmp .le) 86 191 := ⟨108, by decide +kernel, rfl, by decide, rfl⟩
theorem a2_86 : AtI prog_121_method_4_code 86 (.iload_n 0) 1 87 := ⟨by decide +kernel, rfl⟩
theorem a2_87 : AtI prog_121_method_4_code 87 (.sipush 895) 3 90 := ⟨by decide +kernel, rfl⟩
theorem a2_90 : AtJ prog_121_method_4_code 90 (.if_icmp .lt) 93 100 := ⟨10, by decide +kernel, rfl, by decide, rfl⟩
theorem a2_93 : AtI prog_121_method_4_code 93 (.iload_n 0) 1 94 := ⟨by decide +kernel, rfl⟩
theorem a2_94 : AtI prog_121_method_4_code 94 (.sipush 8191) 3 97 := ⟨by decide +kernel, rfl⟩
theorem a2_97 : AtJ prog_121_method_4_code 97 (.if_icmp .le) 100 191 := ⟨94, by decide +kernel, rfl, by decide, rfl⟩
theorem a2_100 : AtI prog_121_method_4_code 100 (.iload_n 0) 1 101 := ⟨by decide +kernel, rfl⟩
theorem a2_101 : AtI prog_121_method_4_code 101 (.sipush 8204) 3 104 := ⟨by decide +kernel, rfl⟩
theorem a2_104 : AtJ prog_121_method_4_code 104 (.if_icmp .lt) 107 114 := ⟨10, by decide +kernel, rfl, by decide, rfl⟩
theorem a2_107 : AtI prog_121_method_4_code 107 (.iload_n 0) 1 108 := ⟨by decide +kernel, rfl⟩
theorem a2_108 : AtI prog_121_method_4_code 108 (.sipush 8205) 3 111 := ⟨by decide +kernel, rfl⟩
theorem a2_111 : AtJ prog_121_method_4_code 111 (.if_icmp .le) 114 191 := ⟨80, by decide +kernel, rfl, by decide, rfl⟩
theorem a2_114 : AtI prog_121_method_4_code 114 (.iload_n 0) 1 115 := ⟨by decide +kernel, rfl⟩
theorem a2_115 : AtI prog_121_method_4_code 115 (.sipush 8304) 3 118 := ⟨by decide +kernel, rfl⟩
theorem a2_118 : AtJ prog_121_method_4_code 118 (.if_icmp .lt) 121 128 := ⟨10, by decide +kernel, rfl, by decide, rfl⟩
theorem a2_121 : AtI prog_121_method_4_code 121 (.iload_n 0) 1 122 := ⟨by decide +kernel, rfl⟩
theorem a2_122 : AtI prog_121_method_4_code 122 (.sipush 8591) 3 125 := ⟨by decide +kernel, rfl⟩
theorem a2_125 : AtJ prog_121_method_4_code 125 (.if_icmp .le) 128 191 := ⟨66, by decide +kernel, rfl, by decide, rfl⟩
theorem a2_128 : AtI prog_121_method_4_code 128 (.iload_n 0) 1 129 := ⟨by decide +kernel, rfl⟩
theorem a2_129 : AtI prog_121_method_4_code 129 (.sipush 11264) 3 132 := ⟨by decide +kernel, rfl⟩
theorem a2_132 : AtJ prog_121_method_4_code 132 (.if_icmp .lt) 135 142 := ⟨10, by decide +kernel, rfl, by decide, rfl⟩
theorem a2_135 : AtI prog_121_method_4_code 135 (.iload_n 0) 1 136 := ⟨by decide +kernel, rfl⟩
theorem a2_136 : AtI prog_121_method_4_code 136 (.sipush 12271) 3 139 := ⟨by decide +kernel, rfl⟩
theorem a2_139 : AtJ prog_121_method_4_code 139 (.if_icmp .le) 142 191 := ⟨52, by decide +kernel, rfl, by decide, rfl⟩
theorem a2_142 : AtI prog_121_method_4_code 142 (.iload_n 0) 1 143 := ⟨by decide +kernel, rfl⟩
theorem a2_143 : AtI prog_121_method_4_code 143 (.sipush 12289) 3 146 := ⟨by decide +kernel, rfl⟩
theorem a2_146 : AtJ prog_121_method_4_code 146 (.if_icmp .lt) 149 155 := ⟨9, by decide +kernel, rfl, by decide, rfl⟩
theorem a2_149 : AtI prog_121_method_4_code 149 (.iload_n 0) 1 150 := ⟨by decide +kernel, rfl⟩
theorem a2_150 : AtI prog_121_method_4_code 150 (.ldc 7) 2 152 := ⟨by decide +kernel, rfl⟩
theorem a2_152 : AtJ prog_121_method_4_code 152 (.if_icmp .le) 155 191 := ⟨39, by decide +kernel, rfl, by decide, rfl⟩
theorem a2_155 : AtI prog_121_method_4_code 155 (.iload_n 0) 1 156 := ⟨by decide +kernel, rfl⟩
theorem a2_156 : AtI prog_121_method_4_code 156 (.ldc 12) 2 158 := ⟨by decide +kernel, rfl⟩
theorem a2_158 : AtJ prog_121_method_4_code 158 (.if_icmp .lt) 161 167 := ⟨9, by decide +kernel, rfl, by decide, rfl⟩
theorem a2_161 : AtI prog_121_method_4_code 161 (.iload_n 0) 1 162 := ⟨by decide +kernel, rfl⟩
theorem a2_162 : AtI prog_121_method_4_code 162 (.ldc 13) 2 164 := ⟨by decide +kernel, rfl⟩
theorem a2_164 : AtJ prog_121_method_4_code 164 (.if_icmp .le) 167 191 := ⟨27, by decide +kernel, rfl, by decide, rfl⟩
theorem a2_167 : AtI prog_121_method_4_code 167 (.iload_n 0) 1 168 := ⟨by decide +kernel, rfl⟩
theorem a2_168 : AtI prog_121_method_4_code 168 (.ldc 14) 2 170 := ⟨by decide +kernel, rfl⟩
theorem a2_170 : AtJ prog_121_method_4_code 170 (.if_icmp .lt) 173 179 := ⟨9, by decide +kernel, rfl, by decide, rfl⟩
theorem a2_173 : AtI prog_121_method_4_code 173 (.iload_n 0) 1 174 := ⟨by decide +kernel, rfl⟩
theorem a2_174 : AtI prog_121_method_4_code 174 (.ldc 9) 2 176 := ⟨by decide +kernel, rfl⟩
theorem a2_176 : AtJ prog_121_method_4_code 176 (.if_icmp .le) 179 191 := ⟨15, by decide +kernel, rfl, by decide, rfl⟩
theorem a2_179 : AtI prog_121_method_4_code 179 (.iload_n 0) 1 180 := ⟨by decide +kernel, rfl⟩
theorem a2_180 : AtI prog_121_method_4_code 180 (.ldc 10) 2 182 := ⟨by decide +kernel, rfl⟩
theorem a2_182 : AtJ prog_121_method_4_code 182 (.if_icmp .lt) 185 195 := ⟨13, by decide +kernel, rfl, by decide, rfl⟩
theorem a2_185 : AtI prog_121_method_4_code 185 (.iload_n 0) 1 186 := ⟨by decide +kernel, rfl⟩
theorem a2_186 : AtI prog_121_method_4_code 186 (.ldc 15) 2 188 := ⟨by decide +kernel, rfl⟩
theorem a2_188 : AtJ prog_121_method_4_code 188 (.if_icmp .gt) 191 195 := ⟨7, by decide +kernel, rfl, by decide, rfl⟩
theorem a2_191 : AtI prog_121_method_4_code 191 (.iconst 1) 1 192 := ⟨by decide +kernel, rfl⟩
theorem a2_192 : AtJ prog_121_method_4_code 192 (.goto) 195 196 := ⟨4, by decide +kernel, rfl, by decide, rfl⟩
theorem a2_195 : AtI prog_121_method_4_code 195 (.iconst 0) 1 196 := ⟨by decide +kernel, rfl⟩
theorem a2_196 : AtI prog_121_method_4_code 196 (.ireturn) 1 197 := ⟨by decide +kernel, rfl⟩
theorem pd2 : parseMethodDescriptor "(I)Z" = some ⟨[.int], some .boolean⟩ := by decide +kernel
theorem pl2 : plainFor (⟨"com/example/treekeeper/treekeeper/xml/XmlChars", "isNameStartChar", "(I)Z"⟩ : MethodName) = true := plainFor_of_name (by first | (simp [plainName, overriddenIn]; done) | decide +kernel)
theorem ok2 {Z : State} {a0 : Array Value} (hw : ∀ d ∈ tables_1, d.before a0 Z = true) (ρ : Nat → Nat) (n0 j0 u0 : Nat) : WCallee Z a0 (⟨"com/example/treekeeper/treekeeper/xml/XmlChars", "isNameStartChar", "(I)Z"⟩ : MethodName) (g2 Z ρ n0 j0 u0) 1 :=
  ⟨pl2, (by decide), rfl, rfl, rfl, (hw _ (List.mem_of_getElem? (i := 16) rfl)), (hw _ (List.mem_of_getElem? (i := 17) rfl)), fun sig h => by cases pd2.symm.trans h; rfl⟩
abbrev g1 (Z : State) (ρ : Nat → Nat) (n0 j0 u0 : Nat) : WMC := ((Z, ρ, n0), ("com/example/treekeeper/treekeeper/xml/XmlCharsIsNameStartCharPinLaw", method_3_code, "check", (some .boolean), 2), (j0, u0, 1, 13))
theorem a1_0 : AtI method_3_code 0 (.iload_n 0) 1 1 := ⟨by decide +kernel, rfl⟩
theorem a1_1 : AtI method_3_code 1 (.invokestatic 14) 3 4 := ⟨by decide +kernel, rfl⟩
theorem a1_4 : AtI method_3_code 4 (.istore_n 1) 1 5 := ⟨by decide +kernel, rfl⟩
theorem a1_5 : AtI method_3_code 5 (.iload_n 1) 1 6 := ⟨by decide +kernel, rfl⟩
theorem a1_6 : AtI method_3_code 6 (.iload_n 0) 1 7 := ⟨by decide +kernel, rfl⟩
theorem a1_7 : AtI method_3_code 7 (.invokestatic 20) 3 10 := ⟨by decide +kernel, rfl⟩
theorem a1_10 : AtJ method_3_code 10 (.ifCond .ne) 13 17 := ⟨7, by decide +kernel, rfl, by decide, rfl⟩
theorem a1_13 : AtI method_3_code 13 (.iconst 1) 1 14 := ⟨by decide +kernel, rfl⟩
theorem a1_14 : AtJ method_3_code 14 (.goto) 17 18 := ⟨4, by decide +kernel, rfl, by decide, rfl⟩
theorem a1_17 : AtI method_3_code 17 (.iconst 0) 1 18 := ⟨by decide +kernel, rfl⟩
theorem a1_18 : AtJ method_3_code 18 (.if_icmp .eq) 21 23 := ⟨5, by decide +kernel, rfl, by decide, rfl⟩
theorem a1_21 : AtI method_3_code 21 (.iconst 0) 1 22 := ⟨by decide +kernel, rfl⟩
theorem a1_22 : AtI method_3_code 22 (.ireturn) 1 23 := ⟨by decide +kernel, rfl⟩
theorem a1_23 : AtI method_3_code 23 (.iload_n 1) 1 24 := ⟨by decide +kernel, rfl⟩
theorem a1_24 : AtJ method_3_code 24 (.ifCond .eq) 27 36 := ⟨12, by decide +kernel, rfl, by decide, rfl⟩
theorem a1_27 : AtI method_3_code 27 (.iload_n 0) 1 28 := ⟨by decide +kernel, rfl⟩
theorem a1_28 : AtI method_3_code 28 (.invokestatic 25) 3 31 := ⟨by decide +kernel, rfl⟩
theorem a1_31 : AtJ method_3_code 31 (.ifCond .ne) 34 36 := ⟨5, by decide +kernel, rfl, by decide, rfl⟩
theorem a1_34 : AtI method_3_code 34 (.iconst 0) 1 35 := ⟨by decide +kernel, rfl⟩
theorem a1_35 : AtI method_3_code 35 (.ireturn) 1 36 := ⟨by decide +kernel, rfl⟩
theorem a1_36 : AtI method_3_code 36 (.iconst 1) 1 37 := ⟨by decide +kernel, rfl⟩
theorem a1_37 : AtI method_3_code 37 (.ireturn) 1 38 := ⟨by decide +kernel, rfl⟩
theorem pd1 : parseMethodDescriptor "(I)Z" = some ⟨[.int], some .boolean⟩ := by decide +kernel
theorem pl1 : plainFor (⟨"com/example/treekeeper/treekeeper/xml/XmlCharsIsNameStartCharPinLaw", "check", "(I)Z"⟩ : MethodName) = true := plainFor_of_name (by first | (simp [plainName, overriddenIn]; done) | decide +kernel)
theorem ok1 {Z : State} {a0 : Array Value} (hw : ∀ d ∈ tables_1, d.before a0 Z = true) (ρ : Nat → Nat) (n0 j0 u0 : Nat) : WCallee Z a0 (⟨"com/example/treekeeper/treekeeper/xml/XmlCharsIsNameStartCharPinLaw", "check", "(I)Z"⟩ : MethodName) (g1 Z ρ n0 j0 u0) 1 :=
  ⟨pl1, (by decide), rfl, rfl, rfl, (hw _ (List.mem_of_getElem? (i := 12) rfl)), (hw _ (List.mem_of_getElem? (i := 13) rfl)), fun sig h => by cases pd1.symm.trans h; rfl⟩
abbrev g0 (Z : State) (ρ : Nat → Nat) (n0 j0 u0 : Nat) : WMC := ((Z, ρ, n0), ("com/example/treekeeper/treekeeper/xml/XmlCharsIsNameStartCharPinLaw", code, "law", ret, maxLocals), (j0, u0, 5, 128))
theorem a0_0 : AtI code 0 (.bipush 32) 2 2 := ⟨by decide +kernel, rfl⟩
theorem a0_2 : AtI code 2 (.newarray .int) 2 4 := ⟨by decide +kernel, rfl⟩
theorem a0_4 : AtI code 4 (.dup) 1 5 := ⟨by decide +kernel, rfl⟩
theorem a0_5 : AtI code 5 (.iconst 0) 1 6 := ⟨by decide +kernel, rfl⟩
theorem a0_6 : AtI code 6 (.bipush 65) 2 8 := ⟨by decide +kernel, rfl⟩
theorem a0_8 : AtI code 8 (.iastore) 1 9 := ⟨by decide +kernel, rfl⟩
theorem a0_9 : AtI code 9 (.dup) 1 10 := ⟨by decide +kernel, rfl⟩
theorem a0_10 : AtI code 10 (.iconst 1) 1 11 := ⟨by decide +kernel, rfl⟩
theorem a0_11 : AtI code 11 (.bipush 90) 2 13 := ⟨by decide +kernel, rfl⟩
theorem a0_13 : AtI code 13 (.iastore) 1 14 := ⟨by decide +kernel, rfl⟩
theorem a0_14 : AtI code 14 (.dup) 1 15 := ⟨by decide +kernel, rfl⟩
theorem a0_15 : AtI code 15 (.iconst 2) 1 16 := ⟨by decide +kernel, rfl⟩
theorem a0_16 : AtI code 16 (.bipush 95) 2 18 := ⟨by decide +kernel, rfl⟩
theorem a0_18 : AtI code 18 (.iastore) 1 19 := ⟨by decide +kernel, rfl⟩
theorem a0_19 : AtI code 19 (.dup) 1 20 := ⟨by decide +kernel, rfl⟩
theorem a0_20 : AtI code 20 (.iconst 3) 1 21 := ⟨by decide +kernel, rfl⟩
theorem a0_21 : AtI code 21 (.bipush 97) 2 23 := ⟨by decide +kernel, rfl⟩
theorem a0_23 : AtI code 23 (.iastore) 1 24 := ⟨by decide +kernel, rfl⟩
theorem a0_24 : AtI code 24 (.dup) 1 25 := ⟨by decide +kernel, rfl⟩
theorem a0_25 : AtI code 25 (.iconst 4) 1 26 := ⟨by decide +kernel, rfl⟩
theorem a0_26 : AtI code 26 (.bipush 122) 2 28 := ⟨by decide +kernel, rfl⟩
theorem a0_28 : AtI code 28 (.iastore) 1 29 := ⟨by decide +kernel, rfl⟩
theorem a0_29 : AtI code 29 (.dup) 1 30 := ⟨by decide +kernel, rfl⟩
theorem a0_30 : AtI code 30 (.iconst 5) 1 31 := ⟨by decide +kernel, rfl⟩
theorem a0_31 : AtI code 31 (.sipush 192) 3 34 := ⟨by decide +kernel, rfl⟩
theorem a0_34 : AtI code 34 (.iastore) 1 35 := ⟨by decide +kernel, rfl⟩
theorem a0_35 : AtI code 35 (.dup) 1 36 := ⟨by decide +kernel, rfl⟩
theorem a0_36 : AtI code 36 (.bipush 6) 2 38 := ⟨by decide +kernel, rfl⟩
theorem a0_38 : AtI code 38 (.sipush 214) 3 41 := ⟨by decide +kernel, rfl⟩
theorem a0_41 : AtI code 41 (.iastore) 1 42 := ⟨by decide +kernel, rfl⟩
theorem a0_42 : AtI code 42 (.dup) 1 43 := ⟨by decide +kernel, rfl⟩
theorem a0_43 : AtI code 43 (.bipush 7) 2 45 := ⟨by decide +kernel, rfl⟩
theorem a0_45 : AtI code 45 (.sipush 216) 3 48 := ⟨by decide +kernel, rfl⟩
theorem a0_48 : AtI code 48 (.iastore) 1 49 := ⟨by decide +kernel, rfl⟩
theorem a0_49 : AtI code 49 (.dup) 1 50 := ⟨by decide +kernel, rfl⟩
theorem a0_50 : AtI code 50 (.bipush 8) 2 52 := ⟨by decide +kernel, rfl⟩
theorem a0_52 : AtI code 52 (.sipush 246) 3 55 := ⟨by decide +kernel, rfl⟩
theorem a0_55 : AtI code 55 (.iastore) 1 56 := ⟨by decide +kernel, rfl⟩
theorem a0_56 : AtI code 56 (.dup) 1 57 := ⟨by decide +kernel, rfl⟩
theorem a0_57 : AtI code 57 (.bipush 9) 2 59 := ⟨by decide +kernel, rfl⟩
theorem a0_59 : AtI code 59 (.sipush 248) 3 62 := ⟨by decide +kernel, rfl⟩
theorem a0_62 : AtI code 62 (.iastore) 1 63 := ⟨by decide +kernel, rfl⟩
theorem a0_63 : AtI code 63 (.dup) 1 64 := ⟨by decide +kernel, rfl⟩
theorem a0_64 : AtI code 64 (.bipush 10) 2 66 := ⟨by decide +kernel, rfl⟩
theorem a0_66 : AtI code 66 (.sipush 767) 3 69 := ⟨by decide +kernel, rfl⟩
theorem a0_69 : AtI code 69 (.iastore) 1 70 := ⟨by decide +kernel, rfl⟩
theorem a0_70 : AtI code 70 (.dup) 1 71 := ⟨by decide +kernel, rfl⟩
theorem a0_71 : AtI code 71 (.bipush 11) 2 73 := ⟨by decide +kernel, rfl⟩
theorem a0_73 : AtI code 73 (.sipush 880) 3 76 := ⟨by decide +kernel, rfl⟩
theorem a0_76 : AtI code 76 (.iastore) 1 77 := ⟨by decide +kernel, rfl⟩
theorem a0_77 : AtI code 77 (.dup) 1 78 := ⟨by decide +kernel, rfl⟩
theorem a0_78 : AtI code 78 (.bipush 12) 2 80 := ⟨by decide +kernel, rfl⟩
theorem a0_80 : AtI code 80 (.sipush 893) 3 83 := ⟨by decide +kernel, rfl⟩
theorem a0_83 : AtI code 83 (.iastore) 1 84 := ⟨by decide +kernel, rfl⟩
theorem a0_84 : AtI code 84 (.dup) 1 85 := ⟨by decide +kernel, rfl⟩
theorem a0_85 : AtI code 85 (.bipush 13) 2 87 := ⟨by decide +kernel, rfl⟩
theorem a0_87 : AtI code 87 (.sipush 895) 3 90 := ⟨by decide +kernel, rfl⟩
theorem a0_90 : AtI code 90 (.iastore) 1 91 := ⟨by decide +kernel, rfl⟩
theorem a0_91 : AtI code 91 (.dup) 1 92 := ⟨by decide +kernel, rfl⟩
theorem a0_92 : AtI code 92 (.bipush 14) 2 94 := ⟨by decide +kernel, rfl⟩
theorem a0_94 : AtI code 94 (.sipush 8191) 3 97 := ⟨by decide +kernel, rfl⟩
theorem a0_97 : AtI code 97 (.iastore) 1 98 := ⟨by decide +kernel, rfl⟩
theorem a0_98 : AtI code 98 (.dup) 1 99 := ⟨by decide +kernel, rfl⟩
theorem a0_99 : AtI code 99 (.bipush 15) 2 101 := ⟨by decide +kernel, rfl⟩
theorem a0_101 : AtI code 101 (.sipush 8204) 3 104 := ⟨by decide +kernel, rfl⟩
theorem a0_104 : AtI code 104 (.iastore) 1 105 := ⟨by decide +kernel, rfl⟩
theorem a0_105 : AtI code 105 (.dup) 1 106 := ⟨by decide +kernel, rfl⟩
theorem a0_106 : AtI code 106 (.bipush 16) 2 108 := ⟨by decide +kernel, rfl⟩
theorem a0_108 : AtI code 108 (.sipush 8205) 3 111 := ⟨by decide +kernel, rfl⟩
theorem a0_111 : AtI code 111 (.iastore) 1 112 := ⟨by decide +kernel, rfl⟩
theorem a0_112 : AtI code 112 (.dup) 1 113 := ⟨by decide +kernel, rfl⟩
theorem a0_113 : AtI code 113 (.bipush 17) 2 115 := ⟨by decide +kernel, rfl⟩
theorem a0_115 : AtI code 115 (.sipush 8304) 3 118 := ⟨by decide +kernel, rfl⟩
theorem a0_118 : AtI code 118 (.iastore) 1 119 := ⟨by decide +kernel, rfl⟩
theorem a0_119 : AtI code 119 (.dup) 1 120 := ⟨by decide +kernel, rfl⟩
theorem a0_120 : AtI code 120 (.bipush 18) 2 122 := ⟨by decide +kernel, rfl⟩
theorem a0_122 : AtI code 122 (.sipush 8591) 3 125 := ⟨by decide +kernel, rfl⟩
theorem a0_125 : AtI code 125 (.iastore) 1 126 := ⟨by decide +kernel, rfl⟩
theorem a0_126 : AtI code 126 (.dup) 1 127 := ⟨by decide +kernel, rfl⟩
theorem a0_127 : AtI code 127 (.bipush 19) 2 129 := ⟨by decide +kernel, rfl⟩
theorem a0_129 : AtI code 129 (.sipush 11264) 3 132 := ⟨by decide +kernel, rfl⟩
theorem a0_132 : AtI code 132 (.iastore) 1 133 := ⟨by decide +kernel, rfl⟩
theorem a0_133 : AtI code 133 (.dup) 1 134 := ⟨by decide +kernel, rfl⟩
theorem a0_134 : AtI code 134 (.bipush 20) 2 136 := ⟨by decide +kernel, rfl⟩
theorem a0_136 : AtI code 136 (.sipush 12271) 3 139 := ⟨by decide +kernel, rfl⟩
theorem a0_139 : AtI code 139 (.iastore) 1 140 := ⟨by decide +kernel, rfl⟩
theorem a0_140 : AtI code 140 (.dup) 1 141 := ⟨by decide +kernel, rfl⟩
theorem a0_141 : AtI code 141 (.bipush 21) 2 143 := ⟨by decide +kernel, rfl⟩
theorem a0_143 : AtI code 143 (.sipush 12289) 3 146 := ⟨by decide +kernel, rfl⟩
theorem a0_146 : AtI code 146 (.iastore) 1 147 := ⟨by decide +kernel, rfl⟩
theorem a0_147 : AtI code 147 (.dup) 1 148 := ⟨by decide +kernel, rfl⟩
theorem a0_148 : AtI code 148 (.bipush 22) 2 150 := ⟨by decide +kernel, rfl⟩
theorem a0_150 : AtI code 150 (.ldc 28) 2 152 := ⟨by decide +kernel, rfl⟩
theorem a0_152 : AtI code 152 (.iastore) 1 153 := ⟨by decide +kernel, rfl⟩
theorem a0_153 : AtI code 153 (.dup) 1 154 := ⟨by decide +kernel, rfl⟩
theorem a0_154 : AtI code 154 (.bipush 23) 2 156 := ⟨by decide +kernel, rfl⟩
theorem a0_156 : AtI code 156 (.ldc 29) 2 158 := ⟨by decide +kernel, rfl⟩
theorem a0_158 : AtI code 158 (.iastore) 1 159 := ⟨by decide +kernel, rfl⟩
theorem a0_159 : AtI code 159 (.dup) 1 160 := ⟨by decide +kernel, rfl⟩
theorem a0_160 : AtI code 160 (.bipush 24) 2 162 := ⟨by decide +kernel, rfl⟩
theorem a0_162 : AtI code 162 (.ldc 30) 2 164 := ⟨by decide +kernel, rfl⟩
theorem a0_164 : AtI code 164 (.iastore) 1 165 := ⟨by decide +kernel, rfl⟩
theorem a0_165 : AtI code 165 (.dup) 1 166 := ⟨by decide +kernel, rfl⟩
theorem a0_166 : AtI code 166 (.bipush 25) 2 168 := ⟨by decide +kernel, rfl⟩
theorem a0_168 : AtI code 168 (.ldc 31) 2 170 := ⟨by decide +kernel, rfl⟩
theorem a0_170 : AtI code 170 (.iastore) 1 171 := ⟨by decide +kernel, rfl⟩
theorem a0_171 : AtI code 171 (.dup) 1 172 := ⟨by decide +kernel, rfl⟩
theorem a0_172 : AtI code 172 (.bipush 26) 2 174 := ⟨by decide +kernel, rfl⟩
theorem a0_174 : AtI code 174 (.ldc 32) 2 176 := ⟨by decide +kernel, rfl⟩
theorem a0_176 : AtI code 176 (.iastore) 1 177 := ⟨by decide +kernel, rfl⟩
theorem a0_177 : AtI code 177 (.dup) 1 178 := ⟨by decide +kernel, rfl⟩
theorem a0_178 : AtI code 178 (.bipush 27) 2 180 := ⟨by decide +kernel, rfl⟩
theorem a0_180 : AtI code 180 (.ldc 33) 2 182 := ⟨by decide +kernel, rfl⟩
theorem a0_182 : AtI code 182 (.iastore) 1 183 := ⟨by decide +kernel, rfl⟩
theorem a0_183 : AtI code 183 (.dup) 1 184 := ⟨by decide +kernel, rfl⟩
theorem a0_184 : AtI code 184 (.bipush 28) 2 186 := ⟨by decide +kernel, rfl⟩
theorem a0_186 : AtI code 186 (.ldc 13) 2 188 := ⟨by decide +kernel, rfl⟩
theorem a0_188 : AtI code 188 (.iastore) 1 189 := ⟨by decide +kernel, rfl⟩
theorem a0_189 : AtI code 189 (.dup) 1 190 := ⟨by decide +kernel, rfl⟩
theorem a0_190 : AtI code 190 (.bipush 29) 2 192 := ⟨by decide +kernel, rfl⟩
theorem a0_192 : AtI code 192 (.iconst 0) 1 193 := ⟨by decide +kernel, rfl⟩
theorem a0_193 : AtI code 193 (.iastore) 1 194 := ⟨by decide +kernel, rfl⟩
theorem a0_194 : AtI code 194 (.dup) 1 195 := ⟨by decide +kernel, rfl⟩
theorem a0_195 : AtI code 195 (.bipush 30) 2 197 := ⟨by decide +kernel, rfl⟩
theorem a0_197 : AtI code 197 (.ldc 36) 2 199 := ⟨by decide +kernel, rfl⟩
theorem a0_199 : AtI code 199 (.iastore) 1 200 := ⟨by decide +kernel, rfl⟩
theorem a0_200 : AtI code 200 (.dup) 1 201 := ⟨by decide +kernel, rfl⟩
theorem a0_201 : AtI code 201 (.bipush 31) 2 203 := ⟨by decide +kernel, rfl⟩
theorem a0_203 : AtI code 203 (.ldc 37) 2 205 := ⟨by decide +kernel, rfl⟩
theorem a0_205 : AtI code 205 (.iastore) 1 206 := ⟨by decide +kernel, rfl⟩
theorem a0_206 : AtI code 206 (.astore_n 3) 1 207 := ⟨by decide +kernel, rfl⟩
theorem a0_207 : AtI code 207 (.iload_n 2) 1 208 := ⟨by decide +kernel, rfl⟩
theorem a0_208 : AtI code 208 (.iconst 3) 1 209 := ⟨by decide +kernel, rfl⟩
theorem a0_209 : AtI code 209 (.iand) 1 210 := ⟨by decide +kernel, rfl⟩
theorem a0_210 : AtI code 210 (.iconst 1) 1 211 := ⟨by decide +kernel, rfl⟩
theorem a0_211 : AtI code 211 (.isub) 1 212 := ⟨by decide +kernel, rfl⟩
theorem a0_212 : AtI code 212 (.istore 4) 2 214 := ⟨by decide +kernel, rfl⟩
theorem a0_214 : AtI code 214 (.aload_n 3) 1 215 := ⟨by decide +kernel, rfl⟩
theorem a0_215 : AtI code 215 (.iload_n 1) 1 216 := ⟨by decide +kernel, rfl⟩
theorem a0_216 : AtI code 216 (.bipush 31) 2 218 := ⟨by decide +kernel, rfl⟩
theorem a0_218 : AtI code 218 (.iand) 1 219 := ⟨by decide +kernel, rfl⟩
theorem a0_219 : AtI code 219 (.iaload) 1 220 := ⟨by decide +kernel, rfl⟩
theorem a0_220 : AtI code 220 (.iload 4) 2 222 := ⟨by decide +kernel, rfl⟩
theorem a0_222 : AtI code 222 (.iadd) 1 223 := ⟨by decide +kernel, rfl⟩
theorem a0_223 : AtI code 223 (.istore 5) 2 225 := ⟨by decide +kernel, rfl⟩
theorem a0_225 : AtI code 225 (.iload_n 0) 1 226 := ⟨by decide +kernel, rfl⟩
theorem a0_226 : AtI code 226 (.invokestatic 38) 3 229 := ⟨by decide +kernel, rfl⟩
theorem a0_229 : AtJ code 229 (.ifCond .eq) 232 244 := ⟨15, by decide +kernel, rfl, by decide, rfl⟩
theorem a0_232 : AtI code 232 (.iload 5) 2 234 := ⟨by decide +kernel, rfl⟩
theorem a0_234 : AtI code 234 (.invokestatic 38) 3 237 := ⟨by decide +kernel, rfl⟩
theorem a0_237 : AtJ code 237 (.ifCond .eq) 240 244 := ⟨7, by decide +kernel, rfl, by decide, rfl⟩
theorem a0_240 : AtI code 240 (.iconst 1) 1 241 := ⟨by decide +kernel, rfl⟩
theorem a0_241 : AtJ code 241 (.goto) 244 245 := ⟨4, by decide +kernel, rfl, by decide, rfl⟩
theorem a0_244 : AtI code 244 (.iconst 0) 1 245 := ⟨by decide +kernel, rfl⟩
theorem a0_245 : AtI code 245 (.ireturn) 1 246 := ⟨by decide +kernel, rfl⟩
def P4 (x : Int32) : Prop := x.toInt = 9 ∨ x.toInt = 10 ∨ x.toInt = 13 ∨ (32 ≤ x.toInt ∧ x.toInt ≤ 55295) ∨ (57344 ≤ x.toInt ∧ x.toInt ≤ 65533) ∨ (65536 ≤ x.toInt ∧ x.toInt ≤ 1114111)
theorem c4 {Z : State} {a0 : Array Value} (hw : ∀ d ∈ tables_1, d.before a0 Z = true) (ρ : Nat → Nat) (n0 : Nat) (x : Int32) (σ : WHp) (u : Nat) : WGo (g4 Z ρ n0 σ.length u) (0, [.val (.int x)], [], σ, u) (QB (P4 x) σ u) := by
  refine WGo.s (WStep.iloadN a4_0 rfl) ?_
  refine WGo.s (WStep.bipush (9 : Int32) a4_1 rfl) ?_
  refine WGo.eq a4_3 (fun h3 => ?_) (fun h3 => ?_)
  · refine WGo.s (WStep.iconst (1 : Int32) a4_54 rfl) ?_
    refine WGo.s (WStep.goto a4_55) ?_
    refine WGo.ireturn .boolean a4_59 rfl (by simp) ?_
    exact QB.yes (by unfold P4; simp only [Int32.lt_iff_toInt_lt, ← Int32.toInt_inj, Int32.reduceToInt] at *; omega)
  · refine WGo.s (WStep.iloadN a4_6 rfl) ?_
    refine WGo.s (WStep.bipush (10 : Int32) a4_7 rfl) ?_
    refine WGo.eq a4_9 (fun h9 => ?_) (fun h9 => ?_)
    · refine WGo.s (WStep.iconst (1 : Int32) a4_54 rfl) ?_
      refine WGo.s (WStep.goto a4_55) ?_
      refine WGo.ireturn .boolean a4_59 rfl (by simp) ?_
      exact QB.yes (by unfold P4; simp only [Int32.lt_iff_toInt_lt, ← Int32.toInt_inj, Int32.reduceToInt] at *; omega)
    · refine WGo.s (WStep.iloadN a4_12 rfl) ?_
      refine WGo.s (WStep.bipush (13 : Int32) a4_13 rfl) ?_
      refine WGo.eq a4_15 (fun h15 => ?_) (fun h15 => ?_)
      · refine WGo.s (WStep.iconst (1 : Int32) a4_54 rfl) ?_
        refine WGo.s (WStep.goto a4_55) ?_
        refine WGo.ireturn .boolean a4_59 rfl (by simp) ?_
        exact QB.yes (by unfold P4; simp only [Int32.lt_iff_toInt_lt, ← Int32.toInt_inj, Int32.reduceToInt] at *; omega)
      · refine WGo.s (WStep.iloadN a4_18 rfl) ?_
        refine WGo.s (WStep.bipush (32 : Int32) a4_19 rfl) ?_
        refine WGo.lt a4_21 (fun h21 => ?_) (fun h21 => ?_)
        · refine WGo.s (WStep.iloadN a4_30 rfl) ?_
          refine WGo.s (WStep.ldc a4_31 (hw _ (List.mem_of_getElem? (i := 37) rfl))) ?_
          refine WGo.s (WStep.icmpT a4_33 (tlt (by simp only [Int32.lt_iff_toInt_lt, ← Int32.toInt_inj, Int32.reduceToInt] at *; omega)).1) ?_
          refine WGo.s (WStep.iloadN a4_42 rfl) ?_
          refine WGo.s (WStep.ldc a4_43 (hw _ (List.mem_of_getElem? (i := 20) rfl))) ?_
          refine WGo.s (WStep.icmpT a4_45 (tlt (by simp only [Int32.lt_iff_toInt_lt, ← Int32.toInt_inj, Int32.reduceToInt] at *; omega)).1) ?_
          refine WGo.s (WStep.iconst (0 : Int32) a4_58 rfl) ?_
          refine WGo.ireturn .boolean a4_59 rfl (by simp) ?_
          exact QB.no (by unfold P4; simp only [Int32.lt_iff_toInt_lt, ← Int32.toInt_inj, Int32.reduceToInt] at *; omega)
        · refine WGo.s (WStep.iloadN a4_24 rfl) ?_
          refine WGo.s (WStep.ldc a4_25 (hw _ (List.mem_of_getElem? (i := 30) rfl))) ?_
          refine WGo.le a4_27 (fun h27 => ?_) (fun h27 => ?_)
          · refine WGo.s (WStep.iconst (1 : Int32) a4_54 rfl) ?_
            refine WGo.s (WStep.goto a4_55) ?_
            refine WGo.ireturn .boolean a4_59 rfl (by simp) ?_
            exact QB.yes (by unfold P4; simp only [Int32.lt_iff_toInt_lt, ← Int32.toInt_inj, Int32.reduceToInt] at *; omega)
          · refine WGo.s (WStep.iloadN a4_30 rfl) ?_
            refine WGo.s (WStep.ldc a4_31 (hw _ (List.mem_of_getElem? (i := 37) rfl))) ?_
            refine WGo.lt a4_33 (fun h33 => ?_) (fun h33 => ?_)
            · refine WGo.s (WStep.iloadN a4_42 rfl) ?_
              refine WGo.s (WStep.ldc a4_43 (hw _ (List.mem_of_getElem? (i := 20) rfl))) ?_
              refine WGo.s (WStep.icmpT a4_45 (tlt (by simp only [Int32.lt_iff_toInt_lt, ← Int32.toInt_inj, Int32.reduceToInt] at *; omega)).1) ?_
              refine WGo.s (WStep.iconst (0 : Int32) a4_58 rfl) ?_
              refine WGo.ireturn .boolean a4_59 rfl (by simp) ?_
              exact QB.no (by unfold P4; simp only [Int32.lt_iff_toInt_lt, ← Int32.toInt_inj, Int32.reduceToInt] at *; omega)
            · refine WGo.s (WStep.iloadN a4_36 rfl) ?_
              refine WGo.s (WStep.ldc a4_37 (hw _ (List.mem_of_getElem? (i := 32) rfl))) ?_
              refine WGo.le a4_39 (fun h39 => ?_) (fun h39 => ?_)
              · refine WGo.s (WStep.iconst (1 : Int32) a4_54 rfl) ?_
                refine WGo.s (WStep.goto a4_55) ?_
                refine WGo.ireturn .boolean a4_59 rfl (by simp) ?_
                exact QB.yes (by unfold P4; simp only [Int32.lt_iff_toInt_lt, ← Int32.toInt_inj, Int32.reduceToInt] at *; omega)
              · refine WGo.s (WStep.iloadN a4_42 rfl) ?_
                refine WGo.s (WStep.ldc a4_43 (hw _ (List.mem_of_getElem? (i := 20) rfl))) ?_
                refine WGo.lt a4_45 (fun h45 => ?_) (fun h45 => ?_)
                · refine WGo.s (WStep.iconst (0 : Int32) a4_58 rfl) ?_
                  refine WGo.ireturn .boolean a4_59 rfl (by simp) ?_
                  exact QB.no (by unfold P4; simp only [Int32.lt_iff_toInt_lt, ← Int32.toInt_inj, Int32.reduceToInt] at *; omega)
                · refine WGo.s (WStep.iloadN a4_48 rfl) ?_
                  refine WGo.s (WStep.ldc a4_49 (hw _ (List.mem_of_getElem? (i := 38) rfl))) ?_
                  refine WGo.gt a4_51 (fun h51 => ?_) (fun h51 => ?_)
                  · refine WGo.s (WStep.iconst (0 : Int32) a4_58 rfl) ?_
                    refine WGo.ireturn .boolean a4_59 rfl (by simp) ?_
                    exact QB.no (by unfold P4; simp only [Int32.lt_iff_toInt_lt, ← Int32.toInt_inj, Int32.reduceToInt] at *; omega)
                  · refine WGo.s (WStep.iconst (1 : Int32) a4_54 rfl) ?_
                    refine WGo.s (WStep.goto a4_55) ?_
                    refine WGo.ireturn .boolean a4_59 rfl (by simp) ?_
                    exact QB.yes (by unfold P4; simp only [Int32.lt_iff_toInt_lt, ← Int32.toInt_inj, Int32.reduceToInt] at *; omega)
def P2 (x : Int32) : Prop := (65 ≤ x.toInt ∧ x.toInt ≤ 90) ∨ (95 ≤ x.toInt ∧ x.toInt ≤ 95) ∨ (97 ≤ x.toInt ∧ x.toInt ≤ 122) ∨ (192 ≤ x.toInt ∧ x.toInt ≤ 214) ∨ (216 ≤ x.toInt ∧ x.toInt ≤ 246) ∨ (248 ≤ x.toInt ∧ x.toInt ≤ 767) ∨ (880 ≤ x.toInt ∧ x.toInt ≤ 893) ∨ (895 ≤ x.toInt ∧ x.toInt ≤ 8191) ∨ (8204 ≤ x.toInt ∧ x.toInt ≤ 8205) ∨ (8304 ≤ x.toInt ∧ x.toInt ≤ 8591) ∨ (11264 ≤ x.toInt ∧ x.toInt ≤ 12271) ∨ (12289 ≤ x.toInt ∧ x.toInt ≤ 55295) ∨ (63744 ≤ x.toInt ∧ x.toInt ≤ 64975) ∨ (65008 ≤ x.toInt ∧ x.toInt ≤ 65533) ∨ (65536 ≤ x.toInt ∧ x.toInt ≤ 983039)
theorem c2 {Z : State} {a0 : Array Value} (hw : ∀ d ∈ tables_1, d.before a0 Z = true) (ρ : Nat → Nat) (n0 : Nat) (x : Int32) (σ : WHp) (u : Nat) : WGo (g2 Z ρ n0 σ.length u) (0, [.val (.int x)], [], σ, u) (QB (P2 x) σ u) := by
  refine WGo.s (WStep.iloadN a2_0 rfl) ?_
  refine WGo.s (WStep.bipush (65 : Int32) a2_1 rfl) ?_
  refine WGo.lt a2_3 (fun h3 => ?_) (fun h3 => ?_)
  · refine WGo.s (WStep.iloadN a2_12 rfl) ?_
    refine WGo.s (WStep.bipush (97 : Int32) a2_13 rfl) ?_
    refine WGo.s (WStep.icmpT a2_15 (tlt (by simp only [Int32.lt_iff_toInt_lt, ← Int32.toInt_inj, Int32.reduceToInt] at *; omega)).1) ?_
    refine WGo.s (WStep.iloadN a2_24 rfl) ?_
    refine WGo.s (WStep.bipush (95 : Int32) a2_25 rfl) ?_
    refine WGo.s (WStep.icmpF a2_27 (feq (by simp only [Int32.lt_iff_toInt_lt, ← Int32.toInt_inj, Int32.reduceToInt] at *; omega)).1) ?_
    refine WGo.s (WStep.iloadN a2_30 rfl) ?_
    refine WGo.s (WStep.sipush (192 : Int32) a2_31 rfl) ?_
    refine WGo.s (WStep.icmpT a2_34 (tlt (by simp only [Int32.lt_iff_toInt_lt, ← Int32.toInt_inj, Int32.reduceToInt] at *; omega)).1) ?_
    refine WGo.s (WStep.iloadN a2_44 rfl) ?_
    refine WGo.s (WStep.sipush (216 : Int32) a2_45 rfl) ?_
    refine WGo.s (WStep.icmpT a2_48 (tlt (by simp only [Int32.lt_iff_toInt_lt, ← Int32.toInt_inj, Int32.reduceToInt] at *; omega)).1) ?_
    refine WGo.s (WStep.iloadN a2_58 rfl) ?_
    refine WGo.s (WStep.sipush (248 : Int32) a2_59 rfl) ?_
    refine WGo.s (WStep.icmpT a2_62 (tlt (by simp only [Int32.lt_iff_toInt_lt, ← Int32.toInt_inj, Int32.reduceToInt] at *; omega)).1) ?_
    refine WGo.s (WStep.iloadN a2_72 rfl) ?_
    refine WGo.s (WStep.sipush (880 : Int32) a2_73 rfl) ?_
    refine WGo.s (WStep.icmpT a2_76 (tlt (by simp only [Int32.lt_iff_toInt_lt, ← Int32.toInt_inj, Int32.reduceToInt] at *; omega)).1) ?_
    refine WGo.s (WStep.iloadN a2_86 rfl) ?_
    refine WGo.s (WStep.sipush (895 : Int32) a2_87 rfl) ?_
    refine WGo.s (WStep.icmpT a2_90 (tlt (by simp only [Int32.lt_iff_toInt_lt, ← Int32.toInt_inj, Int32.reduceToInt] at *; omega)).1) ?_
    refine WGo.s (WStep.iloadN a2_100 rfl) ?_
    refine WGo.s (WStep.sipush (8204 : Int32) a2_101 rfl) ?_
    refine WGo.s (WStep.icmpT a2_104 (tlt (by simp only [Int32.lt_iff_toInt_lt, ← Int32.toInt_inj, Int32.reduceToInt] at *; omega)).1) ?_
    refine WGo.s (WStep.iloadN a2_114 rfl) ?_
    refine WGo.s (WStep.sipush (8304 : Int32) a2_115 rfl) ?_
    refine WGo.s (WStep.icmpT a2_118 (tlt (by simp only [Int32.lt_iff_toInt_lt, ← Int32.toInt_inj, Int32.reduceToInt] at *; omega)).1) ?_
    refine WGo.s (WStep.iloadN a2_128 rfl) ?_
    refine WGo.s (WStep.sipush (11264 : Int32) a2_129 rfl) ?_
    refine WGo.s (WStep.icmpT a2_132 (tlt (by simp only [Int32.lt_iff_toInt_lt, ← Int32.toInt_inj, Int32.reduceToInt] at *; omega)).1) ?_
    refine WGo.s (WStep.iloadN a2_142 rfl) ?_
    refine WGo.s (WStep.sipush (12289 : Int32) a2_143 rfl) ?_
    refine WGo.s (WStep.icmpT a2_146 (tlt (by simp only [Int32.lt_iff_toInt_lt, ← Int32.toInt_inj, Int32.reduceToInt] at *; omega)).1) ?_
    refine WGo.s (WStep.iloadN a2_155 rfl) ?_
    refine WGo.s (WStep.ldc a2_156 (hw _ (List.mem_of_getElem? (i := 18) rfl))) ?_
    refine WGo.s (WStep.icmpT a2_158 (tlt (by simp only [Int32.lt_iff_toInt_lt, ← Int32.toInt_inj, Int32.reduceToInt] at *; omega)).1) ?_
    refine WGo.s (WStep.iloadN a2_167 rfl) ?_
    refine WGo.s (WStep.ldc a2_168 (hw _ (List.mem_of_getElem? (i := 19) rfl))) ?_
    refine WGo.s (WStep.icmpT a2_170 (tlt (by simp only [Int32.lt_iff_toInt_lt, ← Int32.toInt_inj, Int32.reduceToInt] at *; omega)).1) ?_
    refine WGo.s (WStep.iloadN a2_179 rfl) ?_
    refine WGo.s (WStep.ldc a2_180 (hw _ (List.mem_of_getElem? (i := 20) rfl))) ?_
    refine WGo.s (WStep.icmpT a2_182 (tlt (by simp only [Int32.lt_iff_toInt_lt, ← Int32.toInt_inj, Int32.reduceToInt] at *; omega)).1) ?_
    refine WGo.s (WStep.iconst (0 : Int32) a2_195 rfl) ?_
    refine WGo.ireturn .boolean a2_196 rfl (by simp) ?_
    exact QB.no (by unfold P2; simp only [Int32.lt_iff_toInt_lt, ← Int32.toInt_inj, Int32.reduceToInt] at *; omega)
  · refine WGo.s (WStep.iloadN a2_6 rfl) ?_
    refine WGo.s (WStep.bipush (90 : Int32) a2_7 rfl) ?_
    refine WGo.le a2_9 (fun h9 => ?_) (fun h9 => ?_)
    · refine WGo.s (WStep.iconst (1 : Int32) a2_191 rfl) ?_
      refine WGo.s (WStep.goto a2_192) ?_
      refine WGo.ireturn .boolean a2_196 rfl (by simp) ?_
      exact QB.yes (by unfold P2; simp only [Int32.lt_iff_toInt_lt, ← Int32.toInt_inj, Int32.reduceToInt] at *; omega)
    · refine WGo.s (WStep.iloadN a2_12 rfl) ?_
      refine WGo.s (WStep.bipush (97 : Int32) a2_13 rfl) ?_
      refine WGo.lt a2_15 (fun h15 => ?_) (fun h15 => ?_)
      · refine WGo.s (WStep.iloadN a2_24 rfl) ?_
        refine WGo.s (WStep.bipush (95 : Int32) a2_25 rfl) ?_
        refine WGo.eq a2_27 (fun h27 => ?_) (fun h27 => ?_)
        · refine WGo.s (WStep.iconst (1 : Int32) a2_191 rfl) ?_
          refine WGo.s (WStep.goto a2_192) ?_
          refine WGo.ireturn .boolean a2_196 rfl (by simp) ?_
          exact QB.yes (by unfold P2; simp only [Int32.lt_iff_toInt_lt, ← Int32.toInt_inj, Int32.reduceToInt] at *; omega)
        · refine WGo.s (WStep.iloadN a2_30 rfl) ?_
          refine WGo.s (WStep.sipush (192 : Int32) a2_31 rfl) ?_
          refine WGo.s (WStep.icmpT a2_34 (tlt (by simp only [Int32.lt_iff_toInt_lt, ← Int32.toInt_inj, Int32.reduceToInt] at *; omega)).1) ?_
          refine WGo.s (WStep.iloadN a2_44 rfl) ?_
          refine WGo.s (WStep.sipush (216 : Int32) a2_45 rfl) ?_
          refine WGo.s (WStep.icmpT a2_48 (tlt (by simp only [Int32.lt_iff_toInt_lt, ← Int32.toInt_inj, Int32.reduceToInt] at *; omega)).1) ?_
          refine WGo.s (WStep.iloadN a2_58 rfl) ?_
          refine WGo.s (WStep.sipush (248 : Int32) a2_59 rfl) ?_
          refine WGo.s (WStep.icmpT a2_62 (tlt (by simp only [Int32.lt_iff_toInt_lt, ← Int32.toInt_inj, Int32.reduceToInt] at *; omega)).1) ?_
          refine WGo.s (WStep.iloadN a2_72 rfl) ?_
          refine WGo.s (WStep.sipush (880 : Int32) a2_73 rfl) ?_
          refine WGo.s (WStep.icmpT a2_76 (tlt (by simp only [Int32.lt_iff_toInt_lt, ← Int32.toInt_inj, Int32.reduceToInt] at *; omega)).1) ?_
          refine WGo.s (WStep.iloadN a2_86 rfl) ?_
          refine WGo.s (WStep.sipush (895 : Int32) a2_87 rfl) ?_
          refine WGo.s (WStep.icmpT a2_90 (tlt (by simp only [Int32.lt_iff_toInt_lt, ← Int32.toInt_inj, Int32.reduceToInt] at *; omega)).1) ?_
          refine WGo.s (WStep.iloadN a2_100 rfl) ?_
          refine WGo.s (WStep.sipush (8204 : Int32) a2_101 rfl) ?_
          refine WGo.s (WStep.icmpT a2_104 (tlt (by simp only [Int32.lt_iff_toInt_lt, ← Int32.toInt_inj, Int32.reduceToInt] at *; omega)).1) ?_
          refine WGo.s (WStep.iloadN a2_114 rfl) ?_
          refine WGo.s (WStep.sipush (8304 : Int32) a2_115 rfl) ?_
          refine WGo.s (WStep.icmpT a2_118 (tlt (by simp only [Int32.lt_iff_toInt_lt, ← Int32.toInt_inj, Int32.reduceToInt] at *; omega)).1) ?_
          refine WGo.s (WStep.iloadN a2_128 rfl) ?_
          refine WGo.s (WStep.sipush (11264 : Int32) a2_129 rfl) ?_
          refine WGo.s (WStep.icmpT a2_132 (tlt (by simp only [Int32.lt_iff_toInt_lt, ← Int32.toInt_inj, Int32.reduceToInt] at *; omega)).1) ?_
          refine WGo.s (WStep.iloadN a2_142 rfl) ?_
          refine WGo.s (WStep.sipush (12289 : Int32) a2_143 rfl) ?_
          refine WGo.s (WStep.icmpT a2_146 (tlt (by simp only [Int32.lt_iff_toInt_lt, ← Int32.toInt_inj, Int32.reduceToInt] at *; omega)).1) ?_
          refine WGo.s (WStep.iloadN a2_155 rfl) ?_
          refine WGo.s (WStep.ldc a2_156 (hw _ (List.mem_of_getElem? (i := 18) rfl))) ?_
          refine WGo.s (WStep.icmpT a2_158 (tlt (by simp only [Int32.lt_iff_toInt_lt, ← Int32.toInt_inj, Int32.reduceToInt] at *; omega)).1) ?_
          refine WGo.s (WStep.iloadN a2_167 rfl) ?_
          refine WGo.s (WStep.ldc a2_168 (hw _ (List.mem_of_getElem? (i := 19) rfl))) ?_
          refine WGo.s (WStep.icmpT a2_170 (tlt (by simp only [Int32.lt_iff_toInt_lt, ← Int32.toInt_inj, Int32.reduceToInt] at *; omega)).1) ?_
          refine WGo.s (WStep.iloadN a2_179 rfl) ?_
          refine WGo.s (WStep.ldc a2_180 (hw _ (List.mem_of_getElem? (i := 20) rfl))) ?_
          refine WGo.s (WStep.icmpT a2_182 (tlt (by simp only [Int32.lt_iff_toInt_lt, ← Int32.toInt_inj, Int32.reduceToInt] at *; omega)).1) ?_
          refine WGo.s (WStep.iconst (0 : Int32) a2_195 rfl) ?_
          refine WGo.ireturn .boolean a2_196 rfl (by simp) ?_
          exact QB.no (by unfold P2; simp only [Int32.lt_iff_toInt_lt, ← Int32.toInt_inj, Int32.reduceToInt] at *; omega)
      · refine WGo.s (WStep.iloadN a2_18 rfl) ?_
        refine WGo.s (WStep.bipush (122 : Int32) a2_19 rfl) ?_
        refine WGo.le a2_21 (fun h21 => ?_) (fun h21 => ?_)
        · refine WGo.s (WStep.iconst (1 : Int32) a2_191 rfl) ?_
          refine WGo.s (WStep.goto a2_192) ?_
          refine WGo.ireturn .boolean a2_196 rfl (by simp) ?_
          exact QB.yes (by unfold P2; simp only [Int32.lt_iff_toInt_lt, ← Int32.toInt_inj, Int32.reduceToInt] at *; omega)
        · refine WGo.s (WStep.iloadN a2_24 rfl) ?_
          refine WGo.s (WStep.bipush (95 : Int32) a2_25 rfl) ?_
          refine WGo.s (WStep.icmpF a2_27 (feq (by simp only [Int32.lt_iff_toInt_lt, ← Int32.toInt_inj, Int32.reduceToInt] at *; omega)).1) ?_
          refine WGo.s (WStep.iloadN a2_30 rfl) ?_
          refine WGo.s (WStep.sipush (192 : Int32) a2_31 rfl) ?_
          refine WGo.lt a2_34 (fun h34 => ?_) (fun h34 => ?_)
          · refine WGo.s (WStep.iloadN a2_44 rfl) ?_
            refine WGo.s (WStep.sipush (216 : Int32) a2_45 rfl) ?_
            refine WGo.s (WStep.icmpT a2_48 (tlt (by simp only [Int32.lt_iff_toInt_lt, ← Int32.toInt_inj, Int32.reduceToInt] at *; omega)).1) ?_
            refine WGo.s (WStep.iloadN a2_58 rfl) ?_
            refine WGo.s (WStep.sipush (248 : Int32) a2_59 rfl) ?_
            refine WGo.s (WStep.icmpT a2_62 (tlt (by simp only [Int32.lt_iff_toInt_lt, ← Int32.toInt_inj, Int32.reduceToInt] at *; omega)).1) ?_
            refine WGo.s (WStep.iloadN a2_72 rfl) ?_
            refine WGo.s (WStep.sipush (880 : Int32) a2_73 rfl) ?_
            refine WGo.s (WStep.icmpT a2_76 (tlt (by simp only [Int32.lt_iff_toInt_lt, ← Int32.toInt_inj, Int32.reduceToInt] at *; omega)).1) ?_
            refine WGo.s (WStep.iloadN a2_86 rfl) ?_
            refine WGo.s (WStep.sipush (895 : Int32) a2_87 rfl) ?_
            refine WGo.s (WStep.icmpT a2_90 (tlt (by simp only [Int32.lt_iff_toInt_lt, ← Int32.toInt_inj, Int32.reduceToInt] at *; omega)).1) ?_
            refine WGo.s (WStep.iloadN a2_100 rfl) ?_
            refine WGo.s (WStep.sipush (8204 : Int32) a2_101 rfl) ?_
            refine WGo.s (WStep.icmpT a2_104 (tlt (by simp only [Int32.lt_iff_toInt_lt, ← Int32.toInt_inj, Int32.reduceToInt] at *; omega)).1) ?_
            refine WGo.s (WStep.iloadN a2_114 rfl) ?_
            refine WGo.s (WStep.sipush (8304 : Int32) a2_115 rfl) ?_
            refine WGo.s (WStep.icmpT a2_118 (tlt (by simp only [Int32.lt_iff_toInt_lt, ← Int32.toInt_inj, Int32.reduceToInt] at *; omega)).1) ?_
            refine WGo.s (WStep.iloadN a2_128 rfl) ?_
            refine WGo.s (WStep.sipush (11264 : Int32) a2_129 rfl) ?_
            refine WGo.s (WStep.icmpT a2_132 (tlt (by simp only [Int32.lt_iff_toInt_lt, ← Int32.toInt_inj, Int32.reduceToInt] at *; omega)).1) ?_
            refine WGo.s (WStep.iloadN a2_142 rfl) ?_
            refine WGo.s (WStep.sipush (12289 : Int32) a2_143 rfl) ?_
            refine WGo.s (WStep.icmpT a2_146 (tlt (by simp only [Int32.lt_iff_toInt_lt, ← Int32.toInt_inj, Int32.reduceToInt] at *; omega)).1) ?_
            refine WGo.s (WStep.iloadN a2_155 rfl) ?_
            refine WGo.s (WStep.ldc a2_156 (hw _ (List.mem_of_getElem? (i := 18) rfl))) ?_
            refine WGo.s (WStep.icmpT a2_158 (tlt (by simp only [Int32.lt_iff_toInt_lt, ← Int32.toInt_inj, Int32.reduceToInt] at *; omega)).1) ?_
            refine WGo.s (WStep.iloadN a2_167 rfl) ?_
            refine WGo.s (WStep.ldc a2_168 (hw _ (List.mem_of_getElem? (i := 19) rfl))) ?_
            refine WGo.s (WStep.icmpT a2_170 (tlt (by simp only [Int32.lt_iff_toInt_lt, ← Int32.toInt_inj, Int32.reduceToInt] at *; omega)).1) ?_
            refine WGo.s (WStep.iloadN a2_179 rfl) ?_
            refine WGo.s (WStep.ldc a2_180 (hw _ (List.mem_of_getElem? (i := 20) rfl))) ?_
            refine WGo.s (WStep.icmpT a2_182 (tlt (by simp only [Int32.lt_iff_toInt_lt, ← Int32.toInt_inj, Int32.reduceToInt] at *; omega)).1) ?_
            refine WGo.s (WStep.iconst (0 : Int32) a2_195 rfl) ?_
            refine WGo.ireturn .boolean a2_196 rfl (by simp) ?_
            exact QB.no (by unfold P2; simp only [Int32.lt_iff_toInt_lt, ← Int32.toInt_inj, Int32.reduceToInt] at *; omega)
          · refine WGo.s (WStep.iloadN a2_37 rfl) ?_
            refine WGo.s (WStep.sipush (214 : Int32) a2_38 rfl) ?_
            refine WGo.le a2_41 (fun h41 => ?_) (fun h41 => ?_)
            · refine WGo.s (WStep.iconst (1 : Int32) a2_191 rfl) ?_
              refine WGo.s (WStep.goto a2_192) ?_
              refine WGo.ireturn .boolean a2_196 rfl (by simp) ?_
              exact QB.yes (by unfold P2; simp only [Int32.lt_iff_toInt_lt, ← Int32.toInt_inj, Int32.reduceToInt] at *; omega)
            · refine WGo.s (WStep.iloadN a2_44 rfl) ?_
              refine WGo.s (WStep.sipush (216 : Int32) a2_45 rfl) ?_
              refine WGo.lt a2_48 (fun h48 => ?_) (fun h48 => ?_)
              · refine WGo.s (WStep.iloadN a2_58 rfl) ?_
                refine WGo.s (WStep.sipush (248 : Int32) a2_59 rfl) ?_
                refine WGo.s (WStep.icmpT a2_62 (tlt (by simp only [Int32.lt_iff_toInt_lt, ← Int32.toInt_inj, Int32.reduceToInt] at *; omega)).1) ?_
                refine WGo.s (WStep.iloadN a2_72 rfl) ?_
                refine WGo.s (WStep.sipush (880 : Int32) a2_73 rfl) ?_
                refine WGo.s (WStep.icmpT a2_76 (tlt (by simp only [Int32.lt_iff_toInt_lt, ← Int32.toInt_inj, Int32.reduceToInt] at *; omega)).1) ?_
                refine WGo.s (WStep.iloadN a2_86 rfl) ?_
                refine WGo.s (WStep.sipush (895 : Int32) a2_87 rfl) ?_
                refine WGo.s (WStep.icmpT a2_90 (tlt (by simp only [Int32.lt_iff_toInt_lt, ← Int32.toInt_inj, Int32.reduceToInt] at *; omega)).1) ?_
                refine WGo.s (WStep.iloadN a2_100 rfl) ?_
                refine WGo.s (WStep.sipush (8204 : Int32) a2_101 rfl) ?_
                refine WGo.s (WStep.icmpT a2_104 (tlt (by simp only [Int32.lt_iff_toInt_lt, ← Int32.toInt_inj, Int32.reduceToInt] at *; omega)).1) ?_
                refine WGo.s (WStep.iloadN a2_114 rfl) ?_
                refine WGo.s (WStep.sipush (8304 : Int32) a2_115 rfl) ?_
                refine WGo.s (WStep.icmpT a2_118 (tlt (by simp only [Int32.lt_iff_toInt_lt, ← Int32.toInt_inj, Int32.reduceToInt] at *; omega)).1) ?_
                refine WGo.s (WStep.iloadN a2_128 rfl) ?_
                refine WGo.s (WStep.sipush (11264 : Int32) a2_129 rfl) ?_
                refine WGo.s (WStep.icmpT a2_132 (tlt (by simp only [Int32.lt_iff_toInt_lt, ← Int32.toInt_inj, Int32.reduceToInt] at *; omega)).1) ?_
                refine WGo.s (WStep.iloadN a2_142 rfl) ?_
                refine WGo.s (WStep.sipush (12289 : Int32) a2_143 rfl) ?_
                refine WGo.s (WStep.icmpT a2_146 (tlt (by simp only [Int32.lt_iff_toInt_lt, ← Int32.toInt_inj, Int32.reduceToInt] at *; omega)).1) ?_
                refine WGo.s (WStep.iloadN a2_155 rfl) ?_
                refine WGo.s (WStep.ldc a2_156 (hw _ (List.mem_of_getElem? (i := 18) rfl))) ?_
                refine WGo.s (WStep.icmpT a2_158 (tlt (by simp only [Int32.lt_iff_toInt_lt, ← Int32.toInt_inj, Int32.reduceToInt] at *; omega)).1) ?_
                refine WGo.s (WStep.iloadN a2_167 rfl) ?_
                refine WGo.s (WStep.ldc a2_168 (hw _ (List.mem_of_getElem? (i := 19) rfl))) ?_
                refine WGo.s (WStep.icmpT a2_170 (tlt (by simp only [Int32.lt_iff_toInt_lt, ← Int32.toInt_inj, Int32.reduceToInt] at *; omega)).1) ?_
                refine WGo.s (WStep.iloadN a2_179 rfl) ?_
                refine WGo.s (WStep.ldc a2_180 (hw _ (List.mem_of_getElem? (i := 20) rfl))) ?_
                refine WGo.s (WStep.icmpT a2_182 (tlt (by simp only [Int32.lt_iff_toInt_lt, ← Int32.toInt_inj, Int32.reduceToInt] at *; omega)).1) ?_
                refine WGo.s (WStep.iconst (0 : Int32) a2_195 rfl) ?_
                refine WGo.ireturn .boolean a2_196 rfl (by simp) ?_
                exact QB.no (by unfold P2; simp only [Int32.lt_iff_toInt_lt, ← Int32.toInt_inj, Int32.reduceToInt] at *; omega)
              · refine WGo.s (WStep.iloadN a2_51 rfl) ?_
                refine WGo.s (WStep.sipush (246 : Int32) a2_52 rfl) ?_
                refine WGo.le a2_55 (fun h55 => ?_) (fun h55 => ?_)
                · refine WGo.s (WStep.iconst (1 : Int32) a2_191 rfl) ?_
                  refine WGo.s (WStep.goto a2_192) ?_
                  refine WGo.ireturn .boolean a2_196 rfl (by simp) ?_
                  exact QB.yes (by unfold P2; simp only [Int32.lt_iff_toInt_lt, ← Int32.toInt_inj, Int32.reduceToInt] at *; omega)
                · refine WGo.s (WStep.iloadN a2_58 rfl) ?_
                  refine WGo.s (WStep.sipush (248 : Int32) a2_59 rfl) ?_
                  refine WGo.lt a2_62 (fun h62 => ?_) (fun h62 => ?_)
                  · refine WGo.s (WStep.iloadN a2_72 rfl) ?_
                    refine WGo.s (WStep.sipush (880 : Int32) a2_73 rfl) ?_
                    refine WGo.s (WStep.icmpT a2_76 (tlt (by simp only [Int32.lt_iff_toInt_lt, ← Int32.toInt_inj, Int32.reduceToInt] at *; omega)).1) ?_
                    refine WGo.s (WStep.iloadN a2_86 rfl) ?_
                    refine WGo.s (WStep.sipush (895 : Int32) a2_87 rfl) ?_
                    refine WGo.s (WStep.icmpT a2_90 (tlt (by simp only [Int32.lt_iff_toInt_lt, ← Int32.toInt_inj, Int32.reduceToInt] at *; omega)).1) ?_
                    refine WGo.s (WStep.iloadN a2_100 rfl) ?_
                    refine WGo.s (WStep.sipush (8204 : Int32) a2_101 rfl) ?_
                    refine WGo.s (WStep.icmpT a2_104 (tlt (by simp only [Int32.lt_iff_toInt_lt, ← Int32.toInt_inj, Int32.reduceToInt] at *; omega)).1) ?_
                    refine WGo.s (WStep.iloadN a2_114 rfl) ?_
                    refine WGo.s (WStep.sipush (8304 : Int32) a2_115 rfl) ?_
                    refine WGo.s (WStep.icmpT a2_118 (tlt (by simp only [Int32.lt_iff_toInt_lt, ← Int32.toInt_inj, Int32.reduceToInt] at *; omega)).1) ?_
                    refine WGo.s (WStep.iloadN a2_128 rfl) ?_
                    refine WGo.s (WStep.sipush (11264 : Int32) a2_129 rfl) ?_
                    refine WGo.s (WStep.icmpT a2_132 (tlt (by simp only [Int32.lt_iff_toInt_lt, ← Int32.toInt_inj, Int32.reduceToInt] at *; omega)).1) ?_
                    refine WGo.s (WStep.iloadN a2_142 rfl) ?_
                    refine WGo.s (WStep.sipush (12289 : Int32) a2_143 rfl) ?_
                    refine WGo.s (WStep.icmpT a2_146 (tlt (by simp only [Int32.lt_iff_toInt_lt, ← Int32.toInt_inj, Int32.reduceToInt] at *; omega)).1) ?_
                    refine WGo.s (WStep.iloadN a2_155 rfl) ?_
                    refine WGo.s (WStep.ldc a2_156 (hw _ (List.mem_of_getElem? (i := 18) rfl))) ?_
                    refine WGo.s (WStep.icmpT a2_158 (tlt (by simp only [Int32.lt_iff_toInt_lt, ← Int32.toInt_inj, Int32.reduceToInt] at *; omega)).1) ?_
                    refine WGo.s (WStep.iloadN a2_167 rfl) ?_
                    refine WGo.s (WStep.ldc a2_168 (hw _ (List.mem_of_getElem? (i := 19) rfl))) ?_
                    refine WGo.s (WStep.icmpT a2_170 (tlt (by simp only [Int32.lt_iff_toInt_lt, ← Int32.toInt_inj, Int32.reduceToInt] at *; omega)).1) ?_
                    refine WGo.s (WStep.iloadN a2_179 rfl) ?_
                    refine WGo.s (WStep.ldc a2_180 (hw _ (List.mem_of_getElem? (i := 20) rfl))) ?_
                    refine WGo.s (WStep.icmpT a2_182 (tlt (by simp only [Int32.lt_iff_toInt_lt, ← Int32.toInt_inj, Int32.reduceToInt] at *; omega)).1) ?_
                    refine WGo.s (WStep.iconst (0 : Int32) a2_195 rfl) ?_
                    refine WGo.ireturn .boolean a2_196 rfl (by simp) ?_
                    exact QB.no (by unfold P2; simp only [Int32.lt_iff_toInt_lt, ← Int32.toInt_inj, Int32.reduceToInt] at *; omega)
                  · refine WGo.s (WStep.iloadN a2_65 rfl) ?_
                    refine WGo.s (WStep.sipush (767 : Int32) a2_66 rfl) ?_
                    refine WGo.le a2_69 (fun h69 => ?_) (fun h69 => ?_)
                    · refine WGo.s (WStep.iconst (1 : Int32) a2_191 rfl) ?_
                      refine WGo.s (WStep.goto a2_192) ?_
                      refine WGo.ireturn .boolean a2_196 rfl (by simp) ?_
                      exact QB.yes (by unfold P2; simp only [Int32.lt_iff_toInt_lt, ← Int32.toInt_inj, Int32.reduceToInt] at *; omega)
                    · refine WGo.s (WStep.iloadN a2_72 rfl) ?_
                      refine WGo.s (WStep.sipush (880 : Int32) a2_73 rfl) ?_
                      refine WGo.lt a2_76 (fun h76 => ?_) (fun h76 => ?_)
                      · refine WGo.s (WStep.iloadN a2_86 rfl) ?_
                        refine WGo.s (WStep.sipush (895 : Int32) a2_87 rfl) ?_
                        refine WGo.s (WStep.icmpT a2_90 (tlt (by simp only [Int32.lt_iff_toInt_lt, ← Int32.toInt_inj, Int32.reduceToInt] at *; omega)).1) ?_
                        refine WGo.s (WStep.iloadN a2_100 rfl) ?_
                        refine WGo.s (WStep.sipush (8204 : Int32) a2_101 rfl) ?_
                        refine WGo.s (WStep.icmpT a2_104 (tlt (by simp only [Int32.lt_iff_toInt_lt, ← Int32.toInt_inj, Int32.reduceToInt] at *; omega)).1) ?_
                        refine WGo.s (WStep.iloadN a2_114 rfl) ?_
                        refine WGo.s (WStep.sipush (8304 : Int32) a2_115 rfl) ?_
                        refine WGo.s (WStep.icmpT a2_118 (tlt (by simp only [Int32.lt_iff_toInt_lt, ← Int32.toInt_inj, Int32.reduceToInt] at *; omega)).1) ?_
                        refine WGo.s (WStep.iloadN a2_128 rfl) ?_
                        refine WGo.s (WStep.sipush (11264 : Int32) a2_129 rfl) ?_
                        refine WGo.s (WStep.icmpT a2_132 (tlt (by simp only [Int32.lt_iff_toInt_lt, ← Int32.toInt_inj, Int32.reduceToInt] at *; omega)).1) ?_
                        refine WGo.s (WStep.iloadN a2_142 rfl) ?_
                        refine WGo.s (WStep.sipush (12289 : Int32) a2_143 rfl) ?_
                        refine WGo.s (WStep.icmpT a2_146 (tlt (by simp only [Int32.lt_iff_toInt_lt, ← Int32.toInt_inj, Int32.reduceToInt] at *; omega)).1) ?_
                        refine WGo.s (WStep.iloadN a2_155 rfl) ?_
                        refine WGo.s (WStep.ldc a2_156 (hw _ (List.mem_of_getElem? (i := 18) rfl))) ?_
                        refine WGo.s (WStep.icmpT a2_158 (tlt (by simp only [Int32.lt_iff_toInt_lt, ← Int32.toInt_inj, Int32.reduceToInt] at *; omega)).1) ?_
                        refine WGo.s (WStep.iloadN a2_167 rfl) ?_
                        refine WGo.s (WStep.ldc a2_168 (hw _ (List.mem_of_getElem? (i := 19) rfl))) ?_
                        refine WGo.s (WStep.icmpT a2_170 (tlt (by simp only [Int32.lt_iff_toInt_lt, ← Int32.toInt_inj, Int32.reduceToInt] at *; omega)).1) ?_
                        refine WGo.s (WStep.iloadN a2_179 rfl) ?_
                        refine WGo.s (WStep.ldc a2_180 (hw _ (List.mem_of_getElem? (i := 20) rfl))) ?_
                        refine WGo.s (WStep.icmpT a2_182 (tlt (by simp only [Int32.lt_iff_toInt_lt, ← Int32.toInt_inj, Int32.reduceToInt] at *; omega)).1) ?_
                        refine WGo.s (WStep.iconst (0 : Int32) a2_195 rfl) ?_
                        refine WGo.ireturn .boolean a2_196 rfl (by simp) ?_
                        exact QB.no (by unfold P2; simp only [Int32.lt_iff_toInt_lt, ← Int32.toInt_inj, Int32.reduceToInt] at *; omega)
                      · refine WGo.s (WStep.iloadN a2_79 rfl) ?_
                        refine WGo.s (WStep.sipush (893 : Int32) a2_80 rfl) ?_
                        refine WGo.le a2_83 (fun h83 => ?_) (fun h83 => ?_)
                        · refine WGo.s (WStep.iconst (1 : Int32) a2_191 rfl) ?_
                          refine WGo.s (WStep.goto a2_192) ?_
                          refine WGo.ireturn .boolean a2_196 rfl (by simp) ?_
                          exact QB.yes (by unfold P2; simp only [Int32.lt_iff_toInt_lt, ← Int32.toInt_inj, Int32.reduceToInt] at *; omega)
                        · refine WGo.s (WStep.iloadN a2_86 rfl) ?_
                          refine WGo.s (WStep.sipush (895 : Int32) a2_87 rfl) ?_
                          refine WGo.lt a2_90 (fun h90 => ?_) (fun h90 => ?_)
                          · refine WGo.s (WStep.iloadN a2_100 rfl) ?_
                            refine WGo.s (WStep.sipush (8204 : Int32) a2_101 rfl) ?_
                            refine WGo.s (WStep.icmpT a2_104 (tlt (by simp only [Int32.lt_iff_toInt_lt, ← Int32.toInt_inj, Int32.reduceToInt] at *; omega)).1) ?_
                            refine WGo.s (WStep.iloadN a2_114 rfl) ?_
                            refine WGo.s (WStep.sipush (8304 : Int32) a2_115 rfl) ?_
                            refine WGo.s (WStep.icmpT a2_118 (tlt (by simp only [Int32.lt_iff_toInt_lt, ← Int32.toInt_inj, Int32.reduceToInt] at *; omega)).1) ?_
                            refine WGo.s (WStep.iloadN a2_128 rfl) ?_
                            refine WGo.s (WStep.sipush (11264 : Int32) a2_129 rfl) ?_
                            refine WGo.s (WStep.icmpT a2_132 (tlt (by simp only [Int32.lt_iff_toInt_lt, ← Int32.toInt_inj, Int32.reduceToInt] at *; omega)).1) ?_
                            refine WGo.s (WStep.iloadN a2_142 rfl) ?_
                            refine WGo.s (WStep.sipush (12289 : Int32) a2_143 rfl) ?_
                            refine WGo.s (WStep.icmpT a2_146 (tlt (by simp only [Int32.lt_iff_toInt_lt, ← Int32.toInt_inj, Int32.reduceToInt] at *; omega)).1) ?_
                            refine WGo.s (WStep.iloadN a2_155 rfl) ?_
                            refine WGo.s (WStep.ldc a2_156 (hw _ (List.mem_of_getElem? (i := 18) rfl))) ?_
                            refine WGo.s (WStep.icmpT a2_158 (tlt (by simp only [Int32.lt_iff_toInt_lt, ← Int32.toInt_inj, Int32.reduceToInt] at *; omega)).1) ?_
                            refine WGo.s (WStep.iloadN a2_167 rfl) ?_
                            refine WGo.s (WStep.ldc a2_168 (hw _ (List.mem_of_getElem? (i := 19) rfl))) ?_
                            refine WGo.s (WStep.icmpT a2_170 (tlt (by simp only [Int32.lt_iff_toInt_lt, ← Int32.toInt_inj, Int32.reduceToInt] at *; omega)).1) ?_
                            refine WGo.s (WStep.iloadN a2_179 rfl) ?_
                            refine WGo.s (WStep.ldc a2_180 (hw _ (List.mem_of_getElem? (i := 20) rfl))) ?_
                            refine WGo.s (WStep.icmpT a2_182 (tlt (by simp only [Int32.lt_iff_toInt_lt, ← Int32.toInt_inj, Int32.reduceToInt] at *; omega)).1) ?_
                            refine WGo.s (WStep.iconst (0 : Int32) a2_195 rfl) ?_
                            refine WGo.ireturn .boolean a2_196 rfl (by simp) ?_
                            exact QB.no (by unfold P2; simp only [Int32.lt_iff_toInt_lt, ← Int32.toInt_inj, Int32.reduceToInt] at *; omega)
                          · refine WGo.s (WStep.iloadN a2_93 rfl) ?_
                            refine WGo.s (WStep.sipush (8191 : Int32) a2_94 rfl) ?_
                            refine WGo.le a2_97 (fun h97 => ?_) (fun h97 => ?_)
                            · refine WGo.s (WStep.iconst (1 : Int32) a2_191 rfl) ?_
                              refine WGo.s (WStep.goto a2_192) ?_
                              refine WGo.ireturn .boolean a2_196 rfl (by simp) ?_
                              exact QB.yes (by unfold P2; simp only [Int32.lt_iff_toInt_lt, ← Int32.toInt_inj, Int32.reduceToInt] at *; omega)
                            · refine WGo.s (WStep.iloadN a2_100 rfl) ?_
                              refine WGo.s (WStep.sipush (8204 : Int32) a2_101 rfl) ?_
                              refine WGo.lt a2_104 (fun h104 => ?_) (fun h104 => ?_)
                              · refine WGo.s (WStep.iloadN a2_114 rfl) ?_
                                refine WGo.s (WStep.sipush (8304 : Int32) a2_115 rfl) ?_
                                refine WGo.s (WStep.icmpT a2_118 (tlt (by simp only [Int32.lt_iff_toInt_lt, ← Int32.toInt_inj, Int32.reduceToInt] at *; omega)).1) ?_
                                refine WGo.s (WStep.iloadN a2_128 rfl) ?_
                                refine WGo.s (WStep.sipush (11264 : Int32) a2_129 rfl) ?_
                                refine WGo.s (WStep.icmpT a2_132 (tlt (by simp only [Int32.lt_iff_toInt_lt, ← Int32.toInt_inj, Int32.reduceToInt] at *; omega)).1) ?_
                                refine WGo.s (WStep.iloadN a2_142 rfl) ?_
                                refine WGo.s (WStep.sipush (12289 : Int32) a2_143 rfl) ?_
                                refine WGo.s (WStep.icmpT a2_146 (tlt (by simp only [Int32.lt_iff_toInt_lt, ← Int32.toInt_inj, Int32.reduceToInt] at *; omega)).1) ?_
                                refine WGo.s (WStep.iloadN a2_155 rfl) ?_
                                refine WGo.s (WStep.ldc a2_156 (hw _ (List.mem_of_getElem? (i := 18) rfl))) ?_
                                refine WGo.s (WStep.icmpT a2_158 (tlt (by simp only [Int32.lt_iff_toInt_lt, ← Int32.toInt_inj, Int32.reduceToInt] at *; omega)).1) ?_
                                refine WGo.s (WStep.iloadN a2_167 rfl) ?_
                                refine WGo.s (WStep.ldc a2_168 (hw _ (List.mem_of_getElem? (i := 19) rfl))) ?_
                                refine WGo.s (WStep.icmpT a2_170 (tlt (by simp only [Int32.lt_iff_toInt_lt, ← Int32.toInt_inj, Int32.reduceToInt] at *; omega)).1) ?_
                                refine WGo.s (WStep.iloadN a2_179 rfl) ?_
                                refine WGo.s (WStep.ldc a2_180 (hw _ (List.mem_of_getElem? (i := 20) rfl))) ?_
                                refine WGo.s (WStep.icmpT a2_182 (tlt (by simp only [Int32.lt_iff_toInt_lt, ← Int32.toInt_inj, Int32.reduceToInt] at *; omega)).1) ?_
                                refine WGo.s (WStep.iconst (0 : Int32) a2_195 rfl) ?_
                                refine WGo.ireturn .boolean a2_196 rfl (by simp) ?_
                                exact QB.no (by unfold P2; simp only [Int32.lt_iff_toInt_lt, ← Int32.toInt_inj, Int32.reduceToInt] at *; omega)
                              · refine WGo.s (WStep.iloadN a2_107 rfl) ?_
                                refine WGo.s (WStep.sipush (8205 : Int32) a2_108 rfl) ?_
                                refine WGo.le a2_111 (fun h111 => ?_) (fun h111 => ?_)
                                · refine WGo.s (WStep.iconst (1 : Int32) a2_191 rfl) ?_
                                  refine WGo.s (WStep.goto a2_192) ?_
                                  refine WGo.ireturn .boolean a2_196 rfl (by simp) ?_
                                  exact QB.yes (by unfold P2; simp only [Int32.lt_iff_toInt_lt, ← Int32.toInt_inj, Int32.reduceToInt] at *; omega)
                                · refine WGo.s (WStep.iloadN a2_114 rfl) ?_
                                  refine WGo.s (WStep.sipush (8304 : Int32) a2_115 rfl) ?_
                                  refine WGo.lt a2_118 (fun h118 => ?_) (fun h118 => ?_)
                                  · refine WGo.s (WStep.iloadN a2_128 rfl) ?_
                                    refine WGo.s (WStep.sipush (11264 : Int32) a2_129 rfl) ?_
                                    refine WGo.s (WStep.icmpT a2_132 (tlt (by simp only [Int32.lt_iff_toInt_lt, ← Int32.toInt_inj, Int32.reduceToInt] at *; omega)).1) ?_
                                    refine WGo.s (WStep.iloadN a2_142 rfl) ?_
                                    refine WGo.s (WStep.sipush (12289 : Int32) a2_143 rfl) ?_
                                    refine WGo.s (WStep.icmpT a2_146 (tlt (by simp only [Int32.lt_iff_toInt_lt, ← Int32.toInt_inj, Int32.reduceToInt] at *; omega)).1) ?_
                                    refine WGo.s (WStep.iloadN a2_155 rfl) ?_
                                    refine WGo.s (WStep.ldc a2_156 (hw _ (List.mem_of_getElem? (i := 18) rfl))) ?_
                                    refine WGo.s (WStep.icmpT a2_158 (tlt (by simp only [Int32.lt_iff_toInt_lt, ← Int32.toInt_inj, Int32.reduceToInt] at *; omega)).1) ?_
                                    refine WGo.s (WStep.iloadN a2_167 rfl) ?_
                                    refine WGo.s (WStep.ldc a2_168 (hw _ (List.mem_of_getElem? (i := 19) rfl))) ?_
                                    refine WGo.s (WStep.icmpT a2_170 (tlt (by simp only [Int32.lt_iff_toInt_lt, ← Int32.toInt_inj, Int32.reduceToInt] at *; omega)).1) ?_
                                    refine WGo.s (WStep.iloadN a2_179 rfl) ?_
                                    refine WGo.s (WStep.ldc a2_180 (hw _ (List.mem_of_getElem? (i := 20) rfl))) ?_
                                    refine WGo.s (WStep.icmpT a2_182 (tlt (by simp only [Int32.lt_iff_toInt_lt, ← Int32.toInt_inj, Int32.reduceToInt] at *; omega)).1) ?_
                                    refine WGo.s (WStep.iconst (0 : Int32) a2_195 rfl) ?_
                                    refine WGo.ireturn .boolean a2_196 rfl (by simp) ?_
                                    exact QB.no (by unfold P2; simp only [Int32.lt_iff_toInt_lt, ← Int32.toInt_inj, Int32.reduceToInt] at *; omega)
                                  · refine WGo.s (WStep.iloadN a2_121 rfl) ?_
                                    refine WGo.s (WStep.sipush (8591 : Int32) a2_122 rfl) ?_
                                    refine WGo.le a2_125 (fun h125 => ?_) (fun h125 => ?_)
                                    · refine WGo.s (WStep.iconst (1 : Int32) a2_191 rfl) ?_
                                      refine WGo.s (WStep.goto a2_192) ?_
                                      refine WGo.ireturn .boolean a2_196 rfl (by simp) ?_
                                      exact QB.yes (by unfold P2; simp only [Int32.lt_iff_toInt_lt, ← Int32.toInt_inj, Int32.reduceToInt] at *; omega)
                                    · refine WGo.s (WStep.iloadN a2_128 rfl) ?_
                                      refine WGo.s (WStep.sipush (11264 : Int32) a2_129 rfl) ?_
                                      refine WGo.lt a2_132 (fun h132 => ?_) (fun h132 => ?_)
                                      · refine WGo.s (WStep.iloadN a2_142 rfl) ?_
                                        refine WGo.s (WStep.sipush (12289 : Int32) a2_143 rfl) ?_
                                        refine WGo.s (WStep.icmpT a2_146 (tlt (by simp only [Int32.lt_iff_toInt_lt, ← Int32.toInt_inj, Int32.reduceToInt] at *; omega)).1) ?_
                                        refine WGo.s (WStep.iloadN a2_155 rfl) ?_
                                        refine WGo.s (WStep.ldc a2_156 (hw _ (List.mem_of_getElem? (i := 18) rfl))) ?_
                                        refine WGo.s (WStep.icmpT a2_158 (tlt (by simp only [Int32.lt_iff_toInt_lt, ← Int32.toInt_inj, Int32.reduceToInt] at *; omega)).1) ?_
                                        refine WGo.s (WStep.iloadN a2_167 rfl) ?_
                                        refine WGo.s (WStep.ldc a2_168 (hw _ (List.mem_of_getElem? (i := 19) rfl))) ?_
                                        refine WGo.s (WStep.icmpT a2_170 (tlt (by simp only [Int32.lt_iff_toInt_lt, ← Int32.toInt_inj, Int32.reduceToInt] at *; omega)).1) ?_
                                        refine WGo.s (WStep.iloadN a2_179 rfl) ?_
                                        refine WGo.s (WStep.ldc a2_180 (hw _ (List.mem_of_getElem? (i := 20) rfl))) ?_
                                        refine WGo.s (WStep.icmpT a2_182 (tlt (by simp only [Int32.lt_iff_toInt_lt, ← Int32.toInt_inj, Int32.reduceToInt] at *; omega)).1) ?_
                                        refine WGo.s (WStep.iconst (0 : Int32) a2_195 rfl) ?_
                                        refine WGo.ireturn .boolean a2_196 rfl (by simp) ?_
                                        exact QB.no (by unfold P2; simp only [Int32.lt_iff_toInt_lt, ← Int32.toInt_inj, Int32.reduceToInt] at *; omega)
                                      · refine WGo.s (WStep.iloadN a2_135 rfl) ?_
                                        refine WGo.s (WStep.sipush (12271 : Int32) a2_136 rfl) ?_
                                        refine WGo.le a2_139 (fun h139 => ?_) (fun h139 => ?_)
                                        · refine WGo.s (WStep.iconst (1 : Int32) a2_191 rfl) ?_
                                          refine WGo.s (WStep.goto a2_192) ?_
                                          refine WGo.ireturn .boolean a2_196 rfl (by simp) ?_
                                          exact QB.yes (by unfold P2; simp only [Int32.lt_iff_toInt_lt, ← Int32.toInt_inj, Int32.reduceToInt] at *; omega)
                                        · refine WGo.s (WStep.iloadN a2_142 rfl) ?_
                                          refine WGo.s (WStep.sipush (12289 : Int32) a2_143 rfl) ?_
                                          refine WGo.lt a2_146 (fun h146 => ?_) (fun h146 => ?_)
                                          · refine WGo.s (WStep.iloadN a2_155 rfl) ?_
                                            refine WGo.s (WStep.ldc a2_156 (hw _ (List.mem_of_getElem? (i := 18) rfl))) ?_
                                            refine WGo.s (WStep.icmpT a2_158 (tlt (by simp only [Int32.lt_iff_toInt_lt, ← Int32.toInt_inj, Int32.reduceToInt] at *; omega)).1) ?_
                                            refine WGo.s (WStep.iloadN a2_167 rfl) ?_
                                            refine WGo.s (WStep.ldc a2_168 (hw _ (List.mem_of_getElem? (i := 19) rfl))) ?_
                                            refine WGo.s (WStep.icmpT a2_170 (tlt (by simp only [Int32.lt_iff_toInt_lt, ← Int32.toInt_inj, Int32.reduceToInt] at *; omega)).1) ?_
                                            refine WGo.s (WStep.iloadN a2_179 rfl) ?_
                                            refine WGo.s (WStep.ldc a2_180 (hw _ (List.mem_of_getElem? (i := 20) rfl))) ?_
                                            refine WGo.s (WStep.icmpT a2_182 (tlt (by simp only [Int32.lt_iff_toInt_lt, ← Int32.toInt_inj, Int32.reduceToInt] at *; omega)).1) ?_
                                            refine WGo.s (WStep.iconst (0 : Int32) a2_195 rfl) ?_
                                            refine WGo.ireturn .boolean a2_196 rfl (by simp) ?_
                                            exact QB.no (by unfold P2; simp only [Int32.lt_iff_toInt_lt, ← Int32.toInt_inj, Int32.reduceToInt] at *; omega)
                                          · refine WGo.s (WStep.iloadN a2_149 rfl) ?_
                                            refine WGo.s (WStep.ldc a2_150 (hw _ (List.mem_of_getElem? (i := 30) rfl))) ?_
                                            refine WGo.le a2_152 (fun h152 => ?_) (fun h152 => ?_)
                                            · refine WGo.s (WStep.iconst (1 : Int32) a2_191 rfl) ?_
                                              refine WGo.s (WStep.goto a2_192) ?_
                                              refine WGo.ireturn .boolean a2_196 rfl (by simp) ?_
                                              exact QB.yes (by unfold P2; simp only [Int32.lt_iff_toInt_lt, ← Int32.toInt_inj, Int32.reduceToInt] at *; omega)
                                            · refine WGo.s (WStep.iloadN a2_155 rfl) ?_
                                              refine WGo.s (WStep.ldc a2_156 (hw _ (List.mem_of_getElem? (i := 18) rfl))) ?_
                                              refine WGo.lt a2_158 (fun h158 => ?_) (fun h158 => ?_)
                                              · refine WGo.s (WStep.iloadN a2_167 rfl) ?_
                                                refine WGo.s (WStep.ldc a2_168 (hw _ (List.mem_of_getElem? (i := 19) rfl))) ?_
                                                refine WGo.s (WStep.icmpT a2_170 (tlt (by simp only [Int32.lt_iff_toInt_lt, ← Int32.toInt_inj, Int32.reduceToInt] at *; omega)).1) ?_
                                                refine WGo.s (WStep.iloadN a2_179 rfl) ?_
                                                refine WGo.s (WStep.ldc a2_180 (hw _ (List.mem_of_getElem? (i := 20) rfl))) ?_
                                                refine WGo.s (WStep.icmpT a2_182 (tlt (by simp only [Int32.lt_iff_toInt_lt, ← Int32.toInt_inj, Int32.reduceToInt] at *; omega)).1) ?_
                                                refine WGo.s (WStep.iconst (0 : Int32) a2_195 rfl) ?_
                                                refine WGo.ireturn .boolean a2_196 rfl (by simp) ?_
                                                exact QB.no (by unfold P2; simp only [Int32.lt_iff_toInt_lt, ← Int32.toInt_inj, Int32.reduceToInt] at *; omega)
                                              · refine WGo.s (WStep.iloadN a2_161 rfl) ?_
                                                refine WGo.s (WStep.ldc a2_162 (hw _ (List.mem_of_getElem? (i := 31) rfl))) ?_
                                                refine WGo.le a2_164 (fun h164 => ?_) (fun h164 => ?_)
                                                · refine WGo.s (WStep.iconst (1 : Int32) a2_191 rfl) ?_
                                                  refine WGo.s (WStep.goto a2_192) ?_
                                                  refine WGo.ireturn .boolean a2_196 rfl (by simp) ?_
                                                  exact QB.yes (by unfold P2; simp only [Int32.lt_iff_toInt_lt, ← Int32.toInt_inj, Int32.reduceToInt] at *; omega)
                                                · refine WGo.s (WStep.iloadN a2_167 rfl) ?_
                                                  refine WGo.s (WStep.ldc a2_168 (hw _ (List.mem_of_getElem? (i := 19) rfl))) ?_
                                                  refine WGo.lt a2_170 (fun h170 => ?_) (fun h170 => ?_)
                                                  · refine WGo.s (WStep.iloadN a2_179 rfl) ?_
                                                    refine WGo.s (WStep.ldc a2_180 (hw _ (List.mem_of_getElem? (i := 20) rfl))) ?_
                                                    refine WGo.s (WStep.icmpT a2_182 (tlt (by simp only [Int32.lt_iff_toInt_lt, ← Int32.toInt_inj, Int32.reduceToInt] at *; omega)).1) ?_
                                                    refine WGo.s (WStep.iconst (0 : Int32) a2_195 rfl) ?_
                                                    refine WGo.ireturn .boolean a2_196 rfl (by simp) ?_
                                                    exact QB.no (by unfold P2; simp only [Int32.lt_iff_toInt_lt, ← Int32.toInt_inj, Int32.reduceToInt] at *; omega)
                                                  · refine WGo.s (WStep.iloadN a2_173 rfl) ?_
                                                    refine WGo.s (WStep.ldc a2_174 (hw _ (List.mem_of_getElem? (i := 32) rfl))) ?_
                                                    refine WGo.le a2_176 (fun h176 => ?_) (fun h176 => ?_)
                                                    · refine WGo.s (WStep.iconst (1 : Int32) a2_191 rfl) ?_
                                                      refine WGo.s (WStep.goto a2_192) ?_
                                                      refine WGo.ireturn .boolean a2_196 rfl (by simp) ?_
                                                      exact QB.yes (by unfold P2; simp only [Int32.lt_iff_toInt_lt, ← Int32.toInt_inj, Int32.reduceToInt] at *; omega)
                                                    · refine WGo.s (WStep.iloadN a2_179 rfl) ?_
                                                      refine WGo.s (WStep.ldc a2_180 (hw _ (List.mem_of_getElem? (i := 20) rfl))) ?_
                                                      refine WGo.lt a2_182 (fun h182 => ?_) (fun h182 => ?_)
                                                      · refine WGo.s (WStep.iconst (0 : Int32) a2_195 rfl) ?_
                                                        refine WGo.ireturn .boolean a2_196 rfl (by simp) ?_
                                                        exact QB.no (by unfold P2; simp only [Int32.lt_iff_toInt_lt, ← Int32.toInt_inj, Int32.reduceToInt] at *; omega)
                                                      · refine WGo.s (WStep.iloadN a2_185 rfl) ?_
                                                        refine WGo.s (WStep.ldc a2_186 (hw _ (List.mem_of_getElem? (i := 33) rfl))) ?_
                                                        refine WGo.gt a2_188 (fun h188 => ?_) (fun h188 => ?_)
                                                        · refine WGo.s (WStep.iconst (0 : Int32) a2_195 rfl) ?_
                                                          refine WGo.ireturn .boolean a2_196 rfl (by simp) ?_
                                                          exact QB.no (by unfold P2; simp only [Int32.lt_iff_toInt_lt, ← Int32.toInt_inj, Int32.reduceToInt] at *; omega)
                                                        · refine WGo.s (WStep.iconst (1 : Int32) a2_191 rfl) ?_
                                                          refine WGo.s (WStep.goto a2_192) ?_
                                                          refine WGo.ireturn .boolean a2_196 rfl (by simp) ?_
                                                          exact QB.yes (by unfold P2; simp only [Int32.lt_iff_toInt_lt, ← Int32.toInt_inj, Int32.reduceToInt] at *; omega)
def P3 (x : Int32) : Prop := ¬ P2 x
theorem c3 {Z : State} {a0 : Array Value} (hw : ∀ d ∈ tables_1, d.before a0 Z = true) (ρ : Nat → Nat) (n0 : Nat) (x : Int32) (σ : WHp) (u : Nat) : WGo (g3 Z ρ n0 σ.length u) (0, [.val (.int x)], [], σ, u) (QB (P3 x) σ u) := by
  refine WGo.s (WStep.iloadN a3_0 rfl) ?_
  refine WGo.s (WStep.bipush (65 : Int32) a3_1 rfl) ?_
  refine WGo.ge a3_3 (fun h3 => ?_) (fun h3 => ?_)
  · refine WGo.s (WStep.iloadN a3_8 rfl) ?_
    refine WGo.s (WStep.bipush (91 : Int32) a3_9 rfl) ?_
    refine WGo.lt a3_11 (fun h11 => ?_) (fun h11 => ?_)
    · refine WGo.s (WStep.iloadN a3_22 rfl) ?_
      refine WGo.s (WStep.bipush (96 : Int32) a3_23 rfl) ?_
      refine WGo.s (WStep.icmpT a3_25 (feq (by simp only [Int32.lt_iff_toInt_lt, ← Int32.toInt_inj, Int32.reduceToInt] at *; omega)).2) ?_
      refine WGo.s (WStep.iloadN a3_30 rfl) ?_
      refine WGo.s (WStep.bipush (123 : Int32) a3_31 rfl) ?_
      refine WGo.s (WStep.icmpT a3_33 (tlt (by simp only [Int32.lt_iff_toInt_lt, ← Int32.toInt_inj, Int32.reduceToInt] at *; omega)).1) ?_
      refine WGo.s (WStep.iloadN a3_45 rfl) ?_
      refine WGo.s (WStep.sipush (215 : Int32) a3_46 rfl) ?_
      refine WGo.s (WStep.icmpT a3_49 (feq (by simp only [Int32.lt_iff_toInt_lt, ← Int32.toInt_inj, Int32.reduceToInt] at *; omega)).2) ?_
      refine WGo.s (WStep.iloadN a3_54 rfl) ?_
      refine WGo.s (WStep.sipush (247 : Int32) a3_55 rfl) ?_
      refine WGo.s (WStep.icmpT a3_58 (feq (by simp only [Int32.lt_iff_toInt_lt, ← Int32.toInt_inj, Int32.reduceToInt] at *; omega)).2) ?_
      refine WGo.s (WStep.iloadN a3_63 rfl) ?_
      refine WGo.s (WStep.sipush (768 : Int32) a3_64 rfl) ?_
      refine WGo.s (WStep.icmpT a3_67 (tlt (by simp only [Int32.lt_iff_toInt_lt, ← Int32.toInt_inj, Int32.reduceToInt] at *; omega)).1) ?_
      refine WGo.s (WStep.iloadN a3_79 rfl) ?_
      refine WGo.s (WStep.sipush (894 : Int32) a3_80 rfl) ?_
      refine WGo.s (WStep.icmpT a3_83 (feq (by simp only [Int32.lt_iff_toInt_lt, ← Int32.toInt_inj, Int32.reduceToInt] at *; omega)).2) ?_
      refine WGo.s (WStep.iloadN a3_88 rfl) ?_
      refine WGo.s (WStep.sipush (8192 : Int32) a3_89 rfl) ?_
      refine WGo.s (WStep.icmpT a3_92 (tlt (by simp only [Int32.lt_iff_toInt_lt, ← Int32.toInt_inj, Int32.reduceToInt] at *; omega)).1) ?_
      refine WGo.s (WStep.iloadN a3_104 rfl) ?_
      refine WGo.s (WStep.sipush (8206 : Int32) a3_105 rfl) ?_
      refine WGo.s (WStep.icmpT a3_108 (tlt (by simp only [Int32.lt_iff_toInt_lt, ← Int32.toInt_inj, Int32.reduceToInt] at *; omega)).1) ?_
      refine WGo.s (WStep.iloadN a3_120 rfl) ?_
      refine WGo.s (WStep.sipush (8592 : Int32) a3_121 rfl) ?_
      refine WGo.s (WStep.icmpT a3_124 (tlt (by simp only [Int32.lt_iff_toInt_lt, ← Int32.toInt_inj, Int32.reduceToInt] at *; omega)).1) ?_
      refine WGo.s (WStep.iloadN a3_136 rfl) ?_
      refine WGo.s (WStep.sipush (12272 : Int32) a3_137 rfl) ?_
      refine WGo.s (WStep.icmpT a3_140 (tlt (by simp only [Int32.lt_iff_toInt_lt, ← Int32.toInt_inj, Int32.reduceToInt] at *; omega)).1) ?_
      refine WGo.s (WStep.iloadN a3_152 rfl) ?_
      refine WGo.s (WStep.ldc a3_153 (hw _ (List.mem_of_getElem? (i := 24) rfl))) ?_
      refine WGo.s (WStep.icmpT a3_155 (tlt (by simp only [Int32.lt_iff_toInt_lt, ← Int32.toInt_inj, Int32.reduceToInt] at *; omega)).1) ?_
      refine WGo.s (WStep.iloadN a3_166 rfl) ?_
      refine WGo.s (WStep.ldc a3_167 (hw _ (List.mem_of_getElem? (i := 25) rfl))) ?_
      refine WGo.s (WStep.icmpT a3_169 (tlt (by simp only [Int32.lt_iff_toInt_lt, ← Int32.toInt_inj, Int32.reduceToInt] at *; omega)).1) ?_
      refine WGo.s (WStep.iloadN a3_180 rfl) ?_
      refine WGo.s (WStep.ldc a3_181 (hw _ (List.mem_of_getElem? (i := 26) rfl))) ?_
      refine WGo.s (WStep.icmpT a3_183 (tlt (by simp only [Int32.lt_iff_toInt_lt, ← Int32.toInt_inj, Int32.reduceToInt] at *; omega)).1) ?_
      refine WGo.s (WStep.iloadN a3_194 rfl) ?_
      refine WGo.s (WStep.ldc a3_195 (hw _ (List.mem_of_getElem? (i := 7) rfl))) ?_
      refine WGo.s (WStep.icmpT a3_197 (flt (by simp only [Int32.lt_iff_toInt_lt, ← Int32.toInt_inj, Int32.reduceToInt] at *; omega)).2.2.2) ?_
      refine WGo.s (WStep.iconst (0 : Int32) a3_202 rfl) ?_
      refine WGo.ireturn .boolean a3_203 rfl (by simp) ?_
      exact QB.no (by unfold P3 P2; simp only [Int32.lt_iff_toInt_lt, ← Int32.toInt_inj, Int32.reduceToInt] at *; omega)
    · refine WGo.s (WStep.iloadN a3_14 rfl) ?_
      refine WGo.s (WStep.bipush (94 : Int32) a3_15 rfl) ?_
      refine WGo.gt a3_17 (fun h17 => ?_) (fun h17 => ?_)
      · refine WGo.s (WStep.iloadN a3_22 rfl) ?_
        refine WGo.s (WStep.bipush (96 : Int32) a3_23 rfl) ?_
        refine WGo.ne a3_25 (fun h25 => ?_) (fun h25 => ?_)
        · refine WGo.s (WStep.iloadN a3_30 rfl) ?_
          refine WGo.s (WStep.bipush (123 : Int32) a3_31 rfl) ?_
          refine WGo.lt a3_33 (fun h33 => ?_) (fun h33 => ?_)
          · refine WGo.s (WStep.iloadN a3_45 rfl) ?_
            refine WGo.s (WStep.sipush (215 : Int32) a3_46 rfl) ?_
            refine WGo.s (WStep.icmpT a3_49 (feq (by simp only [Int32.lt_iff_toInt_lt, ← Int32.toInt_inj, Int32.reduceToInt] at *; omega)).2) ?_
            refine WGo.s (WStep.iloadN a3_54 rfl) ?_
            refine WGo.s (WStep.sipush (247 : Int32) a3_55 rfl) ?_
            refine WGo.s (WStep.icmpT a3_58 (feq (by simp only [Int32.lt_iff_toInt_lt, ← Int32.toInt_inj, Int32.reduceToInt] at *; omega)).2) ?_
            refine WGo.s (WStep.iloadN a3_63 rfl) ?_
            refine WGo.s (WStep.sipush (768 : Int32) a3_64 rfl) ?_
            refine WGo.s (WStep.icmpT a3_67 (tlt (by simp only [Int32.lt_iff_toInt_lt, ← Int32.toInt_inj, Int32.reduceToInt] at *; omega)).1) ?_
            refine WGo.s (WStep.iloadN a3_79 rfl) ?_
            refine WGo.s (WStep.sipush (894 : Int32) a3_80 rfl) ?_
            refine WGo.s (WStep.icmpT a3_83 (feq (by simp only [Int32.lt_iff_toInt_lt, ← Int32.toInt_inj, Int32.reduceToInt] at *; omega)).2) ?_
            refine WGo.s (WStep.iloadN a3_88 rfl) ?_
            refine WGo.s (WStep.sipush (8192 : Int32) a3_89 rfl) ?_
            refine WGo.s (WStep.icmpT a3_92 (tlt (by simp only [Int32.lt_iff_toInt_lt, ← Int32.toInt_inj, Int32.reduceToInt] at *; omega)).1) ?_
            refine WGo.s (WStep.iloadN a3_104 rfl) ?_
            refine WGo.s (WStep.sipush (8206 : Int32) a3_105 rfl) ?_
            refine WGo.s (WStep.icmpT a3_108 (tlt (by simp only [Int32.lt_iff_toInt_lt, ← Int32.toInt_inj, Int32.reduceToInt] at *; omega)).1) ?_
            refine WGo.s (WStep.iloadN a3_120 rfl) ?_
            refine WGo.s (WStep.sipush (8592 : Int32) a3_121 rfl) ?_
            refine WGo.s (WStep.icmpT a3_124 (tlt (by simp only [Int32.lt_iff_toInt_lt, ← Int32.toInt_inj, Int32.reduceToInt] at *; omega)).1) ?_
            refine WGo.s (WStep.iloadN a3_136 rfl) ?_
            refine WGo.s (WStep.sipush (12272 : Int32) a3_137 rfl) ?_
            refine WGo.s (WStep.icmpT a3_140 (tlt (by simp only [Int32.lt_iff_toInt_lt, ← Int32.toInt_inj, Int32.reduceToInt] at *; omega)).1) ?_
            refine WGo.s (WStep.iloadN a3_152 rfl) ?_
            refine WGo.s (WStep.ldc a3_153 (hw _ (List.mem_of_getElem? (i := 24) rfl))) ?_
            refine WGo.s (WStep.icmpT a3_155 (tlt (by simp only [Int32.lt_iff_toInt_lt, ← Int32.toInt_inj, Int32.reduceToInt] at *; omega)).1) ?_
            refine WGo.s (WStep.iloadN a3_166 rfl) ?_
            refine WGo.s (WStep.ldc a3_167 (hw _ (List.mem_of_getElem? (i := 25) rfl))) ?_
            refine WGo.s (WStep.icmpT a3_169 (tlt (by simp only [Int32.lt_iff_toInt_lt, ← Int32.toInt_inj, Int32.reduceToInt] at *; omega)).1) ?_
            refine WGo.s (WStep.iloadN a3_180 rfl) ?_
            refine WGo.s (WStep.ldc a3_181 (hw _ (List.mem_of_getElem? (i := 26) rfl))) ?_
            refine WGo.s (WStep.icmpT a3_183 (tlt (by simp only [Int32.lt_iff_toInt_lt, ← Int32.toInt_inj, Int32.reduceToInt] at *; omega)).1) ?_
            refine WGo.s (WStep.iloadN a3_194 rfl) ?_
            refine WGo.s (WStep.ldc a3_195 (hw _ (List.mem_of_getElem? (i := 7) rfl))) ?_
            refine WGo.s (WStep.icmpT a3_197 (flt (by simp only [Int32.lt_iff_toInt_lt, ← Int32.toInt_inj, Int32.reduceToInt] at *; omega)).2.2.2) ?_
            refine WGo.s (WStep.iconst (0 : Int32) a3_202 rfl) ?_
            refine WGo.ireturn .boolean a3_203 rfl (by simp) ?_
            exact QB.no (by unfold P3 P2; simp only [Int32.lt_iff_toInt_lt, ← Int32.toInt_inj, Int32.reduceToInt] at *; omega)
          · refine WGo.s (WStep.iloadN a3_36 rfl) ?_
            refine WGo.s (WStep.sipush (191 : Int32) a3_37 rfl) ?_
            refine WGo.gt a3_40 (fun h40 => ?_) (fun h40 => ?_)
            · refine WGo.s (WStep.iloadN a3_45 rfl) ?_
              refine WGo.s (WStep.sipush (215 : Int32) a3_46 rfl) ?_
              refine WGo.ne a3_49 (fun h49 => ?_) (fun h49 => ?_)
              · refine WGo.s (WStep.iloadN a3_54 rfl) ?_
                refine WGo.s (WStep.sipush (247 : Int32) a3_55 rfl) ?_
                refine WGo.ne a3_58 (fun h58 => ?_) (fun h58 => ?_)
                · refine WGo.s (WStep.iloadN a3_63 rfl) ?_
                  refine WGo.s (WStep.sipush (768 : Int32) a3_64 rfl) ?_
                  refine WGo.lt a3_67 (fun h67 => ?_) (fun h67 => ?_)
                  · refine WGo.s (WStep.iloadN a3_79 rfl) ?_
                    refine WGo.s (WStep.sipush (894 : Int32) a3_80 rfl) ?_
                    refine WGo.s (WStep.icmpT a3_83 (feq (by simp only [Int32.lt_iff_toInt_lt, ← Int32.toInt_inj, Int32.reduceToInt] at *; omega)).2) ?_
                    refine WGo.s (WStep.iloadN a3_88 rfl) ?_
                    refine WGo.s (WStep.sipush (8192 : Int32) a3_89 rfl) ?_
                    refine WGo.s (WStep.icmpT a3_92 (tlt (by simp only [Int32.lt_iff_toInt_lt, ← Int32.toInt_inj, Int32.reduceToInt] at *; omega)).1) ?_
                    refine WGo.s (WStep.iloadN a3_104 rfl) ?_
                    refine WGo.s (WStep.sipush (8206 : Int32) a3_105 rfl) ?_
                    refine WGo.s (WStep.icmpT a3_108 (tlt (by simp only [Int32.lt_iff_toInt_lt, ← Int32.toInt_inj, Int32.reduceToInt] at *; omega)).1) ?_
                    refine WGo.s (WStep.iloadN a3_120 rfl) ?_
                    refine WGo.s (WStep.sipush (8592 : Int32) a3_121 rfl) ?_
                    refine WGo.s (WStep.icmpT a3_124 (tlt (by simp only [Int32.lt_iff_toInt_lt, ← Int32.toInt_inj, Int32.reduceToInt] at *; omega)).1) ?_
                    refine WGo.s (WStep.iloadN a3_136 rfl) ?_
                    refine WGo.s (WStep.sipush (12272 : Int32) a3_137 rfl) ?_
                    refine WGo.s (WStep.icmpT a3_140 (tlt (by simp only [Int32.lt_iff_toInt_lt, ← Int32.toInt_inj, Int32.reduceToInt] at *; omega)).1) ?_
                    refine WGo.s (WStep.iloadN a3_152 rfl) ?_
                    refine WGo.s (WStep.ldc a3_153 (hw _ (List.mem_of_getElem? (i := 24) rfl))) ?_
                    refine WGo.s (WStep.icmpT a3_155 (tlt (by simp only [Int32.lt_iff_toInt_lt, ← Int32.toInt_inj, Int32.reduceToInt] at *; omega)).1) ?_
                    refine WGo.s (WStep.iloadN a3_166 rfl) ?_
                    refine WGo.s (WStep.ldc a3_167 (hw _ (List.mem_of_getElem? (i := 25) rfl))) ?_
                    refine WGo.s (WStep.icmpT a3_169 (tlt (by simp only [Int32.lt_iff_toInt_lt, ← Int32.toInt_inj, Int32.reduceToInt] at *; omega)).1) ?_
                    refine WGo.s (WStep.iloadN a3_180 rfl) ?_
                    refine WGo.s (WStep.ldc a3_181 (hw _ (List.mem_of_getElem? (i := 26) rfl))) ?_
                    refine WGo.s (WStep.icmpT a3_183 (tlt (by simp only [Int32.lt_iff_toInt_lt, ← Int32.toInt_inj, Int32.reduceToInt] at *; omega)).1) ?_
                    refine WGo.s (WStep.iloadN a3_194 rfl) ?_
                    refine WGo.s (WStep.ldc a3_195 (hw _ (List.mem_of_getElem? (i := 7) rfl))) ?_
                    refine WGo.s (WStep.icmpT a3_197 (flt (by simp only [Int32.lt_iff_toInt_lt, ← Int32.toInt_inj, Int32.reduceToInt] at *; omega)).2.2.2) ?_
                    refine WGo.s (WStep.iconst (0 : Int32) a3_202 rfl) ?_
                    refine WGo.ireturn .boolean a3_203 rfl (by simp) ?_
                    exact QB.no (by unfold P3 P2; simp only [Int32.lt_iff_toInt_lt, ← Int32.toInt_inj, Int32.reduceToInt] at *; omega)
                  · refine WGo.s (WStep.iloadN a3_70 rfl) ?_
                    refine WGo.s (WStep.sipush (879 : Int32) a3_71 rfl) ?_
                    refine WGo.gt a3_74 (fun h74 => ?_) (fun h74 => ?_)
                    · refine WGo.s (WStep.iloadN a3_79 rfl) ?_
                      refine WGo.s (WStep.sipush (894 : Int32) a3_80 rfl) ?_
                      refine WGo.ne a3_83 (fun h83 => ?_) (fun h83 => ?_)
                      · refine WGo.s (WStep.iloadN a3_88 rfl) ?_
                        refine WGo.s (WStep.sipush (8192 : Int32) a3_89 rfl) ?_
                        refine WGo.lt a3_92 (fun h92 => ?_) (fun h92 => ?_)
                        · refine WGo.s (WStep.iloadN a3_104 rfl) ?_
                          refine WGo.s (WStep.sipush (8206 : Int32) a3_105 rfl) ?_
                          refine WGo.s (WStep.icmpT a3_108 (tlt (by simp only [Int32.lt_iff_toInt_lt, ← Int32.toInt_inj, Int32.reduceToInt] at *; omega)).1) ?_
                          refine WGo.s (WStep.iloadN a3_120 rfl) ?_
                          refine WGo.s (WStep.sipush (8592 : Int32) a3_121 rfl) ?_
                          refine WGo.s (WStep.icmpT a3_124 (tlt (by simp only [Int32.lt_iff_toInt_lt, ← Int32.toInt_inj, Int32.reduceToInt] at *; omega)).1) ?_
                          refine WGo.s (WStep.iloadN a3_136 rfl) ?_
                          refine WGo.s (WStep.sipush (12272 : Int32) a3_137 rfl) ?_
                          refine WGo.s (WStep.icmpT a3_140 (tlt (by simp only [Int32.lt_iff_toInt_lt, ← Int32.toInt_inj, Int32.reduceToInt] at *; omega)).1) ?_
                          refine WGo.s (WStep.iloadN a3_152 rfl) ?_
                          refine WGo.s (WStep.ldc a3_153 (hw _ (List.mem_of_getElem? (i := 24) rfl))) ?_
                          refine WGo.s (WStep.icmpT a3_155 (tlt (by simp only [Int32.lt_iff_toInt_lt, ← Int32.toInt_inj, Int32.reduceToInt] at *; omega)).1) ?_
                          refine WGo.s (WStep.iloadN a3_166 rfl) ?_
                          refine WGo.s (WStep.ldc a3_167 (hw _ (List.mem_of_getElem? (i := 25) rfl))) ?_
                          refine WGo.s (WStep.icmpT a3_169 (tlt (by simp only [Int32.lt_iff_toInt_lt, ← Int32.toInt_inj, Int32.reduceToInt] at *; omega)).1) ?_
                          refine WGo.s (WStep.iloadN a3_180 rfl) ?_
                          refine WGo.s (WStep.ldc a3_181 (hw _ (List.mem_of_getElem? (i := 26) rfl))) ?_
                          refine WGo.s (WStep.icmpT a3_183 (tlt (by simp only [Int32.lt_iff_toInt_lt, ← Int32.toInt_inj, Int32.reduceToInt] at *; omega)).1) ?_
                          refine WGo.s (WStep.iloadN a3_194 rfl) ?_
                          refine WGo.s (WStep.ldc a3_195 (hw _ (List.mem_of_getElem? (i := 7) rfl))) ?_
                          refine WGo.s (WStep.icmpT a3_197 (flt (by simp only [Int32.lt_iff_toInt_lt, ← Int32.toInt_inj, Int32.reduceToInt] at *; omega)).2.2.2) ?_
                          refine WGo.s (WStep.iconst (0 : Int32) a3_202 rfl) ?_
                          refine WGo.ireturn .boolean a3_203 rfl (by simp) ?_
                          exact QB.no (by unfold P3 P2; simp only [Int32.lt_iff_toInt_lt, ← Int32.toInt_inj, Int32.reduceToInt] at *; omega)
                        · refine WGo.s (WStep.iloadN a3_95 rfl) ?_
                          refine WGo.s (WStep.sipush (8203 : Int32) a3_96 rfl) ?_
                          refine WGo.gt a3_99 (fun h99 => ?_) (fun h99 => ?_)
                          · refine WGo.s (WStep.iloadN a3_104 rfl) ?_
                            refine WGo.s (WStep.sipush (8206 : Int32) a3_105 rfl) ?_
                            refine WGo.lt a3_108 (fun h108 => ?_) (fun h108 => ?_)
                            · refine WGo.s (WStep.iloadN a3_120 rfl) ?_
                              refine WGo.s (WStep.sipush (8592 : Int32) a3_121 rfl) ?_
                              refine WGo.s (WStep.icmpT a3_124 (tlt (by simp only [Int32.lt_iff_toInt_lt, ← Int32.toInt_inj, Int32.reduceToInt] at *; omega)).1) ?_
                              refine WGo.s (WStep.iloadN a3_136 rfl) ?_
                              refine WGo.s (WStep.sipush (12272 : Int32) a3_137 rfl) ?_
                              refine WGo.s (WStep.icmpT a3_140 (tlt (by simp only [Int32.lt_iff_toInt_lt, ← Int32.toInt_inj, Int32.reduceToInt] at *; omega)).1) ?_
                              refine WGo.s (WStep.iloadN a3_152 rfl) ?_
                              refine WGo.s (WStep.ldc a3_153 (hw _ (List.mem_of_getElem? (i := 24) rfl))) ?_
                              refine WGo.s (WStep.icmpT a3_155 (tlt (by simp only [Int32.lt_iff_toInt_lt, ← Int32.toInt_inj, Int32.reduceToInt] at *; omega)).1) ?_
                              refine WGo.s (WStep.iloadN a3_166 rfl) ?_
                              refine WGo.s (WStep.ldc a3_167 (hw _ (List.mem_of_getElem? (i := 25) rfl))) ?_
                              refine WGo.s (WStep.icmpT a3_169 (tlt (by simp only [Int32.lt_iff_toInt_lt, ← Int32.toInt_inj, Int32.reduceToInt] at *; omega)).1) ?_
                              refine WGo.s (WStep.iloadN a3_180 rfl) ?_
                              refine WGo.s (WStep.ldc a3_181 (hw _ (List.mem_of_getElem? (i := 26) rfl))) ?_
                              refine WGo.s (WStep.icmpT a3_183 (tlt (by simp only [Int32.lt_iff_toInt_lt, ← Int32.toInt_inj, Int32.reduceToInt] at *; omega)).1) ?_
                              refine WGo.s (WStep.iloadN a3_194 rfl) ?_
                              refine WGo.s (WStep.ldc a3_195 (hw _ (List.mem_of_getElem? (i := 7) rfl))) ?_
                              refine WGo.s (WStep.icmpT a3_197 (flt (by simp only [Int32.lt_iff_toInt_lt, ← Int32.toInt_inj, Int32.reduceToInt] at *; omega)).2.2.2) ?_
                              refine WGo.s (WStep.iconst (0 : Int32) a3_202 rfl) ?_
                              refine WGo.ireturn .boolean a3_203 rfl (by simp) ?_
                              exact QB.no (by unfold P3 P2; simp only [Int32.lt_iff_toInt_lt, ← Int32.toInt_inj, Int32.reduceToInt] at *; omega)
                            · refine WGo.s (WStep.iloadN a3_111 rfl) ?_
                              refine WGo.s (WStep.sipush (8303 : Int32) a3_112 rfl) ?_
                              refine WGo.gt a3_115 (fun h115 => ?_) (fun h115 => ?_)
                              · refine WGo.s (WStep.iloadN a3_120 rfl) ?_
                                refine WGo.s (WStep.sipush (8592 : Int32) a3_121 rfl) ?_
                                refine WGo.lt a3_124 (fun h124 => ?_) (fun h124 => ?_)
                                · refine WGo.s (WStep.iloadN a3_136 rfl) ?_
                                  refine WGo.s (WStep.sipush (12272 : Int32) a3_137 rfl) ?_
                                  refine WGo.s (WStep.icmpT a3_140 (tlt (by simp only [Int32.lt_iff_toInt_lt, ← Int32.toInt_inj, Int32.reduceToInt] at *; omega)).1) ?_
                                  refine WGo.s (WStep.iloadN a3_152 rfl) ?_
                                  refine WGo.s (WStep.ldc a3_153 (hw _ (List.mem_of_getElem? (i := 24) rfl))) ?_
                                  refine WGo.s (WStep.icmpT a3_155 (tlt (by simp only [Int32.lt_iff_toInt_lt, ← Int32.toInt_inj, Int32.reduceToInt] at *; omega)).1) ?_
                                  refine WGo.s (WStep.iloadN a3_166 rfl) ?_
                                  refine WGo.s (WStep.ldc a3_167 (hw _ (List.mem_of_getElem? (i := 25) rfl))) ?_
                                  refine WGo.s (WStep.icmpT a3_169 (tlt (by simp only [Int32.lt_iff_toInt_lt, ← Int32.toInt_inj, Int32.reduceToInt] at *; omega)).1) ?_
                                  refine WGo.s (WStep.iloadN a3_180 rfl) ?_
                                  refine WGo.s (WStep.ldc a3_181 (hw _ (List.mem_of_getElem? (i := 26) rfl))) ?_
                                  refine WGo.s (WStep.icmpT a3_183 (tlt (by simp only [Int32.lt_iff_toInt_lt, ← Int32.toInt_inj, Int32.reduceToInt] at *; omega)).1) ?_
                                  refine WGo.s (WStep.iloadN a3_194 rfl) ?_
                                  refine WGo.s (WStep.ldc a3_195 (hw _ (List.mem_of_getElem? (i := 7) rfl))) ?_
                                  refine WGo.s (WStep.icmpT a3_197 (flt (by simp only [Int32.lt_iff_toInt_lt, ← Int32.toInt_inj, Int32.reduceToInt] at *; omega)).2.2.2) ?_
                                  refine WGo.s (WStep.iconst (0 : Int32) a3_202 rfl) ?_
                                  refine WGo.ireturn .boolean a3_203 rfl (by simp) ?_
                                  exact QB.no (by unfold P3 P2; simp only [Int32.lt_iff_toInt_lt, ← Int32.toInt_inj, Int32.reduceToInt] at *; omega)
                                · refine WGo.s (WStep.iloadN a3_127 rfl) ?_
                                  refine WGo.s (WStep.sipush (11263 : Int32) a3_128 rfl) ?_
                                  refine WGo.gt a3_131 (fun h131 => ?_) (fun h131 => ?_)
                                  · refine WGo.s (WStep.iloadN a3_136 rfl) ?_
                                    refine WGo.s (WStep.sipush (12272 : Int32) a3_137 rfl) ?_
                                    refine WGo.lt a3_140 (fun h140 => ?_) (fun h140 => ?_)
                                    · refine WGo.s (WStep.iloadN a3_152 rfl) ?_
                                      refine WGo.s (WStep.ldc a3_153 (hw _ (List.mem_of_getElem? (i := 24) rfl))) ?_
                                      refine WGo.s (WStep.icmpT a3_155 (tlt (by simp only [Int32.lt_iff_toInt_lt, ← Int32.toInt_inj, Int32.reduceToInt] at *; omega)).1) ?_
                                      refine WGo.s (WStep.iloadN a3_166 rfl) ?_
                                      refine WGo.s (WStep.ldc a3_167 (hw _ (List.mem_of_getElem? (i := 25) rfl))) ?_
                                      refine WGo.s (WStep.icmpT a3_169 (tlt (by simp only [Int32.lt_iff_toInt_lt, ← Int32.toInt_inj, Int32.reduceToInt] at *; omega)).1) ?_
                                      refine WGo.s (WStep.iloadN a3_180 rfl) ?_
                                      refine WGo.s (WStep.ldc a3_181 (hw _ (List.mem_of_getElem? (i := 26) rfl))) ?_
                                      refine WGo.s (WStep.icmpT a3_183 (tlt (by simp only [Int32.lt_iff_toInt_lt, ← Int32.toInt_inj, Int32.reduceToInt] at *; omega)).1) ?_
                                      refine WGo.s (WStep.iloadN a3_194 rfl) ?_
                                      refine WGo.s (WStep.ldc a3_195 (hw _ (List.mem_of_getElem? (i := 7) rfl))) ?_
                                      refine WGo.s (WStep.icmpT a3_197 (flt (by simp only [Int32.lt_iff_toInt_lt, ← Int32.toInt_inj, Int32.reduceToInt] at *; omega)).2.2.2) ?_
                                      refine WGo.s (WStep.iconst (0 : Int32) a3_202 rfl) ?_
                                      refine WGo.ireturn .boolean a3_203 rfl (by simp) ?_
                                      exact QB.no (by unfold P3 P2; simp only [Int32.lt_iff_toInt_lt, ← Int32.toInt_inj, Int32.reduceToInt] at *; omega)
                                    · refine WGo.s (WStep.iloadN a3_143 rfl) ?_
                                      refine WGo.s (WStep.sipush (12288 : Int32) a3_144 rfl) ?_
                                      refine WGo.gt a3_147 (fun h147 => ?_) (fun h147 => ?_)
                                      · refine WGo.s (WStep.iloadN a3_152 rfl) ?_
                                        refine WGo.s (WStep.ldc a3_153 (hw _ (List.mem_of_getElem? (i := 24) rfl))) ?_
                                        refine WGo.lt a3_155 (fun h155 => ?_) (fun h155 => ?_)
                                        · refine WGo.s (WStep.iloadN a3_166 rfl) ?_
                                          refine WGo.s (WStep.ldc a3_167 (hw _ (List.mem_of_getElem? (i := 25) rfl))) ?_
                                          refine WGo.s (WStep.icmpT a3_169 (tlt (by simp only [Int32.lt_iff_toInt_lt, ← Int32.toInt_inj, Int32.reduceToInt] at *; omega)).1) ?_
                                          refine WGo.s (WStep.iloadN a3_180 rfl) ?_
                                          refine WGo.s (WStep.ldc a3_181 (hw _ (List.mem_of_getElem? (i := 26) rfl))) ?_
                                          refine WGo.s (WStep.icmpT a3_183 (tlt (by simp only [Int32.lt_iff_toInt_lt, ← Int32.toInt_inj, Int32.reduceToInt] at *; omega)).1) ?_
                                          refine WGo.s (WStep.iloadN a3_194 rfl) ?_
                                          refine WGo.s (WStep.ldc a3_195 (hw _ (List.mem_of_getElem? (i := 7) rfl))) ?_
                                          refine WGo.s (WStep.icmpT a3_197 (flt (by simp only [Int32.lt_iff_toInt_lt, ← Int32.toInt_inj, Int32.reduceToInt] at *; omega)).2.2.2) ?_
                                          refine WGo.s (WStep.iconst (0 : Int32) a3_202 rfl) ?_
                                          refine WGo.ireturn .boolean a3_203 rfl (by simp) ?_
                                          exact QB.no (by unfold P3 P2; simp only [Int32.lt_iff_toInt_lt, ← Int32.toInt_inj, Int32.reduceToInt] at *; omega)
                                        · refine WGo.s (WStep.iloadN a3_158 rfl) ?_
                                          refine WGo.s (WStep.ldc a3_159 (hw _ (List.mem_of_getElem? (i := 34) rfl))) ?_
                                          refine WGo.gt a3_161 (fun h161 => ?_) (fun h161 => ?_)
                                          · refine WGo.s (WStep.iloadN a3_166 rfl) ?_
                                            refine WGo.s (WStep.ldc a3_167 (hw _ (List.mem_of_getElem? (i := 25) rfl))) ?_
                                            refine WGo.lt a3_169 (fun h169 => ?_) (fun h169 => ?_)
                                            · refine WGo.s (WStep.iloadN a3_180 rfl) ?_
                                              refine WGo.s (WStep.ldc a3_181 (hw _ (List.mem_of_getElem? (i := 26) rfl))) ?_
                                              refine WGo.s (WStep.icmpT a3_183 (tlt (by simp only [Int32.lt_iff_toInt_lt, ← Int32.toInt_inj, Int32.reduceToInt] at *; omega)).1) ?_
                                              refine WGo.s (WStep.iloadN a3_194 rfl) ?_
                                              refine WGo.s (WStep.ldc a3_195 (hw _ (List.mem_of_getElem? (i := 7) rfl))) ?_
                                              refine WGo.s (WStep.icmpT a3_197 (flt (by simp only [Int32.lt_iff_toInt_lt, ← Int32.toInt_inj, Int32.reduceToInt] at *; omega)).2.2.2) ?_
                                              refine WGo.s (WStep.iconst (0 : Int32) a3_202 rfl) ?_
                                              refine WGo.ireturn .boolean a3_203 rfl (by simp) ?_
                                              exact QB.no (by unfold P3 P2; simp only [Int32.lt_iff_toInt_lt, ← Int32.toInt_inj, Int32.reduceToInt] at *; omega)
                                            · refine WGo.s (WStep.iloadN a3_172 rfl) ?_
                                              refine WGo.s (WStep.ldc a3_173 (hw _ (List.mem_of_getElem? (i := 35) rfl))) ?_
                                              refine WGo.gt a3_175 (fun h175 => ?_) (fun h175 => ?_)
                                              · refine WGo.s (WStep.iloadN a3_180 rfl) ?_
                                                refine WGo.s (WStep.ldc a3_181 (hw _ (List.mem_of_getElem? (i := 26) rfl))) ?_
                                                refine WGo.lt a3_183 (fun h183 => ?_) (fun h183 => ?_)
                                                · refine WGo.s (WStep.iloadN a3_194 rfl) ?_
                                                  refine WGo.s (WStep.ldc a3_195 (hw _ (List.mem_of_getElem? (i := 7) rfl))) ?_
                                                  refine WGo.s (WStep.icmpT a3_197 (flt (by simp only [Int32.lt_iff_toInt_lt, ← Int32.toInt_inj, Int32.reduceToInt] at *; omega)).2.2.2) ?_
                                                  refine WGo.s (WStep.iconst (0 : Int32) a3_202 rfl) ?_
                                                  refine WGo.ireturn .boolean a3_203 rfl (by simp) ?_
                                                  exact QB.no (by unfold P3 P2; simp only [Int32.lt_iff_toInt_lt, ← Int32.toInt_inj, Int32.reduceToInt] at *; omega)
                                                · refine WGo.s (WStep.iloadN a3_186 rfl) ?_
                                                  refine WGo.s (WStep.ldc a3_187 (hw _ (List.mem_of_getElem? (i := 36) rfl))) ?_
                                                  refine WGo.gt a3_189 (fun h189 => ?_) (fun h189 => ?_)
                                                  · refine WGo.s (WStep.iloadN a3_194 rfl) ?_
                                                    refine WGo.s (WStep.ldc a3_195 (hw _ (List.mem_of_getElem? (i := 7) rfl))) ?_
                                                    refine WGo.le a3_197 (fun h197 => ?_) (fun h197 => ?_)
                                                    · refine WGo.s (WStep.iconst (0 : Int32) a3_202 rfl) ?_
                                                      refine WGo.ireturn .boolean a3_203 rfl (by simp) ?_
                                                      exact QB.no (by unfold P3 P2; simp only [Int32.lt_iff_toInt_lt, ← Int32.toInt_inj, Int32.reduceToInt] at *; omega)
                                                    · refine WGo.s (WStep.iconst (1 : Int32) a3_200 rfl) ?_
                                                      refine WGo.ireturn .boolean a3_201 rfl (by simp) ?_
                                                      exact QB.yes (by unfold P3 P2; simp only [Int32.lt_iff_toInt_lt, ← Int32.toInt_inj, Int32.reduceToInt] at *; omega)
                                                  · refine WGo.s (WStep.iconst (1 : Int32) a3_192 rfl) ?_
                                                    refine WGo.ireturn .boolean a3_193 rfl (by simp) ?_
                                                    exact QB.yes (by unfold P3 P2; simp only [Int32.lt_iff_toInt_lt, ← Int32.toInt_inj, Int32.reduceToInt] at *; omega)
                                              · refine WGo.s (WStep.iconst (1 : Int32) a3_178 rfl) ?_
                                                refine WGo.ireturn .boolean a3_179 rfl (by simp) ?_
                                                exact QB.yes (by unfold P3 P2; simp only [Int32.lt_iff_toInt_lt, ← Int32.toInt_inj, Int32.reduceToInt] at *; omega)
                                          · refine WGo.s (WStep.iconst (1 : Int32) a3_164 rfl) ?_
                                            refine WGo.ireturn .boolean a3_165 rfl (by simp) ?_
                                            exact QB.yes (by unfold P3 P2; simp only [Int32.lt_iff_toInt_lt, ← Int32.toInt_inj, Int32.reduceToInt] at *; omega)
                                      · refine WGo.s (WStep.iconst (1 : Int32) a3_150 rfl) ?_
                                        refine WGo.ireturn .boolean a3_151 rfl (by simp) ?_
                                        exact QB.yes (by unfold P3 P2; simp only [Int32.lt_iff_toInt_lt, ← Int32.toInt_inj, Int32.reduceToInt] at *; omega)
                                  · refine WGo.s (WStep.iconst (1 : Int32) a3_134 rfl) ?_
                                    refine WGo.ireturn .boolean a3_135 rfl (by simp) ?_
                                    exact QB.yes (by unfold P3 P2; simp only [Int32.lt_iff_toInt_lt, ← Int32.toInt_inj, Int32.reduceToInt] at *; omega)
                              · refine WGo.s (WStep.iconst (1 : Int32) a3_118 rfl) ?_
                                refine WGo.ireturn .boolean a3_119 rfl (by simp) ?_
                                exact QB.yes (by unfold P3 P2; simp only [Int32.lt_iff_toInt_lt, ← Int32.toInt_inj, Int32.reduceToInt] at *; omega)
                          · refine WGo.s (WStep.iconst (1 : Int32) a3_102 rfl) ?_
                            refine WGo.ireturn .boolean a3_103 rfl (by simp) ?_
                            exact QB.yes (by unfold P3 P2; simp only [Int32.lt_iff_toInt_lt, ← Int32.toInt_inj, Int32.reduceToInt] at *; omega)
                      · refine WGo.s (WStep.iconst (1 : Int32) a3_86 rfl) ?_
                        refine WGo.ireturn .boolean a3_87 rfl (by simp) ?_
                        exact QB.yes (by unfold P3 P2; simp only [Int32.lt_iff_toInt_lt, ← Int32.toInt_inj, Int32.reduceToInt] at *; omega)
                    · refine WGo.s (WStep.iconst (1 : Int32) a3_77 rfl) ?_
                      refine WGo.ireturn .boolean a3_78 rfl (by simp) ?_
                      exact QB.yes (by unfold P3 P2; simp only [Int32.lt_iff_toInt_lt, ← Int32.toInt_inj, Int32.reduceToInt] at *; omega)
                · refine WGo.s (WStep.iconst (1 : Int32) a3_61 rfl) ?_
                  refine WGo.ireturn .boolean a3_62 rfl (by simp) ?_
                  exact QB.yes (by unfold P3 P2; simp only [Int32.lt_iff_toInt_lt, ← Int32.toInt_inj, Int32.reduceToInt] at *; omega)
              · refine WGo.s (WStep.iconst (1 : Int32) a3_52 rfl) ?_
                refine WGo.ireturn .boolean a3_53 rfl (by simp) ?_
                exact QB.yes (by unfold P3 P2; simp only [Int32.lt_iff_toInt_lt, ← Int32.toInt_inj, Int32.reduceToInt] at *; omega)
            · refine WGo.s (WStep.iconst (1 : Int32) a3_43 rfl) ?_
              refine WGo.ireturn .boolean a3_44 rfl (by simp) ?_
              exact QB.yes (by unfold P3 P2; simp only [Int32.lt_iff_toInt_lt, ← Int32.toInt_inj, Int32.reduceToInt] at *; omega)
        · refine WGo.s (WStep.iconst (1 : Int32) a3_28 rfl) ?_
          refine WGo.ireturn .boolean a3_29 rfl (by simp) ?_
          exact QB.yes (by unfold P3 P2; simp only [Int32.lt_iff_toInt_lt, ← Int32.toInt_inj, Int32.reduceToInt] at *; omega)
      · refine WGo.s (WStep.iconst (1 : Int32) a3_20 rfl) ?_
        refine WGo.ireturn .boolean a3_21 rfl (by simp) ?_
        exact QB.yes (by unfold P3 P2; simp only [Int32.lt_iff_toInt_lt, ← Int32.toInt_inj, Int32.reduceToInt] at *; omega)
  · refine WGo.s (WStep.iconst (1 : Int32) a3_6 rfl) ?_
    refine WGo.ireturn .boolean a3_7 rfl (by simp) ?_
    exact QB.yes (by unfold P3 P2; simp only [Int32.lt_iff_toInt_lt, ← Int32.toInt_inj, Int32.reduceToInt] at *; omega)
theorem P24 {x : Int32} (h : P2 x) : P4 x := by unfold P2 at h; unfold P4; omega
theorem c1 {Z : State} {a0 : Array Value} (hw : ∀ d ∈ tables_1, d.before a0 Z = true) (ρ : Nat → Nat) (n0 : Nat) (x : Int32) (σ : WHp) (u : Nat) : WGo (g1 Z ρ n0 σ.length u) (0, [.val (.int x), .unset], [], σ, u) (fun v σ' u' => v = some (.int 1) ∧ σ = σ' ∧ u = u') := by
  refine WGo.s (WStep.iloadN a1_0 rfl) ?_
  refine WGo.callS a1_1 (ok2 hw _ _ _ _) (hw _ (List.mem_of_getElem? (i := 14) rfl)) (hw _ (List.mem_of_getElem? (i := 15) rfl)) (argsL := [(.int x)]) (S := []) (c2 hw _ _ x _ _) rfl rfl rfl rfl rfl rfl (Nat.le_of_ble_eq_true rfl) (Nat.le_of_ble_eq_true rfl) ?_
  rintro _ _ _ ⟨⟨rfl, hP2⟩ | ⟨rfl, hP2⟩, rfl, rfl⟩
  · skip
    show WGo _ (4, [.val (.int x), .unset], [(.int (1 : Int32))], σ, u) _
    refine WGo.s (WStep.istoreN (L' := [.val (.int x), .val (.int (1 : Int32))]) a1_4 rfl) ?_
    refine WGo.s (WStep.iloadN a1_5 rfl) ?_
    refine WGo.s (WStep.iloadN a1_6 rfl) ?_
    refine WGo.callS a1_7 (ok3 hw _ _ _ _) (hw _ (List.mem_of_getElem? (i := 21) rfl)) (hw _ (List.mem_of_getElem? (i := 22) rfl)) (argsL := [(.int x)]) (S := [(.int (1 : Int32))]) (c3 hw _ _ x _ _) rfl rfl rfl rfl rfl rfl (Nat.le_of_ble_eq_true rfl) (Nat.le_of_ble_eq_true rfl) ?_
    rintro _ _ _ ⟨⟨rfl, hP3⟩ | ⟨rfl, hP3⟩, rfl, rfl⟩
    · exact absurd hP2 hP3
    · skip
      show WGo _ (10, [.val (.int x), .val (.int (1 : Int32))], [(.int (0 : Int32)), (.int (1 : Int32))], σ, u) _
      refine WGo.s (WStep.ifF a1_10 (by decide)) ?_
      refine WGo.s (WStep.iconst (1 : Int32) a1_13 rfl) ?_
      refine WGo.s (WStep.goto a1_14) ?_
      refine WGo.s (WStep.icmpT a1_18 (by decide)) ?_
      refine WGo.s (WStep.iloadN a1_23 rfl) ?_
      refine WGo.s (WStep.ifF a1_24 (by decide)) ?_
      refine WGo.s (WStep.iloadN a1_27 rfl) ?_
      refine WGo.callS a1_28 (ok4 hw _ _ _ _) (hw _ (List.mem_of_getElem? (i := 27) rfl)) (hw _ (List.mem_of_getElem? (i := 28) rfl)) (argsL := [(.int x)]) (S := []) (c4 hw _ _ x _ _) rfl rfl rfl rfl rfl rfl (Nat.le_of_ble_eq_true rfl) (Nat.le_of_ble_eq_true rfl) ?_
      rintro _ _ _ ⟨⟨rfl, hP4⟩ | ⟨rfl, hP4⟩, rfl, rfl⟩
      · skip
        show WGo _ (31, [.val (.int x), .val (.int (1 : Int32))], [(.int (1 : Int32))], σ, u) _
        refine WGo.s (WStep.ifT a1_31 (by decide)) ?_
        refine WGo.s (WStep.iconst (1 : Int32) a1_36 rfl) ?_
        refine WGo.ireturn .boolean a1_37 rfl (by simp) ?_
        exact ⟨rfl, rfl, rfl⟩
      · exact absurd (P24 hP2) hP4
  · skip
    show WGo _ (4, [.val (.int x), .unset], [(.int (0 : Int32))], σ, u) _
    refine WGo.s (WStep.istoreN (L' := [.val (.int x), .val (.int (0 : Int32))]) a1_4 rfl) ?_
    refine WGo.s (WStep.iloadN a1_5 rfl) ?_
    refine WGo.s (WStep.iloadN a1_6 rfl) ?_
    refine WGo.callS a1_7 (ok3 hw _ _ _ _) (hw _ (List.mem_of_getElem? (i := 21) rfl)) (hw _ (List.mem_of_getElem? (i := 22) rfl)) (argsL := [(.int x)]) (S := [(.int (0 : Int32))]) (c3 hw _ _ x _ _) rfl rfl rfl rfl rfl rfl (Nat.le_of_ble_eq_true rfl) (Nat.le_of_ble_eq_true rfl) ?_
    rintro _ _ _ ⟨⟨rfl, hP3⟩ | ⟨rfl, hP3⟩, rfl, rfl⟩
    · skip
      show WGo _ (10, [.val (.int x), .val (.int (0 : Int32))], [(.int (1 : Int32)), (.int (0 : Int32))], σ, u) _
      refine WGo.s (WStep.ifT a1_10 (by decide)) ?_
      refine WGo.s (WStep.iconst (0 : Int32) a1_17 rfl) ?_
      refine WGo.s (WStep.icmpT a1_18 (by decide)) ?_
      refine WGo.s (WStep.iloadN a1_23 rfl) ?_
      refine WGo.s (WStep.ifT a1_24 (by decide)) ?_
      refine WGo.s (WStep.iconst (1 : Int32) a1_36 rfl) ?_
      refine WGo.ireturn .boolean a1_37 rfl (by simp) ?_
      exact ⟨rfl, rfl, rfl⟩
    · exact absurd hP2 hP3
theorem law_go (Z : State) (a0 : Array Value) (hw : ∀ d ∈ tables_1, d.before a0 Z = true) (n0 : Nat) (c sel off : Int32) : WGo (g0 Z (fun k => n0 + k) n0 0 0) (0, [.val (.int c), .val (.int sel), .val (.int off), .unset, .unset, .unset], [], [], 0) (fun v σ' u' => v = some (.int 1) ∧ σ'.length ≤ 16 ∧ u' ≤ 128) := by
  refine WGo.s (WStep.bipush (32 : Int32) a0_0 rfl) ?_
  refine WGo.s (WStep.newP (k := 0) (32 : Int32) 32 a0_2 (hw _ (List.mem_of_getElem? (i := 0) rfl)) (by decide) rfl (by decide) rfl (by decide)) ?_
  show WGo _ (4, [.val (.int c), .val (.int sel), .val (.int off), .unset, .unset, .unset], [(.ref 0)], [(.inl (.int, [(.int (0 : Int32)), (.int (0 : Int32)), (.int (0 : Int32)), (.int (0 : Int32)), (.int (0 : Int32)), (.int (0 : Int32)), (.int (0 : Int32)), (.int (0 : Int32)), (.int (0 : Int32)), (.int (0 : Int32)), (.int (0 : Int32)), (.int (0 : Int32)), (.int (0 : Int32)), (.int (0 : Int32)), (.int (0 : Int32)), (.int (0 : Int32)), (.int (0 : Int32)), (.int (0 : Int32)), (.int (0 : Int32)), (.int (0 : Int32)), (.int (0 : Int32)), (.int (0 : Int32)), (.int (0 : Int32)), (.int (0 : Int32)), (.int (0 : Int32)), (.int (0 : Int32)), (.int (0 : Int32)), (.int (0 : Int32)), (.int (0 : Int32)), (.int (0 : Int32)), (.int (0 : Int32)), (.int (0 : Int32))]))], 32) _
  refine WGo.s (WStep.dup a0_4 rfl) ?_
  refine WGo.s (WStep.iconst (0 : Int32) a0_5 rfl) ?_
  refine WGo.s (WStep.bipush (65 : Int32) a0_6 rfl) ?_
  refine WGo.s (WStep.iastore 0 a0_8 rfl (by decide) rfl (by decide)) ?_
  show WGo _ (9, [.val (.int c), .val (.int sel), .val (.int off), .unset, .unset, .unset], [(.ref 0)], [(.inl (.int, [(.int (65 : Int32)), (.int (0 : Int32)), (.int (0 : Int32)), (.int (0 : Int32)), (.int (0 : Int32)), (.int (0 : Int32)), (.int (0 : Int32)), (.int (0 : Int32)), (.int (0 : Int32)), (.int (0 : Int32)), (.int (0 : Int32)), (.int (0 : Int32)), (.int (0 : Int32)), (.int (0 : Int32)), (.int (0 : Int32)), (.int (0 : Int32)), (.int (0 : Int32)), (.int (0 : Int32)), (.int (0 : Int32)), (.int (0 : Int32)), (.int (0 : Int32)), (.int (0 : Int32)), (.int (0 : Int32)), (.int (0 : Int32)), (.int (0 : Int32)), (.int (0 : Int32)), (.int (0 : Int32)), (.int (0 : Int32)), (.int (0 : Int32)), (.int (0 : Int32)), (.int (0 : Int32)), (.int (0 : Int32))]))], 32) _
  refine WGo.s (WStep.dup a0_9 rfl) ?_
  refine WGo.s (WStep.iconst (1 : Int32) a0_10 rfl) ?_
  refine WGo.s (WStep.bipush (90 : Int32) a0_11 rfl) ?_
  refine WGo.s (WStep.iastore 1 a0_13 rfl (by decide) rfl (by decide)) ?_
  show WGo _ (14, [.val (.int c), .val (.int sel), .val (.int off), .unset, .unset, .unset], [(.ref 0)], [(.inl (.int, [(.int (65 : Int32)), (.int (90 : Int32)), (.int (0 : Int32)), (.int (0 : Int32)), (.int (0 : Int32)), (.int (0 : Int32)), (.int (0 : Int32)), (.int (0 : Int32)), (.int (0 : Int32)), (.int (0 : Int32)), (.int (0 : Int32)), (.int (0 : Int32)), (.int (0 : Int32)), (.int (0 : Int32)), (.int (0 : Int32)), (.int (0 : Int32)), (.int (0 : Int32)), (.int (0 : Int32)), (.int (0 : Int32)), (.int (0 : Int32)), (.int (0 : Int32)), (.int (0 : Int32)), (.int (0 : Int32)), (.int (0 : Int32)), (.int (0 : Int32)), (.int (0 : Int32)), (.int (0 : Int32)), (.int (0 : Int32)), (.int (0 : Int32)), (.int (0 : Int32)), (.int (0 : Int32)), (.int (0 : Int32))]))], 32) _
  refine WGo.s (WStep.dup a0_14 rfl) ?_
  refine WGo.s (WStep.iconst (2 : Int32) a0_15 rfl) ?_
  refine WGo.s (WStep.bipush (95 : Int32) a0_16 rfl) ?_
  refine WGo.s (WStep.iastore 2 a0_18 rfl (by decide) rfl (by decide)) ?_
  show WGo _ (19, [.val (.int c), .val (.int sel), .val (.int off), .unset, .unset, .unset], [(.ref 0)], [(.inl (.int, [(.int (65 : Int32)), (.int (90 : Int32)), (.int (95 : Int32)), (.int (0 : Int32)), (.int (0 : Int32)), (.int (0 : Int32)), (.int (0 : Int32)), (.int (0 : Int32)), (.int (0 : Int32)), (.int (0 : Int32)), (.int (0 : Int32)), (.int (0 : Int32)), (.int (0 : Int32)), (.int (0 : Int32)), (.int (0 : Int32)), (.int (0 : Int32)), (.int (0 : Int32)), (.int (0 : Int32)), (.int (0 : Int32)), (.int (0 : Int32)), (.int (0 : Int32)), (.int (0 : Int32)), (.int (0 : Int32)), (.int (0 : Int32)), (.int (0 : Int32)), (.int (0 : Int32)), (.int (0 : Int32)), (.int (0 : Int32)), (.int (0 : Int32)), (.int (0 : Int32)), (.int (0 : Int32)), (.int (0 : Int32))]))], 32) _
  refine WGo.s (WStep.dup a0_19 rfl) ?_
  refine WGo.s (WStep.iconst (3 : Int32) a0_20 rfl) ?_
  refine WGo.s (WStep.bipush (97 : Int32) a0_21 rfl) ?_
  refine WGo.s (WStep.iastore 3 a0_23 rfl (by decide) rfl (by decide)) ?_
  show WGo _ (24, [.val (.int c), .val (.int sel), .val (.int off), .unset, .unset, .unset], [(.ref 0)], [(.inl (.int, [(.int (65 : Int32)), (.int (90 : Int32)), (.int (95 : Int32)), (.int (97 : Int32)), (.int (0 : Int32)), (.int (0 : Int32)), (.int (0 : Int32)), (.int (0 : Int32)), (.int (0 : Int32)), (.int (0 : Int32)), (.int (0 : Int32)), (.int (0 : Int32)), (.int (0 : Int32)), (.int (0 : Int32)), (.int (0 : Int32)), (.int (0 : Int32)), (.int (0 : Int32)), (.int (0 : Int32)), (.int (0 : Int32)), (.int (0 : Int32)), (.int (0 : Int32)), (.int (0 : Int32)), (.int (0 : Int32)), (.int (0 : Int32)), (.int (0 : Int32)), (.int (0 : Int32)), (.int (0 : Int32)), (.int (0 : Int32)), (.int (0 : Int32)), (.int (0 : Int32)), (.int (0 : Int32)), (.int (0 : Int32))]))], 32) _
  refine WGo.s (WStep.dup a0_24 rfl) ?_
  refine WGo.s (WStep.iconst (4 : Int32) a0_25 rfl) ?_
  refine WGo.s (WStep.bipush (122 : Int32) a0_26 rfl) ?_
  refine WGo.s (WStep.iastore 4 a0_28 rfl (by decide) rfl (by decide)) ?_
  show WGo _ (29, [.val (.int c), .val (.int sel), .val (.int off), .unset, .unset, .unset], [(.ref 0)], [(.inl (.int, [(.int (65 : Int32)), (.int (90 : Int32)), (.int (95 : Int32)), (.int (97 : Int32)), (.int (122 : Int32)), (.int (0 : Int32)), (.int (0 : Int32)), (.int (0 : Int32)), (.int (0 : Int32)), (.int (0 : Int32)), (.int (0 : Int32)), (.int (0 : Int32)), (.int (0 : Int32)), (.int (0 : Int32)), (.int (0 : Int32)), (.int (0 : Int32)), (.int (0 : Int32)), (.int (0 : Int32)), (.int (0 : Int32)), (.int (0 : Int32)), (.int (0 : Int32)), (.int (0 : Int32)), (.int (0 : Int32)), (.int (0 : Int32)), (.int (0 : Int32)), (.int (0 : Int32)), (.int (0 : Int32)), (.int (0 : Int32)), (.int (0 : Int32)), (.int (0 : Int32)), (.int (0 : Int32)), (.int (0 : Int32))]))], 32) _
  refine WGo.s (WStep.dup a0_29 rfl) ?_
  refine WGo.s (WStep.iconst (5 : Int32) a0_30 rfl) ?_
  refine WGo.s (WStep.sipush (192 : Int32) a0_31 rfl) ?_
  refine WGo.s (WStep.iastore 5 a0_34 rfl (by decide) rfl (by decide)) ?_
  show WGo _ (35, [.val (.int c), .val (.int sel), .val (.int off), .unset, .unset, .unset], [(.ref 0)], [(.inl (.int, [(.int (65 : Int32)), (.int (90 : Int32)), (.int (95 : Int32)), (.int (97 : Int32)), (.int (122 : Int32)), (.int (192 : Int32)), (.int (0 : Int32)), (.int (0 : Int32)), (.int (0 : Int32)), (.int (0 : Int32)), (.int (0 : Int32)), (.int (0 : Int32)), (.int (0 : Int32)), (.int (0 : Int32)), (.int (0 : Int32)), (.int (0 : Int32)), (.int (0 : Int32)), (.int (0 : Int32)), (.int (0 : Int32)), (.int (0 : Int32)), (.int (0 : Int32)), (.int (0 : Int32)), (.int (0 : Int32)), (.int (0 : Int32)), (.int (0 : Int32)), (.int (0 : Int32)), (.int (0 : Int32)), (.int (0 : Int32)), (.int (0 : Int32)), (.int (0 : Int32)), (.int (0 : Int32)), (.int (0 : Int32))]))], 32) _
  refine WGo.s (WStep.dup a0_35 rfl) ?_
  refine WGo.s (WStep.bipush (6 : Int32) a0_36 rfl) ?_
  refine WGo.s (WStep.sipush (214 : Int32) a0_38 rfl) ?_
  refine WGo.s (WStep.iastore 6 a0_41 rfl (by decide) rfl (by decide)) ?_
  show WGo _ (42, [.val (.int c), .val (.int sel), .val (.int off), .unset, .unset, .unset], [(.ref 0)], [(.inl (.int, [(.int (65 : Int32)), (.int (90 : Int32)), (.int (95 : Int32)), (.int (97 : Int32)), (.int (122 : Int32)), (.int (192 : Int32)), (.int (214 : Int32)), (.int (0 : Int32)), (.int (0 : Int32)), (.int (0 : Int32)), (.int (0 : Int32)), (.int (0 : Int32)), (.int (0 : Int32)), (.int (0 : Int32)), (.int (0 : Int32)), (.int (0 : Int32)), (.int (0 : Int32)), (.int (0 : Int32)), (.int (0 : Int32)), (.int (0 : Int32)), (.int (0 : Int32)), (.int (0 : Int32)), (.int (0 : Int32)), (.int (0 : Int32)), (.int (0 : Int32)), (.int (0 : Int32)), (.int (0 : Int32)), (.int (0 : Int32)), (.int (0 : Int32)), (.int (0 : Int32)), (.int (0 : Int32)), (.int (0 : Int32))]))], 32) _
  refine WGo.s (WStep.dup a0_42 rfl) ?_
  refine WGo.s (WStep.bipush (7 : Int32) a0_43 rfl) ?_
  refine WGo.s (WStep.sipush (216 : Int32) a0_45 rfl) ?_
  refine WGo.s (WStep.iastore 7 a0_48 rfl (by decide) rfl (by decide)) ?_
  show WGo _ (49, [.val (.int c), .val (.int sel), .val (.int off), .unset, .unset, .unset], [(.ref 0)], [(.inl (.int, [(.int (65 : Int32)), (.int (90 : Int32)), (.int (95 : Int32)), (.int (97 : Int32)), (.int (122 : Int32)), (.int (192 : Int32)), (.int (214 : Int32)), (.int (216 : Int32)), (.int (0 : Int32)), (.int (0 : Int32)), (.int (0 : Int32)), (.int (0 : Int32)), (.int (0 : Int32)), (.int (0 : Int32)), (.int (0 : Int32)), (.int (0 : Int32)), (.int (0 : Int32)), (.int (0 : Int32)), (.int (0 : Int32)), (.int (0 : Int32)), (.int (0 : Int32)), (.int (0 : Int32)), (.int (0 : Int32)), (.int (0 : Int32)), (.int (0 : Int32)), (.int (0 : Int32)), (.int (0 : Int32)), (.int (0 : Int32)), (.int (0 : Int32)), (.int (0 : Int32)), (.int (0 : Int32)), (.int (0 : Int32))]))], 32) _
  refine WGo.s (WStep.dup a0_49 rfl) ?_
  refine WGo.s (WStep.bipush (8 : Int32) a0_50 rfl) ?_
  refine WGo.s (WStep.sipush (246 : Int32) a0_52 rfl) ?_
  refine WGo.s (WStep.iastore 8 a0_55 rfl (by decide) rfl (by decide)) ?_
  show WGo _ (56, [.val (.int c), .val (.int sel), .val (.int off), .unset, .unset, .unset], [(.ref 0)], [(.inl (.int, [(.int (65 : Int32)), (.int (90 : Int32)), (.int (95 : Int32)), (.int (97 : Int32)), (.int (122 : Int32)), (.int (192 : Int32)), (.int (214 : Int32)), (.int (216 : Int32)), (.int (246 : Int32)), (.int (0 : Int32)), (.int (0 : Int32)), (.int (0 : Int32)), (.int (0 : Int32)), (.int (0 : Int32)), (.int (0 : Int32)), (.int (0 : Int32)), (.int (0 : Int32)), (.int (0 : Int32)), (.int (0 : Int32)), (.int (0 : Int32)), (.int (0 : Int32)), (.int (0 : Int32)), (.int (0 : Int32)), (.int (0 : Int32)), (.int (0 : Int32)), (.int (0 : Int32)), (.int (0 : Int32)), (.int (0 : Int32)), (.int (0 : Int32)), (.int (0 : Int32)), (.int (0 : Int32)), (.int (0 : Int32))]))], 32) _
  refine WGo.s (WStep.dup a0_56 rfl) ?_
  refine WGo.s (WStep.bipush (9 : Int32) a0_57 rfl) ?_
  refine WGo.s (WStep.sipush (248 : Int32) a0_59 rfl) ?_
  refine WGo.s (WStep.iastore 9 a0_62 rfl (by decide) rfl (by decide)) ?_
  show WGo _ (63, [.val (.int c), .val (.int sel), .val (.int off), .unset, .unset, .unset], [(.ref 0)], [(.inl (.int, [(.int (65 : Int32)), (.int (90 : Int32)), (.int (95 : Int32)), (.int (97 : Int32)), (.int (122 : Int32)), (.int (192 : Int32)), (.int (214 : Int32)), (.int (216 : Int32)), (.int (246 : Int32)), (.int (248 : Int32)), (.int (0 : Int32)), (.int (0 : Int32)), (.int (0 : Int32)), (.int (0 : Int32)), (.int (0 : Int32)), (.int (0 : Int32)), (.int (0 : Int32)), (.int (0 : Int32)), (.int (0 : Int32)), (.int (0 : Int32)), (.int (0 : Int32)), (.int (0 : Int32)), (.int (0 : Int32)), (.int (0 : Int32)), (.int (0 : Int32)), (.int (0 : Int32)), (.int (0 : Int32)), (.int (0 : Int32)), (.int (0 : Int32)), (.int (0 : Int32)), (.int (0 : Int32)), (.int (0 : Int32))]))], 32) _
  refine WGo.s (WStep.dup a0_63 rfl) ?_
  refine WGo.s (WStep.bipush (10 : Int32) a0_64 rfl) ?_
  refine WGo.s (WStep.sipush (767 : Int32) a0_66 rfl) ?_
  refine WGo.s (WStep.iastore 10 a0_69 rfl (by decide) rfl (by decide)) ?_
  show WGo _ (70, [.val (.int c), .val (.int sel), .val (.int off), .unset, .unset, .unset], [(.ref 0)], [(.inl (.int, [(.int (65 : Int32)), (.int (90 : Int32)), (.int (95 : Int32)), (.int (97 : Int32)), (.int (122 : Int32)), (.int (192 : Int32)), (.int (214 : Int32)), (.int (216 : Int32)), (.int (246 : Int32)), (.int (248 : Int32)), (.int (767 : Int32)), (.int (0 : Int32)), (.int (0 : Int32)), (.int (0 : Int32)), (.int (0 : Int32)), (.int (0 : Int32)), (.int (0 : Int32)), (.int (0 : Int32)), (.int (0 : Int32)), (.int (0 : Int32)), (.int (0 : Int32)), (.int (0 : Int32)), (.int (0 : Int32)), (.int (0 : Int32)), (.int (0 : Int32)), (.int (0 : Int32)), (.int (0 : Int32)), (.int (0 : Int32)), (.int (0 : Int32)), (.int (0 : Int32)), (.int (0 : Int32)), (.int (0 : Int32))]))], 32) _
  refine WGo.s (WStep.dup a0_70 rfl) ?_
  refine WGo.s (WStep.bipush (11 : Int32) a0_71 rfl) ?_
  refine WGo.s (WStep.sipush (880 : Int32) a0_73 rfl) ?_
  refine WGo.s (WStep.iastore 11 a0_76 rfl (by decide) rfl (by decide)) ?_
  show WGo _ (77, [.val (.int c), .val (.int sel), .val (.int off), .unset, .unset, .unset], [(.ref 0)], [(.inl (.int, [(.int (65 : Int32)), (.int (90 : Int32)), (.int (95 : Int32)), (.int (97 : Int32)), (.int (122 : Int32)), (.int (192 : Int32)), (.int (214 : Int32)), (.int (216 : Int32)), (.int (246 : Int32)), (.int (248 : Int32)), (.int (767 : Int32)), (.int (880 : Int32)), (.int (0 : Int32)), (.int (0 : Int32)), (.int (0 : Int32)), (.int (0 : Int32)), (.int (0 : Int32)), (.int (0 : Int32)), (.int (0 : Int32)), (.int (0 : Int32)), (.int (0 : Int32)), (.int (0 : Int32)), (.int (0 : Int32)), (.int (0 : Int32)), (.int (0 : Int32)), (.int (0 : Int32)), (.int (0 : Int32)), (.int (0 : Int32)), (.int (0 : Int32)), (.int (0 : Int32)), (.int (0 : Int32)), (.int (0 : Int32))]))], 32) _
  refine WGo.s (WStep.dup a0_77 rfl) ?_
  refine WGo.s (WStep.bipush (12 : Int32) a0_78 rfl) ?_
  refine WGo.s (WStep.sipush (893 : Int32) a0_80 rfl) ?_
  refine WGo.s (WStep.iastore 12 a0_83 rfl (by decide) rfl (by decide)) ?_
  show WGo _ (84, [.val (.int c), .val (.int sel), .val (.int off), .unset, .unset, .unset], [(.ref 0)], [(.inl (.int, [(.int (65 : Int32)), (.int (90 : Int32)), (.int (95 : Int32)), (.int (97 : Int32)), (.int (122 : Int32)), (.int (192 : Int32)), (.int (214 : Int32)), (.int (216 : Int32)), (.int (246 : Int32)), (.int (248 : Int32)), (.int (767 : Int32)), (.int (880 : Int32)), (.int (893 : Int32)), (.int (0 : Int32)), (.int (0 : Int32)), (.int (0 : Int32)), (.int (0 : Int32)), (.int (0 : Int32)), (.int (0 : Int32)), (.int (0 : Int32)), (.int (0 : Int32)), (.int (0 : Int32)), (.int (0 : Int32)), (.int (0 : Int32)), (.int (0 : Int32)), (.int (0 : Int32)), (.int (0 : Int32)), (.int (0 : Int32)), (.int (0 : Int32)), (.int (0 : Int32)), (.int (0 : Int32)), (.int (0 : Int32))]))], 32) _
  refine WGo.s (WStep.dup a0_84 rfl) ?_
  refine WGo.s (WStep.bipush (13 : Int32) a0_85 rfl) ?_
  refine WGo.s (WStep.sipush (895 : Int32) a0_87 rfl) ?_
  refine WGo.s (WStep.iastore 13 a0_90 rfl (by decide) rfl (by decide)) ?_
  show WGo _ (91, [.val (.int c), .val (.int sel), .val (.int off), .unset, .unset, .unset], [(.ref 0)], [(.inl (.int, [(.int (65 : Int32)), (.int (90 : Int32)), (.int (95 : Int32)), (.int (97 : Int32)), (.int (122 : Int32)), (.int (192 : Int32)), (.int (214 : Int32)), (.int (216 : Int32)), (.int (246 : Int32)), (.int (248 : Int32)), (.int (767 : Int32)), (.int (880 : Int32)), (.int (893 : Int32)), (.int (895 : Int32)), (.int (0 : Int32)), (.int (0 : Int32)), (.int (0 : Int32)), (.int (0 : Int32)), (.int (0 : Int32)), (.int (0 : Int32)), (.int (0 : Int32)), (.int (0 : Int32)), (.int (0 : Int32)), (.int (0 : Int32)), (.int (0 : Int32)), (.int (0 : Int32)), (.int (0 : Int32)), (.int (0 : Int32)), (.int (0 : Int32)), (.int (0 : Int32)), (.int (0 : Int32)), (.int (0 : Int32))]))], 32) _
  refine WGo.s (WStep.dup a0_91 rfl) ?_
  refine WGo.s (WStep.bipush (14 : Int32) a0_92 rfl) ?_
  refine WGo.s (WStep.sipush (8191 : Int32) a0_94 rfl) ?_
  refine WGo.s (WStep.iastore 14 a0_97 rfl (by decide) rfl (by decide)) ?_
  show WGo _ (98, [.val (.int c), .val (.int sel), .val (.int off), .unset, .unset, .unset], [(.ref 0)], [(.inl (.int, [(.int (65 : Int32)), (.int (90 : Int32)), (.int (95 : Int32)), (.int (97 : Int32)), (.int (122 : Int32)), (.int (192 : Int32)), (.int (214 : Int32)), (.int (216 : Int32)), (.int (246 : Int32)), (.int (248 : Int32)), (.int (767 : Int32)), (.int (880 : Int32)), (.int (893 : Int32)), (.int (895 : Int32)), (.int (8191 : Int32)), (.int (0 : Int32)), (.int (0 : Int32)), (.int (0 : Int32)), (.int (0 : Int32)), (.int (0 : Int32)), (.int (0 : Int32)), (.int (0 : Int32)), (.int (0 : Int32)), (.int (0 : Int32)), (.int (0 : Int32)), (.int (0 : Int32)), (.int (0 : Int32)), (.int (0 : Int32)), (.int (0 : Int32)), (.int (0 : Int32)), (.int (0 : Int32)), (.int (0 : Int32))]))], 32) _
  refine WGo.s (WStep.dup a0_98 rfl) ?_
  refine WGo.s (WStep.bipush (15 : Int32) a0_99 rfl) ?_
  refine WGo.s (WStep.sipush (8204 : Int32) a0_101 rfl) ?_
  refine WGo.s (WStep.iastore 15 a0_104 rfl (by decide) rfl (by decide)) ?_
  show WGo _ (105, [.val (.int c), .val (.int sel), .val (.int off), .unset, .unset, .unset], [(.ref 0)], [(.inl (.int, [(.int (65 : Int32)), (.int (90 : Int32)), (.int (95 : Int32)), (.int (97 : Int32)), (.int (122 : Int32)), (.int (192 : Int32)), (.int (214 : Int32)), (.int (216 : Int32)), (.int (246 : Int32)), (.int (248 : Int32)), (.int (767 : Int32)), (.int (880 : Int32)), (.int (893 : Int32)), (.int (895 : Int32)), (.int (8191 : Int32)), (.int (8204 : Int32)), (.int (0 : Int32)), (.int (0 : Int32)), (.int (0 : Int32)), (.int (0 : Int32)), (.int (0 : Int32)), (.int (0 : Int32)), (.int (0 : Int32)), (.int (0 : Int32)), (.int (0 : Int32)), (.int (0 : Int32)), (.int (0 : Int32)), (.int (0 : Int32)), (.int (0 : Int32)), (.int (0 : Int32)), (.int (0 : Int32)), (.int (0 : Int32))]))], 32) _
  refine WGo.s (WStep.dup a0_105 rfl) ?_
  refine WGo.s (WStep.bipush (16 : Int32) a0_106 rfl) ?_
  refine WGo.s (WStep.sipush (8205 : Int32) a0_108 rfl) ?_
  refine WGo.s (WStep.iastore 16 a0_111 rfl (by decide) rfl (by decide)) ?_
  show WGo _ (112, [.val (.int c), .val (.int sel), .val (.int off), .unset, .unset, .unset], [(.ref 0)], [(.inl (.int, [(.int (65 : Int32)), (.int (90 : Int32)), (.int (95 : Int32)), (.int (97 : Int32)), (.int (122 : Int32)), (.int (192 : Int32)), (.int (214 : Int32)), (.int (216 : Int32)), (.int (246 : Int32)), (.int (248 : Int32)), (.int (767 : Int32)), (.int (880 : Int32)), (.int (893 : Int32)), (.int (895 : Int32)), (.int (8191 : Int32)), (.int (8204 : Int32)), (.int (8205 : Int32)), (.int (0 : Int32)), (.int (0 : Int32)), (.int (0 : Int32)), (.int (0 : Int32)), (.int (0 : Int32)), (.int (0 : Int32)), (.int (0 : Int32)), (.int (0 : Int32)), (.int (0 : Int32)), (.int (0 : Int32)), (.int (0 : Int32)), (.int (0 : Int32)), (.int (0 : Int32)), (.int (0 : Int32)), (.int (0 : Int32))]))], 32) _
  refine WGo.s (WStep.dup a0_112 rfl) ?_
  refine WGo.s (WStep.bipush (17 : Int32) a0_113 rfl) ?_
  refine WGo.s (WStep.sipush (8304 : Int32) a0_115 rfl) ?_
  refine WGo.s (WStep.iastore 17 a0_118 rfl (by decide) rfl (by decide)) ?_
  show WGo _ (119, [.val (.int c), .val (.int sel), .val (.int off), .unset, .unset, .unset], [(.ref 0)], [(.inl (.int, [(.int (65 : Int32)), (.int (90 : Int32)), (.int (95 : Int32)), (.int (97 : Int32)), (.int (122 : Int32)), (.int (192 : Int32)), (.int (214 : Int32)), (.int (216 : Int32)), (.int (246 : Int32)), (.int (248 : Int32)), (.int (767 : Int32)), (.int (880 : Int32)), (.int (893 : Int32)), (.int (895 : Int32)), (.int (8191 : Int32)), (.int (8204 : Int32)), (.int (8205 : Int32)), (.int (8304 : Int32)), (.int (0 : Int32)), (.int (0 : Int32)), (.int (0 : Int32)), (.int (0 : Int32)), (.int (0 : Int32)), (.int (0 : Int32)), (.int (0 : Int32)), (.int (0 : Int32)), (.int (0 : Int32)), (.int (0 : Int32)), (.int (0 : Int32)), (.int (0 : Int32)), (.int (0 : Int32)), (.int (0 : Int32))]))], 32) _
  refine WGo.s (WStep.dup a0_119 rfl) ?_
  refine WGo.s (WStep.bipush (18 : Int32) a0_120 rfl) ?_
  refine WGo.s (WStep.sipush (8591 : Int32) a0_122 rfl) ?_
  refine WGo.s (WStep.iastore 18 a0_125 rfl (by decide) rfl (by decide)) ?_
  show WGo _ (126, [.val (.int c), .val (.int sel), .val (.int off), .unset, .unset, .unset], [(.ref 0)], [(.inl (.int, [(.int (65 : Int32)), (.int (90 : Int32)), (.int (95 : Int32)), (.int (97 : Int32)), (.int (122 : Int32)), (.int (192 : Int32)), (.int (214 : Int32)), (.int (216 : Int32)), (.int (246 : Int32)), (.int (248 : Int32)), (.int (767 : Int32)), (.int (880 : Int32)), (.int (893 : Int32)), (.int (895 : Int32)), (.int (8191 : Int32)), (.int (8204 : Int32)), (.int (8205 : Int32)), (.int (8304 : Int32)), (.int (8591 : Int32)), (.int (0 : Int32)), (.int (0 : Int32)), (.int (0 : Int32)), (.int (0 : Int32)), (.int (0 : Int32)), (.int (0 : Int32)), (.int (0 : Int32)), (.int (0 : Int32)), (.int (0 : Int32)), (.int (0 : Int32)), (.int (0 : Int32)), (.int (0 : Int32)), (.int (0 : Int32))]))], 32) _
  refine WGo.s (WStep.dup a0_126 rfl) ?_
  refine WGo.s (WStep.bipush (19 : Int32) a0_127 rfl) ?_
  refine WGo.s (WStep.sipush (11264 : Int32) a0_129 rfl) ?_
  refine WGo.s (WStep.iastore 19 a0_132 rfl (by decide) rfl (by decide)) ?_
  show WGo _ (133, [.val (.int c), .val (.int sel), .val (.int off), .unset, .unset, .unset], [(.ref 0)], [(.inl (.int, [(.int (65 : Int32)), (.int (90 : Int32)), (.int (95 : Int32)), (.int (97 : Int32)), (.int (122 : Int32)), (.int (192 : Int32)), (.int (214 : Int32)), (.int (216 : Int32)), (.int (246 : Int32)), (.int (248 : Int32)), (.int (767 : Int32)), (.int (880 : Int32)), (.int (893 : Int32)), (.int (895 : Int32)), (.int (8191 : Int32)), (.int (8204 : Int32)), (.int (8205 : Int32)), (.int (8304 : Int32)), (.int (8591 : Int32)), (.int (11264 : Int32)), (.int (0 : Int32)), (.int (0 : Int32)), (.int (0 : Int32)), (.int (0 : Int32)), (.int (0 : Int32)), (.int (0 : Int32)), (.int (0 : Int32)), (.int (0 : Int32)), (.int (0 : Int32)), (.int (0 : Int32)), (.int (0 : Int32)), (.int (0 : Int32))]))], 32) _
  refine WGo.s (WStep.dup a0_133 rfl) ?_
  refine WGo.s (WStep.bipush (20 : Int32) a0_134 rfl) ?_
  refine WGo.s (WStep.sipush (12271 : Int32) a0_136 rfl) ?_
  refine WGo.s (WStep.iastore 20 a0_139 rfl (by decide) rfl (by decide)) ?_
  show WGo _ (140, [.val (.int c), .val (.int sel), .val (.int off), .unset, .unset, .unset], [(.ref 0)], [(.inl (.int, [(.int (65 : Int32)), (.int (90 : Int32)), (.int (95 : Int32)), (.int (97 : Int32)), (.int (122 : Int32)), (.int (192 : Int32)), (.int (214 : Int32)), (.int (216 : Int32)), (.int (246 : Int32)), (.int (248 : Int32)), (.int (767 : Int32)), (.int (880 : Int32)), (.int (893 : Int32)), (.int (895 : Int32)), (.int (8191 : Int32)), (.int (8204 : Int32)), (.int (8205 : Int32)), (.int (8304 : Int32)), (.int (8591 : Int32)), (.int (11264 : Int32)), (.int (12271 : Int32)), (.int (0 : Int32)), (.int (0 : Int32)), (.int (0 : Int32)), (.int (0 : Int32)), (.int (0 : Int32)), (.int (0 : Int32)), (.int (0 : Int32)), (.int (0 : Int32)), (.int (0 : Int32)), (.int (0 : Int32)), (.int (0 : Int32))]))], 32) _
  refine WGo.s (WStep.dup a0_140 rfl) ?_
  refine WGo.s (WStep.bipush (21 : Int32) a0_141 rfl) ?_
  refine WGo.s (WStep.sipush (12289 : Int32) a0_143 rfl) ?_
  refine WGo.s (WStep.iastore 21 a0_146 rfl (by decide) rfl (by decide)) ?_
  show WGo _ (147, [.val (.int c), .val (.int sel), .val (.int off), .unset, .unset, .unset], [(.ref 0)], [(.inl (.int, [(.int (65 : Int32)), (.int (90 : Int32)), (.int (95 : Int32)), (.int (97 : Int32)), (.int (122 : Int32)), (.int (192 : Int32)), (.int (214 : Int32)), (.int (216 : Int32)), (.int (246 : Int32)), (.int (248 : Int32)), (.int (767 : Int32)), (.int (880 : Int32)), (.int (893 : Int32)), (.int (895 : Int32)), (.int (8191 : Int32)), (.int (8204 : Int32)), (.int (8205 : Int32)), (.int (8304 : Int32)), (.int (8591 : Int32)), (.int (11264 : Int32)), (.int (12271 : Int32)), (.int (12289 : Int32)), (.int (0 : Int32)), (.int (0 : Int32)), (.int (0 : Int32)), (.int (0 : Int32)), (.int (0 : Int32)), (.int (0 : Int32)), (.int (0 : Int32)), (.int (0 : Int32)), (.int (0 : Int32)), (.int (0 : Int32))]))], 32) _
  refine WGo.s (WStep.dup a0_147 rfl) ?_
  refine WGo.s (WStep.bipush (22 : Int32) a0_148 rfl) ?_
  refine WGo.s (WStep.ldc a0_150 (hw _ (List.mem_of_getElem? (i := 1) rfl))) ?_
  refine WGo.s (WStep.iastore 22 a0_152 rfl (by decide) rfl (by decide)) ?_
  show WGo _ (153, [.val (.int c), .val (.int sel), .val (.int off), .unset, .unset, .unset], [(.ref 0)], [(.inl (.int, [(.int (65 : Int32)), (.int (90 : Int32)), (.int (95 : Int32)), (.int (97 : Int32)), (.int (122 : Int32)), (.int (192 : Int32)), (.int (214 : Int32)), (.int (216 : Int32)), (.int (246 : Int32)), (.int (248 : Int32)), (.int (767 : Int32)), (.int (880 : Int32)), (.int (893 : Int32)), (.int (895 : Int32)), (.int (8191 : Int32)), (.int (8204 : Int32)), (.int (8205 : Int32)), (.int (8304 : Int32)), (.int (8591 : Int32)), (.int (11264 : Int32)), (.int (12271 : Int32)), (.int (12289 : Int32)), (.int (55295 : Int32)), (.int (0 : Int32)), (.int (0 : Int32)), (.int (0 : Int32)), (.int (0 : Int32)), (.int (0 : Int32)), (.int (0 : Int32)), (.int (0 : Int32)), (.int (0 : Int32)), (.int (0 : Int32))]))], 32) _
  refine WGo.s (WStep.dup a0_153 rfl) ?_
  refine WGo.s (WStep.bipush (23 : Int32) a0_154 rfl) ?_
  refine WGo.s (WStep.ldc a0_156 (hw _ (List.mem_of_getElem? (i := 2) rfl))) ?_
  refine WGo.s (WStep.iastore 23 a0_158 rfl (by decide) rfl (by decide)) ?_
  show WGo _ (159, [.val (.int c), .val (.int sel), .val (.int off), .unset, .unset, .unset], [(.ref 0)], [(.inl (.int, [(.int (65 : Int32)), (.int (90 : Int32)), (.int (95 : Int32)), (.int (97 : Int32)), (.int (122 : Int32)), (.int (192 : Int32)), (.int (214 : Int32)), (.int (216 : Int32)), (.int (246 : Int32)), (.int (248 : Int32)), (.int (767 : Int32)), (.int (880 : Int32)), (.int (893 : Int32)), (.int (895 : Int32)), (.int (8191 : Int32)), (.int (8204 : Int32)), (.int (8205 : Int32)), (.int (8304 : Int32)), (.int (8591 : Int32)), (.int (11264 : Int32)), (.int (12271 : Int32)), (.int (12289 : Int32)), (.int (55295 : Int32)), (.int (63744 : Int32)), (.int (0 : Int32)), (.int (0 : Int32)), (.int (0 : Int32)), (.int (0 : Int32)), (.int (0 : Int32)), (.int (0 : Int32)), (.int (0 : Int32)), (.int (0 : Int32))]))], 32) _
  refine WGo.s (WStep.dup a0_159 rfl) ?_
  refine WGo.s (WStep.bipush (24 : Int32) a0_160 rfl) ?_
  refine WGo.s (WStep.ldc a0_162 (hw _ (List.mem_of_getElem? (i := 3) rfl))) ?_
  refine WGo.s (WStep.iastore 24 a0_164 rfl (by decide) rfl (by decide)) ?_
  show WGo _ (165, [.val (.int c), .val (.int sel), .val (.int off), .unset, .unset, .unset], [(.ref 0)], [(.inl (.int, [(.int (65 : Int32)), (.int (90 : Int32)), (.int (95 : Int32)), (.int (97 : Int32)), (.int (122 : Int32)), (.int (192 : Int32)), (.int (214 : Int32)), (.int (216 : Int32)), (.int (246 : Int32)), (.int (248 : Int32)), (.int (767 : Int32)), (.int (880 : Int32)), (.int (893 : Int32)), (.int (895 : Int32)), (.int (8191 : Int32)), (.int (8204 : Int32)), (.int (8205 : Int32)), (.int (8304 : Int32)), (.int (8591 : Int32)), (.int (11264 : Int32)), (.int (12271 : Int32)), (.int (12289 : Int32)), (.int (55295 : Int32)), (.int (63744 : Int32)), (.int (64975 : Int32)), (.int (0 : Int32)), (.int (0 : Int32)), (.int (0 : Int32)), (.int (0 : Int32)), (.int (0 : Int32)), (.int (0 : Int32)), (.int (0 : Int32))]))], 32) _
  refine WGo.s (WStep.dup a0_165 rfl) ?_
  refine WGo.s (WStep.bipush (25 : Int32) a0_166 rfl) ?_
  refine WGo.s (WStep.ldc a0_168 (hw _ (List.mem_of_getElem? (i := 4) rfl))) ?_
  refine WGo.s (WStep.iastore 25 a0_170 rfl (by decide) rfl (by decide)) ?_
  show WGo _ (171, [.val (.int c), .val (.int sel), .val (.int off), .unset, .unset, .unset], [(.ref 0)], [(.inl (.int, [(.int (65 : Int32)), (.int (90 : Int32)), (.int (95 : Int32)), (.int (97 : Int32)), (.int (122 : Int32)), (.int (192 : Int32)), (.int (214 : Int32)), (.int (216 : Int32)), (.int (246 : Int32)), (.int (248 : Int32)), (.int (767 : Int32)), (.int (880 : Int32)), (.int (893 : Int32)), (.int (895 : Int32)), (.int (8191 : Int32)), (.int (8204 : Int32)), (.int (8205 : Int32)), (.int (8304 : Int32)), (.int (8591 : Int32)), (.int (11264 : Int32)), (.int (12271 : Int32)), (.int (12289 : Int32)), (.int (55295 : Int32)), (.int (63744 : Int32)), (.int (64975 : Int32)), (.int (65008 : Int32)), (.int (0 : Int32)), (.int (0 : Int32)), (.int (0 : Int32)), (.int (0 : Int32)), (.int (0 : Int32)), (.int (0 : Int32))]))], 32) _
  refine WGo.s (WStep.dup a0_171 rfl) ?_
  refine WGo.s (WStep.bipush (26 : Int32) a0_172 rfl) ?_
  refine WGo.s (WStep.ldc a0_174 (hw _ (List.mem_of_getElem? (i := 5) rfl))) ?_
  refine WGo.s (WStep.iastore 26 a0_176 rfl (by decide) rfl (by decide)) ?_
  show WGo _ (177, [.val (.int c), .val (.int sel), .val (.int off), .unset, .unset, .unset], [(.ref 0)], [(.inl (.int, [(.int (65 : Int32)), (.int (90 : Int32)), (.int (95 : Int32)), (.int (97 : Int32)), (.int (122 : Int32)), (.int (192 : Int32)), (.int (214 : Int32)), (.int (216 : Int32)), (.int (246 : Int32)), (.int (248 : Int32)), (.int (767 : Int32)), (.int (880 : Int32)), (.int (893 : Int32)), (.int (895 : Int32)), (.int (8191 : Int32)), (.int (8204 : Int32)), (.int (8205 : Int32)), (.int (8304 : Int32)), (.int (8591 : Int32)), (.int (11264 : Int32)), (.int (12271 : Int32)), (.int (12289 : Int32)), (.int (55295 : Int32)), (.int (63744 : Int32)), (.int (64975 : Int32)), (.int (65008 : Int32)), (.int (65533 : Int32)), (.int (0 : Int32)), (.int (0 : Int32)), (.int (0 : Int32)), (.int (0 : Int32)), (.int (0 : Int32))]))], 32) _
  refine WGo.s (WStep.dup a0_177 rfl) ?_
  refine WGo.s (WStep.bipush (27 : Int32) a0_178 rfl) ?_
  refine WGo.s (WStep.ldc a0_180 (hw _ (List.mem_of_getElem? (i := 6) rfl))) ?_
  refine WGo.s (WStep.iastore 27 a0_182 rfl (by decide) rfl (by decide)) ?_
  show WGo _ (183, [.val (.int c), .val (.int sel), .val (.int off), .unset, .unset, .unset], [(.ref 0)], [(.inl (.int, [(.int (65 : Int32)), (.int (90 : Int32)), (.int (95 : Int32)), (.int (97 : Int32)), (.int (122 : Int32)), (.int (192 : Int32)), (.int (214 : Int32)), (.int (216 : Int32)), (.int (246 : Int32)), (.int (248 : Int32)), (.int (767 : Int32)), (.int (880 : Int32)), (.int (893 : Int32)), (.int (895 : Int32)), (.int (8191 : Int32)), (.int (8204 : Int32)), (.int (8205 : Int32)), (.int (8304 : Int32)), (.int (8591 : Int32)), (.int (11264 : Int32)), (.int (12271 : Int32)), (.int (12289 : Int32)), (.int (55295 : Int32)), (.int (63744 : Int32)), (.int (64975 : Int32)), (.int (65008 : Int32)), (.int (65533 : Int32)), (.int (65536 : Int32)), (.int (0 : Int32)), (.int (0 : Int32)), (.int (0 : Int32)), (.int (0 : Int32))]))], 32) _
  refine WGo.s (WStep.dup a0_183 rfl) ?_
  refine WGo.s (WStep.bipush (28 : Int32) a0_184 rfl) ?_
  refine WGo.s (WStep.ldc a0_186 (hw _ (List.mem_of_getElem? (i := 7) rfl))) ?_
  refine WGo.s (WStep.iastore 28 a0_188 rfl (by decide) rfl (by decide)) ?_
  show WGo _ (189, [.val (.int c), .val (.int sel), .val (.int off), .unset, .unset, .unset], [(.ref 0)], [(.inl (.int, [(.int (65 : Int32)), (.int (90 : Int32)), (.int (95 : Int32)), (.int (97 : Int32)), (.int (122 : Int32)), (.int (192 : Int32)), (.int (214 : Int32)), (.int (216 : Int32)), (.int (246 : Int32)), (.int (248 : Int32)), (.int (767 : Int32)), (.int (880 : Int32)), (.int (893 : Int32)), (.int (895 : Int32)), (.int (8191 : Int32)), (.int (8204 : Int32)), (.int (8205 : Int32)), (.int (8304 : Int32)), (.int (8591 : Int32)), (.int (11264 : Int32)), (.int (12271 : Int32)), (.int (12289 : Int32)), (.int (55295 : Int32)), (.int (63744 : Int32)), (.int (64975 : Int32)), (.int (65008 : Int32)), (.int (65533 : Int32)), (.int (65536 : Int32)), (.int (983039 : Int32)), (.int (0 : Int32)), (.int (0 : Int32)), (.int (0 : Int32))]))], 32) _
  refine WGo.s (WStep.dup a0_189 rfl) ?_
  refine WGo.s (WStep.bipush (29 : Int32) a0_190 rfl) ?_
  refine WGo.s (WStep.iconst (0 : Int32) a0_192 rfl) ?_
  refine WGo.s (WStep.iastore 29 a0_193 rfl (by decide) rfl (by decide)) ?_
  show WGo _ (194, [.val (.int c), .val (.int sel), .val (.int off), .unset, .unset, .unset], [(.ref 0)], [(.inl (.int, [(.int (65 : Int32)), (.int (90 : Int32)), (.int (95 : Int32)), (.int (97 : Int32)), (.int (122 : Int32)), (.int (192 : Int32)), (.int (214 : Int32)), (.int (216 : Int32)), (.int (246 : Int32)), (.int (248 : Int32)), (.int (767 : Int32)), (.int (880 : Int32)), (.int (893 : Int32)), (.int (895 : Int32)), (.int (8191 : Int32)), (.int (8204 : Int32)), (.int (8205 : Int32)), (.int (8304 : Int32)), (.int (8591 : Int32)), (.int (11264 : Int32)), (.int (12271 : Int32)), (.int (12289 : Int32)), (.int (55295 : Int32)), (.int (63744 : Int32)), (.int (64975 : Int32)), (.int (65008 : Int32)), (.int (65533 : Int32)), (.int (65536 : Int32)), (.int (983039 : Int32)), (.int (0 : Int32)), (.int (0 : Int32)), (.int (0 : Int32))]))], 32) _
  refine WGo.s (WStep.dup a0_194 rfl) ?_
  refine WGo.s (WStep.bipush (30 : Int32) a0_195 rfl) ?_
  refine WGo.s (WStep.ldc a0_197 (hw _ (List.mem_of_getElem? (i := 8) rfl))) ?_
  refine WGo.s (WStep.iastore 30 a0_199 rfl (by decide) rfl (by decide)) ?_
  show WGo _ (200, [.val (.int c), .val (.int sel), .val (.int off), .unset, .unset, .unset], [(.ref 0)], [(.inl (.int, [(.int (65 : Int32)), (.int (90 : Int32)), (.int (95 : Int32)), (.int (97 : Int32)), (.int (122 : Int32)), (.int (192 : Int32)), (.int (214 : Int32)), (.int (216 : Int32)), (.int (246 : Int32)), (.int (248 : Int32)), (.int (767 : Int32)), (.int (880 : Int32)), (.int (893 : Int32)), (.int (895 : Int32)), (.int (8191 : Int32)), (.int (8204 : Int32)), (.int (8205 : Int32)), (.int (8304 : Int32)), (.int (8591 : Int32)), (.int (11264 : Int32)), (.int (12271 : Int32)), (.int (12289 : Int32)), (.int (55295 : Int32)), (.int (63744 : Int32)), (.int (64975 : Int32)), (.int (65008 : Int32)), (.int (65533 : Int32)), (.int (65536 : Int32)), (.int (983039 : Int32)), (.int (0 : Int32)), (.int (-2147483648 : Int32)), (.int (0 : Int32))]))], 32) _
  refine WGo.s (WStep.dup a0_200 rfl) ?_
  refine WGo.s (WStep.bipush (31 : Int32) a0_201 rfl) ?_
  refine WGo.s (WStep.ldc a0_203 (hw _ (List.mem_of_getElem? (i := 9) rfl))) ?_
  refine WGo.s (WStep.iastore 31 a0_205 rfl (by decide) rfl (by decide)) ?_
  show WGo _ (206, [.val (.int c), .val (.int sel), .val (.int off), .unset, .unset, .unset], [(.ref 0)], [(.inl (.int, [(.int (65 : Int32)), (.int (90 : Int32)), (.int (95 : Int32)), (.int (97 : Int32)), (.int (122 : Int32)), (.int (192 : Int32)), (.int (214 : Int32)), (.int (216 : Int32)), (.int (246 : Int32)), (.int (248 : Int32)), (.int (767 : Int32)), (.int (880 : Int32)), (.int (893 : Int32)), (.int (895 : Int32)), (.int (8191 : Int32)), (.int (8204 : Int32)), (.int (8205 : Int32)), (.int (8304 : Int32)), (.int (8591 : Int32)), (.int (11264 : Int32)), (.int (12271 : Int32)), (.int (12289 : Int32)), (.int (55295 : Int32)), (.int (63744 : Int32)), (.int (64975 : Int32)), (.int (65008 : Int32)), (.int (65533 : Int32)), (.int (65536 : Int32)), (.int (983039 : Int32)), (.int (0 : Int32)), (.int (-2147483648 : Int32)), (.int (2147483647 : Int32))]))], 32) _
  refine WGo.s (WStep.astoreN (L' := [.val (.int c), .val (.int sel), .val (.int off), .val (.ref 0), .unset, .unset]) a0_206 rfl rfl) ?_
  refine WGo.s (WStep.iloadN a0_207 rfl) ?_
  refine WGo.s (WStep.iconst (3 : Int32) a0_208 rfl) ?_
  refine WGo.s (WStep.iand a0_209) ?_
  refine WGo.s (WStep.iconst (1 : Int32) a0_210 rfl) ?_
  refine WGo.s (WStep.isub a0_211) ?_
  refine WGo.s (WStep.istore (L' := [.val (.int c), .val (.int sel), .val (.int off), .val (.ref 0), .val (.int ((off &&& (3 : Int32)) - (1 : Int32))), .unset]) a0_212 rfl) ?_
  refine WGo.s (WStep.aloadN a0_214 rfl rfl) ?_
  refine WGo.s (WStep.iloadN a0_215 rfl) ?_
  refine WGo.s (WStep.bipush (31 : Int32) a0_216 rfl) ?_
  refine WGo.s (WStep.iand a0_218) ?_
  generalize hg_k2 : (sel &&& (31 : Int32)) = k2
  have hidx : 0 ≤ k2.toInt ∧ k2.toInt < 32 := by
    rw [← hg_k2]
    have q := c_and sel 31 (by decide)
    have e17 : (31 : Int32).toInt = 31 := rfl
    omega
  obtain ⟨hj0, hj1⟩ := hidx
  obtain ⟨e, -, he⟩ := ia_ex [(65 : Int32), (90 : Int32), (95 : Int32), (97 : Int32), (122 : Int32), (192 : Int32), (214 : Int32), (216 : Int32), (246 : Int32), (248 : Int32), (767 : Int32), (880 : Int32), (893 : Int32), (895 : Int32), (8191 : Int32), (8204 : Int32), (8205 : Int32), (8304 : Int32), (8591 : Int32), (11264 : Int32), (12271 : Int32), (12289 : Int32), (55295 : Int32), (63744 : Int32), (64975 : Int32), (65008 : Int32), (65533 : Int32), (65536 : Int32), (983039 : Int32), (0 : Int32), (-2147483648 : Int32), (2147483647 : Int32)] k2.toNatClampNeg (nlt (n := 32) hj0 hj1)
  refine WGo.s (WStep.iaload (k2.toNatClampNeg) (v := (.int e)) a0_219 rfl (nn hj0) rfl he) ?_
  refine WGo.s (WStep.iload a0_220 rfl) ?_
  refine WGo.s (WStep.iadd a0_222) ?_
  generalize hg_b : (e + ((off &&& (3 : Int32)) - (1 : Int32))) = b
  refine WGo.s (WStep.istore (L' := [.val (.int c), .val (.int sel), .val (.int off), .val (.ref 0), .val (.int ((off &&& (3 : Int32)) - (1 : Int32))), .val (.int b)]) a0_223 rfl) ?_
  refine WGo.s (WStep.iloadN a0_225 rfl) ?_
  refine WGo.callS a0_226 (ok1 hw _ _ _ _) (hw _ (List.mem_of_getElem? (i := 10) rfl)) (hw _ (List.mem_of_getElem? (i := 11) rfl)) (argsL := [(.int c)]) (S := []) (c1 hw _ _ c _ _) rfl rfl rfl rfl rfl rfl (Nat.le_of_ble_eq_true rfl) (Nat.le_of_ble_eq_true rfl) ?_
  rintro _ _ _ ⟨rfl, rfl, rfl⟩
  show WGo _ (229, [.val (.int c), .val (.int sel), .val (.int off), .val (.ref 0), .val (.int ((off &&& (3 : Int32)) - (1 : Int32))), .val (.int b)], [(.int (1 : Int32))], [(.inl (.int, [(.int (65 : Int32)), (.int (90 : Int32)), (.int (95 : Int32)), (.int (97 : Int32)), (.int (122 : Int32)), (.int (192 : Int32)), (.int (214 : Int32)), (.int (216 : Int32)), (.int (246 : Int32)), (.int (248 : Int32)), (.int (767 : Int32)), (.int (880 : Int32)), (.int (893 : Int32)), (.int (895 : Int32)), (.int (8191 : Int32)), (.int (8204 : Int32)), (.int (8205 : Int32)), (.int (8304 : Int32)), (.int (8591 : Int32)), (.int (11264 : Int32)), (.int (12271 : Int32)), (.int (12289 : Int32)), (.int (55295 : Int32)), (.int (63744 : Int32)), (.int (64975 : Int32)), (.int (65008 : Int32)), (.int (65533 : Int32)), (.int (65536 : Int32)), (.int (983039 : Int32)), (.int (0 : Int32)), (.int (-2147483648 : Int32)), (.int (2147483647 : Int32))]))], 32) _
  refine WGo.s (WStep.ifF a0_229 (by decide)) ?_
  refine WGo.s (WStep.iload a0_232 rfl) ?_
  refine WGo.callS a0_234 (ok1 hw _ _ _ _) (hw _ (List.mem_of_getElem? (i := 10) rfl)) (hw _ (List.mem_of_getElem? (i := 11) rfl)) (argsL := [(.int b)]) (S := []) (c1 hw _ _ b _ _) rfl rfl rfl rfl rfl rfl (Nat.le_of_ble_eq_true rfl) (Nat.le_of_ble_eq_true rfl) ?_
  rintro _ _ _ ⟨rfl, rfl, rfl⟩
  show WGo _ (237, [.val (.int c), .val (.int sel), .val (.int off), .val (.ref 0), .val (.int ((off &&& (3 : Int32)) - (1 : Int32))), .val (.int b)], [(.int (1 : Int32))], [(.inl (.int, [(.int (65 : Int32)), (.int (90 : Int32)), (.int (95 : Int32)), (.int (97 : Int32)), (.int (122 : Int32)), (.int (192 : Int32)), (.int (214 : Int32)), (.int (216 : Int32)), (.int (246 : Int32)), (.int (248 : Int32)), (.int (767 : Int32)), (.int (880 : Int32)), (.int (893 : Int32)), (.int (895 : Int32)), (.int (8191 : Int32)), (.int (8204 : Int32)), (.int (8205 : Int32)), (.int (8304 : Int32)), (.int (8591 : Int32)), (.int (11264 : Int32)), (.int (12271 : Int32)), (.int (12289 : Int32)), (.int (55295 : Int32)), (.int (63744 : Int32)), (.int (64975 : Int32)), (.int (65008 : Int32)), (.int (65533 : Int32)), (.int (65536 : Int32)), (.int (983039 : Int32)), (.int (0 : Int32)), (.int (-2147483648 : Int32)), (.int (2147483647 : Int32))]))], 32) _
  refine WGo.s (WStep.ifF a0_237 (by decide)) ?_
  refine WGo.s (WStep.iconst (1 : Int32) a0_240 rfl) ?_
  refine WGo.s (WStep.goto a0_241) ?_
  refine WGo.ireturn .boolean a0_245 rfl (by simp) ?_
  exact ⟨rfl, Nat.le_of_ble_eq_true rfl, Nat.le_of_ble_eq_true rfl⟩
theorem plx : plainFor x = true := plainFor_of_name (by first | (simp [plainName, overriddenIn, x]; done) | decide +kernel)
set_option maxRecDepth 65536 in
set_option maxHeartbeats 40000000 in
theorem comes_1 {Post : Tables → Env → Array Value → State → Outcome → State → Prop} (hpost : ∀ tb e args s v u, (limb_1_1.after args s (.returned v) u = true ∧ limb_1_2.after args s (.returned v) u = true ∧ True) → FrameEnd s (.returned v) u (Jvm.fieldLocs frame_1_writes args s ++ Jvm.arrayLocs frame_1_arrays args s ++ Jvm.staticLocs frame_1_statics s) 16 128 → Post tb e args s (.returned v) u) :
    ArmFor flags0 classFile x code maxLocals ret World_1 tables_1 room_1 Calls_1 rest_1 Pre_1 Post := by
  intro l hfl _ _ p e ha hc hk s m args below hf hA hF happ hP
  obtain ⟨hcalls, hrest, hpre⟩ := hP
  obtain ⟨-, -, -, hnamed, -, -, -, hat⟩ := (Spec.applies_iff hf).mp happ
  obtain ⟨hg, hn⟩ := and_e (Cond.before_iff.mp (show (Jvm.Cond.and given_1 narrow_1).before args s = true from hpre))
  obtain ⟨gg1, gg2⟩ := and_e hg
  obtain ⟨gg3, gg4⟩ := and_e gg2
  obtain ⟨gg5, gg6⟩ := and_e gg4
  obtain ⟨w0, w1, w2, rfl⟩ : ∃ w0 w1 w2 : Value, args = #[w0, w1, w2] := by
    have hs : args.size = 3 := by simpa [Cond.value, given_1] using gg1
    obtain ⟨L⟩ := args
    match L, hs with
    | [w0, w1, w2], _ => exact ⟨w0, w1, w2, rfl⟩
  have hw := fun d (hd : d ∈ tables_1) => atoms_spec (ws := Jvm.Cond.code x code maxLocals ret :: tables_1) hat d (List.mem_cons_of_mem _ hd)
  obtain ⟨i0, ei0⟩ := is_v gg3
  obtain rfl : w0 = (.int i0) := Option.some.inj ei0
  obtain ⟨i1, ei1⟩ := is_v gg5
  obtain rfl : w1 = (.int i1) := Option.some.inj ei1
  obtain ⟨i2, ei2⟩ := is_v gg6
  obtain rfl : w2 = (.int i2) := Option.some.inj ei2
  obtain ⟨v, σ', u', ⟨rfl, hc1, hu1⟩, r⟩ := law_go s _ hw s.heap.size i0 i1 i2
  have D0 : WDen s (fun k => s.heap.size + k) s.heap.size [] s.heap := ⟨rfl, Nat.zero_le _, fun k o h => by cases h⟩
  obtain ⟨n, o, h1, h2, h3, _, L, rfl, ⟨rfl, N, -⟩, hq⟩ := met_of (l := l) (y := x) (ws := tables_1) (argsL := [(.int i0), (.int i1), (.int i2)]) (h := s.heap) rfl rfl rfl rfl plx (fun k _ => rfl) (fun i j h => Nat.add_left_cancel h) r D0 room_1 (Nat.le_of_ble_eq_true rfl) (Nat.le_trans (Nat.sub_le _ _) (Nat.le_trans hc1 (by decide))) (Nat.le_trans (Nat.sub_le _ _) (Nat.le_trans hu1 (by decide))) (Nat.le_of_ble_eq_true rfl) p e ha hc hk s m _ below hf ((Spec.applies_iff_loose hf).mp happ).1 ⟨rfl, State.Warmed39.refl s, rfl⟩ trivial
  refine ⟨n, _, h1, h2, h3, hpost _ _ _ _ _ _ ⟨Cond.after_iff.mpr rfl, Cond.after_iff.mpr (eq_i res_at (Term.int_eval (1)) rfl), trivial⟩ ⟨hq.1, hq.2.1, (hq.2.2.sift fun y hy => Or.inr (N y hy)).mono (Nat.le_trans (Nat.sub_le _ _) (Nat.le_trans hc1 (by decide))) (Nat.le_trans (Nat.sub_le _ _) (Nat.le_trans hu1 (by decide)))⟩⟩
theorem main_1_1 : Claimed_1_1 := comes_1 fun _ _ _ _ _ _ h hF => ⟨h.1, hF⟩
theorem main_1_2 : Claimed_1_2 := comes_1 fun _ _ _ _ _ _ h hF => ⟨h.2.1, hF⟩
end Jvm.Pilot.@@N@@
namespace Jvm.Pilot.@@N@@
open Jvm Jvm.ClassFile Sem Op Lib Jvm.Free Jvm.Stand Jvm.Pilot.@@N@@.Jvm.D
/-! MADE BY PROGRAM (witnessworld.py) out of the Statement's table words and the real class files: 9 classes; the members and pool entries that the words name. The judged class is class 1, her method 3. -/
namespace start1
open Jvm.ClassFile
def u (s : String) : CpInfo := .utf8 (stringToUtf16 s)
/-- a pool by its gaps: so many unusable entries, then the entry; so many at the end -/
def gap : Nat → List CpInfo → List CpInfo
  | 0, r => r
  | n + 1, r => .unusable :: gap n r
def poolList (es : List (Nat × CpInfo)) (last : Nat) : List CpInfo := es.foldr (fun e r => gap e.1 (e.2 :: r)) (gap last [])
def pool (es : List (Nat × CpInfo)) (last : Nat) : Array CpInfo := ⟨poolList es last⟩
def fileOf (pool : Array CpInfo) (this : Nat) (attrs : Array Attribute := #[]) (ms : Array MethodInfo := #[]) (fl : Nat := 33) (sup : Nat := 0) (ifs : Array Nat := #[]) (fds : Array FieldInfo := #[]) : ClassFile where
  minorVersion := 0
  majorVersion := 65
  constantPool := pool
  accessFlags := fl
  thisClass := this
  superClass := sup
  interfaces := ifs
  fields := fds
  methods := ms
  attributes := attrs
def plain (name : String) (sup : Option ClassId) : Class where
  name := name
  kind := .ordinary
  loader := none
  accessFlags := 33
  super := sup
  interfaces := #[]
  cf := none
  fields := #[]
  methods := #[]
  instanceTypes := #[]
  staticTypes := #[]
  resolved := #[]
  callSites := []
  init := .initialized
  statics := none
  mirror := none

def pool0 : Array CpInfo := pool [(5, u "<init>"), (0, u "()V"), (1, .class_ 10), (1, u "java/lang/Object")] 113

def k0m0 : Method := { name := "<init>", desc := "()V", sig := { parameters := [], returnType := none }, accessFlags := 1, code := none }
/-- java/lang/Object -/
def k0 : Class := { plain "java/lang/Object" none with
  accessFlags := 33
  interfaces := #[]
  cf := some (fileOf pool0 8 #[] #[{ accessFlags := 1, nameIndex := 5, descriptorIndex := 6, attributes := #[] }] 33 0 #[] #[])
  fields := #[]
  methods := #[k0m0]
  instanceTypes := #[]
  staticTypes := #[]
  resolved := Array.replicate 124 none
  statics := none }

def pool1 : Array CpInfo := pool [(2, .class_ 4), (1, u "java/lang/Object"), (0, u "<init>"), (0, u "()V"), (0, .integer 55296), (0, .integer 63743), (0, .integer 64976), (0, .integer 65007), (0, .integer 65534), (0, .integer 65535), (0, .integer 983039), (0, .methodref 15 16), (0, .class_ 17), (0, .nameAndType 18 19), (0, u "com/example/treekeeper/treekeeper/xml/XmlChars"), (0, u "isNameStartChar"), (0, u "(I)Z"), (0, .methodref 21 22), (0, .class_ 23), (0, .nameAndType 24 19), (0, u "com/example/treekeeper/treekeeper/xml/XmlCharsIsNameStartCharPinLaw"), (0, u "excluded"), (0, .methodref 15 26), (0, .nameAndType 27 19), (0, u "isChar"), (0, .integer 55295), (0, .integer 63744), (0, .integer 64975), (0, .integer 65008), (0, .integer 65533), (0, .integer 65536), (2, .integer 2147483648), (0, .integer 2147483647), (0, .methodref 21 39), (0, .nameAndType 40 19), (0, u "check"), (3, u "law"), (0, u "(III)Z")] 4

def k1m0 : Method := { name := "<init>", desc := "()V", sig := { parameters := [], returnType := none }, accessFlags := 1, code := none }
def k1c1 : Code := { maxStack := 2, maxLocals := 1, code := method_2_code, exceptionTable := #[], attributes := #[] }
def k1m1 : Method := { name := "excluded", desc := "(I)Z", sig := { parameters := [.int], returnType := some .boolean }, accessFlags := 10, code := some k1c1 }
def k1c2 : Code := { maxStack := 2, maxLocals := 2, code := method_3_code, exceptionTable := #[], attributes := #[] }
def k1m2 : Method := { name := "check", desc := "(I)Z", sig := { parameters := [.int], returnType := some .boolean }, accessFlags := 10, code := some k1c2 }
def k1c3 : Code := { maxStack := 4, maxLocals := 6, code := code, exceptionTable := #[], attributes := #[] }
def k1m3 : Method := { name := "law", desc := "(III)Z", sig := { parameters := [.int, .int, .int], returnType := some .boolean }, accessFlags := 9, code := some k1c3 }
/-- com/example/treekeeper/treekeeper/xml/XmlCharsIsNameStartCharPinLaw -/
def k1 : Class := { plain "com/example/treekeeper/treekeeper/xml/XmlCharsIsNameStartCharPinLaw" (some 0) with
  accessFlags := 49
  interfaces := #[]
  cf := some (fileOf pool1 21 #[] #[{ accessFlags := 1, nameIndex := 5, descriptorIndex := 6, attributes := #[] }, { accessFlags := 10, nameIndex := 24, descriptorIndex := 19, attributes := #[] }, { accessFlags := 10, nameIndex := 40, descriptorIndex := 19, attributes := #[] }, { accessFlags := 9, nameIndex := 44, descriptorIndex := 45, attributes := #[] }] 49 2 #[] #[])
  fields := #[]
  methods := #[k1m0, k1m1, k1m2, k1m3]
  instanceTypes := #[]
  staticTypes := #[]
  resolved := Array.replicate 50 none
  statics := none }

def pool2 : Array CpInfo := pool [(2, .class_ 4), (1, u "java/lang/Object"), (0, u "<init>"), (0, u "()V"), (0, .integer 55295), (0, .integer 57344), (0, .integer 65533), (0, .integer 65536), (0, .integer 1114111), (0, .integer 63744), (0, .integer 64975), (0, .integer 65008), (0, .integer 983039), (1, .class_ 19), (1, u "com/example/treekeeper/treekeeper/xml/XmlChars"), (0, u "isNameStartChar"), (0, u "(I)Z"), (2, u "isChar")] 5

def k2m0 : Method := { name := "<init>", desc := "()V", sig := { parameters := [], returnType := none }, accessFlags := 2, code := none }
def k2c1 : Code := { maxStack := 2, maxLocals := 1, code := prog_121_method_2_code, exceptionTable := #[], attributes := #[] }
def k2m1 : Method := { name := "isChar", desc := "(I)Z", sig := { parameters := [.int], returnType := some .boolean }, accessFlags := 9, code := some k2c1 }
def k2c2 : Code := { maxStack := 2, maxLocals := 1, code := prog_121_method_4_code, exceptionTable := #[], attributes := #[] }
def k2m2 : Method := { name := "isNameStartChar", desc := "(I)Z", sig := { parameters := [.int], returnType := some .boolean }, accessFlags := 9, code := some k2c2 }
/-- com/example/treekeeper/treekeeper/xml/XmlChars -/
def k2 : Class := { plain "com/example/treekeeper/treekeeper/xml/XmlChars" (some 0) with
  accessFlags := 49
  interfaces := #[]
  cf := some (fileOf pool2 17 #[] #[{ accessFlags := 2, nameIndex := 5, descriptorIndex := 6, attributes := #[] }, { accessFlags := 9, nameIndex := 24, descriptorIndex := 21, attributes := #[] }, { accessFlags := 9, nameIndex := 20, descriptorIndex := 21, attributes := #[] }] 49 2 #[] #[])
  fields := #[]
  methods := #[k2m0, k2m1, k2m2]
  instanceTypes := #[]
  staticTypes := #[]
  resolved := Array.replicate 30 none
  statics := none }

def pool3 : Array CpInfo := pool [(1, u "java/lang/Cloneable"), (0, .class_ 1), (0, u "java/lang/Object"), (0, .class_ 3)] 3

/-- java/lang/Cloneable -/
def k3 : Class := { plain "java/lang/Cloneable" (some 0) with
  accessFlags := 1537
  interfaces := #[]
  cf := some (fileOf pool3 2 #[] #[] 1537 4 #[] #[])
  fields := #[]
  methods := #[]
  instanceTypes := #[]
  staticTypes := #[]
  resolved := Array.replicate 8 none
  statics := none }

def pool4 : Array CpInfo := pool [(1, u "java/io/Serializable"), (0, .class_ 1), (0, u "java/lang/Object"), (0, .class_ 3)] 3

/-- java/io/Serializable -/
def k4 : Class := { plain "java/io/Serializable" (some 0) with
  accessFlags := 1537
  interfaces := #[]
  cf := some (fileOf pool4 2 #[] #[] 1537 4 #[] #[])
  fields := #[]
  methods := #[]
  instanceTypes := #[]
  staticTypes := #[]
  resolved := Array.replicate 8 none
  statics := none }

/-- the primitive byte -/
def k5 : Class := { plain "byte" none with kind := .primitive 'B', accessFlags := 0x411 }
/-- [B -/
def k6 : Class := { plain "[B" (some 0) with kind := .array 5 .byte, interfaces := #[3, 4], accessFlags := 1041 }

/-- the primitive int -/
def k7 : Class := { plain "int" none with kind := .primitive 'I', accessFlags := 0x411 }
/-- [I -/
def k8 : Class := { plain "[I" (some 0) with kind := .array 7 .int, interfaces := #[3, 4], accessFlags := 1041 }

def heap : Heap := #[]
def classes : Array Class := #[k0, k1, k2, k3, k4, k5, k6, k7, k8]
def interned : List (Array UInt16 × Addr) := []
def slotsUsed : Nat := 0
def theMethod : MethodId := ⟨1, 3⟩
def args0 : Array Value := #[.int 65, .int 9, .int 1]
def aboutOver (below : List Frame) : State where
  vm := { classes := classes, interned := interned.toArray }
  heap := heap
  slotsUsed := slotsUsed
  threads := #[{ frames := .invoking theMethod args0 :: below }]
def below0 : List Frame := [.native { method := ⟨0, 0⟩, args := #[] }]
def about1 : State := aboutOver below0
def p0 : Program := .bare "" "" ""
def e0 : Env := launch0.env 0 0 0
theorem w_frames : about1.frames = Frame.invoking theMethod args0 :: below0 := rfl
set_option maxRecDepth 65536 in
theorem w_args : argsFit about1.vm theMethod args0 = true := by decide +kernel
set_option maxRecDepth 65536 in
theorem w_heap : heapFits about1 = true := by decide +kernel
set_option maxRecDepth 65536 in
theorem w_runnable : about1.curStatus? = some .runnable := by decide +kernel
set_option maxRecDepth 65536 in
theorem w_alone : about1.alone = true := by decide +kernel
set_option maxRecDepth 65536 in
theorem w_named : about1.methodNamed? x = some theMethod := by decide +kernel
set_option maxRecDepth 65536 in
theorem w_hears : about1.hears theMethod below0 = true := by decide +kernel
set_option maxRecDepth 65536 in
theorem w_ripe : about1.ripe theMethod args0 below0 = true := by decide +kernel
theorem w_running : about1.status = .running := rfl
set_option maxRecDepth 65536 in
theorem w_room : about1.hasRoom e0.platform room_1 = true :=
  launch0.hasRoom_least _ room_1 (by decide +kernel) (by decide +kernel) (by decide +kernel) (by decide +kernel) (by decide +kernel) (by decide +kernel)
theorem allAtoms_all (ts : List Jvm.Cond) (a : Array Jvm.Value) (st : Jvm.State) : (allAtoms ts).before a st = ts.all (fun c => c.before a st) := by
  induction ts with
  | nil => rfl
  | cons c t ih =>
    show (Jvm.Cond.and c (allAtoms t)).before a st = _
    rw [Jvm.Cond.before_and, ih, List.all_cons]
def words1 : List Jvm.Cond := Jvm.Cond.code x code maxLocals ret :: tables_1
/-- a 'code' word, met by the world's own term for the bytes: nothing is compared byte by byte -/
theorem code_word {y : MethodName} {bytes : ByteArray} {mx : Nat} {rt : Option FieldType} {a : Array Value} {s : State} {m : MethodId} {meth : Method} {c : Code} (h1 : s.methodNamed? y = some m) (h2 : s.vm.method? m = some meth) (h3 : meth.code = some c) (h4 : c.code = bytes)
    (h5 : (c.maxLocals == mx && c.exceptionTable.isEmpty && decide (c.maxStack ≤ mostOperands) && decide (meth.sig.returnType = rt) && !meth.locks && decide (parseMethodDescriptor y.desc = some meth.sig)) = true) : (Jvm.Cond.code y bytes mx rt).before a s = true := by
  simp only [Bool.and_eq_true, beq_iff_eq, Bool.not_eq_true', decide_eq_true_eq] at h5
  obtain ⟨⟨⟨⟨⟨g1, g2⟩, g3⟩, g4⟩, g5⟩, g6⟩ := h5
  simp [Cond.before, Cond.holds, Cond.value, h1, h2, h3, h4, g1, g2, g3, g4, g5, g6]
def isCode : Jvm.Cond → Bool
  | .code _ _ _ _ => true
  | _ => false
theorem all_split {L : List Jvm.Cond} {P : Jvm.Cond → Bool} (h1 : L.all (fun c => isCode c || P c) = true) (h2 : ∀ c ∈ L.filter isCode, P c = true) : L.all P = true := by
  refine List.all_eq_true.mpr fun c hc => ?_
  have h := List.all_eq_true.mp h1 c hc
  rcases Bool.eq_false_or_eq_true (isCode c) with hi | hi
  · exact h2 c (List.mem_filter.mpr ⟨hc, hi⟩)
  · simpa [hi] using h
set_option maxRecDepth 65536 in
theorem w_c0 : (Jvm.Cond.code x code maxLocals ret).before args0 about1 = true := code_word (m := ⟨1, 3⟩) (meth := k1m3) (c := k1c3) (by decide +kernel) rfl rfl rfl (by decide +kernel)
set_option maxRecDepth 65536 in
theorem w_c1 : (Jvm.Cond.code ({ cls := "com/example/treekeeper/treekeeper/xml/XmlCharsIsNameStartCharPinLaw", name := "check", desc := "(I)Z" } : Jvm.MethodName) method_3_code (2 : Nat) (Option.some Jvm.ClassFile.FieldType.boolean)).before args0 about1 = true := code_word (m := ⟨1, 2⟩) (meth := k1m2) (c := k1c2) (by decide +kernel) rfl rfl rfl (by decide +kernel)
set_option maxRecDepth 65536 in
theorem w_c2 : (Jvm.Cond.code ({ cls := "com/example/treekeeper/treekeeper/xml/XmlChars", name := "isNameStartChar", desc := "(I)Z" } : Jvm.MethodName) prog_121_method_4_code (1 : Nat) (Option.some Jvm.ClassFile.FieldType.boolean)).before args0 about1 = true := code_word (m := ⟨2, 2⟩) (meth := k2m2) (c := k2c2) (by decide +kernel) rfl rfl rfl (by decide +kernel)
set_option maxRecDepth 65536 in
theorem w_c3 : (Jvm.Cond.code ({ cls := "com/example/treekeeper/treekeeper/xml/XmlCharsIsNameStartCharPinLaw", name := "excluded", desc := "(I)Z" } : Jvm.MethodName) method_2_code (1 : Nat) (Option.some Jvm.ClassFile.FieldType.boolean)).before args0 about1 = true := code_word (m := ⟨1, 1⟩) (meth := k1m1) (c := k1c1) (by decide +kernel) rfl rfl rfl (by decide +kernel)
set_option maxRecDepth 65536 in
theorem w_c4 : (Jvm.Cond.code ({ cls := "com/example/treekeeper/treekeeper/xml/XmlChars", name := "isChar", desc := "(I)Z" } : Jvm.MethodName) prog_121_method_2_code (1 : Nat) (Option.some Jvm.ClassFile.FieldType.boolean)).before args0 about1 = true := code_word (m := ⟨2, 1⟩) (meth := k2m1) (c := k2c1) (by decide +kernel) rfl rfl rfl (by decide +kernel)
def codes1 : List Jvm.Cond := [Jvm.Cond.code x code maxLocals ret, Jvm.Cond.code ({ cls := "com/example/treekeeper/treekeeper/xml/XmlCharsIsNameStartCharPinLaw", name := "check", desc := "(I)Z" } : Jvm.MethodName) method_3_code (2 : Nat) (Option.some Jvm.ClassFile.FieldType.boolean), Jvm.Cond.code ({ cls := "com/example/treekeeper/treekeeper/xml/XmlChars", name := "isNameStartChar", desc := "(I)Z" } : Jvm.MethodName) prog_121_method_4_code (1 : Nat) (Option.some Jvm.ClassFile.FieldType.boolean), Jvm.Cond.code ({ cls := "com/example/treekeeper/treekeeper/xml/XmlCharsIsNameStartCharPinLaw", name := "excluded", desc := "(I)Z" } : Jvm.MethodName) method_2_code (1 : Nat) (Option.some Jvm.ClassFile.FieldType.boolean), Jvm.Cond.code ({ cls := "com/example/treekeeper/treekeeper/xml/XmlChars", name := "isChar", desc := "(I)Z" } : Jvm.MethodName) prog_121_method_2_code (1 : Nat) (Option.some Jvm.ClassFile.FieldType.boolean)]
set_option maxRecDepth 65536 in
theorem codes_eq : words1.filter isCode = codes1 := rfl
theorem w_codes : ∀ c ∈ words1.filter isCode, c.before args0 about1 = true := by
  rw [codes_eq]
  intro c hc
  simp only [codes1, List.mem_cons, List.not_mem_nil, or_false] at hc
  rcases hc with rfl | rfl | rfl | rfl | rfl
  · exact w_c0
  · exact w_c1
  · exact w_c2
  · exact w_c3
  · exact w_c4
set_option maxRecDepth 65536 in
theorem w_t1 : (words1.take 24).all (fun c => isCode c || c.before args0 about1) = true := by decide +kernel
set_option maxRecDepth 65536 in
theorem w_t2 : (words1.drop 24).all (fun c => isCode c || c.before args0 about1) = true := by decide +kernel
theorem w_tables : (allAtoms (Jvm.Cond.code x code maxLocals ret :: tables_1)).before args0 about1 = true := by
  rw [allAtoms_all]
  show words1.all (fun c => c.before args0 about1) = true
  refine all_split ?_ w_codes
  rw [← List.take_append_drop 24 words1, List.all_append, w_t1, w_t2]
  rfl
set_option maxRecDepth 65536 in
theorem w_case : (Jvm.Cond.and given_1 narrow_1).before args0 about1 = true := by decide +kernel
theorem w_applies : (headSpec (Jvm.Cond.code x code maxLocals ret :: tables_1) room_1).applies x e0.platform about1 = true :=
  (Spec.applies_iff w_frames).mpr ⟨w_running, w_runnable, w_alone, w_named, w_hears, w_ripe, w_room, w_tables⟩
theorem atStart : AtStart classFile x code maxLocals ret World_1 tables_1 room_1 Calls_1 rest_1 Pre_1 launch0 p0 e0 about1 theMethod args0 below0 :=
  ⟨lists_1, trivial, launch0.admits_env _ _ _, launch0.least_env, fairChoices_fair.cas, fairChoices_fair.clock, w_frames, w_args, w_heap, w_applies, trivial, trivial, w_case⟩
end start1
theorem witness_1 : WitnessClaimed_1 := ⟨start1.p0, start1.e0, start1.about1, start1.theMethod, start1.args0, start1.below0, start1.atStart⟩
end Jvm.Pilot.@@N@@
