import JvmDerived
import JvmDerived.Pilot.@@N@@Statement
import JvmDerived.Pilot.@@N@@Code
set_option linter.unusedVariables false
set_option linter.unusedSimpArgs false

namespace Jvm.Sy
open Jvm Jvm.ClassFile Sem Op Lib Jvm.Free Jvm.Stand Jvm.LawKit Jvm.RoadKit Bundle

/-! ## 1. Abstract values, objects, heaps -/
abbrev WKey := String × String × String
abbrev WObj := (FieldType × List Value) ⊕ (String × List (WKey × Value))
abbrev WHp := List WObj
def gv (ρ : Nat → Nat) : Value → Value
  | .ref a => .ref (ρ a)
  | .int x => .int x
  | .long x => .long x
  | .float x => .float x
  | .double x => .double x
  | .null => .null
  | .retAddr q => .retAddr q
def gs (ρ : Nat → Nat) : Slot → Slot
  | .val v => .val (gv ρ v)
  | .unset => .unset
  | .second => .second
def gS (ρ : Nat → Nat) (S : List Value) : List Value := S.map (gv ρ)
def gL (ρ : Nat → Nat) (L : List Slot) : Array Slot := (L.map (gs ρ)).toArray
section Vals
variable {ρ : Nat → Nat} {v : Value} {ty : FieldType}
theorem cat_gv : (gv ρ v).category = v.category := by cases v <;> rfl
theorem isRef_gv : (gv ρ v).isRef = v.isRef := by cases v <;> rfl
theorem fits_gv : fits ty (gv ρ v) = fits ty v := by cases ty <;> cases v <;> rfl
theorem narrow_gv : narrow ty (gv ρ v) = gv ρ (narrow ty v) := by cases ty <;> cases v <;> rfl
theorem dv_gv : gv ρ (defaultValue ty) = defaultValue ty := by cases ty <;> rfl
theorem gv_inj (h : ∀ i j, ρ i = ρ j → i = j) {w : Value} (e : gv ρ v = gv ρ w) : v = w := by
  cases v <;> cases w <;> simp [gv] at e ⊢ <;> first | exact e | exact h _ _ e
theorem sum_gS (S : List Value) : ((gS ρ S).map fun v => v.category).sum = (S.map Value.category).sum := by
  induction S with
  | nil => rfl
  | cons a t ih => simp only [gS, List.map_cons, List.sum_cons, cat_gv] at ih ⊢; rw [ih]
theorem gL_get (L : List Slot) (k : Nat) : (gL ρ L)[k]? = (L[k]?).map (gs ρ) := by simp [gL]
theorem gL_val {L : List Slot} {k : Nat} (h : L[k]? = some (.val v)) : (gL ρ L)[k]? = some (.val (gv ρ v)) := by rw [gL_get, h]; rfl
theorem gL_size (L : List Slot) : (gL ρ L).size = L.length := by simp [gL]
end Vals
def ArrOk (Z : State) (ρ : Nat → Nat) (h : Heap) (a : Addr) (ty : FieldType) (vs : List Value) : Prop :=
  ∃ cl : Cell, Arr Z h a cl ty ∧ cl.slots.toList = vs.map (gv ρ) ∧ (∀ C, ty = .object C → Ovr Z cl.cls C) ∧ ∀ v ∈ vs, fits ty v = true
def ObjOk (Z : State) (ρ : Nat → Nat) (h : Heap) (a : Addr) (C : String) (fs : List (WKey × Value)) : Prop :=
  Exa Z h a C ∧ (∀ (i : Nat) (O n d : String) (v : Value), fs[i]? = some ((O, n, d), v) → Fld Z h a O n d (gv ρ v)) ∧
    ∀ (i j : Nat) (k1 k2 : WKey) (v1 v2 : Value), i ≠ j → fs[i]? = some (k1, v1) → fs[j]? = some (k2, v2) → RoadKit.slotOf Z k1.1 k1.2.1 k1.2.2 ≠ RoadKit.slotOf Z k2.1 k2.2.1 k2.2.2
def CellOk (Z : State) (ρ : Nat → Nat) (h : Heap) (a : Addr) : WObj → Prop
  | .inl q => ArrOk Z ρ h a q.1 q.2
  | .inr q => ObjOk Z ρ h a q.1 q.2
def WDen (Z : State) (ρ : Nat → Nat) (n0 : Nat) (σ : WHp) (h : Heap) : Prop :=
  h.size = n0 + σ.length ∧ σ.length ≤ 1000 ∧ ∀ (k : Nat) (o : WObj), σ[k]? = some o → CellOk Z ρ h (n0 + k) o
section Heaps
variable {Z : State} {ρ : Nat → Nat} {h h' : Heap} {a b : Addr} {o : WObj} {n0 k sl : Nat} {σ : WHp} {v : Value}
theorem CellOk.ext (F : CellOk Z ρ h a o) (E : Ext h h') : CellOk Z ρ h' a o := by
  rcases o with ⟨ty, vs⟩ | ⟨C, fs⟩
  · obtain ⟨cl, A, r⟩ := F; exact ⟨cl, A.ext E, r⟩
  · obtain ⟨F1, F2, F3⟩ := F; exact ⟨F1.ext E, fun i O n d v q => (F2 i O n d v q).ext E, F3⟩
theorem CellOk.other (F : CellOk Z ρ h b o) (W : Wr h h' a sl v) (q : b ≠ a) : CellOk Z ρ h' b o := by
  rcases o with ⟨ty, vs⟩ | ⟨C, fs⟩
  · obtain ⟨cl, A, r⟩ := F; exact ⟨cl, A.other W q, r⟩
  · obtain ⟨F1, F2, F3⟩ := F; exact ⟨F1.wr W, fun i O n d v y => (F2 i O n d v y).other W (Or.inl q), F3⟩
theorem WDen.push (D : WDen Z ρ n0 σ h) (E : Ext h h') (hs : h'.size = h.size + 1) (hl : σ.length < 1000) (F : CellOk Z ρ h' (n0 + σ.length) o) : WDen Z ρ n0 (σ ++ [o]) h' := by
  obtain ⟨D1, D2, D3⟩ := D
  refine ⟨by rw [hs, D1]; simp [Nat.add_assoc], by simp; omega, fun k o' hk => ?_⟩
  by_cases q : k < σ.length
  · rw [List.getElem?_append_left q] at hk; exact (D3 k o' hk).ext E
  · rw [List.getElem?_append_right (by omega)] at hk
    have e : k - σ.length = 0 := by
      rcases Nat.eq_zero_or_pos (k - σ.length) with z | z
      · exact z
      · rw [List.getElem?_eq_none (by simp; omega)] at hk; cases hk
    rw [e] at hk
    cases hk
    have e2 : k = σ.length := by omega
    rw [e2]; exact F
theorem WDen.put (D : WDen Z ρ n0 σ h) (W : Wr h h' (n0 + k) sl v) (F : CellOk Z ρ h' (n0 + k) o) : WDen Z ρ n0 (σ.set k o) h' := by
  obtain ⟨D1, D2, D3⟩ := D
  refine ⟨by rw [W.size, D1]; simp, by simp; exact D2, fun j o' hj => ?_⟩
  by_cases q : j = k
  · subst q
    rw [List.getElem?_set] at hj
    simp only [if_true] at hj
    split at hj
    · cases hj; exact F
    · cases hj
  · rw [List.getElem?_set_ne (Ne.symm q)] at hj
    exact (D3 j o' hj).other W fun e => q (Nat.add_left_cancel e)
theorem WDen.lt (D : WDen Z ρ n0 σ h) (hk : σ[k]? = some o) : k < 1000 := by
  have := (List.getElem?_eq_some_iff.mp hk).1
  have := D.2.1
  omega
theorem ArrOk.size {ty : FieldType} {vs : List Value} {cl : Cell} (e : cl.slots.toList = vs.map (gv ρ)) : cl.slots.size = vs.length := by
  have := congrArg List.length e
  simpa using this
theorem ArrOk.at {vs : List Value} {cl : Cell} (e : cl.slots.toList = vs.map (gv ρ)) {i : Nat} {w : Value} (hw : vs[i]? = some w) : cl.slots[i]? = some (gv ρ w) := by
  rw [← Array.getElem?_toList, e, List.getElem?_map, hw]; rfl
theorem ArrOk.set {ty : FieldType} {vs : List Value} {cl : Cell} (A : Arr Z h a cl ty) (e : cl.slots.toList = vs.map (gv ρ)) (hO : ∀ C, ty = .object C → Ovr Z cl.cls C) (hf : ∀ v ∈ vs, fits ty v = true) {i : Nat} {w : Value} (W : Wr h h' a i (gv ρ w)) (hw : fits ty w = true) : ArrOk Z ρ h' a ty (vs.set i w) := by
  refine ⟨cl.setSlot i (gv ρ w), A.same W, ?_, hO, fun y hy => ?_⟩
  · show (cl.slots.setIfInBounds i (gv ρ w)).toList = _
    rw [Array.toList_setIfInBounds, e, List.map_set]
  · rcases List.mem_or_eq_of_mem_set hy with q | q
    · exact hf y q
    · rw [q]; exact hw
end Heaps
/-! ## 2. A method's walk -/
abbrev WMC := (State × (Nat → Nat) × Nat) × (String × ByteArray × String × Option FieldType × Nat) × (Nat × Nat × Nat × Nat)
abbrev WMC.Z (G : WMC) : State := G.1.1
abbrev WMC.ρ (G : WMC) : Nat → Nat := G.1.2.1
abbrev WMC.n0 (G : WMC) : Nat := G.1.2.2
abbrev WMC.own (G : WMC) : String := G.2.1.1
abbrev WMC.bytes (G : WMC) : ByteArray := G.2.1.2.1
abbrev WMC.nm (G : WMC) : String := G.2.1.2.2.1
abbrev WMC.ret (G : WMC) : Option FieldType := G.2.1.2.2.2.1
abbrev WMC.ml (G : WMC) : Nat := G.2.1.2.2.2.2
abbrev WMC.j0 (G : WMC) : Nat := G.2.2.1
abbrev WMC.u0 (G : WMC) : Nat := G.2.2.2.1
abbrev WMC.fr (G : WMC) : Nat := G.2.2.2.2.1
abbrev WMC.lo (G : WMC) : Nat := G.2.2.2.2.2
abbrev WCfg := Nat × List Slot × List Value × WHp × Nat
def frm (G : WMC) (m : MethodId) (A : WCfg) : JFrame := mkF m A.1 (gL G.ρ A.2.1) (gS G.ρ A.2.2.1)
def WCtx (G : WMC) (p : Program) (R : Room) (s : State) (m : MethodId) (meth : Method) (c : Code) : Prop :=
  p.tables.exec = Jvm.exec ∧ c.code = G.bytes ∧ G.Z.Warmed39 s.vm ∧ s.vm.findClass G.own = some m.cls ∧ meth.name = G.nm ∧ meth.sig.returnType = G.ret ∧ c.maxLocals = G.ml ∧ s.heap.size = G.n0 + G.j0 ∧ (∀ k, k < 1000 → G.ρ k = G.n0 + k) ∧ (∀ i j, G.ρ i = G.ρ j → i = j) ∧ G.fr ≤ R.frames ∧ G.lo ≤ R.locals
def WHere (G : WMC) (p : Program) (l : Launch) (e : Env) (R : Room) (s : State) (m : MethodId) (args : Array Value) (below : List Frame) (meth : Method) (c : Code) (σ : WHp) (u : Nat) (T : State) : Prop :=
  ∃ locs ce sl, σ.length = G.j0 + ce ∧ u = G.u0 + sl ∧ Stand p l e R s m args below meth c T locs ce sl ∧ WDen G.Z G.ρ G.n0 σ T.heap ∧ Fr G.n0 locs
def WStep (G : WMC) (A B : WCfg) : Prop :=
  A.2.2.2.1.length ≤ B.2.2.2.1.length ∧ A.2.2.2.2 ≤ B.2.2.2.2 ∧
  ∀ (p : Program) (l : Launch) (e : Env) (R : Room) (s : State) (m : MethodId) (args : Array Value) (below : List Frame) (meth : Method) (c : Code),
    WCtx G p R s m meth c → B.2.2.2.1.length ≤ G.j0 + R.cells → B.2.2.2.2 ≤ G.u0 + R.slots →
    ∀ T, WHere G p l e R s m args below meth c A.2.2.2.1 A.2.2.2.2 T →
      ∃ T', WHere G p l e R s m args below meth c B.2.2.2.1 B.2.2.2.2 T' ∧
        ∀ target, Steps p.tables e below (T'.setTop (frm G m B)) target → Steps p.tables e below (T.setTop (frm G m A)) target
def WRun (G : WMC) (A : WCfg) (v : Option Value) (σ' : WHp) (u' : Nat) : Prop :=
  A.2.2.2.1.length ≤ σ'.length ∧ A.2.2.2.2 ≤ u' ∧ (G.ret = none → v = none) ∧
  ∀ (p : Program) (l : Launch) (e : Env) (R : Room) (s : State) (m : MethodId) (args : Array Value) (below : List Frame) (meth : Method) (c : Code),
    WCtx G p R s m meth c → σ'.length ≤ G.j0 + R.cells → u' ≤ G.u0 + R.slots →
    ∀ T, WHere G p l e R s m args below meth c A.2.2.2.1 A.2.2.2.2 T →
      ∃ T', WHere G p l e R s m args below meth c σ' u' T' ∧
        ∀ fs, (∀ (f : JFrame) (acts : List Action), f.method = m → f.locked = none → f.entered = [] → (doReturn e (T'.setTop f) acts (v.map (gv G.ρ))).1 = T'.setFrames fs) →
          Steps p.tables e below (T.setTop (frm G m A)) (T'.setFrames fs)
def WGo (G : WMC) (A : WCfg) (Q : Option Value → WHp → Nat → Prop) : Prop := ∃ v σ' u', Q v σ' u' ∧ WRun G A v σ' u'
def AtI (bytes : ByteArray) (pc : Nat) (i : Instr) (len nx : Nat) : Prop := decode bytes pc = .ok (i, len) ∧ pc + len = nx
def AtJ (bytes : ByteArray) (pc : Nat) (f : Int → Instr) (nx tgt : Nat) : Prop := ∃ o : Int, decode bytes pc = .ok (f o, 3) ∧ pc + 3 = nx ∧ 0 ≤ (pc : Int) + o ∧ ((pc : Int) + o).toNat = tgt
section Walk
variable {G : WMC} {A B C : WCfg} {Q Q' : Option Value → WHp → Nat → Prop}
theorem WStep.refl (A : WCfg) : WStep G A A := ⟨Nat.le_refl _, Nat.le_refl _, fun _ _ _ _ _ _ _ _ _ _ _ _ _ T hT => ⟨T, hT, fun _ k => k⟩⟩
theorem WStep.trans (h1 : WStep G A B) (h2 : WStep G B C) : WStep G A C := by
  obtain ⟨a1, a2, a3⟩ := h1
  obtain ⟨b1, b2, b3⟩ := h2
  refine ⟨Nat.le_trans a1 b1, Nat.le_trans a2 b2, fun p l e R s m args below meth c hC hc hs T hT => ?_⟩
  obtain ⟨T1, hT1, k1⟩ := a3 p l e R s m args below meth c hC (Nat.le_trans b1 hc) (Nat.le_trans b2 hs) T hT
  obtain ⟨T2, hT2, k2⟩ := b3 p l e R s m args below meth c hC hc hs T1 hT1
  exact ⟨T2, hT2, fun t k => k1 t (k2 t k)⟩
theorem WRun.s {v : Option Value} {σ' : WHp} {u' : Nat} (h1 : WStep G A B) (h2 : WRun G B v σ' u') : WRun G A v σ' u' := by
  obtain ⟨a1, a2, a3⟩ := h1
  obtain ⟨b1, b2, b0, b3⟩ := h2
  refine ⟨Nat.le_trans a1 b1, Nat.le_trans a2 b2, b0, fun p l e R s m args below meth c hC hc hs T hT => ?_⟩
  obtain ⟨T1, hT1, k1⟩ := a3 p l e R s m args below meth c hC (Nat.le_trans b1 hc) (Nat.le_trans b2 hs) T hT
  obtain ⟨T2, hT2, k2⟩ := b3 p l e R s m args below meth c hC hc hs T1 hT1
  exact ⟨T2, hT2, fun fs h => k1 _ (k2 fs h)⟩
theorem WGo.s (h1 : WStep G A B) (h2 : WGo G B Q) : WGo G A Q := by
  obtain ⟨v, σ', u', q, r⟩ := h2
  exact ⟨v, σ', u', q, r.s h1⟩
theorem WGo.mono (h1 : WGo G A Q) (h : ∀ v σ' u', Q v σ' u' → Q' v σ' u') : WGo G A Q' := by
  obtain ⟨v, σ', u', q, r⟩ := h1
  exact ⟨v, σ', u', h _ _ _ q, r⟩
theorem WGo.cast {A' : WCfg} (h : WGo G A' Q) (e : A = A') : WGo G A Q := e ▸ h
/-- a step that touches neither the heap nor the tables -/
theorem WStep.pure {pc nx : Nat} {L L' : List Slot} {S S' : List Value} {σ : WHp} {u : Nat}
    (h : ∀ {p : Program} {e : Env} {below : List Frame} {T target : State} {m : MethodId} {c : Code}, At T m c below → p.tables.exec = Jvm.exec → c.code = G.bytes → (∀ i j, G.ρ i = G.ρ j → i = j) →
      Steps p.tables e below (T.setTop (mkF m nx (gL G.ρ L') (gS G.ρ S'))) target → Steps p.tables e below (T.setTop (mkF m pc (gL G.ρ L) (gS G.ρ S))) target) :
    WStep G (pc, L, S, σ, u) (nx, L', S', σ, u) := by
  refine ⟨Nat.le_refl _, Nat.le_refl _, fun p l e R s m args below meth c hC hc hs T hT => ⟨T, hT, fun target k => ?_⟩⟩
  obtain ⟨locs, ce, sl, h1, h2, X, D, N⟩ := hT
  exact h X.here hC.1 hC.2.1 hC.2.2.2.2.2.2.2.2.2.1 k
end Walk
end Jvm.Sy
namespace Jvm.Sy
open Jvm Jvm.ClassFile Sem Op Lib Jvm.Free Jvm.Stand Jvm.LawKit Jvm.RoadKit Bundle
section Pure
variable {G : WMC} {pc nx tgt u : Nat} {L L' : List Slot} {S : List Value} {σ : WHp}
theorem WStep.iload {k : Nat} {x : Int32} (d : AtI G.bytes pc (.iload k) 2 nx) (hl : L[k]? = some (.val (.int x))) : WStep G (pc, L, S, σ, u) (nx, L, .int x :: S, σ, u) := by
  obtain ⟨d, rfl⟩ := d
  exact WStep.pure fun hA hx hby _ k => XS.iload hA hx rfl (hb hby d) (gL_val hl) k
theorem WStep.iloadN {k : Fin 4} {x : Int32} (d : AtI G.bytes pc (.iload_n k) 1 nx) (hl : L[k.val]? = some (.val (.int x))) : WStep G (pc, L, S, σ, u) (nx, L, .int x :: S, σ, u) := by
  obtain ⟨d, rfl⟩ := d
  exact WStep.pure fun hA hx hby _ k => XS.iloadN hA hx rfl (hb hby d) (gL_val hl) k
theorem WStep.lload {k : Nat} {x : Int64} (d : AtI G.bytes pc (.lload k) 2 nx) (hl : L[k]? = some (.val (.long x))) : WStep G (pc, L, S, σ, u) (nx, L, .long x :: S, σ, u) := by
  obtain ⟨d, rfl⟩ := d
  exact WStep.pure fun hA hx hby _ k => XS.lload hA hx rfl (hb hby d) (gL_val hl) k
theorem WStep.lloadN {k : Fin 4} {x : Int64} (d : AtI G.bytes pc (.lload_n k) 1 nx) (hl : L[k.val]? = some (.val (.long x))) : WStep G (pc, L, S, σ, u) (nx, L, .long x :: S, σ, u) := by
  obtain ⟨d, rfl⟩ := d
  exact WStep.pure fun hA hx hby _ k => XS.lloadN hA hx rfl (hb hby d) (gL_val hl) k
theorem WStep.aload {k : Nat} {x : Value} (d : AtI G.bytes pc (.aload k) 2 nx) (hl : L[k]? = some (.val x)) (hr : x.isRef = true) : WStep G (pc, L, S, σ, u) (nx, L, x :: S, σ, u) := by
  obtain ⟨d, rfl⟩ := d
  exact WStep.pure fun hA hx hby _ k => XS.aload hA hx rfl (hb hby d) (gL_val hl) (isRef_gv.trans hr) k
theorem WStep.aloadN {k : Fin 4} {x : Value} (d : AtI G.bytes pc (.aload_n k) 1 nx) (hl : L[k.val]? = some (.val x)) (hr : x.isRef = true) : WStep G (pc, L, S, σ, u) (nx, L, x :: S, σ, u) := by
  obtain ⟨d, rfl⟩ := d
  exact WStep.pure fun hA hx hby _ k => XS.aloadN hA hx rfl (hb hby d) (gL_val hl) (isRef_gv.trans hr) k
theorem WStep.istore {k : Nat} {x : Int32} (d : AtI G.bytes pc (.istore k) 2 nx) (hl : storeLocals (gL G.ρ L) k (.int x) = some (gL G.ρ L')) : WStep G (pc, L, .int x :: S, σ, u) (nx, L', S, σ, u) := by
  obtain ⟨d, rfl⟩ := d
  exact WStep.pure fun hA hx hby _ k => XS.istore hA hx rfl (hb hby d) rfl hl k
theorem WStep.istoreN {k : Fin 4} {x : Int32} (d : AtI G.bytes pc (.istore_n k) 1 nx) (hl : storeLocals (gL G.ρ L) k.val (.int x) = some (gL G.ρ L')) : WStep G (pc, L, .int x :: S, σ, u) (nx, L', S, σ, u) := by
  obtain ⟨d, rfl⟩ := d
  exact WStep.pure fun hA hx hby _ k => XS.istoreN hA hx rfl (hb hby d) rfl hl k
theorem WStep.lstore {k : Nat} {x : Int64} (d : AtI G.bytes pc (.lstore k) 2 nx) (hl : storeLocals (gL G.ρ L) k (.long x) = some (gL G.ρ L')) : WStep G (pc, L, .long x :: S, σ, u) (nx, L', S, σ, u) := by
  obtain ⟨d, rfl⟩ := d
  exact WStep.pure fun hA hx hby _ k => XS.lstore hA hx rfl (hb hby d) rfl hl k
theorem WStep.lstoreN {k : Fin 4} {x : Int64} (d : AtI G.bytes pc (.lstore_n k) 1 nx) (hl : storeLocals (gL G.ρ L) k.val (.long x) = some (gL G.ρ L')) : WStep G (pc, L, .long x :: S, σ, u) (nx, L', S, σ, u) := by
  obtain ⟨d, rfl⟩ := d
  exact WStep.pure fun hA hx hby _ k => XS.lstoreN hA hx rfl (hb hby d) rfl hl k
theorem WStep.astore {k : Nat} {x : Value} (d : AtI G.bytes pc (.astore k) 2 nx) (hr : x.isRef = true) (hl : storeLocals (gL G.ρ L) k (gv G.ρ x) = some (gL G.ρ L')) : WStep G (pc, L, x :: S, σ, u) (nx, L', S, σ, u) := by
  obtain ⟨d, rfl⟩ := d
  exact WStep.pure fun hA hx hby _ k => XS.astore hA hx rfl (hb hby d) rfl (isRef_gv.trans hr) hl k
theorem WStep.astoreN {k : Fin 4} {x : Value} (d : AtI G.bytes pc (.astore_n k) 1 nx) (hr : x.isRef = true) (hl : storeLocals (gL G.ρ L) k.val (gv G.ρ x) = some (gL G.ρ L')) : WStep G (pc, L, x :: S, σ, u) (nx, L', S, σ, u) := by
  obtain ⟨d, rfl⟩ := d
  exact WStep.pure fun hA hx hby _ k => XS.astoreN hA hx rfl (hb hby d) rfl (isRef_gv.trans hr) hl k
theorem WStep.iinc {k : Nat} {cst : Int} {x : Int32} (d : AtI G.bytes pc (.iinc k cst) 3 nx) (hl : L[k]? = some (.val (.int x))) (hl' : storeLocals (gL G.ρ L) k (.int (x + Int32.ofInt cst)) = some (gL G.ρ L')) : WStep G (pc, L, S, σ, u) (nx, L', S, σ, u) := by
  obtain ⟨d, rfl⟩ := d
  exact WStep.pure fun hA hx hby _ k => XS.iinc hA hx rfl (hb hby d) (gL_val hl) hl' k
theorem WStep.iconst {i : Int} (z : Int32) (d : AtI G.bytes pc (.iconst i) 1 nx) (hz : Int32.ofInt i = z) : WStep G (pc, L, S, σ, u) (nx, L, .int z :: S, σ, u) := by
  obtain ⟨d, rfl⟩ := d
  exact WStep.pure fun hA hx hby _ k => by subst hz; exact XS.iconst hA hx rfl (hb hby d) k
theorem WStep.bipush {i : Int} (z : Int32) (d : AtI G.bytes pc (.bipush i) 2 nx) (hz : (Int8.ofInt i).toInt32 = z) : WStep G (pc, L, S, σ, u) (nx, L, .int z :: S, σ, u) := by
  obtain ⟨d, rfl⟩ := d
  exact WStep.pure fun hA hx hby _ k => by subst hz; exact XS.bipush hA hx rfl (hb hby d) k
theorem WStep.sipush {i : Int} (z : Int32) (d : AtI G.bytes pc (.sipush i) 3 nx) (hz : (Int16.ofInt i).toInt32 = z) : WStep G (pc, L, S, σ, u) (nx, L, .int z :: S, σ, u) := by
  obtain ⟨d, rfl⟩ := d
  exact WStep.pure fun hA hx hby _ k => by subst hz; exact XS.sipush hA hx rfl (hb hby d) k
theorem WStep.lconst {i : Fin 2} (z : Int64) (d : AtI G.bytes pc (.lconst i) 1 nx) (hz : Int64.ofNat i = z) : WStep G (pc, L, S, σ, u) (nx, L, .long z :: S, σ, u) := by
  obtain ⟨d, rfl⟩ := d
  exact WStep.pure fun hA hx hby _ k => by subst hz; exact XS.lconst hA hx rfl (hb hby d) k
theorem WStep.aconstNull (d : AtI G.bytes pc .aconst_null 1 nx) : WStep G (pc, L, S, σ, u) (nx, L, .null :: S, σ, u) := by
  obtain ⟨d, rfl⟩ := d
  exact WStep.pure fun hA hx hby _ k => XS.aconstNull hA hx rfl (hb hby d) k
theorem WStep.iadd {x y : Int32} (d : AtI G.bytes pc .iadd 1 nx) : WStep G (pc, L, .int y :: .int x :: S, σ, u) (nx, L, .int (x + y) :: S, σ, u) := by
  obtain ⟨d, rfl⟩ := d
  exact WStep.pure fun hA hx hby _ k => XS.iadd hA hx rfl (hb hby d) rfl k
theorem WStep.isub {x y : Int32} (d : AtI G.bytes pc .isub 1 nx) : WStep G (pc, L, .int y :: .int x :: S, σ, u) (nx, L, .int (x - y) :: S, σ, u) := by
  obtain ⟨d, rfl⟩ := d
  exact WStep.pure fun hA hx hby _ k => XS.isub hA hx rfl (hb hby d) rfl k
theorem WStep.imul {x y : Int32} (d : AtI G.bytes pc .imul 1 nx) : WStep G (pc, L, .int y :: .int x :: S, σ, u) (nx, L, .int (x * y) :: S, σ, u) := by
  obtain ⟨d, rfl⟩ := d
  exact WStep.pure fun hA hx hby _ k => XS.imul hA hx rfl (hb hby d) rfl k
theorem WStep.iand {x y : Int32} (d : AtI G.bytes pc .iand 1 nx) : WStep G (pc, L, .int y :: .int x :: S, σ, u) (nx, L, .int (x &&& y) :: S, σ, u) := by
  obtain ⟨d, rfl⟩ := d
  exact WStep.pure fun hA hx hby _ k => XS.iand hA hx rfl (hb hby d) rfl k
theorem WStep.ior {x y : Int32} (d : AtI G.bytes pc .ior 1 nx) : WStep G (pc, L, .int y :: .int x :: S, σ, u) (nx, L, .int (x ||| y) :: S, σ, u) := by
  obtain ⟨d, rfl⟩ := d
  exact WStep.pure fun hA hx hby _ k => XS.ior hA hx rfl (hb hby d) rfl k
theorem WStep.ixor {x y : Int32} (d : AtI G.bytes pc .ixor 1 nx) : WStep G (pc, L, .int y :: .int x :: S, σ, u) (nx, L, .int (x ^^^ y) :: S, σ, u) := by
  obtain ⟨d, rfl⟩ := d
  exact WStep.pure fun hA hx hby _ k => XS.ixor hA hx rfl (hb hby d) rfl k
theorem WStep.idiv {x y : Int32} (d : AtI G.bytes pc .idiv 1 nx) (hy : y ≠ 0) : WStep G (pc, L, .int y :: .int x :: S, σ, u) (nx, L, .int (x / y) :: S, σ, u) := by
  obtain ⟨d, rfl⟩ := d
  exact WStep.pure fun hA hx hby _ k => XS.idiv hA hx rfl (hb hby d) rfl hy k
theorem WStep.ineg {x : Int32} (d : AtI G.bytes pc .ineg 1 nx) : WStep G (pc, L, .int x :: S, σ, u) (nx, L, .int (-x) :: S, σ, u) := by
  obtain ⟨d, rfl⟩ := d
  exact WStep.pure fun hA hx hby _ k => XS.ineg hA hx rfl (hb hby d) rfl k
theorem WStep.ladd {x y : Int64} (d : AtI G.bytes pc .ladd 1 nx) : WStep G (pc, L, .long y :: .long x :: S, σ, u) (nx, L, .long (x + y) :: S, σ, u) := by
  obtain ⟨d, rfl⟩ := d
  exact WStep.pure fun hA hx hby _ k => XS.ladd hA hx rfl (hb hby d) rfl k
theorem WStep.lsub {x y : Int64} (d : AtI G.bytes pc .lsub 1 nx) : WStep G (pc, L, .long y :: .long x :: S, σ, u) (nx, L, .long (x - y) :: S, σ, u) := by
  obtain ⟨d, rfl⟩ := d
  exact WStep.pure fun hA hx hby _ k => XS.lsub hA hx rfl (hb hby d) rfl k
theorem WStep.lmul {x y : Int64} (d : AtI G.bytes pc .lmul 1 nx) : WStep G (pc, L, .long y :: .long x :: S, σ, u) (nx, L, .long (x * y) :: S, σ, u) := by
  obtain ⟨d, rfl⟩ := d
  exact WStep.pure fun hA hx hby _ k => XS.lmul hA hx rfl (hb hby d) rfl k
theorem WStep.land {x y : Int64} (d : AtI G.bytes pc .land 1 nx) : WStep G (pc, L, .long y :: .long x :: S, σ, u) (nx, L, .long (x &&& y) :: S, σ, u) := by
  obtain ⟨d, rfl⟩ := d
  exact WStep.pure fun hA hx hby _ k => XS.land hA hx rfl (hb hby d) rfl k
theorem WStep.lor {x y : Int64} (d : AtI G.bytes pc .lor 1 nx) : WStep G (pc, L, .long y :: .long x :: S, σ, u) (nx, L, .long (x ||| y) :: S, σ, u) := by
  obtain ⟨d, rfl⟩ := d
  exact WStep.pure fun hA hx hby _ k => XS.lor hA hx rfl (hb hby d) rfl k
theorem WStep.lxor {x y : Int64} (d : AtI G.bytes pc .lxor 1 nx) : WStep G (pc, L, .long y :: .long x :: S, σ, u) (nx, L, .long (x ^^^ y) :: S, σ, u) := by
  obtain ⟨d, rfl⟩ := d
  exact WStep.pure fun hA hx hby _ k => XS.lxor hA hx rfl (hb hby d) rfl k
theorem WStep.ldiv {x y : Int64} (d : AtI G.bytes pc .ldiv 1 nx) (hy : y ≠ 0) : WStep G (pc, L, .long y :: .long x :: S, σ, u) (nx, L, .long (x / y) :: S, σ, u) := by
  obtain ⟨d, rfl⟩ := d
  exact WStep.pure fun hA hx hby _ k => XS.ldiv hA hx rfl (hb hby d) rfl hy k
theorem WStep.lneg {x : Int64} (d : AtI G.bytes pc .lneg 1 nx) : WStep G (pc, L, .long x :: S, σ, u) (nx, L, .long (-x) :: S, σ, u) := by
  obtain ⟨d, rfl⟩ := d
  exact WStep.pure fun hA hx hby _ k => XS.lneg hA hx rfl (hb hby d) rfl k
theorem WStep.irem {x y : Int32} (d : AtI G.bytes pc .irem 1 nx) (hy : y ≠ 0) : WStep G (pc, L, .int y :: .int x :: S, σ, u) (nx, L, .int (x % y) :: S, σ, u) := by
  obtain ⟨d, rfl⟩ := d
  have q : x - x / y * y = x % y := irem_eq_mod x y
  exact WStep.pure fun hA hx hby _ k => XS.irem hA hx rfl (hb hby d) rfl hy (by rw [q]; exact k)
theorem WStep.lrem {x y : Int64} (d : AtI G.bytes pc .lrem 1 nx) (hy : y ≠ 0) : WStep G (pc, L, .long y :: .long x :: S, σ, u) (nx, L, .long (x % y) :: S, σ, u) := by
  obtain ⟨d, rfl⟩ := d
  have q : x - x / y * y = x % y := lrem_mod x y
  exact WStep.pure fun hA hx hby _ k => XS.lrem hA hx rfl (hb hby d) rfl hy (by rw [q]; exact k)
theorem WStep.ishl {x : Int32} {y : Int32} (d : AtI G.bytes pc .ishl 1 nx) : WStep G (pc, L, .int y :: .int x :: S, σ, u) (nx, L, .int (x <<< (y &&& 31)) :: S, σ, u) := by
  obtain ⟨d, rfl⟩ := d
  exact WStep.pure fun hA hx hby _ k => XS.ishl hA hx rfl (hb hby d) rfl k
theorem WStep.ishr {x : Int32} {y : Int32} (d : AtI G.bytes pc .ishr 1 nx) : WStep G (pc, L, .int y :: .int x :: S, σ, u) (nx, L, .int (x >>> (y &&& 31)) :: S, σ, u) := by
  obtain ⟨d, rfl⟩ := d
  exact WStep.pure fun hA hx hby _ k => XS.ishr hA hx rfl (hb hby d) rfl k
theorem WStep.iushr {x : Int32} {y : Int32} (d : AtI G.bytes pc .iushr 1 nx) : WStep G (pc, L, .int y :: .int x :: S, σ, u) (nx, L, .int ((x.toUInt32 >>> (y &&& 31).toUInt32).toInt32) :: S, σ, u) := by
  obtain ⟨d, rfl⟩ := d
  exact WStep.pure fun hA hx hby _ k => XS.iushr hA hx rfl (hb hby d) rfl k
theorem WStep.lshl {x : Int64} {y : Int32} (d : AtI G.bytes pc .lshl 1 nx) : WStep G (pc, L, .int y :: .long x :: S, σ, u) (nx, L, .long (x <<< (y &&& 0x3f).toInt64) :: S, σ, u) := by
  obtain ⟨d, rfl⟩ := d
  exact WStep.pure fun hA hx hby _ k => XS.lshl hA hx rfl (hb hby d) rfl k
theorem WStep.lshr {x : Int64} {y : Int32} (d : AtI G.bytes pc .lshr 1 nx) : WStep G (pc, L, .int y :: .long x :: S, σ, u) (nx, L, .long (x >>> (y &&& 0x3f).toInt64) :: S, σ, u) := by
  obtain ⟨d, rfl⟩ := d
  exact WStep.pure fun hA hx hby _ k => XS.lshr hA hx rfl (hb hby d) rfl k
theorem WStep.lushr {x : Int64} {y : Int32} (d : AtI G.bytes pc .lushr 1 nx) : WStep G (pc, L, .int y :: .long x :: S, σ, u) (nx, L, .long ((x.toUInt64 >>> (y &&& 0x3f).toInt64.toUInt64).toInt64) :: S, σ, u) := by
  obtain ⟨d, rfl⟩ := d
  exact WStep.pure fun hA hx hby _ k => XS.lushr hA hx rfl (hb hby d) rfl k
theorem WStep.i2l {x : Int32} (d : AtI G.bytes pc .i2l 1 nx) : WStep G (pc, L, .int x :: S, σ, u) (nx, L, .long (x.toInt64) :: S, σ, u) := by
  obtain ⟨d, rfl⟩ := d
  exact WStep.pure fun hA hx hby _ k => XS.i2l hA hx rfl (hb hby d) rfl k
theorem WStep.l2i {x : Int64} (d : AtI G.bytes pc .l2i 1 nx) : WStep G (pc, L, .long x :: S, σ, u) (nx, L, .int (x.toInt32) :: S, σ, u) := by
  obtain ⟨d, rfl⟩ := d
  exact WStep.pure fun hA hx hby _ k => XS.l2i hA hx rfl (hb hby d) rfl k
theorem WStep.i2b {x : Int32} (d : AtI G.bytes pc .i2b 1 nx) : WStep G (pc, L, .int x :: S, σ, u) (nx, L, .int (x.toInt8.toInt32) :: S, σ, u) := by
  obtain ⟨d, rfl⟩ := d
  exact WStep.pure fun hA hx hby _ k => XS.i2b hA hx rfl (hb hby d) rfl k
theorem WStep.i2s {x : Int32} (d : AtI G.bytes pc .i2s 1 nx) : WStep G (pc, L, .int x :: S, σ, u) (nx, L, .int (x.toInt16.toInt32) :: S, σ, u) := by
  obtain ⟨d, rfl⟩ := d
  exact WStep.pure fun hA hx hby _ k => XS.i2s hA hx rfl (hb hby d) rfl k
theorem WStep.i2c {x : Int32} (d : AtI G.bytes pc .i2c 1 nx) : WStep G (pc, L, .int x :: S, σ, u) (nx, L, .int (x.toUInt32.toUInt16.toUInt32.toInt32) :: S, σ, u) := by
  obtain ⟨d, rfl⟩ := d
  exact WStep.pure fun hA hx hby _ k => XS.i2c hA hx rfl (hb hby d) rfl k
theorem WStep.lcmp {x y : Int64} (d : AtI G.bytes pc .lcmp 1 nx) : WStep G (pc, L, .long y :: .long x :: S, σ, u) (nx, L, .int (lcmpW x y) :: S, σ, u) := by
  obtain ⟨d, rfl⟩ := d
  exact WStep.pure fun hA hx hby _ k => XS.lcmp hA hx rfl (hb hby d) rfl k
theorem WStep.dup {x : Value} (d : AtI G.bytes pc .dup 1 nx) (hc : x.category = 1) : WStep G (pc, L, x :: S, σ, u) (nx, L, x :: x :: S, σ, u) := by
  obtain ⟨d, rfl⟩ := d
  exact WStep.pure fun hA hx hby _ k => XS.dup hA hx rfl (hb hby d) rfl (cat_gv.trans hc) k
theorem WStep.pop {x : Value} (d : AtI G.bytes pc .pop 1 nx) (hc : x.category = 1) : WStep G (pc, L, x :: S, σ, u) (nx, L, S, σ, u) := by
  obtain ⟨d, rfl⟩ := d
  exact WStep.pure fun hA hx hby _ k => XS.pop hA hx rfl (hb hby d) rfl (cat_gv.trans hc) k
theorem WStep.dupX1 {x y : Value} (d : AtI G.bytes pc .dup_x1 1 nx) (hc : x.category = 1) (hc' : y.category = 1) : WStep G (pc, L, x :: y :: S, σ, u) (nx, L, x :: y :: x :: S, σ, u) := by
  obtain ⟨d, rfl⟩ := d
  exact WStep.pure fun hA hx hby _ k => XS.dupX1 hA hx rfl (hb hby d) rfl (cat_gv.trans hc) (cat_gv.trans hc') k
theorem WStep.dup2 {x y : Value} (d : AtI G.bytes pc .dup2 1 nx) (hc : x.category = 1) (hc' : y.category = 1) : WStep G (pc, L, x :: y :: S, σ, u) (nx, L, x :: y :: x :: y :: S, σ, u) := by
  obtain ⟨d, rfl⟩ := d
  exact WStep.pure fun hA hx hby _ k => XT.dup2 hA hx rfl (hb hby d) rfl (cat_gv.trans hc) (cat_gv.trans hc') k
theorem WStep.dup2L {x : Int64} (d : AtI G.bytes pc .dup2 1 nx) : WStep G (pc, L, .long x :: S, σ, u) (nx, L, .long x :: .long x :: S, σ, u) := by
  obtain ⟨d, rfl⟩ := d
  exact WStep.pure fun hA hx hby _ k => XT.dup2L hA hx rfl (hb hby d) rfl k
theorem WStep.goto (d : AtJ G.bytes pc .goto nx tgt) : WStep G (pc, L, S, σ, u) (tgt, L, S, σ, u) := by
  obtain ⟨o, d, rfl, h0, h1⟩ := d
  exact WStep.pure fun hA hx hby _ k => XS.goto hA hx rfl (pc0 := pc) (pc' := tgt) rfl (hb hby d) h0 h1 k
theorem WStep.icmpT {cd : ClassFile.Cond} {x y : Int32} (d : AtJ G.bytes pc (.if_icmp cd) nx tgt) (h : if_icmp.holds cd x y = true) : WStep G (pc, L, .int y :: .int x :: S, σ, u) (tgt, L, S, σ, u) := by
  obtain ⟨o, d, rfl, h0, h1⟩ := d
  exact WStep.pure fun hA hx hby _ k => XS.icmpYes hA hx rfl (pc0 := pc) (pc' := tgt) rfl (hb hby d) rfl h h0 h1 k
theorem WStep.icmpF {cd : ClassFile.Cond} {x y : Int32} (d : AtJ G.bytes pc (.if_icmp cd) nx tgt) (h : if_icmp.holds cd x y = false) : WStep G (pc, L, .int y :: .int x :: S, σ, u) (nx, L, S, σ, u) := by
  obtain ⟨o, d, rfl, h0, h1⟩ := d
  exact WStep.pure fun hA hx hby _ k => XS.icmpNo hA hx rfl (hb hby d) rfl h k
theorem WStep.ifT {cd : ClassFile.Cond} {x : Int32} (d : AtJ G.bytes pc (.ifCond cd) nx tgt) (h : if_icmp.holds cd x 0 = true) : WStep G (pc, L, .int x :: S, σ, u) (tgt, L, S, σ, u) := by
  obtain ⟨o, d, rfl, h0, h1⟩ := d
  exact WStep.pure fun hA hx hby _ k => XS.ifYes hA hx rfl (pc0 := pc) (pc' := tgt) rfl (hb hby d) rfl ((if0 _ _).trans h) h0 h1 k
theorem WStep.ifF {cd : ClassFile.Cond} {x : Int32} (d : AtJ G.bytes pc (.ifCond cd) nx tgt) (h : if_icmp.holds cd x 0 = false) : WStep G (pc, L, .int x :: S, σ, u) (nx, L, S, σ, u) := by
  obtain ⟨o, d, rfl, h0, h1⟩ := d
  exact WStep.pure fun hA hx hby _ k => XS.ifNo hA hx rfl (hb hby d) rfl ((if0 _ _).trans h) k
theorem WStep.nullT (d : AtJ G.bytes pc .ifnull nx tgt) : WStep G (pc, L, .null :: S, σ, u) (tgt, L, S, σ, u) := by
  obtain ⟨o, d, rfl, h0, h1⟩ := d
  exact WStep.pure fun hA hx hby _ k => XS.ifnullYes hA hx rfl (pc0 := pc) (pc' := tgt) rfl (hb hby d) rfl h0 h1 k
theorem WStep.nullF {a : Addr} (d : AtJ G.bytes pc .ifnull nx tgt) : WStep G (pc, L, .ref a :: S, σ, u) (nx, L, S, σ, u) := by
  obtain ⟨o, d, rfl, h0, h1⟩ := d
  exact WStep.pure fun hA hx hby _ k => XS.ifnullNo hA hx rfl (hb hby d) rfl k
theorem WStep.nonnullT {a : Addr} (d : AtJ G.bytes pc .ifnonnull nx tgt) : WStep G (pc, L, .ref a :: S, σ, u) (tgt, L, S, σ, u) := by
  obtain ⟨o, d, rfl, h0, h1⟩ := d
  exact WStep.pure fun hA hx hby _ k => XS.ifnonnullYes hA hx rfl (pc0 := pc) (pc' := tgt) rfl (hb hby d) rfl h0 h1 k
theorem WStep.nonnullF (d : AtJ G.bytes pc .ifnonnull nx tgt) : WStep G (pc, L, .null :: S, σ, u) (nx, L, S, σ, u) := by
  obtain ⟨o, d, rfl, h0, h1⟩ := d
  exact WStep.pure fun hA hx hby _ k => XS.ifnonnullNo hA hx rfl (hb hby d) rfl k
end Pure
section Forks
variable {G : WMC} {pc nx tgt u : Nat} {L : List Slot} {S : List Value} {σ : WHp} {Q : Option Value → WHp → Nat → Prop}
theorem WGo.lt {x y : Int32} (d : AtJ G.bytes pc (.if_icmp .lt) nx tgt) (h1 : x < y → WGo G (tgt, L, S, σ, u) Q) (h2 : ¬ x < y → WGo G (nx, L, S, σ, u) Q) : WGo G (pc, L, .int y :: .int x :: S, σ, u) Q := by
  by_cases h : x < y
  · exact (h1 h).s (WStep.icmpT d (tlt h).1)
  · exact (h2 h).s (WStep.icmpF d (flt h).1)
theorem WGo.lt0 {x : Int32} (d : AtJ G.bytes pc (.ifCond .lt) nx tgt) (h1 : x < 0 → WGo G (tgt, L, S, σ, u) Q) (h2 : ¬ x < 0 → WGo G (nx, L, S, σ, u) Q) : WGo G (pc, L, .int x :: S, σ, u) Q := by
  by_cases h : x < 0
  · exact (h1 h).s (WStep.ifT d (tlt h).1)
  · exact (h2 h).s (WStep.ifF d (flt h).1)
theorem WGo.ltL {x y : Int64} (d : AtJ G.bytes pc (.ifCond .lt) nx tgt) (h1 : x < y → WGo G (tgt, L, S, σ, u) Q) (h2 : ¬ x < y → WGo G (nx, L, S, σ, u) Q) : WGo G (pc, L, .int (lcmpW x y) :: S, σ, u) Q := by
  exact WGo.lt0 d (fun h => h1 ((lw_lt x y).mp h)) (fun h => h2 fun q => h ((lw_lt x y).mpr q))
theorem WGo.ge {x y : Int32} (d : AtJ G.bytes pc (.if_icmp .ge) nx tgt) (h1 : ¬ x < y → WGo G (tgt, L, S, σ, u) Q) (h2 : x < y → WGo G (nx, L, S, σ, u) Q) : WGo G (pc, L, .int y :: .int x :: S, σ, u) Q := by
  by_cases h : x < y
  · exact (h2 h).s (WStep.icmpF d (tlt h).2.1)
  · exact (h1 h).s (WStep.icmpT d (flt h).2.1)
theorem WGo.ge0 {x : Int32} (d : AtJ G.bytes pc (.ifCond .ge) nx tgt) (h1 : ¬ x < 0 → WGo G (tgt, L, S, σ, u) Q) (h2 : x < 0 → WGo G (nx, L, S, σ, u) Q) : WGo G (pc, L, .int x :: S, σ, u) Q := by
  by_cases h : x < 0
  · exact (h2 h).s (WStep.ifF d (tlt h).2.1)
  · exact (h1 h).s (WStep.ifT d (flt h).2.1)
theorem WGo.geL {x y : Int64} (d : AtJ G.bytes pc (.ifCond .ge) nx tgt) (h1 : ¬ x < y → WGo G (tgt, L, S, σ, u) Q) (h2 : x < y → WGo G (nx, L, S, σ, u) Q) : WGo G (pc, L, .int (lcmpW x y) :: S, σ, u) Q := by
  exact WGo.ge0 d (fun h => h1 fun q => h ((lw_lt x y).mpr q)) (fun h => h2 ((lw_lt x y).mp h))
theorem WGo.gt {x y : Int32} (d : AtJ G.bytes pc (.if_icmp .gt) nx tgt) (h1 : y < x → WGo G (tgt, L, S, σ, u) Q) (h2 : ¬ y < x → WGo G (nx, L, S, σ, u) Q) : WGo G (pc, L, .int y :: .int x :: S, σ, u) Q := by
  by_cases h : y < x
  · exact (h1 h).s (WStep.icmpT d (tlt h).2.2.1)
  · exact (h2 h).s (WStep.icmpF d (flt h).2.2.1)
theorem WGo.gt0 {x : Int32} (d : AtJ G.bytes pc (.ifCond .gt) nx tgt) (h1 : 0 < x → WGo G (tgt, L, S, σ, u) Q) (h2 : ¬ 0 < x → WGo G (nx, L, S, σ, u) Q) : WGo G (pc, L, .int x :: S, σ, u) Q := by
  by_cases h : 0 < x
  · exact (h1 h).s (WStep.ifT d (tlt h).2.2.1)
  · exact (h2 h).s (WStep.ifF d (flt h).2.2.1)
theorem WGo.gtL {x y : Int64} (d : AtJ G.bytes pc (.ifCond .gt) nx tgt) (h1 : y < x → WGo G (tgt, L, S, σ, u) Q) (h2 : ¬ y < x → WGo G (nx, L, S, σ, u) Q) : WGo G (pc, L, .int (lcmpW x y) :: S, σ, u) Q := by
  exact WGo.gt0 d (fun h => h1 ((lw_gt x y).mp h)) (fun h => h2 fun q => h ((lw_gt x y).mpr q))
theorem WGo.le {x y : Int32} (d : AtJ G.bytes pc (.if_icmp .le) nx tgt) (h1 : ¬ y < x → WGo G (tgt, L, S, σ, u) Q) (h2 : y < x → WGo G (nx, L, S, σ, u) Q) : WGo G (pc, L, .int y :: .int x :: S, σ, u) Q := by
  by_cases h : y < x
  · exact (h2 h).s (WStep.icmpF d (tlt h).2.2.2)
  · exact (h1 h).s (WStep.icmpT d (flt h).2.2.2)
theorem WGo.le0 {x : Int32} (d : AtJ G.bytes pc (.ifCond .le) nx tgt) (h1 : ¬ 0 < x → WGo G (tgt, L, S, σ, u) Q) (h2 : 0 < x → WGo G (nx, L, S, σ, u) Q) : WGo G (pc, L, .int x :: S, σ, u) Q := by
  by_cases h : 0 < x
  · exact (h2 h).s (WStep.ifF d (tlt h).2.2.2)
  · exact (h1 h).s (WStep.ifT d (flt h).2.2.2)
theorem WGo.leL {x y : Int64} (d : AtJ G.bytes pc (.ifCond .le) nx tgt) (h1 : ¬ y < x → WGo G (tgt, L, S, σ, u) Q) (h2 : y < x → WGo G (nx, L, S, σ, u) Q) : WGo G (pc, L, .int (lcmpW x y) :: S, σ, u) Q := by
  exact WGo.le0 d (fun h => h1 fun q => h ((lw_gt x y).mpr q)) (fun h => h2 ((lw_gt x y).mp h))
theorem WGo.eq {x y : Int32} (d : AtJ G.bytes pc (.if_icmp .eq) nx tgt) (h1 : x = y → WGo G (tgt, L, S, σ, u) Q) (h2 : ¬ x = y → WGo G (nx, L, S, σ, u) Q) : WGo G (pc, L, .int y :: .int x :: S, σ, u) Q := by
  by_cases h : x = y
  · exact (h1 h).s (WStep.icmpT d (teq h).1)
  · exact (h2 h).s (WStep.icmpF d (feq h).1)
theorem WGo.eq0 {x : Int32} (d : AtJ G.bytes pc (.ifCond .eq) nx tgt) (h1 : x = 0 → WGo G (tgt, L, S, σ, u) Q) (h2 : ¬ x = 0 → WGo G (nx, L, S, σ, u) Q) : WGo G (pc, L, .int x :: S, σ, u) Q := by
  by_cases h : x = 0
  · exact (h1 h).s (WStep.ifT d (teq h).1)
  · exact (h2 h).s (WStep.ifF d (feq h).1)
theorem WGo.eqL {x y : Int64} (d : AtJ G.bytes pc (.ifCond .eq) nx tgt) (h1 : x = y → WGo G (tgt, L, S, σ, u) Q) (h2 : ¬ x = y → WGo G (nx, L, S, σ, u) Q) : WGo G (pc, L, .int (lcmpW x y) :: S, σ, u) Q := by
  exact WGo.eq0 d (fun h => h1 ((lw_eq x y).mp h)) (fun h => h2 fun q => h ((lw_eq x y).mpr q))
theorem WGo.ne {x y : Int32} (d : AtJ G.bytes pc (.if_icmp .ne) nx tgt) (h1 : ¬ x = y → WGo G (tgt, L, S, σ, u) Q) (h2 : x = y → WGo G (nx, L, S, σ, u) Q) : WGo G (pc, L, .int y :: .int x :: S, σ, u) Q := by
  by_cases h : x = y
  · exact (h2 h).s (WStep.icmpF d (teq h).2)
  · exact (h1 h).s (WStep.icmpT d (feq h).2)
theorem WGo.ne0 {x : Int32} (d : AtJ G.bytes pc (.ifCond .ne) nx tgt) (h1 : ¬ x = 0 → WGo G (tgt, L, S, σ, u) Q) (h2 : x = 0 → WGo G (nx, L, S, σ, u) Q) : WGo G (pc, L, .int x :: S, σ, u) Q := by
  by_cases h : x = 0
  · exact (h2 h).s (WStep.ifF d (teq h).2)
  · exact (h1 h).s (WStep.ifT d (feq h).2)
theorem WGo.neL {x y : Int64} (d : AtJ G.bytes pc (.ifCond .ne) nx tgt) (h1 : ¬ x = y → WGo G (tgt, L, S, σ, u) Q) (h2 : x = y → WGo G (nx, L, S, σ, u) Q) : WGo G (pc, L, .int (lcmpW x y) :: S, σ, u) Q := by
  exact WGo.ne0 d (fun h => h1 fun q => h ((lw_eq x y).mpr q)) (fun h => h2 ((lw_eq x y).mp h))
end Forks
end Jvm.Sy
namespace Jvm.Sy
open Jvm Jvm.ClassFile Sem Op Lib Jvm.Free Jvm.Stand Jvm.LawKit Jvm.RoadKit Bundle
/-! ## 3. Entering and leaving -/
def entL : List Value → List Slot
  | [] => []
  | v :: r => if v.category = 2 then .val v :: .second :: entL r else .val v :: entL r
def entryL (args : List Value) (maxL : Nat) : List Slot := entL args ++ List.replicate (maxL - (entL args).length) .unset
theorem fill_eq {ρ : Nat → Nat} : ∀ (args : List Value) (acc : Array Slot), (gS ρ args).foldl (fun acc v => if v.category = 2 then (acc.push (.val v)).push .second else acc.push (.val v)) acc = acc ++ ((entL args).map (gs ρ)).toArray
  | [], acc => by simp [gS, entL]
  | v :: r, acc => by
    have ih := fill_eq (ρ := ρ) r
    simp only [gS, List.map_cons, List.foldl_cons, cat_gv] at ih ⊢
    rw [ih]
    by_cases q : v.category = 2
    · simp [entL, q, gs]
    · simp [entL, q, gs]
theorem entry_eq {ρ : Nat → Nat} (args : List Value) (maxL : Nat) : argsToLocals (gS ρ args).toArray maxL = gL ρ (entryL args maxL) := by
  have h := fill_eq (ρ := ρ) args #[]
  simp only [argsToLocals, List.foldl_toArray', List.size_toArray] at *
  rw [h]
  simp [gL, entryL, gs]
theorem entryF_eq {ρ : Nat → Nat} (m : MethodId) (args : List Value) (maxL : Nat) : entryFrame m (gS ρ args).toArray maxL = mkF m 0 (gL ρ (entryL args maxL)) [] := by
  show ({ method := m, pc := 0, locals := argsToLocals _ maxL, stack := [], locked := none } : JFrame) = _
  rw [entry_eq]
section Ret
variable {G : WMC} {pc nx u : Nat} {L : List Slot} {S : List Value} {σ : WHp} {Q : Option Value → WHp → Nat → Prop}
theorem WRun.of {v : Option Value} {A : WCfg} (h0 : G.ret = none → v = none)
    (h : ∀ {p : Program} {l : Launch} {e : Env} {R : Room} {s : State} {m : MethodId} {args : Array Value} {below : List Frame} {meth : Method} {c : Code} {T : State} {locs : List Loc} {ce sl : Nat}, WCtx G p R s m meth c → Stand p l e R s m args below meth c T locs ce sl →
      ∀ fs, (∀ (f : JFrame) (acts : List Action), f.method = m → f.locked = none → f.entered = [] → (doReturn e (T.setTop f) acts (v.map (gv G.ρ))).1 = T.setFrames fs) → Steps p.tables e below (T.setTop (frm G m A)) (T.setFrames fs)) :
    WRun G A v A.2.2.2.1 A.2.2.2.2 := by
  refine ⟨Nat.le_refl _, Nat.le_refl _, h0, fun p l e R s m args below meth c hC hc hs T hT => ⟨T, hT, fun fs hr => ?_⟩⟩
  obtain ⟨locs, ce, sl, h1, h2, X, D, N⟩ := hT
  exact h hC X fs hr
theorem WGo.ireturn (t : FieldType) {z : Int32} (d : AtI G.bytes pc .ireturn 1 nx) (hret : G.ret = some t) (ht : t = .int ∨ t = .boolean ∨ t = .byte ∨ t = .char ∨ t = .short) (q : Q (some (narrow t (.int z))) σ u) : WGo G (pc, L, .int z :: S, σ, u) Q := by
  refine ⟨_, _, _, q, WRun.of (A := (pc, L, .int z :: S, σ, u)) (fun h => by rw [hret] at h; cases h) fun hC X fs hr => ?_⟩
  have hm := hC.2.2.2.2.2.1.trans hret
  rcases ht with rfl | ht
  · exact retOut X hC.1 hm rfl (Or.inl ⟨rfl, Or.inl rfl, _, rfl⟩) (hb hC.2.1 d.1) hr
  · have hn : narrow t (.int z) = .int (nar t z) := by rcases ht with rfl | rfl | rfl | rfl <;> rfl
    rw [hn] at hr
    exact retN X hC.1 hm ht (hb hC.2.1 d.1) hr
theorem WGo.lreturn {z : Int64} (d : AtI G.bytes pc .lreturn 1 nx) (hret : G.ret = some .long) (q : Q (some (.long z)) σ u) : WGo G (pc, L, .long z :: S, σ, u) Q := by
  refine ⟨_, _, _, q, WRun.of (A := (pc, L, .long z :: S, σ, u)) (fun h => by rw [hret] at h; cases h) fun hC X fs hr => ?_⟩
  exact retOut X hC.1 (hC.2.2.2.2.2.1.trans hret) rfl (Or.inr (Or.inl ⟨rfl, rfl, _, rfl⟩)) (hb hC.2.1 d.1) hr
theorem WGo.areturn (t : FieldType) {z : Value} (d : AtI G.bytes pc .areturn 1 nx) (hret : G.ret = some t) (ht : t.isReference = true) (hz : z.isRef = true) (q : Q (some z) σ u) : WGo G (pc, L, z :: S, σ, u) Q := by
  refine ⟨_, _, _, q, WRun.of (A := (pc, L, z :: S, σ, u)) (fun h => by rw [hret] at h; cases h) fun hC X fs hr => ?_⟩
  refine retOut X hC.1 (hC.2.2.2.2.2.1.trans hret) ?_ (Or.inr (Or.inr (Or.inr (Or.inr ⟨rfl, ht, isRef_gv.trans hz⟩)))) (hb hC.2.1 d.1) hr
  cases t <;> first | rfl | cases ht
theorem WGo.vreturn (d : AtI G.bytes pc .return_ 1 nx) (hret : G.ret = none) (q : Q none σ u) : WGo G (pc, L, [], σ, u) Q := by
  refine ⟨_, _, _, q, WRun.of (A := (pc, L, [], σ, u)) (fun _ => rfl) fun hC X fs hr => ?_⟩
  exact X.returnOut hC.1 (hC.2.2.2.2.2.1.trans hret) (hb hC.2.1 d.1) hr
end Ret
/-! ## 4. A method's contract out of its walk -/
theorem met_of {l : Launch} {G : WMC} {y : MethodName} {argsL : List Value} {σ σ' : WHp} {u u' : Nat} {v : Option Value} {ws : List Jvm.Cond} {h : Heap}
    (hy1 : G.own = y.cls) (hy2 : G.nm = y.name) (hj : G.j0 = σ.length) (hu : G.u0 = u) (hpl : plainFor y = true) (hρ : ∀ k, k < 1000 → G.ρ k = G.n0 + k) (hinj : ∀ i j, G.ρ i = G.ρ j → i = j)
    (H : WRun G (0, entryL argsL G.ml, [], σ, u) v σ' u') (D : WDen G.Z G.ρ G.n0 σ h) (RM : Room) (hR1 : G.fr ≤ RM.frames) (hR2 : σ'.length - σ.length ≤ RM.cells) (hR3 : u' - u ≤ RM.slots) (hR4 : G.lo ≤ RM.locals) :
    MetFree l y (head1 (Jvm.Cond.code y G.bytes G.ml G.ret :: ws) RM) (fun a U => a = (gS G.ρ argsL).toArray ∧ G.Z.Warmed39 U.vm ∧ U.heap = h) (fun _ _ _ _ _ => True)
      (fun _ U o U' => ∃ w L, o = .returned w ∧ (w = v.map (gv G.ρ) ∧ Fr G.n0 L ∧ WDen G.Z G.ρ G.n0 σ' U'.heap) ∧ FrameEnd U o U' L (σ'.length - σ.length) (u' - u)) := by
  refine MetFree.of_bodySF hpl hisR ?_
  intro p e s m args below meth c s₁ Bd hml0 hP hK
  obtain ⟨rfl, hZ, hh⟩ := hP
  have X0 : Stand p l e RM s m (gS G.ρ argsL).toArray below meth c s₁ [] 0 0 := Stand.of_body Bd
  have e0 : s₁.heap = h := by rw [← hh, Bd.state]; rfl
  obtain ⟨a1, a2, a0, a3⟩ := H
  have a1' : σ.length ≤ σ'.length := a1
  have a2' : u ≤ u' := a2
  obtain ⟨T', ⟨locs, ce, sl, q1, q2, X, D', N⟩, st⟩ := a3 p l e RM s m _ below meth c ⟨Bd.exec, Bd.bytes, hZ, by rw [hy1]; exact findClass_of_methodNamed Bd.named, (name_of_methodNamed Bd.named Bd.method).1.trans hy2.symm, Bd.returns, hml0, by rw [hh, hj]; exact D.1, hρ, hinj, hR1, hR4⟩ (by omega) (by omega) s₁ ⟨[], 0, 0, hj.symm, hu.symm, X0, by rw [e0]; exact D, Fr.nil _⟩
  obtain ⟨fs, hr, hrun, hended, hW, hsame⟩ := X.leave (v := v.map (gv G.ρ)) (fun hn => by rw [a0 (Bd.returns ▸ hn)]; rfl)
  refine ⟨_, _, ?_, hrun, hended, _, _, rfl, ⟨rfl, N, D'⟩, ⟨_, rfl⟩, hW, hsame.mono (by omega) (by omega)⟩
  rw [entryF_eq]
  exact st fs hr
/-- what a call site knows of its callee -/
def WCallee (Z : State) (a0 : Array Value) (y : MethodName) (Gc : WMC) (n : Nat) : Prop :=
  plainFor y = true ∧ (y.cls ≠ "java/lang/invoke/MethodHandle" ∧ y.cls ≠ "java/lang/invoke/VarHandle") ∧ Gc.own = y.cls ∧ Gc.nm = y.name ∧ Gc.Z = Z ∧ (Jvm.Cond.initialized y.cls).before a0 Z = true ∧ (Jvm.Cond.code y Gc.bytes Gc.ml Gc.ret).before a0 Z = true ∧ (∀ sig, parseMethodDescriptor y.desc = some sig → n = sig.parameters.length)
theorem backFor {p : Program} {l : Launch} {e : Env} {R : Room} {s : State} {args : Array Value} {below : List Frame} {Gc : WMC} {y : MethodName} {a0 : Array Value} {argsL : List Value} {σ σ' : WHp} {u u' W n : Nat} {v : Option Value} {h : Heap}
    (C : WCallee Gc.Z a0 y Gc n) (hj : Gc.j0 = σ.length) (hu : Gc.u0 = u) (hρ : ∀ k, k < 1000 → Gc.ρ k = Gc.n0 + k) (hinj : ∀ i j, Gc.ρ i = Gc.ρ j → i = j)
    (H : WRun Gc (0, entryL argsL Gc.ml, [], σ, u) v σ' u') (D : WDen Gc.Z Gc.ρ Gc.n0 σ h) (hZ : Gc.Z.Warmed39 s.vm) (hf : Gc.fr + 1 ≤ R.frames) (hl : W + (Gc.ml + 11) + Gc.lo ≤ R.locals) :
    Back l R p e below s args y 3 W (fun A a => a = (gS Gc.ρ argsL).toArray ∧ A.U.heap = h ∧ A.cells + (σ'.length - σ.length) ≤ R.cells ∧ A.slots + (u' - u) ≤ R.slots)
      (fun A _ w B => ∃ L, (w = v.map (gv Gc.ρ) ∧ Fr Gc.n0 L ∧ WDen Gc.Z Gc.ρ Gc.n0 σ' B.U.heap) ∧ B.locs = A.locs ++ L ∧ B.cells = A.cells + (σ'.length - σ.length) ∧ B.slots = A.slots + (u' - u)) :=
  backOf (rm := { frames := Gc.fr, cells := σ'.length - σ.length, slots := u' - u, locals := Gc.lo }) (Q := fun w h' L => w = v.map (gv Gc.ρ) ∧ Fr Gc.n0 L ∧ WDen Gc.Z Gc.ρ Gc.n0 σ' h') (met_of C.2.2.1 C.2.2.2.1 hj hu C.1 hρ hinj H D _ (Nat.le_refl _) (Nat.le_refl _) (Nat.le_refl _) (Nat.le_refl _)) hZ C.2.2.2.2.2.2.1 C.2.2.2.2.2.1 hf hl
theorem toL {ρ : Nat → Nat} (v : Option Value) (S : List Value) : gS ρ (v.toList ++ S) = (v.map (gv ρ)).toList ++ gS ρ S := by cases v <;> rfl
section Calls
variable {G Gc : WMC} {pc nx u idx n : Nat} {L : List Slot} {S Sf argsL : List Value} {σ : WHp} {Q Qc : Option Value → WHp → Nat → Prop} {y : MethodName} {a0 : Array Value}
theorem WGo.callS (d : AtI G.bytes pc (.invokestatic idx) 3 nx) (C : WCallee G.Z a0 y Gc n) (wl : (Jvm.Cond.methodLink G.own idx y).before a0 G.Z = true) (ws : (Jvm.Cond.static y).before a0 G.Z = true)
    (H : WGo Gc (0, entryL argsL Gc.ml, [], σ, u) Qc) (hG : Gc.1 = G.1) (hj : Gc.j0 = σ.length) (hu : Gc.u0 = u) (hn : argsL.length = n) (hS : Sf = argsL.reverse ++ S) (hL : L.length = G.ml) (hf : Gc.fr + 1 ≤ G.fr) (hl : (S.map Value.category).sum + (Gc.ml + 11) + Gc.lo ≤ G.lo)
    (K : ∀ v σ' u', Qc v σ' u' → WGo G (nx, L, v.toList ++ S, σ', u') Q) : WGo G (pc, L, Sf, σ, u) Q := by
  obtain ⟨v, σ', u', q, r⟩ := H
  refine (K v σ' u' q).s ?_
  have m1 : σ.length ≤ σ'.length := r.1
  have m2 : u ≤ u' := r.2.1
  refine ⟨m1, m2, fun p l e R s m args below meth c hC hc hs T hT => ?_⟩
  obtain ⟨hx, hby, hZ, hown, hnm, hret, hml, hs0, hρ, hinj, hfr, hlo⟩ := hC
  obtain ⟨locs, ce, sl, h1, h2, X, D, N⟩ := hT
  have eZ : Gc.Z = G.Z := congrArg (·.1) hG
  have eρ : Gc.ρ = G.ρ := congrArg (·.2.1) hG
  have en : Gc.n0 = G.n0 := congrArg (·.2.2) hG
  have h1' : σ.length = G.j0 + ce := h1
  have h2' : u = G.u0 + sl := h2
  have hc' : σ'.length ≤ G.j0 + R.cells := hc
  have hs' : u' ≤ G.u0 + R.slots := hs
  have Bk := backFor (p := p) (l := l) (e := e) (R := R) (s := s) (args := args) (below := below) (W := (S.map Value.category).sum) (eZ ▸ C) hj hu (by rw [eρ, en]; exact hρ) (by rw [eρ]; exact hinj) r (by rw [eZ, eρ, en]; exact D) (by rw [eZ]; exact hZ) (Nat.le_trans hf hfr) (Nat.le_trans hl hlo)
  obtain ⟨C1, C2, C3, C4, C5, C6, C7, C8⟩ := C
  rw [eρ, en, eZ] at Bk
  obtain ⟨w, vm1, ⟨T', L', k', n'⟩, -, X', ⟨Lc, ⟨hw', N', D'⟩, l', y', z'⟩, st⟩ := Jvm.LawKit.callS X hx (y := y) hown (mvT hZ wl) (mvT hZ ws) (mvT hZ C6) (mvT hZ C7) C2 Bk (g := frm G m (pc, L, Sf, σ, u)) rfl (by show (gL _ L).size = _; rw [gL_size, hL, hml]) (argsL := gS G.ρ argsL) (rest := gS G.ρ S)
    (fun sig hsig => by rw [← C8 sig hsig, ← hn]; simp [gS]) (by show gS _ Sf = _; rw [hS]; simp [gS]) (by rw [sum_gS]; show 2 * 0 + _ ≤ _; omega) (hb hby d.1) (fun _ _ => ⟨rfl, rfl, by show ce + _ ≤ _; omega, by show sl + _ ≤ _; omega⟩)
  dsimp only [Pt.U, Pt.locs, Pt.cells, Pt.slots] at X' l' y' z' st D'
  subst l' y' z' hw'
  refine ⟨T', ⟨_, _, _, ?_, ?_, X', D', N.app N'⟩, fun t k => st t ?_⟩
  · show σ'.length = _; omega
  · show u' = _; omega
  · rw [← toL]
    have := d.2
    subst this
    exact k
/-- a constructor -/
theorem WGo.callI {k : Nat} (d : AtI G.bytes pc (.invokespecial idx) 3 nx) (C : WCallee G.Z a0 y Gc n) (hi : y.name = "<init>") (hr : Gc.ret = none) (wl : (Jvm.Cond.methodLink G.own idx y).before a0 G.Z = true) (ws : (Jvm.Cond.instanceMethod y).before a0 G.Z = true) (hk : k < 1000)
    (H : WGo Gc (0, entryL (.ref k :: argsL) Gc.ml, [], σ, u) Qc) (hG : Gc.1 = G.1) (hj : Gc.j0 = σ.length) (hu : Gc.u0 = u) (hn : argsL.length = n) (hS : Sf = argsL.reverse ++ .ref k :: S) (hL : L.length = G.ml) (hf : Gc.fr + 1 ≤ G.fr) (hl : (S.map Value.category).sum + (Gc.ml + 11) + Gc.lo ≤ G.lo)
    (K : ∀ v σ' u', Qc v σ' u' → WGo G (nx, L, v.toList ++ S, σ', u') Q) : WGo G (pc, L, Sf, σ, u) Q := by
  obtain ⟨v, σ', u', q, r⟩ := H
  refine (K v σ' u' q).s ?_
  have m1 : σ.length ≤ σ'.length := r.1
  have m2 : u ≤ u' := r.2.1
  refine ⟨m1, m2, fun p l e R s m args below meth c hC hc hs T hT => ?_⟩
  obtain ⟨hx, hby, hZ, hown, hnm, hret, hml, hs0, hρ, hinj, hfr, hlo⟩ := hC
  obtain ⟨locs, ce, sl, h1, h2, X, D, N⟩ := hT
  have eZ : Gc.Z = G.Z := congrArg (·.1) hG
  have eρ : Gc.ρ = G.ρ := congrArg (·.2.1) hG
  have en : Gc.n0 = G.n0 := congrArg (·.2.2) hG
  have h1' : σ.length = G.j0 + ce := h1
  have h2' : u = G.u0 + sl := h2
  have hc' : σ'.length ≤ G.j0 + R.cells := hc
  have hs' : u' ≤ G.u0 + R.slots := hs
  have Bk := backFor (p := p) (l := l) (e := e) (R := R) (s := s) (args := args) (below := below) (W := (S.map Value.category).sum) (eZ ▸ C) hj hu (by rw [eρ, en]; exact hρ) (by rw [eρ]; exact hinj) r (by rw [eZ, eρ, en]; exact D) (by rw [eZ]; exact hZ) (Nat.le_trans hf hfr) (Nat.le_trans hl hlo)
  obtain ⟨C1, C2, C3, C4, C5, C6, C7, C8⟩ := C
  rw [hr] at C7
  rw [eρ, en, eZ] at Bk
  obtain ⟨w, vm1, ⟨T', L', k', n'⟩, -, X', ⟨Lc, ⟨hw', N', D'⟩, l', y', z'⟩, st⟩ := X.specialBack hx (y := y) hi hown (mvT hZ wl) (mvT hZ ws) (mvT hZ C7) C2 Bk (g := frm G m (pc, L, Sf, σ, u)) rfl (by show (gL _ L).size = _; rw [gL_size, hL, hml]) (Steps.refl _) (a := G.ρ k) (argsL := gS G.ρ argsL) (rest := gS G.ρ S)
    (fun sig hsig => by rw [← C8 sig hsig, ← hn]; simp [gS]) (by show gS _ Sf = _; rw [hS]; simp [gS, gv]) (by rw [sum_gS]; show 2 * 0 + _ ≤ _; omega) (hb hby d.1) (fun _ _ => ⟨rfl, rfl, by show ce + _ ≤ _; omega, by show sl + _ ≤ _; omega⟩)
  dsimp only [Pt.U, Pt.locs, Pt.cells, Pt.slots] at X' l' y' z' st D'
  subst l' y' z' hw'
  refine ⟨T', ⟨_, _, _, ?_, ?_, X', D', N.app N'⟩, fun t k => st.trans ?_⟩
  · show σ'.length = _; omega
  · show u' = _; omega
  · rw [← toL]
    have := d.2
    subst this
    exact k
/-- an instance method that the receiver's class itself selects -/
theorem WGo.callV {k : Nat} {Cn : String} {fs : List (WKey × Value)} {z : MethodName} (d : AtI G.bytes pc (.invokevirtual idx) 3 nx) (C : WCallee G.Z a0 y Gc n) (hz : z.desc = y.desc ∧ (z.cls ≠ "java/lang/invoke/MethodHandle" ∧ z.cls ≠ "java/lang/invoke/VarHandle")) (wl : (Jvm.Cond.methodLink G.own idx z).before a0 G.Z = true) (wd : (Jvm.Cond.declares z).before a0 G.Z = true) (hnf : ∀ s, G.Z.Warmed39 s.vm → NotFace s z) (wsel : (Jvm.Cond.selects Cn z y).before a0 G.Z = true) (ws : (Jvm.Cond.instanceMethod y).before a0 G.Z = true) (hk : σ[k]? = some (.inr (Cn, fs)))
    (H : WGo Gc (0, entryL (.ref k :: argsL) Gc.ml, [], σ, u) Qc) (hG : Gc.1 = G.1) (hj : Gc.j0 = σ.length) (hu : Gc.u0 = u) (hn : argsL.length = n) (hS : Sf = argsL.reverse ++ .ref k :: S) (hL : L.length = G.ml) (hf : Gc.fr + 1 ≤ G.fr) (hl : (S.map Value.category).sum + (Gc.ml + 11) + Gc.lo ≤ G.lo)
    (K : ∀ v σ' u', Qc v σ' u' → WGo G (nx, L, v.toList ++ S, σ', u') Q) : WGo G (pc, L, Sf, σ, u) Q := by
  obtain ⟨v, σ', u', q, r⟩ := H
  refine (K v σ' u' q).s ?_
  have m1 : σ.length ≤ σ'.length := r.1
  have m2 : u ≤ u' := r.2.1
  refine ⟨m1, m2, fun p l e R s m args below meth c hC hc hs T hT => ?_⟩
  obtain ⟨hx, hby, hZ, hown, hnm, hret, hml, hs0, hρ, hinj, hfr, hlo⟩ := hC
  obtain ⟨locs, ce, sl, h1, h2, X, D, N⟩ := hT
  have eZ : Gc.Z = G.Z := congrArg (·.1) hG
  have eρ : Gc.ρ = G.ρ := congrArg (·.2.1) hG
  have en : Gc.n0 = G.n0 := congrArg (·.2.2) hG
  have h1' : σ.length = G.j0 + ce := h1
  have h2' : u = G.u0 + sl := h2
  have hc' : σ'.length ≤ G.j0 + R.cells := hc
  have hs' : u' ≤ G.u0 + R.slots := hs
  have Bk := backFor (p := p) (l := l) (e := e) (R := R) (s := s) (args := args) (below := below) (W := (S.map Value.category).sum) (eZ ▸ C) hj hu (by rw [eρ, en]; exact hρ) (by rw [eρ]; exact hinj) r (by rw [eZ, eρ, en]; exact D) (by rw [eZ]; exact hZ) (Nat.le_trans hf hfr) (Nat.le_trans hl hlo)
  obtain ⟨C1, C2, C3, C4, C5, C6, C7, C8⟩ := C
  rw [eρ, en, eZ] at Bk
  have hE : Exa G.Z T.heap (G.n0 + k) Cn := (D.2.2 k _ hk).1
  rw [← hρ k (D.lt hk)] at hE
  obtain ⟨cq, kq, qa, qb, qc⟩ := isOf hZ rfl hE
  obtain ⟨w, vm1, ⟨T', L', k', n'⟩, -, X', ⟨Lc, ⟨hw', N', D'⟩, l', y', z'⟩, st⟩ := X.virtualBack hx (y := z) (z := y) hown (mvT hZ wl) (mvT hZ wd) (hnf s hZ) (mvT hZ wsel) (mvT hZ ws) hz.2 Bk qa qc (g := frm G m (pc, L, Sf, σ, u)) rfl (by show (gL _ L).size = _; rw [gL_size, hL, hml]) (Steps.refl _) (argsL := gS G.ρ argsL) (rest := gS G.ρ S)
    (fun sig hsig => by rw [hz.1] at hsig; rw [← C8 sig hsig, ← hn]; simp [gS]) (by show gS _ Sf = _; rw [hS]; simp [gS, gv]) (by rw [sum_gS]; show 2 * 0 + _ ≤ _; omega) (hb hby d.1) (fun _ _ => ⟨rfl, rfl, by show ce + _ ≤ _; omega, by show sl + _ ≤ _; omega⟩)
  dsimp only [Pt.U, Pt.locs, Pt.cells, Pt.slots] at X' l' y' z' st D'
  subst l' y' z' hw'
  refine ⟨T', ⟨_, _, _, ?_, ?_, X', D', N.app N'⟩, fun t k => st.trans ?_⟩
  · show σ'.length = _; omega
  · show u' = _; omega
  · rw [← toL]
    have := d.2
    subst this
    exact k
/-- a private method, by invokevirtual -/
theorem WGo.callP {k : Nat} {Cn : String} {fs : List (WKey × Value)} (d : AtI G.bytes pc (.invokevirtual idx) 3 nx) (C : WCallee G.Z a0 y Gc n) (wl : (Jvm.Cond.methodLink G.own idx y).before a0 G.Z = true) (ws : (Jvm.Cond.instanceMethod y).before a0 G.Z = true) (wsel : (Jvm.Cond.selects y.cls y y).before a0 G.Z = true) (wp : (Jvm.Cond.privateMethod y).before a0 G.Z = true) (hk : σ[k]? = some (.inr (Cn, fs)))
    (H : WGo Gc (0, entryL (.ref k :: argsL) Gc.ml, [], σ, u) Qc) (hG : Gc.1 = G.1) (hj : Gc.j0 = σ.length) (hu : Gc.u0 = u) (hn : argsL.length = n) (hS : Sf = argsL.reverse ++ .ref k :: S) (hL : L.length = G.ml) (hf : Gc.fr + 1 ≤ G.fr) (hl : (S.map Value.category).sum + (Gc.ml + 11) + Gc.lo ≤ G.lo)
    (K : ∀ v σ' u', Qc v σ' u' → WGo G (nx, L, v.toList ++ S, σ', u') Q) : WGo G (pc, L, Sf, σ, u) Q := by
  obtain ⟨v, σ', u', q, r⟩ := H
  refine (K v σ' u' q).s ?_
  have m1 : σ.length ≤ σ'.length := r.1
  have m2 : u ≤ u' := r.2.1
  refine ⟨m1, m2, fun p l e R s m args below meth c hC hc hs T hT => ?_⟩
  obtain ⟨hx, hby, hZ, hown, hnm, hret, hml, hs0, hρ, hinj, hfr, hlo⟩ := hC
  obtain ⟨locs, ce, sl, h1, h2, X, D, N⟩ := hT
  have eZ : Gc.Z = G.Z := congrArg (·.1) hG
  have eρ : Gc.ρ = G.ρ := congrArg (·.2.1) hG
  have en : Gc.n0 = G.n0 := congrArg (·.2.2) hG
  have h1' : σ.length = G.j0 + ce := h1
  have h2' : u = G.u0 + sl := h2
  have hc' : σ'.length ≤ G.j0 + R.cells := hc
  have hs' : u' ≤ G.u0 + R.slots := hs
  have Bk := backFor (p := p) (l := l) (e := e) (R := R) (s := s) (args := args) (below := below) (W := (S.map Value.category).sum) (eZ ▸ C) hj hu (by rw [eρ, en]; exact hρ) (by rw [eρ]; exact hinj) r (by rw [eZ, eρ, en]; exact D) (by rw [eZ]; exact hZ) (Nat.le_trans hf hfr) (Nat.le_trans hl hlo)
  obtain ⟨C1, C2, C3, C4, C5, C6, C7, C8⟩ := C
  rw [eρ, en, eZ] at Bk
  have hE : Exa G.Z T.heap (G.n0 + k) Cn := (D.2.2 k _ hk).1
  rw [← hρ k (D.lt hk)] at hE
  obtain ⟨cq, e1, e2⟩ := hE.cell
  obtain ⟨w, vm1, ⟨T', L', k', n'⟩, -, X', ⟨Lc, ⟨hw', N', D'⟩, l', y', z'⟩, st⟩ := X.privateBack hx (y := y) hown (mvT hZ wl) (mvT hZ ws) (mvT hZ wsel) (Cond.privateMethod_at (mvP hZ wp (args := #[]))) (mvT hZ C7) C2 Bk (g := frm G m (pc, L, Sf, σ, u)) rfl (by show (gL _ L).size = _; rw [gL_size, hL, hml]) (Steps.refl _) (a := G.ρ k) e1 e2 (argsL := gS G.ρ argsL) (rest := gS G.ρ S)
    (fun sig hsig => by rw [← C8 sig hsig, ← hn]; simp [gS]) (by show gS _ Sf = _; rw [hS]; simp [gS, gv]) (by rw [sum_gS]; show 2 * 0 + _ ≤ _; omega) (hb hby d.1) (fun _ _ => ⟨rfl, rfl, by show ce + _ ≤ _; omega, by show sl + _ ≤ _; omega⟩)
  dsimp only [Pt.U, Pt.locs, Pt.cells, Pt.slots] at X' l' y' z' st D'
  subst l' y' z' hw'
  refine ⟨T', ⟨_, _, _, ?_, ?_, X', D', N.app N'⟩, fun t k => st.trans ?_⟩
  · show σ'.length = _; omega
  · show u' = _; omega
  · rw [← toL]
    have := d.2
    subst this
    exact k
end Calls
end Jvm.Sy
namespace Jvm.Sy
open Jvm Jvm.ClassFile Sem Op Lib Jvm.Free Jvm.Stand Jvm.LawKit Jvm.RoadKit Bundle
def LaidAll (Z : State) (a0 : Array Value) (C : String) : List (WKey × Value) → Prop
  | [] => True
  | f :: r => (Laid Z a0 C f.1.1 f.1.2.1 f.1.2.2 ∧ ∃ ty, parseFieldDescriptor f.1.2.2 = some ty ∧ f.2 = defaultValue ty) ∧ LaidAll Z a0 C r
theorem LaidAll.at {Z : State} {a0 : Array Value} {C : String} : ∀ {fs : List (WKey × Value)}, LaidAll Z a0 C fs → ∀ {i : Nat} {f : WKey × Value}, fs[i]? = some f → Laid Z a0 C f.1.1 f.1.2.1 f.1.2.2 ∧ ∃ ty, parseFieldDescriptor f.1.2.2 = some ty ∧ f.2 = defaultValue ty
  | [], _, i, f, h => by simp at h
  | g :: r, H, 0, f, h => by simp at h; subst h; exact H.1
  | g :: r, H, i + 1, f, h => LaidAll.at H.2 (i := i) (by simpa using h)
section HeapOps
variable {G : WMC} {pc nx tgt u idx k i n : Nat} {L : List Slot} {S : List Value} {σ : WHp} {a0 : Array Value} {v w : Value} {j : Int32} {vs : List Value} {ty : FieldType} {fs : List (WKey × Value)} {C O nm dd K : String}
theorem WStep.ldc {z : Int32} (d : AtI G.bytes pc (.ldc idx) 2 nx) (wd : (Jvm.Cond.constant G.own idx z).before a0 G.Z = true) : WStep G (pc, L, S, σ, u) (nx, L, .int z :: S, σ, u) := by
  refine ⟨Nat.le_refl _, Nat.le_refl _, fun p l e R s m args below meth c hC hc hs T hT => ?_⟩
  obtain ⟨hx, hby, hZ, hown, hnm, hret, hml, hs0, hρ, hinj, hfr, hlo⟩ := hC
  obtain ⟨locs, ce, sl, h1, h2, X, D, N⟩ := hT
  obtain ⟨d, rfl⟩ := d
  exact ⟨T, ⟨locs, ce, sl, h1, h2, X, D, N⟩, X.ldcInt hx hown (mvT hZ wd) (g := frm G m (pc, L, S, σ, u)) rfl (hb hby d)⟩
theorem WStep.ldcw {z : Int32} (d : AtI G.bytes pc (.ldc_w idx) 3 nx) (wd : (Jvm.Cond.constant G.own idx z).before a0 G.Z = true) : WStep G (pc, L, S, σ, u) (nx, L, .int z :: S, σ, u) := by
  refine ⟨Nat.le_refl _, Nat.le_refl _, fun p l e R s m args below meth c hC hc hs T hT => ?_⟩
  obtain ⟨hx, hby, hZ, hown, hnm, hret, hml, hs0, hρ, hinj, hfr, hlo⟩ := hC
  obtain ⟨locs, ce, sl, h1, h2, X, D, N⟩ := hT
  obtain ⟨d, rfl⟩ := d
  exact ⟨T, ⟨locs, ce, sl, h1, h2, X, D, N⟩, X.ldcwInt hx hown (mvT hZ wd) (g := frm G m (pc, L, S, σ, u)) rfl (hb hby d)⟩
theorem WStep.ldc2 {z : Int64} (d : AtI G.bytes pc (.ldc2_w idx) 3 nx) (wd : (Jvm.Cond.constantLong G.own idx z).before a0 G.Z = true) : WStep G (pc, L, S, σ, u) (nx, L, .long z :: S, σ, u) := by
  refine ⟨Nat.le_refl _, Nat.le_refl _, fun p l e R s m args below meth c hC hc hs T hT => ?_⟩
  obtain ⟨hx, hby, hZ, hown, hnm, hret, hml, hs0, hρ, hinj, hfr, hlo⟩ := hC
  obtain ⟨locs, ce, sl, h1, h2, X, D, N⟩ := hT
  obtain ⟨d, rfl⟩ := d
  exact ⟨T, ⟨locs, ce, sl, h1, h2, X, D, N⟩, X.ldc2Long hx hown (mvT hZ wd) (g := frm G m (pc, L, S, σ, u)) rfl (hb hby d)⟩
theorem WStep.initO (d : AtI G.bytes pc (.invokespecial idx) 3 nx) (w1 : (Jvm.Cond.methodLink G.own idx Lib.objectInit).before a0 G.Z = true) (w2 : (Jvm.Cond.instanceMethod Lib.objectInit).before a0 G.Z = true) (w3 : (Jvm.Cond.code Lib.objectInit ⟨#[0xb1]⟩ 1 none).before a0 G.Z = true)
    (hL : L.length = G.ml) (hf : 1 ≤ G.fr) (hl : (S.map Value.category).sum + 12 ≤ G.lo) : WStep G (pc, L, .ref k :: S, σ, u) (nx, L, S, σ, u) := by
  refine ⟨Nat.le_refl _, Nat.le_refl _, fun p l e R s m args below meth c hC hc hs T hT => ?_⟩
  obtain ⟨hx, hby, hZ, hown, hnm, hret, hml, hs0, hρ, hinj, hfr, hlo⟩ := hC
  obtain ⟨locs, ce, sl, h1, h2, X, D, N⟩ := hT
  obtain ⟨d, rfl⟩ := d
  obtain ⟨T', X', e', st⟩ := RoadKit.initO X hx hZ hown w1 w2 w3 rfl (g := frm G m (pc, L, .ref k :: S, σ, u)) rfl (by show (gL _ L).size = _; rw [gL_size, hL, hml]) rfl (hb hby d) (Nat.le_trans hf hfr) (W := (S.map Value.category).sum) (by have := sum_gS (ρ := G.ρ) S; unfold gS at this; rw [this]; show 2 * 0 + _ ≤ _; omega) (Nat.le_trans hl hlo)
  exact ⟨T', ⟨locs, ce, sl, h1, h2, X', by rw [e']; exact D, N⟩, st⟩
theorem WStep.getF (i : Nat) (d : AtI G.bytes pc (.getfield idx) 3 nx) (wd : (Jvm.Cond.fieldLink G.own idx O nm dd).before a0 G.Z = true) (hk : σ[k]? = some (.inr (C, fs))) (hi : fs[i]? = some ((O, nm, dd), v)) : WStep G (pc, L, .ref k :: S, σ, u) (nx, L, v :: S, σ, u) := by
  refine ⟨Nat.le_refl _, Nat.le_refl _, fun p l e R s m args below meth c hC hc hs T hT => ?_⟩
  obtain ⟨hx, hby, hZ, hown, hnm, hret, hml, hs0, hρ, hinj, hfr, hlo⟩ := hC
  obtain ⟨locs, ce, sl, h1, h2, X, D, N⟩ := hT
  obtain ⟨d, rfl⟩ := d
  have hko : ObjOk G.Z G.ρ T.heap (G.n0 + k) C fs := D.2.2 k _ hk
  have F := hko.2.1 i _ _ _ _ hi
  rw [← hρ k (D.lt hk)] at F
  obtain ⟨T', X', e', st⟩ := RoadKit.getF X hx hZ hown (host := "") (Or.inl wd) Via.refl rfl F (g := frm G m (pc, L, .ref k :: S, σ, u)) rfl rfl (hb hby d)
  exact ⟨T', ⟨locs, ce, sl, h1, h2, X', by rw [e']; exact D, N⟩, st⟩
theorem WStep.putF (i : Nat) (v' : Value) (d : AtI G.bytes pc (.putfield idx) 3 nx) (wd : (Jvm.Cond.fieldLink G.own idx O nm dd).before a0 G.Z = true) (hk : σ[k]? = some (.inr (C, fs))) (hi : fs[i]? = some ((O, nm, dd), w))
    (hlay : (Jvm.Cond.lays C O nm dd).before a0 G.Z = true ∨ ((Jvm.Cond.laysFinal C O nm dd).before a0 G.Z = true ∧ G.own = O ∧ G.nm = "<init>")) (wi : (Jvm.Cond.instantiable C n).before a0 G.Z = true) (hty : parseFieldDescriptor dd = some ty) (hn : narrow ty v = v') (hf : fits ty v' = true) :
    WStep G (pc, L, v :: .ref k :: S, σ, u) (nx, L, S, σ.set k (.inr (C, fs.set i ((O, nm, dd), v'))), u) := by
  refine ⟨by simp, Nat.le_refl _, fun p l e R s m args below meth c hC hc hs T hT => ?_⟩
  obtain ⟨hx, hby, hZ, hown, hnm, hret, hml, hs0, hρ, hinj, hfr, hlo⟩ := hC
  obtain ⟨locs, ce, sl, h1, h2, X, D, N⟩ := hT
  obtain ⟨d, rfl⟩ := d
  have hko : ObjOk G.Z G.ρ T.heap (G.n0 + k) C fs := D.2.2 k _ hk
  obtain ⟨E, Fs, hNe⟩ := hko
  have F := Fs i _ _ _ _ hi
  have hρk := hρ k (D.lt hk)
  obtain ⟨T', h', X', e', W, st⟩ := putFN X hx hZ hown (v := gv G.ρ v) (v' := gv G.ρ v') wd Via.refl rfl F E (hlay.imp id fun q => ⟨q.1, q.2.1, hnm.trans q.2.2⟩) wi hty (by rw [narrow_gv, hn]) (by rw [fits_gv, hf]) (g := frm G m (pc, L, v :: .ref k :: S, σ, u)) rfl (by show gv _ v :: Value.ref (G.ρ k) :: _ = _; rw [hρk]) (hb hby d)
  subst e'
  refine ⟨T', ⟨_, ce, sl, by simpa using h1, h2, X', D.put W ?_, N.app fun y hy => by cases List.mem_singleton.mp hy; exact Nat.le_add_right _ _⟩, st⟩
  have hlt := (List.getElem?_eq_some_iff.mp hi).1
  refine ⟨E.wr W, fun i' O' n' d' y hy => ?_, fun i1 i2 k1 k2 v1 v2 ne q1 q2 => ?_⟩
  · by_cases q : i' = i
    · subst q
      rw [List.getElem?_set_self hlt] at hy
      cases hy
      exact F.same W
    · rw [List.getElem?_set_ne (Ne.symm q)] at hy
      have hne : RoadKit.slotOf G.Z O' n' d' ≠ RoadKit.slotOf G.Z O nm dd := hNe i' i (O', n', d') (O, nm, dd) y w q hy hi
      exact (Fs i' O' n' d' y hy).other W (Or.inr hne)
  · have key : ∀ {i' : Nat} {k' : WKey} {v' : Value}, (fs.set i ((O, nm, dd), v'))[i']? = some (k', v1) → ∃ v'', fs[i']? = some (k', v'') := by
      intro i' k' v' hh
      by_cases q : i' = i
      · subst q
        rw [List.getElem?_set_self hlt] at hh
        cases hh
        exact ⟨_, hi⟩
      · rw [List.getElem?_set_ne (fun z => q z.symm)] at hh
        exact ⟨_, hh⟩
    have key2 : ∀ {i' : Nat} {k' : WKey} {v' : Value}, (fs.set i ((O, nm, dd), v'))[i']? = some (k', v2) → ∃ v'', fs[i']? = some (k', v'') := by
      intro i' k' v' hh
      by_cases q : i' = i
      · subst q
        rw [List.getElem?_set_self hlt] at hh
        cases hh
        exact ⟨_, hi⟩
      · rw [List.getElem?_set_ne (fun z => q z.symm)] at hh
        exact ⟨_, hh⟩
    obtain ⟨_, r1⟩ := key q1
    obtain ⟨_, r2⟩ := key2 q2
    exact hNe i1 i2 _ _ _ _ ne r1 r2
theorem WStep.newO (fs : List (WKey × Value)) (d : AtI G.bytes pc (.new idx) 3 nx) (w1 : (Jvm.Cond.classLink G.own idx C).before a0 G.Z = true) (w2 : (Jvm.Cond.instantiable C n).before a0 G.Z = true) (w3 : (Jvm.Cond.initialized C).before a0 G.Z = true)
    (hfs : LaidAll G.Z a0 C fs) (hnd : (fs.map fun f => f.1.2.1).Nodup) (hlen : σ.length = k) (hk : k < 1000) : WStep G (pc, L, S, σ, u) (nx, L, .ref k :: S, σ ++ [.inr (C, fs)], u + n) := by
  refine ⟨by simp, Nat.le_add_right _ _, fun p l e R s m args below meth c hC hc hs T hT => ?_⟩
  obtain ⟨hx, hby, hZ, hown, hnm, hret, hml, hs0, hρ, hinj, hfr, hlo⟩ := hC
  obtain ⟨locs, ce, sl, h1, h2, X, D, N⟩ := hT
  obtain ⟨d, rfl⟩ := d
  subst hlen
  have h1' : σ.length = G.j0 + ce := h1
  have h2' : u = G.u0 + sl := h2
  have hc' : σ.length + 1 ≤ G.j0 + R.cells := by simpa using hc
  have hs' : u + n ≤ G.u0 + R.slots := hs
  have eS : T.heap.size = G.n0 + σ.length := D.1
  obtain ⟨T', h', X', e', E, A, Dv, -, st⟩ := RoadKit.newO X hx hZ hown w1 w2 w3 rfl (g := frm G m (pc, L, S, σ, u)) rfl (hb hby d) (by omega) (by omega)
  subst e'
  have hsz : T'.heap.size = T.heap.size + 1 := by
    have a1 := X'.heapSize
    have a2 : T.heap.size < T'.heap.size := A.lt
    have a3 : s.heap.size = G.n0 + G.j0 := hs0
    omega
  rw [eS] at A Dv
  have eρ : G.ρ σ.length = T.heap.size := by rw [hρ _ hk, eS]
  refine ⟨T', ⟨locs, ce + 1, sl + n, by simp; omega, by show u + n = _; omega, X', D.push E hsz hk ⟨A, fun i O' n' d' y hy => ?_, fun i1 i2 k1 k2 v1 v2 ne q1 q2 => ?_⟩, N⟩, fun t kt => st t ?_⟩
  · obtain ⟨LL, ty, p1, p2⟩ := hfs.at hy
    have := Dv LL p1
    dsimp only at p2
    rw [p2, dv_gv]
    exact this
  · obtain ⟨LL, ty, p1, p2⟩ := hfs.at q1
    obtain ⟨LL', ty', p1', p2'⟩ := hfs.at q2
    refine slot_ne LL LL' (fun e => ne ?_) p1 p1'
    have b1 := (List.getElem?_eq_some_iff.mp q1).1
    have b2 := (List.getElem?_eq_some_iff.mp q2).1
    refine (List.getElem?_inj (l := fs.map fun f => f.1.2.1) (i := i1) (j := i2) (by simpa using b1) hnd).mp ?_
    rw [List.getElem?_map, List.getElem?_map, q1, q2]
    exact congrArg some e
  · rw [← eρ]; exact kt
theorem WStep.newP {aty : ArrayType} (n : Int32) (m : Nat) (d : AtI G.bytes pc (.newarray aty) 2 nx) (w1 : (Jvm.Cond.arrayClass (newarray.typeOf aty)).before a0 G.Z = true) (hn : ¬ n < 0) (hm : n.toNatClampNeg = m) (hb8 : m * 8 ≤ 536870912) (hlen : σ.length = k) (hk : k < 1000) :
    WStep G (pc, L, .int n :: S, σ, u) (nx, L, .ref k :: S, σ ++ [.inl (newarray.typeOf aty, List.replicate m (defaultValue (newarray.typeOf aty)))], u + m) := by
  refine ⟨by simp, Nat.le_add_right _ _, fun p l e R s me args below meth c hC hc hs T hT => ?_⟩
  obtain ⟨hx, hby, hZ, hown, hnm, hret, hml, hs0, hρ, hinj, hfr, hlo⟩ := hC
  obtain ⟨locs, ce, sl, h1, h2, X, D, N⟩ := hT
  obtain ⟨d, rfl⟩ := d
  subst hlen
  have h1' : σ.length = G.j0 + ce := h1
  have h2' : u = G.u0 + sl := h2
  have hc' : σ.length + 1 ≤ G.j0 + R.cells := by simpa using hc
  have hs' : u + m ≤ G.u0 + R.slots := hs
  have eS : T.heap.size = G.n0 + σ.length := D.1
  obtain ⟨T', h', cA, X', e', E, A, st⟩ := RoadKit.newP X hx hZ w1 rfl (g := frm G me (pc, L, .int n :: S, σ, u)) rfl (hb hby d) rfl hn (cap := m) (by omega) hb8 (by omega) (by omega)
  subst e'
  have hsz : T'.heap.size = T.heap.size + 1 := by
    have a1 := X'.heapSize
    have a2 : T.heap.size < T'.heap.size := A.lt
    have a3 : s.heap.size = G.n0 + G.j0 := hs0
    omega
  rw [eS] at A
  have eρ : G.ρ σ.length = T.heap.size := by rw [hρ _ hk, eS]
  refine ⟨T', ⟨locs, ce + 1, sl + m, by simp; omega, by show u + m = _; omega, X', D.push E hsz hk ⟨_, A, ?_, ?_, ?_⟩, N⟩, fun t kt => st t ?_⟩
  · simp [newA, hm, dv_gv]
  · intro C hC; cases aty <;> cases hC
  · intro y hy
    rw [List.eq_of_mem_replicate hy]
    cases aty <;> rfl
  · rw [← eρ]; exact kt
theorem WStep.newR (n : Int32) (m : Nat) (d : AtI G.bytes pc (.anewarray idx) 3 nx) (w1 : (Jvm.Cond.classLink G.own idx C).before a0 G.Z = true) (w2 : (Jvm.Cond.arrayOver (.object C)).before a0 G.Z = true) (hn : ¬ n < 0) (hm : n.toNatClampNeg = m) (hb8 : m * 8 ≤ 536870912) (hlen : σ.length = k) (hk : k < 1000) :
    WStep G (pc, L, .int n :: S, σ, u) (nx, L, .ref k :: S, σ ++ [.inl (.object C, List.replicate m .null)], u + m) := by
  refine ⟨by simp, Nat.le_add_right _ _, fun p l e R s me args below meth c hC hc hs T hT => ?_⟩
  obtain ⟨hx, hby, hZ, hown, hnm, hret, hml, hs0, hρ, hinj, hfr, hlo⟩ := hC
  obtain ⟨locs, ce, sl, h1, h2, X, D, N⟩ := hT
  obtain ⟨d, rfl⟩ := d
  subst hlen
  have h1' : σ.length = G.j0 + ce := h1
  have h2' : u = G.u0 + sl := h2
  have hc' : σ.length + 1 ≤ G.j0 + R.cells := by simpa using hc
  have hs' : u + m ≤ G.u0 + R.slots := hs
  have eS : T.heap.size = G.n0 + σ.length := D.1
  obtain ⟨T', h', cA, X', e', E, A, hO, st⟩ := RoadKit.newR X hx hZ hown w1 w2 rfl (g := frm G me (pc, L, .int n :: S, σ, u)) rfl (hb hby d) rfl hn (cap := m) (by omega) hb8 (by omega) (by omega)
  subst e'
  have hsz : T'.heap.size = T.heap.size + 1 := by
    have a1 := X'.heapSize
    have a2 : T.heap.size < T'.heap.size := A.lt
    have a3 : s.heap.size = G.n0 + G.j0 := hs0
    omega
  rw [eS] at A
  have eρ : G.ρ σ.length = T.heap.size := by rw [hρ _ hk, eS]
  refine ⟨T', ⟨locs, ce + 1, sl + m, by simp; omega, by show u + m = _; omega, X', D.push E hsz hk ⟨_, A, ?_, ?_, ?_⟩, N⟩, fun t kt => st t ?_⟩
  · simp [newA, hm, defaultValue, gv]
  · intro C' hC; cases hC; exact hO
  · intro y hy
    rw [List.eq_of_mem_replicate hy]
    rfl
  · rw [← eρ]; exact kt
theorem WStep.alen (z : Int32) (d : AtI G.bytes pc .arraylength 1 nx) (hk : σ[k]? = some (.inl (ty, vs))) (hz : vs.length.toInt32 = z) : WStep G (pc, L, .ref k :: S, σ, u) (nx, L, .int z :: S, σ, u) := by
  refine ⟨Nat.le_refl _, Nat.le_refl _, fun p l e R s m args below meth c hC hc hs T hT => ?_⟩
  obtain ⟨hx, hby, hZ, hown, hnm, hret, hml, hs0, hρ, hinj, hfr, hlo⟩ := hC
  obtain ⟨locs, ce, sl, h1, h2, X, D, N⟩ := hT
  obtain ⟨d, rfl⟩ := d
  obtain ⟨cl, A, eC, -⟩ : ArrOk G.Z G.ρ T.heap (G.n0 + k) ty vs := D.2.2 k _ hk
  rw [← hρ k (D.lt hk)] at A
  refine ⟨T, ⟨locs, ce, sl, h1, h2, X, D, N⟩, fun t kt => X.arraylength hx A.1 (State.isArrayOf_alike hZ.alike A.2.1) (g := frm G m (pc, L, .ref k :: S, σ, u)) rfl rfl (hb hby d) t ?_⟩
  rw [ArrOk.size (ty := ty) eC, hz]
  exact kt
theorem WStep.iaload (i : Nat) (d : AtI G.bytes pc .iaload 1 nx) (hk : σ[k]? = some (.inl (.int, vs))) (hj : ¬ j < 0) (hi : j.toNatClampNeg = i) (hv : vs[i]? = some v) : WStep G (pc, L, .int j :: .ref k :: S, σ, u) (nx, L, v :: S, σ, u) := by
  refine ⟨Nat.le_refl _, Nat.le_refl _, fun p l e R s m args below meth c hC hc hs T hT => ?_⟩
  obtain ⟨hx, hby, hZ, hown, hnm, hret, hml, hs0, hρ, hinj, hfr, hlo⟩ := hC
  obtain ⟨locs, ce, sl, h1, h2, X, D, N⟩ := hT
  obtain ⟨d, rfl⟩ := d
  obtain ⟨cl, A, eC, -⟩ : ArrOk G.Z G.ρ T.heap (G.n0 + k) .int vs := D.2.2 k _ hk
  rw [← hρ k (D.lt hk)] at A
  have hlt := (List.getElem?_eq_some_iff.mp hv).1
  exact ⟨T, ⟨locs, ce, sl, h1, h2, X, D, N⟩, fun t kt => X.iaload hx (j := j) (v := gv G.ρ v) A.1 (State.isArrayOf_alike hZ.alike A.2.1) A.2.2 (fun q => q.elim hj fun q => by rw [ArrOk.size (ty := .int) eC, hi] at q; omega) (by rw [hi]; exact ArrOk.at eC hv) (g := frm G m (pc, L, .int j :: .ref k :: S, σ, u)) rfl rfl (hb hby d) t kt⟩
theorem WStep.laload (i : Nat) (d : AtI G.bytes pc .laload 1 nx) (hk : σ[k]? = some (.inl (.long, vs))) (hj : ¬ j < 0) (hi : j.toNatClampNeg = i) (hv : vs[i]? = some v) : WStep G (pc, L, .int j :: .ref k :: S, σ, u) (nx, L, v :: S, σ, u) := by
  refine ⟨Nat.le_refl _, Nat.le_refl _, fun p l e R s m args below meth c hC hc hs T hT => ?_⟩
  obtain ⟨hx, hby, hZ, hown, hnm, hret, hml, hs0, hρ, hinj, hfr, hlo⟩ := hC
  obtain ⟨locs, ce, sl, h1, h2, X, D, N⟩ := hT
  obtain ⟨d, rfl⟩ := d
  obtain ⟨cl, A, eC, -⟩ : ArrOk G.Z G.ρ T.heap (G.n0 + k) .long vs := D.2.2 k _ hk
  rw [← hρ k (D.lt hk)] at A
  have hlt := (List.getElem?_eq_some_iff.mp hv).1
  exact ⟨T, ⟨locs, ce, sl, h1, h2, X, D, N⟩, fun t kt => X.laload hx (j := j) (v := gv G.ρ v) A.1 (State.isArrayOf_alike hZ.alike A.2.1) A.2.2 (fun q => q.elim hj fun q => by rw [ArrOk.size (ty := .long) eC, hi] at q; omega) (by rw [hi]; exact ArrOk.at eC hv) (g := frm G m (pc, L, .int j :: .ref k :: S, σ, u)) rfl rfl (hb hby d) t kt⟩
theorem WStep.caload (i : Nat) (d : AtI G.bytes pc .caload 1 nx) (hk : σ[k]? = some (.inl (.char, vs))) (hj : ¬ j < 0) (hi : j.toNatClampNeg = i) (hv : vs[i]? = some v) : WStep G (pc, L, .int j :: .ref k :: S, σ, u) (nx, L, v :: S, σ, u) := by
  refine ⟨Nat.le_refl _, Nat.le_refl _, fun p l e R s m args below meth c hC hc hs T hT => ?_⟩
  obtain ⟨hx, hby, hZ, hown, hnm, hret, hml, hs0, hρ, hinj, hfr, hlo⟩ := hC
  obtain ⟨locs, ce, sl, h1, h2, X, D, N⟩ := hT
  obtain ⟨d, rfl⟩ := d
  obtain ⟨cl, A, eC, -⟩ : ArrOk G.Z G.ρ T.heap (G.n0 + k) .char vs := D.2.2 k _ hk
  rw [← hρ k (D.lt hk)] at A
  have hlt := (List.getElem?_eq_some_iff.mp hv).1
  exact ⟨T, ⟨locs, ce, sl, h1, h2, X, D, N⟩, fun t kt => X.caload hx (j := j) (v := gv G.ρ v) A.1 (State.isArrayOf_alike hZ.alike A.2.1) A.2.2 (fun q => q.elim hj fun q => by rw [ArrOk.size (ty := .char) eC, hi] at q; omega) (by rw [hi]; exact ArrOk.at eC hv) (g := frm G m (pc, L, .int j :: .ref k :: S, σ, u)) rfl rfl (hb hby d) t kt⟩
theorem WStep.aaload (i : Nat) (d : AtI G.bytes pc .aaload 1 nx) (hk : σ[k]? = some (.inl (ty, vs))) (hty : ty.isReference = true) (hj : ¬ j < 0) (hi : j.toNatClampNeg = i) (hv : vs[i]? = some v) : WStep G (pc, L, .int j :: .ref k :: S, σ, u) (nx, L, v :: S, σ, u) := by
  refine ⟨Nat.le_refl _, Nat.le_refl _, fun p l e R s m args below meth c hC hc hs T hT => ?_⟩
  obtain ⟨hx, hby, hZ, hown, hnm, hret, hml, hs0, hρ, hinj, hfr, hlo⟩ := hC
  obtain ⟨locs, ce, sl, h1, h2, X, D, N⟩ := hT
  obtain ⟨d, rfl⟩ := d
  obtain ⟨cl, A, eC, -⟩ : ArrOk G.Z G.ρ T.heap (G.n0 + k) ty vs := D.2.2 k _ hk
  rw [← hρ k (D.lt hk)] at A
  have hlt := (List.getElem?_eq_some_iff.mp hv).1
  exact ⟨T, ⟨locs, ce, sl, h1, h2, X, D, N⟩, fun t kt => X.aaload hx (j := j) (v := gv G.ρ v) A.1 (State.isArrayOf_alike hZ.alike A.2.1) hty A.2.2 (fun q => q.elim hj fun q => by rw [ArrOk.size (ty := ty) eC, hi] at q; omega) (by rw [hi]; exact ArrOk.at eC hv) (g := frm G m (pc, L, .int j :: .ref k :: S, σ, u)) rfl rfl (hb hby d) t kt⟩
theorem WStep.iastore {z : Int32} (i : Nat) (d : AtI G.bytes pc .iastore 1 nx) (hk : σ[k]? = some (.inl (.int, vs))) (hj : ¬ j < 0) (hi : j.toNatClampNeg = i) (hlt : i < vs.length) : WStep G (pc, L, .int z :: .int j :: .ref k :: S, σ, u) (nx, L, S, σ.set k (.inl (.int, vs.set i (.int z))), u) := by
  refine ⟨by simp, Nat.le_refl _, fun p l e R s m args below meth c hC hc hs T hT => ?_⟩
  obtain ⟨hx, hby, hZ, hown, hnm, hret, hml, hs0, hρ, hinj, hfr, hlo⟩ := hC
  obtain ⟨locs, ce, sl, h1, h2, X, D, N⟩ := hT
  obtain ⟨d, rfl⟩ := d
  obtain ⟨cl, A, eC, hO, hF⟩ : ArrOk G.Z G.ρ T.heap (G.n0 + k) .int vs := D.2.2 k _ hk
  have hρk := hρ k (D.lt hk)
  obtain ⟨T', h', X', e', W, st⟩ := stI X hx hZ rfl A (j := j) (x := z) (fun q => q.elim hj fun q => by rw [ArrOk.size (ty := .int) eC, hi] at q; omega) (g := frm G m (pc, L, .int z :: .int j :: .ref k :: S, σ, u)) rfl (by show _ :: _ :: Value.ref (G.ρ k) :: _ = _; rw [hρk]; rfl) (hb hby d)
  subst e'
  rw [hi] at W
  exact ⟨T', ⟨_, ce, sl, by simpa using h1, h2, X', D.put W (ArrOk.set (w := .int z) A eC hO hF W (rfl)), N.app fun y hy => by cases List.mem_singleton.mp hy; exact Nat.le_add_right _ _⟩, st⟩
theorem WStep.lastore {z : Int64} (i : Nat) (d : AtI G.bytes pc .lastore 1 nx) (hk : σ[k]? = some (.inl (.long, vs))) (hj : ¬ j < 0) (hi : j.toNatClampNeg = i) (hlt : i < vs.length) : WStep G (pc, L, .long z :: .int j :: .ref k :: S, σ, u) (nx, L, S, σ.set k (.inl (.long, vs.set i (.long z))), u) := by
  refine ⟨by simp, Nat.le_refl _, fun p l e R s m args below meth c hC hc hs T hT => ?_⟩
  obtain ⟨hx, hby, hZ, hown, hnm, hret, hml, hs0, hρ, hinj, hfr, hlo⟩ := hC
  obtain ⟨locs, ce, sl, h1, h2, X, D, N⟩ := hT
  obtain ⟨d, rfl⟩ := d
  obtain ⟨cl, A, eC, hO, hF⟩ : ArrOk G.Z G.ρ T.heap (G.n0 + k) .long vs := D.2.2 k _ hk
  have hρk := hρ k (D.lt hk)
  obtain ⟨T', h', X', e', W, st⟩ := stJ X hx hZ rfl A (j := j) (x := z) (fun q => q.elim hj fun q => by rw [ArrOk.size (ty := .long) eC, hi] at q; omega) (g := frm G m (pc, L, .long z :: .int j :: .ref k :: S, σ, u)) rfl (by show _ :: _ :: Value.ref (G.ρ k) :: _ = _; rw [hρk]; rfl) (hb hby d)
  subst e'
  rw [hi] at W
  exact ⟨T', ⟨_, ce, sl, by simpa using h1, h2, X', D.put W (ArrOk.set (w := .long z) A eC hO hF W (rfl)), N.app fun y hy => by cases List.mem_singleton.mp hy; exact Nat.le_add_right _ _⟩, st⟩
theorem WStep.castore {z : Int32} (i : Nat) (d : AtI G.bytes pc .castore 1 nx) (hk : σ[k]? = some (.inl (.char, vs))) (hj : ¬ j < 0) (hi : j.toNatClampNeg = i) (hlt : i < vs.length) : WStep G (pc, L, .int z :: .int j :: .ref k :: S, σ, u) (nx, L, S, σ.set k (.inl (.char, vs.set i (.int (nar .char z)))), u) := by
  refine ⟨by simp, Nat.le_refl _, fun p l e R s m args below meth c hC hc hs T hT => ?_⟩
  obtain ⟨hx, hby, hZ, hown, hnm, hret, hml, hs0, hρ, hinj, hfr, hlo⟩ := hC
  obtain ⟨locs, ce, sl, h1, h2, X, D, N⟩ := hT
  obtain ⟨d, rfl⟩ := d
  obtain ⟨cl, A, eC, hO, hF⟩ : ArrOk G.Z G.ρ T.heap (G.n0 + k) .char vs := D.2.2 k _ hk
  have hρk := hρ k (D.lt hk)
  obtain ⟨T', h', X', e', W, st⟩ := stC X hx hZ rfl A (j := j) (x := z) (fun q => q.elim hj fun q => by rw [ArrOk.size (ty := .char) eC, hi] at q; omega) (g := frm G m (pc, L, .int z :: .int j :: .ref k :: S, σ, u)) rfl (by show _ :: _ :: Value.ref (G.ρ k) :: _ = _; rw [hρk]; rfl) (hb hby d)
  subst e'
  rw [hi] at W
  exact ⟨T', ⟨_, ce, sl, by simpa using h1, h2, X', D.put W (ArrOk.set (w := .int (nar .char z)) A eC hO hF W (fits_nar_char z)), N.app fun y hy => by cases List.mem_singleton.mp hy; exact Nat.le_add_right _ _⟩, st⟩
theorem WStep.aastoreN (i : Nat) (d : AtI G.bytes pc .aastore 1 nx) (hk : σ[k]? = some (.inl (ty, vs))) (hty : ty.isReference = true) (hj : ¬ j < 0) (hi : j.toNatClampNeg = i) (hlt : i < vs.length) : WStep G (pc, L, .null :: .int j :: .ref k :: S, σ, u) (nx, L, S, σ.set k (.inl (ty, vs.set i .null)), u) := by
  refine ⟨by simp, Nat.le_refl _, fun p l e R s m args below meth c hC hc hs T hT => ?_⟩
  obtain ⟨hx, hby, hZ, hown, hnm, hret, hml, hs0, hρ, hinj, hfr, hlo⟩ := hC
  obtain ⟨locs, ce, sl, h1, h2, X, D, N⟩ := hT
  obtain ⟨d, rfl⟩ := d
  obtain ⟨cl, A, eC, hO, hF⟩ : ArrOk G.Z G.ρ T.heap (G.n0 + k) ty vs := D.2.2 k _ hk
  have hρk := hρ k (D.lt hk)
  obtain ⟨T', h', X', e', W, st⟩ := stR X hx hZ rfl A (j := j) (v := .null) (fun q => q.elim hj fun q => by rw [ArrOk.size (ty := ty) eC, hi] at q; omega) hty (Or.inl rfl) (g := frm G m (pc, L, .null :: .int j :: .ref k :: S, σ, u)) rfl (by show _ :: _ :: Value.ref (G.ρ k) :: _ = _; rw [hρk]; rfl) (hb hby d)
  subst e'
  rw [hi] at W
  exact ⟨T', ⟨_, ce, sl, by simpa using h1, h2, X', D.put W (ArrOk.set (w := .null) A eC hO hF W (by cases ty <;> first | rfl | cases hty)), N.app fun y hy => by cases List.mem_singleton.mp hy; exact Nat.le_add_right _ _⟩, st⟩
theorem WStep.aastore {k2 : Nat} (i : Nat) (d : AtI G.bytes pc .aastore 1 nx) (hk : σ[k]? = some (.inl (.object C, vs))) (hk2 : σ[k2]? = some (.inr (C, fs))) (hj : ¬ j < 0) (hi : j.toNatClampNeg = i) (hlt : i < vs.length) : WStep G (pc, L, .ref k2 :: .int j :: .ref k :: S, σ, u) (nx, L, S, σ.set k (.inl (.object C, vs.set i (.ref k2))), u) := by
  refine ⟨by simp, Nat.le_refl _, fun p l e R s m args below meth c hC hc hs T hT => ?_⟩
  obtain ⟨hx, hby, hZ, hown, hnm, hret, hml, hs0, hρ, hinj, hfr, hlo⟩ := hC
  obtain ⟨locs, ce, sl, h1, h2, X, D, N⟩ := hT
  obtain ⟨d, rfl⟩ := d
  obtain ⟨cl, A, eC, hO, hF⟩ : ArrOk G.Z G.ρ T.heap (G.n0 + k) (.object C) vs := D.2.2 k _ hk
  have hρk := hρ k (D.lt hk)
  have hE : Exa G.Z T.heap (G.n0 + k2) C := (D.2.2 k2 _ hk2).1
  rw [← hρ k2 (D.lt hk2)] at hE
  obtain ⟨T', h', X', e', W, st⟩ := stR X hx hZ rfl A (j := j) (v := .ref (G.ρ k2)) (fun q => q.elim hj fun q => by rw [ArrOk.size (ty := .object C) eC, hi] at q; omega) rfl (Sto.of A (hO C rfl) (Ins.self hE)) (g := frm G m (pc, L, .ref k2 :: .int j :: .ref k :: S, σ, u)) rfl (by show _ :: _ :: Value.ref (G.ρ k) :: _ = _; rw [hρk]; rfl) (hb hby d)
  subst e'
  rw [hi] at W
  exact ⟨T', ⟨_, ce, sl, by simpa using h1, h2, X', D.put W (ArrOk.set (w := .ref k2) A eC hO hF W rfl), N.app fun y hy => by cases List.mem_singleton.mp hy; exact Nat.le_add_right _ _⟩, st⟩
theorem WStep.acmp {cd : ACond} {x y : Value} (same : Bool) (pc' : Nat) (d : AtJ G.bytes pc (.if_acmp cd) nx tgt) (h1 : x.isRef = true) (h2 : y.isRef = true) (hq : decide (x = y) = same) (hp : pc' = if acV cd same = true then tgt else nx) : WStep G (pc, L, y :: x :: S, σ, u) (pc', L, S, σ, u) := by
  refine ⟨Nat.le_refl _, Nat.le_refl _, fun p l e R s m args below meth c hC hc hs T hT => ⟨T, hT, fun t kt => ?_⟩⟩
  obtain ⟨hx, hby, hZ, hown, hnm, hret, hml, hs0, hρ, hinj, hfr, hlo⟩ := hC
  obtain ⟨locs, ce, sl, z1, z2, X, D, N⟩ := hT
  obtain ⟨o, d, e1, h0, e2⟩ := d
  refine RoadKit.acmp (g := frm G m (pc, L, y :: x :: S, σ, u)) X hx rfl (isRef_gv.trans h1) (isRef_gv.trans h2) (pc0 := pc) (pc' := pc') (same := same) rfl (hb hby d) rfl ?_ h0 (by rw [hp, e1, e2]) kt
  rw [← hq]
  by_cases q : x = y
  · simp [q]
  · simp only [q, decide_false, decide_eq_false_iff_not]
    exact fun z => q (gv_inj hinj z)
theorem WStep.castN (d : AtI G.bytes pc (.checkcast idx) 3 nx) : WStep G (pc, L, .null :: S, σ, u) (nx, L, .null :: S, σ, u) := by
  refine ⟨Nat.le_refl _, Nat.le_refl _, fun p l e R s m args below meth c hC hc hs T hT => ?_⟩
  obtain ⟨hx, hby, hZ, hown, hnm, hret, hml, hs0, hρ, hinj, hfr, hlo⟩ := hC
  obtain ⟨locs, ce, sl, h1, h2, X, D, N⟩ := hT
  obtain ⟨d, rfl⟩ := d
  exact ⟨T, ⟨locs, ce, sl, h1, h2, X, D, N⟩, X.checkcastNull hx (g := frm G m (pc, L, .null :: S, σ, u)) rfl rfl (hb hby d)⟩
theorem WStep.castY (d : AtI G.bytes pc (.checkcast idx) 3 nx) (w1 : (Jvm.Cond.classLink G.own idx K).before a0 G.Z = true) (hk : σ[k]? = some (.inr (C, fs))) (hw : C = K ∨ (Jvm.Cond.castable C K).before a0 G.Z = true) : WStep G (pc, L, .ref k :: S, σ, u) (nx, L, .ref k :: S, σ, u) := by
  refine ⟨Nat.le_refl _, Nat.le_refl _, fun p l e R s m args below meth c hC hc hs T hT => ?_⟩
  obtain ⟨hx, hby, hZ, hown, hnm, hret, hml, hs0, hρ, hinj, hfr, hlo⟩ := hC
  obtain ⟨locs, ce, sl, h1, h2, X, D, N⟩ := hT
  obtain ⟨d, rfl⟩ := d
  have hE : Exa G.Z T.heap (G.n0 + k) C := (D.2.2 k _ hk).1
  rw [← hρ k (D.lt hk)] at hE
  have hI : Ins G.Z T.heap (G.ρ k) K true := by
    rcases hw with rfl | hw
    · exact Ins.self hE
    · exact Ins.of_exa hE hw
  obtain ⟨T', X', e', st⟩ := RoadKit.castY X hx hZ hown w1 rfl hI (g := frm G m (pc, L, .ref k :: S, σ, u)) rfl rfl (hb hby d)
  exact ⟨T', ⟨locs, ce, sl, h1, h2, X', by rw [e']; exact D, N⟩, st⟩
end HeapOps
end Jvm.Sy

namespace Jvm.Sy
open Jvm Jvm.RoadKit
abbrev wI (x : Int32) : Slot := .val (.int x)
abbrev wJ (x : Int64) : Slot := .val (.long x)
abbrev wR (k : Nat) : Slot := .val (.ref k)
abbrev wN : Slot := .val .null
abbrev wU : Slot := .unset
abbrev wS : Slot := .second
theorem fin_all {n : Nat} (hn : n ≤ 2 ^ 31) {P : Int32 → Prop} (h : ∀ k : Fin n, P (Int32.ofNat k.val)) (c : Int32) (h0 : 0 ≤ c.toInt) (h1 : c.toInt < n) : P c := by
  have e : c = Int32.ofNat c.toInt.toNat := by
    apply Int32.toInt_inj.mp
    rw [Int32.toInt_ofNat_small (by omega)]
    omega
  rw [e]
  exact h ⟨c.toInt.toNat, by omega⟩
/-- ints in an array -/
def ia (ks : List Int32) : List Value := ks.map Value.int
theorem ia_len (ks : List Int32) : (ia ks).length = ks.length := by simp [ia]
theorem ia_ex (ks : List Int32) (i : Nat) (h : i < ks.length) : ∃ e, ks[i]? = some e ∧ (ia ks)[i]? = some (.int e) := ⟨ks[i], by simp [h], by simp [ia, h]⟩
theorem ia_get {ks : List Int32} {i : Nat} {e : Int32} (h : ks[i]? = some e) : (ia ks)[i]? = some (.int e) := by simp [ia, h]
theorem ia_set (ks : List Int32) (i : Nat) (x : Int32) : (ia ks).set i (.int x) = ia (ks.set i x) := by simp [ia, List.map_set]
theorem nn {j : Int32} (h0 : 0 ≤ j.toInt) : ¬ j < 0 := by rw [Int32.lt_iff_toInt_lt]; have : (0 : Int32).toInt = 0 := rfl; omega
theorem nlt {j : Int32} {n : Nat} (h0 : 0 ≤ j.toInt) (h1 : j.toInt < n) : j.toNatClampNeg < n := by simp only [Int32.toNatClampNeg]; omega
/-- a boolean's contract: nothing is written -/
def QB (P : Prop) (σ : WHp) (u : Nat) (v : Option Value) (σ' : WHp) (u' : Nat) : Prop := (v = some (.int 1) ∧ P ∨ v = some (.int 0) ∧ ¬ P) ∧ σ = σ' ∧ u = u'
theorem QB.yes {P : Prop} {σ : WHp} {u : Nat} (h : P) : QB P σ u (some (.int 1)) σ u := ⟨Or.inl ⟨rfl, h⟩, rfl, rfl⟩
theorem QB.no {P : Prop} {σ : WHp} {u : Nat} (h : ¬ P) : QB P σ u (some (.int 0)) σ u := ⟨Or.inr ⟨rfl, h⟩, rfl, rfl⟩
end Jvm.Sy

namespace Jvm.Pilot.@@N@@
open Jvm Jvm.ClassFile Sem Op Lib Jvm.Free Jvm.Stand Jvm.LawKit Jvm.RoadKit Bundle Jvm.Sy Jvm.Pilot.@@N@@.Jvm.D
theorem wd {Z : State} {a0 : Array Value} (hw : ∀ d ∈ tables_1, d.before a0 Z = true) (i : Nat) {d : Jvm.Cond} (h : tables_1[i]? = some d) : d.before a0 Z = true := hw d (List.mem_of_getElem? h)


abbrev HA (p q r b0 b1 b2 : Int64) : WHp := [(.inl (.long, [(.long p), (.long q), (.long r)])), (.inl (.long, [(.long b0), (.long b1), (.long b2)]))]
abbrev LA (p q r b0 b1 b2 : Int64) (ra rb mix : Int32) (t : List Slot) : List Slot := wJ p :: wS :: wJ q :: wS :: wJ r :: wS :: wI ra :: wI rb :: wI mix :: wJ b0 :: wS :: wJ b1 :: wS :: wJ b2 :: wS :: wR 0 :: wR 1 :: t
abbrev g1 (Z : State) (ρ : Nat → Nat) (n0 j0 u0 : Nat) : WMC := ((Z, ρ, n0), ("com/example/firm_handshake/firmhandshake/lts/ArrayRangesEqualPinLaw", method_2_code, "pick", (some .long), 7), (j0, u0, 0, 0))
theorem a1_0 : AtI method_2_code 0 (.iload_n 0) 1 1 := ⟨by decide +kernel, rfl⟩
theorem a1_1 : AtJ method_2_code 1 (.ifCond .ne) 4 6 := ⟨5, by decide +kernel, rfl, by decide, rfl⟩
theorem a1_4 : AtI method_2_code 4 (.lload_n 1) 1 5 := ⟨by decide +kernel, rfl⟩
theorem a1_5 : AtI method_2_code 5 (.lreturn) 1 6 := ⟨by decide +kernel, rfl⟩
theorem a1_6 : AtI method_2_code 6 (.iload_n 0) 1 7 := ⟨by decide +kernel, rfl⟩
theorem a1_7 : AtI method_2_code 7 (.iconst 1) 1 8 := ⟨by decide +kernel, rfl⟩
theorem a1_8 : AtJ method_2_code 8 (.if_icmp .ne) 11 13 := ⟨5, by decide +kernel, rfl, by decide, rfl⟩
theorem a1_11 : AtI method_2_code 11 (.lload_n 3) 1 12 := ⟨by decide +kernel, rfl⟩
theorem a1_12 : AtI method_2_code 12 (.lreturn) 1 13 := ⟨by decide +kernel, rfl⟩
theorem a1_13 : AtI method_2_code 13 (.iload_n 0) 1 14 := ⟨by decide +kernel, rfl⟩
theorem a1_14 : AtI method_2_code 14 (.iconst 2) 1 15 := ⟨by decide +kernel, rfl⟩
theorem a1_15 : AtJ method_2_code 15 (.if_icmp .ne) 18 21 := ⟨6, by decide +kernel, rfl, by decide, rfl⟩
theorem a1_18 : AtI method_2_code 18 (.lload 5) 2 20 := ⟨by decide +kernel, rfl⟩
theorem a1_20 : AtI method_2_code 20 (.lreturn) 1 21 := ⟨by decide +kernel, rfl⟩
theorem a1_21 : AtI method_2_code 21 (.lload_n 1) 1 22 := ⟨by decide +kernel, rfl⟩
theorem a1_22 : AtI method_2_code 22 (.ldc2_w 7) 3 25 := ⟨by decide +kernel, rfl⟩
theorem a1_25 : AtI method_2_code 25 (.lxor) 1 26 := ⟨by decide +kernel, rfl⟩
theorem a1_26 : AtI method_2_code 26 (.lreturn) 1 27 := ⟨by decide +kernel, rfl⟩
theorem pd1 : parseMethodDescriptor "(IJJJ)J" = some ⟨[.int, .long, .long, .long], some .long⟩ := by decide +kernel
theorem pl1 : plainFor (⟨"com/example/firm_handshake/firmhandshake/lts/ArrayRangesEqualPinLaw", "pick", "(IJJJ)J"⟩ : MethodName) = true := plainFor_of_name (by first | (simp [plainName, overriddenIn]; done) | decide +kernel)
theorem ok1 {Z : State} {a0 : Array Value} (hw : ∀ d ∈ tables_1, d.before a0 Z = true) (ρ : Nat → Nat) (n0 j0 u0 : Nat) : WCallee Z a0 (⟨"com/example/firm_handshake/firmhandshake/lts/ArrayRangesEqualPinLaw", "pick", "(IJJJ)J"⟩ : MethodName) (g1 Z ρ n0 j0 u0) 4 :=
  ⟨pl1, (by decide), rfl, rfl, rfl, (wd hw 2 rfl), (wd hw 3 rfl), fun sig h => by cases pd1.symm.trans h; rfl⟩
abbrev g2 (Z : State) (ρ : Nat → Nat) (n0 j0 u0 : Nat) : WMC := ((Z, ρ, n0), ("java/lang/Math", jdk_29_method_69_code, "min", (some .int), 2), (j0, u0, 0, 0))
theorem a2_0 : AtI jdk_29_method_69_code 0 (.iload_n 0) 1 1 := ⟨by decide +kernel, rfl⟩
theorem a2_1 : AtI jdk_29_method_69_code 1 (.iload_n 1) 1 2 := ⟨by decide +kernel, rfl⟩
theorem a2_2 : AtJ jdk_29_method_69_code 2 (.if_icmp .gt) 5 9 := ⟨7, by decide +kernel, rfl, by decide, rfl⟩
theorem a2_5 : AtI jdk_29_method_69_code 5 (.iload_n 0) 1 6 := ⟨by decide +kernel, rfl⟩
theorem a2_6 : AtJ jdk_29_method_69_code 6 (.goto) 9 10 := ⟨4, by decide +kernel, rfl, by decide, rfl⟩
theorem a2_9 : AtI jdk_29_method_69_code 9 (.iload_n 1) 1 10 := ⟨by decide +kernel, rfl⟩
theorem a2_10 : AtI jdk_29_method_69_code 10 (.ireturn) 1 11 := ⟨by decide +kernel, rfl⟩
theorem pd2 : parseMethodDescriptor "(II)I" = some ⟨[.int, .int], some .int⟩ := by decide +kernel
theorem pl2 : plainFor (⟨"java/lang/Math", "min", "(II)I"⟩ : MethodName) = true := Jvm.Free.JP.mathPlain rfl (by decide +kernel)
theorem ok2 {Z : State} {a0 : Array Value} (hw : ∀ d ∈ tables_1, d.before a0 Z = true) (ρ : Nat → Nat) (n0 j0 u0 : Nat) : WCallee Z a0 (⟨"java/lang/Math", "min", "(II)I"⟩ : MethodName) (g2 Z ρ n0 j0 u0) 2 :=
  ⟨pl2, (by decide), rfl, rfl, rfl, (wd hw 8 rfl), (wd hw 9 rfl), fun sig h => by cases pd2.symm.trans h; rfl⟩
abbrev g3 (Z : State) (ρ : Nat → Nat) (n0 j0 u0 : Nat) : WMC := ((Z, ρ, n0), ("com/example/firm_handshake/firmhandshake/lts/ArrayRanges", prog_73_method_2_code, "equal", (some .boolean), 8), (j0, u0, 0, 0))
theorem a3_0 : AtI prog_73_method_2_code 0 (.iload_n 2) 1 1 := ⟨by decide +kernel, rfl⟩
theorem a3_1 : AtI prog_73_method_2_code 1 (.iload_n 1) 1 2 := ⟨by decide +kernel, rfl⟩
theorem a3_2 : AtI prog_73_method_2_code 2 (.isub) 1 3 := ⟨by decide +kernel, rfl⟩
theorem a3_3 : AtI prog_73_method_2_code 3 (.istore 6) 2 5 := ⟨by decide +kernel, rfl⟩
theorem a3_5 : AtI prog_73_method_2_code 5 (.iload 5) 2 7 := ⟨by decide +kernel, rfl⟩
theorem a3_7 : AtI prog_73_method_2_code 7 (.iload 4) 2 9 := ⟨by decide +kernel, rfl⟩
theorem a3_9 : AtI prog_73_method_2_code 9 (.isub) 1 10 := ⟨by decide +kernel, rfl⟩
theorem a3_10 : AtI prog_73_method_2_code 10 (.iload 6) 2 12 := ⟨by decide +kernel, rfl⟩
theorem a3_12 : AtJ prog_73_method_2_code 12 (.if_icmp .eq) 15 17 := ⟨5, by decide +kernel, rfl, by decide, rfl⟩
theorem a3_15 : AtI prog_73_method_2_code 15 (.iconst 0) 1 16 := ⟨by decide +kernel, rfl⟩
theorem a3_16 : AtI prog_73_method_2_code 16 (.ireturn) 1 17 := ⟨by decide +kernel, rfl⟩
theorem a3_17 : AtI prog_73_method_2_code 17 (.iconst 0) 1 18 := ⟨by decide +kernel, rfl⟩
theorem a3_18 : AtI prog_73_method_2_code 18 (.istore 7) 2 20 := ⟨by decide +kernel, rfl⟩
theorem a3_20 : AtI prog_73_method_2_code 20 (.iload 7) 2 22 := ⟨by decide +kernel, rfl⟩
theorem a3_22 : AtI prog_73_method_2_code 22 (.iload 6) 2 24 := ⟨by decide +kernel, rfl⟩
theorem a3_24 : AtJ prog_73_method_2_code 24 (.if_icmp .ge) 27 52 := ⟨28, by decide +kernel, rfl, by decide, rfl⟩
theorem a3_27 : AtI prog_73_method_2_code 27 (.aload_n 0) 1 28 := ⟨by decide +kernel, rfl⟩
theorem a3_28 : AtI prog_73_method_2_code 28 (.iload_n 1) 1 29 := ⟨by decide +kernel, rfl⟩
theorem a3_29 : AtI prog_73_method_2_code 29 (.iload 7) 2 31 := ⟨by decide +kernel, rfl⟩
theorem a3_31 : AtI prog_73_method_2_code 31 (.iadd) 1 32 := ⟨by decide +kernel, rfl⟩
theorem a3_32 : AtI prog_73_method_2_code 32 (.laload) 1 33 := ⟨by decide +kernel, rfl⟩
theorem a3_33 : AtI prog_73_method_2_code 33 (.aload_n 3) 1 34 := ⟨by decide +kernel, rfl⟩
theorem a3_34 : AtI prog_73_method_2_code 34 (.iload 4) 2 36 := ⟨by decide +kernel, rfl⟩
theorem a3_36 : AtI prog_73_method_2_code 36 (.iload 7) 2 38 := ⟨by decide +kernel, rfl⟩
theorem a3_38 : AtI prog_73_method_2_code 38 (.iadd) 1 39 := ⟨by decide +kernel, rfl⟩
theorem a3_39 : AtI prog_73_method_2_code 39 (.laload) 1 40 := ⟨by decide +kernel, rfl⟩
theorem a3_40 : AtI prog_73_method_2_code 40 (.lcmp) 1 41 := ⟨by decide +kernel, rfl⟩
theorem a3_41 : AtJ prog_73_method_2_code 41 (.ifCond .eq) 44 46 := ⟨5, by decide +kernel, rfl, by decide, rfl⟩
theorem a3_44 : AtI prog_73_method_2_code 44 (.iconst 0) 1 45 := ⟨by decide +kernel, rfl⟩
theorem a3_45 : AtI prog_73_method_2_code 45 (.ireturn) 1 46 := ⟨by decide +kernel, rfl⟩
theorem a3_46 : AtI prog_73_method_2_code 46 (.iinc 7 1) 3 49 := ⟨by decide +kernel, rfl⟩
theorem a3_49 : AtJ prog_73_method_2_code 49 (.goto) 52 20 := ⟨(-29), by decide +kernel, rfl, by decide, rfl⟩
theorem a3_52 : AtI prog_73_method_2_code 52 (.iconst 1) 1 53 := ⟨by decide +kernel, rfl⟩
theorem a3_53 : AtI prog_73_method_2_code 53 (.ireturn) 1 54 := ⟨by decide +kernel, rfl⟩
theorem pd3 : parseMethodDescriptor "([JII[JII)Z" = some ⟨[(.array .long), .int, .int, (.array .long), .int, .int], some .boolean⟩ := by decide +kernel
theorem pl3 : plainFor (⟨"com/example/firm_handshake/firmhandshake/lts/ArrayRanges", "equal", "([JII[JII)Z"⟩ : MethodName) = true := plainFor_of_name (by first | (simp [plainName, overriddenIn]; done) | decide +kernel)
theorem ok3 {Z : State} {a0 : Array Value} (hw : ∀ d ∈ tables_1, d.before a0 Z = true) (ρ : Nat → Nat) (n0 j0 u0 : Nat) : WCallee Z a0 (⟨"com/example/firm_handshake/firmhandshake/lts/ArrayRanges", "equal", "([JII[JII)Z"⟩ : MethodName) (g3 Z ρ n0 j0 u0) 6 :=
  ⟨pl3, (by decide), rfl, rfl, rfl, (wd hw 12 rfl), (wd hw 13 rfl), fun sig h => by cases pd3.symm.trans h; rfl⟩
abbrev g0 (Z : State) (ρ : Nat → Nat) (n0 j0 u0 : Nat) : WMC := ((Z, ρ, n0), ("com/example/firm_handshake/firmhandshake/lts/ArrayRangesEqualPinLaw", code, "law", ret, maxLocals), (j0, u0, 4, 112))
theorem a0_0 : AtI code 0 (.iload 8) 2 2 := ⟨by decide +kernel, rfl⟩
theorem a0_2 : AtI code 2 (.iconst 3) 1 3 := ⟨by decide +kernel, rfl⟩
theorem a0_3 : AtI code 3 (.iand) 1 4 := ⟨by decide +kernel, rfl⟩
theorem a0_4 : AtI code 4 (.lload_n 0) 1 5 := ⟨by decide +kernel, rfl⟩
theorem a0_5 : AtI code 5 (.lload_n 2) 1 6 := ⟨by decide +kernel, rfl⟩
theorem a0_6 : AtI code 6 (.lload 4) 2 8 := ⟨by decide +kernel, rfl⟩
theorem a0_8 : AtI code 8 (.invokestatic 9) 3 11 := ⟨by decide +kernel, rfl⟩
theorem a0_11 : AtI code 11 (.lstore 9) 2 13 := ⟨by decide +kernel, rfl⟩
theorem a0_13 : AtI code 13 (.iload 8) 2 15 := ⟨by decide +kernel, rfl⟩
theorem a0_15 : AtI code 15 (.iconst 2) 1 16 := ⟨by decide +kernel, rfl⟩
theorem a0_16 : AtI code 16 (.iushr) 1 17 := ⟨by decide +kernel, rfl⟩
theorem a0_17 : AtI code 17 (.iconst 3) 1 18 := ⟨by decide +kernel, rfl⟩
theorem a0_18 : AtI code 18 (.iand) 1 19 := ⟨by decide +kernel, rfl⟩
theorem a0_19 : AtI code 19 (.lload_n 0) 1 20 := ⟨by decide +kernel, rfl⟩
theorem a0_20 : AtI code 20 (.lload_n 2) 1 21 := ⟨by decide +kernel, rfl⟩
theorem a0_21 : AtI code 21 (.lload 4) 2 23 := ⟨by decide +kernel, rfl⟩
theorem a0_23 : AtI code 23 (.invokestatic 9) 3 26 := ⟨by decide +kernel, rfl⟩
theorem a0_26 : AtI code 26 (.lstore 11) 2 28 := ⟨by decide +kernel, rfl⟩
theorem a0_28 : AtI code 28 (.iload 8) 2 30 := ⟨by decide +kernel, rfl⟩
theorem a0_30 : AtI code 30 (.iconst 4) 1 31 := ⟨by decide +kernel, rfl⟩
theorem a0_31 : AtI code 31 (.iushr) 1 32 := ⟨by decide +kernel, rfl⟩
theorem a0_32 : AtI code 32 (.iconst 3) 1 33 := ⟨by decide +kernel, rfl⟩
theorem a0_33 : AtI code 33 (.iand) 1 34 := ⟨by decide +kernel, rfl⟩
theorem a0_34 : AtI code 34 (.lload_n 0) 1 35 := ⟨by decide +kernel, rfl⟩
theorem a0_35 : AtI code 35 (.lload_n 2) 1 36 := ⟨by decide +kernel, rfl⟩
theorem a0_36 : AtI code 36 (.lload 4) 2 38 := ⟨by decide +kernel, rfl⟩
theorem a0_38 : AtI code 38 (.invokestatic 9) 3 41 := ⟨by decide +kernel, rfl⟩
theorem a0_41 : AtI code 41 (.lstore 13) 2 43 := ⟨by decide +kernel, rfl⟩
theorem a0_43 : AtI code 43 (.iconst 3) 1 44 := ⟨by decide +kernel, rfl⟩
theorem a0_44 : AtI code 44 (.newarray .long) 2 46 := ⟨by decide +kernel, rfl⟩
theorem a0_46 : AtI code 46 (.dup) 1 47 := ⟨by decide +kernel, rfl⟩
theorem a0_47 : AtI code 47 (.iconst 0) 1 48 := ⟨by decide +kernel, rfl⟩
theorem a0_48 : AtI code 48 (.lload_n 0) 1 49 := ⟨by decide +kernel, rfl⟩
theorem a0_49 : AtI code 49 (.lastore) 1 50 := ⟨by decide +kernel, rfl⟩
theorem a0_50 : AtI code 50 (.dup) 1 51 := ⟨by decide +kernel, rfl⟩
theorem a0_51 : AtI code 51 (.iconst 1) 1 52 := ⟨by decide +kernel, rfl⟩
theorem a0_52 : AtI code 52 (.lload_n 2) 1 53 := ⟨by decide +kernel, rfl⟩
theorem a0_53 : AtI code 53 (.lastore) 1 54 := ⟨by decide +kernel, rfl⟩
theorem a0_54 : AtI code 54 (.dup) 1 55 := ⟨by decide +kernel, rfl⟩
theorem a0_55 : AtI code 55 (.iconst 2) 1 56 := ⟨by decide +kernel, rfl⟩
theorem a0_56 : AtI code 56 (.lload 4) 2 58 := ⟨by decide +kernel, rfl⟩
theorem a0_58 : AtI code 58 (.lastore) 1 59 := ⟨by decide +kernel, rfl⟩
theorem a0_59 : AtI code 59 (.astore 15) 2 61 := ⟨by decide +kernel, rfl⟩
theorem a0_61 : AtI code 61 (.iconst 3) 1 62 := ⟨by decide +kernel, rfl⟩
theorem a0_62 : AtI code 62 (.newarray .long) 2 64 := ⟨by decide +kernel, rfl⟩
theorem a0_64 : AtI code 64 (.dup) 1 65 := ⟨by decide +kernel, rfl⟩
theorem a0_65 : AtI code 65 (.iconst 0) 1 66 := ⟨by decide +kernel, rfl⟩
theorem a0_66 : AtI code 66 (.lload 9) 2 68 := ⟨by decide +kernel, rfl⟩
theorem a0_68 : AtI code 68 (.lastore) 1 69 := ⟨by decide +kernel, rfl⟩
theorem a0_69 : AtI code 69 (.dup) 1 70 := ⟨by decide +kernel, rfl⟩
theorem a0_70 : AtI code 70 (.iconst 1) 1 71 := ⟨by decide +kernel, rfl⟩
theorem a0_71 : AtI code 71 (.lload 11) 2 73 := ⟨by decide +kernel, rfl⟩
theorem a0_73 : AtI code 73 (.lastore) 1 74 := ⟨by decide +kernel, rfl⟩
theorem a0_74 : AtI code 74 (.dup) 1 75 := ⟨by decide +kernel, rfl⟩
theorem a0_75 : AtI code 75 (.iconst 2) 1 76 := ⟨by decide +kernel, rfl⟩
theorem a0_76 : AtI code 76 (.lload 13) 2 78 := ⟨by decide +kernel, rfl⟩
theorem a0_78 : AtI code 78 (.lastore) 1 79 := ⟨by decide +kernel, rfl⟩
theorem a0_79 : AtI code 79 (.astore 16) 2 81 := ⟨by decide +kernel, rfl⟩
theorem a0_81 : AtI code 81 (.iload 6) 2 83 := ⟨by decide +kernel, rfl⟩
theorem a0_83 : AtI code 83 (.iconst 3) 1 84 := ⟨by decide +kernel, rfl⟩
theorem a0_84 : AtI code 84 (.iand) 1 85 := ⟨by decide +kernel, rfl⟩
theorem a0_85 : AtI code 85 (.istore 17) 2 87 := ⟨by decide +kernel, rfl⟩
theorem a0_87 : AtI code 87 (.iconst 3) 1 88 := ⟨by decide +kernel, rfl⟩
theorem a0_88 : AtI code 88 (.iload 17) 2 90 := ⟨by decide +kernel, rfl⟩
theorem a0_90 : AtI code 90 (.iload 6) 2 92 := ⟨by decide +kernel, rfl⟩
theorem a0_92 : AtI code 92 (.iconst 2) 1 93 := ⟨by decide +kernel, rfl⟩
theorem a0_93 : AtI code 93 (.iushr) 1 94 := ⟨by decide +kernel, rfl⟩
theorem a0_94 : AtI code 94 (.iconst 3) 1 95 := ⟨by decide +kernel, rfl⟩
theorem a0_95 : AtI code 95 (.iand) 1 96 := ⟨by decide +kernel, rfl⟩
theorem a0_96 : AtI code 96 (.iadd) 1 97 := ⟨by decide +kernel, rfl⟩
theorem a0_97 : AtI code 97 (.invokestatic 15) 3 100 := ⟨by decide +kernel, rfl⟩
theorem a0_100 : AtI code 100 (.istore 18) 2 102 := ⟨by decide +kernel, rfl⟩
theorem a0_102 : AtI code 102 (.iload 7) 2 104 := ⟨by decide +kernel, rfl⟩
theorem a0_104 : AtI code 104 (.iconst 3) 1 105 := ⟨by decide +kernel, rfl⟩
theorem a0_105 : AtI code 105 (.iand) 1 106 := ⟨by decide +kernel, rfl⟩
theorem a0_106 : AtI code 106 (.istore 19) 2 108 := ⟨by decide +kernel, rfl⟩
theorem a0_108 : AtI code 108 (.iconst 3) 1 109 := ⟨by decide +kernel, rfl⟩
theorem a0_109 : AtI code 109 (.iload 19) 2 111 := ⟨by decide +kernel, rfl⟩
theorem a0_111 : AtI code 111 (.iload 7) 2 113 := ⟨by decide +kernel, rfl⟩
theorem a0_113 : AtI code 113 (.iconst 2) 1 114 := ⟨by decide +kernel, rfl⟩
theorem a0_114 : AtI code 114 (.iushr) 1 115 := ⟨by decide +kernel, rfl⟩
theorem a0_115 : AtI code 115 (.iconst 3) 1 116 := ⟨by decide +kernel, rfl⟩
theorem a0_116 : AtI code 116 (.iand) 1 117 := ⟨by decide +kernel, rfl⟩
theorem a0_117 : AtI code 117 (.iadd) 1 118 := ⟨by decide +kernel, rfl⟩
theorem a0_118 : AtI code 118 (.invokestatic 15) 3 121 := ⟨by decide +kernel, rfl⟩
theorem a0_121 : AtI code 121 (.istore 20) 2 123 := ⟨by decide +kernel, rfl⟩
theorem a0_123 : AtI code 123 (.iload 18) 2 125 := ⟨by decide +kernel, rfl⟩
theorem a0_125 : AtI code 125 (.iload 17) 2 127 := ⟨by decide +kernel, rfl⟩
theorem a0_127 : AtI code 127 (.isub) 1 128 := ⟨by decide +kernel, rfl⟩
theorem a0_128 : AtI code 128 (.istore 21) 2 130 := ⟨by decide +kernel, rfl⟩
theorem a0_130 : AtI code 130 (.iload 20) 2 132 := ⟨by decide +kernel, rfl⟩
theorem a0_132 : AtI code 132 (.iload 19) 2 134 := ⟨by decide +kernel, rfl⟩
theorem a0_134 : AtI code 134 (.isub) 1 135 := ⟨by decide +kernel, rfl⟩
theorem a0_135 : AtI code 135 (.istore 22) 2 137 := ⟨by decide +kernel, rfl⟩
theorem a0_137 : AtI code 137 (.iload 21) 2 139 := ⟨by decide +kernel, rfl⟩
theorem a0_139 : AtI code 139 (.iload 22) 2 141 := ⟨by decide +kernel, rfl⟩
theorem a0_141 : AtJ code 141 (.if_icmp .eq) 144 150 := ⟨9, by decide +kernel, rfl, by decide, rfl⟩
theorem a0_144 : AtI code 144 (.iconst 0) 1 145 := ⟨by decide +kernel, rfl⟩
theorem a0_145 : AtI code 145 (.istore 23) 2 147 := ⟨by decide +kernel, rfl⟩
theorem a0_147 : AtJ code 147 (.goto) 150 229 := ⟨82, by decide +kernel, rfl, by decide, rfl⟩
theorem a0_150 : AtI code 150 (.iconst 1) 1 151 := ⟨by decide +kernel, rfl⟩
theorem a0_151 : AtI code 151 (.istore 23) 2 153 := ⟨by decide +kernel, rfl⟩
theorem a0_153 : AtI code 153 (.iload 21) 2 155 := ⟨by decide +kernel, rfl⟩
theorem a0_155 : AtJ code 155 (.ifCond .le) 158 175 := ⟨20, by decide +kernel, rfl, by decide, rfl⟩
theorem a0_158 : AtI code 158 (.aload 15) 2 160 := ⟨by decide +kernel, rfl⟩
theorem a0_160 : AtI code 160 (.iload 17) 2 162 := ⟨by decide +kernel, rfl⟩
theorem a0_162 : AtI code 162 (.laload) 1 163 := ⟨by decide +kernel, rfl⟩
theorem a0_163 : AtI code 163 (.aload 16) 2 165 := ⟨by decide +kernel, rfl⟩
theorem a0_165 : AtI code 165 (.iload 19) 2 167 := ⟨by decide +kernel, rfl⟩
theorem a0_167 : AtI code 167 (.laload) 1 168 := ⟨by decide +kernel, rfl⟩
theorem a0_168 : AtI code 168 (.lcmp) 1 169 := ⟨by decide +kernel, rfl⟩
theorem a0_169 : AtJ code 169 (.ifCond .eq) 172 175 := ⟨6, by decide +kernel, rfl, by decide, rfl⟩
theorem a0_172 : AtI code 172 (.iconst 0) 1 173 := ⟨by decide +kernel, rfl⟩
theorem a0_173 : AtI code 173 (.istore 23) 2 175 := ⟨by decide +kernel, rfl⟩
theorem a0_175 : AtI code 175 (.iload 21) 2 177 := ⟨by decide +kernel, rfl⟩
theorem a0_177 : AtI code 177 (.iconst 1) 1 178 := ⟨by decide +kernel, rfl⟩
theorem a0_178 : AtJ code 178 (.if_icmp .le) 181 202 := ⟨24, by decide +kernel, rfl, by decide, rfl⟩
theorem a0_181 : AtI code 181 (.aload 15) 2 183 := ⟨by decide +kernel, rfl⟩
theorem a0_183 : AtI code 183 (.iload 17) 2 185 := ⟨by decide +kernel, rfl⟩
theorem a0_185 : AtI code 185 (.iconst 1) 1 186 := ⟨by decide +kernel, rfl⟩
theorem a0_186 : AtI code 186 (.iadd) 1 187 := ⟨by decide +kernel, rfl⟩
theorem a0_187 : AtI code 187 (.laload) 1 188 := ⟨by decide +kernel, rfl⟩
theorem a0_188 : AtI code 188 (.aload 16) 2 190 := ⟨by decide +kernel, rfl⟩
theorem a0_190 : AtI code 190 (.iload 19) 2 192 := ⟨by decide +kernel, rfl⟩
theorem a0_192 : AtI code 192 (.iconst 1) 1 193 := ⟨by decide +kernel, rfl⟩
theorem a0_193 : AtI code 193 (.iadd) 1 194 := ⟨by decide +kernel, rfl⟩
theorem a0_194 : AtI code 194 (.laload) 1 195 := ⟨by decide +kernel, rfl⟩
theorem a0_195 : AtI code 195 (.lcmp) 1 196 := ⟨by decide +kernel, rfl⟩
theorem a0_196 : AtJ code 196 (.ifCond .eq) 199 202 := ⟨6, by decide +kernel, rfl, by decide, rfl⟩
theorem a0_199 : AtI code 199 (.iconst 0) 1 200 := ⟨by decide +kernel, rfl⟩
theorem a0_200 : AtI code 200 (.istore 23) 2 202 := ⟨by decide +kernel, rfl⟩
theorem a0_202 : AtI code 202 (.iload 21) 2 204 := ⟨by decide +kernel, rfl⟩
theorem a0_204 : AtI code 204 (.iconst 2) 1 205 := ⟨by decide +kernel, rfl⟩
theorem a0_205 : AtJ code 205 (.if_icmp .le) 208 229 := ⟨24, by decide +kernel, rfl, by decide, rfl⟩
theorem a0_208 : AtI code 208 (.aload 15) 2 210 := ⟨by decide +kernel, rfl⟩
theorem a0_210 : AtI code 210 (.iload 17) 2 212 := ⟨by decide +kernel, rfl⟩
theorem a0_212 : AtI code 212 (.iconst 2) 1 213 := ⟨by decide +kernel, rfl⟩
theorem a0_213 : AtI code 213 (.iadd) 1 214 := ⟨by decide +kernel, rfl⟩
theorem a0_214 : AtI code 214 (.laload) 1 215 := ⟨by decide +kernel, rfl⟩
theorem a0_215 : AtI code 215 (.aload 16) 2 217 := ⟨by decide +kernel, rfl⟩
theorem a0_217 : AtI code 217 (.iload 19) 2 219 := ⟨by decide +kernel, rfl⟩
theorem a0_219 : AtI code 219 (.iconst 2) 1 220 := ⟨by decide +kernel, rfl⟩
theorem a0_220 : AtI code 220 (.iadd) 1 221 := ⟨by decide +kernel, rfl⟩
theorem a0_221 : AtI code 221 (.laload) 1 222 := ⟨by decide +kernel, rfl⟩
theorem a0_222 : AtI code 222 (.lcmp) 1 223 := ⟨by decide +kernel, rfl⟩
theorem a0_223 : AtJ code 223 (.ifCond .eq) 226 229 := ⟨6, by decide +kernel, rfl, by decide, rfl⟩
theorem a0_226 : AtI code 226 (.iconst 0) 1 227 := ⟨by decide +kernel, rfl⟩
theorem a0_227 : AtI code 227 (.istore 23) 2 229 := ⟨by decide +kernel, rfl⟩
theorem a0_229 : AtI code 229 (.aload 15) 2 231 := ⟨by decide +kernel, rfl⟩
theorem a0_231 : AtI code 231 (.iload 17) 2 233 := ⟨by decide +kernel, rfl⟩
theorem a0_233 : AtI code 233 (.iload 18) 2 235 := ⟨by decide +kernel, rfl⟩
theorem a0_235 : AtI code 235 (.aload 16) 2 237 := ⟨by decide +kernel, rfl⟩
theorem a0_237 : AtI code 237 (.iload 19) 2 239 := ⟨by decide +kernel, rfl⟩
theorem a0_239 : AtI code 239 (.iload 20) 2 241 := ⟨by decide +kernel, rfl⟩
theorem a0_241 : AtI code 241 (.invokestatic 21) 3 244 := ⟨by decide +kernel, rfl⟩
theorem a0_244 : AtI code 244 (.istore 24) 2 246 := ⟨by decide +kernel, rfl⟩
theorem a0_246 : AtI code 246 (.aload 15) 2 248 := ⟨by decide +kernel, rfl⟩
theorem a0_248 : AtI code 248 (.iconst 0) 1 249 := ⟨by decide +kernel, rfl⟩
theorem a0_249 : AtI code 249 (.laload) 1 250 := ⟨by decide +kernel, rfl⟩
theorem a0_250 : AtI code 250 (.lload_n 0) 1 251 := ⟨by decide +kernel, rfl⟩
theorem a0_251 : AtI code 251 (.lcmp) 1 252 := ⟨by decide +kernel, rfl⟩
theorem a0_252 : AtJ code 252 (.ifCond .ne) 255 308 := ⟨56, by decide +kernel, rfl, by decide, rfl⟩
theorem a0_255 : AtI code 255 (.aload 15) 2 257 := ⟨by decide +kernel, rfl⟩
theorem a0_257 : AtI code 257 (.iconst 1) 1 258 := ⟨by decide +kernel, rfl⟩
theorem a0_258 : AtI code 258 (.laload) 1 259 := ⟨by decide +kernel, rfl⟩
theorem a0_259 : AtI code 259 (.lload_n 2) 1 260 := ⟨by decide +kernel, rfl⟩
theorem a0_260 : AtI code 260 (.lcmp) 1 261 := ⟨by decide +kernel, rfl⟩
theorem a0_261 : AtJ code 261 (.ifCond .ne) 264 308 := ⟨47, by decide +kernel, rfl, by decide, rfl⟩
theorem a0_264 : AtI code 264 (.aload 15) 2 266 := ⟨by decide +kernel, rfl⟩
theorem a0_266 : AtI code 266 (.iconst 2) 1 267 := ⟨by decide +kernel, rfl⟩
theorem a0_267 : AtI code 267 (.laload) 1 268 := ⟨by decide +kernel, rfl⟩
theorem a0_268 : AtI code 268 (.lload 4) 2 270 := ⟨by decide +kernel, rfl⟩
theorem a0_270 : AtI code 270 (.lcmp) 1 271 := ⟨by decide +kernel, rfl⟩
theorem a0_271 : AtJ code 271 (.ifCond .ne) 274 308 := ⟨37, by decide +kernel, rfl, by decide, rfl⟩
theorem a0_274 : AtI code 274 (.aload 16) 2 276 := ⟨by decide +kernel, rfl⟩
theorem a0_276 : AtI code 276 (.iconst 0) 1 277 := ⟨by decide +kernel, rfl⟩
theorem a0_277 : AtI code 277 (.laload) 1 278 := ⟨by decide +kernel, rfl⟩
theorem a0_278 : AtI code 278 (.lload 9) 2 280 := ⟨by decide +kernel, rfl⟩
theorem a0_280 : AtI code 280 (.lcmp) 1 281 := ⟨by decide +kernel, rfl⟩
theorem a0_281 : AtJ code 281 (.ifCond .ne) 284 308 := ⟨27, by decide +kernel, rfl, by decide, rfl⟩
theorem a0_284 : AtI code 284 (.aload 16) 2 286 := ⟨by decide +kernel, rfl⟩
theorem a0_286 : AtI code 286 (.iconst 1) 1 287 := ⟨by decide +kernel, rfl⟩
theorem a0_287 : AtI code 287 (.laload) 1 288 := ⟨by decide +kernel, rfl⟩
theorem a0_288 : AtI code 288 (.lload 11) 2 290 := ⟨by decide +kernel, rfl⟩
theorem a0_290 : AtI code 290 (.lcmp) 1 291 := ⟨by decide +kernel, rfl⟩
theorem a0_291 : AtJ code 291 (.ifCond .ne) 294 308 := ⟨17, by decide +kernel, rfl, by decide, rfl⟩
theorem a0_294 : AtI code 294 (.aload 16) 2 296 := ⟨by decide +kernel, rfl⟩
theorem a0_296 : AtI code 296 (.iconst 2) 1 297 := ⟨by decide +kernel, rfl⟩
theorem a0_297 : AtI code 297 (.laload) 1 298 := ⟨by decide +kernel, rfl⟩
theorem a0_298 : AtI code 298 (.lload 13) 2 300 := ⟨by decide +kernel, rfl⟩
theorem a0_300 : AtI code 300 (.lcmp) 1 301 := ⟨by decide +kernel, rfl⟩
theorem a0_301 : AtJ code 301 (.ifCond .ne) 304 308 := ⟨7, by decide +kernel, rfl, by decide, rfl⟩
theorem a0_304 : AtI code 304 (.iconst 1) 1 305 := ⟨by decide +kernel, rfl⟩
theorem a0_305 : AtJ code 305 (.goto) 308 309 := ⟨4, by decide +kernel, rfl, by decide, rfl⟩
theorem a0_308 : AtI code 308 (.iconst 0) 1 309 := ⟨by decide +kernel, rfl⟩
theorem a0_309 : AtI code 309 (.istore 25) 2 311 := ⟨by decide +kernel, rfl⟩
theorem a0_311 : AtI code 311 (.iload 24) 2 313 := ⟨by decide +kernel, rfl⟩
theorem a0_313 : AtI code 313 (.iload 23) 2 315 := ⟨by decide +kernel, rfl⟩
theorem a0_315 : AtJ code 315 (.if_icmp .ne) 318 327 := ⟨12, by decide +kernel, rfl, by decide, rfl⟩
theorem a0_318 : AtI code 318 (.iload 25) 2 320 := ⟨by decide +kernel, rfl⟩
theorem a0_320 : AtJ code 320 (.ifCond .eq) 323 327 := ⟨7, by decide +kernel, rfl, by decide, rfl⟩
theorem a0_323 : AtI code 323 (.iconst 1) 1 324 := ⟨by decide +kernel, rfl⟩
theorem a0_324 : AtJ code 324 (.goto) 327 328 := ⟨4, by decide +kernel, rfl, by decide, rfl⟩
theorem a0_327 : AtI code 327 (.iconst 0) 1 328 := ⟨by decide +kernel, rfl⟩
theorem a0_328 : AtI code 328 (.ireturn) 1 329 := ⟨by decide +kernel, rfl⟩
theorem c1 {Z : State} {a0 : Array Value} (hw : ∀ d ∈ tables_1, d.before a0 Z = true) (ρ : Nat → Nat) (n0 : Nat) (k : Int32) (p q r : Int64) (σ : WHp) (u : Nat) : WGo (g1 Z ρ n0 σ.length u) (0, [.val (.int k), .val (.long p), .second, .val (.long q), .second, .val (.long r), .second], [], σ, u) (fun v σ' u' => (∃ z, v = some (.long z)) ∧ σ = σ' ∧ u = u') := by
  refine WGo.s (WStep.iloadN a1_0 rfl) ?_
  refine WGo.ne0 a1_1 (fun h1 => ?_) (fun h1 => ?_)
  · refine WGo.s (WStep.iloadN a1_6 rfl) ?_
    refine WGo.s (WStep.iconst (1 : Int32) a1_7 rfl) ?_
    refine WGo.ne a1_8 (fun h8 => ?_) (fun h8 => ?_)
    · refine WGo.s (WStep.iloadN a1_13 rfl) ?_
      refine WGo.s (WStep.iconst (2 : Int32) a1_14 rfl) ?_
      refine WGo.ne a1_15 (fun h15 => ?_) (fun h15 => ?_)
      · refine WGo.s (WStep.lloadN a1_21 rfl) ?_
        refine WGo.s (WStep.ldc2 a1_22 (wd hw 4 rfl)) ?_
        refine WGo.s (WStep.lxor a1_25) ?_
        refine WGo.lreturn a1_26 rfl ?_
        exact ⟨⟨_, rfl⟩, rfl, rfl⟩
      · refine WGo.s (WStep.lload a1_18 rfl) ?_
        refine WGo.lreturn a1_20 rfl ?_
        exact ⟨⟨_, rfl⟩, rfl, rfl⟩
    · refine WGo.s (WStep.lloadN a1_11 rfl) ?_
      refine WGo.lreturn a1_12 rfl ?_
      exact ⟨⟨_, rfl⟩, rfl, rfl⟩
  · refine WGo.s (WStep.lloadN a1_4 rfl) ?_
    refine WGo.lreturn a1_5 rfl ?_
    exact ⟨⟨_, rfl⟩, rfl, rfl⟩
theorem c2 {Z : State} {a0 : Array Value} (hw : ∀ d ∈ tables_1, d.before a0 Z = true) (ρ : Nat → Nat) (n0 : Nat) (x y : Int32) (σ : WHp) (u : Nat) : WGo (g2 Z ρ n0 σ.length u) (0, [.val (.int x), .val (.int y)], [], σ, u) (fun v σ' u' => v = some (.int (if y < x then y else x)) ∧ σ = σ' ∧ u = u') := by
  refine WGo.s (WStep.iloadN a2_0 rfl) ?_
  refine WGo.s (WStep.iloadN a2_1 rfl) ?_
  refine WGo.gt a2_2 (fun h2 => ?_) (fun h2 => ?_)
  · refine WGo.s (WStep.iloadN a2_9 rfl) ?_
    refine WGo.ireturn .int a2_10 rfl (by simp) ?_
    exact ⟨by first | rw [if_pos h2]; rfl | rw [if_neg h2]; rfl, rfl, rfl⟩
  · refine WGo.s (WStep.iloadN a2_5 rfl) ?_
    refine WGo.s (WStep.goto a2_6) ?_
    refine WGo.ireturn .int a2_10 rfl (by simp) ?_
    exact ⟨by first | rw [if_pos h2]; rfl | rw [if_neg h2]; rfl, rfl, rfl⟩
theorem c3_0000 {Z : State} {a0 : Array Value} (hw : ∀ d ∈ tables_1, d.before a0 Z = true) (ρ : Nat → Nat) (n0 : Nat) (p q r b0 b1 b2 : Int64) (u : Nat) : WGo (g3 Z ρ n0 2 u) (0, [.val (.ref 0), .val (.int 0), .val (.int 0), .val (.ref 1), .val (.int 0), .val (.int 0), .unset, .unset], [], (HA p q r b0 b1 b2), u) (QB (True) (HA p q r b0 b1 b2) u) := by
  refine WGo.s (WStep.iloadN a3_0 rfl) ?_
  refine WGo.s (WStep.iloadN a3_1 rfl) ?_
  refine WGo.s (WStep.isub a3_2) ?_
  show WGo _ (3, [wR 0, wI 0, wI 0, wR 1, wI 0, wI 0, wU, wU], [.int 0], (HA p q r b0 b1 b2), u) _
  refine WGo.s (WStep.istore (L' := [wR 0, wI 0, wI 0, wR 1, wI 0, wI 0, wI 0, wU]) a3_3 rfl) ?_
  refine WGo.s (WStep.iload a3_5 rfl) ?_
  refine WGo.s (WStep.iload a3_7 rfl) ?_
  refine WGo.s (WStep.isub a3_9) ?_
  show WGo _ (10, [wR 0, wI 0, wI 0, wR 1, wI 0, wI 0, wI 0, wU], [.int 0], (HA p q r b0 b1 b2), u) _
  refine WGo.s (WStep.iload a3_10 rfl) ?_
  refine WGo.s (WStep.icmpT a3_12 (by decide)) ?_
  refine WGo.s (WStep.iconst (0 : Int32) a3_17 rfl) ?_
  refine WGo.s (WStep.istore (L' := [wR 0, wI 0, wI 0, wR 1, wI 0, wI 0, wI 0, wI 0]) a3_18 rfl) ?_
  refine WGo.s (WStep.iload a3_20 rfl) ?_
  refine WGo.s (WStep.iload a3_22 rfl) ?_
  refine WGo.s (WStep.icmpT a3_24 (by decide)) ?_
  refine WGo.s (WStep.iconst (1 : Int32) a3_52 rfl) ?_
  refine WGo.ireturn .boolean a3_53 rfl (by simp) ?_
  exact QB.yes (by simp_all)
theorem c3_0001 {Z : State} {a0 : Array Value} (hw : ∀ d ∈ tables_1, d.before a0 Z = true) (ρ : Nat → Nat) (n0 : Nat) (p q r b0 b1 b2 : Int64) (u : Nat) : WGo (g3 Z ρ n0 2 u) (0, [.val (.ref 0), .val (.int 0), .val (.int 0), .val (.ref 1), .val (.int 0), .val (.int 1), .unset, .unset], [], (HA p q r b0 b1 b2), u) (QB (False) (HA p q r b0 b1 b2) u) := by
  refine WGo.s (WStep.iloadN a3_0 rfl) ?_
  refine WGo.s (WStep.iloadN a3_1 rfl) ?_
  refine WGo.s (WStep.isub a3_2) ?_
  show WGo _ (3, [wR 0, wI 0, wI 0, wR 1, wI 0, wI 1, wU, wU], [.int 0], (HA p q r b0 b1 b2), u) _
  refine WGo.s (WStep.istore (L' := [wR 0, wI 0, wI 0, wR 1, wI 0, wI 1, wI 0, wU]) a3_3 rfl) ?_
  refine WGo.s (WStep.iload a3_5 rfl) ?_
  refine WGo.s (WStep.iload a3_7 rfl) ?_
  refine WGo.s (WStep.isub a3_9) ?_
  show WGo _ (10, [wR 0, wI 0, wI 0, wR 1, wI 0, wI 1, wI 0, wU], [.int 1], (HA p q r b0 b1 b2), u) _
  refine WGo.s (WStep.iload a3_10 rfl) ?_
  refine WGo.s (WStep.icmpF a3_12 (by decide)) ?_
  refine WGo.s (WStep.iconst (0 : Int32) a3_15 rfl) ?_
  refine WGo.ireturn .boolean a3_16 rfl (by simp) ?_
  exact QB.no (by simp_all)
theorem c3_0002 {Z : State} {a0 : Array Value} (hw : ∀ d ∈ tables_1, d.before a0 Z = true) (ρ : Nat → Nat) (n0 : Nat) (p q r b0 b1 b2 : Int64) (u : Nat) : WGo (g3 Z ρ n0 2 u) (0, [.val (.ref 0), .val (.int 0), .val (.int 0), .val (.ref 1), .val (.int 0), .val (.int 2), .unset, .unset], [], (HA p q r b0 b1 b2), u) (QB (False) (HA p q r b0 b1 b2) u) := by
  refine WGo.s (WStep.iloadN a3_0 rfl) ?_
  refine WGo.s (WStep.iloadN a3_1 rfl) ?_
  refine WGo.s (WStep.isub a3_2) ?_
  show WGo _ (3, [wR 0, wI 0, wI 0, wR 1, wI 0, wI 2, wU, wU], [.int 0], (HA p q r b0 b1 b2), u) _
  refine WGo.s (WStep.istore (L' := [wR 0, wI 0, wI 0, wR 1, wI 0, wI 2, wI 0, wU]) a3_3 rfl) ?_
  refine WGo.s (WStep.iload a3_5 rfl) ?_
  refine WGo.s (WStep.iload a3_7 rfl) ?_
  refine WGo.s (WStep.isub a3_9) ?_
  show WGo _ (10, [wR 0, wI 0, wI 0, wR 1, wI 0, wI 2, wI 0, wU], [.int 2], (HA p q r b0 b1 b2), u) _
  refine WGo.s (WStep.iload a3_10 rfl) ?_
  refine WGo.s (WStep.icmpF a3_12 (by decide)) ?_
  refine WGo.s (WStep.iconst (0 : Int32) a3_15 rfl) ?_
  refine WGo.ireturn .boolean a3_16 rfl (by simp) ?_
  exact QB.no (by simp_all)
theorem c3_0003 {Z : State} {a0 : Array Value} (hw : ∀ d ∈ tables_1, d.before a0 Z = true) (ρ : Nat → Nat) (n0 : Nat) (p q r b0 b1 b2 : Int64) (u : Nat) : WGo (g3 Z ρ n0 2 u) (0, [.val (.ref 0), .val (.int 0), .val (.int 0), .val (.ref 1), .val (.int 0), .val (.int 3), .unset, .unset], [], (HA p q r b0 b1 b2), u) (QB (False) (HA p q r b0 b1 b2) u) := by
  refine WGo.s (WStep.iloadN a3_0 rfl) ?_
  refine WGo.s (WStep.iloadN a3_1 rfl) ?_
  refine WGo.s (WStep.isub a3_2) ?_
  show WGo _ (3, [wR 0, wI 0, wI 0, wR 1, wI 0, wI 3, wU, wU], [.int 0], (HA p q r b0 b1 b2), u) _
  refine WGo.s (WStep.istore (L' := [wR 0, wI 0, wI 0, wR 1, wI 0, wI 3, wI 0, wU]) a3_3 rfl) ?_
  refine WGo.s (WStep.iload a3_5 rfl) ?_
  refine WGo.s (WStep.iload a3_7 rfl) ?_
  refine WGo.s (WStep.isub a3_9) ?_
  show WGo _ (10, [wR 0, wI 0, wI 0, wR 1, wI 0, wI 3, wI 0, wU], [.int 3], (HA p q r b0 b1 b2), u) _
  refine WGo.s (WStep.iload a3_10 rfl) ?_
  refine WGo.s (WStep.icmpF a3_12 (by decide)) ?_
  refine WGo.s (WStep.iconst (0 : Int32) a3_15 rfl) ?_
  refine WGo.ireturn .boolean a3_16 rfl (by simp) ?_
  exact QB.no (by simp_all)
theorem c3_0011 {Z : State} {a0 : Array Value} (hw : ∀ d ∈ tables_1, d.before a0 Z = true) (ρ : Nat → Nat) (n0 : Nat) (p q r b0 b1 b2 : Int64) (u : Nat) : WGo (g3 Z ρ n0 2 u) (0, [.val (.ref 0), .val (.int 0), .val (.int 0), .val (.ref 1), .val (.int 1), .val (.int 1), .unset, .unset], [], (HA p q r b0 b1 b2), u) (QB (True) (HA p q r b0 b1 b2) u) := by
  refine WGo.s (WStep.iloadN a3_0 rfl) ?_
  refine WGo.s (WStep.iloadN a3_1 rfl) ?_
  refine WGo.s (WStep.isub a3_2) ?_
  show WGo _ (3, [wR 0, wI 0, wI 0, wR 1, wI 1, wI 1, wU, wU], [.int 0], (HA p q r b0 b1 b2), u) _
  refine WGo.s (WStep.istore (L' := [wR 0, wI 0, wI 0, wR 1, wI 1, wI 1, wI 0, wU]) a3_3 rfl) ?_
  refine WGo.s (WStep.iload a3_5 rfl) ?_
  refine WGo.s (WStep.iload a3_7 rfl) ?_
  refine WGo.s (WStep.isub a3_9) ?_
  show WGo _ (10, [wR 0, wI 0, wI 0, wR 1, wI 1, wI 1, wI 0, wU], [.int 0], (HA p q r b0 b1 b2), u) _
  refine WGo.s (WStep.iload a3_10 rfl) ?_
  refine WGo.s (WStep.icmpT a3_12 (by decide)) ?_
  refine WGo.s (WStep.iconst (0 : Int32) a3_17 rfl) ?_
  refine WGo.s (WStep.istore (L' := [wR 0, wI 0, wI 0, wR 1, wI 1, wI 1, wI 0, wI 0]) a3_18 rfl) ?_
  refine WGo.s (WStep.iload a3_20 rfl) ?_
  refine WGo.s (WStep.iload a3_22 rfl) ?_
  refine WGo.s (WStep.icmpT a3_24 (by decide)) ?_
  refine WGo.s (WStep.iconst (1 : Int32) a3_52 rfl) ?_
  refine WGo.ireturn .boolean a3_53 rfl (by simp) ?_
  exact QB.yes (by simp_all)
theorem c3_0012 {Z : State} {a0 : Array Value} (hw : ∀ d ∈ tables_1, d.before a0 Z = true) (ρ : Nat → Nat) (n0 : Nat) (p q r b0 b1 b2 : Int64) (u : Nat) : WGo (g3 Z ρ n0 2 u) (0, [.val (.ref 0), .val (.int 0), .val (.int 0), .val (.ref 1), .val (.int 1), .val (.int 2), .unset, .unset], [], (HA p q r b0 b1 b2), u) (QB (False) (HA p q r b0 b1 b2) u) := by
  refine WGo.s (WStep.iloadN a3_0 rfl) ?_
  refine WGo.s (WStep.iloadN a3_1 rfl) ?_
  refine WGo.s (WStep.isub a3_2) ?_
  show WGo _ (3, [wR 0, wI 0, wI 0, wR 1, wI 1, wI 2, wU, wU], [.int 0], (HA p q r b0 b1 b2), u) _
  refine WGo.s (WStep.istore (L' := [wR 0, wI 0, wI 0, wR 1, wI 1, wI 2, wI 0, wU]) a3_3 rfl) ?_
  refine WGo.s (WStep.iload a3_5 rfl) ?_
  refine WGo.s (WStep.iload a3_7 rfl) ?_
  refine WGo.s (WStep.isub a3_9) ?_
  show WGo _ (10, [wR 0, wI 0, wI 0, wR 1, wI 1, wI 2, wI 0, wU], [.int 1], (HA p q r b0 b1 b2), u) _
  refine WGo.s (WStep.iload a3_10 rfl) ?_
  refine WGo.s (WStep.icmpF a3_12 (by decide)) ?_
  refine WGo.s (WStep.iconst (0 : Int32) a3_15 rfl) ?_
  refine WGo.ireturn .boolean a3_16 rfl (by simp) ?_
  exact QB.no (by simp_all)
theorem c3_0013 {Z : State} {a0 : Array Value} (hw : ∀ d ∈ tables_1, d.before a0 Z = true) (ρ : Nat → Nat) (n0 : Nat) (p q r b0 b1 b2 : Int64) (u : Nat) : WGo (g3 Z ρ n0 2 u) (0, [.val (.ref 0), .val (.int 0), .val (.int 0), .val (.ref 1), .val (.int 1), .val (.int 3), .unset, .unset], [], (HA p q r b0 b1 b2), u) (QB (False) (HA p q r b0 b1 b2) u) := by
  refine WGo.s (WStep.iloadN a3_0 rfl) ?_
  refine WGo.s (WStep.iloadN a3_1 rfl) ?_
  refine WGo.s (WStep.isub a3_2) ?_
  show WGo _ (3, [wR 0, wI 0, wI 0, wR 1, wI 1, wI 3, wU, wU], [.int 0], (HA p q r b0 b1 b2), u) _
  refine WGo.s (WStep.istore (L' := [wR 0, wI 0, wI 0, wR 1, wI 1, wI 3, wI 0, wU]) a3_3 rfl) ?_
  refine WGo.s (WStep.iload a3_5 rfl) ?_
  refine WGo.s (WStep.iload a3_7 rfl) ?_
  refine WGo.s (WStep.isub a3_9) ?_
  show WGo _ (10, [wR 0, wI 0, wI 0, wR 1, wI 1, wI 3, wI 0, wU], [.int 2], (HA p q r b0 b1 b2), u) _
  refine WGo.s (WStep.iload a3_10 rfl) ?_
  refine WGo.s (WStep.icmpF a3_12 (by decide)) ?_
  refine WGo.s (WStep.iconst (0 : Int32) a3_15 rfl) ?_
  refine WGo.ireturn .boolean a3_16 rfl (by simp) ?_
  exact QB.no (by simp_all)
theorem c3_0022 {Z : State} {a0 : Array Value} (hw : ∀ d ∈ tables_1, d.before a0 Z = true) (ρ : Nat → Nat) (n0 : Nat) (p q r b0 b1 b2 : Int64) (u : Nat) : WGo (g3 Z ρ n0 2 u) (0, [.val (.ref 0), .val (.int 0), .val (.int 0), .val (.ref 1), .val (.int 2), .val (.int 2), .unset, .unset], [], (HA p q r b0 b1 b2), u) (QB (True) (HA p q r b0 b1 b2) u) := by
  refine WGo.s (WStep.iloadN a3_0 rfl) ?_
  refine WGo.s (WStep.iloadN a3_1 rfl) ?_
  refine WGo.s (WStep.isub a3_2) ?_
  show WGo _ (3, [wR 0, wI 0, wI 0, wR 1, wI 2, wI 2, wU, wU], [.int 0], (HA p q r b0 b1 b2), u) _
  refine WGo.s (WStep.istore (L' := [wR 0, wI 0, wI 0, wR 1, wI 2, wI 2, wI 0, wU]) a3_3 rfl) ?_
  refine WGo.s (WStep.iload a3_5 rfl) ?_
  refine WGo.s (WStep.iload a3_7 rfl) ?_
  refine WGo.s (WStep.isub a3_9) ?_
  show WGo _ (10, [wR 0, wI 0, wI 0, wR 1, wI 2, wI 2, wI 0, wU], [.int 0], (HA p q r b0 b1 b2), u) _
  refine WGo.s (WStep.iload a3_10 rfl) ?_
  refine WGo.s (WStep.icmpT a3_12 (by decide)) ?_
  refine WGo.s (WStep.iconst (0 : Int32) a3_17 rfl) ?_
  refine WGo.s (WStep.istore (L' := [wR 0, wI 0, wI 0, wR 1, wI 2, wI 2, wI 0, wI 0]) a3_18 rfl) ?_
  refine WGo.s (WStep.iload a3_20 rfl) ?_
  refine WGo.s (WStep.iload a3_22 rfl) ?_
  refine WGo.s (WStep.icmpT a3_24 (by decide)) ?_
  refine WGo.s (WStep.iconst (1 : Int32) a3_52 rfl) ?_
  refine WGo.ireturn .boolean a3_53 rfl (by simp) ?_
  exact QB.yes (by simp_all)
theorem c3_0023 {Z : State} {a0 : Array Value} (hw : ∀ d ∈ tables_1, d.before a0 Z = true) (ρ : Nat → Nat) (n0 : Nat) (p q r b0 b1 b2 : Int64) (u : Nat) : WGo (g3 Z ρ n0 2 u) (0, [.val (.ref 0), .val (.int 0), .val (.int 0), .val (.ref 1), .val (.int 2), .val (.int 3), .unset, .unset], [], (HA p q r b0 b1 b2), u) (QB (False) (HA p q r b0 b1 b2) u) := by
  refine WGo.s (WStep.iloadN a3_0 rfl) ?_
  refine WGo.s (WStep.iloadN a3_1 rfl) ?_
  refine WGo.s (WStep.isub a3_2) ?_
  show WGo _ (3, [wR 0, wI 0, wI 0, wR 1, wI 2, wI 3, wU, wU], [.int 0], (HA p q r b0 b1 b2), u) _
  refine WGo.s (WStep.istore (L' := [wR 0, wI 0, wI 0, wR 1, wI 2, wI 3, wI 0, wU]) a3_3 rfl) ?_
  refine WGo.s (WStep.iload a3_5 rfl) ?_
  refine WGo.s (WStep.iload a3_7 rfl) ?_
  refine WGo.s (WStep.isub a3_9) ?_
  show WGo _ (10, [wR 0, wI 0, wI 0, wR 1, wI 2, wI 3, wI 0, wU], [.int 1], (HA p q r b0 b1 b2), u) _
  refine WGo.s (WStep.iload a3_10 rfl) ?_
  refine WGo.s (WStep.icmpF a3_12 (by decide)) ?_
  refine WGo.s (WStep.iconst (0 : Int32) a3_15 rfl) ?_
  refine WGo.ireturn .boolean a3_16 rfl (by simp) ?_
  exact QB.no (by simp_all)
theorem c3_0033 {Z : State} {a0 : Array Value} (hw : ∀ d ∈ tables_1, d.before a0 Z = true) (ρ : Nat → Nat) (n0 : Nat) (p q r b0 b1 b2 : Int64) (u : Nat) : WGo (g3 Z ρ n0 2 u) (0, [.val (.ref 0), .val (.int 0), .val (.int 0), .val (.ref 1), .val (.int 3), .val (.int 3), .unset, .unset], [], (HA p q r b0 b1 b2), u) (QB (True) (HA p q r b0 b1 b2) u) := by
  refine WGo.s (WStep.iloadN a3_0 rfl) ?_
  refine WGo.s (WStep.iloadN a3_1 rfl) ?_
  refine WGo.s (WStep.isub a3_2) ?_
  show WGo _ (3, [wR 0, wI 0, wI 0, wR 1, wI 3, wI 3, wU, wU], [.int 0], (HA p q r b0 b1 b2), u) _
  refine WGo.s (WStep.istore (L' := [wR 0, wI 0, wI 0, wR 1, wI 3, wI 3, wI 0, wU]) a3_3 rfl) ?_
  refine WGo.s (WStep.iload a3_5 rfl) ?_
  refine WGo.s (WStep.iload a3_7 rfl) ?_
  refine WGo.s (WStep.isub a3_9) ?_
  show WGo _ (10, [wR 0, wI 0, wI 0, wR 1, wI 3, wI 3, wI 0, wU], [.int 0], (HA p q r b0 b1 b2), u) _
  refine WGo.s (WStep.iload a3_10 rfl) ?_
  refine WGo.s (WStep.icmpT a3_12 (by decide)) ?_
  refine WGo.s (WStep.iconst (0 : Int32) a3_17 rfl) ?_
  refine WGo.s (WStep.istore (L' := [wR 0, wI 0, wI 0, wR 1, wI 3, wI 3, wI 0, wI 0]) a3_18 rfl) ?_
  refine WGo.s (WStep.iload a3_20 rfl) ?_
  refine WGo.s (WStep.iload a3_22 rfl) ?_
  refine WGo.s (WStep.icmpT a3_24 (by decide)) ?_
  refine WGo.s (WStep.iconst (1 : Int32) a3_52 rfl) ?_
  refine WGo.ireturn .boolean a3_53 rfl (by simp) ?_
  exact QB.yes (by simp_all)
theorem c3_0100 {Z : State} {a0 : Array Value} (hw : ∀ d ∈ tables_1, d.before a0 Z = true) (ρ : Nat → Nat) (n0 : Nat) (p q r b0 b1 b2 : Int64) (u : Nat) : WGo (g3 Z ρ n0 2 u) (0, [.val (.ref 0), .val (.int 0), .val (.int 1), .val (.ref 1), .val (.int 0), .val (.int 0), .unset, .unset], [], (HA p q r b0 b1 b2), u) (QB (False) (HA p q r b0 b1 b2) u) := by
  refine WGo.s (WStep.iloadN a3_0 rfl) ?_
  refine WGo.s (WStep.iloadN a3_1 rfl) ?_
  refine WGo.s (WStep.isub a3_2) ?_
  show WGo _ (3, [wR 0, wI 0, wI 1, wR 1, wI 0, wI 0, wU, wU], [.int 1], (HA p q r b0 b1 b2), u) _
  refine WGo.s (WStep.istore (L' := [wR 0, wI 0, wI 1, wR 1, wI 0, wI 0, wI 1, wU]) a3_3 rfl) ?_
  refine WGo.s (WStep.iload a3_5 rfl) ?_
  refine WGo.s (WStep.iload a3_7 rfl) ?_
  refine WGo.s (WStep.isub a3_9) ?_
  show WGo _ (10, [wR 0, wI 0, wI 1, wR 1, wI 0, wI 0, wI 1, wU], [.int 0], (HA p q r b0 b1 b2), u) _
  refine WGo.s (WStep.iload a3_10 rfl) ?_
  refine WGo.s (WStep.icmpF a3_12 (by decide)) ?_
  refine WGo.s (WStep.iconst (0 : Int32) a3_15 rfl) ?_
  refine WGo.ireturn .boolean a3_16 rfl (by simp) ?_
  exact QB.no (by simp_all)
theorem c3_0101 {Z : State} {a0 : Array Value} (hw : ∀ d ∈ tables_1, d.before a0 Z = true) (ρ : Nat → Nat) (n0 : Nat) (p q r b0 b1 b2 : Int64) (u : Nat) : WGo (g3 Z ρ n0 2 u) (0, [.val (.ref 0), .val (.int 0), .val (.int 1), .val (.ref 1), .val (.int 0), .val (.int 1), .unset, .unset], [], (HA p q r b0 b1 b2), u) (QB (p = b0) (HA p q r b0 b1 b2) u) := by
  refine WGo.s (WStep.iloadN a3_0 rfl) ?_
  refine WGo.s (WStep.iloadN a3_1 rfl) ?_
  refine WGo.s (WStep.isub a3_2) ?_
  show WGo _ (3, [wR 0, wI 0, wI 1, wR 1, wI 0, wI 1, wU, wU], [.int 1], (HA p q r b0 b1 b2), u) _
  refine WGo.s (WStep.istore (L' := [wR 0, wI 0, wI 1, wR 1, wI 0, wI 1, wI 1, wU]) a3_3 rfl) ?_
  refine WGo.s (WStep.iload a3_5 rfl) ?_
  refine WGo.s (WStep.iload a3_7 rfl) ?_
  refine WGo.s (WStep.isub a3_9) ?_
  show WGo _ (10, [wR 0, wI 0, wI 1, wR 1, wI 0, wI 1, wI 1, wU], [.int 1], (HA p q r b0 b1 b2), u) _
  refine WGo.s (WStep.iload a3_10 rfl) ?_
  refine WGo.s (WStep.icmpT a3_12 (by decide)) ?_
  refine WGo.s (WStep.iconst (0 : Int32) a3_17 rfl) ?_
  refine WGo.s (WStep.istore (L' := [wR 0, wI 0, wI 1, wR 1, wI 0, wI 1, wI 1, wI 0]) a3_18 rfl) ?_
  refine WGo.s (WStep.iload a3_20 rfl) ?_
  refine WGo.s (WStep.iload a3_22 rfl) ?_
  refine WGo.s (WStep.icmpF a3_24 (by decide)) ?_
  refine WGo.s (WStep.aloadN a3_27 rfl rfl) ?_
  refine WGo.s (WStep.iloadN a3_28 rfl) ?_
  refine WGo.s (WStep.iload a3_29 rfl) ?_
  refine WGo.s (WStep.iadd a3_31) ?_
  show WGo _ (32, [wR 0, wI 0, wI 1, wR 1, wI 0, wI 1, wI 1, wI 0], [.int 0, .ref 0], (HA p q r b0 b1 b2), u) _
  refine WGo.s (WStep.laload 0 a3_32 rfl (by decide) rfl rfl) ?_
  refine WGo.s (WStep.aloadN a3_33 rfl rfl) ?_
  refine WGo.s (WStep.iload a3_34 rfl) ?_
  refine WGo.s (WStep.iload a3_36 rfl) ?_
  refine WGo.s (WStep.iadd a3_38) ?_
  show WGo _ (39, [wR 0, wI 0, wI 1, wR 1, wI 0, wI 1, wI 1, wI 0], [.int 0, .ref 1, (.long p)], (HA p q r b0 b1 b2), u) _
  refine WGo.s (WStep.laload 0 a3_39 rfl (by decide) rfl rfl) ?_
  refine WGo.s (WStep.lcmp a3_40) ?_
  refine WGo.eqL a3_41 (fun h41 => ?_) (fun h41 => ?_)
  · refine WGo.s (WStep.iinc (L' := [wR 0, wI 0, wI 1, wR 1, wI 0, wI 1, wI 1, wI 1]) a3_46 rfl rfl) ?_
    refine WGo.s (WStep.goto a3_49) ?_
    refine WGo.s (WStep.iload a3_20 rfl) ?_
    refine WGo.s (WStep.iload a3_22 rfl) ?_
    refine WGo.s (WStep.icmpT a3_24 (by decide)) ?_
    refine WGo.s (WStep.iconst (1 : Int32) a3_52 rfl) ?_
    refine WGo.ireturn .boolean a3_53 rfl (by simp) ?_
    exact QB.yes (by simp_all)
  · refine WGo.s (WStep.iconst (0 : Int32) a3_44 rfl) ?_
    refine WGo.ireturn .boolean a3_45 rfl (by simp) ?_
    exact QB.no (by simp_all)
theorem c3_0102 {Z : State} {a0 : Array Value} (hw : ∀ d ∈ tables_1, d.before a0 Z = true) (ρ : Nat → Nat) (n0 : Nat) (p q r b0 b1 b2 : Int64) (u : Nat) : WGo (g3 Z ρ n0 2 u) (0, [.val (.ref 0), .val (.int 0), .val (.int 1), .val (.ref 1), .val (.int 0), .val (.int 2), .unset, .unset], [], (HA p q r b0 b1 b2), u) (QB (False) (HA p q r b0 b1 b2) u) := by
  refine WGo.s (WStep.iloadN a3_0 rfl) ?_
  refine WGo.s (WStep.iloadN a3_1 rfl) ?_
  refine WGo.s (WStep.isub a3_2) ?_
  show WGo _ (3, [wR 0, wI 0, wI 1, wR 1, wI 0, wI 2, wU, wU], [.int 1], (HA p q r b0 b1 b2), u) _
  refine WGo.s (WStep.istore (L' := [wR 0, wI 0, wI 1, wR 1, wI 0, wI 2, wI 1, wU]) a3_3 rfl) ?_
  refine WGo.s (WStep.iload a3_5 rfl) ?_
  refine WGo.s (WStep.iload a3_7 rfl) ?_
  refine WGo.s (WStep.isub a3_9) ?_
  show WGo _ (10, [wR 0, wI 0, wI 1, wR 1, wI 0, wI 2, wI 1, wU], [.int 2], (HA p q r b0 b1 b2), u) _
  refine WGo.s (WStep.iload a3_10 rfl) ?_
  refine WGo.s (WStep.icmpF a3_12 (by decide)) ?_
  refine WGo.s (WStep.iconst (0 : Int32) a3_15 rfl) ?_
  refine WGo.ireturn .boolean a3_16 rfl (by simp) ?_
  exact QB.no (by simp_all)
theorem c3_0103 {Z : State} {a0 : Array Value} (hw : ∀ d ∈ tables_1, d.before a0 Z = true) (ρ : Nat → Nat) (n0 : Nat) (p q r b0 b1 b2 : Int64) (u : Nat) : WGo (g3 Z ρ n0 2 u) (0, [.val (.ref 0), .val (.int 0), .val (.int 1), .val (.ref 1), .val (.int 0), .val (.int 3), .unset, .unset], [], (HA p q r b0 b1 b2), u) (QB (False) (HA p q r b0 b1 b2) u) := by
  refine WGo.s (WStep.iloadN a3_0 rfl) ?_
  refine WGo.s (WStep.iloadN a3_1 rfl) ?_
  refine WGo.s (WStep.isub a3_2) ?_
  show WGo _ (3, [wR 0, wI 0, wI 1, wR 1, wI 0, wI 3, wU, wU], [.int 1], (HA p q r b0 b1 b2), u) _
  refine WGo.s (WStep.istore (L' := [wR 0, wI 0, wI 1, wR 1, wI 0, wI 3, wI 1, wU]) a3_3 rfl) ?_
  refine WGo.s (WStep.iload a3_5 rfl) ?_
  refine WGo.s (WStep.iload a3_7 rfl) ?_
  refine WGo.s (WStep.isub a3_9) ?_
  show WGo _ (10, [wR 0, wI 0, wI 1, wR 1, wI 0, wI 3, wI 1, wU], [.int 3], (HA p q r b0 b1 b2), u) _
  refine WGo.s (WStep.iload a3_10 rfl) ?_
  refine WGo.s (WStep.icmpF a3_12 (by decide)) ?_
  refine WGo.s (WStep.iconst (0 : Int32) a3_15 rfl) ?_
  refine WGo.ireturn .boolean a3_16 rfl (by simp) ?_
  exact QB.no (by simp_all)
theorem c3_0111 {Z : State} {a0 : Array Value} (hw : ∀ d ∈ tables_1, d.before a0 Z = true) (ρ : Nat → Nat) (n0 : Nat) (p q r b0 b1 b2 : Int64) (u : Nat) : WGo (g3 Z ρ n0 2 u) (0, [.val (.ref 0), .val (.int 0), .val (.int 1), .val (.ref 1), .val (.int 1), .val (.int 1), .unset, .unset], [], (HA p q r b0 b1 b2), u) (QB (False) (HA p q r b0 b1 b2) u) := by
  refine WGo.s (WStep.iloadN a3_0 rfl) ?_
  refine WGo.s (WStep.iloadN a3_1 rfl) ?_
  refine WGo.s (WStep.isub a3_2) ?_
  show WGo _ (3, [wR 0, wI 0, wI 1, wR 1, wI 1, wI 1, wU, wU], [.int 1], (HA p q r b0 b1 b2), u) _
  refine WGo.s (WStep.istore (L' := [wR 0, wI 0, wI 1, wR 1, wI 1, wI 1, wI 1, wU]) a3_3 rfl) ?_
  refine WGo.s (WStep.iload a3_5 rfl) ?_
  refine WGo.s (WStep.iload a3_7 rfl) ?_
  refine WGo.s (WStep.isub a3_9) ?_
  show WGo _ (10, [wR 0, wI 0, wI 1, wR 1, wI 1, wI 1, wI 1, wU], [.int 0], (HA p q r b0 b1 b2), u) _
  refine WGo.s (WStep.iload a3_10 rfl) ?_
  refine WGo.s (WStep.icmpF a3_12 (by decide)) ?_
  refine WGo.s (WStep.iconst (0 : Int32) a3_15 rfl) ?_
  refine WGo.ireturn .boolean a3_16 rfl (by simp) ?_
  exact QB.no (by simp_all)
theorem c3_0112 {Z : State} {a0 : Array Value} (hw : ∀ d ∈ tables_1, d.before a0 Z = true) (ρ : Nat → Nat) (n0 : Nat) (p q r b0 b1 b2 : Int64) (u : Nat) : WGo (g3 Z ρ n0 2 u) (0, [.val (.ref 0), .val (.int 0), .val (.int 1), .val (.ref 1), .val (.int 1), .val (.int 2), .unset, .unset], [], (HA p q r b0 b1 b2), u) (QB (p = b1) (HA p q r b0 b1 b2) u) := by
  refine WGo.s (WStep.iloadN a3_0 rfl) ?_
  refine WGo.s (WStep.iloadN a3_1 rfl) ?_
  refine WGo.s (WStep.isub a3_2) ?_
  show WGo _ (3, [wR 0, wI 0, wI 1, wR 1, wI 1, wI 2, wU, wU], [.int 1], (HA p q r b0 b1 b2), u) _
  refine WGo.s (WStep.istore (L' := [wR 0, wI 0, wI 1, wR 1, wI 1, wI 2, wI 1, wU]) a3_3 rfl) ?_
  refine WGo.s (WStep.iload a3_5 rfl) ?_
  refine WGo.s (WStep.iload a3_7 rfl) ?_
  refine WGo.s (WStep.isub a3_9) ?_
  show WGo _ (10, [wR 0, wI 0, wI 1, wR 1, wI 1, wI 2, wI 1, wU], [.int 1], (HA p q r b0 b1 b2), u) _
  refine WGo.s (WStep.iload a3_10 rfl) ?_
  refine WGo.s (WStep.icmpT a3_12 (by decide)) ?_
  refine WGo.s (WStep.iconst (0 : Int32) a3_17 rfl) ?_
  refine WGo.s (WStep.istore (L' := [wR 0, wI 0, wI 1, wR 1, wI 1, wI 2, wI 1, wI 0]) a3_18 rfl) ?_
  refine WGo.s (WStep.iload a3_20 rfl) ?_
  refine WGo.s (WStep.iload a3_22 rfl) ?_
  refine WGo.s (WStep.icmpF a3_24 (by decide)) ?_
  refine WGo.s (WStep.aloadN a3_27 rfl rfl) ?_
  refine WGo.s (WStep.iloadN a3_28 rfl) ?_
  refine WGo.s (WStep.iload a3_29 rfl) ?_
  refine WGo.s (WStep.iadd a3_31) ?_
  show WGo _ (32, [wR 0, wI 0, wI 1, wR 1, wI 1, wI 2, wI 1, wI 0], [.int 0, .ref 0], (HA p q r b0 b1 b2), u) _
  refine WGo.s (WStep.laload 0 a3_32 rfl (by decide) rfl rfl) ?_
  refine WGo.s (WStep.aloadN a3_33 rfl rfl) ?_
  refine WGo.s (WStep.iload a3_34 rfl) ?_
  refine WGo.s (WStep.iload a3_36 rfl) ?_
  refine WGo.s (WStep.iadd a3_38) ?_
  show WGo _ (39, [wR 0, wI 0, wI 1, wR 1, wI 1, wI 2, wI 1, wI 0], [.int 1, .ref 1, (.long p)], (HA p q r b0 b1 b2), u) _
  refine WGo.s (WStep.laload 1 a3_39 rfl (by decide) rfl rfl) ?_
  refine WGo.s (WStep.lcmp a3_40) ?_
  refine WGo.eqL a3_41 (fun h41 => ?_) (fun h41 => ?_)
  · refine WGo.s (WStep.iinc (L' := [wR 0, wI 0, wI 1, wR 1, wI 1, wI 2, wI 1, wI 1]) a3_46 rfl rfl) ?_
    refine WGo.s (WStep.goto a3_49) ?_
    refine WGo.s (WStep.iload a3_20 rfl) ?_
    refine WGo.s (WStep.iload a3_22 rfl) ?_
    refine WGo.s (WStep.icmpT a3_24 (by decide)) ?_
    refine WGo.s (WStep.iconst (1 : Int32) a3_52 rfl) ?_
    refine WGo.ireturn .boolean a3_53 rfl (by simp) ?_
    exact QB.yes (by simp_all)
  · refine WGo.s (WStep.iconst (0 : Int32) a3_44 rfl) ?_
    refine WGo.ireturn .boolean a3_45 rfl (by simp) ?_
    exact QB.no (by simp_all)
theorem c3_0113 {Z : State} {a0 : Array Value} (hw : ∀ d ∈ tables_1, d.before a0 Z = true) (ρ : Nat → Nat) (n0 : Nat) (p q r b0 b1 b2 : Int64) (u : Nat) : WGo (g3 Z ρ n0 2 u) (0, [.val (.ref 0), .val (.int 0), .val (.int 1), .val (.ref 1), .val (.int 1), .val (.int 3), .unset, .unset], [], (HA p q r b0 b1 b2), u) (QB (False) (HA p q r b0 b1 b2) u) := by
  refine WGo.s (WStep.iloadN a3_0 rfl) ?_
  refine WGo.s (WStep.iloadN a3_1 rfl) ?_
  refine WGo.s (WStep.isub a3_2) ?_
  show WGo _ (3, [wR 0, wI 0, wI 1, wR 1, wI 1, wI 3, wU, wU], [.int 1], (HA p q r b0 b1 b2), u) _
  refine WGo.s (WStep.istore (L' := [wR 0, wI 0, wI 1, wR 1, wI 1, wI 3, wI 1, wU]) a3_3 rfl) ?_
  refine WGo.s (WStep.iload a3_5 rfl) ?_
  refine WGo.s (WStep.iload a3_7 rfl) ?_
  refine WGo.s (WStep.isub a3_9) ?_
  show WGo _ (10, [wR 0, wI 0, wI 1, wR 1, wI 1, wI 3, wI 1, wU], [.int 2], (HA p q r b0 b1 b2), u) _
  refine WGo.s (WStep.iload a3_10 rfl) ?_
  refine WGo.s (WStep.icmpF a3_12 (by decide)) ?_
  refine WGo.s (WStep.iconst (0 : Int32) a3_15 rfl) ?_
  refine WGo.ireturn .boolean a3_16 rfl (by simp) ?_
  exact QB.no (by simp_all)
theorem c3_0122 {Z : State} {a0 : Array Value} (hw : ∀ d ∈ tables_1, d.before a0 Z = true) (ρ : Nat → Nat) (n0 : Nat) (p q r b0 b1 b2 : Int64) (u : Nat) : WGo (g3 Z ρ n0 2 u) (0, [.val (.ref 0), .val (.int 0), .val (.int 1), .val (.ref 1), .val (.int 2), .val (.int 2), .unset, .unset], [], (HA p q r b0 b1 b2), u) (QB (False) (HA p q r b0 b1 b2) u) := by
  refine WGo.s (WStep.iloadN a3_0 rfl) ?_
  refine WGo.s (WStep.iloadN a3_1 rfl) ?_
  refine WGo.s (WStep.isub a3_2) ?_
  show WGo _ (3, [wR 0, wI 0, wI 1, wR 1, wI 2, wI 2, wU, wU], [.int 1], (HA p q r b0 b1 b2), u) _
  refine WGo.s (WStep.istore (L' := [wR 0, wI 0, wI 1, wR 1, wI 2, wI 2, wI 1, wU]) a3_3 rfl) ?_
  refine WGo.s (WStep.iload a3_5 rfl) ?_
  refine WGo.s (WStep.iload a3_7 rfl) ?_
  refine WGo.s (WStep.isub a3_9) ?_
  show WGo _ (10, [wR 0, wI 0, wI 1, wR 1, wI 2, wI 2, wI 1, wU], [.int 0], (HA p q r b0 b1 b2), u) _
  refine WGo.s (WStep.iload a3_10 rfl) ?_
  refine WGo.s (WStep.icmpF a3_12 (by decide)) ?_
  refine WGo.s (WStep.iconst (0 : Int32) a3_15 rfl) ?_
  refine WGo.ireturn .boolean a3_16 rfl (by simp) ?_
  exact QB.no (by simp_all)
theorem c3_0123 {Z : State} {a0 : Array Value} (hw : ∀ d ∈ tables_1, d.before a0 Z = true) (ρ : Nat → Nat) (n0 : Nat) (p q r b0 b1 b2 : Int64) (u : Nat) : WGo (g3 Z ρ n0 2 u) (0, [.val (.ref 0), .val (.int 0), .val (.int 1), .val (.ref 1), .val (.int 2), .val (.int 3), .unset, .unset], [], (HA p q r b0 b1 b2), u) (QB (p = b2) (HA p q r b0 b1 b2) u) := by
  refine WGo.s (WStep.iloadN a3_0 rfl) ?_
  refine WGo.s (WStep.iloadN a3_1 rfl) ?_
  refine WGo.s (WStep.isub a3_2) ?_
  show WGo _ (3, [wR 0, wI 0, wI 1, wR 1, wI 2, wI 3, wU, wU], [.int 1], (HA p q r b0 b1 b2), u) _
  refine WGo.s (WStep.istore (L' := [wR 0, wI 0, wI 1, wR 1, wI 2, wI 3, wI 1, wU]) a3_3 rfl) ?_
  refine WGo.s (WStep.iload a3_5 rfl) ?_
  refine WGo.s (WStep.iload a3_7 rfl) ?_
  refine WGo.s (WStep.isub a3_9) ?_
  show WGo _ (10, [wR 0, wI 0, wI 1, wR 1, wI 2, wI 3, wI 1, wU], [.int 1], (HA p q r b0 b1 b2), u) _
  refine WGo.s (WStep.iload a3_10 rfl) ?_
  refine WGo.s (WStep.icmpT a3_12 (by decide)) ?_
  refine WGo.s (WStep.iconst (0 : Int32) a3_17 rfl) ?_
  refine WGo.s (WStep.istore (L' := [wR 0, wI 0, wI 1, wR 1, wI 2, wI 3, wI 1, wI 0]) a3_18 rfl) ?_
  refine WGo.s (WStep.iload a3_20 rfl) ?_
  refine WGo.s (WStep.iload a3_22 rfl) ?_
  refine WGo.s (WStep.icmpF a3_24 (by decide)) ?_
  refine WGo.s (WStep.aloadN a3_27 rfl rfl) ?_
  refine WGo.s (WStep.iloadN a3_28 rfl) ?_
  refine WGo.s (WStep.iload a3_29 rfl) ?_
  refine WGo.s (WStep.iadd a3_31) ?_
  show WGo _ (32, [wR 0, wI 0, wI 1, wR 1, wI 2, wI 3, wI 1, wI 0], [.int 0, .ref 0], (HA p q r b0 b1 b2), u) _
  refine WGo.s (WStep.laload 0 a3_32 rfl (by decide) rfl rfl) ?_
  refine WGo.s (WStep.aloadN a3_33 rfl rfl) ?_
  refine WGo.s (WStep.iload a3_34 rfl) ?_
  refine WGo.s (WStep.iload a3_36 rfl) ?_
  refine WGo.s (WStep.iadd a3_38) ?_
  show WGo _ (39, [wR 0, wI 0, wI 1, wR 1, wI 2, wI 3, wI 1, wI 0], [.int 2, .ref 1, (.long p)], (HA p q r b0 b1 b2), u) _
  refine WGo.s (WStep.laload 2 a3_39 rfl (by decide) rfl rfl) ?_
  refine WGo.s (WStep.lcmp a3_40) ?_
  refine WGo.eqL a3_41 (fun h41 => ?_) (fun h41 => ?_)
  · refine WGo.s (WStep.iinc (L' := [wR 0, wI 0, wI 1, wR 1, wI 2, wI 3, wI 1, wI 1]) a3_46 rfl rfl) ?_
    refine WGo.s (WStep.goto a3_49) ?_
    refine WGo.s (WStep.iload a3_20 rfl) ?_
    refine WGo.s (WStep.iload a3_22 rfl) ?_
    refine WGo.s (WStep.icmpT a3_24 (by decide)) ?_
    refine WGo.s (WStep.iconst (1 : Int32) a3_52 rfl) ?_
    refine WGo.ireturn .boolean a3_53 rfl (by simp) ?_
    exact QB.yes (by simp_all)
  · refine WGo.s (WStep.iconst (0 : Int32) a3_44 rfl) ?_
    refine WGo.ireturn .boolean a3_45 rfl (by simp) ?_
    exact QB.no (by simp_all)
theorem c3_0133 {Z : State} {a0 : Array Value} (hw : ∀ d ∈ tables_1, d.before a0 Z = true) (ρ : Nat → Nat) (n0 : Nat) (p q r b0 b1 b2 : Int64) (u : Nat) : WGo (g3 Z ρ n0 2 u) (0, [.val (.ref 0), .val (.int 0), .val (.int 1), .val (.ref 1), .val (.int 3), .val (.int 3), .unset, .unset], [], (HA p q r b0 b1 b2), u) (QB (False) (HA p q r b0 b1 b2) u) := by
  refine WGo.s (WStep.iloadN a3_0 rfl) ?_
  refine WGo.s (WStep.iloadN a3_1 rfl) ?_
  refine WGo.s (WStep.isub a3_2) ?_
  show WGo _ (3, [wR 0, wI 0, wI 1, wR 1, wI 3, wI 3, wU, wU], [.int 1], (HA p q r b0 b1 b2), u) _
  refine WGo.s (WStep.istore (L' := [wR 0, wI 0, wI 1, wR 1, wI 3, wI 3, wI 1, wU]) a3_3 rfl) ?_
  refine WGo.s (WStep.iload a3_5 rfl) ?_
  refine WGo.s (WStep.iload a3_7 rfl) ?_
  refine WGo.s (WStep.isub a3_9) ?_
  show WGo _ (10, [wR 0, wI 0, wI 1, wR 1, wI 3, wI 3, wI 1, wU], [.int 0], (HA p q r b0 b1 b2), u) _
  refine WGo.s (WStep.iload a3_10 rfl) ?_
  refine WGo.s (WStep.icmpF a3_12 (by decide)) ?_
  refine WGo.s (WStep.iconst (0 : Int32) a3_15 rfl) ?_
  refine WGo.ireturn .boolean a3_16 rfl (by simp) ?_
  exact QB.no (by simp_all)
theorem c3_0200 {Z : State} {a0 : Array Value} (hw : ∀ d ∈ tables_1, d.before a0 Z = true) (ρ : Nat → Nat) (n0 : Nat) (p q r b0 b1 b2 : Int64) (u : Nat) : WGo (g3 Z ρ n0 2 u) (0, [.val (.ref 0), .val (.int 0), .val (.int 2), .val (.ref 1), .val (.int 0), .val (.int 0), .unset, .unset], [], (HA p q r b0 b1 b2), u) (QB (False) (HA p q r b0 b1 b2) u) := by
  refine WGo.s (WStep.iloadN a3_0 rfl) ?_
  refine WGo.s (WStep.iloadN a3_1 rfl) ?_
  refine WGo.s (WStep.isub a3_2) ?_
  show WGo _ (3, [wR 0, wI 0, wI 2, wR 1, wI 0, wI 0, wU, wU], [.int 2], (HA p q r b0 b1 b2), u) _
  refine WGo.s (WStep.istore (L' := [wR 0, wI 0, wI 2, wR 1, wI 0, wI 0, wI 2, wU]) a3_3 rfl) ?_
  refine WGo.s (WStep.iload a3_5 rfl) ?_
  refine WGo.s (WStep.iload a3_7 rfl) ?_
  refine WGo.s (WStep.isub a3_9) ?_
  show WGo _ (10, [wR 0, wI 0, wI 2, wR 1, wI 0, wI 0, wI 2, wU], [.int 0], (HA p q r b0 b1 b2), u) _
  refine WGo.s (WStep.iload a3_10 rfl) ?_
  refine WGo.s (WStep.icmpF a3_12 (by decide)) ?_
  refine WGo.s (WStep.iconst (0 : Int32) a3_15 rfl) ?_
  refine WGo.ireturn .boolean a3_16 rfl (by simp) ?_
  exact QB.no (by simp_all)
theorem c3_0201 {Z : State} {a0 : Array Value} (hw : ∀ d ∈ tables_1, d.before a0 Z = true) (ρ : Nat → Nat) (n0 : Nat) (p q r b0 b1 b2 : Int64) (u : Nat) : WGo (g3 Z ρ n0 2 u) (0, [.val (.ref 0), .val (.int 0), .val (.int 2), .val (.ref 1), .val (.int 0), .val (.int 1), .unset, .unset], [], (HA p q r b0 b1 b2), u) (QB (False) (HA p q r b0 b1 b2) u) := by
  refine WGo.s (WStep.iloadN a3_0 rfl) ?_
  refine WGo.s (WStep.iloadN a3_1 rfl) ?_
  refine WGo.s (WStep.isub a3_2) ?_
  show WGo _ (3, [wR 0, wI 0, wI 2, wR 1, wI 0, wI 1, wU, wU], [.int 2], (HA p q r b0 b1 b2), u) _
  refine WGo.s (WStep.istore (L' := [wR 0, wI 0, wI 2, wR 1, wI 0, wI 1, wI 2, wU]) a3_3 rfl) ?_
  refine WGo.s (WStep.iload a3_5 rfl) ?_
  refine WGo.s (WStep.iload a3_7 rfl) ?_
  refine WGo.s (WStep.isub a3_9) ?_
  show WGo _ (10, [wR 0, wI 0, wI 2, wR 1, wI 0, wI 1, wI 2, wU], [.int 1], (HA p q r b0 b1 b2), u) _
  refine WGo.s (WStep.iload a3_10 rfl) ?_
  refine WGo.s (WStep.icmpF a3_12 (by decide)) ?_
  refine WGo.s (WStep.iconst (0 : Int32) a3_15 rfl) ?_
  refine WGo.ireturn .boolean a3_16 rfl (by simp) ?_
  exact QB.no (by simp_all)
theorem c3_0202 {Z : State} {a0 : Array Value} (hw : ∀ d ∈ tables_1, d.before a0 Z = true) (ρ : Nat → Nat) (n0 : Nat) (p q r b0 b1 b2 : Int64) (u : Nat) : WGo (g3 Z ρ n0 2 u) (0, [.val (.ref 0), .val (.int 0), .val (.int 2), .val (.ref 1), .val (.int 0), .val (.int 2), .unset, .unset], [], (HA p q r b0 b1 b2), u) (QB (p = b0 ∧ q = b1) (HA p q r b0 b1 b2) u) := by
  refine WGo.s (WStep.iloadN a3_0 rfl) ?_
  refine WGo.s (WStep.iloadN a3_1 rfl) ?_
  refine WGo.s (WStep.isub a3_2) ?_
  show WGo _ (3, [wR 0, wI 0, wI 2, wR 1, wI 0, wI 2, wU, wU], [.int 2], (HA p q r b0 b1 b2), u) _
  refine WGo.s (WStep.istore (L' := [wR 0, wI 0, wI 2, wR 1, wI 0, wI 2, wI 2, wU]) a3_3 rfl) ?_
  refine WGo.s (WStep.iload a3_5 rfl) ?_
  refine WGo.s (WStep.iload a3_7 rfl) ?_
  refine WGo.s (WStep.isub a3_9) ?_
  show WGo _ (10, [wR 0, wI 0, wI 2, wR 1, wI 0, wI 2, wI 2, wU], [.int 2], (HA p q r b0 b1 b2), u) _
  refine WGo.s (WStep.iload a3_10 rfl) ?_
  refine WGo.s (WStep.icmpT a3_12 (by decide)) ?_
  refine WGo.s (WStep.iconst (0 : Int32) a3_17 rfl) ?_
  refine WGo.s (WStep.istore (L' := [wR 0, wI 0, wI 2, wR 1, wI 0, wI 2, wI 2, wI 0]) a3_18 rfl) ?_
  refine WGo.s (WStep.iload a3_20 rfl) ?_
  refine WGo.s (WStep.iload a3_22 rfl) ?_
  refine WGo.s (WStep.icmpF a3_24 (by decide)) ?_
  refine WGo.s (WStep.aloadN a3_27 rfl rfl) ?_
  refine WGo.s (WStep.iloadN a3_28 rfl) ?_
  refine WGo.s (WStep.iload a3_29 rfl) ?_
  refine WGo.s (WStep.iadd a3_31) ?_
  show WGo _ (32, [wR 0, wI 0, wI 2, wR 1, wI 0, wI 2, wI 2, wI 0], [.int 0, .ref 0], (HA p q r b0 b1 b2), u) _
  refine WGo.s (WStep.laload 0 a3_32 rfl (by decide) rfl rfl) ?_
  refine WGo.s (WStep.aloadN a3_33 rfl rfl) ?_
  refine WGo.s (WStep.iload a3_34 rfl) ?_
  refine WGo.s (WStep.iload a3_36 rfl) ?_
  refine WGo.s (WStep.iadd a3_38) ?_
  show WGo _ (39, [wR 0, wI 0, wI 2, wR 1, wI 0, wI 2, wI 2, wI 0], [.int 0, .ref 1, (.long p)], (HA p q r b0 b1 b2), u) _
  refine WGo.s (WStep.laload 0 a3_39 rfl (by decide) rfl rfl) ?_
  refine WGo.s (WStep.lcmp a3_40) ?_
  refine WGo.eqL a3_41 (fun h41 => ?_) (fun h41 => ?_)
  · refine WGo.s (WStep.iinc (L' := [wR 0, wI 0, wI 2, wR 1, wI 0, wI 2, wI 2, wI 1]) a3_46 rfl rfl) ?_
    refine WGo.s (WStep.goto a3_49) ?_
    refine WGo.s (WStep.iload a3_20 rfl) ?_
    refine WGo.s (WStep.iload a3_22 rfl) ?_
    refine WGo.s (WStep.icmpF a3_24 (by decide)) ?_
    refine WGo.s (WStep.aloadN a3_27 rfl rfl) ?_
    refine WGo.s (WStep.iloadN a3_28 rfl) ?_
    refine WGo.s (WStep.iload a3_29 rfl) ?_
    refine WGo.s (WStep.iadd a3_31) ?_
    show WGo _ (32, [wR 0, wI 0, wI 2, wR 1, wI 0, wI 2, wI 2, wI 1], [.int 1, .ref 0], (HA p q r b0 b1 b2), u) _
    refine WGo.s (WStep.laload 1 a3_32 rfl (by decide) rfl rfl) ?_
    refine WGo.s (WStep.aloadN a3_33 rfl rfl) ?_
    refine WGo.s (WStep.iload a3_34 rfl) ?_
    refine WGo.s (WStep.iload a3_36 rfl) ?_
    refine WGo.s (WStep.iadd a3_38) ?_
    show WGo _ (39, [wR 0, wI 0, wI 2, wR 1, wI 0, wI 2, wI 2, wI 1], [.int 1, .ref 1, (.long q)], (HA p q r b0 b1 b2), u) _
    refine WGo.s (WStep.laload 1 a3_39 rfl (by decide) rfl rfl) ?_
    refine WGo.s (WStep.lcmp a3_40) ?_
    refine WGo.eqL a3_41 (fun h41_1 => ?_) (fun h41_1 => ?_)
    · refine WGo.s (WStep.iinc (L' := [wR 0, wI 0, wI 2, wR 1, wI 0, wI 2, wI 2, wI 2]) a3_46 rfl rfl) ?_
      refine WGo.s (WStep.goto a3_49) ?_
      refine WGo.s (WStep.iload a3_20 rfl) ?_
      refine WGo.s (WStep.iload a3_22 rfl) ?_
      refine WGo.s (WStep.icmpT a3_24 (by decide)) ?_
      refine WGo.s (WStep.iconst (1 : Int32) a3_52 rfl) ?_
      refine WGo.ireturn .boolean a3_53 rfl (by simp) ?_
      exact QB.yes (by simp_all)
    · refine WGo.s (WStep.iconst (0 : Int32) a3_44 rfl) ?_
      refine WGo.ireturn .boolean a3_45 rfl (by simp) ?_
      exact QB.no (by simp_all)
  · refine WGo.s (WStep.iconst (0 : Int32) a3_44 rfl) ?_
    refine WGo.ireturn .boolean a3_45 rfl (by simp) ?_
    exact QB.no (by simp_all)
theorem c3_0203 {Z : State} {a0 : Array Value} (hw : ∀ d ∈ tables_1, d.before a0 Z = true) (ρ : Nat → Nat) (n0 : Nat) (p q r b0 b1 b2 : Int64) (u : Nat) : WGo (g3 Z ρ n0 2 u) (0, [.val (.ref 0), .val (.int 0), .val (.int 2), .val (.ref 1), .val (.int 0), .val (.int 3), .unset, .unset], [], (HA p q r b0 b1 b2), u) (QB (False) (HA p q r b0 b1 b2) u) := by
  refine WGo.s (WStep.iloadN a3_0 rfl) ?_
  refine WGo.s (WStep.iloadN a3_1 rfl) ?_
  refine WGo.s (WStep.isub a3_2) ?_
  show WGo _ (3, [wR 0, wI 0, wI 2, wR 1, wI 0, wI 3, wU, wU], [.int 2], (HA p q r b0 b1 b2), u) _
  refine WGo.s (WStep.istore (L' := [wR 0, wI 0, wI 2, wR 1, wI 0, wI 3, wI 2, wU]) a3_3 rfl) ?_
  refine WGo.s (WStep.iload a3_5 rfl) ?_
  refine WGo.s (WStep.iload a3_7 rfl) ?_
  refine WGo.s (WStep.isub a3_9) ?_
  show WGo _ (10, [wR 0, wI 0, wI 2, wR 1, wI 0, wI 3, wI 2, wU], [.int 3], (HA p q r b0 b1 b2), u) _
  refine WGo.s (WStep.iload a3_10 rfl) ?_
  refine WGo.s (WStep.icmpF a3_12 (by decide)) ?_
  refine WGo.s (WStep.iconst (0 : Int32) a3_15 rfl) ?_
  refine WGo.ireturn .boolean a3_16 rfl (by simp) ?_
  exact QB.no (by simp_all)
theorem c3_0211 {Z : State} {a0 : Array Value} (hw : ∀ d ∈ tables_1, d.before a0 Z = true) (ρ : Nat → Nat) (n0 : Nat) (p q r b0 b1 b2 : Int64) (u : Nat) : WGo (g3 Z ρ n0 2 u) (0, [.val (.ref 0), .val (.int 0), .val (.int 2), .val (.ref 1), .val (.int 1), .val (.int 1), .unset, .unset], [], (HA p q r b0 b1 b2), u) (QB (False) (HA p q r b0 b1 b2) u) := by
  refine WGo.s (WStep.iloadN a3_0 rfl) ?_
  refine WGo.s (WStep.iloadN a3_1 rfl) ?_
  refine WGo.s (WStep.isub a3_2) ?_
  show WGo _ (3, [wR 0, wI 0, wI 2, wR 1, wI 1, wI 1, wU, wU], [.int 2], (HA p q r b0 b1 b2), u) _
  refine WGo.s (WStep.istore (L' := [wR 0, wI 0, wI 2, wR 1, wI 1, wI 1, wI 2, wU]) a3_3 rfl) ?_
  refine WGo.s (WStep.iload a3_5 rfl) ?_
  refine WGo.s (WStep.iload a3_7 rfl) ?_
  refine WGo.s (WStep.isub a3_9) ?_
  show WGo _ (10, [wR 0, wI 0, wI 2, wR 1, wI 1, wI 1, wI 2, wU], [.int 0], (HA p q r b0 b1 b2), u) _
  refine WGo.s (WStep.iload a3_10 rfl) ?_
  refine WGo.s (WStep.icmpF a3_12 (by decide)) ?_
  refine WGo.s (WStep.iconst (0 : Int32) a3_15 rfl) ?_
  refine WGo.ireturn .boolean a3_16 rfl (by simp) ?_
  exact QB.no (by simp_all)
theorem c3_0212 {Z : State} {a0 : Array Value} (hw : ∀ d ∈ tables_1, d.before a0 Z = true) (ρ : Nat → Nat) (n0 : Nat) (p q r b0 b1 b2 : Int64) (u : Nat) : WGo (g3 Z ρ n0 2 u) (0, [.val (.ref 0), .val (.int 0), .val (.int 2), .val (.ref 1), .val (.int 1), .val (.int 2), .unset, .unset], [], (HA p q r b0 b1 b2), u) (QB (False) (HA p q r b0 b1 b2) u) := by
  refine WGo.s (WStep.iloadN a3_0 rfl) ?_
  refine WGo.s (WStep.iloadN a3_1 rfl) ?_
  refine WGo.s (WStep.isub a3_2) ?_
  show WGo _ (3, [wR 0, wI 0, wI 2, wR 1, wI 1, wI 2, wU, wU], [.int 2], (HA p q r b0 b1 b2), u) _
  refine WGo.s (WStep.istore (L' := [wR 0, wI 0, wI 2, wR 1, wI 1, wI 2, wI 2, wU]) a3_3 rfl) ?_
  refine WGo.s (WStep.iload a3_5 rfl) ?_
  refine WGo.s (WStep.iload a3_7 rfl) ?_
  refine WGo.s (WStep.isub a3_9) ?_
  show WGo _ (10, [wR 0, wI 0, wI 2, wR 1, wI 1, wI 2, wI 2, wU], [.int 1], (HA p q r b0 b1 b2), u) _
  refine WGo.s (WStep.iload a3_10 rfl) ?_
  refine WGo.s (WStep.icmpF a3_12 (by decide)) ?_
  refine WGo.s (WStep.iconst (0 : Int32) a3_15 rfl) ?_
  refine WGo.ireturn .boolean a3_16 rfl (by simp) ?_
  exact QB.no (by simp_all)
theorem c3_0213 {Z : State} {a0 : Array Value} (hw : ∀ d ∈ tables_1, d.before a0 Z = true) (ρ : Nat → Nat) (n0 : Nat) (p q r b0 b1 b2 : Int64) (u : Nat) : WGo (g3 Z ρ n0 2 u) (0, [.val (.ref 0), .val (.int 0), .val (.int 2), .val (.ref 1), .val (.int 1), .val (.int 3), .unset, .unset], [], (HA p q r b0 b1 b2), u) (QB (p = b1 ∧ q = b2) (HA p q r b0 b1 b2) u) := by
  refine WGo.s (WStep.iloadN a3_0 rfl) ?_
  refine WGo.s (WStep.iloadN a3_1 rfl) ?_
  refine WGo.s (WStep.isub a3_2) ?_
  show WGo _ (3, [wR 0, wI 0, wI 2, wR 1, wI 1, wI 3, wU, wU], [.int 2], (HA p q r b0 b1 b2), u) _
  refine WGo.s (WStep.istore (L' := [wR 0, wI 0, wI 2, wR 1, wI 1, wI 3, wI 2, wU]) a3_3 rfl) ?_
  refine WGo.s (WStep.iload a3_5 rfl) ?_
  refine WGo.s (WStep.iload a3_7 rfl) ?_
  refine WGo.s (WStep.isub a3_9) ?_
  show WGo _ (10, [wR 0, wI 0, wI 2, wR 1, wI 1, wI 3, wI 2, wU], [.int 2], (HA p q r b0 b1 b2), u) _
  refine WGo.s (WStep.iload a3_10 rfl) ?_
  refine WGo.s (WStep.icmpT a3_12 (by decide)) ?_
  refine WGo.s (WStep.iconst (0 : Int32) a3_17 rfl) ?_
  refine WGo.s (WStep.istore (L' := [wR 0, wI 0, wI 2, wR 1, wI 1, wI 3, wI 2, wI 0]) a3_18 rfl) ?_
  refine WGo.s (WStep.iload a3_20 rfl) ?_
  refine WGo.s (WStep.iload a3_22 rfl) ?_
  refine WGo.s (WStep.icmpF a3_24 (by decide)) ?_
  refine WGo.s (WStep.aloadN a3_27 rfl rfl) ?_
  refine WGo.s (WStep.iloadN a3_28 rfl) ?_
  refine WGo.s (WStep.iload a3_29 rfl) ?_
  refine WGo.s (WStep.iadd a3_31) ?_
  show WGo _ (32, [wR 0, wI 0, wI 2, wR 1, wI 1, wI 3, wI 2, wI 0], [.int 0, .ref 0], (HA p q r b0 b1 b2), u) _
  refine WGo.s (WStep.laload 0 a3_32 rfl (by decide) rfl rfl) ?_
  refine WGo.s (WStep.aloadN a3_33 rfl rfl) ?_
  refine WGo.s (WStep.iload a3_34 rfl) ?_
  refine WGo.s (WStep.iload a3_36 rfl) ?_
  refine WGo.s (WStep.iadd a3_38) ?_
  show WGo _ (39, [wR 0, wI 0, wI 2, wR 1, wI 1, wI 3, wI 2, wI 0], [.int 1, .ref 1, (.long p)], (HA p q r b0 b1 b2), u) _
  refine WGo.s (WStep.laload 1 a3_39 rfl (by decide) rfl rfl) ?_
  refine WGo.s (WStep.lcmp a3_40) ?_
  refine WGo.eqL a3_41 (fun h41 => ?_) (fun h41 => ?_)
  · refine WGo.s (WStep.iinc (L' := [wR 0, wI 0, wI 2, wR 1, wI 1, wI 3, wI 2, wI 1]) a3_46 rfl rfl) ?_
    refine WGo.s (WStep.goto a3_49) ?_
    refine WGo.s (WStep.iload a3_20 rfl) ?_
    refine WGo.s (WStep.iload a3_22 rfl) ?_
    refine WGo.s (WStep.icmpF a3_24 (by decide)) ?_
    refine WGo.s (WStep.aloadN a3_27 rfl rfl) ?_
    refine WGo.s (WStep.iloadN a3_28 rfl) ?_
    refine WGo.s (WStep.iload a3_29 rfl) ?_
    refine WGo.s (WStep.iadd a3_31) ?_
    show WGo _ (32, [wR 0, wI 0, wI 2, wR 1, wI 1, wI 3, wI 2, wI 1], [.int 1, .ref 0], (HA p q r b0 b1 b2), u) _
    refine WGo.s (WStep.laload 1 a3_32 rfl (by decide) rfl rfl) ?_
    refine WGo.s (WStep.aloadN a3_33 rfl rfl) ?_
    refine WGo.s (WStep.iload a3_34 rfl) ?_
    refine WGo.s (WStep.iload a3_36 rfl) ?_
    refine WGo.s (WStep.iadd a3_38) ?_
    show WGo _ (39, [wR 0, wI 0, wI 2, wR 1, wI 1, wI 3, wI 2, wI 1], [.int 2, .ref 1, (.long q)], (HA p q r b0 b1 b2), u) _
    refine WGo.s (WStep.laload 2 a3_39 rfl (by decide) rfl rfl) ?_
    refine WGo.s (WStep.lcmp a3_40) ?_
    refine WGo.eqL a3_41 (fun h41_1 => ?_) (fun h41_1 => ?_)
    · refine WGo.s (WStep.iinc (L' := [wR 0, wI 0, wI 2, wR 1, wI 1, wI 3, wI 2, wI 2]) a3_46 rfl rfl) ?_
      refine WGo.s (WStep.goto a3_49) ?_
      refine WGo.s (WStep.iload a3_20 rfl) ?_
      refine WGo.s (WStep.iload a3_22 rfl) ?_
      refine WGo.s (WStep.icmpT a3_24 (by decide)) ?_
      refine WGo.s (WStep.iconst (1 : Int32) a3_52 rfl) ?_
      refine WGo.ireturn .boolean a3_53 rfl (by simp) ?_
      exact QB.yes (by simp_all)
    · refine WGo.s (WStep.iconst (0 : Int32) a3_44 rfl) ?_
      refine WGo.ireturn .boolean a3_45 rfl (by simp) ?_
      exact QB.no (by simp_all)
  · refine WGo.s (WStep.iconst (0 : Int32) a3_44 rfl) ?_
    refine WGo.ireturn .boolean a3_45 rfl (by simp) ?_
    exact QB.no (by simp_all)
theorem c3_0222 {Z : State} {a0 : Array Value} (hw : ∀ d ∈ tables_1, d.before a0 Z = true) (ρ : Nat → Nat) (n0 : Nat) (p q r b0 b1 b2 : Int64) (u : Nat) : WGo (g3 Z ρ n0 2 u) (0, [.val (.ref 0), .val (.int 0), .val (.int 2), .val (.ref 1), .val (.int 2), .val (.int 2), .unset, .unset], [], (HA p q r b0 b1 b2), u) (QB (False) (HA p q r b0 b1 b2) u) := by
  refine WGo.s (WStep.iloadN a3_0 rfl) ?_
  refine WGo.s (WStep.iloadN a3_1 rfl) ?_
  refine WGo.s (WStep.isub a3_2) ?_
  show WGo _ (3, [wR 0, wI 0, wI 2, wR 1, wI 2, wI 2, wU, wU], [.int 2], (HA p q r b0 b1 b2), u) _
  refine WGo.s (WStep.istore (L' := [wR 0, wI 0, wI 2, wR 1, wI 2, wI 2, wI 2, wU]) a3_3 rfl) ?_
  refine WGo.s (WStep.iload a3_5 rfl) ?_
  refine WGo.s (WStep.iload a3_7 rfl) ?_
  refine WGo.s (WStep.isub a3_9) ?_
  show WGo _ (10, [wR 0, wI 0, wI 2, wR 1, wI 2, wI 2, wI 2, wU], [.int 0], (HA p q r b0 b1 b2), u) _
  refine WGo.s (WStep.iload a3_10 rfl) ?_
  refine WGo.s (WStep.icmpF a3_12 (by decide)) ?_
  refine WGo.s (WStep.iconst (0 : Int32) a3_15 rfl) ?_
  refine WGo.ireturn .boolean a3_16 rfl (by simp) ?_
  exact QB.no (by simp_all)
theorem c3_0223 {Z : State} {a0 : Array Value} (hw : ∀ d ∈ tables_1, d.before a0 Z = true) (ρ : Nat → Nat) (n0 : Nat) (p q r b0 b1 b2 : Int64) (u : Nat) : WGo (g3 Z ρ n0 2 u) (0, [.val (.ref 0), .val (.int 0), .val (.int 2), .val (.ref 1), .val (.int 2), .val (.int 3), .unset, .unset], [], (HA p q r b0 b1 b2), u) (QB (False) (HA p q r b0 b1 b2) u) := by
  refine WGo.s (WStep.iloadN a3_0 rfl) ?_
  refine WGo.s (WStep.iloadN a3_1 rfl) ?_
  refine WGo.s (WStep.isub a3_2) ?_
  show WGo _ (3, [wR 0, wI 0, wI 2, wR 1, wI 2, wI 3, wU, wU], [.int 2], (HA p q r b0 b1 b2), u) _
  refine WGo.s (WStep.istore (L' := [wR 0, wI 0, wI 2, wR 1, wI 2, wI 3, wI 2, wU]) a3_3 rfl) ?_
  refine WGo.s (WStep.iload a3_5 rfl) ?_
  refine WGo.s (WStep.iload a3_7 rfl) ?_
  refine WGo.s (WStep.isub a3_9) ?_
  show WGo _ (10, [wR 0, wI 0, wI 2, wR 1, wI 2, wI 3, wI 2, wU], [.int 1], (HA p q r b0 b1 b2), u) _
  refine WGo.s (WStep.iload a3_10 rfl) ?_
  refine WGo.s (WStep.icmpF a3_12 (by decide)) ?_
  refine WGo.s (WStep.iconst (0 : Int32) a3_15 rfl) ?_
  refine WGo.ireturn .boolean a3_16 rfl (by simp) ?_
  exact QB.no (by simp_all)
theorem c3_0233 {Z : State} {a0 : Array Value} (hw : ∀ d ∈ tables_1, d.before a0 Z = true) (ρ : Nat → Nat) (n0 : Nat) (p q r b0 b1 b2 : Int64) (u : Nat) : WGo (g3 Z ρ n0 2 u) (0, [.val (.ref 0), .val (.int 0), .val (.int 2), .val (.ref 1), .val (.int 3), .val (.int 3), .unset, .unset], [], (HA p q r b0 b1 b2), u) (QB (False) (HA p q r b0 b1 b2) u) := by
  refine WGo.s (WStep.iloadN a3_0 rfl) ?_
  refine WGo.s (WStep.iloadN a3_1 rfl) ?_
  refine WGo.s (WStep.isub a3_2) ?_
  show WGo _ (3, [wR 0, wI 0, wI 2, wR 1, wI 3, wI 3, wU, wU], [.int 2], (HA p q r b0 b1 b2), u) _
  refine WGo.s (WStep.istore (L' := [wR 0, wI 0, wI 2, wR 1, wI 3, wI 3, wI 2, wU]) a3_3 rfl) ?_
  refine WGo.s (WStep.iload a3_5 rfl) ?_
  refine WGo.s (WStep.iload a3_7 rfl) ?_
  refine WGo.s (WStep.isub a3_9) ?_
  show WGo _ (10, [wR 0, wI 0, wI 2, wR 1, wI 3, wI 3, wI 2, wU], [.int 0], (HA p q r b0 b1 b2), u) _
  refine WGo.s (WStep.iload a3_10 rfl) ?_
  refine WGo.s (WStep.icmpF a3_12 (by decide)) ?_
  refine WGo.s (WStep.iconst (0 : Int32) a3_15 rfl) ?_
  refine WGo.ireturn .boolean a3_16 rfl (by simp) ?_
  exact QB.no (by simp_all)
theorem c3_0300 {Z : State} {a0 : Array Value} (hw : ∀ d ∈ tables_1, d.before a0 Z = true) (ρ : Nat → Nat) (n0 : Nat) (p q r b0 b1 b2 : Int64) (u : Nat) : WGo (g3 Z ρ n0 2 u) (0, [.val (.ref 0), .val (.int 0), .val (.int 3), .val (.ref 1), .val (.int 0), .val (.int 0), .unset, .unset], [], (HA p q r b0 b1 b2), u) (QB (False) (HA p q r b0 b1 b2) u) := by
  refine WGo.s (WStep.iloadN a3_0 rfl) ?_
  refine WGo.s (WStep.iloadN a3_1 rfl) ?_
  refine WGo.s (WStep.isub a3_2) ?_
  show WGo _ (3, [wR 0, wI 0, wI 3, wR 1, wI 0, wI 0, wU, wU], [.int 3], (HA p q r b0 b1 b2), u) _
  refine WGo.s (WStep.istore (L' := [wR 0, wI 0, wI 3, wR 1, wI 0, wI 0, wI 3, wU]) a3_3 rfl) ?_
  refine WGo.s (WStep.iload a3_5 rfl) ?_
  refine WGo.s (WStep.iload a3_7 rfl) ?_
  refine WGo.s (WStep.isub a3_9) ?_
  show WGo _ (10, [wR 0, wI 0, wI 3, wR 1, wI 0, wI 0, wI 3, wU], [.int 0], (HA p q r b0 b1 b2), u) _
  refine WGo.s (WStep.iload a3_10 rfl) ?_
  refine WGo.s (WStep.icmpF a3_12 (by decide)) ?_
  refine WGo.s (WStep.iconst (0 : Int32) a3_15 rfl) ?_
  refine WGo.ireturn .boolean a3_16 rfl (by simp) ?_
  exact QB.no (by simp_all)
theorem c3_0301 {Z : State} {a0 : Array Value} (hw : ∀ d ∈ tables_1, d.before a0 Z = true) (ρ : Nat → Nat) (n0 : Nat) (p q r b0 b1 b2 : Int64) (u : Nat) : WGo (g3 Z ρ n0 2 u) (0, [.val (.ref 0), .val (.int 0), .val (.int 3), .val (.ref 1), .val (.int 0), .val (.int 1), .unset, .unset], [], (HA p q r b0 b1 b2), u) (QB (False) (HA p q r b0 b1 b2) u) := by
  refine WGo.s (WStep.iloadN a3_0 rfl) ?_
  refine WGo.s (WStep.iloadN a3_1 rfl) ?_
  refine WGo.s (WStep.isub a3_2) ?_
  show WGo _ (3, [wR 0, wI 0, wI 3, wR 1, wI 0, wI 1, wU, wU], [.int 3], (HA p q r b0 b1 b2), u) _
  refine WGo.s (WStep.istore (L' := [wR 0, wI 0, wI 3, wR 1, wI 0, wI 1, wI 3, wU]) a3_3 rfl) ?_
  refine WGo.s (WStep.iload a3_5 rfl) ?_
  refine WGo.s (WStep.iload a3_7 rfl) ?_
  refine WGo.s (WStep.isub a3_9) ?_
  show WGo _ (10, [wR 0, wI 0, wI 3, wR 1, wI 0, wI 1, wI 3, wU], [.int 1], (HA p q r b0 b1 b2), u) _
  refine WGo.s (WStep.iload a3_10 rfl) ?_
  refine WGo.s (WStep.icmpF a3_12 (by decide)) ?_
  refine WGo.s (WStep.iconst (0 : Int32) a3_15 rfl) ?_
  refine WGo.ireturn .boolean a3_16 rfl (by simp) ?_
  exact QB.no (by simp_all)
theorem c3_0302 {Z : State} {a0 : Array Value} (hw : ∀ d ∈ tables_1, d.before a0 Z = true) (ρ : Nat → Nat) (n0 : Nat) (p q r b0 b1 b2 : Int64) (u : Nat) : WGo (g3 Z ρ n0 2 u) (0, [.val (.ref 0), .val (.int 0), .val (.int 3), .val (.ref 1), .val (.int 0), .val (.int 2), .unset, .unset], [], (HA p q r b0 b1 b2), u) (QB (False) (HA p q r b0 b1 b2) u) := by
  refine WGo.s (WStep.iloadN a3_0 rfl) ?_
  refine WGo.s (WStep.iloadN a3_1 rfl) ?_
  refine WGo.s (WStep.isub a3_2) ?_
  show WGo _ (3, [wR 0, wI 0, wI 3, wR 1, wI 0, wI 2, wU, wU], [.int 3], (HA p q r b0 b1 b2), u) _
  refine WGo.s (WStep.istore (L' := [wR 0, wI 0, wI 3, wR 1, wI 0, wI 2, wI 3, wU]) a3_3 rfl) ?_
  refine WGo.s (WStep.iload a3_5 rfl) ?_
  refine WGo.s (WStep.iload a3_7 rfl) ?_
  refine WGo.s (WStep.isub a3_9) ?_
  show WGo _ (10, [wR 0, wI 0, wI 3, wR 1, wI 0, wI 2, wI 3, wU], [.int 2], (HA p q r b0 b1 b2), u) _
  refine WGo.s (WStep.iload a3_10 rfl) ?_
  refine WGo.s (WStep.icmpF a3_12 (by decide)) ?_
  refine WGo.s (WStep.iconst (0 : Int32) a3_15 rfl) ?_
  refine WGo.ireturn .boolean a3_16 rfl (by simp) ?_
  exact QB.no (by simp_all)
theorem c3_0303 {Z : State} {a0 : Array Value} (hw : ∀ d ∈ tables_1, d.before a0 Z = true) (ρ : Nat → Nat) (n0 : Nat) (p q r b0 b1 b2 : Int64) (u : Nat) : WGo (g3 Z ρ n0 2 u) (0, [.val (.ref 0), .val (.int 0), .val (.int 3), .val (.ref 1), .val (.int 0), .val (.int 3), .unset, .unset], [], (HA p q r b0 b1 b2), u) (QB (p = b0 ∧ q = b1 ∧ r = b2) (HA p q r b0 b1 b2) u) := by
  refine WGo.s (WStep.iloadN a3_0 rfl) ?_
  refine WGo.s (WStep.iloadN a3_1 rfl) ?_
  refine WGo.s (WStep.isub a3_2) ?_
  show WGo _ (3, [wR 0, wI 0, wI 3, wR 1, wI 0, wI 3, wU, wU], [.int 3], (HA p q r b0 b1 b2), u) _
  refine WGo.s (WStep.istore (L' := [wR 0, wI 0, wI 3, wR 1, wI 0, wI 3, wI 3, wU]) a3_3 rfl) ?_
  refine WGo.s (WStep.iload a3_5 rfl) ?_
  refine WGo.s (WStep.iload a3_7 rfl) ?_
  refine WGo.s (WStep.isub a3_9) ?_
  show WGo _ (10, [wR 0, wI 0, wI 3, wR 1, wI 0, wI 3, wI 3, wU], [.int 3], (HA p q r b0 b1 b2), u) _
  refine WGo.s (WStep.iload a3_10 rfl) ?_
  refine WGo.s (WStep.icmpT a3_12 (by decide)) ?_
  refine WGo.s (WStep.iconst (0 : Int32) a3_17 rfl) ?_
  refine WGo.s (WStep.istore (L' := [wR 0, wI 0, wI 3, wR 1, wI 0, wI 3, wI 3, wI 0]) a3_18 rfl) ?_
  refine WGo.s (WStep.iload a3_20 rfl) ?_
  refine WGo.s (WStep.iload a3_22 rfl) ?_
  refine WGo.s (WStep.icmpF a3_24 (by decide)) ?_
  refine WGo.s (WStep.aloadN a3_27 rfl rfl) ?_
  refine WGo.s (WStep.iloadN a3_28 rfl) ?_
  refine WGo.s (WStep.iload a3_29 rfl) ?_
  refine WGo.s (WStep.iadd a3_31) ?_
  show WGo _ (32, [wR 0, wI 0, wI 3, wR 1, wI 0, wI 3, wI 3, wI 0], [.int 0, .ref 0], (HA p q r b0 b1 b2), u) _
  refine WGo.s (WStep.laload 0 a3_32 rfl (by decide) rfl rfl) ?_
  refine WGo.s (WStep.aloadN a3_33 rfl rfl) ?_
  refine WGo.s (WStep.iload a3_34 rfl) ?_
  refine WGo.s (WStep.iload a3_36 rfl) ?_
  refine WGo.s (WStep.iadd a3_38) ?_
  show WGo _ (39, [wR 0, wI 0, wI 3, wR 1, wI 0, wI 3, wI 3, wI 0], [.int 0, .ref 1, (.long p)], (HA p q r b0 b1 b2), u) _
  refine WGo.s (WStep.laload 0 a3_39 rfl (by decide) rfl rfl) ?_
  refine WGo.s (WStep.lcmp a3_40) ?_
  refine WGo.eqL a3_41 (fun h41 => ?_) (fun h41 => ?_)
  · refine WGo.s (WStep.iinc (L' := [wR 0, wI 0, wI 3, wR 1, wI 0, wI 3, wI 3, wI 1]) a3_46 rfl rfl) ?_
    refine WGo.s (WStep.goto a3_49) ?_
    refine WGo.s (WStep.iload a3_20 rfl) ?_
    refine WGo.s (WStep.iload a3_22 rfl) ?_
    refine WGo.s (WStep.icmpF a3_24 (by decide)) ?_
    refine WGo.s (WStep.aloadN a3_27 rfl rfl) ?_
    refine WGo.s (WStep.iloadN a3_28 rfl) ?_
    refine WGo.s (WStep.iload a3_29 rfl) ?_
    refine WGo.s (WStep.iadd a3_31) ?_
    show WGo _ (32, [wR 0, wI 0, wI 3, wR 1, wI 0, wI 3, wI 3, wI 1], [.int 1, .ref 0], (HA p q r b0 b1 b2), u) _
    refine WGo.s (WStep.laload 1 a3_32 rfl (by decide) rfl rfl) ?_
    refine WGo.s (WStep.aloadN a3_33 rfl rfl) ?_
    refine WGo.s (WStep.iload a3_34 rfl) ?_
    refine WGo.s (WStep.iload a3_36 rfl) ?_
    refine WGo.s (WStep.iadd a3_38) ?_
    show WGo _ (39, [wR 0, wI 0, wI 3, wR 1, wI 0, wI 3, wI 3, wI 1], [.int 1, .ref 1, (.long q)], (HA p q r b0 b1 b2), u) _
    refine WGo.s (WStep.laload 1 a3_39 rfl (by decide) rfl rfl) ?_
    refine WGo.s (WStep.lcmp a3_40) ?_
    refine WGo.eqL a3_41 (fun h41_1 => ?_) (fun h41_1 => ?_)
    · refine WGo.s (WStep.iinc (L' := [wR 0, wI 0, wI 3, wR 1, wI 0, wI 3, wI 3, wI 2]) a3_46 rfl rfl) ?_
      refine WGo.s (WStep.goto a3_49) ?_
      refine WGo.s (WStep.iload a3_20 rfl) ?_
      refine WGo.s (WStep.iload a3_22 rfl) ?_
      refine WGo.s (WStep.icmpF a3_24 (by decide)) ?_
      refine WGo.s (WStep.aloadN a3_27 rfl rfl) ?_
      refine WGo.s (WStep.iloadN a3_28 rfl) ?_
      refine WGo.s (WStep.iload a3_29 rfl) ?_
      refine WGo.s (WStep.iadd a3_31) ?_
      show WGo _ (32, [wR 0, wI 0, wI 3, wR 1, wI 0, wI 3, wI 3, wI 2], [.int 2, .ref 0], (HA p q r b0 b1 b2), u) _
      refine WGo.s (WStep.laload 2 a3_32 rfl (by decide) rfl rfl) ?_
      refine WGo.s (WStep.aloadN a3_33 rfl rfl) ?_
      refine WGo.s (WStep.iload a3_34 rfl) ?_
      refine WGo.s (WStep.iload a3_36 rfl) ?_
      refine WGo.s (WStep.iadd a3_38) ?_
      show WGo _ (39, [wR 0, wI 0, wI 3, wR 1, wI 0, wI 3, wI 3, wI 2], [.int 2, .ref 1, (.long r)], (HA p q r b0 b1 b2), u) _
      refine WGo.s (WStep.laload 2 a3_39 rfl (by decide) rfl rfl) ?_
      refine WGo.s (WStep.lcmp a3_40) ?_
      refine WGo.eqL a3_41 (fun h41_2 => ?_) (fun h41_2 => ?_)
      · refine WGo.s (WStep.iinc (L' := [wR 0, wI 0, wI 3, wR 1, wI 0, wI 3, wI 3, wI 3]) a3_46 rfl rfl) ?_
        refine WGo.s (WStep.goto a3_49) ?_
        refine WGo.s (WStep.iload a3_20 rfl) ?_
        refine WGo.s (WStep.iload a3_22 rfl) ?_
        refine WGo.s (WStep.icmpT a3_24 (by decide)) ?_
        refine WGo.s (WStep.iconst (1 : Int32) a3_52 rfl) ?_
        refine WGo.ireturn .boolean a3_53 rfl (by simp) ?_
        exact QB.yes (by simp_all)
      · refine WGo.s (WStep.iconst (0 : Int32) a3_44 rfl) ?_
        refine WGo.ireturn .boolean a3_45 rfl (by simp) ?_
        exact QB.no (by simp_all)
    · refine WGo.s (WStep.iconst (0 : Int32) a3_44 rfl) ?_
      refine WGo.ireturn .boolean a3_45 rfl (by simp) ?_
      exact QB.no (by simp_all)
  · refine WGo.s (WStep.iconst (0 : Int32) a3_44 rfl) ?_
    refine WGo.ireturn .boolean a3_45 rfl (by simp) ?_
    exact QB.no (by simp_all)
theorem c3_0311 {Z : State} {a0 : Array Value} (hw : ∀ d ∈ tables_1, d.before a0 Z = true) (ρ : Nat → Nat) (n0 : Nat) (p q r b0 b1 b2 : Int64) (u : Nat) : WGo (g3 Z ρ n0 2 u) (0, [.val (.ref 0), .val (.int 0), .val (.int 3), .val (.ref 1), .val (.int 1), .val (.int 1), .unset, .unset], [], (HA p q r b0 b1 b2), u) (QB (False) (HA p q r b0 b1 b2) u) := by
  refine WGo.s (WStep.iloadN a3_0 rfl) ?_
  refine WGo.s (WStep.iloadN a3_1 rfl) ?_
  refine WGo.s (WStep.isub a3_2) ?_
  show WGo _ (3, [wR 0, wI 0, wI 3, wR 1, wI 1, wI 1, wU, wU], [.int 3], (HA p q r b0 b1 b2), u) _
  refine WGo.s (WStep.istore (L' := [wR 0, wI 0, wI 3, wR 1, wI 1, wI 1, wI 3, wU]) a3_3 rfl) ?_
  refine WGo.s (WStep.iload a3_5 rfl) ?_
  refine WGo.s (WStep.iload a3_7 rfl) ?_
  refine WGo.s (WStep.isub a3_9) ?_
  show WGo _ (10, [wR 0, wI 0, wI 3, wR 1, wI 1, wI 1, wI 3, wU], [.int 0], (HA p q r b0 b1 b2), u) _
  refine WGo.s (WStep.iload a3_10 rfl) ?_
  refine WGo.s (WStep.icmpF a3_12 (by decide)) ?_
  refine WGo.s (WStep.iconst (0 : Int32) a3_15 rfl) ?_
  refine WGo.ireturn .boolean a3_16 rfl (by simp) ?_
  exact QB.no (by simp_all)
theorem c3_0312 {Z : State} {a0 : Array Value} (hw : ∀ d ∈ tables_1, d.before a0 Z = true) (ρ : Nat → Nat) (n0 : Nat) (p q r b0 b1 b2 : Int64) (u : Nat) : WGo (g3 Z ρ n0 2 u) (0, [.val (.ref 0), .val (.int 0), .val (.int 3), .val (.ref 1), .val (.int 1), .val (.int 2), .unset, .unset], [], (HA p q r b0 b1 b2), u) (QB (False) (HA p q r b0 b1 b2) u) := by
  refine WGo.s (WStep.iloadN a3_0 rfl) ?_
  refine WGo.s (WStep.iloadN a3_1 rfl) ?_
  refine WGo.s (WStep.isub a3_2) ?_
  show WGo _ (3, [wR 0, wI 0, wI 3, wR 1, wI 1, wI 2, wU, wU], [.int 3], (HA p q r b0 b1 b2), u) _
  refine WGo.s (WStep.istore (L' := [wR 0, wI 0, wI 3, wR 1, wI 1, wI 2, wI 3, wU]) a3_3 rfl) ?_
  refine WGo.s (WStep.iload a3_5 rfl) ?_
  refine WGo.s (WStep.iload a3_7 rfl) ?_
  refine WGo.s (WStep.isub a3_9) ?_
  show WGo _ (10, [wR 0, wI 0, wI 3, wR 1, wI 1, wI 2, wI 3, wU], [.int 1], (HA p q r b0 b1 b2), u) _
  refine WGo.s (WStep.iload a3_10 rfl) ?_
  refine WGo.s (WStep.icmpF a3_12 (by decide)) ?_
  refine WGo.s (WStep.iconst (0 : Int32) a3_15 rfl) ?_
  refine WGo.ireturn .boolean a3_16 rfl (by simp) ?_
  exact QB.no (by simp_all)
theorem c3_0313 {Z : State} {a0 : Array Value} (hw : ∀ d ∈ tables_1, d.before a0 Z = true) (ρ : Nat → Nat) (n0 : Nat) (p q r b0 b1 b2 : Int64) (u : Nat) : WGo (g3 Z ρ n0 2 u) (0, [.val (.ref 0), .val (.int 0), .val (.int 3), .val (.ref 1), .val (.int 1), .val (.int 3), .unset, .unset], [], (HA p q r b0 b1 b2), u) (QB (False) (HA p q r b0 b1 b2) u) := by
  refine WGo.s (WStep.iloadN a3_0 rfl) ?_
  refine WGo.s (WStep.iloadN a3_1 rfl) ?_
  refine WGo.s (WStep.isub a3_2) ?_
  show WGo _ (3, [wR 0, wI 0, wI 3, wR 1, wI 1, wI 3, wU, wU], [.int 3], (HA p q r b0 b1 b2), u) _
  refine WGo.s (WStep.istore (L' := [wR 0, wI 0, wI 3, wR 1, wI 1, wI 3, wI 3, wU]) a3_3 rfl) ?_
  refine WGo.s (WStep.iload a3_5 rfl) ?_
  refine WGo.s (WStep.iload a3_7 rfl) ?_
  refine WGo.s (WStep.isub a3_9) ?_
  show WGo _ (10, [wR 0, wI 0, wI 3, wR 1, wI 1, wI 3, wI 3, wU], [.int 2], (HA p q r b0 b1 b2), u) _
  refine WGo.s (WStep.iload a3_10 rfl) ?_
  refine WGo.s (WStep.icmpF a3_12 (by decide)) ?_
  refine WGo.s (WStep.iconst (0 : Int32) a3_15 rfl) ?_
  refine WGo.ireturn .boolean a3_16 rfl (by simp) ?_
  exact QB.no (by simp_all)
theorem c3_0322 {Z : State} {a0 : Array Value} (hw : ∀ d ∈ tables_1, d.before a0 Z = true) (ρ : Nat → Nat) (n0 : Nat) (p q r b0 b1 b2 : Int64) (u : Nat) : WGo (g3 Z ρ n0 2 u) (0, [.val (.ref 0), .val (.int 0), .val (.int 3), .val (.ref 1), .val (.int 2), .val (.int 2), .unset, .unset], [], (HA p q r b0 b1 b2), u) (QB (False) (HA p q r b0 b1 b2) u) := by
  refine WGo.s (WStep.iloadN a3_0 rfl) ?_
  refine WGo.s (WStep.iloadN a3_1 rfl) ?_
  refine WGo.s (WStep.isub a3_2) ?_
  show WGo _ (3, [wR 0, wI 0, wI 3, wR 1, wI 2, wI 2, wU, wU], [.int 3], (HA p q r b0 b1 b2), u) _
  refine WGo.s (WStep.istore (L' := [wR 0, wI 0, wI 3, wR 1, wI 2, wI 2, wI 3, wU]) a3_3 rfl) ?_
  refine WGo.s (WStep.iload a3_5 rfl) ?_
  refine WGo.s (WStep.iload a3_7 rfl) ?_
  refine WGo.s (WStep.isub a3_9) ?_
  show WGo _ (10, [wR 0, wI 0, wI 3, wR 1, wI 2, wI 2, wI 3, wU], [.int 0], (HA p q r b0 b1 b2), u) _
  refine WGo.s (WStep.iload a3_10 rfl) ?_
  refine WGo.s (WStep.icmpF a3_12 (by decide)) ?_
  refine WGo.s (WStep.iconst (0 : Int32) a3_15 rfl) ?_
  refine WGo.ireturn .boolean a3_16 rfl (by simp) ?_
  exact QB.no (by simp_all)
theorem c3_0323 {Z : State} {a0 : Array Value} (hw : ∀ d ∈ tables_1, d.before a0 Z = true) (ρ : Nat → Nat) (n0 : Nat) (p q r b0 b1 b2 : Int64) (u : Nat) : WGo (g3 Z ρ n0 2 u) (0, [.val (.ref 0), .val (.int 0), .val (.int 3), .val (.ref 1), .val (.int 2), .val (.int 3), .unset, .unset], [], (HA p q r b0 b1 b2), u) (QB (False) (HA p q r b0 b1 b2) u) := by
  refine WGo.s (WStep.iloadN a3_0 rfl) ?_
  refine WGo.s (WStep.iloadN a3_1 rfl) ?_
  refine WGo.s (WStep.isub a3_2) ?_
  show WGo _ (3, [wR 0, wI 0, wI 3, wR 1, wI 2, wI 3, wU, wU], [.int 3], (HA p q r b0 b1 b2), u) _
  refine WGo.s (WStep.istore (L' := [wR 0, wI 0, wI 3, wR 1, wI 2, wI 3, wI 3, wU]) a3_3 rfl) ?_
  refine WGo.s (WStep.iload a3_5 rfl) ?_
  refine WGo.s (WStep.iload a3_7 rfl) ?_
  refine WGo.s (WStep.isub a3_9) ?_
  show WGo _ (10, [wR 0, wI 0, wI 3, wR 1, wI 2, wI 3, wI 3, wU], [.int 1], (HA p q r b0 b1 b2), u) _
  refine WGo.s (WStep.iload a3_10 rfl) ?_
  refine WGo.s (WStep.icmpF a3_12 (by decide)) ?_
  refine WGo.s (WStep.iconst (0 : Int32) a3_15 rfl) ?_
  refine WGo.ireturn .boolean a3_16 rfl (by simp) ?_
  exact QB.no (by simp_all)
theorem c3_0333 {Z : State} {a0 : Array Value} (hw : ∀ d ∈ tables_1, d.before a0 Z = true) (ρ : Nat → Nat) (n0 : Nat) (p q r b0 b1 b2 : Int64) (u : Nat) : WGo (g3 Z ρ n0 2 u) (0, [.val (.ref 0), .val (.int 0), .val (.int 3), .val (.ref 1), .val (.int 3), .val (.int 3), .unset, .unset], [], (HA p q r b0 b1 b2), u) (QB (False) (HA p q r b0 b1 b2) u) := by
  refine WGo.s (WStep.iloadN a3_0 rfl) ?_
  refine WGo.s (WStep.iloadN a3_1 rfl) ?_
  refine WGo.s (WStep.isub a3_2) ?_
  show WGo _ (3, [wR 0, wI 0, wI 3, wR 1, wI 3, wI 3, wU, wU], [.int 3], (HA p q r b0 b1 b2), u) _
  refine WGo.s (WStep.istore (L' := [wR 0, wI 0, wI 3, wR 1, wI 3, wI 3, wI 3, wU]) a3_3 rfl) ?_
  refine WGo.s (WStep.iload a3_5 rfl) ?_
  refine WGo.s (WStep.iload a3_7 rfl) ?_
  refine WGo.s (WStep.isub a3_9) ?_
  show WGo _ (10, [wR 0, wI 0, wI 3, wR 1, wI 3, wI 3, wI 3, wU], [.int 0], (HA p q r b0 b1 b2), u) _
  refine WGo.s (WStep.iload a3_10 rfl) ?_
  refine WGo.s (WStep.icmpF a3_12 (by decide)) ?_
  refine WGo.s (WStep.iconst (0 : Int32) a3_15 rfl) ?_
  refine WGo.ireturn .boolean a3_16 rfl (by simp) ?_
  exact QB.no (by simp_all)
theorem c3_1100 {Z : State} {a0 : Array Value} (hw : ∀ d ∈ tables_1, d.before a0 Z = true) (ρ : Nat → Nat) (n0 : Nat) (p q r b0 b1 b2 : Int64) (u : Nat) : WGo (g3 Z ρ n0 2 u) (0, [.val (.ref 0), .val (.int 1), .val (.int 1), .val (.ref 1), .val (.int 0), .val (.int 0), .unset, .unset], [], (HA p q r b0 b1 b2), u) (QB (True) (HA p q r b0 b1 b2) u) := by
  refine WGo.s (WStep.iloadN a3_0 rfl) ?_
  refine WGo.s (WStep.iloadN a3_1 rfl) ?_
  refine WGo.s (WStep.isub a3_2) ?_
  show WGo _ (3, [wR 0, wI 1, wI 1, wR 1, wI 0, wI 0, wU, wU], [.int 0], (HA p q r b0 b1 b2), u) _
  refine WGo.s (WStep.istore (L' := [wR 0, wI 1, wI 1, wR 1, wI 0, wI 0, wI 0, wU]) a3_3 rfl) ?_
  refine WGo.s (WStep.iload a3_5 rfl) ?_
  refine WGo.s (WStep.iload a3_7 rfl) ?_
  refine WGo.s (WStep.isub a3_9) ?_
  show WGo _ (10, [wR 0, wI 1, wI 1, wR 1, wI 0, wI 0, wI 0, wU], [.int 0], (HA p q r b0 b1 b2), u) _
  refine WGo.s (WStep.iload a3_10 rfl) ?_
  refine WGo.s (WStep.icmpT a3_12 (by decide)) ?_
  refine WGo.s (WStep.iconst (0 : Int32) a3_17 rfl) ?_
  refine WGo.s (WStep.istore (L' := [wR 0, wI 1, wI 1, wR 1, wI 0, wI 0, wI 0, wI 0]) a3_18 rfl) ?_
  refine WGo.s (WStep.iload a3_20 rfl) ?_
  refine WGo.s (WStep.iload a3_22 rfl) ?_
  refine WGo.s (WStep.icmpT a3_24 (by decide)) ?_
  refine WGo.s (WStep.iconst (1 : Int32) a3_52 rfl) ?_
  refine WGo.ireturn .boolean a3_53 rfl (by simp) ?_
  exact QB.yes (by simp_all)
theorem c3_1101 {Z : State} {a0 : Array Value} (hw : ∀ d ∈ tables_1, d.before a0 Z = true) (ρ : Nat → Nat) (n0 : Nat) (p q r b0 b1 b2 : Int64) (u : Nat) : WGo (g3 Z ρ n0 2 u) (0, [.val (.ref 0), .val (.int 1), .val (.int 1), .val (.ref 1), .val (.int 0), .val (.int 1), .unset, .unset], [], (HA p q r b0 b1 b2), u) (QB (False) (HA p q r b0 b1 b2) u) := by
  refine WGo.s (WStep.iloadN a3_0 rfl) ?_
  refine WGo.s (WStep.iloadN a3_1 rfl) ?_
  refine WGo.s (WStep.isub a3_2) ?_
  show WGo _ (3, [wR 0, wI 1, wI 1, wR 1, wI 0, wI 1, wU, wU], [.int 0], (HA p q r b0 b1 b2), u) _
  refine WGo.s (WStep.istore (L' := [wR 0, wI 1, wI 1, wR 1, wI 0, wI 1, wI 0, wU]) a3_3 rfl) ?_
  refine WGo.s (WStep.iload a3_5 rfl) ?_
  refine WGo.s (WStep.iload a3_7 rfl) ?_
  refine WGo.s (WStep.isub a3_9) ?_
  show WGo _ (10, [wR 0, wI 1, wI 1, wR 1, wI 0, wI 1, wI 0, wU], [.int 1], (HA p q r b0 b1 b2), u) _
  refine WGo.s (WStep.iload a3_10 rfl) ?_
  refine WGo.s (WStep.icmpF a3_12 (by decide)) ?_
  refine WGo.s (WStep.iconst (0 : Int32) a3_15 rfl) ?_
  refine WGo.ireturn .boolean a3_16 rfl (by simp) ?_
  exact QB.no (by simp_all)
theorem c3_1102 {Z : State} {a0 : Array Value} (hw : ∀ d ∈ tables_1, d.before a0 Z = true) (ρ : Nat → Nat) (n0 : Nat) (p q r b0 b1 b2 : Int64) (u : Nat) : WGo (g3 Z ρ n0 2 u) (0, [.val (.ref 0), .val (.int 1), .val (.int 1), .val (.ref 1), .val (.int 0), .val (.int 2), .unset, .unset], [], (HA p q r b0 b1 b2), u) (QB (False) (HA p q r b0 b1 b2) u) := by
  refine WGo.s (WStep.iloadN a3_0 rfl) ?_
  refine WGo.s (WStep.iloadN a3_1 rfl) ?_
  refine WGo.s (WStep.isub a3_2) ?_
  show WGo _ (3, [wR 0, wI 1, wI 1, wR 1, wI 0, wI 2, wU, wU], [.int 0], (HA p q r b0 b1 b2), u) _
  refine WGo.s (WStep.istore (L' := [wR 0, wI 1, wI 1, wR 1, wI 0, wI 2, wI 0, wU]) a3_3 rfl) ?_
  refine WGo.s (WStep.iload a3_5 rfl) ?_
  refine WGo.s (WStep.iload a3_7 rfl) ?_
  refine WGo.s (WStep.isub a3_9) ?_
  show WGo _ (10, [wR 0, wI 1, wI 1, wR 1, wI 0, wI 2, wI 0, wU], [.int 2], (HA p q r b0 b1 b2), u) _
  refine WGo.s (WStep.iload a3_10 rfl) ?_
  refine WGo.s (WStep.icmpF a3_12 (by decide)) ?_
  refine WGo.s (WStep.iconst (0 : Int32) a3_15 rfl) ?_
  refine WGo.ireturn .boolean a3_16 rfl (by simp) ?_
  exact QB.no (by simp_all)
theorem c3_1103 {Z : State} {a0 : Array Value} (hw : ∀ d ∈ tables_1, d.before a0 Z = true) (ρ : Nat → Nat) (n0 : Nat) (p q r b0 b1 b2 : Int64) (u : Nat) : WGo (g3 Z ρ n0 2 u) (0, [.val (.ref 0), .val (.int 1), .val (.int 1), .val (.ref 1), .val (.int 0), .val (.int 3), .unset, .unset], [], (HA p q r b0 b1 b2), u) (QB (False) (HA p q r b0 b1 b2) u) := by
  refine WGo.s (WStep.iloadN a3_0 rfl) ?_
  refine WGo.s (WStep.iloadN a3_1 rfl) ?_
  refine WGo.s (WStep.isub a3_2) ?_
  show WGo _ (3, [wR 0, wI 1, wI 1, wR 1, wI 0, wI 3, wU, wU], [.int 0], (HA p q r b0 b1 b2), u) _
  refine WGo.s (WStep.istore (L' := [wR 0, wI 1, wI 1, wR 1, wI 0, wI 3, wI 0, wU]) a3_3 rfl) ?_
  refine WGo.s (WStep.iload a3_5 rfl) ?_
  refine WGo.s (WStep.iload a3_7 rfl) ?_
  refine WGo.s (WStep.isub a3_9) ?_
  show WGo _ (10, [wR 0, wI 1, wI 1, wR 1, wI 0, wI 3, wI 0, wU], [.int 3], (HA p q r b0 b1 b2), u) _
  refine WGo.s (WStep.iload a3_10 rfl) ?_
  refine WGo.s (WStep.icmpF a3_12 (by decide)) ?_
  refine WGo.s (WStep.iconst (0 : Int32) a3_15 rfl) ?_
  refine WGo.ireturn .boolean a3_16 rfl (by simp) ?_
  exact QB.no (by simp_all)
theorem c3_1111 {Z : State} {a0 : Array Value} (hw : ∀ d ∈ tables_1, d.before a0 Z = true) (ρ : Nat → Nat) (n0 : Nat) (p q r b0 b1 b2 : Int64) (u : Nat) : WGo (g3 Z ρ n0 2 u) (0, [.val (.ref 0), .val (.int 1), .val (.int 1), .val (.ref 1), .val (.int 1), .val (.int 1), .unset, .unset], [], (HA p q r b0 b1 b2), u) (QB (True) (HA p q r b0 b1 b2) u) := by
  refine WGo.s (WStep.iloadN a3_0 rfl) ?_
  refine WGo.s (WStep.iloadN a3_1 rfl) ?_
  refine WGo.s (WStep.isub a3_2) ?_
  show WGo _ (3, [wR 0, wI 1, wI 1, wR 1, wI 1, wI 1, wU, wU], [.int 0], (HA p q r b0 b1 b2), u) _
  refine WGo.s (WStep.istore (L' := [wR 0, wI 1, wI 1, wR 1, wI 1, wI 1, wI 0, wU]) a3_3 rfl) ?_
  refine WGo.s (WStep.iload a3_5 rfl) ?_
  refine WGo.s (WStep.iload a3_7 rfl) ?_
  refine WGo.s (WStep.isub a3_9) ?_
  show WGo _ (10, [wR 0, wI 1, wI 1, wR 1, wI 1, wI 1, wI 0, wU], [.int 0], (HA p q r b0 b1 b2), u) _
  refine WGo.s (WStep.iload a3_10 rfl) ?_
  refine WGo.s (WStep.icmpT a3_12 (by decide)) ?_
  refine WGo.s (WStep.iconst (0 : Int32) a3_17 rfl) ?_
  refine WGo.s (WStep.istore (L' := [wR 0, wI 1, wI 1, wR 1, wI 1, wI 1, wI 0, wI 0]) a3_18 rfl) ?_
  refine WGo.s (WStep.iload a3_20 rfl) ?_
  refine WGo.s (WStep.iload a3_22 rfl) ?_
  refine WGo.s (WStep.icmpT a3_24 (by decide)) ?_
  refine WGo.s (WStep.iconst (1 : Int32) a3_52 rfl) ?_
  refine WGo.ireturn .boolean a3_53 rfl (by simp) ?_
  exact QB.yes (by simp_all)
theorem c3_1112 {Z : State} {a0 : Array Value} (hw : ∀ d ∈ tables_1, d.before a0 Z = true) (ρ : Nat → Nat) (n0 : Nat) (p q r b0 b1 b2 : Int64) (u : Nat) : WGo (g3 Z ρ n0 2 u) (0, [.val (.ref 0), .val (.int 1), .val (.int 1), .val (.ref 1), .val (.int 1), .val (.int 2), .unset, .unset], [], (HA p q r b0 b1 b2), u) (QB (False) (HA p q r b0 b1 b2) u) := by
  refine WGo.s (WStep.iloadN a3_0 rfl) ?_
  refine WGo.s (WStep.iloadN a3_1 rfl) ?_
  refine WGo.s (WStep.isub a3_2) ?_
  show WGo _ (3, [wR 0, wI 1, wI 1, wR 1, wI 1, wI 2, wU, wU], [.int 0], (HA p q r b0 b1 b2), u) _
  refine WGo.s (WStep.istore (L' := [wR 0, wI 1, wI 1, wR 1, wI 1, wI 2, wI 0, wU]) a3_3 rfl) ?_
  refine WGo.s (WStep.iload a3_5 rfl) ?_
  refine WGo.s (WStep.iload a3_7 rfl) ?_
  refine WGo.s (WStep.isub a3_9) ?_
  show WGo _ (10, [wR 0, wI 1, wI 1, wR 1, wI 1, wI 2, wI 0, wU], [.int 1], (HA p q r b0 b1 b2), u) _
  refine WGo.s (WStep.iload a3_10 rfl) ?_
  refine WGo.s (WStep.icmpF a3_12 (by decide)) ?_
  refine WGo.s (WStep.iconst (0 : Int32) a3_15 rfl) ?_
  refine WGo.ireturn .boolean a3_16 rfl (by simp) ?_
  exact QB.no (by simp_all)
theorem c3_1113 {Z : State} {a0 : Array Value} (hw : ∀ d ∈ tables_1, d.before a0 Z = true) (ρ : Nat → Nat) (n0 : Nat) (p q r b0 b1 b2 : Int64) (u : Nat) : WGo (g3 Z ρ n0 2 u) (0, [.val (.ref 0), .val (.int 1), .val (.int 1), .val (.ref 1), .val (.int 1), .val (.int 3), .unset, .unset], [], (HA p q r b0 b1 b2), u) (QB (False) (HA p q r b0 b1 b2) u) := by
  refine WGo.s (WStep.iloadN a3_0 rfl) ?_
  refine WGo.s (WStep.iloadN a3_1 rfl) ?_
  refine WGo.s (WStep.isub a3_2) ?_
  show WGo _ (3, [wR 0, wI 1, wI 1, wR 1, wI 1, wI 3, wU, wU], [.int 0], (HA p q r b0 b1 b2), u) _
  refine WGo.s (WStep.istore (L' := [wR 0, wI 1, wI 1, wR 1, wI 1, wI 3, wI 0, wU]) a3_3 rfl) ?_
  refine WGo.s (WStep.iload a3_5 rfl) ?_
  refine WGo.s (WStep.iload a3_7 rfl) ?_
  refine WGo.s (WStep.isub a3_9) ?_
  show WGo _ (10, [wR 0, wI 1, wI 1, wR 1, wI 1, wI 3, wI 0, wU], [.int 2], (HA p q r b0 b1 b2), u) _
  refine WGo.s (WStep.iload a3_10 rfl) ?_
  refine WGo.s (WStep.icmpF a3_12 (by decide)) ?_
  refine WGo.s (WStep.iconst (0 : Int32) a3_15 rfl) ?_
  refine WGo.ireturn .boolean a3_16 rfl (by simp) ?_
  exact QB.no (by simp_all)
theorem c3_1122 {Z : State} {a0 : Array Value} (hw : ∀ d ∈ tables_1, d.before a0 Z = true) (ρ : Nat → Nat) (n0 : Nat) (p q r b0 b1 b2 : Int64) (u : Nat) : WGo (g3 Z ρ n0 2 u) (0, [.val (.ref 0), .val (.int 1), .val (.int 1), .val (.ref 1), .val (.int 2), .val (.int 2), .unset, .unset], [], (HA p q r b0 b1 b2), u) (QB (True) (HA p q r b0 b1 b2) u) := by
  refine WGo.s (WStep.iloadN a3_0 rfl) ?_
  refine WGo.s (WStep.iloadN a3_1 rfl) ?_
  refine WGo.s (WStep.isub a3_2) ?_
  show WGo _ (3, [wR 0, wI 1, wI 1, wR 1, wI 2, wI 2, wU, wU], [.int 0], (HA p q r b0 b1 b2), u) _
  refine WGo.s (WStep.istore (L' := [wR 0, wI 1, wI 1, wR 1, wI 2, wI 2, wI 0, wU]) a3_3 rfl) ?_
  refine WGo.s (WStep.iload a3_5 rfl) ?_
  refine WGo.s (WStep.iload a3_7 rfl) ?_
  refine WGo.s (WStep.isub a3_9) ?_
  show WGo _ (10, [wR 0, wI 1, wI 1, wR 1, wI 2, wI 2, wI 0, wU], [.int 0], (HA p q r b0 b1 b2), u) _
  refine WGo.s (WStep.iload a3_10 rfl) ?_
  refine WGo.s (WStep.icmpT a3_12 (by decide)) ?_
  refine WGo.s (WStep.iconst (0 : Int32) a3_17 rfl) ?_
  refine WGo.s (WStep.istore (L' := [wR 0, wI 1, wI 1, wR 1, wI 2, wI 2, wI 0, wI 0]) a3_18 rfl) ?_
  refine WGo.s (WStep.iload a3_20 rfl) ?_
  refine WGo.s (WStep.iload a3_22 rfl) ?_
  refine WGo.s (WStep.icmpT a3_24 (by decide)) ?_
  refine WGo.s (WStep.iconst (1 : Int32) a3_52 rfl) ?_
  refine WGo.ireturn .boolean a3_53 rfl (by simp) ?_
  exact QB.yes (by simp_all)
theorem c3_1123 {Z : State} {a0 : Array Value} (hw : ∀ d ∈ tables_1, d.before a0 Z = true) (ρ : Nat → Nat) (n0 : Nat) (p q r b0 b1 b2 : Int64) (u : Nat) : WGo (g3 Z ρ n0 2 u) (0, [.val (.ref 0), .val (.int 1), .val (.int 1), .val (.ref 1), .val (.int 2), .val (.int 3), .unset, .unset], [], (HA p q r b0 b1 b2), u) (QB (False) (HA p q r b0 b1 b2) u) := by
  refine WGo.s (WStep.iloadN a3_0 rfl) ?_
  refine WGo.s (WStep.iloadN a3_1 rfl) ?_
  refine WGo.s (WStep.isub a3_2) ?_
  show WGo _ (3, [wR 0, wI 1, wI 1, wR 1, wI 2, wI 3, wU, wU], [.int 0], (HA p q r b0 b1 b2), u) _
  refine WGo.s (WStep.istore (L' := [wR 0, wI 1, wI 1, wR 1, wI 2, wI 3, wI 0, wU]) a3_3 rfl) ?_
  refine WGo.s (WStep.iload a3_5 rfl) ?_
  refine WGo.s (WStep.iload a3_7 rfl) ?_
  refine WGo.s (WStep.isub a3_9) ?_
  show WGo _ (10, [wR 0, wI 1, wI 1, wR 1, wI 2, wI 3, wI 0, wU], [.int 1], (HA p q r b0 b1 b2), u) _
  refine WGo.s (WStep.iload a3_10 rfl) ?_
  refine WGo.s (WStep.icmpF a3_12 (by decide)) ?_
  refine WGo.s (WStep.iconst (0 : Int32) a3_15 rfl) ?_
  refine WGo.ireturn .boolean a3_16 rfl (by simp) ?_
  exact QB.no (by simp_all)
theorem c3_1133 {Z : State} {a0 : Array Value} (hw : ∀ d ∈ tables_1, d.before a0 Z = true) (ρ : Nat → Nat) (n0 : Nat) (p q r b0 b1 b2 : Int64) (u : Nat) : WGo (g3 Z ρ n0 2 u) (0, [.val (.ref 0), .val (.int 1), .val (.int 1), .val (.ref 1), .val (.int 3), .val (.int 3), .unset, .unset], [], (HA p q r b0 b1 b2), u) (QB (True) (HA p q r b0 b1 b2) u) := by
  refine WGo.s (WStep.iloadN a3_0 rfl) ?_
  refine WGo.s (WStep.iloadN a3_1 rfl) ?_
  refine WGo.s (WStep.isub a3_2) ?_
  show WGo _ (3, [wR 0, wI 1, wI 1, wR 1, wI 3, wI 3, wU, wU], [.int 0], (HA p q r b0 b1 b2), u) _
  refine WGo.s (WStep.istore (L' := [wR 0, wI 1, wI 1, wR 1, wI 3, wI 3, wI 0, wU]) a3_3 rfl) ?_
  refine WGo.s (WStep.iload a3_5 rfl) ?_
  refine WGo.s (WStep.iload a3_7 rfl) ?_
  refine WGo.s (WStep.isub a3_9) ?_
  show WGo _ (10, [wR 0, wI 1, wI 1, wR 1, wI 3, wI 3, wI 0, wU], [.int 0], (HA p q r b0 b1 b2), u) _
  refine WGo.s (WStep.iload a3_10 rfl) ?_
  refine WGo.s (WStep.icmpT a3_12 (by decide)) ?_
  refine WGo.s (WStep.iconst (0 : Int32) a3_17 rfl) ?_
  refine WGo.s (WStep.istore (L' := [wR 0, wI 1, wI 1, wR 1, wI 3, wI 3, wI 0, wI 0]) a3_18 rfl) ?_
  refine WGo.s (WStep.iload a3_20 rfl) ?_
  refine WGo.s (WStep.iload a3_22 rfl) ?_
  refine WGo.s (WStep.icmpT a3_24 (by decide)) ?_
  refine WGo.s (WStep.iconst (1 : Int32) a3_52 rfl) ?_
  refine WGo.ireturn .boolean a3_53 rfl (by simp) ?_
  exact QB.yes (by simp_all)
theorem c3_1200 {Z : State} {a0 : Array Value} (hw : ∀ d ∈ tables_1, d.before a0 Z = true) (ρ : Nat → Nat) (n0 : Nat) (p q r b0 b1 b2 : Int64) (u : Nat) : WGo (g3 Z ρ n0 2 u) (0, [.val (.ref 0), .val (.int 1), .val (.int 2), .val (.ref 1), .val (.int 0), .val (.int 0), .unset, .unset], [], (HA p q r b0 b1 b2), u) (QB (False) (HA p q r b0 b1 b2) u) := by
  refine WGo.s (WStep.iloadN a3_0 rfl) ?_
  refine WGo.s (WStep.iloadN a3_1 rfl) ?_
  refine WGo.s (WStep.isub a3_2) ?_
  show WGo _ (3, [wR 0, wI 1, wI 2, wR 1, wI 0, wI 0, wU, wU], [.int 1], (HA p q r b0 b1 b2), u) _
  refine WGo.s (WStep.istore (L' := [wR 0, wI 1, wI 2, wR 1, wI 0, wI 0, wI 1, wU]) a3_3 rfl) ?_
  refine WGo.s (WStep.iload a3_5 rfl) ?_
  refine WGo.s (WStep.iload a3_7 rfl) ?_
  refine WGo.s (WStep.isub a3_9) ?_
  show WGo _ (10, [wR 0, wI 1, wI 2, wR 1, wI 0, wI 0, wI 1, wU], [.int 0], (HA p q r b0 b1 b2), u) _
  refine WGo.s (WStep.iload a3_10 rfl) ?_
  refine WGo.s (WStep.icmpF a3_12 (by decide)) ?_
  refine WGo.s (WStep.iconst (0 : Int32) a3_15 rfl) ?_
  refine WGo.ireturn .boolean a3_16 rfl (by simp) ?_
  exact QB.no (by simp_all)
theorem c3_1201 {Z : State} {a0 : Array Value} (hw : ∀ d ∈ tables_1, d.before a0 Z = true) (ρ : Nat → Nat) (n0 : Nat) (p q r b0 b1 b2 : Int64) (u : Nat) : WGo (g3 Z ρ n0 2 u) (0, [.val (.ref 0), .val (.int 1), .val (.int 2), .val (.ref 1), .val (.int 0), .val (.int 1), .unset, .unset], [], (HA p q r b0 b1 b2), u) (QB (q = b0) (HA p q r b0 b1 b2) u) := by
  refine WGo.s (WStep.iloadN a3_0 rfl) ?_
  refine WGo.s (WStep.iloadN a3_1 rfl) ?_
  refine WGo.s (WStep.isub a3_2) ?_
  show WGo _ (3, [wR 0, wI 1, wI 2, wR 1, wI 0, wI 1, wU, wU], [.int 1], (HA p q r b0 b1 b2), u) _
  refine WGo.s (WStep.istore (L' := [wR 0, wI 1, wI 2, wR 1, wI 0, wI 1, wI 1, wU]) a3_3 rfl) ?_
  refine WGo.s (WStep.iload a3_5 rfl) ?_
  refine WGo.s (WStep.iload a3_7 rfl) ?_
  refine WGo.s (WStep.isub a3_9) ?_
  show WGo _ (10, [wR 0, wI 1, wI 2, wR 1, wI 0, wI 1, wI 1, wU], [.int 1], (HA p q r b0 b1 b2), u) _
  refine WGo.s (WStep.iload a3_10 rfl) ?_
  refine WGo.s (WStep.icmpT a3_12 (by decide)) ?_
  refine WGo.s (WStep.iconst (0 : Int32) a3_17 rfl) ?_
  refine WGo.s (WStep.istore (L' := [wR 0, wI 1, wI 2, wR 1, wI 0, wI 1, wI 1, wI 0]) a3_18 rfl) ?_
  refine WGo.s (WStep.iload a3_20 rfl) ?_
  refine WGo.s (WStep.iload a3_22 rfl) ?_
  refine WGo.s (WStep.icmpF a3_24 (by decide)) ?_
  refine WGo.s (WStep.aloadN a3_27 rfl rfl) ?_
  refine WGo.s (WStep.iloadN a3_28 rfl) ?_
  refine WGo.s (WStep.iload a3_29 rfl) ?_
  refine WGo.s (WStep.iadd a3_31) ?_
  show WGo _ (32, [wR 0, wI 1, wI 2, wR 1, wI 0, wI 1, wI 1, wI 0], [.int 1, .ref 0], (HA p q r b0 b1 b2), u) _
  refine WGo.s (WStep.laload 1 a3_32 rfl (by decide) rfl rfl) ?_
  refine WGo.s (WStep.aloadN a3_33 rfl rfl) ?_
  refine WGo.s (WStep.iload a3_34 rfl) ?_
  refine WGo.s (WStep.iload a3_36 rfl) ?_
  refine WGo.s (WStep.iadd a3_38) ?_
  show WGo _ (39, [wR 0, wI 1, wI 2, wR 1, wI 0, wI 1, wI 1, wI 0], [.int 0, .ref 1, (.long q)], (HA p q r b0 b1 b2), u) _
  refine WGo.s (WStep.laload 0 a3_39 rfl (by decide) rfl rfl) ?_
  refine WGo.s (WStep.lcmp a3_40) ?_
  refine WGo.eqL a3_41 (fun h41 => ?_) (fun h41 => ?_)
  · refine WGo.s (WStep.iinc (L' := [wR 0, wI 1, wI 2, wR 1, wI 0, wI 1, wI 1, wI 1]) a3_46 rfl rfl) ?_
    refine WGo.s (WStep.goto a3_49) ?_
    refine WGo.s (WStep.iload a3_20 rfl) ?_
    refine WGo.s (WStep.iload a3_22 rfl) ?_
    refine WGo.s (WStep.icmpT a3_24 (by decide)) ?_
    refine WGo.s (WStep.iconst (1 : Int32) a3_52 rfl) ?_
    refine WGo.ireturn .boolean a3_53 rfl (by simp) ?_
    exact QB.yes (by simp_all)
  · refine WGo.s (WStep.iconst (0 : Int32) a3_44 rfl) ?_
    refine WGo.ireturn .boolean a3_45 rfl (by simp) ?_
    exact QB.no (by simp_all)
theorem c3_1202 {Z : State} {a0 : Array Value} (hw : ∀ d ∈ tables_1, d.before a0 Z = true) (ρ : Nat → Nat) (n0 : Nat) (p q r b0 b1 b2 : Int64) (u : Nat) : WGo (g3 Z ρ n0 2 u) (0, [.val (.ref 0), .val (.int 1), .val (.int 2), .val (.ref 1), .val (.int 0), .val (.int 2), .unset, .unset], [], (HA p q r b0 b1 b2), u) (QB (False) (HA p q r b0 b1 b2) u) := by
  refine WGo.s (WStep.iloadN a3_0 rfl) ?_
  refine WGo.s (WStep.iloadN a3_1 rfl) ?_
  refine WGo.s (WStep.isub a3_2) ?_
  show WGo _ (3, [wR 0, wI 1, wI 2, wR 1, wI 0, wI 2, wU, wU], [.int 1], (HA p q r b0 b1 b2), u) _
  refine WGo.s (WStep.istore (L' := [wR 0, wI 1, wI 2, wR 1, wI 0, wI 2, wI 1, wU]) a3_3 rfl) ?_
  refine WGo.s (WStep.iload a3_5 rfl) ?_
  refine WGo.s (WStep.iload a3_7 rfl) ?_
  refine WGo.s (WStep.isub a3_9) ?_
  show WGo _ (10, [wR 0, wI 1, wI 2, wR 1, wI 0, wI 2, wI 1, wU], [.int 2], (HA p q r b0 b1 b2), u) _
  refine WGo.s (WStep.iload a3_10 rfl) ?_
  refine WGo.s (WStep.icmpF a3_12 (by decide)) ?_
  refine WGo.s (WStep.iconst (0 : Int32) a3_15 rfl) ?_
  refine WGo.ireturn .boolean a3_16 rfl (by simp) ?_
  exact QB.no (by simp_all)
theorem c3_1203 {Z : State} {a0 : Array Value} (hw : ∀ d ∈ tables_1, d.before a0 Z = true) (ρ : Nat → Nat) (n0 : Nat) (p q r b0 b1 b2 : Int64) (u : Nat) : WGo (g3 Z ρ n0 2 u) (0, [.val (.ref 0), .val (.int 1), .val (.int 2), .val (.ref 1), .val (.int 0), .val (.int 3), .unset, .unset], [], (HA p q r b0 b1 b2), u) (QB (False) (HA p q r b0 b1 b2) u) := by
  refine WGo.s (WStep.iloadN a3_0 rfl) ?_
  refine WGo.s (WStep.iloadN a3_1 rfl) ?_
  refine WGo.s (WStep.isub a3_2) ?_
  show WGo _ (3, [wR 0, wI 1, wI 2, wR 1, wI 0, wI 3, wU, wU], [.int 1], (HA p q r b0 b1 b2), u) _
  refine WGo.s (WStep.istore (L' := [wR 0, wI 1, wI 2, wR 1, wI 0, wI 3, wI 1, wU]) a3_3 rfl) ?_
  refine WGo.s (WStep.iload a3_5 rfl) ?_
  refine WGo.s (WStep.iload a3_7 rfl) ?_
  refine WGo.s (WStep.isub a3_9) ?_
  show WGo _ (10, [wR 0, wI 1, wI 2, wR 1, wI 0, wI 3, wI 1, wU], [.int 3], (HA p q r b0 b1 b2), u) _
  refine WGo.s (WStep.iload a3_10 rfl) ?_
  refine WGo.s (WStep.icmpF a3_12 (by decide)) ?_
  refine WGo.s (WStep.iconst (0 : Int32) a3_15 rfl) ?_
  refine WGo.ireturn .boolean a3_16 rfl (by simp) ?_
  exact QB.no (by simp_all)
theorem c3_1211 {Z : State} {a0 : Array Value} (hw : ∀ d ∈ tables_1, d.before a0 Z = true) (ρ : Nat → Nat) (n0 : Nat) (p q r b0 b1 b2 : Int64) (u : Nat) : WGo (g3 Z ρ n0 2 u) (0, [.val (.ref 0), .val (.int 1), .val (.int 2), .val (.ref 1), .val (.int 1), .val (.int 1), .unset, .unset], [], (HA p q r b0 b1 b2), u) (QB (False) (HA p q r b0 b1 b2) u) := by
  refine WGo.s (WStep.iloadN a3_0 rfl) ?_
  refine WGo.s (WStep.iloadN a3_1 rfl) ?_
  refine WGo.s (WStep.isub a3_2) ?_
  show WGo _ (3, [wR 0, wI 1, wI 2, wR 1, wI 1, wI 1, wU, wU], [.int 1], (HA p q r b0 b1 b2), u) _
  refine WGo.s (WStep.istore (L' := [wR 0, wI 1, wI 2, wR 1, wI 1, wI 1, wI 1, wU]) a3_3 rfl) ?_
  refine WGo.s (WStep.iload a3_5 rfl) ?_
  refine WGo.s (WStep.iload a3_7 rfl) ?_
  refine WGo.s (WStep.isub a3_9) ?_
  show WGo _ (10, [wR 0, wI 1, wI 2, wR 1, wI 1, wI 1, wI 1, wU], [.int 0], (HA p q r b0 b1 b2), u) _
  refine WGo.s (WStep.iload a3_10 rfl) ?_
  refine WGo.s (WStep.icmpF a3_12 (by decide)) ?_
  refine WGo.s (WStep.iconst (0 : Int32) a3_15 rfl) ?_
  refine WGo.ireturn .boolean a3_16 rfl (by simp) ?_
  exact QB.no (by simp_all)
theorem c3_1212 {Z : State} {a0 : Array Value} (hw : ∀ d ∈ tables_1, d.before a0 Z = true) (ρ : Nat → Nat) (n0 : Nat) (p q r b0 b1 b2 : Int64) (u : Nat) : WGo (g3 Z ρ n0 2 u) (0, [.val (.ref 0), .val (.int 1), .val (.int 2), .val (.ref 1), .val (.int 1), .val (.int 2), .unset, .unset], [], (HA p q r b0 b1 b2), u) (QB (q = b1) (HA p q r b0 b1 b2) u) := by
  refine WGo.s (WStep.iloadN a3_0 rfl) ?_
  refine WGo.s (WStep.iloadN a3_1 rfl) ?_
  refine WGo.s (WStep.isub a3_2) ?_
  show WGo _ (3, [wR 0, wI 1, wI 2, wR 1, wI 1, wI 2, wU, wU], [.int 1], (HA p q r b0 b1 b2), u) _
  refine WGo.s (WStep.istore (L' := [wR 0, wI 1, wI 2, wR 1, wI 1, wI 2, wI 1, wU]) a3_3 rfl) ?_
  refine WGo.s (WStep.iload a3_5 rfl) ?_
  refine WGo.s (WStep.iload a3_7 rfl) ?_
  refine WGo.s (WStep.isub a3_9) ?_
  show WGo _ (10, [wR 0, wI 1, wI 2, wR 1, wI 1, wI 2, wI 1, wU], [.int 1], (HA p q r b0 b1 b2), u) _
  refine WGo.s (WStep.iload a3_10 rfl) ?_
  refine WGo.s (WStep.icmpT a3_12 (by decide)) ?_
  refine WGo.s (WStep.iconst (0 : Int32) a3_17 rfl) ?_
  refine WGo.s (WStep.istore (L' := [wR 0, wI 1, wI 2, wR 1, wI 1, wI 2, wI 1, wI 0]) a3_18 rfl) ?_
  refine WGo.s (WStep.iload a3_20 rfl) ?_
  refine WGo.s (WStep.iload a3_22 rfl) ?_
  refine WGo.s (WStep.icmpF a3_24 (by decide)) ?_
  refine WGo.s (WStep.aloadN a3_27 rfl rfl) ?_
  refine WGo.s (WStep.iloadN a3_28 rfl) ?_
  refine WGo.s (WStep.iload a3_29 rfl) ?_
  refine WGo.s (WStep.iadd a3_31) ?_
  show WGo _ (32, [wR 0, wI 1, wI 2, wR 1, wI 1, wI 2, wI 1, wI 0], [.int 1, .ref 0], (HA p q r b0 b1 b2), u) _
  refine WGo.s (WStep.laload 1 a3_32 rfl (by decide) rfl rfl) ?_
  refine WGo.s (WStep.aloadN a3_33 rfl rfl) ?_
  refine WGo.s (WStep.iload a3_34 rfl) ?_
  refine WGo.s (WStep.iload a3_36 rfl) ?_
  refine WGo.s (WStep.iadd a3_38) ?_
  show WGo _ (39, [wR 0, wI 1, wI 2, wR 1, wI 1, wI 2, wI 1, wI 0], [.int 1, .ref 1, (.long q)], (HA p q r b0 b1 b2), u) _
  refine WGo.s (WStep.laload 1 a3_39 rfl (by decide) rfl rfl) ?_
  refine WGo.s (WStep.lcmp a3_40) ?_
  refine WGo.eqL a3_41 (fun h41 => ?_) (fun h41 => ?_)
  · refine WGo.s (WStep.iinc (L' := [wR 0, wI 1, wI 2, wR 1, wI 1, wI 2, wI 1, wI 1]) a3_46 rfl rfl) ?_
    refine WGo.s (WStep.goto a3_49) ?_
    refine WGo.s (WStep.iload a3_20 rfl) ?_
    refine WGo.s (WStep.iload a3_22 rfl) ?_
    refine WGo.s (WStep.icmpT a3_24 (by decide)) ?_
    refine WGo.s (WStep.iconst (1 : Int32) a3_52 rfl) ?_
    refine WGo.ireturn .boolean a3_53 rfl (by simp) ?_
    exact QB.yes (by simp_all)
  · refine WGo.s (WStep.iconst (0 : Int32) a3_44 rfl) ?_
    refine WGo.ireturn .boolean a3_45 rfl (by simp) ?_
    exact QB.no (by simp_all)
theorem c3_1213 {Z : State} {a0 : Array Value} (hw : ∀ d ∈ tables_1, d.before a0 Z = true) (ρ : Nat → Nat) (n0 : Nat) (p q r b0 b1 b2 : Int64) (u : Nat) : WGo (g3 Z ρ n0 2 u) (0, [.val (.ref 0), .val (.int 1), .val (.int 2), .val (.ref 1), .val (.int 1), .val (.int 3), .unset, .unset], [], (HA p q r b0 b1 b2), u) (QB (False) (HA p q r b0 b1 b2) u) := by
  refine WGo.s (WStep.iloadN a3_0 rfl) ?_
  refine WGo.s (WStep.iloadN a3_1 rfl) ?_
  refine WGo.s (WStep.isub a3_2) ?_
  show WGo _ (3, [wR 0, wI 1, wI 2, wR 1, wI 1, wI 3, wU, wU], [.int 1], (HA p q r b0 b1 b2), u) _
  refine WGo.s (WStep.istore (L' := [wR 0, wI 1, wI 2, wR 1, wI 1, wI 3, wI 1, wU]) a3_3 rfl) ?_
  refine WGo.s (WStep.iload a3_5 rfl) ?_
  refine WGo.s (WStep.iload a3_7 rfl) ?_
  refine WGo.s (WStep.isub a3_9) ?_
  show WGo _ (10, [wR 0, wI 1, wI 2, wR 1, wI 1, wI 3, wI 1, wU], [.int 2], (HA p q r b0 b1 b2), u) _
  refine WGo.s (WStep.iload a3_10 rfl) ?_
  refine WGo.s (WStep.icmpF a3_12 (by decide)) ?_
  refine WGo.s (WStep.iconst (0 : Int32) a3_15 rfl) ?_
  refine WGo.ireturn .boolean a3_16 rfl (by simp) ?_
  exact QB.no (by simp_all)
theorem c3_1222 {Z : State} {a0 : Array Value} (hw : ∀ d ∈ tables_1, d.before a0 Z = true) (ρ : Nat → Nat) (n0 : Nat) (p q r b0 b1 b2 : Int64) (u : Nat) : WGo (g3 Z ρ n0 2 u) (0, [.val (.ref 0), .val (.int 1), .val (.int 2), .val (.ref 1), .val (.int 2), .val (.int 2), .unset, .unset], [], (HA p q r b0 b1 b2), u) (QB (False) (HA p q r b0 b1 b2) u) := by
  refine WGo.s (WStep.iloadN a3_0 rfl) ?_
  refine WGo.s (WStep.iloadN a3_1 rfl) ?_
  refine WGo.s (WStep.isub a3_2) ?_
  show WGo _ (3, [wR 0, wI 1, wI 2, wR 1, wI 2, wI 2, wU, wU], [.int 1], (HA p q r b0 b1 b2), u) _
  refine WGo.s (WStep.istore (L' := [wR 0, wI 1, wI 2, wR 1, wI 2, wI 2, wI 1, wU]) a3_3 rfl) ?_
  refine WGo.s (WStep.iload a3_5 rfl) ?_
  refine WGo.s (WStep.iload a3_7 rfl) ?_
  refine WGo.s (WStep.isub a3_9) ?_
  show WGo _ (10, [wR 0, wI 1, wI 2, wR 1, wI 2, wI 2, wI 1, wU], [.int 0], (HA p q r b0 b1 b2), u) _
  refine WGo.s (WStep.iload a3_10 rfl) ?_
  refine WGo.s (WStep.icmpF a3_12 (by decide)) ?_
  refine WGo.s (WStep.iconst (0 : Int32) a3_15 rfl) ?_
  refine WGo.ireturn .boolean a3_16 rfl (by simp) ?_
  exact QB.no (by simp_all)
theorem c3_1223 {Z : State} {a0 : Array Value} (hw : ∀ d ∈ tables_1, d.before a0 Z = true) (ρ : Nat → Nat) (n0 : Nat) (p q r b0 b1 b2 : Int64) (u : Nat) : WGo (g3 Z ρ n0 2 u) (0, [.val (.ref 0), .val (.int 1), .val (.int 2), .val (.ref 1), .val (.int 2), .val (.int 3), .unset, .unset], [], (HA p q r b0 b1 b2), u) (QB (q = b2) (HA p q r b0 b1 b2) u) := by
  refine WGo.s (WStep.iloadN a3_0 rfl) ?_
  refine WGo.s (WStep.iloadN a3_1 rfl) ?_
  refine WGo.s (WStep.isub a3_2) ?_
  show WGo _ (3, [wR 0, wI 1, wI 2, wR 1, wI 2, wI 3, wU, wU], [.int 1], (HA p q r b0 b1 b2), u) _
  refine WGo.s (WStep.istore (L' := [wR 0, wI 1, wI 2, wR 1, wI 2, wI 3, wI 1, wU]) a3_3 rfl) ?_
  refine WGo.s (WStep.iload a3_5 rfl) ?_
  refine WGo.s (WStep.iload a3_7 rfl) ?_
  refine WGo.s (WStep.isub a3_9) ?_
  show WGo _ (10, [wR 0, wI 1, wI 2, wR 1, wI 2, wI 3, wI 1, wU], [.int 1], (HA p q r b0 b1 b2), u) _
  refine WGo.s (WStep.iload a3_10 rfl) ?_
  refine WGo.s (WStep.icmpT a3_12 (by decide)) ?_
  refine WGo.s (WStep.iconst (0 : Int32) a3_17 rfl) ?_
  refine WGo.s (WStep.istore (L' := [wR 0, wI 1, wI 2, wR 1, wI 2, wI 3, wI 1, wI 0]) a3_18 rfl) ?_
  refine WGo.s (WStep.iload a3_20 rfl) ?_
  refine WGo.s (WStep.iload a3_22 rfl) ?_
  refine WGo.s (WStep.icmpF a3_24 (by decide)) ?_
  refine WGo.s (WStep.aloadN a3_27 rfl rfl) ?_
  refine WGo.s (WStep.iloadN a3_28 rfl) ?_
  refine WGo.s (WStep.iload a3_29 rfl) ?_
  refine WGo.s (WStep.iadd a3_31) ?_
  show WGo _ (32, [wR 0, wI 1, wI 2, wR 1, wI 2, wI 3, wI 1, wI 0], [.int 1, .ref 0], (HA p q r b0 b1 b2), u) _
  refine WGo.s (WStep.laload 1 a3_32 rfl (by decide) rfl rfl) ?_
  refine WGo.s (WStep.aloadN a3_33 rfl rfl) ?_
  refine WGo.s (WStep.iload a3_34 rfl) ?_
  refine WGo.s (WStep.iload a3_36 rfl) ?_
  refine WGo.s (WStep.iadd a3_38) ?_
  show WGo _ (39, [wR 0, wI 1, wI 2, wR 1, wI 2, wI 3, wI 1, wI 0], [.int 2, .ref 1, (.long q)], (HA p q r b0 b1 b2), u) _
  refine WGo.s (WStep.laload 2 a3_39 rfl (by decide) rfl rfl) ?_
  refine WGo.s (WStep.lcmp a3_40) ?_
  refine WGo.eqL a3_41 (fun h41 => ?_) (fun h41 => ?_)
  · refine WGo.s (WStep.iinc (L' := [wR 0, wI 1, wI 2, wR 1, wI 2, wI 3, wI 1, wI 1]) a3_46 rfl rfl) ?_
    refine WGo.s (WStep.goto a3_49) ?_
    refine WGo.s (WStep.iload a3_20 rfl) ?_
    refine WGo.s (WStep.iload a3_22 rfl) ?_
    refine WGo.s (WStep.icmpT a3_24 (by decide)) ?_
    refine WGo.s (WStep.iconst (1 : Int32) a3_52 rfl) ?_
    refine WGo.ireturn .boolean a3_53 rfl (by simp) ?_
    exact QB.yes (by simp_all)
  · refine WGo.s (WStep.iconst (0 : Int32) a3_44 rfl) ?_
    refine WGo.ireturn .boolean a3_45 rfl (by simp) ?_
    exact QB.no (by simp_all)
theorem c3_1233 {Z : State} {a0 : Array Value} (hw : ∀ d ∈ tables_1, d.before a0 Z = true) (ρ : Nat → Nat) (n0 : Nat) (p q r b0 b1 b2 : Int64) (u : Nat) : WGo (g3 Z ρ n0 2 u) (0, [.val (.ref 0), .val (.int 1), .val (.int 2), .val (.ref 1), .val (.int 3), .val (.int 3), .unset, .unset], [], (HA p q r b0 b1 b2), u) (QB (False) (HA p q r b0 b1 b2) u) := by
  refine WGo.s (WStep.iloadN a3_0 rfl) ?_
  refine WGo.s (WStep.iloadN a3_1 rfl) ?_
  refine WGo.s (WStep.isub a3_2) ?_
  show WGo _ (3, [wR 0, wI 1, wI 2, wR 1, wI 3, wI 3, wU, wU], [.int 1], (HA p q r b0 b1 b2), u) _
  refine WGo.s (WStep.istore (L' := [wR 0, wI 1, wI 2, wR 1, wI 3, wI 3, wI 1, wU]) a3_3 rfl) ?_
  refine WGo.s (WStep.iload a3_5 rfl) ?_
  refine WGo.s (WStep.iload a3_7 rfl) ?_
  refine WGo.s (WStep.isub a3_9) ?_
  show WGo _ (10, [wR 0, wI 1, wI 2, wR 1, wI 3, wI 3, wI 1, wU], [.int 0], (HA p q r b0 b1 b2), u) _
  refine WGo.s (WStep.iload a3_10 rfl) ?_
  refine WGo.s (WStep.icmpF a3_12 (by decide)) ?_
  refine WGo.s (WStep.iconst (0 : Int32) a3_15 rfl) ?_
  refine WGo.ireturn .boolean a3_16 rfl (by simp) ?_
  exact QB.no (by simp_all)
theorem c3_1300 {Z : State} {a0 : Array Value} (hw : ∀ d ∈ tables_1, d.before a0 Z = true) (ρ : Nat → Nat) (n0 : Nat) (p q r b0 b1 b2 : Int64) (u : Nat) : WGo (g3 Z ρ n0 2 u) (0, [.val (.ref 0), .val (.int 1), .val (.int 3), .val (.ref 1), .val (.int 0), .val (.int 0), .unset, .unset], [], (HA p q r b0 b1 b2), u) (QB (False) (HA p q r b0 b1 b2) u) := by
  refine WGo.s (WStep.iloadN a3_0 rfl) ?_
  refine WGo.s (WStep.iloadN a3_1 rfl) ?_
  refine WGo.s (WStep.isub a3_2) ?_
  show WGo _ (3, [wR 0, wI 1, wI 3, wR 1, wI 0, wI 0, wU, wU], [.int 2], (HA p q r b0 b1 b2), u) _
  refine WGo.s (WStep.istore (L' := [wR 0, wI 1, wI 3, wR 1, wI 0, wI 0, wI 2, wU]) a3_3 rfl) ?_
  refine WGo.s (WStep.iload a3_5 rfl) ?_
  refine WGo.s (WStep.iload a3_7 rfl) ?_
  refine WGo.s (WStep.isub a3_9) ?_
  show WGo _ (10, [wR 0, wI 1, wI 3, wR 1, wI 0, wI 0, wI 2, wU], [.int 0], (HA p q r b0 b1 b2), u) _
  refine WGo.s (WStep.iload a3_10 rfl) ?_
  refine WGo.s (WStep.icmpF a3_12 (by decide)) ?_
  refine WGo.s (WStep.iconst (0 : Int32) a3_15 rfl) ?_
  refine WGo.ireturn .boolean a3_16 rfl (by simp) ?_
  exact QB.no (by simp_all)
theorem c3_1301 {Z : State} {a0 : Array Value} (hw : ∀ d ∈ tables_1, d.before a0 Z = true) (ρ : Nat → Nat) (n0 : Nat) (p q r b0 b1 b2 : Int64) (u : Nat) : WGo (g3 Z ρ n0 2 u) (0, [.val (.ref 0), .val (.int 1), .val (.int 3), .val (.ref 1), .val (.int 0), .val (.int 1), .unset, .unset], [], (HA p q r b0 b1 b2), u) (QB (False) (HA p q r b0 b1 b2) u) := by
  refine WGo.s (WStep.iloadN a3_0 rfl) ?_
  refine WGo.s (WStep.iloadN a3_1 rfl) ?_
  refine WGo.s (WStep.isub a3_2) ?_
  show WGo _ (3, [wR 0, wI 1, wI 3, wR 1, wI 0, wI 1, wU, wU], [.int 2], (HA p q r b0 b1 b2), u) _
  refine WGo.s (WStep.istore (L' := [wR 0, wI 1, wI 3, wR 1, wI 0, wI 1, wI 2, wU]) a3_3 rfl) ?_
  refine WGo.s (WStep.iload a3_5 rfl) ?_
  refine WGo.s (WStep.iload a3_7 rfl) ?_
  refine WGo.s (WStep.isub a3_9) ?_
  show WGo _ (10, [wR 0, wI 1, wI 3, wR 1, wI 0, wI 1, wI 2, wU], [.int 1], (HA p q r b0 b1 b2), u) _
  refine WGo.s (WStep.iload a3_10 rfl) ?_
  refine WGo.s (WStep.icmpF a3_12 (by decide)) ?_
  refine WGo.s (WStep.iconst (0 : Int32) a3_15 rfl) ?_
  refine WGo.ireturn .boolean a3_16 rfl (by simp) ?_
  exact QB.no (by simp_all)
theorem c3_1302 {Z : State} {a0 : Array Value} (hw : ∀ d ∈ tables_1, d.before a0 Z = true) (ρ : Nat → Nat) (n0 : Nat) (p q r b0 b1 b2 : Int64) (u : Nat) : WGo (g3 Z ρ n0 2 u) (0, [.val (.ref 0), .val (.int 1), .val (.int 3), .val (.ref 1), .val (.int 0), .val (.int 2), .unset, .unset], [], (HA p q r b0 b1 b2), u) (QB (q = b0 ∧ r = b1) (HA p q r b0 b1 b2) u) := by
  refine WGo.s (WStep.iloadN a3_0 rfl) ?_
  refine WGo.s (WStep.iloadN a3_1 rfl) ?_
  refine WGo.s (WStep.isub a3_2) ?_
  show WGo _ (3, [wR 0, wI 1, wI 3, wR 1, wI 0, wI 2, wU, wU], [.int 2], (HA p q r b0 b1 b2), u) _
  refine WGo.s (WStep.istore (L' := [wR 0, wI 1, wI 3, wR 1, wI 0, wI 2, wI 2, wU]) a3_3 rfl) ?_
  refine WGo.s (WStep.iload a3_5 rfl) ?_
  refine WGo.s (WStep.iload a3_7 rfl) ?_
  refine WGo.s (WStep.isub a3_9) ?_
  show WGo _ (10, [wR 0, wI 1, wI 3, wR 1, wI 0, wI 2, wI 2, wU], [.int 2], (HA p q r b0 b1 b2), u) _
  refine WGo.s (WStep.iload a3_10 rfl) ?_
  refine WGo.s (WStep.icmpT a3_12 (by decide)) ?_
  refine WGo.s (WStep.iconst (0 : Int32) a3_17 rfl) ?_
  refine WGo.s (WStep.istore (L' := [wR 0, wI 1, wI 3, wR 1, wI 0, wI 2, wI 2, wI 0]) a3_18 rfl) ?_
  refine WGo.s (WStep.iload a3_20 rfl) ?_
  refine WGo.s (WStep.iload a3_22 rfl) ?_
  refine WGo.s (WStep.icmpF a3_24 (by decide)) ?_
  refine WGo.s (WStep.aloadN a3_27 rfl rfl) ?_
  refine WGo.s (WStep.iloadN a3_28 rfl) ?_
  refine WGo.s (WStep.iload a3_29 rfl) ?_
  refine WGo.s (WStep.iadd a3_31) ?_
  show WGo _ (32, [wR 0, wI 1, wI 3, wR 1, wI 0, wI 2, wI 2, wI 0], [.int 1, .ref 0], (HA p q r b0 b1 b2), u) _
  refine WGo.s (WStep.laload 1 a3_32 rfl (by decide) rfl rfl) ?_
  refine WGo.s (WStep.aloadN a3_33 rfl rfl) ?_
  refine WGo.s (WStep.iload a3_34 rfl) ?_
  refine WGo.s (WStep.iload a3_36 rfl) ?_
  refine WGo.s (WStep.iadd a3_38) ?_
  show WGo _ (39, [wR 0, wI 1, wI 3, wR 1, wI 0, wI 2, wI 2, wI 0], [.int 0, .ref 1, (.long q)], (HA p q r b0 b1 b2), u) _
  refine WGo.s (WStep.laload 0 a3_39 rfl (by decide) rfl rfl) ?_
  refine WGo.s (WStep.lcmp a3_40) ?_
  refine WGo.eqL a3_41 (fun h41 => ?_) (fun h41 => ?_)
  · refine WGo.s (WStep.iinc (L' := [wR 0, wI 1, wI 3, wR 1, wI 0, wI 2, wI 2, wI 1]) a3_46 rfl rfl) ?_
    refine WGo.s (WStep.goto a3_49) ?_
    refine WGo.s (WStep.iload a3_20 rfl) ?_
    refine WGo.s (WStep.iload a3_22 rfl) ?_
    refine WGo.s (WStep.icmpF a3_24 (by decide)) ?_
    refine WGo.s (WStep.aloadN a3_27 rfl rfl) ?_
    refine WGo.s (WStep.iloadN a3_28 rfl) ?_
    refine WGo.s (WStep.iload a3_29 rfl) ?_
    refine WGo.s (WStep.iadd a3_31) ?_
    show WGo _ (32, [wR 0, wI 1, wI 3, wR 1, wI 0, wI 2, wI 2, wI 1], [.int 2, .ref 0], (HA p q r b0 b1 b2), u) _
    refine WGo.s (WStep.laload 2 a3_32 rfl (by decide) rfl rfl) ?_
    refine WGo.s (WStep.aloadN a3_33 rfl rfl) ?_
    refine WGo.s (WStep.iload a3_34 rfl) ?_
    refine WGo.s (WStep.iload a3_36 rfl) ?_
    refine WGo.s (WStep.iadd a3_38) ?_
    show WGo _ (39, [wR 0, wI 1, wI 3, wR 1, wI 0, wI 2, wI 2, wI 1], [.int 1, .ref 1, (.long r)], (HA p q r b0 b1 b2), u) _
    refine WGo.s (WStep.laload 1 a3_39 rfl (by decide) rfl rfl) ?_
    refine WGo.s (WStep.lcmp a3_40) ?_
    refine WGo.eqL a3_41 (fun h41_1 => ?_) (fun h41_1 => ?_)
    · refine WGo.s (WStep.iinc (L' := [wR 0, wI 1, wI 3, wR 1, wI 0, wI 2, wI 2, wI 2]) a3_46 rfl rfl) ?_
      refine WGo.s (WStep.goto a3_49) ?_
      refine WGo.s (WStep.iload a3_20 rfl) ?_
      refine WGo.s (WStep.iload a3_22 rfl) ?_
      refine WGo.s (WStep.icmpT a3_24 (by decide)) ?_
      refine WGo.s (WStep.iconst (1 : Int32) a3_52 rfl) ?_
      refine WGo.ireturn .boolean a3_53 rfl (by simp) ?_
      exact QB.yes (by simp_all)
    · refine WGo.s (WStep.iconst (0 : Int32) a3_44 rfl) ?_
      refine WGo.ireturn .boolean a3_45 rfl (by simp) ?_
      exact QB.no (by simp_all)
  · refine WGo.s (WStep.iconst (0 : Int32) a3_44 rfl) ?_
    refine WGo.ireturn .boolean a3_45 rfl (by simp) ?_
    exact QB.no (by simp_all)
theorem c3_1303 {Z : State} {a0 : Array Value} (hw : ∀ d ∈ tables_1, d.before a0 Z = true) (ρ : Nat → Nat) (n0 : Nat) (p q r b0 b1 b2 : Int64) (u : Nat) : WGo (g3 Z ρ n0 2 u) (0, [.val (.ref 0), .val (.int 1), .val (.int 3), .val (.ref 1), .val (.int 0), .val (.int 3), .unset, .unset], [], (HA p q r b0 b1 b2), u) (QB (False) (HA p q r b0 b1 b2) u) := by
  refine WGo.s (WStep.iloadN a3_0 rfl) ?_
  refine WGo.s (WStep.iloadN a3_1 rfl) ?_
  refine WGo.s (WStep.isub a3_2) ?_
  show WGo _ (3, [wR 0, wI 1, wI 3, wR 1, wI 0, wI 3, wU, wU], [.int 2], (HA p q r b0 b1 b2), u) _
  refine WGo.s (WStep.istore (L' := [wR 0, wI 1, wI 3, wR 1, wI 0, wI 3, wI 2, wU]) a3_3 rfl) ?_
  refine WGo.s (WStep.iload a3_5 rfl) ?_
  refine WGo.s (WStep.iload a3_7 rfl) ?_
  refine WGo.s (WStep.isub a3_9) ?_
  show WGo _ (10, [wR 0, wI 1, wI 3, wR 1, wI 0, wI 3, wI 2, wU], [.int 3], (HA p q r b0 b1 b2), u) _
  refine WGo.s (WStep.iload a3_10 rfl) ?_
  refine WGo.s (WStep.icmpF a3_12 (by decide)) ?_
  refine WGo.s (WStep.iconst (0 : Int32) a3_15 rfl) ?_
  refine WGo.ireturn .boolean a3_16 rfl (by simp) ?_
  exact QB.no (by simp_all)
theorem c3_1311 {Z : State} {a0 : Array Value} (hw : ∀ d ∈ tables_1, d.before a0 Z = true) (ρ : Nat → Nat) (n0 : Nat) (p q r b0 b1 b2 : Int64) (u : Nat) : WGo (g3 Z ρ n0 2 u) (0, [.val (.ref 0), .val (.int 1), .val (.int 3), .val (.ref 1), .val (.int 1), .val (.int 1), .unset, .unset], [], (HA p q r b0 b1 b2), u) (QB (False) (HA p q r b0 b1 b2) u) := by
  refine WGo.s (WStep.iloadN a3_0 rfl) ?_
  refine WGo.s (WStep.iloadN a3_1 rfl) ?_
  refine WGo.s (WStep.isub a3_2) ?_
  show WGo _ (3, [wR 0, wI 1, wI 3, wR 1, wI 1, wI 1, wU, wU], [.int 2], (HA p q r b0 b1 b2), u) _
  refine WGo.s (WStep.istore (L' := [wR 0, wI 1, wI 3, wR 1, wI 1, wI 1, wI 2, wU]) a3_3 rfl) ?_
  refine WGo.s (WStep.iload a3_5 rfl) ?_
  refine WGo.s (WStep.iload a3_7 rfl) ?_
  refine WGo.s (WStep.isub a3_9) ?_
  show WGo _ (10, [wR 0, wI 1, wI 3, wR 1, wI 1, wI 1, wI 2, wU], [.int 0], (HA p q r b0 b1 b2), u) _
  refine WGo.s (WStep.iload a3_10 rfl) ?_
  refine WGo.s (WStep.icmpF a3_12 (by decide)) ?_
  refine WGo.s (WStep.iconst (0 : Int32) a3_15 rfl) ?_
  refine WGo.ireturn .boolean a3_16 rfl (by simp) ?_
  exact QB.no (by simp_all)
theorem c3_1312 {Z : State} {a0 : Array Value} (hw : ∀ d ∈ tables_1, d.before a0 Z = true) (ρ : Nat → Nat) (n0 : Nat) (p q r b0 b1 b2 : Int64) (u : Nat) : WGo (g3 Z ρ n0 2 u) (0, [.val (.ref 0), .val (.int 1), .val (.int 3), .val (.ref 1), .val (.int 1), .val (.int 2), .unset, .unset], [], (HA p q r b0 b1 b2), u) (QB (False) (HA p q r b0 b1 b2) u) := by
  refine WGo.s (WStep.iloadN a3_0 rfl) ?_
  refine WGo.s (WStep.iloadN a3_1 rfl) ?_
  refine WGo.s (WStep.isub a3_2) ?_
  show WGo _ (3, [wR 0, wI 1, wI 3, wR 1, wI 1, wI 2, wU, wU], [.int 2], (HA p q r b0 b1 b2), u) _
  refine WGo.s (WStep.istore (L' := [wR 0, wI 1, wI 3, wR 1, wI 1, wI 2, wI 2, wU]) a3_3 rfl) ?_
  refine WGo.s (WStep.iload a3_5 rfl) ?_
  refine WGo.s (WStep.iload a3_7 rfl) ?_
  refine WGo.s (WStep.isub a3_9) ?_
  show WGo _ (10, [wR 0, wI 1, wI 3, wR 1, wI 1, wI 2, wI 2, wU], [.int 1], (HA p q r b0 b1 b2), u) _
  refine WGo.s (WStep.iload a3_10 rfl) ?_
  refine WGo.s (WStep.icmpF a3_12 (by decide)) ?_
  refine WGo.s (WStep.iconst (0 : Int32) a3_15 rfl) ?_
  refine WGo.ireturn .boolean a3_16 rfl (by simp) ?_
  exact QB.no (by simp_all)
theorem c3_1313 {Z : State} {a0 : Array Value} (hw : ∀ d ∈ tables_1, d.before a0 Z = true) (ρ : Nat → Nat) (n0 : Nat) (p q r b0 b1 b2 : Int64) (u : Nat) : WGo (g3 Z ρ n0 2 u) (0, [.val (.ref 0), .val (.int 1), .val (.int 3), .val (.ref 1), .val (.int 1), .val (.int 3), .unset, .unset], [], (HA p q r b0 b1 b2), u) (QB (q = b1 ∧ r = b2) (HA p q r b0 b1 b2) u) := by
  refine WGo.s (WStep.iloadN a3_0 rfl) ?_
  refine WGo.s (WStep.iloadN a3_1 rfl) ?_
  refine WGo.s (WStep.isub a3_2) ?_
  show WGo _ (3, [wR 0, wI 1, wI 3, wR 1, wI 1, wI 3, wU, wU], [.int 2], (HA p q r b0 b1 b2), u) _
  refine WGo.s (WStep.istore (L' := [wR 0, wI 1, wI 3, wR 1, wI 1, wI 3, wI 2, wU]) a3_3 rfl) ?_
  refine WGo.s (WStep.iload a3_5 rfl) ?_
  refine WGo.s (WStep.iload a3_7 rfl) ?_
  refine WGo.s (WStep.isub a3_9) ?_
  show WGo _ (10, [wR 0, wI 1, wI 3, wR 1, wI 1, wI 3, wI 2, wU], [.int 2], (HA p q r b0 b1 b2), u) _
  refine WGo.s (WStep.iload a3_10 rfl) ?_
  refine WGo.s (WStep.icmpT a3_12 (by decide)) ?_
  refine WGo.s (WStep.iconst (0 : Int32) a3_17 rfl) ?_
  refine WGo.s (WStep.istore (L' := [wR 0, wI 1, wI 3, wR 1, wI 1, wI 3, wI 2, wI 0]) a3_18 rfl) ?_
  refine WGo.s (WStep.iload a3_20 rfl) ?_
  refine WGo.s (WStep.iload a3_22 rfl) ?_
  refine WGo.s (WStep.icmpF a3_24 (by decide)) ?_
  refine WGo.s (WStep.aloadN a3_27 rfl rfl) ?_
  refine WGo.s (WStep.iloadN a3_28 rfl) ?_
  refine WGo.s (WStep.iload a3_29 rfl) ?_
  refine WGo.s (WStep.iadd a3_31) ?_
  show WGo _ (32, [wR 0, wI 1, wI 3, wR 1, wI 1, wI 3, wI 2, wI 0], [.int 1, .ref 0], (HA p q r b0 b1 b2), u) _
  refine WGo.s (WStep.laload 1 a3_32 rfl (by decide) rfl rfl) ?_
  refine WGo.s (WStep.aloadN a3_33 rfl rfl) ?_
  refine WGo.s (WStep.iload a3_34 rfl) ?_
  refine WGo.s (WStep.iload a3_36 rfl) ?_
  refine WGo.s (WStep.iadd a3_38) ?_
  show WGo _ (39, [wR 0, wI 1, wI 3, wR 1, wI 1, wI 3, wI 2, wI 0], [.int 1, .ref 1, (.long q)], (HA p q r b0 b1 b2), u) _
  refine WGo.s (WStep.laload 1 a3_39 rfl (by decide) rfl rfl) ?_
  refine WGo.s (WStep.lcmp a3_40) ?_
  refine WGo.eqL a3_41 (fun h41 => ?_) (fun h41 => ?_)
  · refine WGo.s (WStep.iinc (L' := [wR 0, wI 1, wI 3, wR 1, wI 1, wI 3, wI 2, wI 1]) a3_46 rfl rfl) ?_
    refine WGo.s (WStep.goto a3_49) ?_
    refine WGo.s (WStep.iload a3_20 rfl) ?_
    refine WGo.s (WStep.iload a3_22 rfl) ?_
    refine WGo.s (WStep.icmpF a3_24 (by decide)) ?_
    refine WGo.s (WStep.aloadN a3_27 rfl rfl) ?_
    refine WGo.s (WStep.iloadN a3_28 rfl) ?_
    refine WGo.s (WStep.iload a3_29 rfl) ?_
    refine WGo.s (WStep.iadd a3_31) ?_
    show WGo _ (32, [wR 0, wI 1, wI 3, wR 1, wI 1, wI 3, wI 2, wI 1], [.int 2, .ref 0], (HA p q r b0 b1 b2), u) _
    refine WGo.s (WStep.laload 2 a3_32 rfl (by decide) rfl rfl) ?_
    refine WGo.s (WStep.aloadN a3_33 rfl rfl) ?_
    refine WGo.s (WStep.iload a3_34 rfl) ?_
    refine WGo.s (WStep.iload a3_36 rfl) ?_
    refine WGo.s (WStep.iadd a3_38) ?_
    show WGo _ (39, [wR 0, wI 1, wI 3, wR 1, wI 1, wI 3, wI 2, wI 1], [.int 2, .ref 1, (.long r)], (HA p q r b0 b1 b2), u) _
    refine WGo.s (WStep.laload 2 a3_39 rfl (by decide) rfl rfl) ?_
    refine WGo.s (WStep.lcmp a3_40) ?_
    refine WGo.eqL a3_41 (fun h41_1 => ?_) (fun h41_1 => ?_)
    · refine WGo.s (WStep.iinc (L' := [wR 0, wI 1, wI 3, wR 1, wI 1, wI 3, wI 2, wI 2]) a3_46 rfl rfl) ?_
      refine WGo.s (WStep.goto a3_49) ?_
      refine WGo.s (WStep.iload a3_20 rfl) ?_
      refine WGo.s (WStep.iload a3_22 rfl) ?_
      refine WGo.s (WStep.icmpT a3_24 (by decide)) ?_
      refine WGo.s (WStep.iconst (1 : Int32) a3_52 rfl) ?_
      refine WGo.ireturn .boolean a3_53 rfl (by simp) ?_
      exact QB.yes (by simp_all)
    · refine WGo.s (WStep.iconst (0 : Int32) a3_44 rfl) ?_
      refine WGo.ireturn .boolean a3_45 rfl (by simp) ?_
      exact QB.no (by simp_all)
  · refine WGo.s (WStep.iconst (0 : Int32) a3_44 rfl) ?_
    refine WGo.ireturn .boolean a3_45 rfl (by simp) ?_
    exact QB.no (by simp_all)
theorem c3_1322 {Z : State} {a0 : Array Value} (hw : ∀ d ∈ tables_1, d.before a0 Z = true) (ρ : Nat → Nat) (n0 : Nat) (p q r b0 b1 b2 : Int64) (u : Nat) : WGo (g3 Z ρ n0 2 u) (0, [.val (.ref 0), .val (.int 1), .val (.int 3), .val (.ref 1), .val (.int 2), .val (.int 2), .unset, .unset], [], (HA p q r b0 b1 b2), u) (QB (False) (HA p q r b0 b1 b2) u) := by
  refine WGo.s (WStep.iloadN a3_0 rfl) ?_
  refine WGo.s (WStep.iloadN a3_1 rfl) ?_
  refine WGo.s (WStep.isub a3_2) ?_
  show WGo _ (3, [wR 0, wI 1, wI 3, wR 1, wI 2, wI 2, wU, wU], [.int 2], (HA p q r b0 b1 b2), u) _
  refine WGo.s (WStep.istore (L' := [wR 0, wI 1, wI 3, wR 1, wI 2, wI 2, wI 2, wU]) a3_3 rfl) ?_
  refine WGo.s (WStep.iload a3_5 rfl) ?_
  refine WGo.s (WStep.iload a3_7 rfl) ?_
  refine WGo.s (WStep.isub a3_9) ?_
  show WGo _ (10, [wR 0, wI 1, wI 3, wR 1, wI 2, wI 2, wI 2, wU], [.int 0], (HA p q r b0 b1 b2), u) _
  refine WGo.s (WStep.iload a3_10 rfl) ?_
  refine WGo.s (WStep.icmpF a3_12 (by decide)) ?_
  refine WGo.s (WStep.iconst (0 : Int32) a3_15 rfl) ?_
  refine WGo.ireturn .boolean a3_16 rfl (by simp) ?_
  exact QB.no (by simp_all)
theorem c3_1323 {Z : State} {a0 : Array Value} (hw : ∀ d ∈ tables_1, d.before a0 Z = true) (ρ : Nat → Nat) (n0 : Nat) (p q r b0 b1 b2 : Int64) (u : Nat) : WGo (g3 Z ρ n0 2 u) (0, [.val (.ref 0), .val (.int 1), .val (.int 3), .val (.ref 1), .val (.int 2), .val (.int 3), .unset, .unset], [], (HA p q r b0 b1 b2), u) (QB (False) (HA p q r b0 b1 b2) u) := by
  refine WGo.s (WStep.iloadN a3_0 rfl) ?_
  refine WGo.s (WStep.iloadN a3_1 rfl) ?_
  refine WGo.s (WStep.isub a3_2) ?_
  show WGo _ (3, [wR 0, wI 1, wI 3, wR 1, wI 2, wI 3, wU, wU], [.int 2], (HA p q r b0 b1 b2), u) _
  refine WGo.s (WStep.istore (L' := [wR 0, wI 1, wI 3, wR 1, wI 2, wI 3, wI 2, wU]) a3_3 rfl) ?_
  refine WGo.s (WStep.iload a3_5 rfl) ?_
  refine WGo.s (WStep.iload a3_7 rfl) ?_
  refine WGo.s (WStep.isub a3_9) ?_
  show WGo _ (10, [wR 0, wI 1, wI 3, wR 1, wI 2, wI 3, wI 2, wU], [.int 1], (HA p q r b0 b1 b2), u) _
  refine WGo.s (WStep.iload a3_10 rfl) ?_
  refine WGo.s (WStep.icmpF a3_12 (by decide)) ?_
  refine WGo.s (WStep.iconst (0 : Int32) a3_15 rfl) ?_
  refine WGo.ireturn .boolean a3_16 rfl (by simp) ?_
  exact QB.no (by simp_all)
theorem c3_1333 {Z : State} {a0 : Array Value} (hw : ∀ d ∈ tables_1, d.before a0 Z = true) (ρ : Nat → Nat) (n0 : Nat) (p q r b0 b1 b2 : Int64) (u : Nat) : WGo (g3 Z ρ n0 2 u) (0, [.val (.ref 0), .val (.int 1), .val (.int 3), .val (.ref 1), .val (.int 3), .val (.int 3), .unset, .unset], [], (HA p q r b0 b1 b2), u) (QB (False) (HA p q r b0 b1 b2) u) := by
  refine WGo.s (WStep.iloadN a3_0 rfl) ?_
  refine WGo.s (WStep.iloadN a3_1 rfl) ?_
  refine WGo.s (WStep.isub a3_2) ?_
  show WGo _ (3, [wR 0, wI 1, wI 3, wR 1, wI 3, wI 3, wU, wU], [.int 2], (HA p q r b0 b1 b2), u) _
  refine WGo.s (WStep.istore (L' := [wR 0, wI 1, wI 3, wR 1, wI 3, wI 3, wI 2, wU]) a3_3 rfl) ?_
  refine WGo.s (WStep.iload a3_5 rfl) ?_
  refine WGo.s (WStep.iload a3_7 rfl) ?_
  refine WGo.s (WStep.isub a3_9) ?_
  show WGo _ (10, [wR 0, wI 1, wI 3, wR 1, wI 3, wI 3, wI 2, wU], [.int 0], (HA p q r b0 b1 b2), u) _
  refine WGo.s (WStep.iload a3_10 rfl) ?_
  refine WGo.s (WStep.icmpF a3_12 (by decide)) ?_
  refine WGo.s (WStep.iconst (0 : Int32) a3_15 rfl) ?_
  refine WGo.ireturn .boolean a3_16 rfl (by simp) ?_
  exact QB.no (by simp_all)
theorem c3_2200 {Z : State} {a0 : Array Value} (hw : ∀ d ∈ tables_1, d.before a0 Z = true) (ρ : Nat → Nat) (n0 : Nat) (p q r b0 b1 b2 : Int64) (u : Nat) : WGo (g3 Z ρ n0 2 u) (0, [.val (.ref 0), .val (.int 2), .val (.int 2), .val (.ref 1), .val (.int 0), .val (.int 0), .unset, .unset], [], (HA p q r b0 b1 b2), u) (QB (True) (HA p q r b0 b1 b2) u) := by
  refine WGo.s (WStep.iloadN a3_0 rfl) ?_
  refine WGo.s (WStep.iloadN a3_1 rfl) ?_
  refine WGo.s (WStep.isub a3_2) ?_
  show WGo _ (3, [wR 0, wI 2, wI 2, wR 1, wI 0, wI 0, wU, wU], [.int 0], (HA p q r b0 b1 b2), u) _
  refine WGo.s (WStep.istore (L' := [wR 0, wI 2, wI 2, wR 1, wI 0, wI 0, wI 0, wU]) a3_3 rfl) ?_
  refine WGo.s (WStep.iload a3_5 rfl) ?_
  refine WGo.s (WStep.iload a3_7 rfl) ?_
  refine WGo.s (WStep.isub a3_9) ?_
  show WGo _ (10, [wR 0, wI 2, wI 2, wR 1, wI 0, wI 0, wI 0, wU], [.int 0], (HA p q r b0 b1 b2), u) _
  refine WGo.s (WStep.iload a3_10 rfl) ?_
  refine WGo.s (WStep.icmpT a3_12 (by decide)) ?_
  refine WGo.s (WStep.iconst (0 : Int32) a3_17 rfl) ?_
  refine WGo.s (WStep.istore (L' := [wR 0, wI 2, wI 2, wR 1, wI 0, wI 0, wI 0, wI 0]) a3_18 rfl) ?_
  refine WGo.s (WStep.iload a3_20 rfl) ?_
  refine WGo.s (WStep.iload a3_22 rfl) ?_
  refine WGo.s (WStep.icmpT a3_24 (by decide)) ?_
  refine WGo.s (WStep.iconst (1 : Int32) a3_52 rfl) ?_
  refine WGo.ireturn .boolean a3_53 rfl (by simp) ?_
  exact QB.yes (by simp_all)
theorem c3_2201 {Z : State} {a0 : Array Value} (hw : ∀ d ∈ tables_1, d.before a0 Z = true) (ρ : Nat → Nat) (n0 : Nat) (p q r b0 b1 b2 : Int64) (u : Nat) : WGo (g3 Z ρ n0 2 u) (0, [.val (.ref 0), .val (.int 2), .val (.int 2), .val (.ref 1), .val (.int 0), .val (.int 1), .unset, .unset], [], (HA p q r b0 b1 b2), u) (QB (False) (HA p q r b0 b1 b2) u) := by
  refine WGo.s (WStep.iloadN a3_0 rfl) ?_
  refine WGo.s (WStep.iloadN a3_1 rfl) ?_
  refine WGo.s (WStep.isub a3_2) ?_
  show WGo _ (3, [wR 0, wI 2, wI 2, wR 1, wI 0, wI 1, wU, wU], [.int 0], (HA p q r b0 b1 b2), u) _
  refine WGo.s (WStep.istore (L' := [wR 0, wI 2, wI 2, wR 1, wI 0, wI 1, wI 0, wU]) a3_3 rfl) ?_
  refine WGo.s (WStep.iload a3_5 rfl) ?_
  refine WGo.s (WStep.iload a3_7 rfl) ?_
  refine WGo.s (WStep.isub a3_9) ?_
  show WGo _ (10, [wR 0, wI 2, wI 2, wR 1, wI 0, wI 1, wI 0, wU], [.int 1], (HA p q r b0 b1 b2), u) _
  refine WGo.s (WStep.iload a3_10 rfl) ?_
  refine WGo.s (WStep.icmpF a3_12 (by decide)) ?_
  refine WGo.s (WStep.iconst (0 : Int32) a3_15 rfl) ?_
  refine WGo.ireturn .boolean a3_16 rfl (by simp) ?_
  exact QB.no (by simp_all)
theorem c3_2202 {Z : State} {a0 : Array Value} (hw : ∀ d ∈ tables_1, d.before a0 Z = true) (ρ : Nat → Nat) (n0 : Nat) (p q r b0 b1 b2 : Int64) (u : Nat) : WGo (g3 Z ρ n0 2 u) (0, [.val (.ref 0), .val (.int 2), .val (.int 2), .val (.ref 1), .val (.int 0), .val (.int 2), .unset, .unset], [], (HA p q r b0 b1 b2), u) (QB (False) (HA p q r b0 b1 b2) u) := by
  refine WGo.s (WStep.iloadN a3_0 rfl) ?_
  refine WGo.s (WStep.iloadN a3_1 rfl) ?_
  refine WGo.s (WStep.isub a3_2) ?_
  show WGo _ (3, [wR 0, wI 2, wI 2, wR 1, wI 0, wI 2, wU, wU], [.int 0], (HA p q r b0 b1 b2), u) _
  refine WGo.s (WStep.istore (L' := [wR 0, wI 2, wI 2, wR 1, wI 0, wI 2, wI 0, wU]) a3_3 rfl) ?_
  refine WGo.s (WStep.iload a3_5 rfl) ?_
  refine WGo.s (WStep.iload a3_7 rfl) ?_
  refine WGo.s (WStep.isub a3_9) ?_
  show WGo _ (10, [wR 0, wI 2, wI 2, wR 1, wI 0, wI 2, wI 0, wU], [.int 2], (HA p q r b0 b1 b2), u) _
  refine WGo.s (WStep.iload a3_10 rfl) ?_
  refine WGo.s (WStep.icmpF a3_12 (by decide)) ?_
  refine WGo.s (WStep.iconst (0 : Int32) a3_15 rfl) ?_
  refine WGo.ireturn .boolean a3_16 rfl (by simp) ?_
  exact QB.no (by simp_all)
theorem c3_2203 {Z : State} {a0 : Array Value} (hw : ∀ d ∈ tables_1, d.before a0 Z = true) (ρ : Nat → Nat) (n0 : Nat) (p q r b0 b1 b2 : Int64) (u : Nat) : WGo (g3 Z ρ n0 2 u) (0, [.val (.ref 0), .val (.int 2), .val (.int 2), .val (.ref 1), .val (.int 0), .val (.int 3), .unset, .unset], [], (HA p q r b0 b1 b2), u) (QB (False) (HA p q r b0 b1 b2) u) := by
  refine WGo.s (WStep.iloadN a3_0 rfl) ?_
  refine WGo.s (WStep.iloadN a3_1 rfl) ?_
  refine WGo.s (WStep.isub a3_2) ?_
  show WGo _ (3, [wR 0, wI 2, wI 2, wR 1, wI 0, wI 3, wU, wU], [.int 0], (HA p q r b0 b1 b2), u) _
  refine WGo.s (WStep.istore (L' := [wR 0, wI 2, wI 2, wR 1, wI 0, wI 3, wI 0, wU]) a3_3 rfl) ?_
  refine WGo.s (WStep.iload a3_5 rfl) ?_
  refine WGo.s (WStep.iload a3_7 rfl) ?_
  refine WGo.s (WStep.isub a3_9) ?_
  show WGo _ (10, [wR 0, wI 2, wI 2, wR 1, wI 0, wI 3, wI 0, wU], [.int 3], (HA p q r b0 b1 b2), u) _
  refine WGo.s (WStep.iload a3_10 rfl) ?_
  refine WGo.s (WStep.icmpF a3_12 (by decide)) ?_
  refine WGo.s (WStep.iconst (0 : Int32) a3_15 rfl) ?_
  refine WGo.ireturn .boolean a3_16 rfl (by simp) ?_
  exact QB.no (by simp_all)
theorem c3_2211 {Z : State} {a0 : Array Value} (hw : ∀ d ∈ tables_1, d.before a0 Z = true) (ρ : Nat → Nat) (n0 : Nat) (p q r b0 b1 b2 : Int64) (u : Nat) : WGo (g3 Z ρ n0 2 u) (0, [.val (.ref 0), .val (.int 2), .val (.int 2), .val (.ref 1), .val (.int 1), .val (.int 1), .unset, .unset], [], (HA p q r b0 b1 b2), u) (QB (True) (HA p q r b0 b1 b2) u) := by
  refine WGo.s (WStep.iloadN a3_0 rfl) ?_
  refine WGo.s (WStep.iloadN a3_1 rfl) ?_
  refine WGo.s (WStep.isub a3_2) ?_
  show WGo _ (3, [wR 0, wI 2, wI 2, wR 1, wI 1, wI 1, wU, wU], [.int 0], (HA p q r b0 b1 b2), u) _
  refine WGo.s (WStep.istore (L' := [wR 0, wI 2, wI 2, wR 1, wI 1, wI 1, wI 0, wU]) a3_3 rfl) ?_
  refine WGo.s (WStep.iload a3_5 rfl) ?_
  refine WGo.s (WStep.iload a3_7 rfl) ?_
  refine WGo.s (WStep.isub a3_9) ?_
  show WGo _ (10, [wR 0, wI 2, wI 2, wR 1, wI 1, wI 1, wI 0, wU], [.int 0], (HA p q r b0 b1 b2), u) _
  refine WGo.s (WStep.iload a3_10 rfl) ?_
  refine WGo.s (WStep.icmpT a3_12 (by decide)) ?_
  refine WGo.s (WStep.iconst (0 : Int32) a3_17 rfl) ?_
  refine WGo.s (WStep.istore (L' := [wR 0, wI 2, wI 2, wR 1, wI 1, wI 1, wI 0, wI 0]) a3_18 rfl) ?_
  refine WGo.s (WStep.iload a3_20 rfl) ?_
  refine WGo.s (WStep.iload a3_22 rfl) ?_
  refine WGo.s (WStep.icmpT a3_24 (by decide)) ?_
  refine WGo.s (WStep.iconst (1 : Int32) a3_52 rfl) ?_
  refine WGo.ireturn .boolean a3_53 rfl (by simp) ?_
  exact QB.yes (by simp_all)
theorem c3_2212 {Z : State} {a0 : Array Value} (hw : ∀ d ∈ tables_1, d.before a0 Z = true) (ρ : Nat → Nat) (n0 : Nat) (p q r b0 b1 b2 : Int64) (u : Nat) : WGo (g3 Z ρ n0 2 u) (0, [.val (.ref 0), .val (.int 2), .val (.int 2), .val (.ref 1), .val (.int 1), .val (.int 2), .unset, .unset], [], (HA p q r b0 b1 b2), u) (QB (False) (HA p q r b0 b1 b2) u) := by
  refine WGo.s (WStep.iloadN a3_0 rfl) ?_
  refine WGo.s (WStep.iloadN a3_1 rfl) ?_
  refine WGo.s (WStep.isub a3_2) ?_
  show WGo _ (3, [wR 0, wI 2, wI 2, wR 1, wI 1, wI 2, wU, wU], [.int 0], (HA p q r b0 b1 b2), u) _
  refine WGo.s (WStep.istore (L' := [wR 0, wI 2, wI 2, wR 1, wI 1, wI 2, wI 0, wU]) a3_3 rfl) ?_
  refine WGo.s (WStep.iload a3_5 rfl) ?_
  refine WGo.s (WStep.iload a3_7 rfl) ?_
  refine WGo.s (WStep.isub a3_9) ?_
  show WGo _ (10, [wR 0, wI 2, wI 2, wR 1, wI 1, wI 2, wI 0, wU], [.int 1], (HA p q r b0 b1 b2), u) _
  refine WGo.s (WStep.iload a3_10 rfl) ?_
  refine WGo.s (WStep.icmpF a3_12 (by decide)) ?_
  refine WGo.s (WStep.iconst (0 : Int32) a3_15 rfl) ?_
  refine WGo.ireturn .boolean a3_16 rfl (by simp) ?_
  exact QB.no (by simp_all)
theorem c3_2213 {Z : State} {a0 : Array Value} (hw : ∀ d ∈ tables_1, d.before a0 Z = true) (ρ : Nat → Nat) (n0 : Nat) (p q r b0 b1 b2 : Int64) (u : Nat) : WGo (g3 Z ρ n0 2 u) (0, [.val (.ref 0), .val (.int 2), .val (.int 2), .val (.ref 1), .val (.int 1), .val (.int 3), .unset, .unset], [], (HA p q r b0 b1 b2), u) (QB (False) (HA p q r b0 b1 b2) u) := by
  refine WGo.s (WStep.iloadN a3_0 rfl) ?_
  refine WGo.s (WStep.iloadN a3_1 rfl) ?_
  refine WGo.s (WStep.isub a3_2) ?_
  show WGo _ (3, [wR 0, wI 2, wI 2, wR 1, wI 1, wI 3, wU, wU], [.int 0], (HA p q r b0 b1 b2), u) _
  refine WGo.s (WStep.istore (L' := [wR 0, wI 2, wI 2, wR 1, wI 1, wI 3, wI 0, wU]) a3_3 rfl) ?_
  refine WGo.s (WStep.iload a3_5 rfl) ?_
  refine WGo.s (WStep.iload a3_7 rfl) ?_
  refine WGo.s (WStep.isub a3_9) ?_
  show WGo _ (10, [wR 0, wI 2, wI 2, wR 1, wI 1, wI 3, wI 0, wU], [.int 2], (HA p q r b0 b1 b2), u) _
  refine WGo.s (WStep.iload a3_10 rfl) ?_
  refine WGo.s (WStep.icmpF a3_12 (by decide)) ?_
  refine WGo.s (WStep.iconst (0 : Int32) a3_15 rfl) ?_
  refine WGo.ireturn .boolean a3_16 rfl (by simp) ?_
  exact QB.no (by simp_all)
theorem c3_2222 {Z : State} {a0 : Array Value} (hw : ∀ d ∈ tables_1, d.before a0 Z = true) (ρ : Nat → Nat) (n0 : Nat) (p q r b0 b1 b2 : Int64) (u : Nat) : WGo (g3 Z ρ n0 2 u) (0, [.val (.ref 0), .val (.int 2), .val (.int 2), .val (.ref 1), .val (.int 2), .val (.int 2), .unset, .unset], [], (HA p q r b0 b1 b2), u) (QB (True) (HA p q r b0 b1 b2) u) := by
  refine WGo.s (WStep.iloadN a3_0 rfl) ?_
  refine WGo.s (WStep.iloadN a3_1 rfl) ?_
  refine WGo.s (WStep.isub a3_2) ?_
  show WGo _ (3, [wR 0, wI 2, wI 2, wR 1, wI 2, wI 2, wU, wU], [.int 0], (HA p q r b0 b1 b2), u) _
  refine WGo.s (WStep.istore (L' := [wR 0, wI 2, wI 2, wR 1, wI 2, wI 2, wI 0, wU]) a3_3 rfl) ?_
  refine WGo.s (WStep.iload a3_5 rfl) ?_
  refine WGo.s (WStep.iload a3_7 rfl) ?_
  refine WGo.s (WStep.isub a3_9) ?_
  show WGo _ (10, [wR 0, wI 2, wI 2, wR 1, wI 2, wI 2, wI 0, wU], [.int 0], (HA p q r b0 b1 b2), u) _
  refine WGo.s (WStep.iload a3_10 rfl) ?_
  refine WGo.s (WStep.icmpT a3_12 (by decide)) ?_
  refine WGo.s (WStep.iconst (0 : Int32) a3_17 rfl) ?_
  refine WGo.s (WStep.istore (L' := [wR 0, wI 2, wI 2, wR 1, wI 2, wI 2, wI 0, wI 0]) a3_18 rfl) ?_
  refine WGo.s (WStep.iload a3_20 rfl) ?_
  refine WGo.s (WStep.iload a3_22 rfl) ?_
  refine WGo.s (WStep.icmpT a3_24 (by decide)) ?_
  refine WGo.s (WStep.iconst (1 : Int32) a3_52 rfl) ?_
  refine WGo.ireturn .boolean a3_53 rfl (by simp) ?_
  exact QB.yes (by simp_all)
theorem c3_2223 {Z : State} {a0 : Array Value} (hw : ∀ d ∈ tables_1, d.before a0 Z = true) (ρ : Nat → Nat) (n0 : Nat) (p q r b0 b1 b2 : Int64) (u : Nat) : WGo (g3 Z ρ n0 2 u) (0, [.val (.ref 0), .val (.int 2), .val (.int 2), .val (.ref 1), .val (.int 2), .val (.int 3), .unset, .unset], [], (HA p q r b0 b1 b2), u) (QB (False) (HA p q r b0 b1 b2) u) := by
  refine WGo.s (WStep.iloadN a3_0 rfl) ?_
  refine WGo.s (WStep.iloadN a3_1 rfl) ?_
  refine WGo.s (WStep.isub a3_2) ?_
  show WGo _ (3, [wR 0, wI 2, wI 2, wR 1, wI 2, wI 3, wU, wU], [.int 0], (HA p q r b0 b1 b2), u) _
  refine WGo.s (WStep.istore (L' := [wR 0, wI 2, wI 2, wR 1, wI 2, wI 3, wI 0, wU]) a3_3 rfl) ?_
  refine WGo.s (WStep.iload a3_5 rfl) ?_
  refine WGo.s (WStep.iload a3_7 rfl) ?_
  refine WGo.s (WStep.isub a3_9) ?_
  show WGo _ (10, [wR 0, wI 2, wI 2, wR 1, wI 2, wI 3, wI 0, wU], [.int 1], (HA p q r b0 b1 b2), u) _
  refine WGo.s (WStep.iload a3_10 rfl) ?_
  refine WGo.s (WStep.icmpF a3_12 (by decide)) ?_
  refine WGo.s (WStep.iconst (0 : Int32) a3_15 rfl) ?_
  refine WGo.ireturn .boolean a3_16 rfl (by simp) ?_
  exact QB.no (by simp_all)
theorem c3_2233 {Z : State} {a0 : Array Value} (hw : ∀ d ∈ tables_1, d.before a0 Z = true) (ρ : Nat → Nat) (n0 : Nat) (p q r b0 b1 b2 : Int64) (u : Nat) : WGo (g3 Z ρ n0 2 u) (0, [.val (.ref 0), .val (.int 2), .val (.int 2), .val (.ref 1), .val (.int 3), .val (.int 3), .unset, .unset], [], (HA p q r b0 b1 b2), u) (QB (True) (HA p q r b0 b1 b2) u) := by
  refine WGo.s (WStep.iloadN a3_0 rfl) ?_
  refine WGo.s (WStep.iloadN a3_1 rfl) ?_
  refine WGo.s (WStep.isub a3_2) ?_
  show WGo _ (3, [wR 0, wI 2, wI 2, wR 1, wI 3, wI 3, wU, wU], [.int 0], (HA p q r b0 b1 b2), u) _
  refine WGo.s (WStep.istore (L' := [wR 0, wI 2, wI 2, wR 1, wI 3, wI 3, wI 0, wU]) a3_3 rfl) ?_
  refine WGo.s (WStep.iload a3_5 rfl) ?_
  refine WGo.s (WStep.iload a3_7 rfl) ?_
  refine WGo.s (WStep.isub a3_9) ?_
  show WGo _ (10, [wR 0, wI 2, wI 2, wR 1, wI 3, wI 3, wI 0, wU], [.int 0], (HA p q r b0 b1 b2), u) _
  refine WGo.s (WStep.iload a3_10 rfl) ?_
  refine WGo.s (WStep.icmpT a3_12 (by decide)) ?_
  refine WGo.s (WStep.iconst (0 : Int32) a3_17 rfl) ?_
  refine WGo.s (WStep.istore (L' := [wR 0, wI 2, wI 2, wR 1, wI 3, wI 3, wI 0, wI 0]) a3_18 rfl) ?_
  refine WGo.s (WStep.iload a3_20 rfl) ?_
  refine WGo.s (WStep.iload a3_22 rfl) ?_
  refine WGo.s (WStep.icmpT a3_24 (by decide)) ?_
  refine WGo.s (WStep.iconst (1 : Int32) a3_52 rfl) ?_
  refine WGo.ireturn .boolean a3_53 rfl (by simp) ?_
  exact QB.yes (by simp_all)
theorem c3_2300 {Z : State} {a0 : Array Value} (hw : ∀ d ∈ tables_1, d.before a0 Z = true) (ρ : Nat → Nat) (n0 : Nat) (p q r b0 b1 b2 : Int64) (u : Nat) : WGo (g3 Z ρ n0 2 u) (0, [.val (.ref 0), .val (.int 2), .val (.int 3), .val (.ref 1), .val (.int 0), .val (.int 0), .unset, .unset], [], (HA p q r b0 b1 b2), u) (QB (False) (HA p q r b0 b1 b2) u) := by
  refine WGo.s (WStep.iloadN a3_0 rfl) ?_
  refine WGo.s (WStep.iloadN a3_1 rfl) ?_
  refine WGo.s (WStep.isub a3_2) ?_
  show WGo _ (3, [wR 0, wI 2, wI 3, wR 1, wI 0, wI 0, wU, wU], [.int 1], (HA p q r b0 b1 b2), u) _
  refine WGo.s (WStep.istore (L' := [wR 0, wI 2, wI 3, wR 1, wI 0, wI 0, wI 1, wU]) a3_3 rfl) ?_
  refine WGo.s (WStep.iload a3_5 rfl) ?_
  refine WGo.s (WStep.iload a3_7 rfl) ?_
  refine WGo.s (WStep.isub a3_9) ?_
  show WGo _ (10, [wR 0, wI 2, wI 3, wR 1, wI 0, wI 0, wI 1, wU], [.int 0], (HA p q r b0 b1 b2), u) _
  refine WGo.s (WStep.iload a3_10 rfl) ?_
  refine WGo.s (WStep.icmpF a3_12 (by decide)) ?_
  refine WGo.s (WStep.iconst (0 : Int32) a3_15 rfl) ?_
  refine WGo.ireturn .boolean a3_16 rfl (by simp) ?_
  exact QB.no (by simp_all)
theorem c3_2301 {Z : State} {a0 : Array Value} (hw : ∀ d ∈ tables_1, d.before a0 Z = true) (ρ : Nat → Nat) (n0 : Nat) (p q r b0 b1 b2 : Int64) (u : Nat) : WGo (g3 Z ρ n0 2 u) (0, [.val (.ref 0), .val (.int 2), .val (.int 3), .val (.ref 1), .val (.int 0), .val (.int 1), .unset, .unset], [], (HA p q r b0 b1 b2), u) (QB (r = b0) (HA p q r b0 b1 b2) u) := by
  refine WGo.s (WStep.iloadN a3_0 rfl) ?_
  refine WGo.s (WStep.iloadN a3_1 rfl) ?_
  refine WGo.s (WStep.isub a3_2) ?_
  show WGo _ (3, [wR 0, wI 2, wI 3, wR 1, wI 0, wI 1, wU, wU], [.int 1], (HA p q r b0 b1 b2), u) _
  refine WGo.s (WStep.istore (L' := [wR 0, wI 2, wI 3, wR 1, wI 0, wI 1, wI 1, wU]) a3_3 rfl) ?_
  refine WGo.s (WStep.iload a3_5 rfl) ?_
  refine WGo.s (WStep.iload a3_7 rfl) ?_
  refine WGo.s (WStep.isub a3_9) ?_
  show WGo _ (10, [wR 0, wI 2, wI 3, wR 1, wI 0, wI 1, wI 1, wU], [.int 1], (HA p q r b0 b1 b2), u) _
  refine WGo.s (WStep.iload a3_10 rfl) ?_
  refine WGo.s (WStep.icmpT a3_12 (by decide)) ?_
  refine WGo.s (WStep.iconst (0 : Int32) a3_17 rfl) ?_
  refine WGo.s (WStep.istore (L' := [wR 0, wI 2, wI 3, wR 1, wI 0, wI 1, wI 1, wI 0]) a3_18 rfl) ?_
  refine WGo.s (WStep.iload a3_20 rfl) ?_
  refine WGo.s (WStep.iload a3_22 rfl) ?_
  refine WGo.s (WStep.icmpF a3_24 (by decide)) ?_
  refine WGo.s (WStep.aloadN a3_27 rfl rfl) ?_
  refine WGo.s (WStep.iloadN a3_28 rfl) ?_
  refine WGo.s (WStep.iload a3_29 rfl) ?_
  refine WGo.s (WStep.iadd a3_31) ?_
  show WGo _ (32, [wR 0, wI 2, wI 3, wR 1, wI 0, wI 1, wI 1, wI 0], [.int 2, .ref 0], (HA p q r b0 b1 b2), u) _
  refine WGo.s (WStep.laload 2 a3_32 rfl (by decide) rfl rfl) ?_
  refine WGo.s (WStep.aloadN a3_33 rfl rfl) ?_
  refine WGo.s (WStep.iload a3_34 rfl) ?_
  refine WGo.s (WStep.iload a3_36 rfl) ?_
  refine WGo.s (WStep.iadd a3_38) ?_
  show WGo _ (39, [wR 0, wI 2, wI 3, wR 1, wI 0, wI 1, wI 1, wI 0], [.int 0, .ref 1, (.long r)], (HA p q r b0 b1 b2), u) _
  refine WGo.s (WStep.laload 0 a3_39 rfl (by decide) rfl rfl) ?_
  refine WGo.s (WStep.lcmp a3_40) ?_
  refine WGo.eqL a3_41 (fun h41 => ?_) (fun h41 => ?_)
  · refine WGo.s (WStep.iinc (L' := [wR 0, wI 2, wI 3, wR 1, wI 0, wI 1, wI 1, wI 1]) a3_46 rfl rfl) ?_
    refine WGo.s (WStep.goto a3_49) ?_
    refine WGo.s (WStep.iload a3_20 rfl) ?_
    refine WGo.s (WStep.iload a3_22 rfl) ?_
    refine WGo.s (WStep.icmpT a3_24 (by decide)) ?_
    refine WGo.s (WStep.iconst (1 : Int32) a3_52 rfl) ?_
    refine WGo.ireturn .boolean a3_53 rfl (by simp) ?_
    exact QB.yes (by simp_all)
  · refine WGo.s (WStep.iconst (0 : Int32) a3_44 rfl) ?_
    refine WGo.ireturn .boolean a3_45 rfl (by simp) ?_
    exact QB.no (by simp_all)
theorem c3_2302 {Z : State} {a0 : Array Value} (hw : ∀ d ∈ tables_1, d.before a0 Z = true) (ρ : Nat → Nat) (n0 : Nat) (p q r b0 b1 b2 : Int64) (u : Nat) : WGo (g3 Z ρ n0 2 u) (0, [.val (.ref 0), .val (.int 2), .val (.int 3), .val (.ref 1), .val (.int 0), .val (.int 2), .unset, .unset], [], (HA p q r b0 b1 b2), u) (QB (False) (HA p q r b0 b1 b2) u) := by
  refine WGo.s (WStep.iloadN a3_0 rfl) ?_
  refine WGo.s (WStep.iloadN a3_1 rfl) ?_
  refine WGo.s (WStep.isub a3_2) ?_
  show WGo _ (3, [wR 0, wI 2, wI 3, wR 1, wI 0, wI 2, wU, wU], [.int 1], (HA p q r b0 b1 b2), u) _
  refine WGo.s (WStep.istore (L' := [wR 0, wI 2, wI 3, wR 1, wI 0, wI 2, wI 1, wU]) a3_3 rfl) ?_
  refine WGo.s (WStep.iload a3_5 rfl) ?_
  refine WGo.s (WStep.iload a3_7 rfl) ?_
  refine WGo.s (WStep.isub a3_9) ?_
  show WGo _ (10, [wR 0, wI 2, wI 3, wR 1, wI 0, wI 2, wI 1, wU], [.int 2], (HA p q r b0 b1 b2), u) _
  refine WGo.s (WStep.iload a3_10 rfl) ?_
  refine WGo.s (WStep.icmpF a3_12 (by decide)) ?_
  refine WGo.s (WStep.iconst (0 : Int32) a3_15 rfl) ?_
  refine WGo.ireturn .boolean a3_16 rfl (by simp) ?_
  exact QB.no (by simp_all)
theorem c3_2303 {Z : State} {a0 : Array Value} (hw : ∀ d ∈ tables_1, d.before a0 Z = true) (ρ : Nat → Nat) (n0 : Nat) (p q r b0 b1 b2 : Int64) (u : Nat) : WGo (g3 Z ρ n0 2 u) (0, [.val (.ref 0), .val (.int 2), .val (.int 3), .val (.ref 1), .val (.int 0), .val (.int 3), .unset, .unset], [], (HA p q r b0 b1 b2), u) (QB (False) (HA p q r b0 b1 b2) u) := by
  refine WGo.s (WStep.iloadN a3_0 rfl) ?_
  refine WGo.s (WStep.iloadN a3_1 rfl) ?_
  refine WGo.s (WStep.isub a3_2) ?_
  show WGo _ (3, [wR 0, wI 2, wI 3, wR 1, wI 0, wI 3, wU, wU], [.int 1], (HA p q r b0 b1 b2), u) _
  refine WGo.s (WStep.istore (L' := [wR 0, wI 2, wI 3, wR 1, wI 0, wI 3, wI 1, wU]) a3_3 rfl) ?_
  refine WGo.s (WStep.iload a3_5 rfl) ?_
  refine WGo.s (WStep.iload a3_7 rfl) ?_
  refine WGo.s (WStep.isub a3_9) ?_
  show WGo _ (10, [wR 0, wI 2, wI 3, wR 1, wI 0, wI 3, wI 1, wU], [.int 3], (HA p q r b0 b1 b2), u) _
  refine WGo.s (WStep.iload a3_10 rfl) ?_
  refine WGo.s (WStep.icmpF a3_12 (by decide)) ?_
  refine WGo.s (WStep.iconst (0 : Int32) a3_15 rfl) ?_
  refine WGo.ireturn .boolean a3_16 rfl (by simp) ?_
  exact QB.no (by simp_all)
theorem c3_2311 {Z : State} {a0 : Array Value} (hw : ∀ d ∈ tables_1, d.before a0 Z = true) (ρ : Nat → Nat) (n0 : Nat) (p q r b0 b1 b2 : Int64) (u : Nat) : WGo (g3 Z ρ n0 2 u) (0, [.val (.ref 0), .val (.int 2), .val (.int 3), .val (.ref 1), .val (.int 1), .val (.int 1), .unset, .unset], [], (HA p q r b0 b1 b2), u) (QB (False) (HA p q r b0 b1 b2) u) := by
  refine WGo.s (WStep.iloadN a3_0 rfl) ?_
  refine WGo.s (WStep.iloadN a3_1 rfl) ?_
  refine WGo.s (WStep.isub a3_2) ?_
  show WGo _ (3, [wR 0, wI 2, wI 3, wR 1, wI 1, wI 1, wU, wU], [.int 1], (HA p q r b0 b1 b2), u) _
  refine WGo.s (WStep.istore (L' := [wR 0, wI 2, wI 3, wR 1, wI 1, wI 1, wI 1, wU]) a3_3 rfl) ?_
  refine WGo.s (WStep.iload a3_5 rfl) ?_
  refine WGo.s (WStep.iload a3_7 rfl) ?_
  refine WGo.s (WStep.isub a3_9) ?_
  show WGo _ (10, [wR 0, wI 2, wI 3, wR 1, wI 1, wI 1, wI 1, wU], [.int 0], (HA p q r b0 b1 b2), u) _
  refine WGo.s (WStep.iload a3_10 rfl) ?_
  refine WGo.s (WStep.icmpF a3_12 (by decide)) ?_
  refine WGo.s (WStep.iconst (0 : Int32) a3_15 rfl) ?_
  refine WGo.ireturn .boolean a3_16 rfl (by simp) ?_
  exact QB.no (by simp_all)
theorem c3_2312 {Z : State} {a0 : Array Value} (hw : ∀ d ∈ tables_1, d.before a0 Z = true) (ρ : Nat → Nat) (n0 : Nat) (p q r b0 b1 b2 : Int64) (u : Nat) : WGo (g3 Z ρ n0 2 u) (0, [.val (.ref 0), .val (.int 2), .val (.int 3), .val (.ref 1), .val (.int 1), .val (.int 2), .unset, .unset], [], (HA p q r b0 b1 b2), u) (QB (r = b1) (HA p q r b0 b1 b2) u) := by
  refine WGo.s (WStep.iloadN a3_0 rfl) ?_
  refine WGo.s (WStep.iloadN a3_1 rfl) ?_
  refine WGo.s (WStep.isub a3_2) ?_
  show WGo _ (3, [wR 0, wI 2, wI 3, wR 1, wI 1, wI 2, wU, wU], [.int 1], (HA p q r b0 b1 b2), u) _
  refine WGo.s (WStep.istore (L' := [wR 0, wI 2, wI 3, wR 1, wI 1, wI 2, wI 1, wU]) a3_3 rfl) ?_
  refine WGo.s (WStep.iload a3_5 rfl) ?_
  refine WGo.s (WStep.iload a3_7 rfl) ?_
  refine WGo.s (WStep.isub a3_9) ?_
  show WGo _ (10, [wR 0, wI 2, wI 3, wR 1, wI 1, wI 2, wI 1, wU], [.int 1], (HA p q r b0 b1 b2), u) _
  refine WGo.s (WStep.iload a3_10 rfl) ?_
  refine WGo.s (WStep.icmpT a3_12 (by decide)) ?_
  refine WGo.s (WStep.iconst (0 : Int32) a3_17 rfl) ?_
  refine WGo.s (WStep.istore (L' := [wR 0, wI 2, wI 3, wR 1, wI 1, wI 2, wI 1, wI 0]) a3_18 rfl) ?_
  refine WGo.s (WStep.iload a3_20 rfl) ?_
  refine WGo.s (WStep.iload a3_22 rfl) ?_
  refine WGo.s (WStep.icmpF a3_24 (by decide)) ?_
  refine WGo.s (WStep.aloadN a3_27 rfl rfl) ?_
  refine WGo.s (WStep.iloadN a3_28 rfl) ?_
  refine WGo.s (WStep.iload a3_29 rfl) ?_
  refine WGo.s (WStep.iadd a3_31) ?_
  show WGo _ (32, [wR 0, wI 2, wI 3, wR 1, wI 1, wI 2, wI 1, wI 0], [.int 2, .ref 0], (HA p q r b0 b1 b2), u) _
  refine WGo.s (WStep.laload 2 a3_32 rfl (by decide) rfl rfl) ?_
  refine WGo.s (WStep.aloadN a3_33 rfl rfl) ?_
  refine WGo.s (WStep.iload a3_34 rfl) ?_
  refine WGo.s (WStep.iload a3_36 rfl) ?_
  refine WGo.s (WStep.iadd a3_38) ?_
  show WGo _ (39, [wR 0, wI 2, wI 3, wR 1, wI 1, wI 2, wI 1, wI 0], [.int 1, .ref 1, (.long r)], (HA p q r b0 b1 b2), u) _
  refine WGo.s (WStep.laload 1 a3_39 rfl (by decide) rfl rfl) ?_
  refine WGo.s (WStep.lcmp a3_40) ?_
  refine WGo.eqL a3_41 (fun h41 => ?_) (fun h41 => ?_)
  · refine WGo.s (WStep.iinc (L' := [wR 0, wI 2, wI 3, wR 1, wI 1, wI 2, wI 1, wI 1]) a3_46 rfl rfl) ?_
    refine WGo.s (WStep.goto a3_49) ?_
    refine WGo.s (WStep.iload a3_20 rfl) ?_
    refine WGo.s (WStep.iload a3_22 rfl) ?_
    refine WGo.s (WStep.icmpT a3_24 (by decide)) ?_
    refine WGo.s (WStep.iconst (1 : Int32) a3_52 rfl) ?_
    refine WGo.ireturn .boolean a3_53 rfl (by simp) ?_
    exact QB.yes (by simp_all)
  · refine WGo.s (WStep.iconst (0 : Int32) a3_44 rfl) ?_
    refine WGo.ireturn .boolean a3_45 rfl (by simp) ?_
    exact QB.no (by simp_all)
theorem c3_2313 {Z : State} {a0 : Array Value} (hw : ∀ d ∈ tables_1, d.before a0 Z = true) (ρ : Nat → Nat) (n0 : Nat) (p q r b0 b1 b2 : Int64) (u : Nat) : WGo (g3 Z ρ n0 2 u) (0, [.val (.ref 0), .val (.int 2), .val (.int 3), .val (.ref 1), .val (.int 1), .val (.int 3), .unset, .unset], [], (HA p q r b0 b1 b2), u) (QB (False) (HA p q r b0 b1 b2) u) := by
  refine WGo.s (WStep.iloadN a3_0 rfl) ?_
  refine WGo.s (WStep.iloadN a3_1 rfl) ?_
  refine WGo.s (WStep.isub a3_2) ?_
  show WGo _ (3, [wR 0, wI 2, wI 3, wR 1, wI 1, wI 3, wU, wU], [.int 1], (HA p q r b0 b1 b2), u) _
  refine WGo.s (WStep.istore (L' := [wR 0, wI 2, wI 3, wR 1, wI 1, wI 3, wI 1, wU]) a3_3 rfl) ?_
  refine WGo.s (WStep.iload a3_5 rfl) ?_
  refine WGo.s (WStep.iload a3_7 rfl) ?_
  refine WGo.s (WStep.isub a3_9) ?_
  show WGo _ (10, [wR 0, wI 2, wI 3, wR 1, wI 1, wI 3, wI 1, wU], [.int 2], (HA p q r b0 b1 b2), u) _
  refine WGo.s (WStep.iload a3_10 rfl) ?_
  refine WGo.s (WStep.icmpF a3_12 (by decide)) ?_
  refine WGo.s (WStep.iconst (0 : Int32) a3_15 rfl) ?_
  refine WGo.ireturn .boolean a3_16 rfl (by simp) ?_
  exact QB.no (by simp_all)
theorem c3_2322 {Z : State} {a0 : Array Value} (hw : ∀ d ∈ tables_1, d.before a0 Z = true) (ρ : Nat → Nat) (n0 : Nat) (p q r b0 b1 b2 : Int64) (u : Nat) : WGo (g3 Z ρ n0 2 u) (0, [.val (.ref 0), .val (.int 2), .val (.int 3), .val (.ref 1), .val (.int 2), .val (.int 2), .unset, .unset], [], (HA p q r b0 b1 b2), u) (QB (False) (HA p q r b0 b1 b2) u) := by
  refine WGo.s (WStep.iloadN a3_0 rfl) ?_
  refine WGo.s (WStep.iloadN a3_1 rfl) ?_
  refine WGo.s (WStep.isub a3_2) ?_
  show WGo _ (3, [wR 0, wI 2, wI 3, wR 1, wI 2, wI 2, wU, wU], [.int 1], (HA p q r b0 b1 b2), u) _
  refine WGo.s (WStep.istore (L' := [wR 0, wI 2, wI 3, wR 1, wI 2, wI 2, wI 1, wU]) a3_3 rfl) ?_
  refine WGo.s (WStep.iload a3_5 rfl) ?_
  refine WGo.s (WStep.iload a3_7 rfl) ?_
  refine WGo.s (WStep.isub a3_9) ?_
  show WGo _ (10, [wR 0, wI 2, wI 3, wR 1, wI 2, wI 2, wI 1, wU], [.int 0], (HA p q r b0 b1 b2), u) _
  refine WGo.s (WStep.iload a3_10 rfl) ?_
  refine WGo.s (WStep.icmpF a3_12 (by decide)) ?_
  refine WGo.s (WStep.iconst (0 : Int32) a3_15 rfl) ?_
  refine WGo.ireturn .boolean a3_16 rfl (by simp) ?_
  exact QB.no (by simp_all)
theorem c3_2323 {Z : State} {a0 : Array Value} (hw : ∀ d ∈ tables_1, d.before a0 Z = true) (ρ : Nat → Nat) (n0 : Nat) (p q r b0 b1 b2 : Int64) (u : Nat) : WGo (g3 Z ρ n0 2 u) (0, [.val (.ref 0), .val (.int 2), .val (.int 3), .val (.ref 1), .val (.int 2), .val (.int 3), .unset, .unset], [], (HA p q r b0 b1 b2), u) (QB (r = b2) (HA p q r b0 b1 b2) u) := by
  refine WGo.s (WStep.iloadN a3_0 rfl) ?_
  refine WGo.s (WStep.iloadN a3_1 rfl) ?_
  refine WGo.s (WStep.isub a3_2) ?_
  show WGo _ (3, [wR 0, wI 2, wI 3, wR 1, wI 2, wI 3, wU, wU], [.int 1], (HA p q r b0 b1 b2), u) _
  refine WGo.s (WStep.istore (L' := [wR 0, wI 2, wI 3, wR 1, wI 2, wI 3, wI 1, wU]) a3_3 rfl) ?_
  refine WGo.s (WStep.iload a3_5 rfl) ?_
  refine WGo.s (WStep.iload a3_7 rfl) ?_
  refine WGo.s (WStep.isub a3_9) ?_
  show WGo _ (10, [wR 0, wI 2, wI 3, wR 1, wI 2, wI 3, wI 1, wU], [.int 1], (HA p q r b0 b1 b2), u) _
  refine WGo.s (WStep.iload a3_10 rfl) ?_
  refine WGo.s (WStep.icmpT a3_12 (by decide)) ?_
  refine WGo.s (WStep.iconst (0 : Int32) a3_17 rfl) ?_
  refine WGo.s (WStep.istore (L' := [wR 0, wI 2, wI 3, wR 1, wI 2, wI 3, wI 1, wI 0]) a3_18 rfl) ?_
  refine WGo.s (WStep.iload a3_20 rfl) ?_
  refine WGo.s (WStep.iload a3_22 rfl) ?_
  refine WGo.s (WStep.icmpF a3_24 (by decide)) ?_
  refine WGo.s (WStep.aloadN a3_27 rfl rfl) ?_
  refine WGo.s (WStep.iloadN a3_28 rfl) ?_
  refine WGo.s (WStep.iload a3_29 rfl) ?_
  refine WGo.s (WStep.iadd a3_31) ?_
  show WGo _ (32, [wR 0, wI 2, wI 3, wR 1, wI 2, wI 3, wI 1, wI 0], [.int 2, .ref 0], (HA p q r b0 b1 b2), u) _
  refine WGo.s (WStep.laload 2 a3_32 rfl (by decide) rfl rfl) ?_
  refine WGo.s (WStep.aloadN a3_33 rfl rfl) ?_
  refine WGo.s (WStep.iload a3_34 rfl) ?_
  refine WGo.s (WStep.iload a3_36 rfl) ?_
  refine WGo.s (WStep.iadd a3_38) ?_
  show WGo _ (39, [wR 0, wI 2, wI 3, wR 1, wI 2, wI 3, wI 1, wI 0], [.int 2, .ref 1, (.long r)], (HA p q r b0 b1 b2), u) _
  refine WGo.s (WStep.laload 2 a3_39 rfl (by decide) rfl rfl) ?_
  refine WGo.s (WStep.lcmp a3_40) ?_
  refine WGo.eqL a3_41 (fun h41 => ?_) (fun h41 => ?_)
  · refine WGo.s (WStep.iinc (L' := [wR 0, wI 2, wI 3, wR 1, wI 2, wI 3, wI 1, wI 1]) a3_46 rfl rfl) ?_
    refine WGo.s (WStep.goto a3_49) ?_
    refine WGo.s (WStep.iload a3_20 rfl) ?_
    refine WGo.s (WStep.iload a3_22 rfl) ?_
    refine WGo.s (WStep.icmpT a3_24 (by decide)) ?_
    refine WGo.s (WStep.iconst (1 : Int32) a3_52 rfl) ?_
    refine WGo.ireturn .boolean a3_53 rfl (by simp) ?_
    exact QB.yes (by simp_all)
  · refine WGo.s (WStep.iconst (0 : Int32) a3_44 rfl) ?_
    refine WGo.ireturn .boolean a3_45 rfl (by simp) ?_
    exact QB.no (by simp_all)
theorem c3_2333 {Z : State} {a0 : Array Value} (hw : ∀ d ∈ tables_1, d.before a0 Z = true) (ρ : Nat → Nat) (n0 : Nat) (p q r b0 b1 b2 : Int64) (u : Nat) : WGo (g3 Z ρ n0 2 u) (0, [.val (.ref 0), .val (.int 2), .val (.int 3), .val (.ref 1), .val (.int 3), .val (.int 3), .unset, .unset], [], (HA p q r b0 b1 b2), u) (QB (False) (HA p q r b0 b1 b2) u) := by
  refine WGo.s (WStep.iloadN a3_0 rfl) ?_
  refine WGo.s (WStep.iloadN a3_1 rfl) ?_
  refine WGo.s (WStep.isub a3_2) ?_
  show WGo _ (3, [wR 0, wI 2, wI 3, wR 1, wI 3, wI 3, wU, wU], [.int 1], (HA p q r b0 b1 b2), u) _
  refine WGo.s (WStep.istore (L' := [wR 0, wI 2, wI 3, wR 1, wI 3, wI 3, wI 1, wU]) a3_3 rfl) ?_
  refine WGo.s (WStep.iload a3_5 rfl) ?_
  refine WGo.s (WStep.iload a3_7 rfl) ?_
  refine WGo.s (WStep.isub a3_9) ?_
  show WGo _ (10, [wR 0, wI 2, wI 3, wR 1, wI 3, wI 3, wI 1, wU], [.int 0], (HA p q r b0 b1 b2), u) _
  refine WGo.s (WStep.iload a3_10 rfl) ?_
  refine WGo.s (WStep.icmpF a3_12 (by decide)) ?_
  refine WGo.s (WStep.iconst (0 : Int32) a3_15 rfl) ?_
  refine WGo.ireturn .boolean a3_16 rfl (by simp) ?_
  exact QB.no (by simp_all)
theorem c3_3300 {Z : State} {a0 : Array Value} (hw : ∀ d ∈ tables_1, d.before a0 Z = true) (ρ : Nat → Nat) (n0 : Nat) (p q r b0 b1 b2 : Int64) (u : Nat) : WGo (g3 Z ρ n0 2 u) (0, [.val (.ref 0), .val (.int 3), .val (.int 3), .val (.ref 1), .val (.int 0), .val (.int 0), .unset, .unset], [], (HA p q r b0 b1 b2), u) (QB (True) (HA p q r b0 b1 b2) u) := by
  refine WGo.s (WStep.iloadN a3_0 rfl) ?_
  refine WGo.s (WStep.iloadN a3_1 rfl) ?_
  refine WGo.s (WStep.isub a3_2) ?_
  show WGo _ (3, [wR 0, wI 3, wI 3, wR 1, wI 0, wI 0, wU, wU], [.int 0], (HA p q r b0 b1 b2), u) _
  refine WGo.s (WStep.istore (L' := [wR 0, wI 3, wI 3, wR 1, wI 0, wI 0, wI 0, wU]) a3_3 rfl) ?_
  refine WGo.s (WStep.iload a3_5 rfl) ?_
  refine WGo.s (WStep.iload a3_7 rfl) ?_
  refine WGo.s (WStep.isub a3_9) ?_
  show WGo _ (10, [wR 0, wI 3, wI 3, wR 1, wI 0, wI 0, wI 0, wU], [.int 0], (HA p q r b0 b1 b2), u) _
  refine WGo.s (WStep.iload a3_10 rfl) ?_
  refine WGo.s (WStep.icmpT a3_12 (by decide)) ?_
  refine WGo.s (WStep.iconst (0 : Int32) a3_17 rfl) ?_
  refine WGo.s (WStep.istore (L' := [wR 0, wI 3, wI 3, wR 1, wI 0, wI 0, wI 0, wI 0]) a3_18 rfl) ?_
  refine WGo.s (WStep.iload a3_20 rfl) ?_
  refine WGo.s (WStep.iload a3_22 rfl) ?_
  refine WGo.s (WStep.icmpT a3_24 (by decide)) ?_
  refine WGo.s (WStep.iconst (1 : Int32) a3_52 rfl) ?_
  refine WGo.ireturn .boolean a3_53 rfl (by simp) ?_
  exact QB.yes (by simp_all)
theorem c3_3301 {Z : State} {a0 : Array Value} (hw : ∀ d ∈ tables_1, d.before a0 Z = true) (ρ : Nat → Nat) (n0 : Nat) (p q r b0 b1 b2 : Int64) (u : Nat) : WGo (g3 Z ρ n0 2 u) (0, [.val (.ref 0), .val (.int 3), .val (.int 3), .val (.ref 1), .val (.int 0), .val (.int 1), .unset, .unset], [], (HA p q r b0 b1 b2), u) (QB (False) (HA p q r b0 b1 b2) u) := by
  refine WGo.s (WStep.iloadN a3_0 rfl) ?_
  refine WGo.s (WStep.iloadN a3_1 rfl) ?_
  refine WGo.s (WStep.isub a3_2) ?_
  show WGo _ (3, [wR 0, wI 3, wI 3, wR 1, wI 0, wI 1, wU, wU], [.int 0], (HA p q r b0 b1 b2), u) _
  refine WGo.s (WStep.istore (L' := [wR 0, wI 3, wI 3, wR 1, wI 0, wI 1, wI 0, wU]) a3_3 rfl) ?_
  refine WGo.s (WStep.iload a3_5 rfl) ?_
  refine WGo.s (WStep.iload a3_7 rfl) ?_
  refine WGo.s (WStep.isub a3_9) ?_
  show WGo _ (10, [wR 0, wI 3, wI 3, wR 1, wI 0, wI 1, wI 0, wU], [.int 1], (HA p q r b0 b1 b2), u) _
  refine WGo.s (WStep.iload a3_10 rfl) ?_
  refine WGo.s (WStep.icmpF a3_12 (by decide)) ?_
  refine WGo.s (WStep.iconst (0 : Int32) a3_15 rfl) ?_
  refine WGo.ireturn .boolean a3_16 rfl (by simp) ?_
  exact QB.no (by simp_all)
theorem c3_3302 {Z : State} {a0 : Array Value} (hw : ∀ d ∈ tables_1, d.before a0 Z = true) (ρ : Nat → Nat) (n0 : Nat) (p q r b0 b1 b2 : Int64) (u : Nat) : WGo (g3 Z ρ n0 2 u) (0, [.val (.ref 0), .val (.int 3), .val (.int 3), .val (.ref 1), .val (.int 0), .val (.int 2), .unset, .unset], [], (HA p q r b0 b1 b2), u) (QB (False) (HA p q r b0 b1 b2) u) := by
  refine WGo.s (WStep.iloadN a3_0 rfl) ?_
  refine WGo.s (WStep.iloadN a3_1 rfl) ?_
  refine WGo.s (WStep.isub a3_2) ?_
  show WGo _ (3, [wR 0, wI 3, wI 3, wR 1, wI 0, wI 2, wU, wU], [.int 0], (HA p q r b0 b1 b2), u) _
  refine WGo.s (WStep.istore (L' := [wR 0, wI 3, wI 3, wR 1, wI 0, wI 2, wI 0, wU]) a3_3 rfl) ?_
  refine WGo.s (WStep.iload a3_5 rfl) ?_
  refine WGo.s (WStep.iload a3_7 rfl) ?_
  refine WGo.s (WStep.isub a3_9) ?_
  show WGo _ (10, [wR 0, wI 3, wI 3, wR 1, wI 0, wI 2, wI 0, wU], [.int 2], (HA p q r b0 b1 b2), u) _
  refine WGo.s (WStep.iload a3_10 rfl) ?_
  refine WGo.s (WStep.icmpF a3_12 (by decide)) ?_
  refine WGo.s (WStep.iconst (0 : Int32) a3_15 rfl) ?_
  refine WGo.ireturn .boolean a3_16 rfl (by simp) ?_
  exact QB.no (by simp_all)
theorem c3_3303 {Z : State} {a0 : Array Value} (hw : ∀ d ∈ tables_1, d.before a0 Z = true) (ρ : Nat → Nat) (n0 : Nat) (p q r b0 b1 b2 : Int64) (u : Nat) : WGo (g3 Z ρ n0 2 u) (0, [.val (.ref 0), .val (.int 3), .val (.int 3), .val (.ref 1), .val (.int 0), .val (.int 3), .unset, .unset], [], (HA p q r b0 b1 b2), u) (QB (False) (HA p q r b0 b1 b2) u) := by
  refine WGo.s (WStep.iloadN a3_0 rfl) ?_
  refine WGo.s (WStep.iloadN a3_1 rfl) ?_
  refine WGo.s (WStep.isub a3_2) ?_
  show WGo _ (3, [wR 0, wI 3, wI 3, wR 1, wI 0, wI 3, wU, wU], [.int 0], (HA p q r b0 b1 b2), u) _
  refine WGo.s (WStep.istore (L' := [wR 0, wI 3, wI 3, wR 1, wI 0, wI 3, wI 0, wU]) a3_3 rfl) ?_
  refine WGo.s (WStep.iload a3_5 rfl) ?_
  refine WGo.s (WStep.iload a3_7 rfl) ?_
  refine WGo.s (WStep.isub a3_9) ?_
  show WGo _ (10, [wR 0, wI 3, wI 3, wR 1, wI 0, wI 3, wI 0, wU], [.int 3], (HA p q r b0 b1 b2), u) _
  refine WGo.s (WStep.iload a3_10 rfl) ?_
  refine WGo.s (WStep.icmpF a3_12 (by decide)) ?_
  refine WGo.s (WStep.iconst (0 : Int32) a3_15 rfl) ?_
  refine WGo.ireturn .boolean a3_16 rfl (by simp) ?_
  exact QB.no (by simp_all)
theorem c3_3311 {Z : State} {a0 : Array Value} (hw : ∀ d ∈ tables_1, d.before a0 Z = true) (ρ : Nat → Nat) (n0 : Nat) (p q r b0 b1 b2 : Int64) (u : Nat) : WGo (g3 Z ρ n0 2 u) (0, [.val (.ref 0), .val (.int 3), .val (.int 3), .val (.ref 1), .val (.int 1), .val (.int 1), .unset, .unset], [], (HA p q r b0 b1 b2), u) (QB (True) (HA p q r b0 b1 b2) u) := by
  refine WGo.s (WStep.iloadN a3_0 rfl) ?_
  refine WGo.s (WStep.iloadN a3_1 rfl) ?_
  refine WGo.s (WStep.isub a3_2) ?_
  show WGo _ (3, [wR 0, wI 3, wI 3, wR 1, wI 1, wI 1, wU, wU], [.int 0], (HA p q r b0 b1 b2), u) _
  refine WGo.s (WStep.istore (L' := [wR 0, wI 3, wI 3, wR 1, wI 1, wI 1, wI 0, wU]) a3_3 rfl) ?_
  refine WGo.s (WStep.iload a3_5 rfl) ?_
  refine WGo.s (WStep.iload a3_7 rfl) ?_
  refine WGo.s (WStep.isub a3_9) ?_
  show WGo _ (10, [wR 0, wI 3, wI 3, wR 1, wI 1, wI 1, wI 0, wU], [.int 0], (HA p q r b0 b1 b2), u) _
  refine WGo.s (WStep.iload a3_10 rfl) ?_
  refine WGo.s (WStep.icmpT a3_12 (by decide)) ?_
  refine WGo.s (WStep.iconst (0 : Int32) a3_17 rfl) ?_
  refine WGo.s (WStep.istore (L' := [wR 0, wI 3, wI 3, wR 1, wI 1, wI 1, wI 0, wI 0]) a3_18 rfl) ?_
  refine WGo.s (WStep.iload a3_20 rfl) ?_
  refine WGo.s (WStep.iload a3_22 rfl) ?_
  refine WGo.s (WStep.icmpT a3_24 (by decide)) ?_
  refine WGo.s (WStep.iconst (1 : Int32) a3_52 rfl) ?_
  refine WGo.ireturn .boolean a3_53 rfl (by simp) ?_
  exact QB.yes (by simp_all)
theorem c3_3312 {Z : State} {a0 : Array Value} (hw : ∀ d ∈ tables_1, d.before a0 Z = true) (ρ : Nat → Nat) (n0 : Nat) (p q r b0 b1 b2 : Int64) (u : Nat) : WGo (g3 Z ρ n0 2 u) (0, [.val (.ref 0), .val (.int 3), .val (.int 3), .val (.ref 1), .val (.int 1), .val (.int 2), .unset, .unset], [], (HA p q r b0 b1 b2), u) (QB (False) (HA p q r b0 b1 b2) u) := by
  refine WGo.s (WStep.iloadN a3_0 rfl) ?_
  refine WGo.s (WStep.iloadN a3_1 rfl) ?_
  refine WGo.s (WStep.isub a3_2) ?_
  show WGo _ (3, [wR 0, wI 3, wI 3, wR 1, wI 1, wI 2, wU, wU], [.int 0], (HA p q r b0 b1 b2), u) _
  refine WGo.s (WStep.istore (L' := [wR 0, wI 3, wI 3, wR 1, wI 1, wI 2, wI 0, wU]) a3_3 rfl) ?_
  refine WGo.s (WStep.iload a3_5 rfl) ?_
  refine WGo.s (WStep.iload a3_7 rfl) ?_
  refine WGo.s (WStep.isub a3_9) ?_
  show WGo _ (10, [wR 0, wI 3, wI 3, wR 1, wI 1, wI 2, wI 0, wU], [.int 1], (HA p q r b0 b1 b2), u) _
  refine WGo.s (WStep.iload a3_10 rfl) ?_
  refine WGo.s (WStep.icmpF a3_12 (by decide)) ?_
  refine WGo.s (WStep.iconst (0 : Int32) a3_15 rfl) ?_
  refine WGo.ireturn .boolean a3_16 rfl (by simp) ?_
  exact QB.no (by simp_all)
theorem c3_3313 {Z : State} {a0 : Array Value} (hw : ∀ d ∈ tables_1, d.before a0 Z = true) (ρ : Nat → Nat) (n0 : Nat) (p q r b0 b1 b2 : Int64) (u : Nat) : WGo (g3 Z ρ n0 2 u) (0, [.val (.ref 0), .val (.int 3), .val (.int 3), .val (.ref 1), .val (.int 1), .val (.int 3), .unset, .unset], [], (HA p q r b0 b1 b2), u) (QB (False) (HA p q r b0 b1 b2) u) := by
  refine WGo.s (WStep.iloadN a3_0 rfl) ?_
  refine WGo.s (WStep.iloadN a3_1 rfl) ?_
  refine WGo.s (WStep.isub a3_2) ?_
  show WGo _ (3, [wR 0, wI 3, wI 3, wR 1, wI 1, wI 3, wU, wU], [.int 0], (HA p q r b0 b1 b2), u) _
  refine WGo.s (WStep.istore (L' := [wR 0, wI 3, wI 3, wR 1, wI 1, wI 3, wI 0, wU]) a3_3 rfl) ?_
  refine WGo.s (WStep.iload a3_5 rfl) ?_
  refine WGo.s (WStep.iload a3_7 rfl) ?_
  refine WGo.s (WStep.isub a3_9) ?_
  show WGo _ (10, [wR 0, wI 3, wI 3, wR 1, wI 1, wI 3, wI 0, wU], [.int 2], (HA p q r b0 b1 b2), u) _
  refine WGo.s (WStep.iload a3_10 rfl) ?_
  refine WGo.s (WStep.icmpF a3_12 (by decide)) ?_
  refine WGo.s (WStep.iconst (0 : Int32) a3_15 rfl) ?_
  refine WGo.ireturn .boolean a3_16 rfl (by simp) ?_
  exact QB.no (by simp_all)
theorem c3_3322 {Z : State} {a0 : Array Value} (hw : ∀ d ∈ tables_1, d.before a0 Z = true) (ρ : Nat → Nat) (n0 : Nat) (p q r b0 b1 b2 : Int64) (u : Nat) : WGo (g3 Z ρ n0 2 u) (0, [.val (.ref 0), .val (.int 3), .val (.int 3), .val (.ref 1), .val (.int 2), .val (.int 2), .unset, .unset], [], (HA p q r b0 b1 b2), u) (QB (True) (HA p q r b0 b1 b2) u) := by
  refine WGo.s (WStep.iloadN a3_0 rfl) ?_
  refine WGo.s (WStep.iloadN a3_1 rfl) ?_
  refine WGo.s (WStep.isub a3_2) ?_
  show WGo _ (3, [wR 0, wI 3, wI 3, wR 1, wI 2, wI 2, wU, wU], [.int 0], (HA p q r b0 b1 b2), u) _
  refine WGo.s (WStep.istore (L' := [wR 0, wI 3, wI 3, wR 1, wI 2, wI 2, wI 0, wU]) a3_3 rfl) ?_
  refine WGo.s (WStep.iload a3_5 rfl) ?_
  refine WGo.s (WStep.iload a3_7 rfl) ?_
  refine WGo.s (WStep.isub a3_9) ?_
  show WGo _ (10, [wR 0, wI 3, wI 3, wR 1, wI 2, wI 2, wI 0, wU], [.int 0], (HA p q r b0 b1 b2), u) _
  refine WGo.s (WStep.iload a3_10 rfl) ?_
  refine WGo.s (WStep.icmpT a3_12 (by decide)) ?_
  refine WGo.s (WStep.iconst (0 : Int32) a3_17 rfl) ?_
  refine WGo.s (WStep.istore (L' := [wR 0, wI 3, wI 3, wR 1, wI 2, wI 2, wI 0, wI 0]) a3_18 rfl) ?_
  refine WGo.s (WStep.iload a3_20 rfl) ?_
  refine WGo.s (WStep.iload a3_22 rfl) ?_
  refine WGo.s (WStep.icmpT a3_24 (by decide)) ?_
  refine WGo.s (WStep.iconst (1 : Int32) a3_52 rfl) ?_
  refine WGo.ireturn .boolean a3_53 rfl (by simp) ?_
  exact QB.yes (by simp_all)
theorem c3_3323 {Z : State} {a0 : Array Value} (hw : ∀ d ∈ tables_1, d.before a0 Z = true) (ρ : Nat → Nat) (n0 : Nat) (p q r b0 b1 b2 : Int64) (u : Nat) : WGo (g3 Z ρ n0 2 u) (0, [.val (.ref 0), .val (.int 3), .val (.int 3), .val (.ref 1), .val (.int 2), .val (.int 3), .unset, .unset], [], (HA p q r b0 b1 b2), u) (QB (False) (HA p q r b0 b1 b2) u) := by
  refine WGo.s (WStep.iloadN a3_0 rfl) ?_
  refine WGo.s (WStep.iloadN a3_1 rfl) ?_
  refine WGo.s (WStep.isub a3_2) ?_
  show WGo _ (3, [wR 0, wI 3, wI 3, wR 1, wI 2, wI 3, wU, wU], [.int 0], (HA p q r b0 b1 b2), u) _
  refine WGo.s (WStep.istore (L' := [wR 0, wI 3, wI 3, wR 1, wI 2, wI 3, wI 0, wU]) a3_3 rfl) ?_
  refine WGo.s (WStep.iload a3_5 rfl) ?_
  refine WGo.s (WStep.iload a3_7 rfl) ?_
  refine WGo.s (WStep.isub a3_9) ?_
  show WGo _ (10, [wR 0, wI 3, wI 3, wR 1, wI 2, wI 3, wI 0, wU], [.int 1], (HA p q r b0 b1 b2), u) _
  refine WGo.s (WStep.iload a3_10 rfl) ?_
  refine WGo.s (WStep.icmpF a3_12 (by decide)) ?_
  refine WGo.s (WStep.iconst (0 : Int32) a3_15 rfl) ?_
  refine WGo.ireturn .boolean a3_16 rfl (by simp) ?_
  exact QB.no (by simp_all)
theorem c3_3333 {Z : State} {a0 : Array Value} (hw : ∀ d ∈ tables_1, d.before a0 Z = true) (ρ : Nat → Nat) (n0 : Nat) (p q r b0 b1 b2 : Int64) (u : Nat) : WGo (g3 Z ρ n0 2 u) (0, [.val (.ref 0), .val (.int 3), .val (.int 3), .val (.ref 1), .val (.int 3), .val (.int 3), .unset, .unset], [], (HA p q r b0 b1 b2), u) (QB (True) (HA p q r b0 b1 b2) u) := by
  refine WGo.s (WStep.iloadN a3_0 rfl) ?_
  refine WGo.s (WStep.iloadN a3_1 rfl) ?_
  refine WGo.s (WStep.isub a3_2) ?_
  show WGo _ (3, [wR 0, wI 3, wI 3, wR 1, wI 3, wI 3, wU, wU], [.int 0], (HA p q r b0 b1 b2), u) _
  refine WGo.s (WStep.istore (L' := [wR 0, wI 3, wI 3, wR 1, wI 3, wI 3, wI 0, wU]) a3_3 rfl) ?_
  refine WGo.s (WStep.iload a3_5 rfl) ?_
  refine WGo.s (WStep.iload a3_7 rfl) ?_
  refine WGo.s (WStep.isub a3_9) ?_
  show WGo _ (10, [wR 0, wI 3, wI 3, wR 1, wI 3, wI 3, wI 0, wU], [.int 0], (HA p q r b0 b1 b2), u) _
  refine WGo.s (WStep.iload a3_10 rfl) ?_
  refine WGo.s (WStep.icmpT a3_12 (by decide)) ?_
  refine WGo.s (WStep.iconst (0 : Int32) a3_17 rfl) ?_
  refine WGo.s (WStep.istore (L' := [wR 0, wI 3, wI 3, wR 1, wI 3, wI 3, wI 0, wI 0]) a3_18 rfl) ?_
  refine WGo.s (WStep.iload a3_20 rfl) ?_
  refine WGo.s (WStep.iload a3_22 rfl) ?_
  refine WGo.s (WStep.icmpT a3_24 (by decide)) ?_
  refine WGo.s (WStep.iconst (1 : Int32) a3_52 rfl) ?_
  refine WGo.ireturn .boolean a3_53 rfl (by simp) ?_
  exact QB.yes (by simp_all)
theorem segE0 (Z : State) (a0 : Array Value) (hw : ∀ d ∈ tables_1, d.before a0 Z = true) (n0 : Nat) (p q r b0 b1 b2 : Int64) (ra rb mix : Int32) (x17 x18 x19 x20 x21 x22 : Int32) : WGo (g0 Z (fun k => n0 + k) n0 0 0) (246, (LA p q r b0 b1 b2 ra rb mix [wI x17, wI x18, wI x19, wI x20, wI x21, wI x22, wI 0, wI 0, wU]), [], (HA p q r b0 b1 b2), 6) (fun v σ' u' => v = some (.int 1) ∧ σ'.length ≤ 16 ∧ u' ≤ 128) := by
  refine WGo.s (WStep.aload a0_246 rfl rfl) ?_
  refine WGo.s (WStep.iconst (0 : Int32) a0_248 rfl) ?_
  refine WGo.s (WStep.laload 0 a0_249 rfl (by decide) rfl rfl) ?_
  refine WGo.s (WStep.lloadN a0_250 rfl) ?_
  refine WGo.s (WStep.lcmp a0_251) ?_
  refine WGo.s (WStep.ifF a0_252 (teq ((lw_eq _ _).mpr rfl)).2) ?_
  refine WGo.s (WStep.aload a0_255 rfl rfl) ?_
  refine WGo.s (WStep.iconst (1 : Int32) a0_257 rfl) ?_
  refine WGo.s (WStep.laload 1 a0_258 rfl (by decide) rfl rfl) ?_
  refine WGo.s (WStep.lloadN a0_259 rfl) ?_
  refine WGo.s (WStep.lcmp a0_260) ?_
  refine WGo.s (WStep.ifF a0_261 (teq ((lw_eq _ _).mpr rfl)).2) ?_
  refine WGo.s (WStep.aload a0_264 rfl rfl) ?_
  refine WGo.s (WStep.iconst (2 : Int32) a0_266 rfl) ?_
  refine WGo.s (WStep.laload 2 a0_267 rfl (by decide) rfl rfl) ?_
  refine WGo.s (WStep.lload a0_268 rfl) ?_
  refine WGo.s (WStep.lcmp a0_270) ?_
  refine WGo.s (WStep.ifF a0_271 (teq ((lw_eq _ _).mpr rfl)).2) ?_
  refine WGo.s (WStep.aload a0_274 rfl rfl) ?_
  refine WGo.s (WStep.iconst (0 : Int32) a0_276 rfl) ?_
  refine WGo.s (WStep.laload 0 a0_277 rfl (by decide) rfl rfl) ?_
  refine WGo.s (WStep.lload a0_278 rfl) ?_
  refine WGo.s (WStep.lcmp a0_280) ?_
  refine WGo.s (WStep.ifF a0_281 (teq ((lw_eq _ _).mpr rfl)).2) ?_
  refine WGo.s (WStep.aload a0_284 rfl rfl) ?_
  refine WGo.s (WStep.iconst (1 : Int32) a0_286 rfl) ?_
  refine WGo.s (WStep.laload 1 a0_287 rfl (by decide) rfl rfl) ?_
  refine WGo.s (WStep.lload a0_288 rfl) ?_
  refine WGo.s (WStep.lcmp a0_290) ?_
  refine WGo.s (WStep.ifF a0_291 (teq ((lw_eq _ _).mpr rfl)).2) ?_
  refine WGo.s (WStep.aload a0_294 rfl rfl) ?_
  refine WGo.s (WStep.iconst (2 : Int32) a0_296 rfl) ?_
  refine WGo.s (WStep.laload 2 a0_297 rfl (by decide) rfl rfl) ?_
  refine WGo.s (WStep.lload a0_298 rfl) ?_
  refine WGo.s (WStep.lcmp a0_300) ?_
  refine WGo.s (WStep.ifF a0_301 (teq ((lw_eq _ _).mpr rfl)).2) ?_
  refine WGo.s (WStep.iconst (1 : Int32) a0_304 rfl) ?_
  refine WGo.s (WStep.goto a0_305) ?_
  refine WGo.s (WStep.istore (L' := (LA p q r b0 b1 b2 ra rb mix [wI x17, wI x18, wI x19, wI x20, wI x21, wI x22, wI 0, wI 0, wI 1])) a0_309 rfl) ?_
  refine WGo.s (WStep.iload a0_311 rfl) ?_
  refine WGo.s (WStep.iload a0_313 rfl) ?_
  refine WGo.s (WStep.icmpF a0_315 (by decide)) ?_
  refine WGo.s (WStep.iload a0_318 rfl) ?_
  refine WGo.s (WStep.ifF a0_320 (by decide)) ?_
  refine WGo.s (WStep.iconst (1 : Int32) a0_323 rfl) ?_
  refine WGo.s (WStep.goto a0_324) ?_
  refine WGo.ireturn .boolean a0_328 rfl (by simp) ?_
  exact ⟨rfl, Nat.le_of_ble_eq_true rfl, Nat.le_of_ble_eq_true rfl⟩
theorem segE1 (Z : State) (a0 : Array Value) (hw : ∀ d ∈ tables_1, d.before a0 Z = true) (n0 : Nat) (p q r b0 b1 b2 : Int64) (ra rb mix : Int32) (x17 x18 x19 x20 x21 x22 : Int32) : WGo (g0 Z (fun k => n0 + k) n0 0 0) (246, (LA p q r b0 b1 b2 ra rb mix [wI x17, wI x18, wI x19, wI x20, wI x21, wI x22, wI 1, wI 1, wU]), [], (HA p q r b0 b1 b2), 6) (fun v σ' u' => v = some (.int 1) ∧ σ'.length ≤ 16 ∧ u' ≤ 128) := by
  refine WGo.s (WStep.aload a0_246 rfl rfl) ?_
  refine WGo.s (WStep.iconst (0 : Int32) a0_248 rfl) ?_
  refine WGo.s (WStep.laload 0 a0_249 rfl (by decide) rfl rfl) ?_
  refine WGo.s (WStep.lloadN a0_250 rfl) ?_
  refine WGo.s (WStep.lcmp a0_251) ?_
  refine WGo.s (WStep.ifF a0_252 (teq ((lw_eq _ _).mpr rfl)).2) ?_
  refine WGo.s (WStep.aload a0_255 rfl rfl) ?_
  refine WGo.s (WStep.iconst (1 : Int32) a0_257 rfl) ?_
  refine WGo.s (WStep.laload 1 a0_258 rfl (by decide) rfl rfl) ?_
  refine WGo.s (WStep.lloadN a0_259 rfl) ?_
  refine WGo.s (WStep.lcmp a0_260) ?_
  refine WGo.s (WStep.ifF a0_261 (teq ((lw_eq _ _).mpr rfl)).2) ?_
  refine WGo.s (WStep.aload a0_264 rfl rfl) ?_
  refine WGo.s (WStep.iconst (2 : Int32) a0_266 rfl) ?_
  refine WGo.s (WStep.laload 2 a0_267 rfl (by decide) rfl rfl) ?_
  refine WGo.s (WStep.lload a0_268 rfl) ?_
  refine WGo.s (WStep.lcmp a0_270) ?_
  refine WGo.s (WStep.ifF a0_271 (teq ((lw_eq _ _).mpr rfl)).2) ?_
  refine WGo.s (WStep.aload a0_274 rfl rfl) ?_
  refine WGo.s (WStep.iconst (0 : Int32) a0_276 rfl) ?_
  refine WGo.s (WStep.laload 0 a0_277 rfl (by decide) rfl rfl) ?_
  refine WGo.s (WStep.lload a0_278 rfl) ?_
  refine WGo.s (WStep.lcmp a0_280) ?_
  refine WGo.s (WStep.ifF a0_281 (teq ((lw_eq _ _).mpr rfl)).2) ?_
  refine WGo.s (WStep.aload a0_284 rfl rfl) ?_
  refine WGo.s (WStep.iconst (1 : Int32) a0_286 rfl) ?_
  refine WGo.s (WStep.laload 1 a0_287 rfl (by decide) rfl rfl) ?_
  refine WGo.s (WStep.lload a0_288 rfl) ?_
  refine WGo.s (WStep.lcmp a0_290) ?_
  refine WGo.s (WStep.ifF a0_291 (teq ((lw_eq _ _).mpr rfl)).2) ?_
  refine WGo.s (WStep.aload a0_294 rfl rfl) ?_
  refine WGo.s (WStep.iconst (2 : Int32) a0_296 rfl) ?_
  refine WGo.s (WStep.laload 2 a0_297 rfl (by decide) rfl rfl) ?_
  refine WGo.s (WStep.lload a0_298 rfl) ?_
  refine WGo.s (WStep.lcmp a0_300) ?_
  refine WGo.s (WStep.ifF a0_301 (teq ((lw_eq _ _).mpr rfl)).2) ?_
  refine WGo.s (WStep.iconst (1 : Int32) a0_304 rfl) ?_
  refine WGo.s (WStep.goto a0_305) ?_
  refine WGo.s (WStep.istore (L' := (LA p q r b0 b1 b2 ra rb mix [wI x17, wI x18, wI x19, wI x20, wI x21, wI x22, wI 1, wI 1, wI 1])) a0_309 rfl) ?_
  refine WGo.s (WStep.iload a0_311 rfl) ?_
  refine WGo.s (WStep.iload a0_313 rfl) ?_
  refine WGo.s (WStep.icmpF a0_315 (by decide)) ?_
  refine WGo.s (WStep.iload a0_318 rfl) ?_
  refine WGo.s (WStep.ifF a0_320 (by decide)) ?_
  refine WGo.s (WStep.iconst (1 : Int32) a0_323 rfl) ?_
  refine WGo.s (WStep.goto a0_324) ?_
  refine WGo.ireturn .boolean a0_328 rfl (by simp) ?_
  exact ⟨rfl, Nat.le_of_ble_eq_true rfl, Nat.le_of_ble_eq_true rfl⟩
theorem segD0000 (Z : State) (a0 : Array Value) (hw : ∀ d ∈ tables_1, d.before a0 Z = true) (n0 : Nat) (p q r b0 b1 b2 : Int64) (ra rb mix : Int32) : WGo (g0 Z (fun k => n0 + k) n0 0 0) (123, (LA p q r b0 b1 b2 ra rb mix [wI 0, wI 0, wI 0, wI 0, wU, wU, wU, wU, wU]), [], (HA p q r b0 b1 b2), 6) (fun v σ' u' => v = some (.int 1) ∧ σ'.length ≤ 16 ∧ u' ≤ 128) := by
  refine WGo.s (WStep.iload a0_123 rfl) ?_
  refine WGo.s (WStep.iload a0_125 rfl) ?_
  refine WGo.s (WStep.isub a0_127) ?_
  show WGo _ (128, (LA p q r b0 b1 b2 ra rb mix [wI 0, wI 0, wI 0, wI 0, wU, wU, wU, wU, wU]), [.int 0], (HA p q r b0 b1 b2), 6) _
  refine WGo.s (WStep.istore (L' := (LA p q r b0 b1 b2 ra rb mix [wI 0, wI 0, wI 0, wI 0, wI 0, wU, wU, wU, wU])) a0_128 rfl) ?_
  refine WGo.s (WStep.iload a0_130 rfl) ?_
  refine WGo.s (WStep.iload a0_132 rfl) ?_
  refine WGo.s (WStep.isub a0_134) ?_
  show WGo _ (135, (LA p q r b0 b1 b2 ra rb mix [wI 0, wI 0, wI 0, wI 0, wI 0, wU, wU, wU, wU]), [.int 0], (HA p q r b0 b1 b2), 6) _
  refine WGo.s (WStep.istore (L' := (LA p q r b0 b1 b2 ra rb mix [wI 0, wI 0, wI 0, wI 0, wI 0, wI 0, wU, wU, wU])) a0_135 rfl) ?_
  refine WGo.s (WStep.iload a0_137 rfl) ?_
  refine WGo.s (WStep.iload a0_139 rfl) ?_
  refine WGo.s (WStep.icmpT a0_141 (by decide)) ?_
  refine WGo.s (WStep.iconst (1 : Int32) a0_150 rfl) ?_
  refine WGo.s (WStep.istore (L' := (LA p q r b0 b1 b2 ra rb mix [wI 0, wI 0, wI 0, wI 0, wI 0, wI 0, wI 1, wU, wU])) a0_151 rfl) ?_
  refine WGo.s (WStep.iload a0_153 rfl) ?_
  refine WGo.s (WStep.ifT a0_155 (by decide)) ?_
  refine WGo.s (WStep.iload a0_175 rfl) ?_
  refine WGo.s (WStep.iconst (1 : Int32) a0_177 rfl) ?_
  refine WGo.s (WStep.icmpT a0_178 (by decide)) ?_
  refine WGo.s (WStep.iload a0_202 rfl) ?_
  refine WGo.s (WStep.iconst (2 : Int32) a0_204 rfl) ?_
  refine WGo.s (WStep.icmpT a0_205 (by decide)) ?_
  refine WGo.s (WStep.aload a0_229 rfl rfl) ?_
  refine WGo.s (WStep.iload a0_231 rfl) ?_
  refine WGo.s (WStep.iload a0_233 rfl) ?_
  refine WGo.s (WStep.aload a0_235 rfl rfl) ?_
  refine WGo.s (WStep.iload a0_237 rfl) ?_
  refine WGo.s (WStep.iload a0_239 rfl) ?_
  refine WGo.callS a0_241 (ok3 hw _ _ _ _) (wd hw 10 rfl) (wd hw 11 rfl) (argsL := [.ref 0, .int 0, .int 0, .ref 1, .int 0, .int 0]) (S := []) (c3_0000 hw _ _ p q r b0 b1 b2 _) rfl rfl rfl rfl rfl rfl (Nat.le_of_ble_eq_true rfl) (Nat.le_of_ble_eq_true rfl) ?_
  rintro _ _ _ ⟨⟨rfl, hE⟩ | ⟨rfl, hE⟩, rfl, rfl⟩
  · skip
    show WGo _ (244, (LA p q r b0 b1 b2 ra rb mix [wI 0, wI 0, wI 0, wI 0, wI 0, wI 0, wI 1, wU, wU]), [.int 1], (HA p q r b0 b1 b2), 6) _
    refine WGo.s (WStep.istore (L' := (LA p q r b0 b1 b2 ra rb mix [wI 0, wI 0, wI 0, wI 0, wI 0, wI 0, wI 1, wI 1, wU])) a0_244 rfl) ?_
    exact segE1 Z a0 hw n0 p q r b0 b1 b2 ra rb mix _ _ _ _ _ _
  · exfalso
    simp_all
theorem segD0001 (Z : State) (a0 : Array Value) (hw : ∀ d ∈ tables_1, d.before a0 Z = true) (n0 : Nat) (p q r b0 b1 b2 : Int64) (ra rb mix : Int32) : WGo (g0 Z (fun k => n0 + k) n0 0 0) (123, (LA p q r b0 b1 b2 ra rb mix [wI 0, wI 0, wI 0, wI 1, wU, wU, wU, wU, wU]), [], (HA p q r b0 b1 b2), 6) (fun v σ' u' => v = some (.int 1) ∧ σ'.length ≤ 16 ∧ u' ≤ 128) := by
  refine WGo.s (WStep.iload a0_123 rfl) ?_
  refine WGo.s (WStep.iload a0_125 rfl) ?_
  refine WGo.s (WStep.isub a0_127) ?_
  show WGo _ (128, (LA p q r b0 b1 b2 ra rb mix [wI 0, wI 0, wI 0, wI 1, wU, wU, wU, wU, wU]), [.int 0], (HA p q r b0 b1 b2), 6) _
  refine WGo.s (WStep.istore (L' := (LA p q r b0 b1 b2 ra rb mix [wI 0, wI 0, wI 0, wI 1, wI 0, wU, wU, wU, wU])) a0_128 rfl) ?_
  refine WGo.s (WStep.iload a0_130 rfl) ?_
  refine WGo.s (WStep.iload a0_132 rfl) ?_
  refine WGo.s (WStep.isub a0_134) ?_
  show WGo _ (135, (LA p q r b0 b1 b2 ra rb mix [wI 0, wI 0, wI 0, wI 1, wI 0, wU, wU, wU, wU]), [.int 1], (HA p q r b0 b1 b2), 6) _
  refine WGo.s (WStep.istore (L' := (LA p q r b0 b1 b2 ra rb mix [wI 0, wI 0, wI 0, wI 1, wI 0, wI 1, wU, wU, wU])) a0_135 rfl) ?_
  refine WGo.s (WStep.iload a0_137 rfl) ?_
  refine WGo.s (WStep.iload a0_139 rfl) ?_
  refine WGo.s (WStep.icmpF a0_141 (by decide)) ?_
  refine WGo.s (WStep.iconst (0 : Int32) a0_144 rfl) ?_
  refine WGo.s (WStep.istore (L' := (LA p q r b0 b1 b2 ra rb mix [wI 0, wI 0, wI 0, wI 1, wI 0, wI 1, wI 0, wU, wU])) a0_145 rfl) ?_
  refine WGo.s (WStep.goto a0_147) ?_
  refine WGo.s (WStep.aload a0_229 rfl rfl) ?_
  refine WGo.s (WStep.iload a0_231 rfl) ?_
  refine WGo.s (WStep.iload a0_233 rfl) ?_
  refine WGo.s (WStep.aload a0_235 rfl rfl) ?_
  refine WGo.s (WStep.iload a0_237 rfl) ?_
  refine WGo.s (WStep.iload a0_239 rfl) ?_
  refine WGo.callS a0_241 (ok3 hw _ _ _ _) (wd hw 10 rfl) (wd hw 11 rfl) (argsL := [.ref 0, .int 0, .int 0, .ref 1, .int 0, .int 1]) (S := []) (c3_0001 hw _ _ p q r b0 b1 b2 _) rfl rfl rfl rfl rfl rfl (Nat.le_of_ble_eq_true rfl) (Nat.le_of_ble_eq_true rfl) ?_
  rintro _ _ _ ⟨⟨rfl, hE⟩ | ⟨rfl, hE⟩, rfl, rfl⟩
  · exfalso
    simp_all
  · skip
    show WGo _ (244, (LA p q r b0 b1 b2 ra rb mix [wI 0, wI 0, wI 0, wI 1, wI 0, wI 1, wI 0, wU, wU]), [.int 0], (HA p q r b0 b1 b2), 6) _
    refine WGo.s (WStep.istore (L' := (LA p q r b0 b1 b2 ra rb mix [wI 0, wI 0, wI 0, wI 1, wI 0, wI 1, wI 0, wI 0, wU])) a0_244 rfl) ?_
    exact segE0 Z a0 hw n0 p q r b0 b1 b2 ra rb mix _ _ _ _ _ _
theorem segD0002 (Z : State) (a0 : Array Value) (hw : ∀ d ∈ tables_1, d.before a0 Z = true) (n0 : Nat) (p q r b0 b1 b2 : Int64) (ra rb mix : Int32) : WGo (g0 Z (fun k => n0 + k) n0 0 0) (123, (LA p q r b0 b1 b2 ra rb mix [wI 0, wI 0, wI 0, wI 2, wU, wU, wU, wU, wU]), [], (HA p q r b0 b1 b2), 6) (fun v σ' u' => v = some (.int 1) ∧ σ'.length ≤ 16 ∧ u' ≤ 128) := by
  refine WGo.s (WStep.iload a0_123 rfl) ?_
  refine WGo.s (WStep.iload a0_125 rfl) ?_
  refine WGo.s (WStep.isub a0_127) ?_
  show WGo _ (128, (LA p q r b0 b1 b2 ra rb mix [wI 0, wI 0, wI 0, wI 2, wU, wU, wU, wU, wU]), [.int 0], (HA p q r b0 b1 b2), 6) _
  refine WGo.s (WStep.istore (L' := (LA p q r b0 b1 b2 ra rb mix [wI 0, wI 0, wI 0, wI 2, wI 0, wU, wU, wU, wU])) a0_128 rfl) ?_
  refine WGo.s (WStep.iload a0_130 rfl) ?_
  refine WGo.s (WStep.iload a0_132 rfl) ?_
  refine WGo.s (WStep.isub a0_134) ?_
  show WGo _ (135, (LA p q r b0 b1 b2 ra rb mix [wI 0, wI 0, wI 0, wI 2, wI 0, wU, wU, wU, wU]), [.int 2], (HA p q r b0 b1 b2), 6) _
  refine WGo.s (WStep.istore (L' := (LA p q r b0 b1 b2 ra rb mix [wI 0, wI 0, wI 0, wI 2, wI 0, wI 2, wU, wU, wU])) a0_135 rfl) ?_
  refine WGo.s (WStep.iload a0_137 rfl) ?_
  refine WGo.s (WStep.iload a0_139 rfl) ?_
  refine WGo.s (WStep.icmpF a0_141 (by decide)) ?_
  refine WGo.s (WStep.iconst (0 : Int32) a0_144 rfl) ?_
  refine WGo.s (WStep.istore (L' := (LA p q r b0 b1 b2 ra rb mix [wI 0, wI 0, wI 0, wI 2, wI 0, wI 2, wI 0, wU, wU])) a0_145 rfl) ?_
  refine WGo.s (WStep.goto a0_147) ?_
  refine WGo.s (WStep.aload a0_229 rfl rfl) ?_
  refine WGo.s (WStep.iload a0_231 rfl) ?_
  refine WGo.s (WStep.iload a0_233 rfl) ?_
  refine WGo.s (WStep.aload a0_235 rfl rfl) ?_
  refine WGo.s (WStep.iload a0_237 rfl) ?_
  refine WGo.s (WStep.iload a0_239 rfl) ?_
  refine WGo.callS a0_241 (ok3 hw _ _ _ _) (wd hw 10 rfl) (wd hw 11 rfl) (argsL := [.ref 0, .int 0, .int 0, .ref 1, .int 0, .int 2]) (S := []) (c3_0002 hw _ _ p q r b0 b1 b2 _) rfl rfl rfl rfl rfl rfl (Nat.le_of_ble_eq_true rfl) (Nat.le_of_ble_eq_true rfl) ?_
  rintro _ _ _ ⟨⟨rfl, hE⟩ | ⟨rfl, hE⟩, rfl, rfl⟩
  · exfalso
    simp_all
  · skip
    show WGo _ (244, (LA p q r b0 b1 b2 ra rb mix [wI 0, wI 0, wI 0, wI 2, wI 0, wI 2, wI 0, wU, wU]), [.int 0], (HA p q r b0 b1 b2), 6) _
    refine WGo.s (WStep.istore (L' := (LA p q r b0 b1 b2 ra rb mix [wI 0, wI 0, wI 0, wI 2, wI 0, wI 2, wI 0, wI 0, wU])) a0_244 rfl) ?_
    exact segE0 Z a0 hw n0 p q r b0 b1 b2 ra rb mix _ _ _ _ _ _
theorem segD0003 (Z : State) (a0 : Array Value) (hw : ∀ d ∈ tables_1, d.before a0 Z = true) (n0 : Nat) (p q r b0 b1 b2 : Int64) (ra rb mix : Int32) : WGo (g0 Z (fun k => n0 + k) n0 0 0) (123, (LA p q r b0 b1 b2 ra rb mix [wI 0, wI 0, wI 0, wI 3, wU, wU, wU, wU, wU]), [], (HA p q r b0 b1 b2), 6) (fun v σ' u' => v = some (.int 1) ∧ σ'.length ≤ 16 ∧ u' ≤ 128) := by
  refine WGo.s (WStep.iload a0_123 rfl) ?_
  refine WGo.s (WStep.iload a0_125 rfl) ?_
  refine WGo.s (WStep.isub a0_127) ?_
  show WGo _ (128, (LA p q r b0 b1 b2 ra rb mix [wI 0, wI 0, wI 0, wI 3, wU, wU, wU, wU, wU]), [.int 0], (HA p q r b0 b1 b2), 6) _
  refine WGo.s (WStep.istore (L' := (LA p q r b0 b1 b2 ra rb mix [wI 0, wI 0, wI 0, wI 3, wI 0, wU, wU, wU, wU])) a0_128 rfl) ?_
  refine WGo.s (WStep.iload a0_130 rfl) ?_
  refine WGo.s (WStep.iload a0_132 rfl) ?_
  refine WGo.s (WStep.isub a0_134) ?_
  show WGo _ (135, (LA p q r b0 b1 b2 ra rb mix [wI 0, wI 0, wI 0, wI 3, wI 0, wU, wU, wU, wU]), [.int 3], (HA p q r b0 b1 b2), 6) _
  refine WGo.s (WStep.istore (L' := (LA p q r b0 b1 b2 ra rb mix [wI 0, wI 0, wI 0, wI 3, wI 0, wI 3, wU, wU, wU])) a0_135 rfl) ?_
  refine WGo.s (WStep.iload a0_137 rfl) ?_
  refine WGo.s (WStep.iload a0_139 rfl) ?_
  refine WGo.s (WStep.icmpF a0_141 (by decide)) ?_
  refine WGo.s (WStep.iconst (0 : Int32) a0_144 rfl) ?_
  refine WGo.s (WStep.istore (L' := (LA p q r b0 b1 b2 ra rb mix [wI 0, wI 0, wI 0, wI 3, wI 0, wI 3, wI 0, wU, wU])) a0_145 rfl) ?_
  refine WGo.s (WStep.goto a0_147) ?_
  refine WGo.s (WStep.aload a0_229 rfl rfl) ?_
  refine WGo.s (WStep.iload a0_231 rfl) ?_
  refine WGo.s (WStep.iload a0_233 rfl) ?_
  refine WGo.s (WStep.aload a0_235 rfl rfl) ?_
  refine WGo.s (WStep.iload a0_237 rfl) ?_
  refine WGo.s (WStep.iload a0_239 rfl) ?_
  refine WGo.callS a0_241 (ok3 hw _ _ _ _) (wd hw 10 rfl) (wd hw 11 rfl) (argsL := [.ref 0, .int 0, .int 0, .ref 1, .int 0, .int 3]) (S := []) (c3_0003 hw _ _ p q r b0 b1 b2 _) rfl rfl rfl rfl rfl rfl (Nat.le_of_ble_eq_true rfl) (Nat.le_of_ble_eq_true rfl) ?_
  rintro _ _ _ ⟨⟨rfl, hE⟩ | ⟨rfl, hE⟩, rfl, rfl⟩
  · exfalso
    simp_all
  · skip
    show WGo _ (244, (LA p q r b0 b1 b2 ra rb mix [wI 0, wI 0, wI 0, wI 3, wI 0, wI 3, wI 0, wU, wU]), [.int 0], (HA p q r b0 b1 b2), 6) _
    refine WGo.s (WStep.istore (L' := (LA p q r b0 b1 b2 ra rb mix [wI 0, wI 0, wI 0, wI 3, wI 0, wI 3, wI 0, wI 0, wU])) a0_244 rfl) ?_
    exact segE0 Z a0 hw n0 p q r b0 b1 b2 ra rb mix _ _ _ _ _ _
theorem segD0011 (Z : State) (a0 : Array Value) (hw : ∀ d ∈ tables_1, d.before a0 Z = true) (n0 : Nat) (p q r b0 b1 b2 : Int64) (ra rb mix : Int32) : WGo (g0 Z (fun k => n0 + k) n0 0 0) (123, (LA p q r b0 b1 b2 ra rb mix [wI 0, wI 0, wI 1, wI 1, wU, wU, wU, wU, wU]), [], (HA p q r b0 b1 b2), 6) (fun v σ' u' => v = some (.int 1) ∧ σ'.length ≤ 16 ∧ u' ≤ 128) := by
  refine WGo.s (WStep.iload a0_123 rfl) ?_
  refine WGo.s (WStep.iload a0_125 rfl) ?_
  refine WGo.s (WStep.isub a0_127) ?_
  show WGo _ (128, (LA p q r b0 b1 b2 ra rb mix [wI 0, wI 0, wI 1, wI 1, wU, wU, wU, wU, wU]), [.int 0], (HA p q r b0 b1 b2), 6) _
  refine WGo.s (WStep.istore (L' := (LA p q r b0 b1 b2 ra rb mix [wI 0, wI 0, wI 1, wI 1, wI 0, wU, wU, wU, wU])) a0_128 rfl) ?_
  refine WGo.s (WStep.iload a0_130 rfl) ?_
  refine WGo.s (WStep.iload a0_132 rfl) ?_
  refine WGo.s (WStep.isub a0_134) ?_
  show WGo _ (135, (LA p q r b0 b1 b2 ra rb mix [wI 0, wI 0, wI 1, wI 1, wI 0, wU, wU, wU, wU]), [.int 0], (HA p q r b0 b1 b2), 6) _
  refine WGo.s (WStep.istore (L' := (LA p q r b0 b1 b2 ra rb mix [wI 0, wI 0, wI 1, wI 1, wI 0, wI 0, wU, wU, wU])) a0_135 rfl) ?_
  refine WGo.s (WStep.iload a0_137 rfl) ?_
  refine WGo.s (WStep.iload a0_139 rfl) ?_
  refine WGo.s (WStep.icmpT a0_141 (by decide)) ?_
  refine WGo.s (WStep.iconst (1 : Int32) a0_150 rfl) ?_
  refine WGo.s (WStep.istore (L' := (LA p q r b0 b1 b2 ra rb mix [wI 0, wI 0, wI 1, wI 1, wI 0, wI 0, wI 1, wU, wU])) a0_151 rfl) ?_
  refine WGo.s (WStep.iload a0_153 rfl) ?_
  refine WGo.s (WStep.ifT a0_155 (by decide)) ?_
  refine WGo.s (WStep.iload a0_175 rfl) ?_
  refine WGo.s (WStep.iconst (1 : Int32) a0_177 rfl) ?_
  refine WGo.s (WStep.icmpT a0_178 (by decide)) ?_
  refine WGo.s (WStep.iload a0_202 rfl) ?_
  refine WGo.s (WStep.iconst (2 : Int32) a0_204 rfl) ?_
  refine WGo.s (WStep.icmpT a0_205 (by decide)) ?_
  refine WGo.s (WStep.aload a0_229 rfl rfl) ?_
  refine WGo.s (WStep.iload a0_231 rfl) ?_
  refine WGo.s (WStep.iload a0_233 rfl) ?_
  refine WGo.s (WStep.aload a0_235 rfl rfl) ?_
  refine WGo.s (WStep.iload a0_237 rfl) ?_
  refine WGo.s (WStep.iload a0_239 rfl) ?_
  refine WGo.callS a0_241 (ok3 hw _ _ _ _) (wd hw 10 rfl) (wd hw 11 rfl) (argsL := [.ref 0, .int 0, .int 0, .ref 1, .int 1, .int 1]) (S := []) (c3_0011 hw _ _ p q r b0 b1 b2 _) rfl rfl rfl rfl rfl rfl (Nat.le_of_ble_eq_true rfl) (Nat.le_of_ble_eq_true rfl) ?_
  rintro _ _ _ ⟨⟨rfl, hE⟩ | ⟨rfl, hE⟩, rfl, rfl⟩
  · skip
    show WGo _ (244, (LA p q r b0 b1 b2 ra rb mix [wI 0, wI 0, wI 1, wI 1, wI 0, wI 0, wI 1, wU, wU]), [.int 1], (HA p q r b0 b1 b2), 6) _
    refine WGo.s (WStep.istore (L' := (LA p q r b0 b1 b2 ra rb mix [wI 0, wI 0, wI 1, wI 1, wI 0, wI 0, wI 1, wI 1, wU])) a0_244 rfl) ?_
    exact segE1 Z a0 hw n0 p q r b0 b1 b2 ra rb mix _ _ _ _ _ _
  · exfalso
    simp_all
theorem segD0012 (Z : State) (a0 : Array Value) (hw : ∀ d ∈ tables_1, d.before a0 Z = true) (n0 : Nat) (p q r b0 b1 b2 : Int64) (ra rb mix : Int32) : WGo (g0 Z (fun k => n0 + k) n0 0 0) (123, (LA p q r b0 b1 b2 ra rb mix [wI 0, wI 0, wI 1, wI 2, wU, wU, wU, wU, wU]), [], (HA p q r b0 b1 b2), 6) (fun v σ' u' => v = some (.int 1) ∧ σ'.length ≤ 16 ∧ u' ≤ 128) := by
  refine WGo.s (WStep.iload a0_123 rfl) ?_
  refine WGo.s (WStep.iload a0_125 rfl) ?_
  refine WGo.s (WStep.isub a0_127) ?_
  show WGo _ (128, (LA p q r b0 b1 b2 ra rb mix [wI 0, wI 0, wI 1, wI 2, wU, wU, wU, wU, wU]), [.int 0], (HA p q r b0 b1 b2), 6) _
  refine WGo.s (WStep.istore (L' := (LA p q r b0 b1 b2 ra rb mix [wI 0, wI 0, wI 1, wI 2, wI 0, wU, wU, wU, wU])) a0_128 rfl) ?_
  refine WGo.s (WStep.iload a0_130 rfl) ?_
  refine WGo.s (WStep.iload a0_132 rfl) ?_
  refine WGo.s (WStep.isub a0_134) ?_
  show WGo _ (135, (LA p q r b0 b1 b2 ra rb mix [wI 0, wI 0, wI 1, wI 2, wI 0, wU, wU, wU, wU]), [.int 1], (HA p q r b0 b1 b2), 6) _
  refine WGo.s (WStep.istore (L' := (LA p q r b0 b1 b2 ra rb mix [wI 0, wI 0, wI 1, wI 2, wI 0, wI 1, wU, wU, wU])) a0_135 rfl) ?_
  refine WGo.s (WStep.iload a0_137 rfl) ?_
  refine WGo.s (WStep.iload a0_139 rfl) ?_
  refine WGo.s (WStep.icmpF a0_141 (by decide)) ?_
  refine WGo.s (WStep.iconst (0 : Int32) a0_144 rfl) ?_
  refine WGo.s (WStep.istore (L' := (LA p q r b0 b1 b2 ra rb mix [wI 0, wI 0, wI 1, wI 2, wI 0, wI 1, wI 0, wU, wU])) a0_145 rfl) ?_
  refine WGo.s (WStep.goto a0_147) ?_
  refine WGo.s (WStep.aload a0_229 rfl rfl) ?_
  refine WGo.s (WStep.iload a0_231 rfl) ?_
  refine WGo.s (WStep.iload a0_233 rfl) ?_
  refine WGo.s (WStep.aload a0_235 rfl rfl) ?_
  refine WGo.s (WStep.iload a0_237 rfl) ?_
  refine WGo.s (WStep.iload a0_239 rfl) ?_
  refine WGo.callS a0_241 (ok3 hw _ _ _ _) (wd hw 10 rfl) (wd hw 11 rfl) (argsL := [.ref 0, .int 0, .int 0, .ref 1, .int 1, .int 2]) (S := []) (c3_0012 hw _ _ p q r b0 b1 b2 _) rfl rfl rfl rfl rfl rfl (Nat.le_of_ble_eq_true rfl) (Nat.le_of_ble_eq_true rfl) ?_
  rintro _ _ _ ⟨⟨rfl, hE⟩ | ⟨rfl, hE⟩, rfl, rfl⟩
  · exfalso
    simp_all
  · skip
    show WGo _ (244, (LA p q r b0 b1 b2 ra rb mix [wI 0, wI 0, wI 1, wI 2, wI 0, wI 1, wI 0, wU, wU]), [.int 0], (HA p q r b0 b1 b2), 6) _
    refine WGo.s (WStep.istore (L' := (LA p q r b0 b1 b2 ra rb mix [wI 0, wI 0, wI 1, wI 2, wI 0, wI 1, wI 0, wI 0, wU])) a0_244 rfl) ?_
    exact segE0 Z a0 hw n0 p q r b0 b1 b2 ra rb mix _ _ _ _ _ _
theorem segD0013 (Z : State) (a0 : Array Value) (hw : ∀ d ∈ tables_1, d.before a0 Z = true) (n0 : Nat) (p q r b0 b1 b2 : Int64) (ra rb mix : Int32) : WGo (g0 Z (fun k => n0 + k) n0 0 0) (123, (LA p q r b0 b1 b2 ra rb mix [wI 0, wI 0, wI 1, wI 3, wU, wU, wU, wU, wU]), [], (HA p q r b0 b1 b2), 6) (fun v σ' u' => v = some (.int 1) ∧ σ'.length ≤ 16 ∧ u' ≤ 128) := by
  refine WGo.s (WStep.iload a0_123 rfl) ?_
  refine WGo.s (WStep.iload a0_125 rfl) ?_
  refine WGo.s (WStep.isub a0_127) ?_
  show WGo _ (128, (LA p q r b0 b1 b2 ra rb mix [wI 0, wI 0, wI 1, wI 3, wU, wU, wU, wU, wU]), [.int 0], (HA p q r b0 b1 b2), 6) _
  refine WGo.s (WStep.istore (L' := (LA p q r b0 b1 b2 ra rb mix [wI 0, wI 0, wI 1, wI 3, wI 0, wU, wU, wU, wU])) a0_128 rfl) ?_
  refine WGo.s (WStep.iload a0_130 rfl) ?_
  refine WGo.s (WStep.iload a0_132 rfl) ?_
  refine WGo.s (WStep.isub a0_134) ?_
  show WGo _ (135, (LA p q r b0 b1 b2 ra rb mix [wI 0, wI 0, wI 1, wI 3, wI 0, wU, wU, wU, wU]), [.int 2], (HA p q r b0 b1 b2), 6) _
  refine WGo.s (WStep.istore (L' := (LA p q r b0 b1 b2 ra rb mix [wI 0, wI 0, wI 1, wI 3, wI 0, wI 2, wU, wU, wU])) a0_135 rfl) ?_
  refine WGo.s (WStep.iload a0_137 rfl) ?_
  refine WGo.s (WStep.iload a0_139 rfl) ?_
  refine WGo.s (WStep.icmpF a0_141 (by decide)) ?_
  refine WGo.s (WStep.iconst (0 : Int32) a0_144 rfl) ?_
  refine WGo.s (WStep.istore (L' := (LA p q r b0 b1 b2 ra rb mix [wI 0, wI 0, wI 1, wI 3, wI 0, wI 2, wI 0, wU, wU])) a0_145 rfl) ?_
  refine WGo.s (WStep.goto a0_147) ?_
  refine WGo.s (WStep.aload a0_229 rfl rfl) ?_
  refine WGo.s (WStep.iload a0_231 rfl) ?_
  refine WGo.s (WStep.iload a0_233 rfl) ?_
  refine WGo.s (WStep.aload a0_235 rfl rfl) ?_
  refine WGo.s (WStep.iload a0_237 rfl) ?_
  refine WGo.s (WStep.iload a0_239 rfl) ?_
  refine WGo.callS a0_241 (ok3 hw _ _ _ _) (wd hw 10 rfl) (wd hw 11 rfl) (argsL := [.ref 0, .int 0, .int 0, .ref 1, .int 1, .int 3]) (S := []) (c3_0013 hw _ _ p q r b0 b1 b2 _) rfl rfl rfl rfl rfl rfl (Nat.le_of_ble_eq_true rfl) (Nat.le_of_ble_eq_true rfl) ?_
  rintro _ _ _ ⟨⟨rfl, hE⟩ | ⟨rfl, hE⟩, rfl, rfl⟩
  · exfalso
    simp_all
  · skip
    show WGo _ (244, (LA p q r b0 b1 b2 ra rb mix [wI 0, wI 0, wI 1, wI 3, wI 0, wI 2, wI 0, wU, wU]), [.int 0], (HA p q r b0 b1 b2), 6) _
    refine WGo.s (WStep.istore (L' := (LA p q r b0 b1 b2 ra rb mix [wI 0, wI 0, wI 1, wI 3, wI 0, wI 2, wI 0, wI 0, wU])) a0_244 rfl) ?_
    exact segE0 Z a0 hw n0 p q r b0 b1 b2 ra rb mix _ _ _ _ _ _
theorem segD0022 (Z : State) (a0 : Array Value) (hw : ∀ d ∈ tables_1, d.before a0 Z = true) (n0 : Nat) (p q r b0 b1 b2 : Int64) (ra rb mix : Int32) : WGo (g0 Z (fun k => n0 + k) n0 0 0) (123, (LA p q r b0 b1 b2 ra rb mix [wI 0, wI 0, wI 2, wI 2, wU, wU, wU, wU, wU]), [], (HA p q r b0 b1 b2), 6) (fun v σ' u' => v = some (.int 1) ∧ σ'.length ≤ 16 ∧ u' ≤ 128) := by
  refine WGo.s (WStep.iload a0_123 rfl) ?_
  refine WGo.s (WStep.iload a0_125 rfl) ?_
  refine WGo.s (WStep.isub a0_127) ?_
  show WGo _ (128, (LA p q r b0 b1 b2 ra rb mix [wI 0, wI 0, wI 2, wI 2, wU, wU, wU, wU, wU]), [.int 0], (HA p q r b0 b1 b2), 6) _
  refine WGo.s (WStep.istore (L' := (LA p q r b0 b1 b2 ra rb mix [wI 0, wI 0, wI 2, wI 2, wI 0, wU, wU, wU, wU])) a0_128 rfl) ?_
  refine WGo.s (WStep.iload a0_130 rfl) ?_
  refine WGo.s (WStep.iload a0_132 rfl) ?_
  refine WGo.s (WStep.isub a0_134) ?_
  show WGo _ (135, (LA p q r b0 b1 b2 ra rb mix [wI 0, wI 0, wI 2, wI 2, wI 0, wU, wU, wU, wU]), [.int 0], (HA p q r b0 b1 b2), 6) _
  refine WGo.s (WStep.istore (L' := (LA p q r b0 b1 b2 ra rb mix [wI 0, wI 0, wI 2, wI 2, wI 0, wI 0, wU, wU, wU])) a0_135 rfl) ?_
  refine WGo.s (WStep.iload a0_137 rfl) ?_
  refine WGo.s (WStep.iload a0_139 rfl) ?_
  refine WGo.s (WStep.icmpT a0_141 (by decide)) ?_
  refine WGo.s (WStep.iconst (1 : Int32) a0_150 rfl) ?_
  refine WGo.s (WStep.istore (L' := (LA p q r b0 b1 b2 ra rb mix [wI 0, wI 0, wI 2, wI 2, wI 0, wI 0, wI 1, wU, wU])) a0_151 rfl) ?_
  refine WGo.s (WStep.iload a0_153 rfl) ?_
  refine WGo.s (WStep.ifT a0_155 (by decide)) ?_
  refine WGo.s (WStep.iload a0_175 rfl) ?_
  refine WGo.s (WStep.iconst (1 : Int32) a0_177 rfl) ?_
  refine WGo.s (WStep.icmpT a0_178 (by decide)) ?_
  refine WGo.s (WStep.iload a0_202 rfl) ?_
  refine WGo.s (WStep.iconst (2 : Int32) a0_204 rfl) ?_
  refine WGo.s (WStep.icmpT a0_205 (by decide)) ?_
  refine WGo.s (WStep.aload a0_229 rfl rfl) ?_
  refine WGo.s (WStep.iload a0_231 rfl) ?_
  refine WGo.s (WStep.iload a0_233 rfl) ?_
  refine WGo.s (WStep.aload a0_235 rfl rfl) ?_
  refine WGo.s (WStep.iload a0_237 rfl) ?_
  refine WGo.s (WStep.iload a0_239 rfl) ?_
  refine WGo.callS a0_241 (ok3 hw _ _ _ _) (wd hw 10 rfl) (wd hw 11 rfl) (argsL := [.ref 0, .int 0, .int 0, .ref 1, .int 2, .int 2]) (S := []) (c3_0022 hw _ _ p q r b0 b1 b2 _) rfl rfl rfl rfl rfl rfl (Nat.le_of_ble_eq_true rfl) (Nat.le_of_ble_eq_true rfl) ?_
  rintro _ _ _ ⟨⟨rfl, hE⟩ | ⟨rfl, hE⟩, rfl, rfl⟩
  · skip
    show WGo _ (244, (LA p q r b0 b1 b2 ra rb mix [wI 0, wI 0, wI 2, wI 2, wI 0, wI 0, wI 1, wU, wU]), [.int 1], (HA p q r b0 b1 b2), 6) _
    refine WGo.s (WStep.istore (L' := (LA p q r b0 b1 b2 ra rb mix [wI 0, wI 0, wI 2, wI 2, wI 0, wI 0, wI 1, wI 1, wU])) a0_244 rfl) ?_
    exact segE1 Z a0 hw n0 p q r b0 b1 b2 ra rb mix _ _ _ _ _ _
  · exfalso
    simp_all
theorem segD0023 (Z : State) (a0 : Array Value) (hw : ∀ d ∈ tables_1, d.before a0 Z = true) (n0 : Nat) (p q r b0 b1 b2 : Int64) (ra rb mix : Int32) : WGo (g0 Z (fun k => n0 + k) n0 0 0) (123, (LA p q r b0 b1 b2 ra rb mix [wI 0, wI 0, wI 2, wI 3, wU, wU, wU, wU, wU]), [], (HA p q r b0 b1 b2), 6) (fun v σ' u' => v = some (.int 1) ∧ σ'.length ≤ 16 ∧ u' ≤ 128) := by
  refine WGo.s (WStep.iload a0_123 rfl) ?_
  refine WGo.s (WStep.iload a0_125 rfl) ?_
  refine WGo.s (WStep.isub a0_127) ?_
  show WGo _ (128, (LA p q r b0 b1 b2 ra rb mix [wI 0, wI 0, wI 2, wI 3, wU, wU, wU, wU, wU]), [.int 0], (HA p q r b0 b1 b2), 6) _
  refine WGo.s (WStep.istore (L' := (LA p q r b0 b1 b2 ra rb mix [wI 0, wI 0, wI 2, wI 3, wI 0, wU, wU, wU, wU])) a0_128 rfl) ?_
  refine WGo.s (WStep.iload a0_130 rfl) ?_
  refine WGo.s (WStep.iload a0_132 rfl) ?_
  refine WGo.s (WStep.isub a0_134) ?_
  show WGo _ (135, (LA p q r b0 b1 b2 ra rb mix [wI 0, wI 0, wI 2, wI 3, wI 0, wU, wU, wU, wU]), [.int 1], (HA p q r b0 b1 b2), 6) _
  refine WGo.s (WStep.istore (L' := (LA p q r b0 b1 b2 ra rb mix [wI 0, wI 0, wI 2, wI 3, wI 0, wI 1, wU, wU, wU])) a0_135 rfl) ?_
  refine WGo.s (WStep.iload a0_137 rfl) ?_
  refine WGo.s (WStep.iload a0_139 rfl) ?_
  refine WGo.s (WStep.icmpF a0_141 (by decide)) ?_
  refine WGo.s (WStep.iconst (0 : Int32) a0_144 rfl) ?_
  refine WGo.s (WStep.istore (L' := (LA p q r b0 b1 b2 ra rb mix [wI 0, wI 0, wI 2, wI 3, wI 0, wI 1, wI 0, wU, wU])) a0_145 rfl) ?_
  refine WGo.s (WStep.goto a0_147) ?_
  refine WGo.s (WStep.aload a0_229 rfl rfl) ?_
  refine WGo.s (WStep.iload a0_231 rfl) ?_
  refine WGo.s (WStep.iload a0_233 rfl) ?_
  refine WGo.s (WStep.aload a0_235 rfl rfl) ?_
  refine WGo.s (WStep.iload a0_237 rfl) ?_
  refine WGo.s (WStep.iload a0_239 rfl) ?_
  refine WGo.callS a0_241 (ok3 hw _ _ _ _) (wd hw 10 rfl) (wd hw 11 rfl) (argsL := [.ref 0, .int 0, .int 0, .ref 1, .int 2, .int 3]) (S := []) (c3_0023 hw _ _ p q r b0 b1 b2 _) rfl rfl rfl rfl rfl rfl (Nat.le_of_ble_eq_true rfl) (Nat.le_of_ble_eq_true rfl) ?_
  rintro _ _ _ ⟨⟨rfl, hE⟩ | ⟨rfl, hE⟩, rfl, rfl⟩
  · exfalso
    simp_all
  · skip
    show WGo _ (244, (LA p q r b0 b1 b2 ra rb mix [wI 0, wI 0, wI 2, wI 3, wI 0, wI 1, wI 0, wU, wU]), [.int 0], (HA p q r b0 b1 b2), 6) _
    refine WGo.s (WStep.istore (L' := (LA p q r b0 b1 b2 ra rb mix [wI 0, wI 0, wI 2, wI 3, wI 0, wI 1, wI 0, wI 0, wU])) a0_244 rfl) ?_
    exact segE0 Z a0 hw n0 p q r b0 b1 b2 ra rb mix _ _ _ _ _ _
theorem segD0033 (Z : State) (a0 : Array Value) (hw : ∀ d ∈ tables_1, d.before a0 Z = true) (n0 : Nat) (p q r b0 b1 b2 : Int64) (ra rb mix : Int32) : WGo (g0 Z (fun k => n0 + k) n0 0 0) (123, (LA p q r b0 b1 b2 ra rb mix [wI 0, wI 0, wI 3, wI 3, wU, wU, wU, wU, wU]), [], (HA p q r b0 b1 b2), 6) (fun v σ' u' => v = some (.int 1) ∧ σ'.length ≤ 16 ∧ u' ≤ 128) := by
  refine WGo.s (WStep.iload a0_123 rfl) ?_
  refine WGo.s (WStep.iload a0_125 rfl) ?_
  refine WGo.s (WStep.isub a0_127) ?_
  show WGo _ (128, (LA p q r b0 b1 b2 ra rb mix [wI 0, wI 0, wI 3, wI 3, wU, wU, wU, wU, wU]), [.int 0], (HA p q r b0 b1 b2), 6) _
  refine WGo.s (WStep.istore (L' := (LA p q r b0 b1 b2 ra rb mix [wI 0, wI 0, wI 3, wI 3, wI 0, wU, wU, wU, wU])) a0_128 rfl) ?_
  refine WGo.s (WStep.iload a0_130 rfl) ?_
  refine WGo.s (WStep.iload a0_132 rfl) ?_
  refine WGo.s (WStep.isub a0_134) ?_
  show WGo _ (135, (LA p q r b0 b1 b2 ra rb mix [wI 0, wI 0, wI 3, wI 3, wI 0, wU, wU, wU, wU]), [.int 0], (HA p q r b0 b1 b2), 6) _
  refine WGo.s (WStep.istore (L' := (LA p q r b0 b1 b2 ra rb mix [wI 0, wI 0, wI 3, wI 3, wI 0, wI 0, wU, wU, wU])) a0_135 rfl) ?_
  refine WGo.s (WStep.iload a0_137 rfl) ?_
  refine WGo.s (WStep.iload a0_139 rfl) ?_
  refine WGo.s (WStep.icmpT a0_141 (by decide)) ?_
  refine WGo.s (WStep.iconst (1 : Int32) a0_150 rfl) ?_
  refine WGo.s (WStep.istore (L' := (LA p q r b0 b1 b2 ra rb mix [wI 0, wI 0, wI 3, wI 3, wI 0, wI 0, wI 1, wU, wU])) a0_151 rfl) ?_
  refine WGo.s (WStep.iload a0_153 rfl) ?_
  refine WGo.s (WStep.ifT a0_155 (by decide)) ?_
  refine WGo.s (WStep.iload a0_175 rfl) ?_
  refine WGo.s (WStep.iconst (1 : Int32) a0_177 rfl) ?_
  refine WGo.s (WStep.icmpT a0_178 (by decide)) ?_
  refine WGo.s (WStep.iload a0_202 rfl) ?_
  refine WGo.s (WStep.iconst (2 : Int32) a0_204 rfl) ?_
  refine WGo.s (WStep.icmpT a0_205 (by decide)) ?_
  refine WGo.s (WStep.aload a0_229 rfl rfl) ?_
  refine WGo.s (WStep.iload a0_231 rfl) ?_
  refine WGo.s (WStep.iload a0_233 rfl) ?_
  refine WGo.s (WStep.aload a0_235 rfl rfl) ?_
  refine WGo.s (WStep.iload a0_237 rfl) ?_
  refine WGo.s (WStep.iload a0_239 rfl) ?_
  refine WGo.callS a0_241 (ok3 hw _ _ _ _) (wd hw 10 rfl) (wd hw 11 rfl) (argsL := [.ref 0, .int 0, .int 0, .ref 1, .int 3, .int 3]) (S := []) (c3_0033 hw _ _ p q r b0 b1 b2 _) rfl rfl rfl rfl rfl rfl (Nat.le_of_ble_eq_true rfl) (Nat.le_of_ble_eq_true rfl) ?_
  rintro _ _ _ ⟨⟨rfl, hE⟩ | ⟨rfl, hE⟩, rfl, rfl⟩
  · skip
    show WGo _ (244, (LA p q r b0 b1 b2 ra rb mix [wI 0, wI 0, wI 3, wI 3, wI 0, wI 0, wI 1, wU, wU]), [.int 1], (HA p q r b0 b1 b2), 6) _
    refine WGo.s (WStep.istore (L' := (LA p q r b0 b1 b2 ra rb mix [wI 0, wI 0, wI 3, wI 3, wI 0, wI 0, wI 1, wI 1, wU])) a0_244 rfl) ?_
    exact segE1 Z a0 hw n0 p q r b0 b1 b2 ra rb mix _ _ _ _ _ _
  · exfalso
    simp_all
theorem segD0100 (Z : State) (a0 : Array Value) (hw : ∀ d ∈ tables_1, d.before a0 Z = true) (n0 : Nat) (p q r b0 b1 b2 : Int64) (ra rb mix : Int32) : WGo (g0 Z (fun k => n0 + k) n0 0 0) (123, (LA p q r b0 b1 b2 ra rb mix [wI 0, wI 1, wI 0, wI 0, wU, wU, wU, wU, wU]), [], (HA p q r b0 b1 b2), 6) (fun v σ' u' => v = some (.int 1) ∧ σ'.length ≤ 16 ∧ u' ≤ 128) := by
  refine WGo.s (WStep.iload a0_123 rfl) ?_
  refine WGo.s (WStep.iload a0_125 rfl) ?_
  refine WGo.s (WStep.isub a0_127) ?_
  show WGo _ (128, (LA p q r b0 b1 b2 ra rb mix [wI 0, wI 1, wI 0, wI 0, wU, wU, wU, wU, wU]), [.int 1], (HA p q r b0 b1 b2), 6) _
  refine WGo.s (WStep.istore (L' := (LA p q r b0 b1 b2 ra rb mix [wI 0, wI 1, wI 0, wI 0, wI 1, wU, wU, wU, wU])) a0_128 rfl) ?_
  refine WGo.s (WStep.iload a0_130 rfl) ?_
  refine WGo.s (WStep.iload a0_132 rfl) ?_
  refine WGo.s (WStep.isub a0_134) ?_
  show WGo _ (135, (LA p q r b0 b1 b2 ra rb mix [wI 0, wI 1, wI 0, wI 0, wI 1, wU, wU, wU, wU]), [.int 0], (HA p q r b0 b1 b2), 6) _
  refine WGo.s (WStep.istore (L' := (LA p q r b0 b1 b2 ra rb mix [wI 0, wI 1, wI 0, wI 0, wI 1, wI 0, wU, wU, wU])) a0_135 rfl) ?_
  refine WGo.s (WStep.iload a0_137 rfl) ?_
  refine WGo.s (WStep.iload a0_139 rfl) ?_
  refine WGo.s (WStep.icmpF a0_141 (by decide)) ?_
  refine WGo.s (WStep.iconst (0 : Int32) a0_144 rfl) ?_
  refine WGo.s (WStep.istore (L' := (LA p q r b0 b1 b2 ra rb mix [wI 0, wI 1, wI 0, wI 0, wI 1, wI 0, wI 0, wU, wU])) a0_145 rfl) ?_
  refine WGo.s (WStep.goto a0_147) ?_
  refine WGo.s (WStep.aload a0_229 rfl rfl) ?_
  refine WGo.s (WStep.iload a0_231 rfl) ?_
  refine WGo.s (WStep.iload a0_233 rfl) ?_
  refine WGo.s (WStep.aload a0_235 rfl rfl) ?_
  refine WGo.s (WStep.iload a0_237 rfl) ?_
  refine WGo.s (WStep.iload a0_239 rfl) ?_
  refine WGo.callS a0_241 (ok3 hw _ _ _ _) (wd hw 10 rfl) (wd hw 11 rfl) (argsL := [.ref 0, .int 0, .int 1, .ref 1, .int 0, .int 0]) (S := []) (c3_0100 hw _ _ p q r b0 b1 b2 _) rfl rfl rfl rfl rfl rfl (Nat.le_of_ble_eq_true rfl) (Nat.le_of_ble_eq_true rfl) ?_
  rintro _ _ _ ⟨⟨rfl, hE⟩ | ⟨rfl, hE⟩, rfl, rfl⟩
  · exfalso
    simp_all
  · skip
    show WGo _ (244, (LA p q r b0 b1 b2 ra rb mix [wI 0, wI 1, wI 0, wI 0, wI 1, wI 0, wI 0, wU, wU]), [.int 0], (HA p q r b0 b1 b2), 6) _
    refine WGo.s (WStep.istore (L' := (LA p q r b0 b1 b2 ra rb mix [wI 0, wI 1, wI 0, wI 0, wI 1, wI 0, wI 0, wI 0, wU])) a0_244 rfl) ?_
    exact segE0 Z a0 hw n0 p q r b0 b1 b2 ra rb mix _ _ _ _ _ _
theorem segD0101 (Z : State) (a0 : Array Value) (hw : ∀ d ∈ tables_1, d.before a0 Z = true) (n0 : Nat) (p q r b0 b1 b2 : Int64) (ra rb mix : Int32) : WGo (g0 Z (fun k => n0 + k) n0 0 0) (123, (LA p q r b0 b1 b2 ra rb mix [wI 0, wI 1, wI 0, wI 1, wU, wU, wU, wU, wU]), [], (HA p q r b0 b1 b2), 6) (fun v σ' u' => v = some (.int 1) ∧ σ'.length ≤ 16 ∧ u' ≤ 128) := by
  refine WGo.s (WStep.iload a0_123 rfl) ?_
  refine WGo.s (WStep.iload a0_125 rfl) ?_
  refine WGo.s (WStep.isub a0_127) ?_
  show WGo _ (128, (LA p q r b0 b1 b2 ra rb mix [wI 0, wI 1, wI 0, wI 1, wU, wU, wU, wU, wU]), [.int 1], (HA p q r b0 b1 b2), 6) _
  refine WGo.s (WStep.istore (L' := (LA p q r b0 b1 b2 ra rb mix [wI 0, wI 1, wI 0, wI 1, wI 1, wU, wU, wU, wU])) a0_128 rfl) ?_
  refine WGo.s (WStep.iload a0_130 rfl) ?_
  refine WGo.s (WStep.iload a0_132 rfl) ?_
  refine WGo.s (WStep.isub a0_134) ?_
  show WGo _ (135, (LA p q r b0 b1 b2 ra rb mix [wI 0, wI 1, wI 0, wI 1, wI 1, wU, wU, wU, wU]), [.int 1], (HA p q r b0 b1 b2), 6) _
  refine WGo.s (WStep.istore (L' := (LA p q r b0 b1 b2 ra rb mix [wI 0, wI 1, wI 0, wI 1, wI 1, wI 1, wU, wU, wU])) a0_135 rfl) ?_
  refine WGo.s (WStep.iload a0_137 rfl) ?_
  refine WGo.s (WStep.iload a0_139 rfl) ?_
  refine WGo.s (WStep.icmpT a0_141 (by decide)) ?_
  refine WGo.s (WStep.iconst (1 : Int32) a0_150 rfl) ?_
  refine WGo.s (WStep.istore (L' := (LA p q r b0 b1 b2 ra rb mix [wI 0, wI 1, wI 0, wI 1, wI 1, wI 1, wI 1, wU, wU])) a0_151 rfl) ?_
  refine WGo.s (WStep.iload a0_153 rfl) ?_
  refine WGo.s (WStep.ifF a0_155 (by decide)) ?_
  refine WGo.s (WStep.aload a0_158 rfl rfl) ?_
  refine WGo.s (WStep.iload a0_160 rfl) ?_
  refine WGo.s (WStep.laload 0 a0_162 rfl (by decide) rfl rfl) ?_
  refine WGo.s (WStep.aload a0_163 rfl rfl) ?_
  refine WGo.s (WStep.iload a0_165 rfl) ?_
  refine WGo.s (WStep.laload 0 a0_167 rfl (by decide) rfl rfl) ?_
  refine WGo.s (WStep.lcmp a0_168) ?_
  refine WGo.eqL a0_169 (fun h169 => ?_) (fun h169 => ?_)
  · refine WGo.s (WStep.iload a0_175 rfl) ?_
    refine WGo.s (WStep.iconst (1 : Int32) a0_177 rfl) ?_
    refine WGo.s (WStep.icmpT a0_178 (by decide)) ?_
    refine WGo.s (WStep.iload a0_202 rfl) ?_
    refine WGo.s (WStep.iconst (2 : Int32) a0_204 rfl) ?_
    refine WGo.s (WStep.icmpT a0_205 (by decide)) ?_
    refine WGo.s (WStep.aload a0_229 rfl rfl) ?_
    refine WGo.s (WStep.iload a0_231 rfl) ?_
    refine WGo.s (WStep.iload a0_233 rfl) ?_
    refine WGo.s (WStep.aload a0_235 rfl rfl) ?_
    refine WGo.s (WStep.iload a0_237 rfl) ?_
    refine WGo.s (WStep.iload a0_239 rfl) ?_
    refine WGo.callS a0_241 (ok3 hw _ _ _ _) (wd hw 10 rfl) (wd hw 11 rfl) (argsL := [.ref 0, .int 0, .int 1, .ref 1, .int 0, .int 1]) (S := []) (c3_0101 hw _ _ p q r b0 b1 b2 _) rfl rfl rfl rfl rfl rfl (Nat.le_of_ble_eq_true rfl) (Nat.le_of_ble_eq_true rfl) ?_
    rintro _ _ _ ⟨⟨rfl, hE⟩ | ⟨rfl, hE⟩, rfl, rfl⟩
    · skip
      show WGo _ (244, (LA p q r b0 b1 b2 ra rb mix [wI 0, wI 1, wI 0, wI 1, wI 1, wI 1, wI 1, wU, wU]), [.int 1], (HA p q r b0 b1 b2), 6) _
      refine WGo.s (WStep.istore (L' := (LA p q r b0 b1 b2 ra rb mix [wI 0, wI 1, wI 0, wI 1, wI 1, wI 1, wI 1, wI 1, wU])) a0_244 rfl) ?_
      exact segE1 Z a0 hw n0 p q r b0 b1 b2 ra rb mix _ _ _ _ _ _
    · exfalso
      simp_all
  · refine WGo.s (WStep.iconst (0 : Int32) a0_172 rfl) ?_
    refine WGo.s (WStep.istore (L' := (LA p q r b0 b1 b2 ra rb mix [wI 0, wI 1, wI 0, wI 1, wI 1, wI 1, wI 0, wU, wU])) a0_173 rfl) ?_
    refine WGo.s (WStep.iload a0_175 rfl) ?_
    refine WGo.s (WStep.iconst (1 : Int32) a0_177 rfl) ?_
    refine WGo.s (WStep.icmpT a0_178 (by decide)) ?_
    refine WGo.s (WStep.iload a0_202 rfl) ?_
    refine WGo.s (WStep.iconst (2 : Int32) a0_204 rfl) ?_
    refine WGo.s (WStep.icmpT a0_205 (by decide)) ?_
    refine WGo.s (WStep.aload a0_229 rfl rfl) ?_
    refine WGo.s (WStep.iload a0_231 rfl) ?_
    refine WGo.s (WStep.iload a0_233 rfl) ?_
    refine WGo.s (WStep.aload a0_235 rfl rfl) ?_
    refine WGo.s (WStep.iload a0_237 rfl) ?_
    refine WGo.s (WStep.iload a0_239 rfl) ?_
    refine WGo.callS a0_241 (ok3 hw _ _ _ _) (wd hw 10 rfl) (wd hw 11 rfl) (argsL := [.ref 0, .int 0, .int 1, .ref 1, .int 0, .int 1]) (S := []) (c3_0101 hw _ _ p q r b0 b1 b2 _) rfl rfl rfl rfl rfl rfl (Nat.le_of_ble_eq_true rfl) (Nat.le_of_ble_eq_true rfl) ?_
    rintro _ _ _ ⟨⟨rfl, hE⟩ | ⟨rfl, hE⟩, rfl, rfl⟩
    · exfalso
      simp_all
    · skip
      show WGo _ (244, (LA p q r b0 b1 b2 ra rb mix [wI 0, wI 1, wI 0, wI 1, wI 1, wI 1, wI 0, wU, wU]), [.int 0], (HA p q r b0 b1 b2), 6) _
      refine WGo.s (WStep.istore (L' := (LA p q r b0 b1 b2 ra rb mix [wI 0, wI 1, wI 0, wI 1, wI 1, wI 1, wI 0, wI 0, wU])) a0_244 rfl) ?_
      exact segE0 Z a0 hw n0 p q r b0 b1 b2 ra rb mix _ _ _ _ _ _
theorem segD0102 (Z : State) (a0 : Array Value) (hw : ∀ d ∈ tables_1, d.before a0 Z = true) (n0 : Nat) (p q r b0 b1 b2 : Int64) (ra rb mix : Int32) : WGo (g0 Z (fun k => n0 + k) n0 0 0) (123, (LA p q r b0 b1 b2 ra rb mix [wI 0, wI 1, wI 0, wI 2, wU, wU, wU, wU, wU]), [], (HA p q r b0 b1 b2), 6) (fun v σ' u' => v = some (.int 1) ∧ σ'.length ≤ 16 ∧ u' ≤ 128) := by
  refine WGo.s (WStep.iload a0_123 rfl) ?_
  refine WGo.s (WStep.iload a0_125 rfl) ?_
  refine WGo.s (WStep.isub a0_127) ?_
  show WGo _ (128, (LA p q r b0 b1 b2 ra rb mix [wI 0, wI 1, wI 0, wI 2, wU, wU, wU, wU, wU]), [.int 1], (HA p q r b0 b1 b2), 6) _
  refine WGo.s (WStep.istore (L' := (LA p q r b0 b1 b2 ra rb mix [wI 0, wI 1, wI 0, wI 2, wI 1, wU, wU, wU, wU])) a0_128 rfl) ?_
  refine WGo.s (WStep.iload a0_130 rfl) ?_
  refine WGo.s (WStep.iload a0_132 rfl) ?_
  refine WGo.s (WStep.isub a0_134) ?_
  show WGo _ (135, (LA p q r b0 b1 b2 ra rb mix [wI 0, wI 1, wI 0, wI 2, wI 1, wU, wU, wU, wU]), [.int 2], (HA p q r b0 b1 b2), 6) _
  refine WGo.s (WStep.istore (L' := (LA p q r b0 b1 b2 ra rb mix [wI 0, wI 1, wI 0, wI 2, wI 1, wI 2, wU, wU, wU])) a0_135 rfl) ?_
  refine WGo.s (WStep.iload a0_137 rfl) ?_
  refine WGo.s (WStep.iload a0_139 rfl) ?_
  refine WGo.s (WStep.icmpF a0_141 (by decide)) ?_
  refine WGo.s (WStep.iconst (0 : Int32) a0_144 rfl) ?_
  refine WGo.s (WStep.istore (L' := (LA p q r b0 b1 b2 ra rb mix [wI 0, wI 1, wI 0, wI 2, wI 1, wI 2, wI 0, wU, wU])) a0_145 rfl) ?_
  refine WGo.s (WStep.goto a0_147) ?_
  refine WGo.s (WStep.aload a0_229 rfl rfl) ?_
  refine WGo.s (WStep.iload a0_231 rfl) ?_
  refine WGo.s (WStep.iload a0_233 rfl) ?_
  refine WGo.s (WStep.aload a0_235 rfl rfl) ?_
  refine WGo.s (WStep.iload a0_237 rfl) ?_
  refine WGo.s (WStep.iload a0_239 rfl) ?_
  refine WGo.callS a0_241 (ok3 hw _ _ _ _) (wd hw 10 rfl) (wd hw 11 rfl) (argsL := [.ref 0, .int 0, .int 1, .ref 1, .int 0, .int 2]) (S := []) (c3_0102 hw _ _ p q r b0 b1 b2 _) rfl rfl rfl rfl rfl rfl (Nat.le_of_ble_eq_true rfl) (Nat.le_of_ble_eq_true rfl) ?_
  rintro _ _ _ ⟨⟨rfl, hE⟩ | ⟨rfl, hE⟩, rfl, rfl⟩
  · exfalso
    simp_all
  · skip
    show WGo _ (244, (LA p q r b0 b1 b2 ra rb mix [wI 0, wI 1, wI 0, wI 2, wI 1, wI 2, wI 0, wU, wU]), [.int 0], (HA p q r b0 b1 b2), 6) _
    refine WGo.s (WStep.istore (L' := (LA p q r b0 b1 b2 ra rb mix [wI 0, wI 1, wI 0, wI 2, wI 1, wI 2, wI 0, wI 0, wU])) a0_244 rfl) ?_
    exact segE0 Z a0 hw n0 p q r b0 b1 b2 ra rb mix _ _ _ _ _ _
theorem segD0103 (Z : State) (a0 : Array Value) (hw : ∀ d ∈ tables_1, d.before a0 Z = true) (n0 : Nat) (p q r b0 b1 b2 : Int64) (ra rb mix : Int32) : WGo (g0 Z (fun k => n0 + k) n0 0 0) (123, (LA p q r b0 b1 b2 ra rb mix [wI 0, wI 1, wI 0, wI 3, wU, wU, wU, wU, wU]), [], (HA p q r b0 b1 b2), 6) (fun v σ' u' => v = some (.int 1) ∧ σ'.length ≤ 16 ∧ u' ≤ 128) := by
  refine WGo.s (WStep.iload a0_123 rfl) ?_
  refine WGo.s (WStep.iload a0_125 rfl) ?_
  refine WGo.s (WStep.isub a0_127) ?_
  show WGo _ (128, (LA p q r b0 b1 b2 ra rb mix [wI 0, wI 1, wI 0, wI 3, wU, wU, wU, wU, wU]), [.int 1], (HA p q r b0 b1 b2), 6) _
  refine WGo.s (WStep.istore (L' := (LA p q r b0 b1 b2 ra rb mix [wI 0, wI 1, wI 0, wI 3, wI 1, wU, wU, wU, wU])) a0_128 rfl) ?_
  refine WGo.s (WStep.iload a0_130 rfl) ?_
  refine WGo.s (WStep.iload a0_132 rfl) ?_
  refine WGo.s (WStep.isub a0_134) ?_
  show WGo _ (135, (LA p q r b0 b1 b2 ra rb mix [wI 0, wI 1, wI 0, wI 3, wI 1, wU, wU, wU, wU]), [.int 3], (HA p q r b0 b1 b2), 6) _
  refine WGo.s (WStep.istore (L' := (LA p q r b0 b1 b2 ra rb mix [wI 0, wI 1, wI 0, wI 3, wI 1, wI 3, wU, wU, wU])) a0_135 rfl) ?_
  refine WGo.s (WStep.iload a0_137 rfl) ?_
  refine WGo.s (WStep.iload a0_139 rfl) ?_
  refine WGo.s (WStep.icmpF a0_141 (by decide)) ?_
  refine WGo.s (WStep.iconst (0 : Int32) a0_144 rfl) ?_
  refine WGo.s (WStep.istore (L' := (LA p q r b0 b1 b2 ra rb mix [wI 0, wI 1, wI 0, wI 3, wI 1, wI 3, wI 0, wU, wU])) a0_145 rfl) ?_
  refine WGo.s (WStep.goto a0_147) ?_
  refine WGo.s (WStep.aload a0_229 rfl rfl) ?_
  refine WGo.s (WStep.iload a0_231 rfl) ?_
  refine WGo.s (WStep.iload a0_233 rfl) ?_
  refine WGo.s (WStep.aload a0_235 rfl rfl) ?_
  refine WGo.s (WStep.iload a0_237 rfl) ?_
  refine WGo.s (WStep.iload a0_239 rfl) ?_
  refine WGo.callS a0_241 (ok3 hw _ _ _ _) (wd hw 10 rfl) (wd hw 11 rfl) (argsL := [.ref 0, .int 0, .int 1, .ref 1, .int 0, .int 3]) (S := []) (c3_0103 hw _ _ p q r b0 b1 b2 _) rfl rfl rfl rfl rfl rfl (Nat.le_of_ble_eq_true rfl) (Nat.le_of_ble_eq_true rfl) ?_
  rintro _ _ _ ⟨⟨rfl, hE⟩ | ⟨rfl, hE⟩, rfl, rfl⟩
  · exfalso
    simp_all
  · skip
    show WGo _ (244, (LA p q r b0 b1 b2 ra rb mix [wI 0, wI 1, wI 0, wI 3, wI 1, wI 3, wI 0, wU, wU]), [.int 0], (HA p q r b0 b1 b2), 6) _
    refine WGo.s (WStep.istore (L' := (LA p q r b0 b1 b2 ra rb mix [wI 0, wI 1, wI 0, wI 3, wI 1, wI 3, wI 0, wI 0, wU])) a0_244 rfl) ?_
    exact segE0 Z a0 hw n0 p q r b0 b1 b2 ra rb mix _ _ _ _ _ _
theorem segD0111 (Z : State) (a0 : Array Value) (hw : ∀ d ∈ tables_1, d.before a0 Z = true) (n0 : Nat) (p q r b0 b1 b2 : Int64) (ra rb mix : Int32) : WGo (g0 Z (fun k => n0 + k) n0 0 0) (123, (LA p q r b0 b1 b2 ra rb mix [wI 0, wI 1, wI 1, wI 1, wU, wU, wU, wU, wU]), [], (HA p q r b0 b1 b2), 6) (fun v σ' u' => v = some (.int 1) ∧ σ'.length ≤ 16 ∧ u' ≤ 128) := by
  refine WGo.s (WStep.iload a0_123 rfl) ?_
  refine WGo.s (WStep.iload a0_125 rfl) ?_
  refine WGo.s (WStep.isub a0_127) ?_
  show WGo _ (128, (LA p q r b0 b1 b2 ra rb mix [wI 0, wI 1, wI 1, wI 1, wU, wU, wU, wU, wU]), [.int 1], (HA p q r b0 b1 b2), 6) _
  refine WGo.s (WStep.istore (L' := (LA p q r b0 b1 b2 ra rb mix [wI 0, wI 1, wI 1, wI 1, wI 1, wU, wU, wU, wU])) a0_128 rfl) ?_
  refine WGo.s (WStep.iload a0_130 rfl) ?_
  refine WGo.s (WStep.iload a0_132 rfl) ?_
  refine WGo.s (WStep.isub a0_134) ?_
  show WGo _ (135, (LA p q r b0 b1 b2 ra rb mix [wI 0, wI 1, wI 1, wI 1, wI 1, wU, wU, wU, wU]), [.int 0], (HA p q r b0 b1 b2), 6) _
  refine WGo.s (WStep.istore (L' := (LA p q r b0 b1 b2 ra rb mix [wI 0, wI 1, wI 1, wI 1, wI 1, wI 0, wU, wU, wU])) a0_135 rfl) ?_
  refine WGo.s (WStep.iload a0_137 rfl) ?_
  refine WGo.s (WStep.iload a0_139 rfl) ?_
  refine WGo.s (WStep.icmpF a0_141 (by decide)) ?_
  refine WGo.s (WStep.iconst (0 : Int32) a0_144 rfl) ?_
  refine WGo.s (WStep.istore (L' := (LA p q r b0 b1 b2 ra rb mix [wI 0, wI 1, wI 1, wI 1, wI 1, wI 0, wI 0, wU, wU])) a0_145 rfl) ?_
  refine WGo.s (WStep.goto a0_147) ?_
  refine WGo.s (WStep.aload a0_229 rfl rfl) ?_
  refine WGo.s (WStep.iload a0_231 rfl) ?_
  refine WGo.s (WStep.iload a0_233 rfl) ?_
  refine WGo.s (WStep.aload a0_235 rfl rfl) ?_
  refine WGo.s (WStep.iload a0_237 rfl) ?_
  refine WGo.s (WStep.iload a0_239 rfl) ?_
  refine WGo.callS a0_241 (ok3 hw _ _ _ _) (wd hw 10 rfl) (wd hw 11 rfl) (argsL := [.ref 0, .int 0, .int 1, .ref 1, .int 1, .int 1]) (S := []) (c3_0111 hw _ _ p q r b0 b1 b2 _) rfl rfl rfl rfl rfl rfl (Nat.le_of_ble_eq_true rfl) (Nat.le_of_ble_eq_true rfl) ?_
  rintro _ _ _ ⟨⟨rfl, hE⟩ | ⟨rfl, hE⟩, rfl, rfl⟩
  · exfalso
    simp_all
  · skip
    show WGo _ (244, (LA p q r b0 b1 b2 ra rb mix [wI 0, wI 1, wI 1, wI 1, wI 1, wI 0, wI 0, wU, wU]), [.int 0], (HA p q r b0 b1 b2), 6) _
    refine WGo.s (WStep.istore (L' := (LA p q r b0 b1 b2 ra rb mix [wI 0, wI 1, wI 1, wI 1, wI 1, wI 0, wI 0, wI 0, wU])) a0_244 rfl) ?_
    exact segE0 Z a0 hw n0 p q r b0 b1 b2 ra rb mix _ _ _ _ _ _
theorem segD0112 (Z : State) (a0 : Array Value) (hw : ∀ d ∈ tables_1, d.before a0 Z = true) (n0 : Nat) (p q r b0 b1 b2 : Int64) (ra rb mix : Int32) : WGo (g0 Z (fun k => n0 + k) n0 0 0) (123, (LA p q r b0 b1 b2 ra rb mix [wI 0, wI 1, wI 1, wI 2, wU, wU, wU, wU, wU]), [], (HA p q r b0 b1 b2), 6) (fun v σ' u' => v = some (.int 1) ∧ σ'.length ≤ 16 ∧ u' ≤ 128) := by
  refine WGo.s (WStep.iload a0_123 rfl) ?_
  refine WGo.s (WStep.iload a0_125 rfl) ?_
  refine WGo.s (WStep.isub a0_127) ?_
  show WGo _ (128, (LA p q r b0 b1 b2 ra rb mix [wI 0, wI 1, wI 1, wI 2, wU, wU, wU, wU, wU]), [.int 1], (HA p q r b0 b1 b2), 6) _
  refine WGo.s (WStep.istore (L' := (LA p q r b0 b1 b2 ra rb mix [wI 0, wI 1, wI 1, wI 2, wI 1, wU, wU, wU, wU])) a0_128 rfl) ?_
  refine WGo.s (WStep.iload a0_130 rfl) ?_
  refine WGo.s (WStep.iload a0_132 rfl) ?_
  refine WGo.s (WStep.isub a0_134) ?_
  show WGo _ (135, (LA p q r b0 b1 b2 ra rb mix [wI 0, wI 1, wI 1, wI 2, wI 1, wU, wU, wU, wU]), [.int 1], (HA p q r b0 b1 b2), 6) _
  refine WGo.s (WStep.istore (L' := (LA p q r b0 b1 b2 ra rb mix [wI 0, wI 1, wI 1, wI 2, wI 1, wI 1, wU, wU, wU])) a0_135 rfl) ?_
  refine WGo.s (WStep.iload a0_137 rfl) ?_
  refine WGo.s (WStep.iload a0_139 rfl) ?_
  refine WGo.s (WStep.icmpT a0_141 (by decide)) ?_
  refine WGo.s (WStep.iconst (1 : Int32) a0_150 rfl) ?_
  refine WGo.s (WStep.istore (L' := (LA p q r b0 b1 b2 ra rb mix [wI 0, wI 1, wI 1, wI 2, wI 1, wI 1, wI 1, wU, wU])) a0_151 rfl) ?_
  refine WGo.s (WStep.iload a0_153 rfl) ?_
  refine WGo.s (WStep.ifF a0_155 (by decide)) ?_
  refine WGo.s (WStep.aload a0_158 rfl rfl) ?_
  refine WGo.s (WStep.iload a0_160 rfl) ?_
  refine WGo.s (WStep.laload 0 a0_162 rfl (by decide) rfl rfl) ?_
  refine WGo.s (WStep.aload a0_163 rfl rfl) ?_
  refine WGo.s (WStep.iload a0_165 rfl) ?_
  refine WGo.s (WStep.laload 1 a0_167 rfl (by decide) rfl rfl) ?_
  refine WGo.s (WStep.lcmp a0_168) ?_
  refine WGo.eqL a0_169 (fun h169 => ?_) (fun h169 => ?_)
  · refine WGo.s (WStep.iload a0_175 rfl) ?_
    refine WGo.s (WStep.iconst (1 : Int32) a0_177 rfl) ?_
    refine WGo.s (WStep.icmpT a0_178 (by decide)) ?_
    refine WGo.s (WStep.iload a0_202 rfl) ?_
    refine WGo.s (WStep.iconst (2 : Int32) a0_204 rfl) ?_
    refine WGo.s (WStep.icmpT a0_205 (by decide)) ?_
    refine WGo.s (WStep.aload a0_229 rfl rfl) ?_
    refine WGo.s (WStep.iload a0_231 rfl) ?_
    refine WGo.s (WStep.iload a0_233 rfl) ?_
    refine WGo.s (WStep.aload a0_235 rfl rfl) ?_
    refine WGo.s (WStep.iload a0_237 rfl) ?_
    refine WGo.s (WStep.iload a0_239 rfl) ?_
    refine WGo.callS a0_241 (ok3 hw _ _ _ _) (wd hw 10 rfl) (wd hw 11 rfl) (argsL := [.ref 0, .int 0, .int 1, .ref 1, .int 1, .int 2]) (S := []) (c3_0112 hw _ _ p q r b0 b1 b2 _) rfl rfl rfl rfl rfl rfl (Nat.le_of_ble_eq_true rfl) (Nat.le_of_ble_eq_true rfl) ?_
    rintro _ _ _ ⟨⟨rfl, hE⟩ | ⟨rfl, hE⟩, rfl, rfl⟩
    · skip
      show WGo _ (244, (LA p q r b0 b1 b2 ra rb mix [wI 0, wI 1, wI 1, wI 2, wI 1, wI 1, wI 1, wU, wU]), [.int 1], (HA p q r b0 b1 b2), 6) _
      refine WGo.s (WStep.istore (L' := (LA p q r b0 b1 b2 ra rb mix [wI 0, wI 1, wI 1, wI 2, wI 1, wI 1, wI 1, wI 1, wU])) a0_244 rfl) ?_
      exact segE1 Z a0 hw n0 p q r b0 b1 b2 ra rb mix _ _ _ _ _ _
    · exfalso
      simp_all
  · refine WGo.s (WStep.iconst (0 : Int32) a0_172 rfl) ?_
    refine WGo.s (WStep.istore (L' := (LA p q r b0 b1 b2 ra rb mix [wI 0, wI 1, wI 1, wI 2, wI 1, wI 1, wI 0, wU, wU])) a0_173 rfl) ?_
    refine WGo.s (WStep.iload a0_175 rfl) ?_
    refine WGo.s (WStep.iconst (1 : Int32) a0_177 rfl) ?_
    refine WGo.s (WStep.icmpT a0_178 (by decide)) ?_
    refine WGo.s (WStep.iload a0_202 rfl) ?_
    refine WGo.s (WStep.iconst (2 : Int32) a0_204 rfl) ?_
    refine WGo.s (WStep.icmpT a0_205 (by decide)) ?_
    refine WGo.s (WStep.aload a0_229 rfl rfl) ?_
    refine WGo.s (WStep.iload a0_231 rfl) ?_
    refine WGo.s (WStep.iload a0_233 rfl) ?_
    refine WGo.s (WStep.aload a0_235 rfl rfl) ?_
    refine WGo.s (WStep.iload a0_237 rfl) ?_
    refine WGo.s (WStep.iload a0_239 rfl) ?_
    refine WGo.callS a0_241 (ok3 hw _ _ _ _) (wd hw 10 rfl) (wd hw 11 rfl) (argsL := [.ref 0, .int 0, .int 1, .ref 1, .int 1, .int 2]) (S := []) (c3_0112 hw _ _ p q r b0 b1 b2 _) rfl rfl rfl rfl rfl rfl (Nat.le_of_ble_eq_true rfl) (Nat.le_of_ble_eq_true rfl) ?_
    rintro _ _ _ ⟨⟨rfl, hE⟩ | ⟨rfl, hE⟩, rfl, rfl⟩
    · exfalso
      simp_all
    · skip
      show WGo _ (244, (LA p q r b0 b1 b2 ra rb mix [wI 0, wI 1, wI 1, wI 2, wI 1, wI 1, wI 0, wU, wU]), [.int 0], (HA p q r b0 b1 b2), 6) _
      refine WGo.s (WStep.istore (L' := (LA p q r b0 b1 b2 ra rb mix [wI 0, wI 1, wI 1, wI 2, wI 1, wI 1, wI 0, wI 0, wU])) a0_244 rfl) ?_
      exact segE0 Z a0 hw n0 p q r b0 b1 b2 ra rb mix _ _ _ _ _ _
theorem segD0113 (Z : State) (a0 : Array Value) (hw : ∀ d ∈ tables_1, d.before a0 Z = true) (n0 : Nat) (p q r b0 b1 b2 : Int64) (ra rb mix : Int32) : WGo (g0 Z (fun k => n0 + k) n0 0 0) (123, (LA p q r b0 b1 b2 ra rb mix [wI 0, wI 1, wI 1, wI 3, wU, wU, wU, wU, wU]), [], (HA p q r b0 b1 b2), 6) (fun v σ' u' => v = some (.int 1) ∧ σ'.length ≤ 16 ∧ u' ≤ 128) := by
  refine WGo.s (WStep.iload a0_123 rfl) ?_
  refine WGo.s (WStep.iload a0_125 rfl) ?_
  refine WGo.s (WStep.isub a0_127) ?_
  show WGo _ (128, (LA p q r b0 b1 b2 ra rb mix [wI 0, wI 1, wI 1, wI 3, wU, wU, wU, wU, wU]), [.int 1], (HA p q r b0 b1 b2), 6) _
  refine WGo.s (WStep.istore (L' := (LA p q r b0 b1 b2 ra rb mix [wI 0, wI 1, wI 1, wI 3, wI 1, wU, wU, wU, wU])) a0_128 rfl) ?_
  refine WGo.s (WStep.iload a0_130 rfl) ?_
  refine WGo.s (WStep.iload a0_132 rfl) ?_
  refine WGo.s (WStep.isub a0_134) ?_
  show WGo _ (135, (LA p q r b0 b1 b2 ra rb mix [wI 0, wI 1, wI 1, wI 3, wI 1, wU, wU, wU, wU]), [.int 2], (HA p q r b0 b1 b2), 6) _
  refine WGo.s (WStep.istore (L' := (LA p q r b0 b1 b2 ra rb mix [wI 0, wI 1, wI 1, wI 3, wI 1, wI 2, wU, wU, wU])) a0_135 rfl) ?_
  refine WGo.s (WStep.iload a0_137 rfl) ?_
  refine WGo.s (WStep.iload a0_139 rfl) ?_
  refine WGo.s (WStep.icmpF a0_141 (by decide)) ?_
  refine WGo.s (WStep.iconst (0 : Int32) a0_144 rfl) ?_
  refine WGo.s (WStep.istore (L' := (LA p q r b0 b1 b2 ra rb mix [wI 0, wI 1, wI 1, wI 3, wI 1, wI 2, wI 0, wU, wU])) a0_145 rfl) ?_
  refine WGo.s (WStep.goto a0_147) ?_
  refine WGo.s (WStep.aload a0_229 rfl rfl) ?_
  refine WGo.s (WStep.iload a0_231 rfl) ?_
  refine WGo.s (WStep.iload a0_233 rfl) ?_
  refine WGo.s (WStep.aload a0_235 rfl rfl) ?_
  refine WGo.s (WStep.iload a0_237 rfl) ?_
  refine WGo.s (WStep.iload a0_239 rfl) ?_
  refine WGo.callS a0_241 (ok3 hw _ _ _ _) (wd hw 10 rfl) (wd hw 11 rfl) (argsL := [.ref 0, .int 0, .int 1, .ref 1, .int 1, .int 3]) (S := []) (c3_0113 hw _ _ p q r b0 b1 b2 _) rfl rfl rfl rfl rfl rfl (Nat.le_of_ble_eq_true rfl) (Nat.le_of_ble_eq_true rfl) ?_
  rintro _ _ _ ⟨⟨rfl, hE⟩ | ⟨rfl, hE⟩, rfl, rfl⟩
  · exfalso
    simp_all
  · skip
    show WGo _ (244, (LA p q r b0 b1 b2 ra rb mix [wI 0, wI 1, wI 1, wI 3, wI 1, wI 2, wI 0, wU, wU]), [.int 0], (HA p q r b0 b1 b2), 6) _
    refine WGo.s (WStep.istore (L' := (LA p q r b0 b1 b2 ra rb mix [wI 0, wI 1, wI 1, wI 3, wI 1, wI 2, wI 0, wI 0, wU])) a0_244 rfl) ?_
    exact segE0 Z a0 hw n0 p q r b0 b1 b2 ra rb mix _ _ _ _ _ _
theorem segD0122 (Z : State) (a0 : Array Value) (hw : ∀ d ∈ tables_1, d.before a0 Z = true) (n0 : Nat) (p q r b0 b1 b2 : Int64) (ra rb mix : Int32) : WGo (g0 Z (fun k => n0 + k) n0 0 0) (123, (LA p q r b0 b1 b2 ra rb mix [wI 0, wI 1, wI 2, wI 2, wU, wU, wU, wU, wU]), [], (HA p q r b0 b1 b2), 6) (fun v σ' u' => v = some (.int 1) ∧ σ'.length ≤ 16 ∧ u' ≤ 128) := by
  refine WGo.s (WStep.iload a0_123 rfl) ?_
  refine WGo.s (WStep.iload a0_125 rfl) ?_
  refine WGo.s (WStep.isub a0_127) ?_
  show WGo _ (128, (LA p q r b0 b1 b2 ra rb mix [wI 0, wI 1, wI 2, wI 2, wU, wU, wU, wU, wU]), [.int 1], (HA p q r b0 b1 b2), 6) _
  refine WGo.s (WStep.istore (L' := (LA p q r b0 b1 b2 ra rb mix [wI 0, wI 1, wI 2, wI 2, wI 1, wU, wU, wU, wU])) a0_128 rfl) ?_
  refine WGo.s (WStep.iload a0_130 rfl) ?_
  refine WGo.s (WStep.iload a0_132 rfl) ?_
  refine WGo.s (WStep.isub a0_134) ?_
  show WGo _ (135, (LA p q r b0 b1 b2 ra rb mix [wI 0, wI 1, wI 2, wI 2, wI 1, wU, wU, wU, wU]), [.int 0], (HA p q r b0 b1 b2), 6) _
  refine WGo.s (WStep.istore (L' := (LA p q r b0 b1 b2 ra rb mix [wI 0, wI 1, wI 2, wI 2, wI 1, wI 0, wU, wU, wU])) a0_135 rfl) ?_
  refine WGo.s (WStep.iload a0_137 rfl) ?_
  refine WGo.s (WStep.iload a0_139 rfl) ?_
  refine WGo.s (WStep.icmpF a0_141 (by decide)) ?_
  refine WGo.s (WStep.iconst (0 : Int32) a0_144 rfl) ?_
  refine WGo.s (WStep.istore (L' := (LA p q r b0 b1 b2 ra rb mix [wI 0, wI 1, wI 2, wI 2, wI 1, wI 0, wI 0, wU, wU])) a0_145 rfl) ?_
  refine WGo.s (WStep.goto a0_147) ?_
  refine WGo.s (WStep.aload a0_229 rfl rfl) ?_
  refine WGo.s (WStep.iload a0_231 rfl) ?_
  refine WGo.s (WStep.iload a0_233 rfl) ?_
  refine WGo.s (WStep.aload a0_235 rfl rfl) ?_
  refine WGo.s (WStep.iload a0_237 rfl) ?_
  refine WGo.s (WStep.iload a0_239 rfl) ?_
  refine WGo.callS a0_241 (ok3 hw _ _ _ _) (wd hw 10 rfl) (wd hw 11 rfl) (argsL := [.ref 0, .int 0, .int 1, .ref 1, .int 2, .int 2]) (S := []) (c3_0122 hw _ _ p q r b0 b1 b2 _) rfl rfl rfl rfl rfl rfl (Nat.le_of_ble_eq_true rfl) (Nat.le_of_ble_eq_true rfl) ?_
  rintro _ _ _ ⟨⟨rfl, hE⟩ | ⟨rfl, hE⟩, rfl, rfl⟩
  · exfalso
    simp_all
  · skip
    show WGo _ (244, (LA p q r b0 b1 b2 ra rb mix [wI 0, wI 1, wI 2, wI 2, wI 1, wI 0, wI 0, wU, wU]), [.int 0], (HA p q r b0 b1 b2), 6) _
    refine WGo.s (WStep.istore (L' := (LA p q r b0 b1 b2 ra rb mix [wI 0, wI 1, wI 2, wI 2, wI 1, wI 0, wI 0, wI 0, wU])) a0_244 rfl) ?_
    exact segE0 Z a0 hw n0 p q r b0 b1 b2 ra rb mix _ _ _ _ _ _
theorem segD0123 (Z : State) (a0 : Array Value) (hw : ∀ d ∈ tables_1, d.before a0 Z = true) (n0 : Nat) (p q r b0 b1 b2 : Int64) (ra rb mix : Int32) : WGo (g0 Z (fun k => n0 + k) n0 0 0) (123, (LA p q r b0 b1 b2 ra rb mix [wI 0, wI 1, wI 2, wI 3, wU, wU, wU, wU, wU]), [], (HA p q r b0 b1 b2), 6) (fun v σ' u' => v = some (.int 1) ∧ σ'.length ≤ 16 ∧ u' ≤ 128) := by
  refine WGo.s (WStep.iload a0_123 rfl) ?_
  refine WGo.s (WStep.iload a0_125 rfl) ?_
  refine WGo.s (WStep.isub a0_127) ?_
  show WGo _ (128, (LA p q r b0 b1 b2 ra rb mix [wI 0, wI 1, wI 2, wI 3, wU, wU, wU, wU, wU]), [.int 1], (HA p q r b0 b1 b2), 6) _
  refine WGo.s (WStep.istore (L' := (LA p q r b0 b1 b2 ra rb mix [wI 0, wI 1, wI 2, wI 3, wI 1, wU, wU, wU, wU])) a0_128 rfl) ?_
  refine WGo.s (WStep.iload a0_130 rfl) ?_
  refine WGo.s (WStep.iload a0_132 rfl) ?_
  refine WGo.s (WStep.isub a0_134) ?_
  show WGo _ (135, (LA p q r b0 b1 b2 ra rb mix [wI 0, wI 1, wI 2, wI 3, wI 1, wU, wU, wU, wU]), [.int 1], (HA p q r b0 b1 b2), 6) _
  refine WGo.s (WStep.istore (L' := (LA p q r b0 b1 b2 ra rb mix [wI 0, wI 1, wI 2, wI 3, wI 1, wI 1, wU, wU, wU])) a0_135 rfl) ?_
  refine WGo.s (WStep.iload a0_137 rfl) ?_
  refine WGo.s (WStep.iload a0_139 rfl) ?_
  refine WGo.s (WStep.icmpT a0_141 (by decide)) ?_
  refine WGo.s (WStep.iconst (1 : Int32) a0_150 rfl) ?_
  refine WGo.s (WStep.istore (L' := (LA p q r b0 b1 b2 ra rb mix [wI 0, wI 1, wI 2, wI 3, wI 1, wI 1, wI 1, wU, wU])) a0_151 rfl) ?_
  refine WGo.s (WStep.iload a0_153 rfl) ?_
  refine WGo.s (WStep.ifF a0_155 (by decide)) ?_
  refine WGo.s (WStep.aload a0_158 rfl rfl) ?_
  refine WGo.s (WStep.iload a0_160 rfl) ?_
  refine WGo.s (WStep.laload 0 a0_162 rfl (by decide) rfl rfl) ?_
  refine WGo.s (WStep.aload a0_163 rfl rfl) ?_
  refine WGo.s (WStep.iload a0_165 rfl) ?_
  refine WGo.s (WStep.laload 2 a0_167 rfl (by decide) rfl rfl) ?_
  refine WGo.s (WStep.lcmp a0_168) ?_
  refine WGo.eqL a0_169 (fun h169 => ?_) (fun h169 => ?_)
  · refine WGo.s (WStep.iload a0_175 rfl) ?_
    refine WGo.s (WStep.iconst (1 : Int32) a0_177 rfl) ?_
    refine WGo.s (WStep.icmpT a0_178 (by decide)) ?_
    refine WGo.s (WStep.iload a0_202 rfl) ?_
    refine WGo.s (WStep.iconst (2 : Int32) a0_204 rfl) ?_
    refine WGo.s (WStep.icmpT a0_205 (by decide)) ?_
    refine WGo.s (WStep.aload a0_229 rfl rfl) ?_
    refine WGo.s (WStep.iload a0_231 rfl) ?_
    refine WGo.s (WStep.iload a0_233 rfl) ?_
    refine WGo.s (WStep.aload a0_235 rfl rfl) ?_
    refine WGo.s (WStep.iload a0_237 rfl) ?_
    refine WGo.s (WStep.iload a0_239 rfl) ?_
    refine WGo.callS a0_241 (ok3 hw _ _ _ _) (wd hw 10 rfl) (wd hw 11 rfl) (argsL := [.ref 0, .int 0, .int 1, .ref 1, .int 2, .int 3]) (S := []) (c3_0123 hw _ _ p q r b0 b1 b2 _) rfl rfl rfl rfl rfl rfl (Nat.le_of_ble_eq_true rfl) (Nat.le_of_ble_eq_true rfl) ?_
    rintro _ _ _ ⟨⟨rfl, hE⟩ | ⟨rfl, hE⟩, rfl, rfl⟩
    · skip
      show WGo _ (244, (LA p q r b0 b1 b2 ra rb mix [wI 0, wI 1, wI 2, wI 3, wI 1, wI 1, wI 1, wU, wU]), [.int 1], (HA p q r b0 b1 b2), 6) _
      refine WGo.s (WStep.istore (L' := (LA p q r b0 b1 b2 ra rb mix [wI 0, wI 1, wI 2, wI 3, wI 1, wI 1, wI 1, wI 1, wU])) a0_244 rfl) ?_
      exact segE1 Z a0 hw n0 p q r b0 b1 b2 ra rb mix _ _ _ _ _ _
    · exfalso
      simp_all
  · refine WGo.s (WStep.iconst (0 : Int32) a0_172 rfl) ?_
    refine WGo.s (WStep.istore (L' := (LA p q r b0 b1 b2 ra rb mix [wI 0, wI 1, wI 2, wI 3, wI 1, wI 1, wI 0, wU, wU])) a0_173 rfl) ?_
    refine WGo.s (WStep.iload a0_175 rfl) ?_
    refine WGo.s (WStep.iconst (1 : Int32) a0_177 rfl) ?_
    refine WGo.s (WStep.icmpT a0_178 (by decide)) ?_
    refine WGo.s (WStep.iload a0_202 rfl) ?_
    refine WGo.s (WStep.iconst (2 : Int32) a0_204 rfl) ?_
    refine WGo.s (WStep.icmpT a0_205 (by decide)) ?_
    refine WGo.s (WStep.aload a0_229 rfl rfl) ?_
    refine WGo.s (WStep.iload a0_231 rfl) ?_
    refine WGo.s (WStep.iload a0_233 rfl) ?_
    refine WGo.s (WStep.aload a0_235 rfl rfl) ?_
    refine WGo.s (WStep.iload a0_237 rfl) ?_
    refine WGo.s (WStep.iload a0_239 rfl) ?_
    refine WGo.callS a0_241 (ok3 hw _ _ _ _) (wd hw 10 rfl) (wd hw 11 rfl) (argsL := [.ref 0, .int 0, .int 1, .ref 1, .int 2, .int 3]) (S := []) (c3_0123 hw _ _ p q r b0 b1 b2 _) rfl rfl rfl rfl rfl rfl (Nat.le_of_ble_eq_true rfl) (Nat.le_of_ble_eq_true rfl) ?_
    rintro _ _ _ ⟨⟨rfl, hE⟩ | ⟨rfl, hE⟩, rfl, rfl⟩
    · exfalso
      simp_all
    · skip
      show WGo _ (244, (LA p q r b0 b1 b2 ra rb mix [wI 0, wI 1, wI 2, wI 3, wI 1, wI 1, wI 0, wU, wU]), [.int 0], (HA p q r b0 b1 b2), 6) _
      refine WGo.s (WStep.istore (L' := (LA p q r b0 b1 b2 ra rb mix [wI 0, wI 1, wI 2, wI 3, wI 1, wI 1, wI 0, wI 0, wU])) a0_244 rfl) ?_
      exact segE0 Z a0 hw n0 p q r b0 b1 b2 ra rb mix _ _ _ _ _ _
theorem segD0133 (Z : State) (a0 : Array Value) (hw : ∀ d ∈ tables_1, d.before a0 Z = true) (n0 : Nat) (p q r b0 b1 b2 : Int64) (ra rb mix : Int32) : WGo (g0 Z (fun k => n0 + k) n0 0 0) (123, (LA p q r b0 b1 b2 ra rb mix [wI 0, wI 1, wI 3, wI 3, wU, wU, wU, wU, wU]), [], (HA p q r b0 b1 b2), 6) (fun v σ' u' => v = some (.int 1) ∧ σ'.length ≤ 16 ∧ u' ≤ 128) := by
  refine WGo.s (WStep.iload a0_123 rfl) ?_
  refine WGo.s (WStep.iload a0_125 rfl) ?_
  refine WGo.s (WStep.isub a0_127) ?_
  show WGo _ (128, (LA p q r b0 b1 b2 ra rb mix [wI 0, wI 1, wI 3, wI 3, wU, wU, wU, wU, wU]), [.int 1], (HA p q r b0 b1 b2), 6) _
  refine WGo.s (WStep.istore (L' := (LA p q r b0 b1 b2 ra rb mix [wI 0, wI 1, wI 3, wI 3, wI 1, wU, wU, wU, wU])) a0_128 rfl) ?_
  refine WGo.s (WStep.iload a0_130 rfl) ?_
  refine WGo.s (WStep.iload a0_132 rfl) ?_
  refine WGo.s (WStep.isub a0_134) ?_
  show WGo _ (135, (LA p q r b0 b1 b2 ra rb mix [wI 0, wI 1, wI 3, wI 3, wI 1, wU, wU, wU, wU]), [.int 0], (HA p q r b0 b1 b2), 6) _
  refine WGo.s (WStep.istore (L' := (LA p q r b0 b1 b2 ra rb mix [wI 0, wI 1, wI 3, wI 3, wI 1, wI 0, wU, wU, wU])) a0_135 rfl) ?_
  refine WGo.s (WStep.iload a0_137 rfl) ?_
  refine WGo.s (WStep.iload a0_139 rfl) ?_
  refine WGo.s (WStep.icmpF a0_141 (by decide)) ?_
  refine WGo.s (WStep.iconst (0 : Int32) a0_144 rfl) ?_
  refine WGo.s (WStep.istore (L' := (LA p q r b0 b1 b2 ra rb mix [wI 0, wI 1, wI 3, wI 3, wI 1, wI 0, wI 0, wU, wU])) a0_145 rfl) ?_
  refine WGo.s (WStep.goto a0_147) ?_
  refine WGo.s (WStep.aload a0_229 rfl rfl) ?_
  refine WGo.s (WStep.iload a0_231 rfl) ?_
  refine WGo.s (WStep.iload a0_233 rfl) ?_
  refine WGo.s (WStep.aload a0_235 rfl rfl) ?_
  refine WGo.s (WStep.iload a0_237 rfl) ?_
  refine WGo.s (WStep.iload a0_239 rfl) ?_
  refine WGo.callS a0_241 (ok3 hw _ _ _ _) (wd hw 10 rfl) (wd hw 11 rfl) (argsL := [.ref 0, .int 0, .int 1, .ref 1, .int 3, .int 3]) (S := []) (c3_0133 hw _ _ p q r b0 b1 b2 _) rfl rfl rfl rfl rfl rfl (Nat.le_of_ble_eq_true rfl) (Nat.le_of_ble_eq_true rfl) ?_
  rintro _ _ _ ⟨⟨rfl, hE⟩ | ⟨rfl, hE⟩, rfl, rfl⟩
  · exfalso
    simp_all
  · skip
    show WGo _ (244, (LA p q r b0 b1 b2 ra rb mix [wI 0, wI 1, wI 3, wI 3, wI 1, wI 0, wI 0, wU, wU]), [.int 0], (HA p q r b0 b1 b2), 6) _
    refine WGo.s (WStep.istore (L' := (LA p q r b0 b1 b2 ra rb mix [wI 0, wI 1, wI 3, wI 3, wI 1, wI 0, wI 0, wI 0, wU])) a0_244 rfl) ?_
    exact segE0 Z a0 hw n0 p q r b0 b1 b2 ra rb mix _ _ _ _ _ _
theorem segD0200 (Z : State) (a0 : Array Value) (hw : ∀ d ∈ tables_1, d.before a0 Z = true) (n0 : Nat) (p q r b0 b1 b2 : Int64) (ra rb mix : Int32) : WGo (g0 Z (fun k => n0 + k) n0 0 0) (123, (LA p q r b0 b1 b2 ra rb mix [wI 0, wI 2, wI 0, wI 0, wU, wU, wU, wU, wU]), [], (HA p q r b0 b1 b2), 6) (fun v σ' u' => v = some (.int 1) ∧ σ'.length ≤ 16 ∧ u' ≤ 128) := by
  refine WGo.s (WStep.iload a0_123 rfl) ?_
  refine WGo.s (WStep.iload a0_125 rfl) ?_
  refine WGo.s (WStep.isub a0_127) ?_
  show WGo _ (128, (LA p q r b0 b1 b2 ra rb mix [wI 0, wI 2, wI 0, wI 0, wU, wU, wU, wU, wU]), [.int 2], (HA p q r b0 b1 b2), 6) _
  refine WGo.s (WStep.istore (L' := (LA p q r b0 b1 b2 ra rb mix [wI 0, wI 2, wI 0, wI 0, wI 2, wU, wU, wU, wU])) a0_128 rfl) ?_
  refine WGo.s (WStep.iload a0_130 rfl) ?_
  refine WGo.s (WStep.iload a0_132 rfl) ?_
  refine WGo.s (WStep.isub a0_134) ?_
  show WGo _ (135, (LA p q r b0 b1 b2 ra rb mix [wI 0, wI 2, wI 0, wI 0, wI 2, wU, wU, wU, wU]), [.int 0], (HA p q r b0 b1 b2), 6) _
  refine WGo.s (WStep.istore (L' := (LA p q r b0 b1 b2 ra rb mix [wI 0, wI 2, wI 0, wI 0, wI 2, wI 0, wU, wU, wU])) a0_135 rfl) ?_
  refine WGo.s (WStep.iload a0_137 rfl) ?_
  refine WGo.s (WStep.iload a0_139 rfl) ?_
  refine WGo.s (WStep.icmpF a0_141 (by decide)) ?_
  refine WGo.s (WStep.iconst (0 : Int32) a0_144 rfl) ?_
  refine WGo.s (WStep.istore (L' := (LA p q r b0 b1 b2 ra rb mix [wI 0, wI 2, wI 0, wI 0, wI 2, wI 0, wI 0, wU, wU])) a0_145 rfl) ?_
  refine WGo.s (WStep.goto a0_147) ?_
  refine WGo.s (WStep.aload a0_229 rfl rfl) ?_
  refine WGo.s (WStep.iload a0_231 rfl) ?_
  refine WGo.s (WStep.iload a0_233 rfl) ?_
  refine WGo.s (WStep.aload a0_235 rfl rfl) ?_
  refine WGo.s (WStep.iload a0_237 rfl) ?_
  refine WGo.s (WStep.iload a0_239 rfl) ?_
  refine WGo.callS a0_241 (ok3 hw _ _ _ _) (wd hw 10 rfl) (wd hw 11 rfl) (argsL := [.ref 0, .int 0, .int 2, .ref 1, .int 0, .int 0]) (S := []) (c3_0200 hw _ _ p q r b0 b1 b2 _) rfl rfl rfl rfl rfl rfl (Nat.le_of_ble_eq_true rfl) (Nat.le_of_ble_eq_true rfl) ?_
  rintro _ _ _ ⟨⟨rfl, hE⟩ | ⟨rfl, hE⟩, rfl, rfl⟩
  · exfalso
    simp_all
  · skip
    show WGo _ (244, (LA p q r b0 b1 b2 ra rb mix [wI 0, wI 2, wI 0, wI 0, wI 2, wI 0, wI 0, wU, wU]), [.int 0], (HA p q r b0 b1 b2), 6) _
    refine WGo.s (WStep.istore (L' := (LA p q r b0 b1 b2 ra rb mix [wI 0, wI 2, wI 0, wI 0, wI 2, wI 0, wI 0, wI 0, wU])) a0_244 rfl) ?_
    exact segE0 Z a0 hw n0 p q r b0 b1 b2 ra rb mix _ _ _ _ _ _
theorem segD0201 (Z : State) (a0 : Array Value) (hw : ∀ d ∈ tables_1, d.before a0 Z = true) (n0 : Nat) (p q r b0 b1 b2 : Int64) (ra rb mix : Int32) : WGo (g0 Z (fun k => n0 + k) n0 0 0) (123, (LA p q r b0 b1 b2 ra rb mix [wI 0, wI 2, wI 0, wI 1, wU, wU, wU, wU, wU]), [], (HA p q r b0 b1 b2), 6) (fun v σ' u' => v = some (.int 1) ∧ σ'.length ≤ 16 ∧ u' ≤ 128) := by
  refine WGo.s (WStep.iload a0_123 rfl) ?_
  refine WGo.s (WStep.iload a0_125 rfl) ?_
  refine WGo.s (WStep.isub a0_127) ?_
  show WGo _ (128, (LA p q r b0 b1 b2 ra rb mix [wI 0, wI 2, wI 0, wI 1, wU, wU, wU, wU, wU]), [.int 2], (HA p q r b0 b1 b2), 6) _
  refine WGo.s (WStep.istore (L' := (LA p q r b0 b1 b2 ra rb mix [wI 0, wI 2, wI 0, wI 1, wI 2, wU, wU, wU, wU])) a0_128 rfl) ?_
  refine WGo.s (WStep.iload a0_130 rfl) ?_
  refine WGo.s (WStep.iload a0_132 rfl) ?_
  refine WGo.s (WStep.isub a0_134) ?_
  show WGo _ (135, (LA p q r b0 b1 b2 ra rb mix [wI 0, wI 2, wI 0, wI 1, wI 2, wU, wU, wU, wU]), [.int 1], (HA p q r b0 b1 b2), 6) _
  refine WGo.s (WStep.istore (L' := (LA p q r b0 b1 b2 ra rb mix [wI 0, wI 2, wI 0, wI 1, wI 2, wI 1, wU, wU, wU])) a0_135 rfl) ?_
  refine WGo.s (WStep.iload a0_137 rfl) ?_
  refine WGo.s (WStep.iload a0_139 rfl) ?_
  refine WGo.s (WStep.icmpF a0_141 (by decide)) ?_
  refine WGo.s (WStep.iconst (0 : Int32) a0_144 rfl) ?_
  refine WGo.s (WStep.istore (L' := (LA p q r b0 b1 b2 ra rb mix [wI 0, wI 2, wI 0, wI 1, wI 2, wI 1, wI 0, wU, wU])) a0_145 rfl) ?_
  refine WGo.s (WStep.goto a0_147) ?_
  refine WGo.s (WStep.aload a0_229 rfl rfl) ?_
  refine WGo.s (WStep.iload a0_231 rfl) ?_
  refine WGo.s (WStep.iload a0_233 rfl) ?_
  refine WGo.s (WStep.aload a0_235 rfl rfl) ?_
  refine WGo.s (WStep.iload a0_237 rfl) ?_
  refine WGo.s (WStep.iload a0_239 rfl) ?_
  refine WGo.callS a0_241 (ok3 hw _ _ _ _) (wd hw 10 rfl) (wd hw 11 rfl) (argsL := [.ref 0, .int 0, .int 2, .ref 1, .int 0, .int 1]) (S := []) (c3_0201 hw _ _ p q r b0 b1 b2 _) rfl rfl rfl rfl rfl rfl (Nat.le_of_ble_eq_true rfl) (Nat.le_of_ble_eq_true rfl) ?_
  rintro _ _ _ ⟨⟨rfl, hE⟩ | ⟨rfl, hE⟩, rfl, rfl⟩
  · exfalso
    simp_all
  · skip
    show WGo _ (244, (LA p q r b0 b1 b2 ra rb mix [wI 0, wI 2, wI 0, wI 1, wI 2, wI 1, wI 0, wU, wU]), [.int 0], (HA p q r b0 b1 b2), 6) _
    refine WGo.s (WStep.istore (L' := (LA p q r b0 b1 b2 ra rb mix [wI 0, wI 2, wI 0, wI 1, wI 2, wI 1, wI 0, wI 0, wU])) a0_244 rfl) ?_
    exact segE0 Z a0 hw n0 p q r b0 b1 b2 ra rb mix _ _ _ _ _ _
theorem segD0202 (Z : State) (a0 : Array Value) (hw : ∀ d ∈ tables_1, d.before a0 Z = true) (n0 : Nat) (p q r b0 b1 b2 : Int64) (ra rb mix : Int32) : WGo (g0 Z (fun k => n0 + k) n0 0 0) (123, (LA p q r b0 b1 b2 ra rb mix [wI 0, wI 2, wI 0, wI 2, wU, wU, wU, wU, wU]), [], (HA p q r b0 b1 b2), 6) (fun v σ' u' => v = some (.int 1) ∧ σ'.length ≤ 16 ∧ u' ≤ 128) := by
  refine WGo.s (WStep.iload a0_123 rfl) ?_
  refine WGo.s (WStep.iload a0_125 rfl) ?_
  refine WGo.s (WStep.isub a0_127) ?_
  show WGo _ (128, (LA p q r b0 b1 b2 ra rb mix [wI 0, wI 2, wI 0, wI 2, wU, wU, wU, wU, wU]), [.int 2], (HA p q r b0 b1 b2), 6) _
  refine WGo.s (WStep.istore (L' := (LA p q r b0 b1 b2 ra rb mix [wI 0, wI 2, wI 0, wI 2, wI 2, wU, wU, wU, wU])) a0_128 rfl) ?_
  refine WGo.s (WStep.iload a0_130 rfl) ?_
  refine WGo.s (WStep.iload a0_132 rfl) ?_
  refine WGo.s (WStep.isub a0_134) ?_
  show WGo _ (135, (LA p q r b0 b1 b2 ra rb mix [wI 0, wI 2, wI 0, wI 2, wI 2, wU, wU, wU, wU]), [.int 2], (HA p q r b0 b1 b2), 6) _
  refine WGo.s (WStep.istore (L' := (LA p q r b0 b1 b2 ra rb mix [wI 0, wI 2, wI 0, wI 2, wI 2, wI 2, wU, wU, wU])) a0_135 rfl) ?_
  refine WGo.s (WStep.iload a0_137 rfl) ?_
  refine WGo.s (WStep.iload a0_139 rfl) ?_
  refine WGo.s (WStep.icmpT a0_141 (by decide)) ?_
  refine WGo.s (WStep.iconst (1 : Int32) a0_150 rfl) ?_
  refine WGo.s (WStep.istore (L' := (LA p q r b0 b1 b2 ra rb mix [wI 0, wI 2, wI 0, wI 2, wI 2, wI 2, wI 1, wU, wU])) a0_151 rfl) ?_
  refine WGo.s (WStep.iload a0_153 rfl) ?_
  refine WGo.s (WStep.ifF a0_155 (by decide)) ?_
  refine WGo.s (WStep.aload a0_158 rfl rfl) ?_
  refine WGo.s (WStep.iload a0_160 rfl) ?_
  refine WGo.s (WStep.laload 0 a0_162 rfl (by decide) rfl rfl) ?_
  refine WGo.s (WStep.aload a0_163 rfl rfl) ?_
  refine WGo.s (WStep.iload a0_165 rfl) ?_
  refine WGo.s (WStep.laload 0 a0_167 rfl (by decide) rfl rfl) ?_
  refine WGo.s (WStep.lcmp a0_168) ?_
  refine WGo.eqL a0_169 (fun h169 => ?_) (fun h169 => ?_)
  · refine WGo.s (WStep.iload a0_175 rfl) ?_
    refine WGo.s (WStep.iconst (1 : Int32) a0_177 rfl) ?_
    refine WGo.s (WStep.icmpF a0_178 (by decide)) ?_
    refine WGo.s (WStep.aload a0_181 rfl rfl) ?_
    refine WGo.s (WStep.iload a0_183 rfl) ?_
    refine WGo.s (WStep.iconst (1 : Int32) a0_185 rfl) ?_
    refine WGo.s (WStep.iadd a0_186) ?_
    show WGo _ (187, (LA p q r b0 b1 b2 ra rb mix [wI 0, wI 2, wI 0, wI 2, wI 2, wI 2, wI 1, wU, wU]), [.int 1, .ref 0], (HA p q r b0 b1 b2), 6) _
    refine WGo.s (WStep.laload 1 a0_187 rfl (by decide) rfl rfl) ?_
    refine WGo.s (WStep.aload a0_188 rfl rfl) ?_
    refine WGo.s (WStep.iload a0_190 rfl) ?_
    refine WGo.s (WStep.iconst (1 : Int32) a0_192 rfl) ?_
    refine WGo.s (WStep.iadd a0_193) ?_
    show WGo _ (194, (LA p q r b0 b1 b2 ra rb mix [wI 0, wI 2, wI 0, wI 2, wI 2, wI 2, wI 1, wU, wU]), [.int 1, .ref 1, (.long q)], (HA p q r b0 b1 b2), 6) _
    refine WGo.s (WStep.laload 1 a0_194 rfl (by decide) rfl rfl) ?_
    refine WGo.s (WStep.lcmp a0_195) ?_
    refine WGo.eqL a0_196 (fun h196 => ?_) (fun h196 => ?_)
    · refine WGo.s (WStep.iload a0_202 rfl) ?_
      refine WGo.s (WStep.iconst (2 : Int32) a0_204 rfl) ?_
      refine WGo.s (WStep.icmpT a0_205 (by decide)) ?_
      refine WGo.s (WStep.aload a0_229 rfl rfl) ?_
      refine WGo.s (WStep.iload a0_231 rfl) ?_
      refine WGo.s (WStep.iload a0_233 rfl) ?_
      refine WGo.s (WStep.aload a0_235 rfl rfl) ?_
      refine WGo.s (WStep.iload a0_237 rfl) ?_
      refine WGo.s (WStep.iload a0_239 rfl) ?_
      refine WGo.callS a0_241 (ok3 hw _ _ _ _) (wd hw 10 rfl) (wd hw 11 rfl) (argsL := [.ref 0, .int 0, .int 2, .ref 1, .int 0, .int 2]) (S := []) (c3_0202 hw _ _ p q r b0 b1 b2 _) rfl rfl rfl rfl rfl rfl (Nat.le_of_ble_eq_true rfl) (Nat.le_of_ble_eq_true rfl) ?_
      rintro _ _ _ ⟨⟨rfl, hE⟩ | ⟨rfl, hE⟩, rfl, rfl⟩
      · skip
        show WGo _ (244, (LA p q r b0 b1 b2 ra rb mix [wI 0, wI 2, wI 0, wI 2, wI 2, wI 2, wI 1, wU, wU]), [.int 1], (HA p q r b0 b1 b2), 6) _
        refine WGo.s (WStep.istore (L' := (LA p q r b0 b1 b2 ra rb mix [wI 0, wI 2, wI 0, wI 2, wI 2, wI 2, wI 1, wI 1, wU])) a0_244 rfl) ?_
        exact segE1 Z a0 hw n0 p q r b0 b1 b2 ra rb mix _ _ _ _ _ _
      · exfalso
        simp_all
    · refine WGo.s (WStep.iconst (0 : Int32) a0_199 rfl) ?_
      refine WGo.s (WStep.istore (L' := (LA p q r b0 b1 b2 ra rb mix [wI 0, wI 2, wI 0, wI 2, wI 2, wI 2, wI 0, wU, wU])) a0_200 rfl) ?_
      refine WGo.s (WStep.iload a0_202 rfl) ?_
      refine WGo.s (WStep.iconst (2 : Int32) a0_204 rfl) ?_
      refine WGo.s (WStep.icmpT a0_205 (by decide)) ?_
      refine WGo.s (WStep.aload a0_229 rfl rfl) ?_
      refine WGo.s (WStep.iload a0_231 rfl) ?_
      refine WGo.s (WStep.iload a0_233 rfl) ?_
      refine WGo.s (WStep.aload a0_235 rfl rfl) ?_
      refine WGo.s (WStep.iload a0_237 rfl) ?_
      refine WGo.s (WStep.iload a0_239 rfl) ?_
      refine WGo.callS a0_241 (ok3 hw _ _ _ _) (wd hw 10 rfl) (wd hw 11 rfl) (argsL := [.ref 0, .int 0, .int 2, .ref 1, .int 0, .int 2]) (S := []) (c3_0202 hw _ _ p q r b0 b1 b2 _) rfl rfl rfl rfl rfl rfl (Nat.le_of_ble_eq_true rfl) (Nat.le_of_ble_eq_true rfl) ?_
      rintro _ _ _ ⟨⟨rfl, hE⟩ | ⟨rfl, hE⟩, rfl, rfl⟩
      · exfalso
        simp_all
      · skip
        show WGo _ (244, (LA p q r b0 b1 b2 ra rb mix [wI 0, wI 2, wI 0, wI 2, wI 2, wI 2, wI 0, wU, wU]), [.int 0], (HA p q r b0 b1 b2), 6) _
        refine WGo.s (WStep.istore (L' := (LA p q r b0 b1 b2 ra rb mix [wI 0, wI 2, wI 0, wI 2, wI 2, wI 2, wI 0, wI 0, wU])) a0_244 rfl) ?_
        exact segE0 Z a0 hw n0 p q r b0 b1 b2 ra rb mix _ _ _ _ _ _
  · refine WGo.s (WStep.iconst (0 : Int32) a0_172 rfl) ?_
    refine WGo.s (WStep.istore (L' := (LA p q r b0 b1 b2 ra rb mix [wI 0, wI 2, wI 0, wI 2, wI 2, wI 2, wI 0, wU, wU])) a0_173 rfl) ?_
    refine WGo.s (WStep.iload a0_175 rfl) ?_
    refine WGo.s (WStep.iconst (1 : Int32) a0_177 rfl) ?_
    refine WGo.s (WStep.icmpF a0_178 (by decide)) ?_
    refine WGo.s (WStep.aload a0_181 rfl rfl) ?_
    refine WGo.s (WStep.iload a0_183 rfl) ?_
    refine WGo.s (WStep.iconst (1 : Int32) a0_185 rfl) ?_
    refine WGo.s (WStep.iadd a0_186) ?_
    show WGo _ (187, (LA p q r b0 b1 b2 ra rb mix [wI 0, wI 2, wI 0, wI 2, wI 2, wI 2, wI 0, wU, wU]), [.int 1, .ref 0], (HA p q r b0 b1 b2), 6) _
    refine WGo.s (WStep.laload 1 a0_187 rfl (by decide) rfl rfl) ?_
    refine WGo.s (WStep.aload a0_188 rfl rfl) ?_
    refine WGo.s (WStep.iload a0_190 rfl) ?_
    refine WGo.s (WStep.iconst (1 : Int32) a0_192 rfl) ?_
    refine WGo.s (WStep.iadd a0_193) ?_
    show WGo _ (194, (LA p q r b0 b1 b2 ra rb mix [wI 0, wI 2, wI 0, wI 2, wI 2, wI 2, wI 0, wU, wU]), [.int 1, .ref 1, (.long q)], (HA p q r b0 b1 b2), 6) _
    refine WGo.s (WStep.laload 1 a0_194 rfl (by decide) rfl rfl) ?_
    refine WGo.s (WStep.lcmp a0_195) ?_
    refine WGo.eqL a0_196 (fun h196 => ?_) (fun h196 => ?_)
    · refine WGo.s (WStep.iload a0_202 rfl) ?_
      refine WGo.s (WStep.iconst (2 : Int32) a0_204 rfl) ?_
      refine WGo.s (WStep.icmpT a0_205 (by decide)) ?_
      refine WGo.s (WStep.aload a0_229 rfl rfl) ?_
      refine WGo.s (WStep.iload a0_231 rfl) ?_
      refine WGo.s (WStep.iload a0_233 rfl) ?_
      refine WGo.s (WStep.aload a0_235 rfl rfl) ?_
      refine WGo.s (WStep.iload a0_237 rfl) ?_
      refine WGo.s (WStep.iload a0_239 rfl) ?_
      refine WGo.callS a0_241 (ok3 hw _ _ _ _) (wd hw 10 rfl) (wd hw 11 rfl) (argsL := [.ref 0, .int 0, .int 2, .ref 1, .int 0, .int 2]) (S := []) (c3_0202 hw _ _ p q r b0 b1 b2 _) rfl rfl rfl rfl rfl rfl (Nat.le_of_ble_eq_true rfl) (Nat.le_of_ble_eq_true rfl) ?_
      rintro _ _ _ ⟨⟨rfl, hE⟩ | ⟨rfl, hE⟩, rfl, rfl⟩
      · exfalso
        simp_all
      · skip
        show WGo _ (244, (LA p q r b0 b1 b2 ra rb mix [wI 0, wI 2, wI 0, wI 2, wI 2, wI 2, wI 0, wU, wU]), [.int 0], (HA p q r b0 b1 b2), 6) _
        refine WGo.s (WStep.istore (L' := (LA p q r b0 b1 b2 ra rb mix [wI 0, wI 2, wI 0, wI 2, wI 2, wI 2, wI 0, wI 0, wU])) a0_244 rfl) ?_
        exact segE0 Z a0 hw n0 p q r b0 b1 b2 ra rb mix _ _ _ _ _ _
    · refine WGo.s (WStep.iconst (0 : Int32) a0_199 rfl) ?_
      refine WGo.s (WStep.istore (L' := (LA p q r b0 b1 b2 ra rb mix [wI 0, wI 2, wI 0, wI 2, wI 2, wI 2, wI 0, wU, wU])) a0_200 rfl) ?_
      refine WGo.s (WStep.iload a0_202 rfl) ?_
      refine WGo.s (WStep.iconst (2 : Int32) a0_204 rfl) ?_
      refine WGo.s (WStep.icmpT a0_205 (by decide)) ?_
      refine WGo.s (WStep.aload a0_229 rfl rfl) ?_
      refine WGo.s (WStep.iload a0_231 rfl) ?_
      refine WGo.s (WStep.iload a0_233 rfl) ?_
      refine WGo.s (WStep.aload a0_235 rfl rfl) ?_
      refine WGo.s (WStep.iload a0_237 rfl) ?_
      refine WGo.s (WStep.iload a0_239 rfl) ?_
      refine WGo.callS a0_241 (ok3 hw _ _ _ _) (wd hw 10 rfl) (wd hw 11 rfl) (argsL := [.ref 0, .int 0, .int 2, .ref 1, .int 0, .int 2]) (S := []) (c3_0202 hw _ _ p q r b0 b1 b2 _) rfl rfl rfl rfl rfl rfl (Nat.le_of_ble_eq_true rfl) (Nat.le_of_ble_eq_true rfl) ?_
      rintro _ _ _ ⟨⟨rfl, hE⟩ | ⟨rfl, hE⟩, rfl, rfl⟩
      · exfalso
        simp_all
      · skip
        show WGo _ (244, (LA p q r b0 b1 b2 ra rb mix [wI 0, wI 2, wI 0, wI 2, wI 2, wI 2, wI 0, wU, wU]), [.int 0], (HA p q r b0 b1 b2), 6) _
        refine WGo.s (WStep.istore (L' := (LA p q r b0 b1 b2 ra rb mix [wI 0, wI 2, wI 0, wI 2, wI 2, wI 2, wI 0, wI 0, wU])) a0_244 rfl) ?_
        exact segE0 Z a0 hw n0 p q r b0 b1 b2 ra rb mix _ _ _ _ _ _
theorem segD0203 (Z : State) (a0 : Array Value) (hw : ∀ d ∈ tables_1, d.before a0 Z = true) (n0 : Nat) (p q r b0 b1 b2 : Int64) (ra rb mix : Int32) : WGo (g0 Z (fun k => n0 + k) n0 0 0) (123, (LA p q r b0 b1 b2 ra rb mix [wI 0, wI 2, wI 0, wI 3, wU, wU, wU, wU, wU]), [], (HA p q r b0 b1 b2), 6) (fun v σ' u' => v = some (.int 1) ∧ σ'.length ≤ 16 ∧ u' ≤ 128) := by
  refine WGo.s (WStep.iload a0_123 rfl) ?_
  refine WGo.s (WStep.iload a0_125 rfl) ?_
  refine WGo.s (WStep.isub a0_127) ?_
  show WGo _ (128, (LA p q r b0 b1 b2 ra rb mix [wI 0, wI 2, wI 0, wI 3, wU, wU, wU, wU, wU]), [.int 2], (HA p q r b0 b1 b2), 6) _
  refine WGo.s (WStep.istore (L' := (LA p q r b0 b1 b2 ra rb mix [wI 0, wI 2, wI 0, wI 3, wI 2, wU, wU, wU, wU])) a0_128 rfl) ?_
  refine WGo.s (WStep.iload a0_130 rfl) ?_
  refine WGo.s (WStep.iload a0_132 rfl) ?_
  refine WGo.s (WStep.isub a0_134) ?_
  show WGo _ (135, (LA p q r b0 b1 b2 ra rb mix [wI 0, wI 2, wI 0, wI 3, wI 2, wU, wU, wU, wU]), [.int 3], (HA p q r b0 b1 b2), 6) _
  refine WGo.s (WStep.istore (L' := (LA p q r b0 b1 b2 ra rb mix [wI 0, wI 2, wI 0, wI 3, wI 2, wI 3, wU, wU, wU])) a0_135 rfl) ?_
  refine WGo.s (WStep.iload a0_137 rfl) ?_
  refine WGo.s (WStep.iload a0_139 rfl) ?_
  refine WGo.s (WStep.icmpF a0_141 (by decide)) ?_
  refine WGo.s (WStep.iconst (0 : Int32) a0_144 rfl) ?_
  refine WGo.s (WStep.istore (L' := (LA p q r b0 b1 b2 ra rb mix [wI 0, wI 2, wI 0, wI 3, wI 2, wI 3, wI 0, wU, wU])) a0_145 rfl) ?_
  refine WGo.s (WStep.goto a0_147) ?_
  refine WGo.s (WStep.aload a0_229 rfl rfl) ?_
  refine WGo.s (WStep.iload a0_231 rfl) ?_
  refine WGo.s (WStep.iload a0_233 rfl) ?_
  refine WGo.s (WStep.aload a0_235 rfl rfl) ?_
  refine WGo.s (WStep.iload a0_237 rfl) ?_
  refine WGo.s (WStep.iload a0_239 rfl) ?_
  refine WGo.callS a0_241 (ok3 hw _ _ _ _) (wd hw 10 rfl) (wd hw 11 rfl) (argsL := [.ref 0, .int 0, .int 2, .ref 1, .int 0, .int 3]) (S := []) (c3_0203 hw _ _ p q r b0 b1 b2 _) rfl rfl rfl rfl rfl rfl (Nat.le_of_ble_eq_true rfl) (Nat.le_of_ble_eq_true rfl) ?_
  rintro _ _ _ ⟨⟨rfl, hE⟩ | ⟨rfl, hE⟩, rfl, rfl⟩
  · exfalso
    simp_all
  · skip
    show WGo _ (244, (LA p q r b0 b1 b2 ra rb mix [wI 0, wI 2, wI 0, wI 3, wI 2, wI 3, wI 0, wU, wU]), [.int 0], (HA p q r b0 b1 b2), 6) _
    refine WGo.s (WStep.istore (L' := (LA p q r b0 b1 b2 ra rb mix [wI 0, wI 2, wI 0, wI 3, wI 2, wI 3, wI 0, wI 0, wU])) a0_244 rfl) ?_
    exact segE0 Z a0 hw n0 p q r b0 b1 b2 ra rb mix _ _ _ _ _ _
theorem segD0211 (Z : State) (a0 : Array Value) (hw : ∀ d ∈ tables_1, d.before a0 Z = true) (n0 : Nat) (p q r b0 b1 b2 : Int64) (ra rb mix : Int32) : WGo (g0 Z (fun k => n0 + k) n0 0 0) (123, (LA p q r b0 b1 b2 ra rb mix [wI 0, wI 2, wI 1, wI 1, wU, wU, wU, wU, wU]), [], (HA p q r b0 b1 b2), 6) (fun v σ' u' => v = some (.int 1) ∧ σ'.length ≤ 16 ∧ u' ≤ 128) := by
  refine WGo.s (WStep.iload a0_123 rfl) ?_
  refine WGo.s (WStep.iload a0_125 rfl) ?_
  refine WGo.s (WStep.isub a0_127) ?_
  show WGo _ (128, (LA p q r b0 b1 b2 ra rb mix [wI 0, wI 2, wI 1, wI 1, wU, wU, wU, wU, wU]), [.int 2], (HA p q r b0 b1 b2), 6) _
  refine WGo.s (WStep.istore (L' := (LA p q r b0 b1 b2 ra rb mix [wI 0, wI 2, wI 1, wI 1, wI 2, wU, wU, wU, wU])) a0_128 rfl) ?_
  refine WGo.s (WStep.iload a0_130 rfl) ?_
  refine WGo.s (WStep.iload a0_132 rfl) ?_
  refine WGo.s (WStep.isub a0_134) ?_
  show WGo _ (135, (LA p q r b0 b1 b2 ra rb mix [wI 0, wI 2, wI 1, wI 1, wI 2, wU, wU, wU, wU]), [.int 0], (HA p q r b0 b1 b2), 6) _
  refine WGo.s (WStep.istore (L' := (LA p q r b0 b1 b2 ra rb mix [wI 0, wI 2, wI 1, wI 1, wI 2, wI 0, wU, wU, wU])) a0_135 rfl) ?_
  refine WGo.s (WStep.iload a0_137 rfl) ?_
  refine WGo.s (WStep.iload a0_139 rfl) ?_
  refine WGo.s (WStep.icmpF a0_141 (by decide)) ?_
  refine WGo.s (WStep.iconst (0 : Int32) a0_144 rfl) ?_
  refine WGo.s (WStep.istore (L' := (LA p q r b0 b1 b2 ra rb mix [wI 0, wI 2, wI 1, wI 1, wI 2, wI 0, wI 0, wU, wU])) a0_145 rfl) ?_
  refine WGo.s (WStep.goto a0_147) ?_
  refine WGo.s (WStep.aload a0_229 rfl rfl) ?_
  refine WGo.s (WStep.iload a0_231 rfl) ?_
  refine WGo.s (WStep.iload a0_233 rfl) ?_
  refine WGo.s (WStep.aload a0_235 rfl rfl) ?_
  refine WGo.s (WStep.iload a0_237 rfl) ?_
  refine WGo.s (WStep.iload a0_239 rfl) ?_
  refine WGo.callS a0_241 (ok3 hw _ _ _ _) (wd hw 10 rfl) (wd hw 11 rfl) (argsL := [.ref 0, .int 0, .int 2, .ref 1, .int 1, .int 1]) (S := []) (c3_0211 hw _ _ p q r b0 b1 b2 _) rfl rfl rfl rfl rfl rfl (Nat.le_of_ble_eq_true rfl) (Nat.le_of_ble_eq_true rfl) ?_
  rintro _ _ _ ⟨⟨rfl, hE⟩ | ⟨rfl, hE⟩, rfl, rfl⟩
  · exfalso
    simp_all
  · skip
    show WGo _ (244, (LA p q r b0 b1 b2 ra rb mix [wI 0, wI 2, wI 1, wI 1, wI 2, wI 0, wI 0, wU, wU]), [.int 0], (HA p q r b0 b1 b2), 6) _
    refine WGo.s (WStep.istore (L' := (LA p q r b0 b1 b2 ra rb mix [wI 0, wI 2, wI 1, wI 1, wI 2, wI 0, wI 0, wI 0, wU])) a0_244 rfl) ?_
    exact segE0 Z a0 hw n0 p q r b0 b1 b2 ra rb mix _ _ _ _ _ _
theorem segD0212 (Z : State) (a0 : Array Value) (hw : ∀ d ∈ tables_1, d.before a0 Z = true) (n0 : Nat) (p q r b0 b1 b2 : Int64) (ra rb mix : Int32) : WGo (g0 Z (fun k => n0 + k) n0 0 0) (123, (LA p q r b0 b1 b2 ra rb mix [wI 0, wI 2, wI 1, wI 2, wU, wU, wU, wU, wU]), [], (HA p q r b0 b1 b2), 6) (fun v σ' u' => v = some (.int 1) ∧ σ'.length ≤ 16 ∧ u' ≤ 128) := by
  refine WGo.s (WStep.iload a0_123 rfl) ?_
  refine WGo.s (WStep.iload a0_125 rfl) ?_
  refine WGo.s (WStep.isub a0_127) ?_
  show WGo _ (128, (LA p q r b0 b1 b2 ra rb mix [wI 0, wI 2, wI 1, wI 2, wU, wU, wU, wU, wU]), [.int 2], (HA p q r b0 b1 b2), 6) _
  refine WGo.s (WStep.istore (L' := (LA p q r b0 b1 b2 ra rb mix [wI 0, wI 2, wI 1, wI 2, wI 2, wU, wU, wU, wU])) a0_128 rfl) ?_
  refine WGo.s (WStep.iload a0_130 rfl) ?_
  refine WGo.s (WStep.iload a0_132 rfl) ?_
  refine WGo.s (WStep.isub a0_134) ?_
  show WGo _ (135, (LA p q r b0 b1 b2 ra rb mix [wI 0, wI 2, wI 1, wI 2, wI 2, wU, wU, wU, wU]), [.int 1], (HA p q r b0 b1 b2), 6) _
  refine WGo.s (WStep.istore (L' := (LA p q r b0 b1 b2 ra rb mix [wI 0, wI 2, wI 1, wI 2, wI 2, wI 1, wU, wU, wU])) a0_135 rfl) ?_
  refine WGo.s (WStep.iload a0_137 rfl) ?_
  refine WGo.s (WStep.iload a0_139 rfl) ?_
  refine WGo.s (WStep.icmpF a0_141 (by decide)) ?_
  refine WGo.s (WStep.iconst (0 : Int32) a0_144 rfl) ?_
  refine WGo.s (WStep.istore (L' := (LA p q r b0 b1 b2 ra rb mix [wI 0, wI 2, wI 1, wI 2, wI 2, wI 1, wI 0, wU, wU])) a0_145 rfl) ?_
  refine WGo.s (WStep.goto a0_147) ?_
  refine WGo.s (WStep.aload a0_229 rfl rfl) ?_
  refine WGo.s (WStep.iload a0_231 rfl) ?_
  refine WGo.s (WStep.iload a0_233 rfl) ?_
  refine WGo.s (WStep.aload a0_235 rfl rfl) ?_
  refine WGo.s (WStep.iload a0_237 rfl) ?_
  refine WGo.s (WStep.iload a0_239 rfl) ?_
  refine WGo.callS a0_241 (ok3 hw _ _ _ _) (wd hw 10 rfl) (wd hw 11 rfl) (argsL := [.ref 0, .int 0, .int 2, .ref 1, .int 1, .int 2]) (S := []) (c3_0212 hw _ _ p q r b0 b1 b2 _) rfl rfl rfl rfl rfl rfl (Nat.le_of_ble_eq_true rfl) (Nat.le_of_ble_eq_true rfl) ?_
  rintro _ _ _ ⟨⟨rfl, hE⟩ | ⟨rfl, hE⟩, rfl, rfl⟩
  · exfalso
    simp_all
  · skip
    show WGo _ (244, (LA p q r b0 b1 b2 ra rb mix [wI 0, wI 2, wI 1, wI 2, wI 2, wI 1, wI 0, wU, wU]), [.int 0], (HA p q r b0 b1 b2), 6) _
    refine WGo.s (WStep.istore (L' := (LA p q r b0 b1 b2 ra rb mix [wI 0, wI 2, wI 1, wI 2, wI 2, wI 1, wI 0, wI 0, wU])) a0_244 rfl) ?_
    exact segE0 Z a0 hw n0 p q r b0 b1 b2 ra rb mix _ _ _ _ _ _
theorem segD0213 (Z : State) (a0 : Array Value) (hw : ∀ d ∈ tables_1, d.before a0 Z = true) (n0 : Nat) (p q r b0 b1 b2 : Int64) (ra rb mix : Int32) : WGo (g0 Z (fun k => n0 + k) n0 0 0) (123, (LA p q r b0 b1 b2 ra rb mix [wI 0, wI 2, wI 1, wI 3, wU, wU, wU, wU, wU]), [], (HA p q r b0 b1 b2), 6) (fun v σ' u' => v = some (.int 1) ∧ σ'.length ≤ 16 ∧ u' ≤ 128) := by
  refine WGo.s (WStep.iload a0_123 rfl) ?_
  refine WGo.s (WStep.iload a0_125 rfl) ?_
  refine WGo.s (WStep.isub a0_127) ?_
  show WGo _ (128, (LA p q r b0 b1 b2 ra rb mix [wI 0, wI 2, wI 1, wI 3, wU, wU, wU, wU, wU]), [.int 2], (HA p q r b0 b1 b2), 6) _
  refine WGo.s (WStep.istore (L' := (LA p q r b0 b1 b2 ra rb mix [wI 0, wI 2, wI 1, wI 3, wI 2, wU, wU, wU, wU])) a0_128 rfl) ?_
  refine WGo.s (WStep.iload a0_130 rfl) ?_
  refine WGo.s (WStep.iload a0_132 rfl) ?_
  refine WGo.s (WStep.isub a0_134) ?_
  show WGo _ (135, (LA p q r b0 b1 b2 ra rb mix [wI 0, wI 2, wI 1, wI 3, wI 2, wU, wU, wU, wU]), [.int 2], (HA p q r b0 b1 b2), 6) _
  refine WGo.s (WStep.istore (L' := (LA p q r b0 b1 b2 ra rb mix [wI 0, wI 2, wI 1, wI 3, wI 2, wI 2, wU, wU, wU])) a0_135 rfl) ?_
  refine WGo.s (WStep.iload a0_137 rfl) ?_
  refine WGo.s (WStep.iload a0_139 rfl) ?_
  refine WGo.s (WStep.icmpT a0_141 (by decide)) ?_
  refine WGo.s (WStep.iconst (1 : Int32) a0_150 rfl) ?_
  refine WGo.s (WStep.istore (L' := (LA p q r b0 b1 b2 ra rb mix [wI 0, wI 2, wI 1, wI 3, wI 2, wI 2, wI 1, wU, wU])) a0_151 rfl) ?_
  refine WGo.s (WStep.iload a0_153 rfl) ?_
  refine WGo.s (WStep.ifF a0_155 (by decide)) ?_
  refine WGo.s (WStep.aload a0_158 rfl rfl) ?_
  refine WGo.s (WStep.iload a0_160 rfl) ?_
  refine WGo.s (WStep.laload 0 a0_162 rfl (by decide) rfl rfl) ?_
  refine WGo.s (WStep.aload a0_163 rfl rfl) ?_
  refine WGo.s (WStep.iload a0_165 rfl) ?_
  refine WGo.s (WStep.laload 1 a0_167 rfl (by decide) rfl rfl) ?_
  refine WGo.s (WStep.lcmp a0_168) ?_
  refine WGo.eqL a0_169 (fun h169 => ?_) (fun h169 => ?_)
  · refine WGo.s (WStep.iload a0_175 rfl) ?_
    refine WGo.s (WStep.iconst (1 : Int32) a0_177 rfl) ?_
    refine WGo.s (WStep.icmpF a0_178 (by decide)) ?_
    refine WGo.s (WStep.aload a0_181 rfl rfl) ?_
    refine WGo.s (WStep.iload a0_183 rfl) ?_
    refine WGo.s (WStep.iconst (1 : Int32) a0_185 rfl) ?_
    refine WGo.s (WStep.iadd a0_186) ?_
    show WGo _ (187, (LA p q r b0 b1 b2 ra rb mix [wI 0, wI 2, wI 1, wI 3, wI 2, wI 2, wI 1, wU, wU]), [.int 1, .ref 0], (HA p q r b0 b1 b2), 6) _
    refine WGo.s (WStep.laload 1 a0_187 rfl (by decide) rfl rfl) ?_
    refine WGo.s (WStep.aload a0_188 rfl rfl) ?_
    refine WGo.s (WStep.iload a0_190 rfl) ?_
    refine WGo.s (WStep.iconst (1 : Int32) a0_192 rfl) ?_
    refine WGo.s (WStep.iadd a0_193) ?_
    show WGo _ (194, (LA p q r b0 b1 b2 ra rb mix [wI 0, wI 2, wI 1, wI 3, wI 2, wI 2, wI 1, wU, wU]), [.int 2, .ref 1, (.long q)], (HA p q r b0 b1 b2), 6) _
    refine WGo.s (WStep.laload 2 a0_194 rfl (by decide) rfl rfl) ?_
    refine WGo.s (WStep.lcmp a0_195) ?_
    refine WGo.eqL a0_196 (fun h196 => ?_) (fun h196 => ?_)
    · refine WGo.s (WStep.iload a0_202 rfl) ?_
      refine WGo.s (WStep.iconst (2 : Int32) a0_204 rfl) ?_
      refine WGo.s (WStep.icmpT a0_205 (by decide)) ?_
      refine WGo.s (WStep.aload a0_229 rfl rfl) ?_
      refine WGo.s (WStep.iload a0_231 rfl) ?_
      refine WGo.s (WStep.iload a0_233 rfl) ?_
      refine WGo.s (WStep.aload a0_235 rfl rfl) ?_
      refine WGo.s (WStep.iload a0_237 rfl) ?_
      refine WGo.s (WStep.iload a0_239 rfl) ?_
      refine WGo.callS a0_241 (ok3 hw _ _ _ _) (wd hw 10 rfl) (wd hw 11 rfl) (argsL := [.ref 0, .int 0, .int 2, .ref 1, .int 1, .int 3]) (S := []) (c3_0213 hw _ _ p q r b0 b1 b2 _) rfl rfl rfl rfl rfl rfl (Nat.le_of_ble_eq_true rfl) (Nat.le_of_ble_eq_true rfl) ?_
      rintro _ _ _ ⟨⟨rfl, hE⟩ | ⟨rfl, hE⟩, rfl, rfl⟩
      · skip
        show WGo _ (244, (LA p q r b0 b1 b2 ra rb mix [wI 0, wI 2, wI 1, wI 3, wI 2, wI 2, wI 1, wU, wU]), [.int 1], (HA p q r b0 b1 b2), 6) _
        refine WGo.s (WStep.istore (L' := (LA p q r b0 b1 b2 ra rb mix [wI 0, wI 2, wI 1, wI 3, wI 2, wI 2, wI 1, wI 1, wU])) a0_244 rfl) ?_
        exact segE1 Z a0 hw n0 p q r b0 b1 b2 ra rb mix _ _ _ _ _ _
      · exfalso
        simp_all
    · refine WGo.s (WStep.iconst (0 : Int32) a0_199 rfl) ?_
      refine WGo.s (WStep.istore (L' := (LA p q r b0 b1 b2 ra rb mix [wI 0, wI 2, wI 1, wI 3, wI 2, wI 2, wI 0, wU, wU])) a0_200 rfl) ?_
      refine WGo.s (WStep.iload a0_202 rfl) ?_
      refine WGo.s (WStep.iconst (2 : Int32) a0_204 rfl) ?_
      refine WGo.s (WStep.icmpT a0_205 (by decide)) ?_
      refine WGo.s (WStep.aload a0_229 rfl rfl) ?_
      refine WGo.s (WStep.iload a0_231 rfl) ?_
      refine WGo.s (WStep.iload a0_233 rfl) ?_
      refine WGo.s (WStep.aload a0_235 rfl rfl) ?_
      refine WGo.s (WStep.iload a0_237 rfl) ?_
      refine WGo.s (WStep.iload a0_239 rfl) ?_
      refine WGo.callS a0_241 (ok3 hw _ _ _ _) (wd hw 10 rfl) (wd hw 11 rfl) (argsL := [.ref 0, .int 0, .int 2, .ref 1, .int 1, .int 3]) (S := []) (c3_0213 hw _ _ p q r b0 b1 b2 _) rfl rfl rfl rfl rfl rfl (Nat.le_of_ble_eq_true rfl) (Nat.le_of_ble_eq_true rfl) ?_
      rintro _ _ _ ⟨⟨rfl, hE⟩ | ⟨rfl, hE⟩, rfl, rfl⟩
      · exfalso
        simp_all
      · skip
        show WGo _ (244, (LA p q r b0 b1 b2 ra rb mix [wI 0, wI 2, wI 1, wI 3, wI 2, wI 2, wI 0, wU, wU]), [.int 0], (HA p q r b0 b1 b2), 6) _
        refine WGo.s (WStep.istore (L' := (LA p q r b0 b1 b2 ra rb mix [wI 0, wI 2, wI 1, wI 3, wI 2, wI 2, wI 0, wI 0, wU])) a0_244 rfl) ?_
        exact segE0 Z a0 hw n0 p q r b0 b1 b2 ra rb mix _ _ _ _ _ _
  · refine WGo.s (WStep.iconst (0 : Int32) a0_172 rfl) ?_
    refine WGo.s (WStep.istore (L' := (LA p q r b0 b1 b2 ra rb mix [wI 0, wI 2, wI 1, wI 3, wI 2, wI 2, wI 0, wU, wU])) a0_173 rfl) ?_
    refine WGo.s (WStep.iload a0_175 rfl) ?_
    refine WGo.s (WStep.iconst (1 : Int32) a0_177 rfl) ?_
    refine WGo.s (WStep.icmpF a0_178 (by decide)) ?_
    refine WGo.s (WStep.aload a0_181 rfl rfl) ?_
    refine WGo.s (WStep.iload a0_183 rfl) ?_
    refine WGo.s (WStep.iconst (1 : Int32) a0_185 rfl) ?_
    refine WGo.s (WStep.iadd a0_186) ?_
    show WGo _ (187, (LA p q r b0 b1 b2 ra rb mix [wI 0, wI 2, wI 1, wI 3, wI 2, wI 2, wI 0, wU, wU]), [.int 1, .ref 0], (HA p q r b0 b1 b2), 6) _
    refine WGo.s (WStep.laload 1 a0_187 rfl (by decide) rfl rfl) ?_
    refine WGo.s (WStep.aload a0_188 rfl rfl) ?_
    refine WGo.s (WStep.iload a0_190 rfl) ?_
    refine WGo.s (WStep.iconst (1 : Int32) a0_192 rfl) ?_
    refine WGo.s (WStep.iadd a0_193) ?_
    show WGo _ (194, (LA p q r b0 b1 b2 ra rb mix [wI 0, wI 2, wI 1, wI 3, wI 2, wI 2, wI 0, wU, wU]), [.int 2, .ref 1, (.long q)], (HA p q r b0 b1 b2), 6) _
    refine WGo.s (WStep.laload 2 a0_194 rfl (by decide) rfl rfl) ?_
    refine WGo.s (WStep.lcmp a0_195) ?_
    refine WGo.eqL a0_196 (fun h196 => ?_) (fun h196 => ?_)
    · refine WGo.s (WStep.iload a0_202 rfl) ?_
      refine WGo.s (WStep.iconst (2 : Int32) a0_204 rfl) ?_
      refine WGo.s (WStep.icmpT a0_205 (by decide)) ?_
      refine WGo.s (WStep.aload a0_229 rfl rfl) ?_
      refine WGo.s (WStep.iload a0_231 rfl) ?_
      refine WGo.s (WStep.iload a0_233 rfl) ?_
      refine WGo.s (WStep.aload a0_235 rfl rfl) ?_
      refine WGo.s (WStep.iload a0_237 rfl) ?_
      refine WGo.s (WStep.iload a0_239 rfl) ?_
      refine WGo.callS a0_241 (ok3 hw _ _ _ _) (wd hw 10 rfl) (wd hw 11 rfl) (argsL := [.ref 0, .int 0, .int 2, .ref 1, .int 1, .int 3]) (S := []) (c3_0213 hw _ _ p q r b0 b1 b2 _) rfl rfl rfl rfl rfl rfl (Nat.le_of_ble_eq_true rfl) (Nat.le_of_ble_eq_true rfl) ?_
      rintro _ _ _ ⟨⟨rfl, hE⟩ | ⟨rfl, hE⟩, rfl, rfl⟩
      · exfalso
        simp_all
      · skip
        show WGo _ (244, (LA p q r b0 b1 b2 ra rb mix [wI 0, wI 2, wI 1, wI 3, wI 2, wI 2, wI 0, wU, wU]), [.int 0], (HA p q r b0 b1 b2), 6) _
        refine WGo.s (WStep.istore (L' := (LA p q r b0 b1 b2 ra rb mix [wI 0, wI 2, wI 1, wI 3, wI 2, wI 2, wI 0, wI 0, wU])) a0_244 rfl) ?_
        exact segE0 Z a0 hw n0 p q r b0 b1 b2 ra rb mix _ _ _ _ _ _
    · refine WGo.s (WStep.iconst (0 : Int32) a0_199 rfl) ?_
      refine WGo.s (WStep.istore (L' := (LA p q r b0 b1 b2 ra rb mix [wI 0, wI 2, wI 1, wI 3, wI 2, wI 2, wI 0, wU, wU])) a0_200 rfl) ?_
      refine WGo.s (WStep.iload a0_202 rfl) ?_
      refine WGo.s (WStep.iconst (2 : Int32) a0_204 rfl) ?_
      refine WGo.s (WStep.icmpT a0_205 (by decide)) ?_
      refine WGo.s (WStep.aload a0_229 rfl rfl) ?_
      refine WGo.s (WStep.iload a0_231 rfl) ?_
      refine WGo.s (WStep.iload a0_233 rfl) ?_
      refine WGo.s (WStep.aload a0_235 rfl rfl) ?_
      refine WGo.s (WStep.iload a0_237 rfl) ?_
      refine WGo.s (WStep.iload a0_239 rfl) ?_
      refine WGo.callS a0_241 (ok3 hw _ _ _ _) (wd hw 10 rfl) (wd hw 11 rfl) (argsL := [.ref 0, .int 0, .int 2, .ref 1, .int 1, .int 3]) (S := []) (c3_0213 hw _ _ p q r b0 b1 b2 _) rfl rfl rfl rfl rfl rfl (Nat.le_of_ble_eq_true rfl) (Nat.le_of_ble_eq_true rfl) ?_
      rintro _ _ _ ⟨⟨rfl, hE⟩ | ⟨rfl, hE⟩, rfl, rfl⟩
      · exfalso
        simp_all
      · skip
        show WGo _ (244, (LA p q r b0 b1 b2 ra rb mix [wI 0, wI 2, wI 1, wI 3, wI 2, wI 2, wI 0, wU, wU]), [.int 0], (HA p q r b0 b1 b2), 6) _
        refine WGo.s (WStep.istore (L' := (LA p q r b0 b1 b2 ra rb mix [wI 0, wI 2, wI 1, wI 3, wI 2, wI 2, wI 0, wI 0, wU])) a0_244 rfl) ?_
        exact segE0 Z a0 hw n0 p q r b0 b1 b2 ra rb mix _ _ _ _ _ _
theorem segD0222 (Z : State) (a0 : Array Value) (hw : ∀ d ∈ tables_1, d.before a0 Z = true) (n0 : Nat) (p q r b0 b1 b2 : Int64) (ra rb mix : Int32) : WGo (g0 Z (fun k => n0 + k) n0 0 0) (123, (LA p q r b0 b1 b2 ra rb mix [wI 0, wI 2, wI 2, wI 2, wU, wU, wU, wU, wU]), [], (HA p q r b0 b1 b2), 6) (fun v σ' u' => v = some (.int 1) ∧ σ'.length ≤ 16 ∧ u' ≤ 128) := by
  refine WGo.s (WStep.iload a0_123 rfl) ?_
  refine WGo.s (WStep.iload a0_125 rfl) ?_
  refine WGo.s (WStep.isub a0_127) ?_
  show WGo _ (128, (LA p q r b0 b1 b2 ra rb mix [wI 0, wI 2, wI 2, wI 2, wU, wU, wU, wU, wU]), [.int 2], (HA p q r b0 b1 b2), 6) _
  refine WGo.s (WStep.istore (L' := (LA p q r b0 b1 b2 ra rb mix [wI 0, wI 2, wI 2, wI 2, wI 2, wU, wU, wU, wU])) a0_128 rfl) ?_
  refine WGo.s (WStep.iload a0_130 rfl) ?_
  refine WGo.s (WStep.iload a0_132 rfl) ?_
  refine WGo.s (WStep.isub a0_134) ?_
  show WGo _ (135, (LA p q r b0 b1 b2 ra rb mix [wI 0, wI 2, wI 2, wI 2, wI 2, wU, wU, wU, wU]), [.int 0], (HA p q r b0 b1 b2), 6) _
  refine WGo.s (WStep.istore (L' := (LA p q r b0 b1 b2 ra rb mix [wI 0, wI 2, wI 2, wI 2, wI 2, wI 0, wU, wU, wU])) a0_135 rfl) ?_
  refine WGo.s (WStep.iload a0_137 rfl) ?_
  refine WGo.s (WStep.iload a0_139 rfl) ?_
  refine WGo.s (WStep.icmpF a0_141 (by decide)) ?_
  refine WGo.s (WStep.iconst (0 : Int32) a0_144 rfl) ?_
  refine WGo.s (WStep.istore (L' := (LA p q r b0 b1 b2 ra rb mix [wI 0, wI 2, wI 2, wI 2, wI 2, wI 0, wI 0, wU, wU])) a0_145 rfl) ?_
  refine WGo.s (WStep.goto a0_147) ?_
  refine WGo.s (WStep.aload a0_229 rfl rfl) ?_
  refine WGo.s (WStep.iload a0_231 rfl) ?_
  refine WGo.s (WStep.iload a0_233 rfl) ?_
  refine WGo.s (WStep.aload a0_235 rfl rfl) ?_
  refine WGo.s (WStep.iload a0_237 rfl) ?_
  refine WGo.s (WStep.iload a0_239 rfl) ?_
  refine WGo.callS a0_241 (ok3 hw _ _ _ _) (wd hw 10 rfl) (wd hw 11 rfl) (argsL := [.ref 0, .int 0, .int 2, .ref 1, .int 2, .int 2]) (S := []) (c3_0222 hw _ _ p q r b0 b1 b2 _) rfl rfl rfl rfl rfl rfl (Nat.le_of_ble_eq_true rfl) (Nat.le_of_ble_eq_true rfl) ?_
  rintro _ _ _ ⟨⟨rfl, hE⟩ | ⟨rfl, hE⟩, rfl, rfl⟩
  · exfalso
    simp_all
  · skip
    show WGo _ (244, (LA p q r b0 b1 b2 ra rb mix [wI 0, wI 2, wI 2, wI 2, wI 2, wI 0, wI 0, wU, wU]), [.int 0], (HA p q r b0 b1 b2), 6) _
    refine WGo.s (WStep.istore (L' := (LA p q r b0 b1 b2 ra rb mix [wI 0, wI 2, wI 2, wI 2, wI 2, wI 0, wI 0, wI 0, wU])) a0_244 rfl) ?_
    exact segE0 Z a0 hw n0 p q r b0 b1 b2 ra rb mix _ _ _ _ _ _
theorem segD0223 (Z : State) (a0 : Array Value) (hw : ∀ d ∈ tables_1, d.before a0 Z = true) (n0 : Nat) (p q r b0 b1 b2 : Int64) (ra rb mix : Int32) : WGo (g0 Z (fun k => n0 + k) n0 0 0) (123, (LA p q r b0 b1 b2 ra rb mix [wI 0, wI 2, wI 2, wI 3, wU, wU, wU, wU, wU]), [], (HA p q r b0 b1 b2), 6) (fun v σ' u' => v = some (.int 1) ∧ σ'.length ≤ 16 ∧ u' ≤ 128) := by
  refine WGo.s (WStep.iload a0_123 rfl) ?_
  refine WGo.s (WStep.iload a0_125 rfl) ?_
  refine WGo.s (WStep.isub a0_127) ?_
  show WGo _ (128, (LA p q r b0 b1 b2 ra rb mix [wI 0, wI 2, wI 2, wI 3, wU, wU, wU, wU, wU]), [.int 2], (HA p q r b0 b1 b2), 6) _
  refine WGo.s (WStep.istore (L' := (LA p q r b0 b1 b2 ra rb mix [wI 0, wI 2, wI 2, wI 3, wI 2, wU, wU, wU, wU])) a0_128 rfl) ?_
  refine WGo.s (WStep.iload a0_130 rfl) ?_
  refine WGo.s (WStep.iload a0_132 rfl) ?_
  refine WGo.s (WStep.isub a0_134) ?_
  show WGo _ (135, (LA p q r b0 b1 b2 ra rb mix [wI 0, wI 2, wI 2, wI 3, wI 2, wU, wU, wU, wU]), [.int 1], (HA p q r b0 b1 b2), 6) _
  refine WGo.s (WStep.istore (L' := (LA p q r b0 b1 b2 ra rb mix [wI 0, wI 2, wI 2, wI 3, wI 2, wI 1, wU, wU, wU])) a0_135 rfl) ?_
  refine WGo.s (WStep.iload a0_137 rfl) ?_
  refine WGo.s (WStep.iload a0_139 rfl) ?_
  refine WGo.s (WStep.icmpF a0_141 (by decide)) ?_
  refine WGo.s (WStep.iconst (0 : Int32) a0_144 rfl) ?_
  refine WGo.s (WStep.istore (L' := (LA p q r b0 b1 b2 ra rb mix [wI 0, wI 2, wI 2, wI 3, wI 2, wI 1, wI 0, wU, wU])) a0_145 rfl) ?_
  refine WGo.s (WStep.goto a0_147) ?_
  refine WGo.s (WStep.aload a0_229 rfl rfl) ?_
  refine WGo.s (WStep.iload a0_231 rfl) ?_
  refine WGo.s (WStep.iload a0_233 rfl) ?_
  refine WGo.s (WStep.aload a0_235 rfl rfl) ?_
  refine WGo.s (WStep.iload a0_237 rfl) ?_
  refine WGo.s (WStep.iload a0_239 rfl) ?_
  refine WGo.callS a0_241 (ok3 hw _ _ _ _) (wd hw 10 rfl) (wd hw 11 rfl) (argsL := [.ref 0, .int 0, .int 2, .ref 1, .int 2, .int 3]) (S := []) (c3_0223 hw _ _ p q r b0 b1 b2 _) rfl rfl rfl rfl rfl rfl (Nat.le_of_ble_eq_true rfl) (Nat.le_of_ble_eq_true rfl) ?_
  rintro _ _ _ ⟨⟨rfl, hE⟩ | ⟨rfl, hE⟩, rfl, rfl⟩
  · exfalso
    simp_all
  · skip
    show WGo _ (244, (LA p q r b0 b1 b2 ra rb mix [wI 0, wI 2, wI 2, wI 3, wI 2, wI 1, wI 0, wU, wU]), [.int 0], (HA p q r b0 b1 b2), 6) _
    refine WGo.s (WStep.istore (L' := (LA p q r b0 b1 b2 ra rb mix [wI 0, wI 2, wI 2, wI 3, wI 2, wI 1, wI 0, wI 0, wU])) a0_244 rfl) ?_
    exact segE0 Z a0 hw n0 p q r b0 b1 b2 ra rb mix _ _ _ _ _ _
theorem segD0233 (Z : State) (a0 : Array Value) (hw : ∀ d ∈ tables_1, d.before a0 Z = true) (n0 : Nat) (p q r b0 b1 b2 : Int64) (ra rb mix : Int32) : WGo (g0 Z (fun k => n0 + k) n0 0 0) (123, (LA p q r b0 b1 b2 ra rb mix [wI 0, wI 2, wI 3, wI 3, wU, wU, wU, wU, wU]), [], (HA p q r b0 b1 b2), 6) (fun v σ' u' => v = some (.int 1) ∧ σ'.length ≤ 16 ∧ u' ≤ 128) := by
  refine WGo.s (WStep.iload a0_123 rfl) ?_
  refine WGo.s (WStep.iload a0_125 rfl) ?_
  refine WGo.s (WStep.isub a0_127) ?_
  show WGo _ (128, (LA p q r b0 b1 b2 ra rb mix [wI 0, wI 2, wI 3, wI 3, wU, wU, wU, wU, wU]), [.int 2], (HA p q r b0 b1 b2), 6) _
  refine WGo.s (WStep.istore (L' := (LA p q r b0 b1 b2 ra rb mix [wI 0, wI 2, wI 3, wI 3, wI 2, wU, wU, wU, wU])) a0_128 rfl) ?_
  refine WGo.s (WStep.iload a0_130 rfl) ?_
  refine WGo.s (WStep.iload a0_132 rfl) ?_
  refine WGo.s (WStep.isub a0_134) ?_
  show WGo _ (135, (LA p q r b0 b1 b2 ra rb mix [wI 0, wI 2, wI 3, wI 3, wI 2, wU, wU, wU, wU]), [.int 0], (HA p q r b0 b1 b2), 6) _
  refine WGo.s (WStep.istore (L' := (LA p q r b0 b1 b2 ra rb mix [wI 0, wI 2, wI 3, wI 3, wI 2, wI 0, wU, wU, wU])) a0_135 rfl) ?_
  refine WGo.s (WStep.iload a0_137 rfl) ?_
  refine WGo.s (WStep.iload a0_139 rfl) ?_
  refine WGo.s (WStep.icmpF a0_141 (by decide)) ?_
  refine WGo.s (WStep.iconst (0 : Int32) a0_144 rfl) ?_
  refine WGo.s (WStep.istore (L' := (LA p q r b0 b1 b2 ra rb mix [wI 0, wI 2, wI 3, wI 3, wI 2, wI 0, wI 0, wU, wU])) a0_145 rfl) ?_
  refine WGo.s (WStep.goto a0_147) ?_
  refine WGo.s (WStep.aload a0_229 rfl rfl) ?_
  refine WGo.s (WStep.iload a0_231 rfl) ?_
  refine WGo.s (WStep.iload a0_233 rfl) ?_
  refine WGo.s (WStep.aload a0_235 rfl rfl) ?_
  refine WGo.s (WStep.iload a0_237 rfl) ?_
  refine WGo.s (WStep.iload a0_239 rfl) ?_
  refine WGo.callS a0_241 (ok3 hw _ _ _ _) (wd hw 10 rfl) (wd hw 11 rfl) (argsL := [.ref 0, .int 0, .int 2, .ref 1, .int 3, .int 3]) (S := []) (c3_0233 hw _ _ p q r b0 b1 b2 _) rfl rfl rfl rfl rfl rfl (Nat.le_of_ble_eq_true rfl) (Nat.le_of_ble_eq_true rfl) ?_
  rintro _ _ _ ⟨⟨rfl, hE⟩ | ⟨rfl, hE⟩, rfl, rfl⟩
  · exfalso
    simp_all
  · skip
    show WGo _ (244, (LA p q r b0 b1 b2 ra rb mix [wI 0, wI 2, wI 3, wI 3, wI 2, wI 0, wI 0, wU, wU]), [.int 0], (HA p q r b0 b1 b2), 6) _
    refine WGo.s (WStep.istore (L' := (LA p q r b0 b1 b2 ra rb mix [wI 0, wI 2, wI 3, wI 3, wI 2, wI 0, wI 0, wI 0, wU])) a0_244 rfl) ?_
    exact segE0 Z a0 hw n0 p q r b0 b1 b2 ra rb mix _ _ _ _ _ _
theorem segD0300 (Z : State) (a0 : Array Value) (hw : ∀ d ∈ tables_1, d.before a0 Z = true) (n0 : Nat) (p q r b0 b1 b2 : Int64) (ra rb mix : Int32) : WGo (g0 Z (fun k => n0 + k) n0 0 0) (123, (LA p q r b0 b1 b2 ra rb mix [wI 0, wI 3, wI 0, wI 0, wU, wU, wU, wU, wU]), [], (HA p q r b0 b1 b2), 6) (fun v σ' u' => v = some (.int 1) ∧ σ'.length ≤ 16 ∧ u' ≤ 128) := by
  refine WGo.s (WStep.iload a0_123 rfl) ?_
  refine WGo.s (WStep.iload a0_125 rfl) ?_
  refine WGo.s (WStep.isub a0_127) ?_
  show WGo _ (128, (LA p q r b0 b1 b2 ra rb mix [wI 0, wI 3, wI 0, wI 0, wU, wU, wU, wU, wU]), [.int 3], (HA p q r b0 b1 b2), 6) _
  refine WGo.s (WStep.istore (L' := (LA p q r b0 b1 b2 ra rb mix [wI 0, wI 3, wI 0, wI 0, wI 3, wU, wU, wU, wU])) a0_128 rfl) ?_
  refine WGo.s (WStep.iload a0_130 rfl) ?_
  refine WGo.s (WStep.iload a0_132 rfl) ?_
  refine WGo.s (WStep.isub a0_134) ?_
  show WGo _ (135, (LA p q r b0 b1 b2 ra rb mix [wI 0, wI 3, wI 0, wI 0, wI 3, wU, wU, wU, wU]), [.int 0], (HA p q r b0 b1 b2), 6) _
  refine WGo.s (WStep.istore (L' := (LA p q r b0 b1 b2 ra rb mix [wI 0, wI 3, wI 0, wI 0, wI 3, wI 0, wU, wU, wU])) a0_135 rfl) ?_
  refine WGo.s (WStep.iload a0_137 rfl) ?_
  refine WGo.s (WStep.iload a0_139 rfl) ?_
  refine WGo.s (WStep.icmpF a0_141 (by decide)) ?_
  refine WGo.s (WStep.iconst (0 : Int32) a0_144 rfl) ?_
  refine WGo.s (WStep.istore (L' := (LA p q r b0 b1 b2 ra rb mix [wI 0, wI 3, wI 0, wI 0, wI 3, wI 0, wI 0, wU, wU])) a0_145 rfl) ?_
  refine WGo.s (WStep.goto a0_147) ?_
  refine WGo.s (WStep.aload a0_229 rfl rfl) ?_
  refine WGo.s (WStep.iload a0_231 rfl) ?_
  refine WGo.s (WStep.iload a0_233 rfl) ?_
  refine WGo.s (WStep.aload a0_235 rfl rfl) ?_
  refine WGo.s (WStep.iload a0_237 rfl) ?_
  refine WGo.s (WStep.iload a0_239 rfl) ?_
  refine WGo.callS a0_241 (ok3 hw _ _ _ _) (wd hw 10 rfl) (wd hw 11 rfl) (argsL := [.ref 0, .int 0, .int 3, .ref 1, .int 0, .int 0]) (S := []) (c3_0300 hw _ _ p q r b0 b1 b2 _) rfl rfl rfl rfl rfl rfl (Nat.le_of_ble_eq_true rfl) (Nat.le_of_ble_eq_true rfl) ?_
  rintro _ _ _ ⟨⟨rfl, hE⟩ | ⟨rfl, hE⟩, rfl, rfl⟩
  · exfalso
    simp_all
  · skip
    show WGo _ (244, (LA p q r b0 b1 b2 ra rb mix [wI 0, wI 3, wI 0, wI 0, wI 3, wI 0, wI 0, wU, wU]), [.int 0], (HA p q r b0 b1 b2), 6) _
    refine WGo.s (WStep.istore (L' := (LA p q r b0 b1 b2 ra rb mix [wI 0, wI 3, wI 0, wI 0, wI 3, wI 0, wI 0, wI 0, wU])) a0_244 rfl) ?_
    exact segE0 Z a0 hw n0 p q r b0 b1 b2 ra rb mix _ _ _ _ _ _
theorem segD0301 (Z : State) (a0 : Array Value) (hw : ∀ d ∈ tables_1, d.before a0 Z = true) (n0 : Nat) (p q r b0 b1 b2 : Int64) (ra rb mix : Int32) : WGo (g0 Z (fun k => n0 + k) n0 0 0) (123, (LA p q r b0 b1 b2 ra rb mix [wI 0, wI 3, wI 0, wI 1, wU, wU, wU, wU, wU]), [], (HA p q r b0 b1 b2), 6) (fun v σ' u' => v = some (.int 1) ∧ σ'.length ≤ 16 ∧ u' ≤ 128) := by
  refine WGo.s (WStep.iload a0_123 rfl) ?_
  refine WGo.s (WStep.iload a0_125 rfl) ?_
  refine WGo.s (WStep.isub a0_127) ?_
  show WGo _ (128, (LA p q r b0 b1 b2 ra rb mix [wI 0, wI 3, wI 0, wI 1, wU, wU, wU, wU, wU]), [.int 3], (HA p q r b0 b1 b2), 6) _
  refine WGo.s (WStep.istore (L' := (LA p q r b0 b1 b2 ra rb mix [wI 0, wI 3, wI 0, wI 1, wI 3, wU, wU, wU, wU])) a0_128 rfl) ?_
  refine WGo.s (WStep.iload a0_130 rfl) ?_
  refine WGo.s (WStep.iload a0_132 rfl) ?_
  refine WGo.s (WStep.isub a0_134) ?_
  show WGo _ (135, (LA p q r b0 b1 b2 ra rb mix [wI 0, wI 3, wI 0, wI 1, wI 3, wU, wU, wU, wU]), [.int 1], (HA p q r b0 b1 b2), 6) _
  refine WGo.s (WStep.istore (L' := (LA p q r b0 b1 b2 ra rb mix [wI 0, wI 3, wI 0, wI 1, wI 3, wI 1, wU, wU, wU])) a0_135 rfl) ?_
  refine WGo.s (WStep.iload a0_137 rfl) ?_
  refine WGo.s (WStep.iload a0_139 rfl) ?_
  refine WGo.s (WStep.icmpF a0_141 (by decide)) ?_
  refine WGo.s (WStep.iconst (0 : Int32) a0_144 rfl) ?_
  refine WGo.s (WStep.istore (L' := (LA p q r b0 b1 b2 ra rb mix [wI 0, wI 3, wI 0, wI 1, wI 3, wI 1, wI 0, wU, wU])) a0_145 rfl) ?_
  refine WGo.s (WStep.goto a0_147) ?_
  refine WGo.s (WStep.aload a0_229 rfl rfl) ?_
  refine WGo.s (WStep.iload a0_231 rfl) ?_
  refine WGo.s (WStep.iload a0_233 rfl) ?_
  refine WGo.s (WStep.aload a0_235 rfl rfl) ?_
  refine WGo.s (WStep.iload a0_237 rfl) ?_
  refine WGo.s (WStep.iload a0_239 rfl) ?_
  refine WGo.callS a0_241 (ok3 hw _ _ _ _) (wd hw 10 rfl) (wd hw 11 rfl) (argsL := [.ref 0, .int 0, .int 3, .ref 1, .int 0, .int 1]) (S := []) (c3_0301 hw _ _ p q r b0 b1 b2 _) rfl rfl rfl rfl rfl rfl (Nat.le_of_ble_eq_true rfl) (Nat.le_of_ble_eq_true rfl) ?_
  rintro _ _ _ ⟨⟨rfl, hE⟩ | ⟨rfl, hE⟩, rfl, rfl⟩
  · exfalso
    simp_all
  · skip
    show WGo _ (244, (LA p q r b0 b1 b2 ra rb mix [wI 0, wI 3, wI 0, wI 1, wI 3, wI 1, wI 0, wU, wU]), [.int 0], (HA p q r b0 b1 b2), 6) _
    refine WGo.s (WStep.istore (L' := (LA p q r b0 b1 b2 ra rb mix [wI 0, wI 3, wI 0, wI 1, wI 3, wI 1, wI 0, wI 0, wU])) a0_244 rfl) ?_
    exact segE0 Z a0 hw n0 p q r b0 b1 b2 ra rb mix _ _ _ _ _ _
theorem segD0302 (Z : State) (a0 : Array Value) (hw : ∀ d ∈ tables_1, d.before a0 Z = true) (n0 : Nat) (p q r b0 b1 b2 : Int64) (ra rb mix : Int32) : WGo (g0 Z (fun k => n0 + k) n0 0 0) (123, (LA p q r b0 b1 b2 ra rb mix [wI 0, wI 3, wI 0, wI 2, wU, wU, wU, wU, wU]), [], (HA p q r b0 b1 b2), 6) (fun v σ' u' => v = some (.int 1) ∧ σ'.length ≤ 16 ∧ u' ≤ 128) := by
  refine WGo.s (WStep.iload a0_123 rfl) ?_
  refine WGo.s (WStep.iload a0_125 rfl) ?_
  refine WGo.s (WStep.isub a0_127) ?_
  show WGo _ (128, (LA p q r b0 b1 b2 ra rb mix [wI 0, wI 3, wI 0, wI 2, wU, wU, wU, wU, wU]), [.int 3], (HA p q r b0 b1 b2), 6) _
  refine WGo.s (WStep.istore (L' := (LA p q r b0 b1 b2 ra rb mix [wI 0, wI 3, wI 0, wI 2, wI 3, wU, wU, wU, wU])) a0_128 rfl) ?_
  refine WGo.s (WStep.iload a0_130 rfl) ?_
  refine WGo.s (WStep.iload a0_132 rfl) ?_
  refine WGo.s (WStep.isub a0_134) ?_
  show WGo _ (135, (LA p q r b0 b1 b2 ra rb mix [wI 0, wI 3, wI 0, wI 2, wI 3, wU, wU, wU, wU]), [.int 2], (HA p q r b0 b1 b2), 6) _
  refine WGo.s (WStep.istore (L' := (LA p q r b0 b1 b2 ra rb mix [wI 0, wI 3, wI 0, wI 2, wI 3, wI 2, wU, wU, wU])) a0_135 rfl) ?_
  refine WGo.s (WStep.iload a0_137 rfl) ?_
  refine WGo.s (WStep.iload a0_139 rfl) ?_
  refine WGo.s (WStep.icmpF a0_141 (by decide)) ?_
  refine WGo.s (WStep.iconst (0 : Int32) a0_144 rfl) ?_
  refine WGo.s (WStep.istore (L' := (LA p q r b0 b1 b2 ra rb mix [wI 0, wI 3, wI 0, wI 2, wI 3, wI 2, wI 0, wU, wU])) a0_145 rfl) ?_
  refine WGo.s (WStep.goto a0_147) ?_
  refine WGo.s (WStep.aload a0_229 rfl rfl) ?_
  refine WGo.s (WStep.iload a0_231 rfl) ?_
  refine WGo.s (WStep.iload a0_233 rfl) ?_
  refine WGo.s (WStep.aload a0_235 rfl rfl) ?_
  refine WGo.s (WStep.iload a0_237 rfl) ?_
  refine WGo.s (WStep.iload a0_239 rfl) ?_
  refine WGo.callS a0_241 (ok3 hw _ _ _ _) (wd hw 10 rfl) (wd hw 11 rfl) (argsL := [.ref 0, .int 0, .int 3, .ref 1, .int 0, .int 2]) (S := []) (c3_0302 hw _ _ p q r b0 b1 b2 _) rfl rfl rfl rfl rfl rfl (Nat.le_of_ble_eq_true rfl) (Nat.le_of_ble_eq_true rfl) ?_
  rintro _ _ _ ⟨⟨rfl, hE⟩ | ⟨rfl, hE⟩, rfl, rfl⟩
  · exfalso
    simp_all
  · skip
    show WGo _ (244, (LA p q r b0 b1 b2 ra rb mix [wI 0, wI 3, wI 0, wI 2, wI 3, wI 2, wI 0, wU, wU]), [.int 0], (HA p q r b0 b1 b2), 6) _
    refine WGo.s (WStep.istore (L' := (LA p q r b0 b1 b2 ra rb mix [wI 0, wI 3, wI 0, wI 2, wI 3, wI 2, wI 0, wI 0, wU])) a0_244 rfl) ?_
    exact segE0 Z a0 hw n0 p q r b0 b1 b2 ra rb mix _ _ _ _ _ _
theorem segD0303 (Z : State) (a0 : Array Value) (hw : ∀ d ∈ tables_1, d.before a0 Z = true) (n0 : Nat) (p q r b0 b1 b2 : Int64) (ra rb mix : Int32) : WGo (g0 Z (fun k => n0 + k) n0 0 0) (123, (LA p q r b0 b1 b2 ra rb mix [wI 0, wI 3, wI 0, wI 3, wU, wU, wU, wU, wU]), [], (HA p q r b0 b1 b2), 6) (fun v σ' u' => v = some (.int 1) ∧ σ'.length ≤ 16 ∧ u' ≤ 128) := by
  refine WGo.s (WStep.iload a0_123 rfl) ?_
  refine WGo.s (WStep.iload a0_125 rfl) ?_
  refine WGo.s (WStep.isub a0_127) ?_
  show WGo _ (128, (LA p q r b0 b1 b2 ra rb mix [wI 0, wI 3, wI 0, wI 3, wU, wU, wU, wU, wU]), [.int 3], (HA p q r b0 b1 b2), 6) _
  refine WGo.s (WStep.istore (L' := (LA p q r b0 b1 b2 ra rb mix [wI 0, wI 3, wI 0, wI 3, wI 3, wU, wU, wU, wU])) a0_128 rfl) ?_
  refine WGo.s (WStep.iload a0_130 rfl) ?_
  refine WGo.s (WStep.iload a0_132 rfl) ?_
  refine WGo.s (WStep.isub a0_134) ?_
  show WGo _ (135, (LA p q r b0 b1 b2 ra rb mix [wI 0, wI 3, wI 0, wI 3, wI 3, wU, wU, wU, wU]), [.int 3], (HA p q r b0 b1 b2), 6) _
  refine WGo.s (WStep.istore (L' := (LA p q r b0 b1 b2 ra rb mix [wI 0, wI 3, wI 0, wI 3, wI 3, wI 3, wU, wU, wU])) a0_135 rfl) ?_
  refine WGo.s (WStep.iload a0_137 rfl) ?_
  refine WGo.s (WStep.iload a0_139 rfl) ?_
  refine WGo.s (WStep.icmpT a0_141 (by decide)) ?_
  refine WGo.s (WStep.iconst (1 : Int32) a0_150 rfl) ?_
  refine WGo.s (WStep.istore (L' := (LA p q r b0 b1 b2 ra rb mix [wI 0, wI 3, wI 0, wI 3, wI 3, wI 3, wI 1, wU, wU])) a0_151 rfl) ?_
  refine WGo.s (WStep.iload a0_153 rfl) ?_
  refine WGo.s (WStep.ifF a0_155 (by decide)) ?_
  refine WGo.s (WStep.aload a0_158 rfl rfl) ?_
  refine WGo.s (WStep.iload a0_160 rfl) ?_
  refine WGo.s (WStep.laload 0 a0_162 rfl (by decide) rfl rfl) ?_
  refine WGo.s (WStep.aload a0_163 rfl rfl) ?_
  refine WGo.s (WStep.iload a0_165 rfl) ?_
  refine WGo.s (WStep.laload 0 a0_167 rfl (by decide) rfl rfl) ?_
  refine WGo.s (WStep.lcmp a0_168) ?_
  refine WGo.eqL a0_169 (fun h169 => ?_) (fun h169 => ?_)
  · refine WGo.s (WStep.iload a0_175 rfl) ?_
    refine WGo.s (WStep.iconst (1 : Int32) a0_177 rfl) ?_
    refine WGo.s (WStep.icmpF a0_178 (by decide)) ?_
    refine WGo.s (WStep.aload a0_181 rfl rfl) ?_
    refine WGo.s (WStep.iload a0_183 rfl) ?_
    refine WGo.s (WStep.iconst (1 : Int32) a0_185 rfl) ?_
    refine WGo.s (WStep.iadd a0_186) ?_
    show WGo _ (187, (LA p q r b0 b1 b2 ra rb mix [wI 0, wI 3, wI 0, wI 3, wI 3, wI 3, wI 1, wU, wU]), [.int 1, .ref 0], (HA p q r b0 b1 b2), 6) _
    refine WGo.s (WStep.laload 1 a0_187 rfl (by decide) rfl rfl) ?_
    refine WGo.s (WStep.aload a0_188 rfl rfl) ?_
    refine WGo.s (WStep.iload a0_190 rfl) ?_
    refine WGo.s (WStep.iconst (1 : Int32) a0_192 rfl) ?_
    refine WGo.s (WStep.iadd a0_193) ?_
    show WGo _ (194, (LA p q r b0 b1 b2 ra rb mix [wI 0, wI 3, wI 0, wI 3, wI 3, wI 3, wI 1, wU, wU]), [.int 1, .ref 1, (.long q)], (HA p q r b0 b1 b2), 6) _
    refine WGo.s (WStep.laload 1 a0_194 rfl (by decide) rfl rfl) ?_
    refine WGo.s (WStep.lcmp a0_195) ?_
    refine WGo.eqL a0_196 (fun h196 => ?_) (fun h196 => ?_)
    · refine WGo.s (WStep.iload a0_202 rfl) ?_
      refine WGo.s (WStep.iconst (2 : Int32) a0_204 rfl) ?_
      refine WGo.s (WStep.icmpF a0_205 (by decide)) ?_
      refine WGo.s (WStep.aload a0_208 rfl rfl) ?_
      refine WGo.s (WStep.iload a0_210 rfl) ?_
      refine WGo.s (WStep.iconst (2 : Int32) a0_212 rfl) ?_
      refine WGo.s (WStep.iadd a0_213) ?_
      show WGo _ (214, (LA p q r b0 b1 b2 ra rb mix [wI 0, wI 3, wI 0, wI 3, wI 3, wI 3, wI 1, wU, wU]), [.int 2, .ref 0], (HA p q r b0 b1 b2), 6) _
      refine WGo.s (WStep.laload 2 a0_214 rfl (by decide) rfl rfl) ?_
      refine WGo.s (WStep.aload a0_215 rfl rfl) ?_
      refine WGo.s (WStep.iload a0_217 rfl) ?_
      refine WGo.s (WStep.iconst (2 : Int32) a0_219 rfl) ?_
      refine WGo.s (WStep.iadd a0_220) ?_
      show WGo _ (221, (LA p q r b0 b1 b2 ra rb mix [wI 0, wI 3, wI 0, wI 3, wI 3, wI 3, wI 1, wU, wU]), [.int 2, .ref 1, (.long r)], (HA p q r b0 b1 b2), 6) _
      refine WGo.s (WStep.laload 2 a0_221 rfl (by decide) rfl rfl) ?_
      refine WGo.s (WStep.lcmp a0_222) ?_
      refine WGo.eqL a0_223 (fun h223 => ?_) (fun h223 => ?_)
      · refine WGo.s (WStep.aload a0_229 rfl rfl) ?_
        refine WGo.s (WStep.iload a0_231 rfl) ?_
        refine WGo.s (WStep.iload a0_233 rfl) ?_
        refine WGo.s (WStep.aload a0_235 rfl rfl) ?_
        refine WGo.s (WStep.iload a0_237 rfl) ?_
        refine WGo.s (WStep.iload a0_239 rfl) ?_
        refine WGo.callS a0_241 (ok3 hw _ _ _ _) (wd hw 10 rfl) (wd hw 11 rfl) (argsL := [.ref 0, .int 0, .int 3, .ref 1, .int 0, .int 3]) (S := []) (c3_0303 hw _ _ p q r b0 b1 b2 _) rfl rfl rfl rfl rfl rfl (Nat.le_of_ble_eq_true rfl) (Nat.le_of_ble_eq_true rfl) ?_
        rintro _ _ _ ⟨⟨rfl, hE⟩ | ⟨rfl, hE⟩, rfl, rfl⟩
        · skip
          show WGo _ (244, (LA p q r b0 b1 b2 ra rb mix [wI 0, wI 3, wI 0, wI 3, wI 3, wI 3, wI 1, wU, wU]), [.int 1], (HA p q r b0 b1 b2), 6) _
          refine WGo.s (WStep.istore (L' := (LA p q r b0 b1 b2 ra rb mix [wI 0, wI 3, wI 0, wI 3, wI 3, wI 3, wI 1, wI 1, wU])) a0_244 rfl) ?_
          exact segE1 Z a0 hw n0 p q r b0 b1 b2 ra rb mix _ _ _ _ _ _
        · exfalso
          simp_all
      · refine WGo.s (WStep.iconst (0 : Int32) a0_226 rfl) ?_
        refine WGo.s (WStep.istore (L' := (LA p q r b0 b1 b2 ra rb mix [wI 0, wI 3, wI 0, wI 3, wI 3, wI 3, wI 0, wU, wU])) a0_227 rfl) ?_
        refine WGo.s (WStep.aload a0_229 rfl rfl) ?_
        refine WGo.s (WStep.iload a0_231 rfl) ?_
        refine WGo.s (WStep.iload a0_233 rfl) ?_
        refine WGo.s (WStep.aload a0_235 rfl rfl) ?_
        refine WGo.s (WStep.iload a0_237 rfl) ?_
        refine WGo.s (WStep.iload a0_239 rfl) ?_
        refine WGo.callS a0_241 (ok3 hw _ _ _ _) (wd hw 10 rfl) (wd hw 11 rfl) (argsL := [.ref 0, .int 0, .int 3, .ref 1, .int 0, .int 3]) (S := []) (c3_0303 hw _ _ p q r b0 b1 b2 _) rfl rfl rfl rfl rfl rfl (Nat.le_of_ble_eq_true rfl) (Nat.le_of_ble_eq_true rfl) ?_
        rintro _ _ _ ⟨⟨rfl, hE⟩ | ⟨rfl, hE⟩, rfl, rfl⟩
        · exfalso
          simp_all
        · skip
          show WGo _ (244, (LA p q r b0 b1 b2 ra rb mix [wI 0, wI 3, wI 0, wI 3, wI 3, wI 3, wI 0, wU, wU]), [.int 0], (HA p q r b0 b1 b2), 6) _
          refine WGo.s (WStep.istore (L' := (LA p q r b0 b1 b2 ra rb mix [wI 0, wI 3, wI 0, wI 3, wI 3, wI 3, wI 0, wI 0, wU])) a0_244 rfl) ?_
          exact segE0 Z a0 hw n0 p q r b0 b1 b2 ra rb mix _ _ _ _ _ _
    · refine WGo.s (WStep.iconst (0 : Int32) a0_199 rfl) ?_
      refine WGo.s (WStep.istore (L' := (LA p q r b0 b1 b2 ra rb mix [wI 0, wI 3, wI 0, wI 3, wI 3, wI 3, wI 0, wU, wU])) a0_200 rfl) ?_
      refine WGo.s (WStep.iload a0_202 rfl) ?_
      refine WGo.s (WStep.iconst (2 : Int32) a0_204 rfl) ?_
      refine WGo.s (WStep.icmpF a0_205 (by decide)) ?_
      refine WGo.s (WStep.aload a0_208 rfl rfl) ?_
      refine WGo.s (WStep.iload a0_210 rfl) ?_
      refine WGo.s (WStep.iconst (2 : Int32) a0_212 rfl) ?_
      refine WGo.s (WStep.iadd a0_213) ?_
      show WGo _ (214, (LA p q r b0 b1 b2 ra rb mix [wI 0, wI 3, wI 0, wI 3, wI 3, wI 3, wI 0, wU, wU]), [.int 2, .ref 0], (HA p q r b0 b1 b2), 6) _
      refine WGo.s (WStep.laload 2 a0_214 rfl (by decide) rfl rfl) ?_
      refine WGo.s (WStep.aload a0_215 rfl rfl) ?_
      refine WGo.s (WStep.iload a0_217 rfl) ?_
      refine WGo.s (WStep.iconst (2 : Int32) a0_219 rfl) ?_
      refine WGo.s (WStep.iadd a0_220) ?_
      show WGo _ (221, (LA p q r b0 b1 b2 ra rb mix [wI 0, wI 3, wI 0, wI 3, wI 3, wI 3, wI 0, wU, wU]), [.int 2, .ref 1, (.long r)], (HA p q r b0 b1 b2), 6) _
      refine WGo.s (WStep.laload 2 a0_221 rfl (by decide) rfl rfl) ?_
      refine WGo.s (WStep.lcmp a0_222) ?_
      refine WGo.eqL a0_223 (fun h223 => ?_) (fun h223 => ?_)
      · refine WGo.s (WStep.aload a0_229 rfl rfl) ?_
        refine WGo.s (WStep.iload a0_231 rfl) ?_
        refine WGo.s (WStep.iload a0_233 rfl) ?_
        refine WGo.s (WStep.aload a0_235 rfl rfl) ?_
        refine WGo.s (WStep.iload a0_237 rfl) ?_
        refine WGo.s (WStep.iload a0_239 rfl) ?_
        refine WGo.callS a0_241 (ok3 hw _ _ _ _) (wd hw 10 rfl) (wd hw 11 rfl) (argsL := [.ref 0, .int 0, .int 3, .ref 1, .int 0, .int 3]) (S := []) (c3_0303 hw _ _ p q r b0 b1 b2 _) rfl rfl rfl rfl rfl rfl (Nat.le_of_ble_eq_true rfl) (Nat.le_of_ble_eq_true rfl) ?_
        rintro _ _ _ ⟨⟨rfl, hE⟩ | ⟨rfl, hE⟩, rfl, rfl⟩
        · exfalso
          simp_all
        · skip
          show WGo _ (244, (LA p q r b0 b1 b2 ra rb mix [wI 0, wI 3, wI 0, wI 3, wI 3, wI 3, wI 0, wU, wU]), [.int 0], (HA p q r b0 b1 b2), 6) _
          refine WGo.s (WStep.istore (L' := (LA p q r b0 b1 b2 ra rb mix [wI 0, wI 3, wI 0, wI 3, wI 3, wI 3, wI 0, wI 0, wU])) a0_244 rfl) ?_
          exact segE0 Z a0 hw n0 p q r b0 b1 b2 ra rb mix _ _ _ _ _ _
      · refine WGo.s (WStep.iconst (0 : Int32) a0_226 rfl) ?_
        refine WGo.s (WStep.istore (L' := (LA p q r b0 b1 b2 ra rb mix [wI 0, wI 3, wI 0, wI 3, wI 3, wI 3, wI 0, wU, wU])) a0_227 rfl) ?_
        refine WGo.s (WStep.aload a0_229 rfl rfl) ?_
        refine WGo.s (WStep.iload a0_231 rfl) ?_
        refine WGo.s (WStep.iload a0_233 rfl) ?_
        refine WGo.s (WStep.aload a0_235 rfl rfl) ?_
        refine WGo.s (WStep.iload a0_237 rfl) ?_
        refine WGo.s (WStep.iload a0_239 rfl) ?_
        refine WGo.callS a0_241 (ok3 hw _ _ _ _) (wd hw 10 rfl) (wd hw 11 rfl) (argsL := [.ref 0, .int 0, .int 3, .ref 1, .int 0, .int 3]) (S := []) (c3_0303 hw _ _ p q r b0 b1 b2 _) rfl rfl rfl rfl rfl rfl (Nat.le_of_ble_eq_true rfl) (Nat.le_of_ble_eq_true rfl) ?_
        rintro _ _ _ ⟨⟨rfl, hE⟩ | ⟨rfl, hE⟩, rfl, rfl⟩
        · exfalso
          simp_all
        · skip
          show WGo _ (244, (LA p q r b0 b1 b2 ra rb mix [wI 0, wI 3, wI 0, wI 3, wI 3, wI 3, wI 0, wU, wU]), [.int 0], (HA p q r b0 b1 b2), 6) _
          refine WGo.s (WStep.istore (L' := (LA p q r b0 b1 b2 ra rb mix [wI 0, wI 3, wI 0, wI 3, wI 3, wI 3, wI 0, wI 0, wU])) a0_244 rfl) ?_
          exact segE0 Z a0 hw n0 p q r b0 b1 b2 ra rb mix _ _ _ _ _ _
  · refine WGo.s (WStep.iconst (0 : Int32) a0_172 rfl) ?_
    refine WGo.s (WStep.istore (L' := (LA p q r b0 b1 b2 ra rb mix [wI 0, wI 3, wI 0, wI 3, wI 3, wI 3, wI 0, wU, wU])) a0_173 rfl) ?_
    refine WGo.s (WStep.iload a0_175 rfl) ?_
    refine WGo.s (WStep.iconst (1 : Int32) a0_177 rfl) ?_
    refine WGo.s (WStep.icmpF a0_178 (by decide)) ?_
    refine WGo.s (WStep.aload a0_181 rfl rfl) ?_
    refine WGo.s (WStep.iload a0_183 rfl) ?_
    refine WGo.s (WStep.iconst (1 : Int32) a0_185 rfl) ?_
    refine WGo.s (WStep.iadd a0_186) ?_
    show WGo _ (187, (LA p q r b0 b1 b2 ra rb mix [wI 0, wI 3, wI 0, wI 3, wI 3, wI 3, wI 0, wU, wU]), [.int 1, .ref 0], (HA p q r b0 b1 b2), 6) _
    refine WGo.s (WStep.laload 1 a0_187 rfl (by decide) rfl rfl) ?_
    refine WGo.s (WStep.aload a0_188 rfl rfl) ?_
    refine WGo.s (WStep.iload a0_190 rfl) ?_
    refine WGo.s (WStep.iconst (1 : Int32) a0_192 rfl) ?_
    refine WGo.s (WStep.iadd a0_193) ?_
    show WGo _ (194, (LA p q r b0 b1 b2 ra rb mix [wI 0, wI 3, wI 0, wI 3, wI 3, wI 3, wI 0, wU, wU]), [.int 1, .ref 1, (.long q)], (HA p q r b0 b1 b2), 6) _
    refine WGo.s (WStep.laload 1 a0_194 rfl (by decide) rfl rfl) ?_
    refine WGo.s (WStep.lcmp a0_195) ?_
    refine WGo.eqL a0_196 (fun h196 => ?_) (fun h196 => ?_)
    · refine WGo.s (WStep.iload a0_202 rfl) ?_
      refine WGo.s (WStep.iconst (2 : Int32) a0_204 rfl) ?_
      refine WGo.s (WStep.icmpF a0_205 (by decide)) ?_
      refine WGo.s (WStep.aload a0_208 rfl rfl) ?_
      refine WGo.s (WStep.iload a0_210 rfl) ?_
      refine WGo.s (WStep.iconst (2 : Int32) a0_212 rfl) ?_
      refine WGo.s (WStep.iadd a0_213) ?_
      show WGo _ (214, (LA p q r b0 b1 b2 ra rb mix [wI 0, wI 3, wI 0, wI 3, wI 3, wI 3, wI 0, wU, wU]), [.int 2, .ref 0], (HA p q r b0 b1 b2), 6) _
      refine WGo.s (WStep.laload 2 a0_214 rfl (by decide) rfl rfl) ?_
      refine WGo.s (WStep.aload a0_215 rfl rfl) ?_
      refine WGo.s (WStep.iload a0_217 rfl) ?_
      refine WGo.s (WStep.iconst (2 : Int32) a0_219 rfl) ?_
      refine WGo.s (WStep.iadd a0_220) ?_
      show WGo _ (221, (LA p q r b0 b1 b2 ra rb mix [wI 0, wI 3, wI 0, wI 3, wI 3, wI 3, wI 0, wU, wU]), [.int 2, .ref 1, (.long r)], (HA p q r b0 b1 b2), 6) _
      refine WGo.s (WStep.laload 2 a0_221 rfl (by decide) rfl rfl) ?_
      refine WGo.s (WStep.lcmp a0_222) ?_
      refine WGo.eqL a0_223 (fun h223 => ?_) (fun h223 => ?_)
      · refine WGo.s (WStep.aload a0_229 rfl rfl) ?_
        refine WGo.s (WStep.iload a0_231 rfl) ?_
        refine WGo.s (WStep.iload a0_233 rfl) ?_
        refine WGo.s (WStep.aload a0_235 rfl rfl) ?_
        refine WGo.s (WStep.iload a0_237 rfl) ?_
        refine WGo.s (WStep.iload a0_239 rfl) ?_
        refine WGo.callS a0_241 (ok3 hw _ _ _ _) (wd hw 10 rfl) (wd hw 11 rfl) (argsL := [.ref 0, .int 0, .int 3, .ref 1, .int 0, .int 3]) (S := []) (c3_0303 hw _ _ p q r b0 b1 b2 _) rfl rfl rfl rfl rfl rfl (Nat.le_of_ble_eq_true rfl) (Nat.le_of_ble_eq_true rfl) ?_
        rintro _ _ _ ⟨⟨rfl, hE⟩ | ⟨rfl, hE⟩, rfl, rfl⟩
        · exfalso
          simp_all
        · skip
          show WGo _ (244, (LA p q r b0 b1 b2 ra rb mix [wI 0, wI 3, wI 0, wI 3, wI 3, wI 3, wI 0, wU, wU]), [.int 0], (HA p q r b0 b1 b2), 6) _
          refine WGo.s (WStep.istore (L' := (LA p q r b0 b1 b2 ra rb mix [wI 0, wI 3, wI 0, wI 3, wI 3, wI 3, wI 0, wI 0, wU])) a0_244 rfl) ?_
          exact segE0 Z a0 hw n0 p q r b0 b1 b2 ra rb mix _ _ _ _ _ _
      · refine WGo.s (WStep.iconst (0 : Int32) a0_226 rfl) ?_
        refine WGo.s (WStep.istore (L' := (LA p q r b0 b1 b2 ra rb mix [wI 0, wI 3, wI 0, wI 3, wI 3, wI 3, wI 0, wU, wU])) a0_227 rfl) ?_
        refine WGo.s (WStep.aload a0_229 rfl rfl) ?_
        refine WGo.s (WStep.iload a0_231 rfl) ?_
        refine WGo.s (WStep.iload a0_233 rfl) ?_
        refine WGo.s (WStep.aload a0_235 rfl rfl) ?_
        refine WGo.s (WStep.iload a0_237 rfl) ?_
        refine WGo.s (WStep.iload a0_239 rfl) ?_
        refine WGo.callS a0_241 (ok3 hw _ _ _ _) (wd hw 10 rfl) (wd hw 11 rfl) (argsL := [.ref 0, .int 0, .int 3, .ref 1, .int 0, .int 3]) (S := []) (c3_0303 hw _ _ p q r b0 b1 b2 _) rfl rfl rfl rfl rfl rfl (Nat.le_of_ble_eq_true rfl) (Nat.le_of_ble_eq_true rfl) ?_
        rintro _ _ _ ⟨⟨rfl, hE⟩ | ⟨rfl, hE⟩, rfl, rfl⟩
        · exfalso
          simp_all
        · skip
          show WGo _ (244, (LA p q r b0 b1 b2 ra rb mix [wI 0, wI 3, wI 0, wI 3, wI 3, wI 3, wI 0, wU, wU]), [.int 0], (HA p q r b0 b1 b2), 6) _
          refine WGo.s (WStep.istore (L' := (LA p q r b0 b1 b2 ra rb mix [wI 0, wI 3, wI 0, wI 3, wI 3, wI 3, wI 0, wI 0, wU])) a0_244 rfl) ?_
          exact segE0 Z a0 hw n0 p q r b0 b1 b2 ra rb mix _ _ _ _ _ _
    · refine WGo.s (WStep.iconst (0 : Int32) a0_199 rfl) ?_
      refine WGo.s (WStep.istore (L' := (LA p q r b0 b1 b2 ra rb mix [wI 0, wI 3, wI 0, wI 3, wI 3, wI 3, wI 0, wU, wU])) a0_200 rfl) ?_
      refine WGo.s (WStep.iload a0_202 rfl) ?_
      refine WGo.s (WStep.iconst (2 : Int32) a0_204 rfl) ?_
      refine WGo.s (WStep.icmpF a0_205 (by decide)) ?_
      refine WGo.s (WStep.aload a0_208 rfl rfl) ?_
      refine WGo.s (WStep.iload a0_210 rfl) ?_
      refine WGo.s (WStep.iconst (2 : Int32) a0_212 rfl) ?_
      refine WGo.s (WStep.iadd a0_213) ?_
      show WGo _ (214, (LA p q r b0 b1 b2 ra rb mix [wI 0, wI 3, wI 0, wI 3, wI 3, wI 3, wI 0, wU, wU]), [.int 2, .ref 0], (HA p q r b0 b1 b2), 6) _
      refine WGo.s (WStep.laload 2 a0_214 rfl (by decide) rfl rfl) ?_
      refine WGo.s (WStep.aload a0_215 rfl rfl) ?_
      refine WGo.s (WStep.iload a0_217 rfl) ?_
      refine WGo.s (WStep.iconst (2 : Int32) a0_219 rfl) ?_
      refine WGo.s (WStep.iadd a0_220) ?_
      show WGo _ (221, (LA p q r b0 b1 b2 ra rb mix [wI 0, wI 3, wI 0, wI 3, wI 3, wI 3, wI 0, wU, wU]), [.int 2, .ref 1, (.long r)], (HA p q r b0 b1 b2), 6) _
      refine WGo.s (WStep.laload 2 a0_221 rfl (by decide) rfl rfl) ?_
      refine WGo.s (WStep.lcmp a0_222) ?_
      refine WGo.eqL a0_223 (fun h223 => ?_) (fun h223 => ?_)
      · refine WGo.s (WStep.aload a0_229 rfl rfl) ?_
        refine WGo.s (WStep.iload a0_231 rfl) ?_
        refine WGo.s (WStep.iload a0_233 rfl) ?_
        refine WGo.s (WStep.aload a0_235 rfl rfl) ?_
        refine WGo.s (WStep.iload a0_237 rfl) ?_
        refine WGo.s (WStep.iload a0_239 rfl) ?_
        refine WGo.callS a0_241 (ok3 hw _ _ _ _) (wd hw 10 rfl) (wd hw 11 rfl) (argsL := [.ref 0, .int 0, .int 3, .ref 1, .int 0, .int 3]) (S := []) (c3_0303 hw _ _ p q r b0 b1 b2 _) rfl rfl rfl rfl rfl rfl (Nat.le_of_ble_eq_true rfl) (Nat.le_of_ble_eq_true rfl) ?_
        rintro _ _ _ ⟨⟨rfl, hE⟩ | ⟨rfl, hE⟩, rfl, rfl⟩
        · exfalso
          simp_all
        · skip
          show WGo _ (244, (LA p q r b0 b1 b2 ra rb mix [wI 0, wI 3, wI 0, wI 3, wI 3, wI 3, wI 0, wU, wU]), [.int 0], (HA p q r b0 b1 b2), 6) _
          refine WGo.s (WStep.istore (L' := (LA p q r b0 b1 b2 ra rb mix [wI 0, wI 3, wI 0, wI 3, wI 3, wI 3, wI 0, wI 0, wU])) a0_244 rfl) ?_
          exact segE0 Z a0 hw n0 p q r b0 b1 b2 ra rb mix _ _ _ _ _ _
      · refine WGo.s (WStep.iconst (0 : Int32) a0_226 rfl) ?_
        refine WGo.s (WStep.istore (L' := (LA p q r b0 b1 b2 ra rb mix [wI 0, wI 3, wI 0, wI 3, wI 3, wI 3, wI 0, wU, wU])) a0_227 rfl) ?_
        refine WGo.s (WStep.aload a0_229 rfl rfl) ?_
        refine WGo.s (WStep.iload a0_231 rfl) ?_
        refine WGo.s (WStep.iload a0_233 rfl) ?_
        refine WGo.s (WStep.aload a0_235 rfl rfl) ?_
        refine WGo.s (WStep.iload a0_237 rfl) ?_
        refine WGo.s (WStep.iload a0_239 rfl) ?_
        refine WGo.callS a0_241 (ok3 hw _ _ _ _) (wd hw 10 rfl) (wd hw 11 rfl) (argsL := [.ref 0, .int 0, .int 3, .ref 1, .int 0, .int 3]) (S := []) (c3_0303 hw _ _ p q r b0 b1 b2 _) rfl rfl rfl rfl rfl rfl (Nat.le_of_ble_eq_true rfl) (Nat.le_of_ble_eq_true rfl) ?_
        rintro _ _ _ ⟨⟨rfl, hE⟩ | ⟨rfl, hE⟩, rfl, rfl⟩
        · exfalso
          simp_all
        · skip
          show WGo _ (244, (LA p q r b0 b1 b2 ra rb mix [wI 0, wI 3, wI 0, wI 3, wI 3, wI 3, wI 0, wU, wU]), [.int 0], (HA p q r b0 b1 b2), 6) _
          refine WGo.s (WStep.istore (L' := (LA p q r b0 b1 b2 ra rb mix [wI 0, wI 3, wI 0, wI 3, wI 3, wI 3, wI 0, wI 0, wU])) a0_244 rfl) ?_
          exact segE0 Z a0 hw n0 p q r b0 b1 b2 ra rb mix _ _ _ _ _ _
theorem segD0311 (Z : State) (a0 : Array Value) (hw : ∀ d ∈ tables_1, d.before a0 Z = true) (n0 : Nat) (p q r b0 b1 b2 : Int64) (ra rb mix : Int32) : WGo (g0 Z (fun k => n0 + k) n0 0 0) (123, (LA p q r b0 b1 b2 ra rb mix [wI 0, wI 3, wI 1, wI 1, wU, wU, wU, wU, wU]), [], (HA p q r b0 b1 b2), 6) (fun v σ' u' => v = some (.int 1) ∧ σ'.length ≤ 16 ∧ u' ≤ 128) := by
  refine WGo.s (WStep.iload a0_123 rfl) ?_
  refine WGo.s (WStep.iload a0_125 rfl) ?_
  refine WGo.s (WStep.isub a0_127) ?_
  show WGo _ (128, (LA p q r b0 b1 b2 ra rb mix [wI 0, wI 3, wI 1, wI 1, wU, wU, wU, wU, wU]), [.int 3], (HA p q r b0 b1 b2), 6) _
  refine WGo.s (WStep.istore (L' := (LA p q r b0 b1 b2 ra rb mix [wI 0, wI 3, wI 1, wI 1, wI 3, wU, wU, wU, wU])) a0_128 rfl) ?_
  refine WGo.s (WStep.iload a0_130 rfl) ?_
  refine WGo.s (WStep.iload a0_132 rfl) ?_
  refine WGo.s (WStep.isub a0_134) ?_
  show WGo _ (135, (LA p q r b0 b1 b2 ra rb mix [wI 0, wI 3, wI 1, wI 1, wI 3, wU, wU, wU, wU]), [.int 0], (HA p q r b0 b1 b2), 6) _
  refine WGo.s (WStep.istore (L' := (LA p q r b0 b1 b2 ra rb mix [wI 0, wI 3, wI 1, wI 1, wI 3, wI 0, wU, wU, wU])) a0_135 rfl) ?_
  refine WGo.s (WStep.iload a0_137 rfl) ?_
  refine WGo.s (WStep.iload a0_139 rfl) ?_
  refine WGo.s (WStep.icmpF a0_141 (by decide)) ?_
  refine WGo.s (WStep.iconst (0 : Int32) a0_144 rfl) ?_
  refine WGo.s (WStep.istore (L' := (LA p q r b0 b1 b2 ra rb mix [wI 0, wI 3, wI 1, wI 1, wI 3, wI 0, wI 0, wU, wU])) a0_145 rfl) ?_
  refine WGo.s (WStep.goto a0_147) ?_
  refine WGo.s (WStep.aload a0_229 rfl rfl) ?_
  refine WGo.s (WStep.iload a0_231 rfl) ?_
  refine WGo.s (WStep.iload a0_233 rfl) ?_
  refine WGo.s (WStep.aload a0_235 rfl rfl) ?_
  refine WGo.s (WStep.iload a0_237 rfl) ?_
  refine WGo.s (WStep.iload a0_239 rfl) ?_
  refine WGo.callS a0_241 (ok3 hw _ _ _ _) (wd hw 10 rfl) (wd hw 11 rfl) (argsL := [.ref 0, .int 0, .int 3, .ref 1, .int 1, .int 1]) (S := []) (c3_0311 hw _ _ p q r b0 b1 b2 _) rfl rfl rfl rfl rfl rfl (Nat.le_of_ble_eq_true rfl) (Nat.le_of_ble_eq_true rfl) ?_
  rintro _ _ _ ⟨⟨rfl, hE⟩ | ⟨rfl, hE⟩, rfl, rfl⟩
  · exfalso
    simp_all
  · skip
    show WGo _ (244, (LA p q r b0 b1 b2 ra rb mix [wI 0, wI 3, wI 1, wI 1, wI 3, wI 0, wI 0, wU, wU]), [.int 0], (HA p q r b0 b1 b2), 6) _
    refine WGo.s (WStep.istore (L' := (LA p q r b0 b1 b2 ra rb mix [wI 0, wI 3, wI 1, wI 1, wI 3, wI 0, wI 0, wI 0, wU])) a0_244 rfl) ?_
    exact segE0 Z a0 hw n0 p q r b0 b1 b2 ra rb mix _ _ _ _ _ _
theorem segD0312 (Z : State) (a0 : Array Value) (hw : ∀ d ∈ tables_1, d.before a0 Z = true) (n0 : Nat) (p q r b0 b1 b2 : Int64) (ra rb mix : Int32) : WGo (g0 Z (fun k => n0 + k) n0 0 0) (123, (LA p q r b0 b1 b2 ra rb mix [wI 0, wI 3, wI 1, wI 2, wU, wU, wU, wU, wU]), [], (HA p q r b0 b1 b2), 6) (fun v σ' u' => v = some (.int 1) ∧ σ'.length ≤ 16 ∧ u' ≤ 128) := by
  refine WGo.s (WStep.iload a0_123 rfl) ?_
  refine WGo.s (WStep.iload a0_125 rfl) ?_
  refine WGo.s (WStep.isub a0_127) ?_
  show WGo _ (128, (LA p q r b0 b1 b2 ra rb mix [wI 0, wI 3, wI 1, wI 2, wU, wU, wU, wU, wU]), [.int 3], (HA p q r b0 b1 b2), 6) _
  refine WGo.s (WStep.istore (L' := (LA p q r b0 b1 b2 ra rb mix [wI 0, wI 3, wI 1, wI 2, wI 3, wU, wU, wU, wU])) a0_128 rfl) ?_
  refine WGo.s (WStep.iload a0_130 rfl) ?_
  refine WGo.s (WStep.iload a0_132 rfl) ?_
  refine WGo.s (WStep.isub a0_134) ?_
  show WGo _ (135, (LA p q r b0 b1 b2 ra rb mix [wI 0, wI 3, wI 1, wI 2, wI 3, wU, wU, wU, wU]), [.int 1], (HA p q r b0 b1 b2), 6) _
  refine WGo.s (WStep.istore (L' := (LA p q r b0 b1 b2 ra rb mix [wI 0, wI 3, wI 1, wI 2, wI 3, wI 1, wU, wU, wU])) a0_135 rfl) ?_
  refine WGo.s (WStep.iload a0_137 rfl) ?_
  refine WGo.s (WStep.iload a0_139 rfl) ?_
  refine WGo.s (WStep.icmpF a0_141 (by decide)) ?_
  refine WGo.s (WStep.iconst (0 : Int32) a0_144 rfl) ?_
  refine WGo.s (WStep.istore (L' := (LA p q r b0 b1 b2 ra rb mix [wI 0, wI 3, wI 1, wI 2, wI 3, wI 1, wI 0, wU, wU])) a0_145 rfl) ?_
  refine WGo.s (WStep.goto a0_147) ?_
  refine WGo.s (WStep.aload a0_229 rfl rfl) ?_
  refine WGo.s (WStep.iload a0_231 rfl) ?_
  refine WGo.s (WStep.iload a0_233 rfl) ?_
  refine WGo.s (WStep.aload a0_235 rfl rfl) ?_
  refine WGo.s (WStep.iload a0_237 rfl) ?_
  refine WGo.s (WStep.iload a0_239 rfl) ?_
  refine WGo.callS a0_241 (ok3 hw _ _ _ _) (wd hw 10 rfl) (wd hw 11 rfl) (argsL := [.ref 0, .int 0, .int 3, .ref 1, .int 1, .int 2]) (S := []) (c3_0312 hw _ _ p q r b0 b1 b2 _) rfl rfl rfl rfl rfl rfl (Nat.le_of_ble_eq_true rfl) (Nat.le_of_ble_eq_true rfl) ?_
  rintro _ _ _ ⟨⟨rfl, hE⟩ | ⟨rfl, hE⟩, rfl, rfl⟩
  · exfalso
    simp_all
  · skip
    show WGo _ (244, (LA p q r b0 b1 b2 ra rb mix [wI 0, wI 3, wI 1, wI 2, wI 3, wI 1, wI 0, wU, wU]), [.int 0], (HA p q r b0 b1 b2), 6) _
    refine WGo.s (WStep.istore (L' := (LA p q r b0 b1 b2 ra rb mix [wI 0, wI 3, wI 1, wI 2, wI 3, wI 1, wI 0, wI 0, wU])) a0_244 rfl) ?_
    exact segE0 Z a0 hw n0 p q r b0 b1 b2 ra rb mix _ _ _ _ _ _
theorem segD0313 (Z : State) (a0 : Array Value) (hw : ∀ d ∈ tables_1, d.before a0 Z = true) (n0 : Nat) (p q r b0 b1 b2 : Int64) (ra rb mix : Int32) : WGo (g0 Z (fun k => n0 + k) n0 0 0) (123, (LA p q r b0 b1 b2 ra rb mix [wI 0, wI 3, wI 1, wI 3, wU, wU, wU, wU, wU]), [], (HA p q r b0 b1 b2), 6) (fun v σ' u' => v = some (.int 1) ∧ σ'.length ≤ 16 ∧ u' ≤ 128) := by
  refine WGo.s (WStep.iload a0_123 rfl) ?_
  refine WGo.s (WStep.iload a0_125 rfl) ?_
  refine WGo.s (WStep.isub a0_127) ?_
  show WGo _ (128, (LA p q r b0 b1 b2 ra rb mix [wI 0, wI 3, wI 1, wI 3, wU, wU, wU, wU, wU]), [.int 3], (HA p q r b0 b1 b2), 6) _
  refine WGo.s (WStep.istore (L' := (LA p q r b0 b1 b2 ra rb mix [wI 0, wI 3, wI 1, wI 3, wI 3, wU, wU, wU, wU])) a0_128 rfl) ?_
  refine WGo.s (WStep.iload a0_130 rfl) ?_
  refine WGo.s (WStep.iload a0_132 rfl) ?_
  refine WGo.s (WStep.isub a0_134) ?_
  show WGo _ (135, (LA p q r b0 b1 b2 ra rb mix [wI 0, wI 3, wI 1, wI 3, wI 3, wU, wU, wU, wU]), [.int 2], (HA p q r b0 b1 b2), 6) _
  refine WGo.s (WStep.istore (L' := (LA p q r b0 b1 b2 ra rb mix [wI 0, wI 3, wI 1, wI 3, wI 3, wI 2, wU, wU, wU])) a0_135 rfl) ?_
  refine WGo.s (WStep.iload a0_137 rfl) ?_
  refine WGo.s (WStep.iload a0_139 rfl) ?_
  refine WGo.s (WStep.icmpF a0_141 (by decide)) ?_
  refine WGo.s (WStep.iconst (0 : Int32) a0_144 rfl) ?_
  refine WGo.s (WStep.istore (L' := (LA p q r b0 b1 b2 ra rb mix [wI 0, wI 3, wI 1, wI 3, wI 3, wI 2, wI 0, wU, wU])) a0_145 rfl) ?_
  refine WGo.s (WStep.goto a0_147) ?_
  refine WGo.s (WStep.aload a0_229 rfl rfl) ?_
  refine WGo.s (WStep.iload a0_231 rfl) ?_
  refine WGo.s (WStep.iload a0_233 rfl) ?_
  refine WGo.s (WStep.aload a0_235 rfl rfl) ?_
  refine WGo.s (WStep.iload a0_237 rfl) ?_
  refine WGo.s (WStep.iload a0_239 rfl) ?_
  refine WGo.callS a0_241 (ok3 hw _ _ _ _) (wd hw 10 rfl) (wd hw 11 rfl) (argsL := [.ref 0, .int 0, .int 3, .ref 1, .int 1, .int 3]) (S := []) (c3_0313 hw _ _ p q r b0 b1 b2 _) rfl rfl rfl rfl rfl rfl (Nat.le_of_ble_eq_true rfl) (Nat.le_of_ble_eq_true rfl) ?_
  rintro _ _ _ ⟨⟨rfl, hE⟩ | ⟨rfl, hE⟩, rfl, rfl⟩
  · exfalso
    simp_all
  · skip
    show WGo _ (244, (LA p q r b0 b1 b2 ra rb mix [wI 0, wI 3, wI 1, wI 3, wI 3, wI 2, wI 0, wU, wU]), [.int 0], (HA p q r b0 b1 b2), 6) _
    refine WGo.s (WStep.istore (L' := (LA p q r b0 b1 b2 ra rb mix [wI 0, wI 3, wI 1, wI 3, wI 3, wI 2, wI 0, wI 0, wU])) a0_244 rfl) ?_
    exact segE0 Z a0 hw n0 p q r b0 b1 b2 ra rb mix _ _ _ _ _ _
theorem segD0322 (Z : State) (a0 : Array Value) (hw : ∀ d ∈ tables_1, d.before a0 Z = true) (n0 : Nat) (p q r b0 b1 b2 : Int64) (ra rb mix : Int32) : WGo (g0 Z (fun k => n0 + k) n0 0 0) (123, (LA p q r b0 b1 b2 ra rb mix [wI 0, wI 3, wI 2, wI 2, wU, wU, wU, wU, wU]), [], (HA p q r b0 b1 b2), 6) (fun v σ' u' => v = some (.int 1) ∧ σ'.length ≤ 16 ∧ u' ≤ 128) := by
  refine WGo.s (WStep.iload a0_123 rfl) ?_
  refine WGo.s (WStep.iload a0_125 rfl) ?_
  refine WGo.s (WStep.isub a0_127) ?_
  show WGo _ (128, (LA p q r b0 b1 b2 ra rb mix [wI 0, wI 3, wI 2, wI 2, wU, wU, wU, wU, wU]), [.int 3], (HA p q r b0 b1 b2), 6) _
  refine WGo.s (WStep.istore (L' := (LA p q r b0 b1 b2 ra rb mix [wI 0, wI 3, wI 2, wI 2, wI 3, wU, wU, wU, wU])) a0_128 rfl) ?_
  refine WGo.s (WStep.iload a0_130 rfl) ?_
  refine WGo.s (WStep.iload a0_132 rfl) ?_
  refine WGo.s (WStep.isub a0_134) ?_
  show WGo _ (135, (LA p q r b0 b1 b2 ra rb mix [wI 0, wI 3, wI 2, wI 2, wI 3, wU, wU, wU, wU]), [.int 0], (HA p q r b0 b1 b2), 6) _
  refine WGo.s (WStep.istore (L' := (LA p q r b0 b1 b2 ra rb mix [wI 0, wI 3, wI 2, wI 2, wI 3, wI 0, wU, wU, wU])) a0_135 rfl) ?_
  refine WGo.s (WStep.iload a0_137 rfl) ?_
  refine WGo.s (WStep.iload a0_139 rfl) ?_
  refine WGo.s (WStep.icmpF a0_141 (by decide)) ?_
  refine WGo.s (WStep.iconst (0 : Int32) a0_144 rfl) ?_
  refine WGo.s (WStep.istore (L' := (LA p q r b0 b1 b2 ra rb mix [wI 0, wI 3, wI 2, wI 2, wI 3, wI 0, wI 0, wU, wU])) a0_145 rfl) ?_
  refine WGo.s (WStep.goto a0_147) ?_
  refine WGo.s (WStep.aload a0_229 rfl rfl) ?_
  refine WGo.s (WStep.iload a0_231 rfl) ?_
  refine WGo.s (WStep.iload a0_233 rfl) ?_
  refine WGo.s (WStep.aload a0_235 rfl rfl) ?_
  refine WGo.s (WStep.iload a0_237 rfl) ?_
  refine WGo.s (WStep.iload a0_239 rfl) ?_
  refine WGo.callS a0_241 (ok3 hw _ _ _ _) (wd hw 10 rfl) (wd hw 11 rfl) (argsL := [.ref 0, .int 0, .int 3, .ref 1, .int 2, .int 2]) (S := []) (c3_0322 hw _ _ p q r b0 b1 b2 _) rfl rfl rfl rfl rfl rfl (Nat.le_of_ble_eq_true rfl) (Nat.le_of_ble_eq_true rfl) ?_
  rintro _ _ _ ⟨⟨rfl, hE⟩ | ⟨rfl, hE⟩, rfl, rfl⟩
  · exfalso
    simp_all
  · skip
    show WGo _ (244, (LA p q r b0 b1 b2 ra rb mix [wI 0, wI 3, wI 2, wI 2, wI 3, wI 0, wI 0, wU, wU]), [.int 0], (HA p q r b0 b1 b2), 6) _
    refine WGo.s (WStep.istore (L' := (LA p q r b0 b1 b2 ra rb mix [wI 0, wI 3, wI 2, wI 2, wI 3, wI 0, wI 0, wI 0, wU])) a0_244 rfl) ?_
    exact segE0 Z a0 hw n0 p q r b0 b1 b2 ra rb mix _ _ _ _ _ _
theorem segD0323 (Z : State) (a0 : Array Value) (hw : ∀ d ∈ tables_1, d.before a0 Z = true) (n0 : Nat) (p q r b0 b1 b2 : Int64) (ra rb mix : Int32) : WGo (g0 Z (fun k => n0 + k) n0 0 0) (123, (LA p q r b0 b1 b2 ra rb mix [wI 0, wI 3, wI 2, wI 3, wU, wU, wU, wU, wU]), [], (HA p q r b0 b1 b2), 6) (fun v σ' u' => v = some (.int 1) ∧ σ'.length ≤ 16 ∧ u' ≤ 128) := by
  refine WGo.s (WStep.iload a0_123 rfl) ?_
  refine WGo.s (WStep.iload a0_125 rfl) ?_
  refine WGo.s (WStep.isub a0_127) ?_
  show WGo _ (128, (LA p q r b0 b1 b2 ra rb mix [wI 0, wI 3, wI 2, wI 3, wU, wU, wU, wU, wU]), [.int 3], (HA p q r b0 b1 b2), 6) _
  refine WGo.s (WStep.istore (L' := (LA p q r b0 b1 b2 ra rb mix [wI 0, wI 3, wI 2, wI 3, wI 3, wU, wU, wU, wU])) a0_128 rfl) ?_
  refine WGo.s (WStep.iload a0_130 rfl) ?_
  refine WGo.s (WStep.iload a0_132 rfl) ?_
  refine WGo.s (WStep.isub a0_134) ?_
  show WGo _ (135, (LA p q r b0 b1 b2 ra rb mix [wI 0, wI 3, wI 2, wI 3, wI 3, wU, wU, wU, wU]), [.int 1], (HA p q r b0 b1 b2), 6) _
  refine WGo.s (WStep.istore (L' := (LA p q r b0 b1 b2 ra rb mix [wI 0, wI 3, wI 2, wI 3, wI 3, wI 1, wU, wU, wU])) a0_135 rfl) ?_
  refine WGo.s (WStep.iload a0_137 rfl) ?_
  refine WGo.s (WStep.iload a0_139 rfl) ?_
  refine WGo.s (WStep.icmpF a0_141 (by decide)) ?_
  refine WGo.s (WStep.iconst (0 : Int32) a0_144 rfl) ?_
  refine WGo.s (WStep.istore (L' := (LA p q r b0 b1 b2 ra rb mix [wI 0, wI 3, wI 2, wI 3, wI 3, wI 1, wI 0, wU, wU])) a0_145 rfl) ?_
  refine WGo.s (WStep.goto a0_147) ?_
  refine WGo.s (WStep.aload a0_229 rfl rfl) ?_
  refine WGo.s (WStep.iload a0_231 rfl) ?_
  refine WGo.s (WStep.iload a0_233 rfl) ?_
  refine WGo.s (WStep.aload a0_235 rfl rfl) ?_
  refine WGo.s (WStep.iload a0_237 rfl) ?_
  refine WGo.s (WStep.iload a0_239 rfl) ?_
  refine WGo.callS a0_241 (ok3 hw _ _ _ _) (wd hw 10 rfl) (wd hw 11 rfl) (argsL := [.ref 0, .int 0, .int 3, .ref 1, .int 2, .int 3]) (S := []) (c3_0323 hw _ _ p q r b0 b1 b2 _) rfl rfl rfl rfl rfl rfl (Nat.le_of_ble_eq_true rfl) (Nat.le_of_ble_eq_true rfl) ?_
  rintro _ _ _ ⟨⟨rfl, hE⟩ | ⟨rfl, hE⟩, rfl, rfl⟩
  · exfalso
    simp_all
  · skip
    show WGo _ (244, (LA p q r b0 b1 b2 ra rb mix [wI 0, wI 3, wI 2, wI 3, wI 3, wI 1, wI 0, wU, wU]), [.int 0], (HA p q r b0 b1 b2), 6) _
    refine WGo.s (WStep.istore (L' := (LA p q r b0 b1 b2 ra rb mix [wI 0, wI 3, wI 2, wI 3, wI 3, wI 1, wI 0, wI 0, wU])) a0_244 rfl) ?_
    exact segE0 Z a0 hw n0 p q r b0 b1 b2 ra rb mix _ _ _ _ _ _
theorem segD0333 (Z : State) (a0 : Array Value) (hw : ∀ d ∈ tables_1, d.before a0 Z = true) (n0 : Nat) (p q r b0 b1 b2 : Int64) (ra rb mix : Int32) : WGo (g0 Z (fun k => n0 + k) n0 0 0) (123, (LA p q r b0 b1 b2 ra rb mix [wI 0, wI 3, wI 3, wI 3, wU, wU, wU, wU, wU]), [], (HA p q r b0 b1 b2), 6) (fun v σ' u' => v = some (.int 1) ∧ σ'.length ≤ 16 ∧ u' ≤ 128) := by
  refine WGo.s (WStep.iload a0_123 rfl) ?_
  refine WGo.s (WStep.iload a0_125 rfl) ?_
  refine WGo.s (WStep.isub a0_127) ?_
  show WGo _ (128, (LA p q r b0 b1 b2 ra rb mix [wI 0, wI 3, wI 3, wI 3, wU, wU, wU, wU, wU]), [.int 3], (HA p q r b0 b1 b2), 6) _
  refine WGo.s (WStep.istore (L' := (LA p q r b0 b1 b2 ra rb mix [wI 0, wI 3, wI 3, wI 3, wI 3, wU, wU, wU, wU])) a0_128 rfl) ?_
  refine WGo.s (WStep.iload a0_130 rfl) ?_
  refine WGo.s (WStep.iload a0_132 rfl) ?_
  refine WGo.s (WStep.isub a0_134) ?_
  show WGo _ (135, (LA p q r b0 b1 b2 ra rb mix [wI 0, wI 3, wI 3, wI 3, wI 3, wU, wU, wU, wU]), [.int 0], (HA p q r b0 b1 b2), 6) _
  refine WGo.s (WStep.istore (L' := (LA p q r b0 b1 b2 ra rb mix [wI 0, wI 3, wI 3, wI 3, wI 3, wI 0, wU, wU, wU])) a0_135 rfl) ?_
  refine WGo.s (WStep.iload a0_137 rfl) ?_
  refine WGo.s (WStep.iload a0_139 rfl) ?_
  refine WGo.s (WStep.icmpF a0_141 (by decide)) ?_
  refine WGo.s (WStep.iconst (0 : Int32) a0_144 rfl) ?_
  refine WGo.s (WStep.istore (L' := (LA p q r b0 b1 b2 ra rb mix [wI 0, wI 3, wI 3, wI 3, wI 3, wI 0, wI 0, wU, wU])) a0_145 rfl) ?_
  refine WGo.s (WStep.goto a0_147) ?_
  refine WGo.s (WStep.aload a0_229 rfl rfl) ?_
  refine WGo.s (WStep.iload a0_231 rfl) ?_
  refine WGo.s (WStep.iload a0_233 rfl) ?_
  refine WGo.s (WStep.aload a0_235 rfl rfl) ?_
  refine WGo.s (WStep.iload a0_237 rfl) ?_
  refine WGo.s (WStep.iload a0_239 rfl) ?_
  refine WGo.callS a0_241 (ok3 hw _ _ _ _) (wd hw 10 rfl) (wd hw 11 rfl) (argsL := [.ref 0, .int 0, .int 3, .ref 1, .int 3, .int 3]) (S := []) (c3_0333 hw _ _ p q r b0 b1 b2 _) rfl rfl rfl rfl rfl rfl (Nat.le_of_ble_eq_true rfl) (Nat.le_of_ble_eq_true rfl) ?_
  rintro _ _ _ ⟨⟨rfl, hE⟩ | ⟨rfl, hE⟩, rfl, rfl⟩
  · exfalso
    simp_all
  · skip
    show WGo _ (244, (LA p q r b0 b1 b2 ra rb mix [wI 0, wI 3, wI 3, wI 3, wI 3, wI 0, wI 0, wU, wU]), [.int 0], (HA p q r b0 b1 b2), 6) _
    refine WGo.s (WStep.istore (L' := (LA p q r b0 b1 b2 ra rb mix [wI 0, wI 3, wI 3, wI 3, wI 3, wI 0, wI 0, wI 0, wU])) a0_244 rfl) ?_
    exact segE0 Z a0 hw n0 p q r b0 b1 b2 ra rb mix _ _ _ _ _ _
theorem segD1100 (Z : State) (a0 : Array Value) (hw : ∀ d ∈ tables_1, d.before a0 Z = true) (n0 : Nat) (p q r b0 b1 b2 : Int64) (ra rb mix : Int32) : WGo (g0 Z (fun k => n0 + k) n0 0 0) (123, (LA p q r b0 b1 b2 ra rb mix [wI 1, wI 1, wI 0, wI 0, wU, wU, wU, wU, wU]), [], (HA p q r b0 b1 b2), 6) (fun v σ' u' => v = some (.int 1) ∧ σ'.length ≤ 16 ∧ u' ≤ 128) := by
  refine WGo.s (WStep.iload a0_123 rfl) ?_
  refine WGo.s (WStep.iload a0_125 rfl) ?_
  refine WGo.s (WStep.isub a0_127) ?_
  show WGo _ (128, (LA p q r b0 b1 b2 ra rb mix [wI 1, wI 1, wI 0, wI 0, wU, wU, wU, wU, wU]), [.int 0], (HA p q r b0 b1 b2), 6) _
  refine WGo.s (WStep.istore (L' := (LA p q r b0 b1 b2 ra rb mix [wI 1, wI 1, wI 0, wI 0, wI 0, wU, wU, wU, wU])) a0_128 rfl) ?_
  refine WGo.s (WStep.iload a0_130 rfl) ?_
  refine WGo.s (WStep.iload a0_132 rfl) ?_
  refine WGo.s (WStep.isub a0_134) ?_
  show WGo _ (135, (LA p q r b0 b1 b2 ra rb mix [wI 1, wI 1, wI 0, wI 0, wI 0, wU, wU, wU, wU]), [.int 0], (HA p q r b0 b1 b2), 6) _
  refine WGo.s (WStep.istore (L' := (LA p q r b0 b1 b2 ra rb mix [wI 1, wI 1, wI 0, wI 0, wI 0, wI 0, wU, wU, wU])) a0_135 rfl) ?_
  refine WGo.s (WStep.iload a0_137 rfl) ?_
  refine WGo.s (WStep.iload a0_139 rfl) ?_
  refine WGo.s (WStep.icmpT a0_141 (by decide)) ?_
  refine WGo.s (WStep.iconst (1 : Int32) a0_150 rfl) ?_
  refine WGo.s (WStep.istore (L' := (LA p q r b0 b1 b2 ra rb mix [wI 1, wI 1, wI 0, wI 0, wI 0, wI 0, wI 1, wU, wU])) a0_151 rfl) ?_
  refine WGo.s (WStep.iload a0_153 rfl) ?_
  refine WGo.s (WStep.ifT a0_155 (by decide)) ?_
  refine WGo.s (WStep.iload a0_175 rfl) ?_
  refine WGo.s (WStep.iconst (1 : Int32) a0_177 rfl) ?_
  refine WGo.s (WStep.icmpT a0_178 (by decide)) ?_
  refine WGo.s (WStep.iload a0_202 rfl) ?_
  refine WGo.s (WStep.iconst (2 : Int32) a0_204 rfl) ?_
  refine WGo.s (WStep.icmpT a0_205 (by decide)) ?_
  refine WGo.s (WStep.aload a0_229 rfl rfl) ?_
  refine WGo.s (WStep.iload a0_231 rfl) ?_
  refine WGo.s (WStep.iload a0_233 rfl) ?_
  refine WGo.s (WStep.aload a0_235 rfl rfl) ?_
  refine WGo.s (WStep.iload a0_237 rfl) ?_
  refine WGo.s (WStep.iload a0_239 rfl) ?_
  refine WGo.callS a0_241 (ok3 hw _ _ _ _) (wd hw 10 rfl) (wd hw 11 rfl) (argsL := [.ref 0, .int 1, .int 1, .ref 1, .int 0, .int 0]) (S := []) (c3_1100 hw _ _ p q r b0 b1 b2 _) rfl rfl rfl rfl rfl rfl (Nat.le_of_ble_eq_true rfl) (Nat.le_of_ble_eq_true rfl) ?_
  rintro _ _ _ ⟨⟨rfl, hE⟩ | ⟨rfl, hE⟩, rfl, rfl⟩
  · skip
    show WGo _ (244, (LA p q r b0 b1 b2 ra rb mix [wI 1, wI 1, wI 0, wI 0, wI 0, wI 0, wI 1, wU, wU]), [.int 1], (HA p q r b0 b1 b2), 6) _
    refine WGo.s (WStep.istore (L' := (LA p q r b0 b1 b2 ra rb mix [wI 1, wI 1, wI 0, wI 0, wI 0, wI 0, wI 1, wI 1, wU])) a0_244 rfl) ?_
    exact segE1 Z a0 hw n0 p q r b0 b1 b2 ra rb mix _ _ _ _ _ _
  · exfalso
    simp_all
theorem segD1101 (Z : State) (a0 : Array Value) (hw : ∀ d ∈ tables_1, d.before a0 Z = true) (n0 : Nat) (p q r b0 b1 b2 : Int64) (ra rb mix : Int32) : WGo (g0 Z (fun k => n0 + k) n0 0 0) (123, (LA p q r b0 b1 b2 ra rb mix [wI 1, wI 1, wI 0, wI 1, wU, wU, wU, wU, wU]), [], (HA p q r b0 b1 b2), 6) (fun v σ' u' => v = some (.int 1) ∧ σ'.length ≤ 16 ∧ u' ≤ 128) := by
  refine WGo.s (WStep.iload a0_123 rfl) ?_
  refine WGo.s (WStep.iload a0_125 rfl) ?_
  refine WGo.s (WStep.isub a0_127) ?_
  show WGo _ (128, (LA p q r b0 b1 b2 ra rb mix [wI 1, wI 1, wI 0, wI 1, wU, wU, wU, wU, wU]), [.int 0], (HA p q r b0 b1 b2), 6) _
  refine WGo.s (WStep.istore (L' := (LA p q r b0 b1 b2 ra rb mix [wI 1, wI 1, wI 0, wI 1, wI 0, wU, wU, wU, wU])) a0_128 rfl) ?_
  refine WGo.s (WStep.iload a0_130 rfl) ?_
  refine WGo.s (WStep.iload a0_132 rfl) ?_
  refine WGo.s (WStep.isub a0_134) ?_
  show WGo _ (135, (LA p q r b0 b1 b2 ra rb mix [wI 1, wI 1, wI 0, wI 1, wI 0, wU, wU, wU, wU]), [.int 1], (HA p q r b0 b1 b2), 6) _
  refine WGo.s (WStep.istore (L' := (LA p q r b0 b1 b2 ra rb mix [wI 1, wI 1, wI 0, wI 1, wI 0, wI 1, wU, wU, wU])) a0_135 rfl) ?_
  refine WGo.s (WStep.iload a0_137 rfl) ?_
  refine WGo.s (WStep.iload a0_139 rfl) ?_
  refine WGo.s (WStep.icmpF a0_141 (by decide)) ?_
  refine WGo.s (WStep.iconst (0 : Int32) a0_144 rfl) ?_
  refine WGo.s (WStep.istore (L' := (LA p q r b0 b1 b2 ra rb mix [wI 1, wI 1, wI 0, wI 1, wI 0, wI 1, wI 0, wU, wU])) a0_145 rfl) ?_
  refine WGo.s (WStep.goto a0_147) ?_
  refine WGo.s (WStep.aload a0_229 rfl rfl) ?_
  refine WGo.s (WStep.iload a0_231 rfl) ?_
  refine WGo.s (WStep.iload a0_233 rfl) ?_
  refine WGo.s (WStep.aload a0_235 rfl rfl) ?_
  refine WGo.s (WStep.iload a0_237 rfl) ?_
  refine WGo.s (WStep.iload a0_239 rfl) ?_
  refine WGo.callS a0_241 (ok3 hw _ _ _ _) (wd hw 10 rfl) (wd hw 11 rfl) (argsL := [.ref 0, .int 1, .int 1, .ref 1, .int 0, .int 1]) (S := []) (c3_1101 hw _ _ p q r b0 b1 b2 _) rfl rfl rfl rfl rfl rfl (Nat.le_of_ble_eq_true rfl) (Nat.le_of_ble_eq_true rfl) ?_
  rintro _ _ _ ⟨⟨rfl, hE⟩ | ⟨rfl, hE⟩, rfl, rfl⟩
  · exfalso
    simp_all
  · skip
    show WGo _ (244, (LA p q r b0 b1 b2 ra rb mix [wI 1, wI 1, wI 0, wI 1, wI 0, wI 1, wI 0, wU, wU]), [.int 0], (HA p q r b0 b1 b2), 6) _
    refine WGo.s (WStep.istore (L' := (LA p q r b0 b1 b2 ra rb mix [wI 1, wI 1, wI 0, wI 1, wI 0, wI 1, wI 0, wI 0, wU])) a0_244 rfl) ?_
    exact segE0 Z a0 hw n0 p q r b0 b1 b2 ra rb mix _ _ _ _ _ _
theorem segD1102 (Z : State) (a0 : Array Value) (hw : ∀ d ∈ tables_1, d.before a0 Z = true) (n0 : Nat) (p q r b0 b1 b2 : Int64) (ra rb mix : Int32) : WGo (g0 Z (fun k => n0 + k) n0 0 0) (123, (LA p q r b0 b1 b2 ra rb mix [wI 1, wI 1, wI 0, wI 2, wU, wU, wU, wU, wU]), [], (HA p q r b0 b1 b2), 6) (fun v σ' u' => v = some (.int 1) ∧ σ'.length ≤ 16 ∧ u' ≤ 128) := by
  refine WGo.s (WStep.iload a0_123 rfl) ?_
  refine WGo.s (WStep.iload a0_125 rfl) ?_
  refine WGo.s (WStep.isub a0_127) ?_
  show WGo _ (128, (LA p q r b0 b1 b2 ra rb mix [wI 1, wI 1, wI 0, wI 2, wU, wU, wU, wU, wU]), [.int 0], (HA p q r b0 b1 b2), 6) _
  refine WGo.s (WStep.istore (L' := (LA p q r b0 b1 b2 ra rb mix [wI 1, wI 1, wI 0, wI 2, wI 0, wU, wU, wU, wU])) a0_128 rfl) ?_
  refine WGo.s (WStep.iload a0_130 rfl) ?_
  refine WGo.s (WStep.iload a0_132 rfl) ?_
  refine WGo.s (WStep.isub a0_134) ?_
  show WGo _ (135, (LA p q r b0 b1 b2 ra rb mix [wI 1, wI 1, wI 0, wI 2, wI 0, wU, wU, wU, wU]), [.int 2], (HA p q r b0 b1 b2), 6) _
  refine WGo.s (WStep.istore (L' := (LA p q r b0 b1 b2 ra rb mix [wI 1, wI 1, wI 0, wI 2, wI 0, wI 2, wU, wU, wU])) a0_135 rfl) ?_
  refine WGo.s (WStep.iload a0_137 rfl) ?_
  refine WGo.s (WStep.iload a0_139 rfl) ?_
  refine WGo.s (WStep.icmpF a0_141 (by decide)) ?_
  refine WGo.s (WStep.iconst (0 : Int32) a0_144 rfl) ?_
  refine WGo.s (WStep.istore (L' := (LA p q r b0 b1 b2 ra rb mix [wI 1, wI 1, wI 0, wI 2, wI 0, wI 2, wI 0, wU, wU])) a0_145 rfl) ?_
  refine WGo.s (WStep.goto a0_147) ?_
  refine WGo.s (WStep.aload a0_229 rfl rfl) ?_
  refine WGo.s (WStep.iload a0_231 rfl) ?_
  refine WGo.s (WStep.iload a0_233 rfl) ?_
  refine WGo.s (WStep.aload a0_235 rfl rfl) ?_
  refine WGo.s (WStep.iload a0_237 rfl) ?_
  refine WGo.s (WStep.iload a0_239 rfl) ?_
  refine WGo.callS a0_241 (ok3 hw _ _ _ _) (wd hw 10 rfl) (wd hw 11 rfl) (argsL := [.ref 0, .int 1, .int 1, .ref 1, .int 0, .int 2]) (S := []) (c3_1102 hw _ _ p q r b0 b1 b2 _) rfl rfl rfl rfl rfl rfl (Nat.le_of_ble_eq_true rfl) (Nat.le_of_ble_eq_true rfl) ?_
  rintro _ _ _ ⟨⟨rfl, hE⟩ | ⟨rfl, hE⟩, rfl, rfl⟩
  · exfalso
    simp_all
  · skip
    show WGo _ (244, (LA p q r b0 b1 b2 ra rb mix [wI 1, wI 1, wI 0, wI 2, wI 0, wI 2, wI 0, wU, wU]), [.int 0], (HA p q r b0 b1 b2), 6) _
    refine WGo.s (WStep.istore (L' := (LA p q r b0 b1 b2 ra rb mix [wI 1, wI 1, wI 0, wI 2, wI 0, wI 2, wI 0, wI 0, wU])) a0_244 rfl) ?_
    exact segE0 Z a0 hw n0 p q r b0 b1 b2 ra rb mix _ _ _ _ _ _
theorem segD1103 (Z : State) (a0 : Array Value) (hw : ∀ d ∈ tables_1, d.before a0 Z = true) (n0 : Nat) (p q r b0 b1 b2 : Int64) (ra rb mix : Int32) : WGo (g0 Z (fun k => n0 + k) n0 0 0) (123, (LA p q r b0 b1 b2 ra rb mix [wI 1, wI 1, wI 0, wI 3, wU, wU, wU, wU, wU]), [], (HA p q r b0 b1 b2), 6) (fun v σ' u' => v = some (.int 1) ∧ σ'.length ≤ 16 ∧ u' ≤ 128) := by
  refine WGo.s (WStep.iload a0_123 rfl) ?_
  refine WGo.s (WStep.iload a0_125 rfl) ?_
  refine WGo.s (WStep.isub a0_127) ?_
  show WGo _ (128, (LA p q r b0 b1 b2 ra rb mix [wI 1, wI 1, wI 0, wI 3, wU, wU, wU, wU, wU]), [.int 0], (HA p q r b0 b1 b2), 6) _
  refine WGo.s (WStep.istore (L' := (LA p q r b0 b1 b2 ra rb mix [wI 1, wI 1, wI 0, wI 3, wI 0, wU, wU, wU, wU])) a0_128 rfl) ?_
  refine WGo.s (WStep.iload a0_130 rfl) ?_
  refine WGo.s (WStep.iload a0_132 rfl) ?_
  refine WGo.s (WStep.isub a0_134) ?_
  show WGo _ (135, (LA p q r b0 b1 b2 ra rb mix [wI 1, wI 1, wI 0, wI 3, wI 0, wU, wU, wU, wU]), [.int 3], (HA p q r b0 b1 b2), 6) _
  refine WGo.s (WStep.istore (L' := (LA p q r b0 b1 b2 ra rb mix [wI 1, wI 1, wI 0, wI 3, wI 0, wI 3, wU, wU, wU])) a0_135 rfl) ?_
  refine WGo.s (WStep.iload a0_137 rfl) ?_
  refine WGo.s (WStep.iload a0_139 rfl) ?_
  refine WGo.s (WStep.icmpF a0_141 (by decide)) ?_
  refine WGo.s (WStep.iconst (0 : Int32) a0_144 rfl) ?_
  refine WGo.s (WStep.istore (L' := (LA p q r b0 b1 b2 ra rb mix [wI 1, wI 1, wI 0, wI 3, wI 0, wI 3, wI 0, wU, wU])) a0_145 rfl) ?_
  refine WGo.s (WStep.goto a0_147) ?_
  refine WGo.s (WStep.aload a0_229 rfl rfl) ?_
  refine WGo.s (WStep.iload a0_231 rfl) ?_
  refine WGo.s (WStep.iload a0_233 rfl) ?_
  refine WGo.s (WStep.aload a0_235 rfl rfl) ?_
  refine WGo.s (WStep.iload a0_237 rfl) ?_
  refine WGo.s (WStep.iload a0_239 rfl) ?_
  refine WGo.callS a0_241 (ok3 hw _ _ _ _) (wd hw 10 rfl) (wd hw 11 rfl) (argsL := [.ref 0, .int 1, .int 1, .ref 1, .int 0, .int 3]) (S := []) (c3_1103 hw _ _ p q r b0 b1 b2 _) rfl rfl rfl rfl rfl rfl (Nat.le_of_ble_eq_true rfl) (Nat.le_of_ble_eq_true rfl) ?_
  rintro _ _ _ ⟨⟨rfl, hE⟩ | ⟨rfl, hE⟩, rfl, rfl⟩
  · exfalso
    simp_all
  · skip
    show WGo _ (244, (LA p q r b0 b1 b2 ra rb mix [wI 1, wI 1, wI 0, wI 3, wI 0, wI 3, wI 0, wU, wU]), [.int 0], (HA p q r b0 b1 b2), 6) _
    refine WGo.s (WStep.istore (L' := (LA p q r b0 b1 b2 ra rb mix [wI 1, wI 1, wI 0, wI 3, wI 0, wI 3, wI 0, wI 0, wU])) a0_244 rfl) ?_
    exact segE0 Z a0 hw n0 p q r b0 b1 b2 ra rb mix _ _ _ _ _ _
theorem segD1111 (Z : State) (a0 : Array Value) (hw : ∀ d ∈ tables_1, d.before a0 Z = true) (n0 : Nat) (p q r b0 b1 b2 : Int64) (ra rb mix : Int32) : WGo (g0 Z (fun k => n0 + k) n0 0 0) (123, (LA p q r b0 b1 b2 ra rb mix [wI 1, wI 1, wI 1, wI 1, wU, wU, wU, wU, wU]), [], (HA p q r b0 b1 b2), 6) (fun v σ' u' => v = some (.int 1) ∧ σ'.length ≤ 16 ∧ u' ≤ 128) := by
  refine WGo.s (WStep.iload a0_123 rfl) ?_
  refine WGo.s (WStep.iload a0_125 rfl) ?_
  refine WGo.s (WStep.isub a0_127) ?_
  show WGo _ (128, (LA p q r b0 b1 b2 ra rb mix [wI 1, wI 1, wI 1, wI 1, wU, wU, wU, wU, wU]), [.int 0], (HA p q r b0 b1 b2), 6) _
  refine WGo.s (WStep.istore (L' := (LA p q r b0 b1 b2 ra rb mix [wI 1, wI 1, wI 1, wI 1, wI 0, wU, wU, wU, wU])) a0_128 rfl) ?_
  refine WGo.s (WStep.iload a0_130 rfl) ?_
  refine WGo.s (WStep.iload a0_132 rfl) ?_
  refine WGo.s (WStep.isub a0_134) ?_
  show WGo _ (135, (LA p q r b0 b1 b2 ra rb mix [wI 1, wI 1, wI 1, wI 1, wI 0, wU, wU, wU, wU]), [.int 0], (HA p q r b0 b1 b2), 6) _
  refine WGo.s (WStep.istore (L' := (LA p q r b0 b1 b2 ra rb mix [wI 1, wI 1, wI 1, wI 1, wI 0, wI 0, wU, wU, wU])) a0_135 rfl) ?_
  refine WGo.s (WStep.iload a0_137 rfl) ?_
  refine WGo.s (WStep.iload a0_139 rfl) ?_
  refine WGo.s (WStep.icmpT a0_141 (by decide)) ?_
  refine WGo.s (WStep.iconst (1 : Int32) a0_150 rfl) ?_
  refine WGo.s (WStep.istore (L' := (LA p q r b0 b1 b2 ra rb mix [wI 1, wI 1, wI 1, wI 1, wI 0, wI 0, wI 1, wU, wU])) a0_151 rfl) ?_
  refine WGo.s (WStep.iload a0_153 rfl) ?_
  refine WGo.s (WStep.ifT a0_155 (by decide)) ?_
  refine WGo.s (WStep.iload a0_175 rfl) ?_
  refine WGo.s (WStep.iconst (1 : Int32) a0_177 rfl) ?_
  refine WGo.s (WStep.icmpT a0_178 (by decide)) ?_
  refine WGo.s (WStep.iload a0_202 rfl) ?_
  refine WGo.s (WStep.iconst (2 : Int32) a0_204 rfl) ?_
  refine WGo.s (WStep.icmpT a0_205 (by decide)) ?_
  refine WGo.s (WStep.aload a0_229 rfl rfl) ?_
  refine WGo.s (WStep.iload a0_231 rfl) ?_
  refine WGo.s (WStep.iload a0_233 rfl) ?_
  refine WGo.s (WStep.aload a0_235 rfl rfl) ?_
  refine WGo.s (WStep.iload a0_237 rfl) ?_
  refine WGo.s (WStep.iload a0_239 rfl) ?_
  refine WGo.callS a0_241 (ok3 hw _ _ _ _) (wd hw 10 rfl) (wd hw 11 rfl) (argsL := [.ref 0, .int 1, .int 1, .ref 1, .int 1, .int 1]) (S := []) (c3_1111 hw _ _ p q r b0 b1 b2 _) rfl rfl rfl rfl rfl rfl (Nat.le_of_ble_eq_true rfl) (Nat.le_of_ble_eq_true rfl) ?_
  rintro _ _ _ ⟨⟨rfl, hE⟩ | ⟨rfl, hE⟩, rfl, rfl⟩
  · skip
    show WGo _ (244, (LA p q r b0 b1 b2 ra rb mix [wI 1, wI 1, wI 1, wI 1, wI 0, wI 0, wI 1, wU, wU]), [.int 1], (HA p q r b0 b1 b2), 6) _
    refine WGo.s (WStep.istore (L' := (LA p q r b0 b1 b2 ra rb mix [wI 1, wI 1, wI 1, wI 1, wI 0, wI 0, wI 1, wI 1, wU])) a0_244 rfl) ?_
    exact segE1 Z a0 hw n0 p q r b0 b1 b2 ra rb mix _ _ _ _ _ _
  · exfalso
    simp_all
theorem segD1112 (Z : State) (a0 : Array Value) (hw : ∀ d ∈ tables_1, d.before a0 Z = true) (n0 : Nat) (p q r b0 b1 b2 : Int64) (ra rb mix : Int32) : WGo (g0 Z (fun k => n0 + k) n0 0 0) (123, (LA p q r b0 b1 b2 ra rb mix [wI 1, wI 1, wI 1, wI 2, wU, wU, wU, wU, wU]), [], (HA p q r b0 b1 b2), 6) (fun v σ' u' => v = some (.int 1) ∧ σ'.length ≤ 16 ∧ u' ≤ 128) := by
  refine WGo.s (WStep.iload a0_123 rfl) ?_
  refine WGo.s (WStep.iload a0_125 rfl) ?_
  refine WGo.s (WStep.isub a0_127) ?_
  show WGo _ (128, (LA p q r b0 b1 b2 ra rb mix [wI 1, wI 1, wI 1, wI 2, wU, wU, wU, wU, wU]), [.int 0], (HA p q r b0 b1 b2), 6) _
  refine WGo.s (WStep.istore (L' := (LA p q r b0 b1 b2 ra rb mix [wI 1, wI 1, wI 1, wI 2, wI 0, wU, wU, wU, wU])) a0_128 rfl) ?_
  refine WGo.s (WStep.iload a0_130 rfl) ?_
  refine WGo.s (WStep.iload a0_132 rfl) ?_
  refine WGo.s (WStep.isub a0_134) ?_
  show WGo _ (135, (LA p q r b0 b1 b2 ra rb mix [wI 1, wI 1, wI 1, wI 2, wI 0, wU, wU, wU, wU]), [.int 1], (HA p q r b0 b1 b2), 6) _
  refine WGo.s (WStep.istore (L' := (LA p q r b0 b1 b2 ra rb mix [wI 1, wI 1, wI 1, wI 2, wI 0, wI 1, wU, wU, wU])) a0_135 rfl) ?_
  refine WGo.s (WStep.iload a0_137 rfl) ?_
  refine WGo.s (WStep.iload a0_139 rfl) ?_
  refine WGo.s (WStep.icmpF a0_141 (by decide)) ?_
  refine WGo.s (WStep.iconst (0 : Int32) a0_144 rfl) ?_
  refine WGo.s (WStep.istore (L' := (LA p q r b0 b1 b2 ra rb mix [wI 1, wI 1, wI 1, wI 2, wI 0, wI 1, wI 0, wU, wU])) a0_145 rfl) ?_
  refine WGo.s (WStep.goto a0_147) ?_
  refine WGo.s (WStep.aload a0_229 rfl rfl) ?_
  refine WGo.s (WStep.iload a0_231 rfl) ?_
  refine WGo.s (WStep.iload a0_233 rfl) ?_
  refine WGo.s (WStep.aload a0_235 rfl rfl) ?_
  refine WGo.s (WStep.iload a0_237 rfl) ?_
  refine WGo.s (WStep.iload a0_239 rfl) ?_
  refine WGo.callS a0_241 (ok3 hw _ _ _ _) (wd hw 10 rfl) (wd hw 11 rfl) (argsL := [.ref 0, .int 1, .int 1, .ref 1, .int 1, .int 2]) (S := []) (c3_1112 hw _ _ p q r b0 b1 b2 _) rfl rfl rfl rfl rfl rfl (Nat.le_of_ble_eq_true rfl) (Nat.le_of_ble_eq_true rfl) ?_
  rintro _ _ _ ⟨⟨rfl, hE⟩ | ⟨rfl, hE⟩, rfl, rfl⟩
  · exfalso
    simp_all
  · skip
    show WGo _ (244, (LA p q r b0 b1 b2 ra rb mix [wI 1, wI 1, wI 1, wI 2, wI 0, wI 1, wI 0, wU, wU]), [.int 0], (HA p q r b0 b1 b2), 6) _
    refine WGo.s (WStep.istore (L' := (LA p q r b0 b1 b2 ra rb mix [wI 1, wI 1, wI 1, wI 2, wI 0, wI 1, wI 0, wI 0, wU])) a0_244 rfl) ?_
    exact segE0 Z a0 hw n0 p q r b0 b1 b2 ra rb mix _ _ _ _ _ _
theorem segD1113 (Z : State) (a0 : Array Value) (hw : ∀ d ∈ tables_1, d.before a0 Z = true) (n0 : Nat) (p q r b0 b1 b2 : Int64) (ra rb mix : Int32) : WGo (g0 Z (fun k => n0 + k) n0 0 0) (123, (LA p q r b0 b1 b2 ra rb mix [wI 1, wI 1, wI 1, wI 3, wU, wU, wU, wU, wU]), [], (HA p q r b0 b1 b2), 6) (fun v σ' u' => v = some (.int 1) ∧ σ'.length ≤ 16 ∧ u' ≤ 128) := by
  refine WGo.s (WStep.iload a0_123 rfl) ?_
  refine WGo.s (WStep.iload a0_125 rfl) ?_
  refine WGo.s (WStep.isub a0_127) ?_
  show WGo _ (128, (LA p q r b0 b1 b2 ra rb mix [wI 1, wI 1, wI 1, wI 3, wU, wU, wU, wU, wU]), [.int 0], (HA p q r b0 b1 b2), 6) _
  refine WGo.s (WStep.istore (L' := (LA p q r b0 b1 b2 ra rb mix [wI 1, wI 1, wI 1, wI 3, wI 0, wU, wU, wU, wU])) a0_128 rfl) ?_
  refine WGo.s (WStep.iload a0_130 rfl) ?_
  refine WGo.s (WStep.iload a0_132 rfl) ?_
  refine WGo.s (WStep.isub a0_134) ?_
  show WGo _ (135, (LA p q r b0 b1 b2 ra rb mix [wI 1, wI 1, wI 1, wI 3, wI 0, wU, wU, wU, wU]), [.int 2], (HA p q r b0 b1 b2), 6) _
  refine WGo.s (WStep.istore (L' := (LA p q r b0 b1 b2 ra rb mix [wI 1, wI 1, wI 1, wI 3, wI 0, wI 2, wU, wU, wU])) a0_135 rfl) ?_
  refine WGo.s (WStep.iload a0_137 rfl) ?_
  refine WGo.s (WStep.iload a0_139 rfl) ?_
  refine WGo.s (WStep.icmpF a0_141 (by decide)) ?_
  refine WGo.s (WStep.iconst (0 : Int32) a0_144 rfl) ?_
  refine WGo.s (WStep.istore (L' := (LA p q r b0 b1 b2 ra rb mix [wI 1, wI 1, wI 1, wI 3, wI 0, wI 2, wI 0, wU, wU])) a0_145 rfl) ?_
  refine WGo.s (WStep.goto a0_147) ?_
  refine WGo.s (WStep.aload a0_229 rfl rfl) ?_
  refine WGo.s (WStep.iload a0_231 rfl) ?_
  refine WGo.s (WStep.iload a0_233 rfl) ?_
  refine WGo.s (WStep.aload a0_235 rfl rfl) ?_
  refine WGo.s (WStep.iload a0_237 rfl) ?_
  refine WGo.s (WStep.iload a0_239 rfl) ?_
  refine WGo.callS a0_241 (ok3 hw _ _ _ _) (wd hw 10 rfl) (wd hw 11 rfl) (argsL := [.ref 0, .int 1, .int 1, .ref 1, .int 1, .int 3]) (S := []) (c3_1113 hw _ _ p q r b0 b1 b2 _) rfl rfl rfl rfl rfl rfl (Nat.le_of_ble_eq_true rfl) (Nat.le_of_ble_eq_true rfl) ?_
  rintro _ _ _ ⟨⟨rfl, hE⟩ | ⟨rfl, hE⟩, rfl, rfl⟩
  · exfalso
    simp_all
  · skip
    show WGo _ (244, (LA p q r b0 b1 b2 ra rb mix [wI 1, wI 1, wI 1, wI 3, wI 0, wI 2, wI 0, wU, wU]), [.int 0], (HA p q r b0 b1 b2), 6) _
    refine WGo.s (WStep.istore (L' := (LA p q r b0 b1 b2 ra rb mix [wI 1, wI 1, wI 1, wI 3, wI 0, wI 2, wI 0, wI 0, wU])) a0_244 rfl) ?_
    exact segE0 Z a0 hw n0 p q r b0 b1 b2 ra rb mix _ _ _ _ _ _
theorem segD1122 (Z : State) (a0 : Array Value) (hw : ∀ d ∈ tables_1, d.before a0 Z = true) (n0 : Nat) (p q r b0 b1 b2 : Int64) (ra rb mix : Int32) : WGo (g0 Z (fun k => n0 + k) n0 0 0) (123, (LA p q r b0 b1 b2 ra rb mix [wI 1, wI 1, wI 2, wI 2, wU, wU, wU, wU, wU]), [], (HA p q r b0 b1 b2), 6) (fun v σ' u' => v = some (.int 1) ∧ σ'.length ≤ 16 ∧ u' ≤ 128) := by
  refine WGo.s (WStep.iload a0_123 rfl) ?_
  refine WGo.s (WStep.iload a0_125 rfl) ?_
  refine WGo.s (WStep.isub a0_127) ?_
  show WGo _ (128, (LA p q r b0 b1 b2 ra rb mix [wI 1, wI 1, wI 2, wI 2, wU, wU, wU, wU, wU]), [.int 0], (HA p q r b0 b1 b2), 6) _
  refine WGo.s (WStep.istore (L' := (LA p q r b0 b1 b2 ra rb mix [wI 1, wI 1, wI 2, wI 2, wI 0, wU, wU, wU, wU])) a0_128 rfl) ?_
  refine WGo.s (WStep.iload a0_130 rfl) ?_
  refine WGo.s (WStep.iload a0_132 rfl) ?_
  refine WGo.s (WStep.isub a0_134) ?_
  show WGo _ (135, (LA p q r b0 b1 b2 ra rb mix [wI 1, wI 1, wI 2, wI 2, wI 0, wU, wU, wU, wU]), [.int 0], (HA p q r b0 b1 b2), 6) _
  refine WGo.s (WStep.istore (L' := (LA p q r b0 b1 b2 ra rb mix [wI 1, wI 1, wI 2, wI 2, wI 0, wI 0, wU, wU, wU])) a0_135 rfl) ?_
  refine WGo.s (WStep.iload a0_137 rfl) ?_
  refine WGo.s (WStep.iload a0_139 rfl) ?_
  refine WGo.s (WStep.icmpT a0_141 (by decide)) ?_
  refine WGo.s (WStep.iconst (1 : Int32) a0_150 rfl) ?_
  refine WGo.s (WStep.istore (L' := (LA p q r b0 b1 b2 ra rb mix [wI 1, wI 1, wI 2, wI 2, wI 0, wI 0, wI 1, wU, wU])) a0_151 rfl) ?_
  refine WGo.s (WStep.iload a0_153 rfl) ?_
  refine WGo.s (WStep.ifT a0_155 (by decide)) ?_
  refine WGo.s (WStep.iload a0_175 rfl) ?_
  refine WGo.s (WStep.iconst (1 : Int32) a0_177 rfl) ?_
  refine WGo.s (WStep.icmpT a0_178 (by decide)) ?_
  refine WGo.s (WStep.iload a0_202 rfl) ?_
  refine WGo.s (WStep.iconst (2 : Int32) a0_204 rfl) ?_
  refine WGo.s (WStep.icmpT a0_205 (by decide)) ?_
  refine WGo.s (WStep.aload a0_229 rfl rfl) ?_
  refine WGo.s (WStep.iload a0_231 rfl) ?_
  refine WGo.s (WStep.iload a0_233 rfl) ?_
  refine WGo.s (WStep.aload a0_235 rfl rfl) ?_
  refine WGo.s (WStep.iload a0_237 rfl) ?_
  refine WGo.s (WStep.iload a0_239 rfl) ?_
  refine WGo.callS a0_241 (ok3 hw _ _ _ _) (wd hw 10 rfl) (wd hw 11 rfl) (argsL := [.ref 0, .int 1, .int 1, .ref 1, .int 2, .int 2]) (S := []) (c3_1122 hw _ _ p q r b0 b1 b2 _) rfl rfl rfl rfl rfl rfl (Nat.le_of_ble_eq_true rfl) (Nat.le_of_ble_eq_true rfl) ?_
  rintro _ _ _ ⟨⟨rfl, hE⟩ | ⟨rfl, hE⟩, rfl, rfl⟩
  · skip
    show WGo _ (244, (LA p q r b0 b1 b2 ra rb mix [wI 1, wI 1, wI 2, wI 2, wI 0, wI 0, wI 1, wU, wU]), [.int 1], (HA p q r b0 b1 b2), 6) _
    refine WGo.s (WStep.istore (L' := (LA p q r b0 b1 b2 ra rb mix [wI 1, wI 1, wI 2, wI 2, wI 0, wI 0, wI 1, wI 1, wU])) a0_244 rfl) ?_
    exact segE1 Z a0 hw n0 p q r b0 b1 b2 ra rb mix _ _ _ _ _ _
  · exfalso
    simp_all
theorem segD1123 (Z : State) (a0 : Array Value) (hw : ∀ d ∈ tables_1, d.before a0 Z = true) (n0 : Nat) (p q r b0 b1 b2 : Int64) (ra rb mix : Int32) : WGo (g0 Z (fun k => n0 + k) n0 0 0) (123, (LA p q r b0 b1 b2 ra rb mix [wI 1, wI 1, wI 2, wI 3, wU, wU, wU, wU, wU]), [], (HA p q r b0 b1 b2), 6) (fun v σ' u' => v = some (.int 1) ∧ σ'.length ≤ 16 ∧ u' ≤ 128) := by
  refine WGo.s (WStep.iload a0_123 rfl) ?_
  refine WGo.s (WStep.iload a0_125 rfl) ?_
  refine WGo.s (WStep.isub a0_127) ?_
  show WGo _ (128, (LA p q r b0 b1 b2 ra rb mix [wI 1, wI 1, wI 2, wI 3, wU, wU, wU, wU, wU]), [.int 0], (HA p q r b0 b1 b2), 6) _
  refine WGo.s (WStep.istore (L' := (LA p q r b0 b1 b2 ra rb mix [wI 1, wI 1, wI 2, wI 3, wI 0, wU, wU, wU, wU])) a0_128 rfl) ?_
  refine WGo.s (WStep.iload a0_130 rfl) ?_
  refine WGo.s (WStep.iload a0_132 rfl) ?_
  refine WGo.s (WStep.isub a0_134) ?_
  show WGo _ (135, (LA p q r b0 b1 b2 ra rb mix [wI 1, wI 1, wI 2, wI 3, wI 0, wU, wU, wU, wU]), [.int 1], (HA p q r b0 b1 b2), 6) _
  refine WGo.s (WStep.istore (L' := (LA p q r b0 b1 b2 ra rb mix [wI 1, wI 1, wI 2, wI 3, wI 0, wI 1, wU, wU, wU])) a0_135 rfl) ?_
  refine WGo.s (WStep.iload a0_137 rfl) ?_
  refine WGo.s (WStep.iload a0_139 rfl) ?_
  refine WGo.s (WStep.icmpF a0_141 (by decide)) ?_
  refine WGo.s (WStep.iconst (0 : Int32) a0_144 rfl) ?_
  refine WGo.s (WStep.istore (L' := (LA p q r b0 b1 b2 ra rb mix [wI 1, wI 1, wI 2, wI 3, wI 0, wI 1, wI 0, wU, wU])) a0_145 rfl) ?_
  refine WGo.s (WStep.goto a0_147) ?_
  refine WGo.s (WStep.aload a0_229 rfl rfl) ?_
  refine WGo.s (WStep.iload a0_231 rfl) ?_
  refine WGo.s (WStep.iload a0_233 rfl) ?_
  refine WGo.s (WStep.aload a0_235 rfl rfl) ?_
  refine WGo.s (WStep.iload a0_237 rfl) ?_
  refine WGo.s (WStep.iload a0_239 rfl) ?_
  refine WGo.callS a0_241 (ok3 hw _ _ _ _) (wd hw 10 rfl) (wd hw 11 rfl) (argsL := [.ref 0, .int 1, .int 1, .ref 1, .int 2, .int 3]) (S := []) (c3_1123 hw _ _ p q r b0 b1 b2 _) rfl rfl rfl rfl rfl rfl (Nat.le_of_ble_eq_true rfl) (Nat.le_of_ble_eq_true rfl) ?_
  rintro _ _ _ ⟨⟨rfl, hE⟩ | ⟨rfl, hE⟩, rfl, rfl⟩
  · exfalso
    simp_all
  · skip
    show WGo _ (244, (LA p q r b0 b1 b2 ra rb mix [wI 1, wI 1, wI 2, wI 3, wI 0, wI 1, wI 0, wU, wU]), [.int 0], (HA p q r b0 b1 b2), 6) _
    refine WGo.s (WStep.istore (L' := (LA p q r b0 b1 b2 ra rb mix [wI 1, wI 1, wI 2, wI 3, wI 0, wI 1, wI 0, wI 0, wU])) a0_244 rfl) ?_
    exact segE0 Z a0 hw n0 p q r b0 b1 b2 ra rb mix _ _ _ _ _ _
theorem segD1133 (Z : State) (a0 : Array Value) (hw : ∀ d ∈ tables_1, d.before a0 Z = true) (n0 : Nat) (p q r b0 b1 b2 : Int64) (ra rb mix : Int32) : WGo (g0 Z (fun k => n0 + k) n0 0 0) (123, (LA p q r b0 b1 b2 ra rb mix [wI 1, wI 1, wI 3, wI 3, wU, wU, wU, wU, wU]), [], (HA p q r b0 b1 b2), 6) (fun v σ' u' => v = some (.int 1) ∧ σ'.length ≤ 16 ∧ u' ≤ 128) := by
  refine WGo.s (WStep.iload a0_123 rfl) ?_
  refine WGo.s (WStep.iload a0_125 rfl) ?_
  refine WGo.s (WStep.isub a0_127) ?_
  show WGo _ (128, (LA p q r b0 b1 b2 ra rb mix [wI 1, wI 1, wI 3, wI 3, wU, wU, wU, wU, wU]), [.int 0], (HA p q r b0 b1 b2), 6) _
  refine WGo.s (WStep.istore (L' := (LA p q r b0 b1 b2 ra rb mix [wI 1, wI 1, wI 3, wI 3, wI 0, wU, wU, wU, wU])) a0_128 rfl) ?_
  refine WGo.s (WStep.iload a0_130 rfl) ?_
  refine WGo.s (WStep.iload a0_132 rfl) ?_
  refine WGo.s (WStep.isub a0_134) ?_
  show WGo _ (135, (LA p q r b0 b1 b2 ra rb mix [wI 1, wI 1, wI 3, wI 3, wI 0, wU, wU, wU, wU]), [.int 0], (HA p q r b0 b1 b2), 6) _
  refine WGo.s (WStep.istore (L' := (LA p q r b0 b1 b2 ra rb mix [wI 1, wI 1, wI 3, wI 3, wI 0, wI 0, wU, wU, wU])) a0_135 rfl) ?_
  refine WGo.s (WStep.iload a0_137 rfl) ?_
  refine WGo.s (WStep.iload a0_139 rfl) ?_
  refine WGo.s (WStep.icmpT a0_141 (by decide)) ?_
  refine WGo.s (WStep.iconst (1 : Int32) a0_150 rfl) ?_
  refine WGo.s (WStep.istore (L' := (LA p q r b0 b1 b2 ra rb mix [wI 1, wI 1, wI 3, wI 3, wI 0, wI 0, wI 1, wU, wU])) a0_151 rfl) ?_
  refine WGo.s (WStep.iload a0_153 rfl) ?_
  refine WGo.s (WStep.ifT a0_155 (by decide)) ?_
  refine WGo.s (WStep.iload a0_175 rfl) ?_
  refine WGo.s (WStep.iconst (1 : Int32) a0_177 rfl) ?_
  refine WGo.s (WStep.icmpT a0_178 (by decide)) ?_
  refine WGo.s (WStep.iload a0_202 rfl) ?_
  refine WGo.s (WStep.iconst (2 : Int32) a0_204 rfl) ?_
  refine WGo.s (WStep.icmpT a0_205 (by decide)) ?_
  refine WGo.s (WStep.aload a0_229 rfl rfl) ?_
  refine WGo.s (WStep.iload a0_231 rfl) ?_
  refine WGo.s (WStep.iload a0_233 rfl) ?_
  refine WGo.s (WStep.aload a0_235 rfl rfl) ?_
  refine WGo.s (WStep.iload a0_237 rfl) ?_
  refine WGo.s (WStep.iload a0_239 rfl) ?_
  refine WGo.callS a0_241 (ok3 hw _ _ _ _) (wd hw 10 rfl) (wd hw 11 rfl) (argsL := [.ref 0, .int 1, .int 1, .ref 1, .int 3, .int 3]) (S := []) (c3_1133 hw _ _ p q r b0 b1 b2 _) rfl rfl rfl rfl rfl rfl (Nat.le_of_ble_eq_true rfl) (Nat.le_of_ble_eq_true rfl) ?_
  rintro _ _ _ ⟨⟨rfl, hE⟩ | ⟨rfl, hE⟩, rfl, rfl⟩
  · skip
    show WGo _ (244, (LA p q r b0 b1 b2 ra rb mix [wI 1, wI 1, wI 3, wI 3, wI 0, wI 0, wI 1, wU, wU]), [.int 1], (HA p q r b0 b1 b2), 6) _
    refine WGo.s (WStep.istore (L' := (LA p q r b0 b1 b2 ra rb mix [wI 1, wI 1, wI 3, wI 3, wI 0, wI 0, wI 1, wI 1, wU])) a0_244 rfl) ?_
    exact segE1 Z a0 hw n0 p q r b0 b1 b2 ra rb mix _ _ _ _ _ _
  · exfalso
    simp_all
theorem segD1200 (Z : State) (a0 : Array Value) (hw : ∀ d ∈ tables_1, d.before a0 Z = true) (n0 : Nat) (p q r b0 b1 b2 : Int64) (ra rb mix : Int32) : WGo (g0 Z (fun k => n0 + k) n0 0 0) (123, (LA p q r b0 b1 b2 ra rb mix [wI 1, wI 2, wI 0, wI 0, wU, wU, wU, wU, wU]), [], (HA p q r b0 b1 b2), 6) (fun v σ' u' => v = some (.int 1) ∧ σ'.length ≤ 16 ∧ u' ≤ 128) := by
  refine WGo.s (WStep.iload a0_123 rfl) ?_
  refine WGo.s (WStep.iload a0_125 rfl) ?_
  refine WGo.s (WStep.isub a0_127) ?_
  show WGo _ (128, (LA p q r b0 b1 b2 ra rb mix [wI 1, wI 2, wI 0, wI 0, wU, wU, wU, wU, wU]), [.int 1], (HA p q r b0 b1 b2), 6) _
  refine WGo.s (WStep.istore (L' := (LA p q r b0 b1 b2 ra rb mix [wI 1, wI 2, wI 0, wI 0, wI 1, wU, wU, wU, wU])) a0_128 rfl) ?_
  refine WGo.s (WStep.iload a0_130 rfl) ?_
  refine WGo.s (WStep.iload a0_132 rfl) ?_
  refine WGo.s (WStep.isub a0_134) ?_
  show WGo _ (135, (LA p q r b0 b1 b2 ra rb mix [wI 1, wI 2, wI 0, wI 0, wI 1, wU, wU, wU, wU]), [.int 0], (HA p q r b0 b1 b2), 6) _
  refine WGo.s (WStep.istore (L' := (LA p q r b0 b1 b2 ra rb mix [wI 1, wI 2, wI 0, wI 0, wI 1, wI 0, wU, wU, wU])) a0_135 rfl) ?_
  refine WGo.s (WStep.iload a0_137 rfl) ?_
  refine WGo.s (WStep.iload a0_139 rfl) ?_
  refine WGo.s (WStep.icmpF a0_141 (by decide)) ?_
  refine WGo.s (WStep.iconst (0 : Int32) a0_144 rfl) ?_
  refine WGo.s (WStep.istore (L' := (LA p q r b0 b1 b2 ra rb mix [wI 1, wI 2, wI 0, wI 0, wI 1, wI 0, wI 0, wU, wU])) a0_145 rfl) ?_
  refine WGo.s (WStep.goto a0_147) ?_
  refine WGo.s (WStep.aload a0_229 rfl rfl) ?_
  refine WGo.s (WStep.iload a0_231 rfl) ?_
  refine WGo.s (WStep.iload a0_233 rfl) ?_
  refine WGo.s (WStep.aload a0_235 rfl rfl) ?_
  refine WGo.s (WStep.iload a0_237 rfl) ?_
  refine WGo.s (WStep.iload a0_239 rfl) ?_
  refine WGo.callS a0_241 (ok3 hw _ _ _ _) (wd hw 10 rfl) (wd hw 11 rfl) (argsL := [.ref 0, .int 1, .int 2, .ref 1, .int 0, .int 0]) (S := []) (c3_1200 hw _ _ p q r b0 b1 b2 _) rfl rfl rfl rfl rfl rfl (Nat.le_of_ble_eq_true rfl) (Nat.le_of_ble_eq_true rfl) ?_
  rintro _ _ _ ⟨⟨rfl, hE⟩ | ⟨rfl, hE⟩, rfl, rfl⟩
  · exfalso
    simp_all
  · skip
    show WGo _ (244, (LA p q r b0 b1 b2 ra rb mix [wI 1, wI 2, wI 0, wI 0, wI 1, wI 0, wI 0, wU, wU]), [.int 0], (HA p q r b0 b1 b2), 6) _
    refine WGo.s (WStep.istore (L' := (LA p q r b0 b1 b2 ra rb mix [wI 1, wI 2, wI 0, wI 0, wI 1, wI 0, wI 0, wI 0, wU])) a0_244 rfl) ?_
    exact segE0 Z a0 hw n0 p q r b0 b1 b2 ra rb mix _ _ _ _ _ _
theorem segD1201 (Z : State) (a0 : Array Value) (hw : ∀ d ∈ tables_1, d.before a0 Z = true) (n0 : Nat) (p q r b0 b1 b2 : Int64) (ra rb mix : Int32) : WGo (g0 Z (fun k => n0 + k) n0 0 0) (123, (LA p q r b0 b1 b2 ra rb mix [wI 1, wI 2, wI 0, wI 1, wU, wU, wU, wU, wU]), [], (HA p q r b0 b1 b2), 6) (fun v σ' u' => v = some (.int 1) ∧ σ'.length ≤ 16 ∧ u' ≤ 128) := by
  refine WGo.s (WStep.iload a0_123 rfl) ?_
  refine WGo.s (WStep.iload a0_125 rfl) ?_
  refine WGo.s (WStep.isub a0_127) ?_
  show WGo _ (128, (LA p q r b0 b1 b2 ra rb mix [wI 1, wI 2, wI 0, wI 1, wU, wU, wU, wU, wU]), [.int 1], (HA p q r b0 b1 b2), 6) _
  refine WGo.s (WStep.istore (L' := (LA p q r b0 b1 b2 ra rb mix [wI 1, wI 2, wI 0, wI 1, wI 1, wU, wU, wU, wU])) a0_128 rfl) ?_
  refine WGo.s (WStep.iload a0_130 rfl) ?_
  refine WGo.s (WStep.iload a0_132 rfl) ?_
  refine WGo.s (WStep.isub a0_134) ?_
  show WGo _ (135, (LA p q r b0 b1 b2 ra rb mix [wI 1, wI 2, wI 0, wI 1, wI 1, wU, wU, wU, wU]), [.int 1], (HA p q r b0 b1 b2), 6) _
  refine WGo.s (WStep.istore (L' := (LA p q r b0 b1 b2 ra rb mix [wI 1, wI 2, wI 0, wI 1, wI 1, wI 1, wU, wU, wU])) a0_135 rfl) ?_
  refine WGo.s (WStep.iload a0_137 rfl) ?_
  refine WGo.s (WStep.iload a0_139 rfl) ?_
  refine WGo.s (WStep.icmpT a0_141 (by decide)) ?_
  refine WGo.s (WStep.iconst (1 : Int32) a0_150 rfl) ?_
  refine WGo.s (WStep.istore (L' := (LA p q r b0 b1 b2 ra rb mix [wI 1, wI 2, wI 0, wI 1, wI 1, wI 1, wI 1, wU, wU])) a0_151 rfl) ?_
  refine WGo.s (WStep.iload a0_153 rfl) ?_
  refine WGo.s (WStep.ifF a0_155 (by decide)) ?_
  refine WGo.s (WStep.aload a0_158 rfl rfl) ?_
  refine WGo.s (WStep.iload a0_160 rfl) ?_
  refine WGo.s (WStep.laload 1 a0_162 rfl (by decide) rfl rfl) ?_
  refine WGo.s (WStep.aload a0_163 rfl rfl) ?_
  refine WGo.s (WStep.iload a0_165 rfl) ?_
  refine WGo.s (WStep.laload 0 a0_167 rfl (by decide) rfl rfl) ?_
  refine WGo.s (WStep.lcmp a0_168) ?_
  refine WGo.eqL a0_169 (fun h169 => ?_) (fun h169 => ?_)
  · refine WGo.s (WStep.iload a0_175 rfl) ?_
    refine WGo.s (WStep.iconst (1 : Int32) a0_177 rfl) ?_
    refine WGo.s (WStep.icmpT a0_178 (by decide)) ?_
    refine WGo.s (WStep.iload a0_202 rfl) ?_
    refine WGo.s (WStep.iconst (2 : Int32) a0_204 rfl) ?_
    refine WGo.s (WStep.icmpT a0_205 (by decide)) ?_
    refine WGo.s (WStep.aload a0_229 rfl rfl) ?_
    refine WGo.s (WStep.iload a0_231 rfl) ?_
    refine WGo.s (WStep.iload a0_233 rfl) ?_
    refine WGo.s (WStep.aload a0_235 rfl rfl) ?_
    refine WGo.s (WStep.iload a0_237 rfl) ?_
    refine WGo.s (WStep.iload a0_239 rfl) ?_
    refine WGo.callS a0_241 (ok3 hw _ _ _ _) (wd hw 10 rfl) (wd hw 11 rfl) (argsL := [.ref 0, .int 1, .int 2, .ref 1, .int 0, .int 1]) (S := []) (c3_1201 hw _ _ p q r b0 b1 b2 _) rfl rfl rfl rfl rfl rfl (Nat.le_of_ble_eq_true rfl) (Nat.le_of_ble_eq_true rfl) ?_
    rintro _ _ _ ⟨⟨rfl, hE⟩ | ⟨rfl, hE⟩, rfl, rfl⟩
    · skip
      show WGo _ (244, (LA p q r b0 b1 b2 ra rb mix [wI 1, wI 2, wI 0, wI 1, wI 1, wI 1, wI 1, wU, wU]), [.int 1], (HA p q r b0 b1 b2), 6) _
      refine WGo.s (WStep.istore (L' := (LA p q r b0 b1 b2 ra rb mix [wI 1, wI 2, wI 0, wI 1, wI 1, wI 1, wI 1, wI 1, wU])) a0_244 rfl) ?_
      exact segE1 Z a0 hw n0 p q r b0 b1 b2 ra rb mix _ _ _ _ _ _
    · exfalso
      simp_all
  · refine WGo.s (WStep.iconst (0 : Int32) a0_172 rfl) ?_
    refine WGo.s (WStep.istore (L' := (LA p q r b0 b1 b2 ra rb mix [wI 1, wI 2, wI 0, wI 1, wI 1, wI 1, wI 0, wU, wU])) a0_173 rfl) ?_
    refine WGo.s (WStep.iload a0_175 rfl) ?_
    refine WGo.s (WStep.iconst (1 : Int32) a0_177 rfl) ?_
    refine WGo.s (WStep.icmpT a0_178 (by decide)) ?_
    refine WGo.s (WStep.iload a0_202 rfl) ?_
    refine WGo.s (WStep.iconst (2 : Int32) a0_204 rfl) ?_
    refine WGo.s (WStep.icmpT a0_205 (by decide)) ?_
    refine WGo.s (WStep.aload a0_229 rfl rfl) ?_
    refine WGo.s (WStep.iload a0_231 rfl) ?_
    refine WGo.s (WStep.iload a0_233 rfl) ?_
    refine WGo.s (WStep.aload a0_235 rfl rfl) ?_
    refine WGo.s (WStep.iload a0_237 rfl) ?_
    refine WGo.s (WStep.iload a0_239 rfl) ?_
    refine WGo.callS a0_241 (ok3 hw _ _ _ _) (wd hw 10 rfl) (wd hw 11 rfl) (argsL := [.ref 0, .int 1, .int 2, .ref 1, .int 0, .int 1]) (S := []) (c3_1201 hw _ _ p q r b0 b1 b2 _) rfl rfl rfl rfl rfl rfl (Nat.le_of_ble_eq_true rfl) (Nat.le_of_ble_eq_true rfl) ?_
    rintro _ _ _ ⟨⟨rfl, hE⟩ | ⟨rfl, hE⟩, rfl, rfl⟩
    · exfalso
      simp_all
    · skip
      show WGo _ (244, (LA p q r b0 b1 b2 ra rb mix [wI 1, wI 2, wI 0, wI 1, wI 1, wI 1, wI 0, wU, wU]), [.int 0], (HA p q r b0 b1 b2), 6) _
      refine WGo.s (WStep.istore (L' := (LA p q r b0 b1 b2 ra rb mix [wI 1, wI 2, wI 0, wI 1, wI 1, wI 1, wI 0, wI 0, wU])) a0_244 rfl) ?_
      exact segE0 Z a0 hw n0 p q r b0 b1 b2 ra rb mix _ _ _ _ _ _
theorem segD1202 (Z : State) (a0 : Array Value) (hw : ∀ d ∈ tables_1, d.before a0 Z = true) (n0 : Nat) (p q r b0 b1 b2 : Int64) (ra rb mix : Int32) : WGo (g0 Z (fun k => n0 + k) n0 0 0) (123, (LA p q r b0 b1 b2 ra rb mix [wI 1, wI 2, wI 0, wI 2, wU, wU, wU, wU, wU]), [], (HA p q r b0 b1 b2), 6) (fun v σ' u' => v = some (.int 1) ∧ σ'.length ≤ 16 ∧ u' ≤ 128) := by
  refine WGo.s (WStep.iload a0_123 rfl) ?_
  refine WGo.s (WStep.iload a0_125 rfl) ?_
  refine WGo.s (WStep.isub a0_127) ?_
  show WGo _ (128, (LA p q r b0 b1 b2 ra rb mix [wI 1, wI 2, wI 0, wI 2, wU, wU, wU, wU, wU]), [.int 1], (HA p q r b0 b1 b2), 6) _
  refine WGo.s (WStep.istore (L' := (LA p q r b0 b1 b2 ra rb mix [wI 1, wI 2, wI 0, wI 2, wI 1, wU, wU, wU, wU])) a0_128 rfl) ?_
  refine WGo.s (WStep.iload a0_130 rfl) ?_
  refine WGo.s (WStep.iload a0_132 rfl) ?_
  refine WGo.s (WStep.isub a0_134) ?_
  show WGo _ (135, (LA p q r b0 b1 b2 ra rb mix [wI 1, wI 2, wI 0, wI 2, wI 1, wU, wU, wU, wU]), [.int 2], (HA p q r b0 b1 b2), 6) _
  refine WGo.s (WStep.istore (L' := (LA p q r b0 b1 b2 ra rb mix [wI 1, wI 2, wI 0, wI 2, wI 1, wI 2, wU, wU, wU])) a0_135 rfl) ?_
  refine WGo.s (WStep.iload a0_137 rfl) ?_
  refine WGo.s (WStep.iload a0_139 rfl) ?_
  refine WGo.s (WStep.icmpF a0_141 (by decide)) ?_
  refine WGo.s (WStep.iconst (0 : Int32) a0_144 rfl) ?_
  refine WGo.s (WStep.istore (L' := (LA p q r b0 b1 b2 ra rb mix [wI 1, wI 2, wI 0, wI 2, wI 1, wI 2, wI 0, wU, wU])) a0_145 rfl) ?_
  refine WGo.s (WStep.goto a0_147) ?_
  refine WGo.s (WStep.aload a0_229 rfl rfl) ?_
  refine WGo.s (WStep.iload a0_231 rfl) ?_
  refine WGo.s (WStep.iload a0_233 rfl) ?_
  refine WGo.s (WStep.aload a0_235 rfl rfl) ?_
  refine WGo.s (WStep.iload a0_237 rfl) ?_
  refine WGo.s (WStep.iload a0_239 rfl) ?_
  refine WGo.callS a0_241 (ok3 hw _ _ _ _) (wd hw 10 rfl) (wd hw 11 rfl) (argsL := [.ref 0, .int 1, .int 2, .ref 1, .int 0, .int 2]) (S := []) (c3_1202 hw _ _ p q r b0 b1 b2 _) rfl rfl rfl rfl rfl rfl (Nat.le_of_ble_eq_true rfl) (Nat.le_of_ble_eq_true rfl) ?_
  rintro _ _ _ ⟨⟨rfl, hE⟩ | ⟨rfl, hE⟩, rfl, rfl⟩
  · exfalso
    simp_all
  · skip
    show WGo _ (244, (LA p q r b0 b1 b2 ra rb mix [wI 1, wI 2, wI 0, wI 2, wI 1, wI 2, wI 0, wU, wU]), [.int 0], (HA p q r b0 b1 b2), 6) _
    refine WGo.s (WStep.istore (L' := (LA p q r b0 b1 b2 ra rb mix [wI 1, wI 2, wI 0, wI 2, wI 1, wI 2, wI 0, wI 0, wU])) a0_244 rfl) ?_
    exact segE0 Z a0 hw n0 p q r b0 b1 b2 ra rb mix _ _ _ _ _ _
theorem segD1203 (Z : State) (a0 : Array Value) (hw : ∀ d ∈ tables_1, d.before a0 Z = true) (n0 : Nat) (p q r b0 b1 b2 : Int64) (ra rb mix : Int32) : WGo (g0 Z (fun k => n0 + k) n0 0 0) (123, (LA p q r b0 b1 b2 ra rb mix [wI 1, wI 2, wI 0, wI 3, wU, wU, wU, wU, wU]), [], (HA p q r b0 b1 b2), 6) (fun v σ' u' => v = some (.int 1) ∧ σ'.length ≤ 16 ∧ u' ≤ 128) := by
  refine WGo.s (WStep.iload a0_123 rfl) ?_
  refine WGo.s (WStep.iload a0_125 rfl) ?_
  refine WGo.s (WStep.isub a0_127) ?_
  show WGo _ (128, (LA p q r b0 b1 b2 ra rb mix [wI 1, wI 2, wI 0, wI 3, wU, wU, wU, wU, wU]), [.int 1], (HA p q r b0 b1 b2), 6) _
  refine WGo.s (WStep.istore (L' := (LA p q r b0 b1 b2 ra rb mix [wI 1, wI 2, wI 0, wI 3, wI 1, wU, wU, wU, wU])) a0_128 rfl) ?_
  refine WGo.s (WStep.iload a0_130 rfl) ?_
  refine WGo.s (WStep.iload a0_132 rfl) ?_
  refine WGo.s (WStep.isub a0_134) ?_
  show WGo _ (135, (LA p q r b0 b1 b2 ra rb mix [wI 1, wI 2, wI 0, wI 3, wI 1, wU, wU, wU, wU]), [.int 3], (HA p q r b0 b1 b2), 6) _
  refine WGo.s (WStep.istore (L' := (LA p q r b0 b1 b2 ra rb mix [wI 1, wI 2, wI 0, wI 3, wI 1, wI 3, wU, wU, wU])) a0_135 rfl) ?_
  refine WGo.s (WStep.iload a0_137 rfl) ?_
  refine WGo.s (WStep.iload a0_139 rfl) ?_
  refine WGo.s (WStep.icmpF a0_141 (by decide)) ?_
  refine WGo.s (WStep.iconst (0 : Int32) a0_144 rfl) ?_
  refine WGo.s (WStep.istore (L' := (LA p q r b0 b1 b2 ra rb mix [wI 1, wI 2, wI 0, wI 3, wI 1, wI 3, wI 0, wU, wU])) a0_145 rfl) ?_
  refine WGo.s (WStep.goto a0_147) ?_
  refine WGo.s (WStep.aload a0_229 rfl rfl) ?_
  refine WGo.s (WStep.iload a0_231 rfl) ?_
  refine WGo.s (WStep.iload a0_233 rfl) ?_
  refine WGo.s (WStep.aload a0_235 rfl rfl) ?_
  refine WGo.s (WStep.iload a0_237 rfl) ?_
  refine WGo.s (WStep.iload a0_239 rfl) ?_
  refine WGo.callS a0_241 (ok3 hw _ _ _ _) (wd hw 10 rfl) (wd hw 11 rfl) (argsL := [.ref 0, .int 1, .int 2, .ref 1, .int 0, .int 3]) (S := []) (c3_1203 hw _ _ p q r b0 b1 b2 _) rfl rfl rfl rfl rfl rfl (Nat.le_of_ble_eq_true rfl) (Nat.le_of_ble_eq_true rfl) ?_
  rintro _ _ _ ⟨⟨rfl, hE⟩ | ⟨rfl, hE⟩, rfl, rfl⟩
  · exfalso
    simp_all
  · skip
    show WGo _ (244, (LA p q r b0 b1 b2 ra rb mix [wI 1, wI 2, wI 0, wI 3, wI 1, wI 3, wI 0, wU, wU]), [.int 0], (HA p q r b0 b1 b2), 6) _
    refine WGo.s (WStep.istore (L' := (LA p q r b0 b1 b2 ra rb mix [wI 1, wI 2, wI 0, wI 3, wI 1, wI 3, wI 0, wI 0, wU])) a0_244 rfl) ?_
    exact segE0 Z a0 hw n0 p q r b0 b1 b2 ra rb mix _ _ _ _ _ _
theorem segD1211 (Z : State) (a0 : Array Value) (hw : ∀ d ∈ tables_1, d.before a0 Z = true) (n0 : Nat) (p q r b0 b1 b2 : Int64) (ra rb mix : Int32) : WGo (g0 Z (fun k => n0 + k) n0 0 0) (123, (LA p q r b0 b1 b2 ra rb mix [wI 1, wI 2, wI 1, wI 1, wU, wU, wU, wU, wU]), [], (HA p q r b0 b1 b2), 6) (fun v σ' u' => v = some (.int 1) ∧ σ'.length ≤ 16 ∧ u' ≤ 128) := by
  refine WGo.s (WStep.iload a0_123 rfl) ?_
  refine WGo.s (WStep.iload a0_125 rfl) ?_
  refine WGo.s (WStep.isub a0_127) ?_
  show WGo _ (128, (LA p q r b0 b1 b2 ra rb mix [wI 1, wI 2, wI 1, wI 1, wU, wU, wU, wU, wU]), [.int 1], (HA p q r b0 b1 b2), 6) _
  refine WGo.s (WStep.istore (L' := (LA p q r b0 b1 b2 ra rb mix [wI 1, wI 2, wI 1, wI 1, wI 1, wU, wU, wU, wU])) a0_128 rfl) ?_
  refine WGo.s (WStep.iload a0_130 rfl) ?_
  refine WGo.s (WStep.iload a0_132 rfl) ?_
  refine WGo.s (WStep.isub a0_134) ?_
  show WGo _ (135, (LA p q r b0 b1 b2 ra rb mix [wI 1, wI 2, wI 1, wI 1, wI 1, wU, wU, wU, wU]), [.int 0], (HA p q r b0 b1 b2), 6) _
  refine WGo.s (WStep.istore (L' := (LA p q r b0 b1 b2 ra rb mix [wI 1, wI 2, wI 1, wI 1, wI 1, wI 0, wU, wU, wU])) a0_135 rfl) ?_
  refine WGo.s (WStep.iload a0_137 rfl) ?_
  refine WGo.s (WStep.iload a0_139 rfl) ?_
  refine WGo.s (WStep.icmpF a0_141 (by decide)) ?_
  refine WGo.s (WStep.iconst (0 : Int32) a0_144 rfl) ?_
  refine WGo.s (WStep.istore (L' := (LA p q r b0 b1 b2 ra rb mix [wI 1, wI 2, wI 1, wI 1, wI 1, wI 0, wI 0, wU, wU])) a0_145 rfl) ?_
  refine WGo.s (WStep.goto a0_147) ?_
  refine WGo.s (WStep.aload a0_229 rfl rfl) ?_
  refine WGo.s (WStep.iload a0_231 rfl) ?_
  refine WGo.s (WStep.iload a0_233 rfl) ?_
  refine WGo.s (WStep.aload a0_235 rfl rfl) ?_
  refine WGo.s (WStep.iload a0_237 rfl) ?_
  refine WGo.s (WStep.iload a0_239 rfl) ?_
  refine WGo.callS a0_241 (ok3 hw _ _ _ _) (wd hw 10 rfl) (wd hw 11 rfl) (argsL := [.ref 0, .int 1, .int 2, .ref 1, .int 1, .int 1]) (S := []) (c3_1211 hw _ _ p q r b0 b1 b2 _) rfl rfl rfl rfl rfl rfl (Nat.le_of_ble_eq_true rfl) (Nat.le_of_ble_eq_true rfl) ?_
  rintro _ _ _ ⟨⟨rfl, hE⟩ | ⟨rfl, hE⟩, rfl, rfl⟩
  · exfalso
    simp_all
  · skip
    show WGo _ (244, (LA p q r b0 b1 b2 ra rb mix [wI 1, wI 2, wI 1, wI 1, wI 1, wI 0, wI 0, wU, wU]), [.int 0], (HA p q r b0 b1 b2), 6) _
    refine WGo.s (WStep.istore (L' := (LA p q r b0 b1 b2 ra rb mix [wI 1, wI 2, wI 1, wI 1, wI 1, wI 0, wI 0, wI 0, wU])) a0_244 rfl) ?_
    exact segE0 Z a0 hw n0 p q r b0 b1 b2 ra rb mix _ _ _ _ _ _
theorem segD1212 (Z : State) (a0 : Array Value) (hw : ∀ d ∈ tables_1, d.before a0 Z = true) (n0 : Nat) (p q r b0 b1 b2 : Int64) (ra rb mix : Int32) : WGo (g0 Z (fun k => n0 + k) n0 0 0) (123, (LA p q r b0 b1 b2 ra rb mix [wI 1, wI 2, wI 1, wI 2, wU, wU, wU, wU, wU]), [], (HA p q r b0 b1 b2), 6) (fun v σ' u' => v = some (.int 1) ∧ σ'.length ≤ 16 ∧ u' ≤ 128) := by
  refine WGo.s (WStep.iload a0_123 rfl) ?_
  refine WGo.s (WStep.iload a0_125 rfl) ?_
  refine WGo.s (WStep.isub a0_127) ?_
  show WGo _ (128, (LA p q r b0 b1 b2 ra rb mix [wI 1, wI 2, wI 1, wI 2, wU, wU, wU, wU, wU]), [.int 1], (HA p q r b0 b1 b2), 6) _
  refine WGo.s (WStep.istore (L' := (LA p q r b0 b1 b2 ra rb mix [wI 1, wI 2, wI 1, wI 2, wI 1, wU, wU, wU, wU])) a0_128 rfl) ?_
  refine WGo.s (WStep.iload a0_130 rfl) ?_
  refine WGo.s (WStep.iload a0_132 rfl) ?_
  refine WGo.s (WStep.isub a0_134) ?_
  show WGo _ (135, (LA p q r b0 b1 b2 ra rb mix [wI 1, wI 2, wI 1, wI 2, wI 1, wU, wU, wU, wU]), [.int 1], (HA p q r b0 b1 b2), 6) _
  refine WGo.s (WStep.istore (L' := (LA p q r b0 b1 b2 ra rb mix [wI 1, wI 2, wI 1, wI 2, wI 1, wI 1, wU, wU, wU])) a0_135 rfl) ?_
  refine WGo.s (WStep.iload a0_137 rfl) ?_
  refine WGo.s (WStep.iload a0_139 rfl) ?_
  refine WGo.s (WStep.icmpT a0_141 (by decide)) ?_
  refine WGo.s (WStep.iconst (1 : Int32) a0_150 rfl) ?_
  refine WGo.s (WStep.istore (L' := (LA p q r b0 b1 b2 ra rb mix [wI 1, wI 2, wI 1, wI 2, wI 1, wI 1, wI 1, wU, wU])) a0_151 rfl) ?_
  refine WGo.s (WStep.iload a0_153 rfl) ?_
  refine WGo.s (WStep.ifF a0_155 (by decide)) ?_
  refine WGo.s (WStep.aload a0_158 rfl rfl) ?_
  refine WGo.s (WStep.iload a0_160 rfl) ?_
  refine WGo.s (WStep.laload 1 a0_162 rfl (by decide) rfl rfl) ?_
  refine WGo.s (WStep.aload a0_163 rfl rfl) ?_
  refine WGo.s (WStep.iload a0_165 rfl) ?_
  refine WGo.s (WStep.laload 1 a0_167 rfl (by decide) rfl rfl) ?_
  refine WGo.s (WStep.lcmp a0_168) ?_
  refine WGo.eqL a0_169 (fun h169 => ?_) (fun h169 => ?_)
  · refine WGo.s (WStep.iload a0_175 rfl) ?_
    refine WGo.s (WStep.iconst (1 : Int32) a0_177 rfl) ?_
    refine WGo.s (WStep.icmpT a0_178 (by decide)) ?_
    refine WGo.s (WStep.iload a0_202 rfl) ?_
    refine WGo.s (WStep.iconst (2 : Int32) a0_204 rfl) ?_
    refine WGo.s (WStep.icmpT a0_205 (by decide)) ?_
    refine WGo.s (WStep.aload a0_229 rfl rfl) ?_
    refine WGo.s (WStep.iload a0_231 rfl) ?_
    refine WGo.s (WStep.iload a0_233 rfl) ?_
    refine WGo.s (WStep.aload a0_235 rfl rfl) ?_
    refine WGo.s (WStep.iload a0_237 rfl) ?_
    refine WGo.s (WStep.iload a0_239 rfl) ?_
    refine WGo.callS a0_241 (ok3 hw _ _ _ _) (wd hw 10 rfl) (wd hw 11 rfl) (argsL := [.ref 0, .int 1, .int 2, .ref 1, .int 1, .int 2]) (S := []) (c3_1212 hw _ _ p q r b0 b1 b2 _) rfl rfl rfl rfl rfl rfl (Nat.le_of_ble_eq_true rfl) (Nat.le_of_ble_eq_true rfl) ?_
    rintro _ _ _ ⟨⟨rfl, hE⟩ | ⟨rfl, hE⟩, rfl, rfl⟩
    · skip
      show WGo _ (244, (LA p q r b0 b1 b2 ra rb mix [wI 1, wI 2, wI 1, wI 2, wI 1, wI 1, wI 1, wU, wU]), [.int 1], (HA p q r b0 b1 b2), 6) _
      refine WGo.s (WStep.istore (L' := (LA p q r b0 b1 b2 ra rb mix [wI 1, wI 2, wI 1, wI 2, wI 1, wI 1, wI 1, wI 1, wU])) a0_244 rfl) ?_
      exact segE1 Z a0 hw n0 p q r b0 b1 b2 ra rb mix _ _ _ _ _ _
    · exfalso
      simp_all
  · refine WGo.s (WStep.iconst (0 : Int32) a0_172 rfl) ?_
    refine WGo.s (WStep.istore (L' := (LA p q r b0 b1 b2 ra rb mix [wI 1, wI 2, wI 1, wI 2, wI 1, wI 1, wI 0, wU, wU])) a0_173 rfl) ?_
    refine WGo.s (WStep.iload a0_175 rfl) ?_
    refine WGo.s (WStep.iconst (1 : Int32) a0_177 rfl) ?_
    refine WGo.s (WStep.icmpT a0_178 (by decide)) ?_
    refine WGo.s (WStep.iload a0_202 rfl) ?_
    refine WGo.s (WStep.iconst (2 : Int32) a0_204 rfl) ?_
    refine WGo.s (WStep.icmpT a0_205 (by decide)) ?_
    refine WGo.s (WStep.aload a0_229 rfl rfl) ?_
    refine WGo.s (WStep.iload a0_231 rfl) ?_
    refine WGo.s (WStep.iload a0_233 rfl) ?_
    refine WGo.s (WStep.aload a0_235 rfl rfl) ?_
    refine WGo.s (WStep.iload a0_237 rfl) ?_
    refine WGo.s (WStep.iload a0_239 rfl) ?_
    refine WGo.callS a0_241 (ok3 hw _ _ _ _) (wd hw 10 rfl) (wd hw 11 rfl) (argsL := [.ref 0, .int 1, .int 2, .ref 1, .int 1, .int 2]) (S := []) (c3_1212 hw _ _ p q r b0 b1 b2 _) rfl rfl rfl rfl rfl rfl (Nat.le_of_ble_eq_true rfl) (Nat.le_of_ble_eq_true rfl) ?_
    rintro _ _ _ ⟨⟨rfl, hE⟩ | ⟨rfl, hE⟩, rfl, rfl⟩
    · exfalso
      simp_all
    · skip
      show WGo _ (244, (LA p q r b0 b1 b2 ra rb mix [wI 1, wI 2, wI 1, wI 2, wI 1, wI 1, wI 0, wU, wU]), [.int 0], (HA p q r b0 b1 b2), 6) _
      refine WGo.s (WStep.istore (L' := (LA p q r b0 b1 b2 ra rb mix [wI 1, wI 2, wI 1, wI 2, wI 1, wI 1, wI 0, wI 0, wU])) a0_244 rfl) ?_
      exact segE0 Z a0 hw n0 p q r b0 b1 b2 ra rb mix _ _ _ _ _ _
theorem segD1213 (Z : State) (a0 : Array Value) (hw : ∀ d ∈ tables_1, d.before a0 Z = true) (n0 : Nat) (p q r b0 b1 b2 : Int64) (ra rb mix : Int32) : WGo (g0 Z (fun k => n0 + k) n0 0 0) (123, (LA p q r b0 b1 b2 ra rb mix [wI 1, wI 2, wI 1, wI 3, wU, wU, wU, wU, wU]), [], (HA p q r b0 b1 b2), 6) (fun v σ' u' => v = some (.int 1) ∧ σ'.length ≤ 16 ∧ u' ≤ 128) := by
  refine WGo.s (WStep.iload a0_123 rfl) ?_
  refine WGo.s (WStep.iload a0_125 rfl) ?_
  refine WGo.s (WStep.isub a0_127) ?_
  show WGo _ (128, (LA p q r b0 b1 b2 ra rb mix [wI 1, wI 2, wI 1, wI 3, wU, wU, wU, wU, wU]), [.int 1], (HA p q r b0 b1 b2), 6) _
  refine WGo.s (WStep.istore (L' := (LA p q r b0 b1 b2 ra rb mix [wI 1, wI 2, wI 1, wI 3, wI 1, wU, wU, wU, wU])) a0_128 rfl) ?_
  refine WGo.s (WStep.iload a0_130 rfl) ?_
  refine WGo.s (WStep.iload a0_132 rfl) ?_
  refine WGo.s (WStep.isub a0_134) ?_
  show WGo _ (135, (LA p q r b0 b1 b2 ra rb mix [wI 1, wI 2, wI 1, wI 3, wI 1, wU, wU, wU, wU]), [.int 2], (HA p q r b0 b1 b2), 6) _
  refine WGo.s (WStep.istore (L' := (LA p q r b0 b1 b2 ra rb mix [wI 1, wI 2, wI 1, wI 3, wI 1, wI 2, wU, wU, wU])) a0_135 rfl) ?_
  refine WGo.s (WStep.iload a0_137 rfl) ?_
  refine WGo.s (WStep.iload a0_139 rfl) ?_
  refine WGo.s (WStep.icmpF a0_141 (by decide)) ?_
  refine WGo.s (WStep.iconst (0 : Int32) a0_144 rfl) ?_
  refine WGo.s (WStep.istore (L' := (LA p q r b0 b1 b2 ra rb mix [wI 1, wI 2, wI 1, wI 3, wI 1, wI 2, wI 0, wU, wU])) a0_145 rfl) ?_
  refine WGo.s (WStep.goto a0_147) ?_
  refine WGo.s (WStep.aload a0_229 rfl rfl) ?_
  refine WGo.s (WStep.iload a0_231 rfl) ?_
  refine WGo.s (WStep.iload a0_233 rfl) ?_
  refine WGo.s (WStep.aload a0_235 rfl rfl) ?_
  refine WGo.s (WStep.iload a0_237 rfl) ?_
  refine WGo.s (WStep.iload a0_239 rfl) ?_
  refine WGo.callS a0_241 (ok3 hw _ _ _ _) (wd hw 10 rfl) (wd hw 11 rfl) (argsL := [.ref 0, .int 1, .int 2, .ref 1, .int 1, .int 3]) (S := []) (c3_1213 hw _ _ p q r b0 b1 b2 _) rfl rfl rfl rfl rfl rfl (Nat.le_of_ble_eq_true rfl) (Nat.le_of_ble_eq_true rfl) ?_
  rintro _ _ _ ⟨⟨rfl, hE⟩ | ⟨rfl, hE⟩, rfl, rfl⟩
  · exfalso
    simp_all
  · skip
    show WGo _ (244, (LA p q r b0 b1 b2 ra rb mix [wI 1, wI 2, wI 1, wI 3, wI 1, wI 2, wI 0, wU, wU]), [.int 0], (HA p q r b0 b1 b2), 6) _
    refine WGo.s (WStep.istore (L' := (LA p q r b0 b1 b2 ra rb mix [wI 1, wI 2, wI 1, wI 3, wI 1, wI 2, wI 0, wI 0, wU])) a0_244 rfl) ?_
    exact segE0 Z a0 hw n0 p q r b0 b1 b2 ra rb mix _ _ _ _ _ _
theorem segD1222 (Z : State) (a0 : Array Value) (hw : ∀ d ∈ tables_1, d.before a0 Z = true) (n0 : Nat) (p q r b0 b1 b2 : Int64) (ra rb mix : Int32) : WGo (g0 Z (fun k => n0 + k) n0 0 0) (123, (LA p q r b0 b1 b2 ra rb mix [wI 1, wI 2, wI 2, wI 2, wU, wU, wU, wU, wU]), [], (HA p q r b0 b1 b2), 6) (fun v σ' u' => v = some (.int 1) ∧ σ'.length ≤ 16 ∧ u' ≤ 128) := by
  refine WGo.s (WStep.iload a0_123 rfl) ?_
  refine WGo.s (WStep.iload a0_125 rfl) ?_
  refine WGo.s (WStep.isub a0_127) ?_
  show WGo _ (128, (LA p q r b0 b1 b2 ra rb mix [wI 1, wI 2, wI 2, wI 2, wU, wU, wU, wU, wU]), [.int 1], (HA p q r b0 b1 b2), 6) _
  refine WGo.s (WStep.istore (L' := (LA p q r b0 b1 b2 ra rb mix [wI 1, wI 2, wI 2, wI 2, wI 1, wU, wU, wU, wU])) a0_128 rfl) ?_
  refine WGo.s (WStep.iload a0_130 rfl) ?_
  refine WGo.s (WStep.iload a0_132 rfl) ?_
  refine WGo.s (WStep.isub a0_134) ?_
  show WGo _ (135, (LA p q r b0 b1 b2 ra rb mix [wI 1, wI 2, wI 2, wI 2, wI 1, wU, wU, wU, wU]), [.int 0], (HA p q r b0 b1 b2), 6) _
  refine WGo.s (WStep.istore (L' := (LA p q r b0 b1 b2 ra rb mix [wI 1, wI 2, wI 2, wI 2, wI 1, wI 0, wU, wU, wU])) a0_135 rfl) ?_
  refine WGo.s (WStep.iload a0_137 rfl) ?_
  refine WGo.s (WStep.iload a0_139 rfl) ?_
  refine WGo.s (WStep.icmpF a0_141 (by decide)) ?_
  refine WGo.s (WStep.iconst (0 : Int32) a0_144 rfl) ?_
  refine WGo.s (WStep.istore (L' := (LA p q r b0 b1 b2 ra rb mix [wI 1, wI 2, wI 2, wI 2, wI 1, wI 0, wI 0, wU, wU])) a0_145 rfl) ?_
  refine WGo.s (WStep.goto a0_147) ?_
  refine WGo.s (WStep.aload a0_229 rfl rfl) ?_
  refine WGo.s (WStep.iload a0_231 rfl) ?_
  refine WGo.s (WStep.iload a0_233 rfl) ?_
  refine WGo.s (WStep.aload a0_235 rfl rfl) ?_
  refine WGo.s (WStep.iload a0_237 rfl) ?_
  refine WGo.s (WStep.iload a0_239 rfl) ?_
  refine WGo.callS a0_241 (ok3 hw _ _ _ _) (wd hw 10 rfl) (wd hw 11 rfl) (argsL := [.ref 0, .int 1, .int 2, .ref 1, .int 2, .int 2]) (S := []) (c3_1222 hw _ _ p q r b0 b1 b2 _) rfl rfl rfl rfl rfl rfl (Nat.le_of_ble_eq_true rfl) (Nat.le_of_ble_eq_true rfl) ?_
  rintro _ _ _ ⟨⟨rfl, hE⟩ | ⟨rfl, hE⟩, rfl, rfl⟩
  · exfalso
    simp_all
  · skip
    show WGo _ (244, (LA p q r b0 b1 b2 ra rb mix [wI 1, wI 2, wI 2, wI 2, wI 1, wI 0, wI 0, wU, wU]), [.int 0], (HA p q r b0 b1 b2), 6) _
    refine WGo.s (WStep.istore (L' := (LA p q r b0 b1 b2 ra rb mix [wI 1, wI 2, wI 2, wI 2, wI 1, wI 0, wI 0, wI 0, wU])) a0_244 rfl) ?_
    exact segE0 Z a0 hw n0 p q r b0 b1 b2 ra rb mix _ _ _ _ _ _
theorem segD1223 (Z : State) (a0 : Array Value) (hw : ∀ d ∈ tables_1, d.before a0 Z = true) (n0 : Nat) (p q r b0 b1 b2 : Int64) (ra rb mix : Int32) : WGo (g0 Z (fun k => n0 + k) n0 0 0) (123, (LA p q r b0 b1 b2 ra rb mix [wI 1, wI 2, wI 2, wI 3, wU, wU, wU, wU, wU]), [], (HA p q r b0 b1 b2), 6) (fun v σ' u' => v = some (.int 1) ∧ σ'.length ≤ 16 ∧ u' ≤ 128) := by
  refine WGo.s (WStep.iload a0_123 rfl) ?_
  refine WGo.s (WStep.iload a0_125 rfl) ?_
  refine WGo.s (WStep.isub a0_127) ?_
  show WGo _ (128, (LA p q r b0 b1 b2 ra rb mix [wI 1, wI 2, wI 2, wI 3, wU, wU, wU, wU, wU]), [.int 1], (HA p q r b0 b1 b2), 6) _
  refine WGo.s (WStep.istore (L' := (LA p q r b0 b1 b2 ra rb mix [wI 1, wI 2, wI 2, wI 3, wI 1, wU, wU, wU, wU])) a0_128 rfl) ?_
  refine WGo.s (WStep.iload a0_130 rfl) ?_
  refine WGo.s (WStep.iload a0_132 rfl) ?_
  refine WGo.s (WStep.isub a0_134) ?_
  show WGo _ (135, (LA p q r b0 b1 b2 ra rb mix [wI 1, wI 2, wI 2, wI 3, wI 1, wU, wU, wU, wU]), [.int 1], (HA p q r b0 b1 b2), 6) _
  refine WGo.s (WStep.istore (L' := (LA p q r b0 b1 b2 ra rb mix [wI 1, wI 2, wI 2, wI 3, wI 1, wI 1, wU, wU, wU])) a0_135 rfl) ?_
  refine WGo.s (WStep.iload a0_137 rfl) ?_
  refine WGo.s (WStep.iload a0_139 rfl) ?_
  refine WGo.s (WStep.icmpT a0_141 (by decide)) ?_
  refine WGo.s (WStep.iconst (1 : Int32) a0_150 rfl) ?_
  refine WGo.s (WStep.istore (L' := (LA p q r b0 b1 b2 ra rb mix [wI 1, wI 2, wI 2, wI 3, wI 1, wI 1, wI 1, wU, wU])) a0_151 rfl) ?_
  refine WGo.s (WStep.iload a0_153 rfl) ?_
  refine WGo.s (WStep.ifF a0_155 (by decide)) ?_
  refine WGo.s (WStep.aload a0_158 rfl rfl) ?_
  refine WGo.s (WStep.iload a0_160 rfl) ?_
  refine WGo.s (WStep.laload 1 a0_162 rfl (by decide) rfl rfl) ?_
  refine WGo.s (WStep.aload a0_163 rfl rfl) ?_
  refine WGo.s (WStep.iload a0_165 rfl) ?_
  refine WGo.s (WStep.laload 2 a0_167 rfl (by decide) rfl rfl) ?_
  refine WGo.s (WStep.lcmp a0_168) ?_
  refine WGo.eqL a0_169 (fun h169 => ?_) (fun h169 => ?_)
  · refine WGo.s (WStep.iload a0_175 rfl) ?_
    refine WGo.s (WStep.iconst (1 : Int32) a0_177 rfl) ?_
    refine WGo.s (WStep.icmpT a0_178 (by decide)) ?_
    refine WGo.s (WStep.iload a0_202 rfl) ?_
    refine WGo.s (WStep.iconst (2 : Int32) a0_204 rfl) ?_
    refine WGo.s (WStep.icmpT a0_205 (by decide)) ?_
    refine WGo.s (WStep.aload a0_229 rfl rfl) ?_
    refine WGo.s (WStep.iload a0_231 rfl) ?_
    refine WGo.s (WStep.iload a0_233 rfl) ?_
    refine WGo.s (WStep.aload a0_235 rfl rfl) ?_
    refine WGo.s (WStep.iload a0_237 rfl) ?_
    refine WGo.s (WStep.iload a0_239 rfl) ?_
    refine WGo.callS a0_241 (ok3 hw _ _ _ _) (wd hw 10 rfl) (wd hw 11 rfl) (argsL := [.ref 0, .int 1, .int 2, .ref 1, .int 2, .int 3]) (S := []) (c3_1223 hw _ _ p q r b0 b1 b2 _) rfl rfl rfl rfl rfl rfl (Nat.le_of_ble_eq_true rfl) (Nat.le_of_ble_eq_true rfl) ?_
    rintro _ _ _ ⟨⟨rfl, hE⟩ | ⟨rfl, hE⟩, rfl, rfl⟩
    · skip
      show WGo _ (244, (LA p q r b0 b1 b2 ra rb mix [wI 1, wI 2, wI 2, wI 3, wI 1, wI 1, wI 1, wU, wU]), [.int 1], (HA p q r b0 b1 b2), 6) _
      refine WGo.s (WStep.istore (L' := (LA p q r b0 b1 b2 ra rb mix [wI 1, wI 2, wI 2, wI 3, wI 1, wI 1, wI 1, wI 1, wU])) a0_244 rfl) ?_
      exact segE1 Z a0 hw n0 p q r b0 b1 b2 ra rb mix _ _ _ _ _ _
    · exfalso
      simp_all
  · refine WGo.s (WStep.iconst (0 : Int32) a0_172 rfl) ?_
    refine WGo.s (WStep.istore (L' := (LA p q r b0 b1 b2 ra rb mix [wI 1, wI 2, wI 2, wI 3, wI 1, wI 1, wI 0, wU, wU])) a0_173 rfl) ?_
    refine WGo.s (WStep.iload a0_175 rfl) ?_
    refine WGo.s (WStep.iconst (1 : Int32) a0_177 rfl) ?_
    refine WGo.s (WStep.icmpT a0_178 (by decide)) ?_
    refine WGo.s (WStep.iload a0_202 rfl) ?_
    refine WGo.s (WStep.iconst (2 : Int32) a0_204 rfl) ?_
    refine WGo.s (WStep.icmpT a0_205 (by decide)) ?_
    refine WGo.s (WStep.aload a0_229 rfl rfl) ?_
    refine WGo.s (WStep.iload a0_231 rfl) ?_
    refine WGo.s (WStep.iload a0_233 rfl) ?_
    refine WGo.s (WStep.aload a0_235 rfl rfl) ?_
    refine WGo.s (WStep.iload a0_237 rfl) ?_
    refine WGo.s (WStep.iload a0_239 rfl) ?_
    refine WGo.callS a0_241 (ok3 hw _ _ _ _) (wd hw 10 rfl) (wd hw 11 rfl) (argsL := [.ref 0, .int 1, .int 2, .ref 1, .int 2, .int 3]) (S := []) (c3_1223 hw _ _ p q r b0 b1 b2 _) rfl rfl rfl rfl rfl rfl (Nat.le_of_ble_eq_true rfl) (Nat.le_of_ble_eq_true rfl) ?_
    rintro _ _ _ ⟨⟨rfl, hE⟩ | ⟨rfl, hE⟩, rfl, rfl⟩
    · exfalso
      simp_all
    · skip
      show WGo _ (244, (LA p q r b0 b1 b2 ra rb mix [wI 1, wI 2, wI 2, wI 3, wI 1, wI 1, wI 0, wU, wU]), [.int 0], (HA p q r b0 b1 b2), 6) _
      refine WGo.s (WStep.istore (L' := (LA p q r b0 b1 b2 ra rb mix [wI 1, wI 2, wI 2, wI 3, wI 1, wI 1, wI 0, wI 0, wU])) a0_244 rfl) ?_
      exact segE0 Z a0 hw n0 p q r b0 b1 b2 ra rb mix _ _ _ _ _ _
theorem segD1233 (Z : State) (a0 : Array Value) (hw : ∀ d ∈ tables_1, d.before a0 Z = true) (n0 : Nat) (p q r b0 b1 b2 : Int64) (ra rb mix : Int32) : WGo (g0 Z (fun k => n0 + k) n0 0 0) (123, (LA p q r b0 b1 b2 ra rb mix [wI 1, wI 2, wI 3, wI 3, wU, wU, wU, wU, wU]), [], (HA p q r b0 b1 b2), 6) (fun v σ' u' => v = some (.int 1) ∧ σ'.length ≤ 16 ∧ u' ≤ 128) := by
  refine WGo.s (WStep.iload a0_123 rfl) ?_
  refine WGo.s (WStep.iload a0_125 rfl) ?_
  refine WGo.s (WStep.isub a0_127) ?_
  show WGo _ (128, (LA p q r b0 b1 b2 ra rb mix [wI 1, wI 2, wI 3, wI 3, wU, wU, wU, wU, wU]), [.int 1], (HA p q r b0 b1 b2), 6) _
  refine WGo.s (WStep.istore (L' := (LA p q r b0 b1 b2 ra rb mix [wI 1, wI 2, wI 3, wI 3, wI 1, wU, wU, wU, wU])) a0_128 rfl) ?_
  refine WGo.s (WStep.iload a0_130 rfl) ?_
  refine WGo.s (WStep.iload a0_132 rfl) ?_
  refine WGo.s (WStep.isub a0_134) ?_
  show WGo _ (135, (LA p q r b0 b1 b2 ra rb mix [wI 1, wI 2, wI 3, wI 3, wI 1, wU, wU, wU, wU]), [.int 0], (HA p q r b0 b1 b2), 6) _
  refine WGo.s (WStep.istore (L' := (LA p q r b0 b1 b2 ra rb mix [wI 1, wI 2, wI 3, wI 3, wI 1, wI 0, wU, wU, wU])) a0_135 rfl) ?_
  refine WGo.s (WStep.iload a0_137 rfl) ?_
  refine WGo.s (WStep.iload a0_139 rfl) ?_
  refine WGo.s (WStep.icmpF a0_141 (by decide)) ?_
  refine WGo.s (WStep.iconst (0 : Int32) a0_144 rfl) ?_
  refine WGo.s (WStep.istore (L' := (LA p q r b0 b1 b2 ra rb mix [wI 1, wI 2, wI 3, wI 3, wI 1, wI 0, wI 0, wU, wU])) a0_145 rfl) ?_
  refine WGo.s (WStep.goto a0_147) ?_
  refine WGo.s (WStep.aload a0_229 rfl rfl) ?_
  refine WGo.s (WStep.iload a0_231 rfl) ?_
  refine WGo.s (WStep.iload a0_233 rfl) ?_
  refine WGo.s (WStep.aload a0_235 rfl rfl) ?_
  refine WGo.s (WStep.iload a0_237 rfl) ?_
  refine WGo.s (WStep.iload a0_239 rfl) ?_
  refine WGo.callS a0_241 (ok3 hw _ _ _ _) (wd hw 10 rfl) (wd hw 11 rfl) (argsL := [.ref 0, .int 1, .int 2, .ref 1, .int 3, .int 3]) (S := []) (c3_1233 hw _ _ p q r b0 b1 b2 _) rfl rfl rfl rfl rfl rfl (Nat.le_of_ble_eq_true rfl) (Nat.le_of_ble_eq_true rfl) ?_
  rintro _ _ _ ⟨⟨rfl, hE⟩ | ⟨rfl, hE⟩, rfl, rfl⟩
  · exfalso
    simp_all
  · skip
    show WGo _ (244, (LA p q r b0 b1 b2 ra rb mix [wI 1, wI 2, wI 3, wI 3, wI 1, wI 0, wI 0, wU, wU]), [.int 0], (HA p q r b0 b1 b2), 6) _
    refine WGo.s (WStep.istore (L' := (LA p q r b0 b1 b2 ra rb mix [wI 1, wI 2, wI 3, wI 3, wI 1, wI 0, wI 0, wI 0, wU])) a0_244 rfl) ?_
    exact segE0 Z a0 hw n0 p q r b0 b1 b2 ra rb mix _ _ _ _ _ _
theorem segD1300 (Z : State) (a0 : Array Value) (hw : ∀ d ∈ tables_1, d.before a0 Z = true) (n0 : Nat) (p q r b0 b1 b2 : Int64) (ra rb mix : Int32) : WGo (g0 Z (fun k => n0 + k) n0 0 0) (123, (LA p q r b0 b1 b2 ra rb mix [wI 1, wI 3, wI 0, wI 0, wU, wU, wU, wU, wU]), [], (HA p q r b0 b1 b2), 6) (fun v σ' u' => v = some (.int 1) ∧ σ'.length ≤ 16 ∧ u' ≤ 128) := by
  refine WGo.s (WStep.iload a0_123 rfl) ?_
  refine WGo.s (WStep.iload a0_125 rfl) ?_
  refine WGo.s (WStep.isub a0_127) ?_
  show WGo _ (128, (LA p q r b0 b1 b2 ra rb mix [wI 1, wI 3, wI 0, wI 0, wU, wU, wU, wU, wU]), [.int 2], (HA p q r b0 b1 b2), 6) _
  refine WGo.s (WStep.istore (L' := (LA p q r b0 b1 b2 ra rb mix [wI 1, wI 3, wI 0, wI 0, wI 2, wU, wU, wU, wU])) a0_128 rfl) ?_
  refine WGo.s (WStep.iload a0_130 rfl) ?_
  refine WGo.s (WStep.iload a0_132 rfl) ?_
  refine WGo.s (WStep.isub a0_134) ?_
  show WGo _ (135, (LA p q r b0 b1 b2 ra rb mix [wI 1, wI 3, wI 0, wI 0, wI 2, wU, wU, wU, wU]), [.int 0], (HA p q r b0 b1 b2), 6) _
  refine WGo.s (WStep.istore (L' := (LA p q r b0 b1 b2 ra rb mix [wI 1, wI 3, wI 0, wI 0, wI 2, wI 0, wU, wU, wU])) a0_135 rfl) ?_
  refine WGo.s (WStep.iload a0_137 rfl) ?_
  refine WGo.s (WStep.iload a0_139 rfl) ?_
  refine WGo.s (WStep.icmpF a0_141 (by decide)) ?_
  refine WGo.s (WStep.iconst (0 : Int32) a0_144 rfl) ?_
  refine WGo.s (WStep.istore (L' := (LA p q r b0 b1 b2 ra rb mix [wI 1, wI 3, wI 0, wI 0, wI 2, wI 0, wI 0, wU, wU])) a0_145 rfl) ?_
  refine WGo.s (WStep.goto a0_147) ?_
  refine WGo.s (WStep.aload a0_229 rfl rfl) ?_
  refine WGo.s (WStep.iload a0_231 rfl) ?_
  refine WGo.s (WStep.iload a0_233 rfl) ?_
  refine WGo.s (WStep.aload a0_235 rfl rfl) ?_
  refine WGo.s (WStep.iload a0_237 rfl) ?_
  refine WGo.s (WStep.iload a0_239 rfl) ?_
  refine WGo.callS a0_241 (ok3 hw _ _ _ _) (wd hw 10 rfl) (wd hw 11 rfl) (argsL := [.ref 0, .int 1, .int 3, .ref 1, .int 0, .int 0]) (S := []) (c3_1300 hw _ _ p q r b0 b1 b2 _) rfl rfl rfl rfl rfl rfl (Nat.le_of_ble_eq_true rfl) (Nat.le_of_ble_eq_true rfl) ?_
  rintro _ _ _ ⟨⟨rfl, hE⟩ | ⟨rfl, hE⟩, rfl, rfl⟩
  · exfalso
    simp_all
  · skip
    show WGo _ (244, (LA p q r b0 b1 b2 ra rb mix [wI 1, wI 3, wI 0, wI 0, wI 2, wI 0, wI 0, wU, wU]), [.int 0], (HA p q r b0 b1 b2), 6) _
    refine WGo.s (WStep.istore (L' := (LA p q r b0 b1 b2 ra rb mix [wI 1, wI 3, wI 0, wI 0, wI 2, wI 0, wI 0, wI 0, wU])) a0_244 rfl) ?_
    exact segE0 Z a0 hw n0 p q r b0 b1 b2 ra rb mix _ _ _ _ _ _
theorem segD1301 (Z : State) (a0 : Array Value) (hw : ∀ d ∈ tables_1, d.before a0 Z = true) (n0 : Nat) (p q r b0 b1 b2 : Int64) (ra rb mix : Int32) : WGo (g0 Z (fun k => n0 + k) n0 0 0) (123, (LA p q r b0 b1 b2 ra rb mix [wI 1, wI 3, wI 0, wI 1, wU, wU, wU, wU, wU]), [], (HA p q r b0 b1 b2), 6) (fun v σ' u' => v = some (.int 1) ∧ σ'.length ≤ 16 ∧ u' ≤ 128) := by
  refine WGo.s (WStep.iload a0_123 rfl) ?_
  refine WGo.s (WStep.iload a0_125 rfl) ?_
  refine WGo.s (WStep.isub a0_127) ?_
  show WGo _ (128, (LA p q r b0 b1 b2 ra rb mix [wI 1, wI 3, wI 0, wI 1, wU, wU, wU, wU, wU]), [.int 2], (HA p q r b0 b1 b2), 6) _
  refine WGo.s (WStep.istore (L' := (LA p q r b0 b1 b2 ra rb mix [wI 1, wI 3, wI 0, wI 1, wI 2, wU, wU, wU, wU])) a0_128 rfl) ?_
  refine WGo.s (WStep.iload a0_130 rfl) ?_
  refine WGo.s (WStep.iload a0_132 rfl) ?_
  refine WGo.s (WStep.isub a0_134) ?_
  show WGo _ (135, (LA p q r b0 b1 b2 ra rb mix [wI 1, wI 3, wI 0, wI 1, wI 2, wU, wU, wU, wU]), [.int 1], (HA p q r b0 b1 b2), 6) _
  refine WGo.s (WStep.istore (L' := (LA p q r b0 b1 b2 ra rb mix [wI 1, wI 3, wI 0, wI 1, wI 2, wI 1, wU, wU, wU])) a0_135 rfl) ?_
  refine WGo.s (WStep.iload a0_137 rfl) ?_
  refine WGo.s (WStep.iload a0_139 rfl) ?_
  refine WGo.s (WStep.icmpF a0_141 (by decide)) ?_
  refine WGo.s (WStep.iconst (0 : Int32) a0_144 rfl) ?_
  refine WGo.s (WStep.istore (L' := (LA p q r b0 b1 b2 ra rb mix [wI 1, wI 3, wI 0, wI 1, wI 2, wI 1, wI 0, wU, wU])) a0_145 rfl) ?_
  refine WGo.s (WStep.goto a0_147) ?_
  refine WGo.s (WStep.aload a0_229 rfl rfl) ?_
  refine WGo.s (WStep.iload a0_231 rfl) ?_
  refine WGo.s (WStep.iload a0_233 rfl) ?_
  refine WGo.s (WStep.aload a0_235 rfl rfl) ?_
  refine WGo.s (WStep.iload a0_237 rfl) ?_
  refine WGo.s (WStep.iload a0_239 rfl) ?_
  refine WGo.callS a0_241 (ok3 hw _ _ _ _) (wd hw 10 rfl) (wd hw 11 rfl) (argsL := [.ref 0, .int 1, .int 3, .ref 1, .int 0, .int 1]) (S := []) (c3_1301 hw _ _ p q r b0 b1 b2 _) rfl rfl rfl rfl rfl rfl (Nat.le_of_ble_eq_true rfl) (Nat.le_of_ble_eq_true rfl) ?_
  rintro _ _ _ ⟨⟨rfl, hE⟩ | ⟨rfl, hE⟩, rfl, rfl⟩
  · exfalso
    simp_all
  · skip
    show WGo _ (244, (LA p q r b0 b1 b2 ra rb mix [wI 1, wI 3, wI 0, wI 1, wI 2, wI 1, wI 0, wU, wU]), [.int 0], (HA p q r b0 b1 b2), 6) _
    refine WGo.s (WStep.istore (L' := (LA p q r b0 b1 b2 ra rb mix [wI 1, wI 3, wI 0, wI 1, wI 2, wI 1, wI 0, wI 0, wU])) a0_244 rfl) ?_
    exact segE0 Z a0 hw n0 p q r b0 b1 b2 ra rb mix _ _ _ _ _ _
theorem segD1302 (Z : State) (a0 : Array Value) (hw : ∀ d ∈ tables_1, d.before a0 Z = true) (n0 : Nat) (p q r b0 b1 b2 : Int64) (ra rb mix : Int32) : WGo (g0 Z (fun k => n0 + k) n0 0 0) (123, (LA p q r b0 b1 b2 ra rb mix [wI 1, wI 3, wI 0, wI 2, wU, wU, wU, wU, wU]), [], (HA p q r b0 b1 b2), 6) (fun v σ' u' => v = some (.int 1) ∧ σ'.length ≤ 16 ∧ u' ≤ 128) := by
  refine WGo.s (WStep.iload a0_123 rfl) ?_
  refine WGo.s (WStep.iload a0_125 rfl) ?_
  refine WGo.s (WStep.isub a0_127) ?_
  show WGo _ (128, (LA p q r b0 b1 b2 ra rb mix [wI 1, wI 3, wI 0, wI 2, wU, wU, wU, wU, wU]), [.int 2], (HA p q r b0 b1 b2), 6) _
  refine WGo.s (WStep.istore (L' := (LA p q r b0 b1 b2 ra rb mix [wI 1, wI 3, wI 0, wI 2, wI 2, wU, wU, wU, wU])) a0_128 rfl) ?_
  refine WGo.s (WStep.iload a0_130 rfl) ?_
  refine WGo.s (WStep.iload a0_132 rfl) ?_
  refine WGo.s (WStep.isub a0_134) ?_
  show WGo _ (135, (LA p q r b0 b1 b2 ra rb mix [wI 1, wI 3, wI 0, wI 2, wI 2, wU, wU, wU, wU]), [.int 2], (HA p q r b0 b1 b2), 6) _
  refine WGo.s (WStep.istore (L' := (LA p q r b0 b1 b2 ra rb mix [wI 1, wI 3, wI 0, wI 2, wI 2, wI 2, wU, wU, wU])) a0_135 rfl) ?_
  refine WGo.s (WStep.iload a0_137 rfl) ?_
  refine WGo.s (WStep.iload a0_139 rfl) ?_
  refine WGo.s (WStep.icmpT a0_141 (by decide)) ?_
  refine WGo.s (WStep.iconst (1 : Int32) a0_150 rfl) ?_
  refine WGo.s (WStep.istore (L' := (LA p q r b0 b1 b2 ra rb mix [wI 1, wI 3, wI 0, wI 2, wI 2, wI 2, wI 1, wU, wU])) a0_151 rfl) ?_
  refine WGo.s (WStep.iload a0_153 rfl) ?_
  refine WGo.s (WStep.ifF a0_155 (by decide)) ?_
  refine WGo.s (WStep.aload a0_158 rfl rfl) ?_
  refine WGo.s (WStep.iload a0_160 rfl) ?_
  refine WGo.s (WStep.laload 1 a0_162 rfl (by decide) rfl rfl) ?_
  refine WGo.s (WStep.aload a0_163 rfl rfl) ?_
  refine WGo.s (WStep.iload a0_165 rfl) ?_
  refine WGo.s (WStep.laload 0 a0_167 rfl (by decide) rfl rfl) ?_
  refine WGo.s (WStep.lcmp a0_168) ?_
  refine WGo.eqL a0_169 (fun h169 => ?_) (fun h169 => ?_)
  · refine WGo.s (WStep.iload a0_175 rfl) ?_
    refine WGo.s (WStep.iconst (1 : Int32) a0_177 rfl) ?_
    refine WGo.s (WStep.icmpF a0_178 (by decide)) ?_
    refine WGo.s (WStep.aload a0_181 rfl rfl) ?_
    refine WGo.s (WStep.iload a0_183 rfl) ?_
    refine WGo.s (WStep.iconst (1 : Int32) a0_185 rfl) ?_
    refine WGo.s (WStep.iadd a0_186) ?_
    show WGo _ (187, (LA p q r b0 b1 b2 ra rb mix [wI 1, wI 3, wI 0, wI 2, wI 2, wI 2, wI 1, wU, wU]), [.int 2, .ref 0], (HA p q r b0 b1 b2), 6) _
    refine WGo.s (WStep.laload 2 a0_187 rfl (by decide) rfl rfl) ?_
    refine WGo.s (WStep.aload a0_188 rfl rfl) ?_
    refine WGo.s (WStep.iload a0_190 rfl) ?_
    refine WGo.s (WStep.iconst (1 : Int32) a0_192 rfl) ?_
    refine WGo.s (WStep.iadd a0_193) ?_
    show WGo _ (194, (LA p q r b0 b1 b2 ra rb mix [wI 1, wI 3, wI 0, wI 2, wI 2, wI 2, wI 1, wU, wU]), [.int 1, .ref 1, (.long r)], (HA p q r b0 b1 b2), 6) _
    refine WGo.s (WStep.laload 1 a0_194 rfl (by decide) rfl rfl) ?_
    refine WGo.s (WStep.lcmp a0_195) ?_
    refine WGo.eqL a0_196 (fun h196 => ?_) (fun h196 => ?_)
    · refine WGo.s (WStep.iload a0_202 rfl) ?_
      refine WGo.s (WStep.iconst (2 : Int32) a0_204 rfl) ?_
      refine WGo.s (WStep.icmpT a0_205 (by decide)) ?_
      refine WGo.s (WStep.aload a0_229 rfl rfl) ?_
      refine WGo.s (WStep.iload a0_231 rfl) ?_
      refine WGo.s (WStep.iload a0_233 rfl) ?_
      refine WGo.s (WStep.aload a0_235 rfl rfl) ?_
      refine WGo.s (WStep.iload a0_237 rfl) ?_
      refine WGo.s (WStep.iload a0_239 rfl) ?_
      refine WGo.callS a0_241 (ok3 hw _ _ _ _) (wd hw 10 rfl) (wd hw 11 rfl) (argsL := [.ref 0, .int 1, .int 3, .ref 1, .int 0, .int 2]) (S := []) (c3_1302 hw _ _ p q r b0 b1 b2 _) rfl rfl rfl rfl rfl rfl (Nat.le_of_ble_eq_true rfl) (Nat.le_of_ble_eq_true rfl) ?_
      rintro _ _ _ ⟨⟨rfl, hE⟩ | ⟨rfl, hE⟩, rfl, rfl⟩
      · skip
        show WGo _ (244, (LA p q r b0 b1 b2 ra rb mix [wI 1, wI 3, wI 0, wI 2, wI 2, wI 2, wI 1, wU, wU]), [.int 1], (HA p q r b0 b1 b2), 6) _
        refine WGo.s (WStep.istore (L' := (LA p q r b0 b1 b2 ra rb mix [wI 1, wI 3, wI 0, wI 2, wI 2, wI 2, wI 1, wI 1, wU])) a0_244 rfl) ?_
        exact segE1 Z a0 hw n0 p q r b0 b1 b2 ra rb mix _ _ _ _ _ _
      · exfalso
        simp_all
    · refine WGo.s (WStep.iconst (0 : Int32) a0_199 rfl) ?_
      refine WGo.s (WStep.istore (L' := (LA p q r b0 b1 b2 ra rb mix [wI 1, wI 3, wI 0, wI 2, wI 2, wI 2, wI 0, wU, wU])) a0_200 rfl) ?_
      refine WGo.s (WStep.iload a0_202 rfl) ?_
      refine WGo.s (WStep.iconst (2 : Int32) a0_204 rfl) ?_
      refine WGo.s (WStep.icmpT a0_205 (by decide)) ?_
      refine WGo.s (WStep.aload a0_229 rfl rfl) ?_
      refine WGo.s (WStep.iload a0_231 rfl) ?_
      refine WGo.s (WStep.iload a0_233 rfl) ?_
      refine WGo.s (WStep.aload a0_235 rfl rfl) ?_
      refine WGo.s (WStep.iload a0_237 rfl) ?_
      refine WGo.s (WStep.iload a0_239 rfl) ?_
      refine WGo.callS a0_241 (ok3 hw _ _ _ _) (wd hw 10 rfl) (wd hw 11 rfl) (argsL := [.ref 0, .int 1, .int 3, .ref 1, .int 0, .int 2]) (S := []) (c3_1302 hw _ _ p q r b0 b1 b2 _) rfl rfl rfl rfl rfl rfl (Nat.le_of_ble_eq_true rfl) (Nat.le_of_ble_eq_true rfl) ?_
      rintro _ _ _ ⟨⟨rfl, hE⟩ | ⟨rfl, hE⟩, rfl, rfl⟩
      · exfalso
        simp_all
      · skip
        show WGo _ (244, (LA p q r b0 b1 b2 ra rb mix [wI 1, wI 3, wI 0, wI 2, wI 2, wI 2, wI 0, wU, wU]), [.int 0], (HA p q r b0 b1 b2), 6) _
        refine WGo.s (WStep.istore (L' := (LA p q r b0 b1 b2 ra rb mix [wI 1, wI 3, wI 0, wI 2, wI 2, wI 2, wI 0, wI 0, wU])) a0_244 rfl) ?_
        exact segE0 Z a0 hw n0 p q r b0 b1 b2 ra rb mix _ _ _ _ _ _
  · refine WGo.s (WStep.iconst (0 : Int32) a0_172 rfl) ?_
    refine WGo.s (WStep.istore (L' := (LA p q r b0 b1 b2 ra rb mix [wI 1, wI 3, wI 0, wI 2, wI 2, wI 2, wI 0, wU, wU])) a0_173 rfl) ?_
    refine WGo.s (WStep.iload a0_175 rfl) ?_
    refine WGo.s (WStep.iconst (1 : Int32) a0_177 rfl) ?_
    refine WGo.s (WStep.icmpF a0_178 (by decide)) ?_
    refine WGo.s (WStep.aload a0_181 rfl rfl) ?_
    refine WGo.s (WStep.iload a0_183 rfl) ?_
    refine WGo.s (WStep.iconst (1 : Int32) a0_185 rfl) ?_
    refine WGo.s (WStep.iadd a0_186) ?_
    show WGo _ (187, (LA p q r b0 b1 b2 ra rb mix [wI 1, wI 3, wI 0, wI 2, wI 2, wI 2, wI 0, wU, wU]), [.int 2, .ref 0], (HA p q r b0 b1 b2), 6) _
    refine WGo.s (WStep.laload 2 a0_187 rfl (by decide) rfl rfl) ?_
    refine WGo.s (WStep.aload a0_188 rfl rfl) ?_
    refine WGo.s (WStep.iload a0_190 rfl) ?_
    refine WGo.s (WStep.iconst (1 : Int32) a0_192 rfl) ?_
    refine WGo.s (WStep.iadd a0_193) ?_
    show WGo _ (194, (LA p q r b0 b1 b2 ra rb mix [wI 1, wI 3, wI 0, wI 2, wI 2, wI 2, wI 0, wU, wU]), [.int 1, .ref 1, (.long r)], (HA p q r b0 b1 b2), 6) _
    refine WGo.s (WStep.laload 1 a0_194 rfl (by decide) rfl rfl) ?_
    refine WGo.s (WStep.lcmp a0_195) ?_
    refine WGo.eqL a0_196 (fun h196 => ?_) (fun h196 => ?_)
    · refine WGo.s (WStep.iload a0_202 rfl) ?_
      refine WGo.s (WStep.iconst (2 : Int32) a0_204 rfl) ?_
      refine WGo.s (WStep.icmpT a0_205 (by decide)) ?_
      refine WGo.s (WStep.aload a0_229 rfl rfl) ?_
      refine WGo.s (WStep.iload a0_231 rfl) ?_
      refine WGo.s (WStep.iload a0_233 rfl) ?_
      refine WGo.s (WStep.aload a0_235 rfl rfl) ?_
      refine WGo.s (WStep.iload a0_237 rfl) ?_
      refine WGo.s (WStep.iload a0_239 rfl) ?_
      refine WGo.callS a0_241 (ok3 hw _ _ _ _) (wd hw 10 rfl) (wd hw 11 rfl) (argsL := [.ref 0, .int 1, .int 3, .ref 1, .int 0, .int 2]) (S := []) (c3_1302 hw _ _ p q r b0 b1 b2 _) rfl rfl rfl rfl rfl rfl (Nat.le_of_ble_eq_true rfl) (Nat.le_of_ble_eq_true rfl) ?_
      rintro _ _ _ ⟨⟨rfl, hE⟩ | ⟨rfl, hE⟩, rfl, rfl⟩
      · exfalso
        simp_all
      · skip
        show WGo _ (244, (LA p q r b0 b1 b2 ra rb mix [wI 1, wI 3, wI 0, wI 2, wI 2, wI 2, wI 0, wU, wU]), [.int 0], (HA p q r b0 b1 b2), 6) _
        refine WGo.s (WStep.istore (L' := (LA p q r b0 b1 b2 ra rb mix [wI 1, wI 3, wI 0, wI 2, wI 2, wI 2, wI 0, wI 0, wU])) a0_244 rfl) ?_
        exact segE0 Z a0 hw n0 p q r b0 b1 b2 ra rb mix _ _ _ _ _ _
    · refine WGo.s (WStep.iconst (0 : Int32) a0_199 rfl) ?_
      refine WGo.s (WStep.istore (L' := (LA p q r b0 b1 b2 ra rb mix [wI 1, wI 3, wI 0, wI 2, wI 2, wI 2, wI 0, wU, wU])) a0_200 rfl) ?_
      refine WGo.s (WStep.iload a0_202 rfl) ?_
      refine WGo.s (WStep.iconst (2 : Int32) a0_204 rfl) ?_
      refine WGo.s (WStep.icmpT a0_205 (by decide)) ?_
      refine WGo.s (WStep.aload a0_229 rfl rfl) ?_
      refine WGo.s (WStep.iload a0_231 rfl) ?_
      refine WGo.s (WStep.iload a0_233 rfl) ?_
      refine WGo.s (WStep.aload a0_235 rfl rfl) ?_
      refine WGo.s (WStep.iload a0_237 rfl) ?_
      refine WGo.s (WStep.iload a0_239 rfl) ?_
      refine WGo.callS a0_241 (ok3 hw _ _ _ _) (wd hw 10 rfl) (wd hw 11 rfl) (argsL := [.ref 0, .int 1, .int 3, .ref 1, .int 0, .int 2]) (S := []) (c3_1302 hw _ _ p q r b0 b1 b2 _) rfl rfl rfl rfl rfl rfl (Nat.le_of_ble_eq_true rfl) (Nat.le_of_ble_eq_true rfl) ?_
      rintro _ _ _ ⟨⟨rfl, hE⟩ | ⟨rfl, hE⟩, rfl, rfl⟩
      · exfalso
        simp_all
      · skip
        show WGo _ (244, (LA p q r b0 b1 b2 ra rb mix [wI 1, wI 3, wI 0, wI 2, wI 2, wI 2, wI 0, wU, wU]), [.int 0], (HA p q r b0 b1 b2), 6) _
        refine WGo.s (WStep.istore (L' := (LA p q r b0 b1 b2 ra rb mix [wI 1, wI 3, wI 0, wI 2, wI 2, wI 2, wI 0, wI 0, wU])) a0_244 rfl) ?_
        exact segE0 Z a0 hw n0 p q r b0 b1 b2 ra rb mix _ _ _ _ _ _
theorem segD1303 (Z : State) (a0 : Array Value) (hw : ∀ d ∈ tables_1, d.before a0 Z = true) (n0 : Nat) (p q r b0 b1 b2 : Int64) (ra rb mix : Int32) : WGo (g0 Z (fun k => n0 + k) n0 0 0) (123, (LA p q r b0 b1 b2 ra rb mix [wI 1, wI 3, wI 0, wI 3, wU, wU, wU, wU, wU]), [], (HA p q r b0 b1 b2), 6) (fun v σ' u' => v = some (.int 1) ∧ σ'.length ≤ 16 ∧ u' ≤ 128) := by
  refine WGo.s (WStep.iload a0_123 rfl) ?_
  refine WGo.s (WStep.iload a0_125 rfl) ?_
  refine WGo.s (WStep.isub a0_127) ?_
  show WGo _ (128, (LA p q r b0 b1 b2 ra rb mix [wI 1, wI 3, wI 0, wI 3, wU, wU, wU, wU, wU]), [.int 2], (HA p q r b0 b1 b2), 6) _
  refine WGo.s (WStep.istore (L' := (LA p q r b0 b1 b2 ra rb mix [wI 1, wI 3, wI 0, wI 3, wI 2, wU, wU, wU, wU])) a0_128 rfl) ?_
  refine WGo.s (WStep.iload a0_130 rfl) ?_
  refine WGo.s (WStep.iload a0_132 rfl) ?_
  refine WGo.s (WStep.isub a0_134) ?_
  show WGo _ (135, (LA p q r b0 b1 b2 ra rb mix [wI 1, wI 3, wI 0, wI 3, wI 2, wU, wU, wU, wU]), [.int 3], (HA p q r b0 b1 b2), 6) _
  refine WGo.s (WStep.istore (L' := (LA p q r b0 b1 b2 ra rb mix [wI 1, wI 3, wI 0, wI 3, wI 2, wI 3, wU, wU, wU])) a0_135 rfl) ?_
  refine WGo.s (WStep.iload a0_137 rfl) ?_
  refine WGo.s (WStep.iload a0_139 rfl) ?_
  refine WGo.s (WStep.icmpF a0_141 (by decide)) ?_
  refine WGo.s (WStep.iconst (0 : Int32) a0_144 rfl) ?_
  refine WGo.s (WStep.istore (L' := (LA p q r b0 b1 b2 ra rb mix [wI 1, wI 3, wI 0, wI 3, wI 2, wI 3, wI 0, wU, wU])) a0_145 rfl) ?_
  refine WGo.s (WStep.goto a0_147) ?_
  refine WGo.s (WStep.aload a0_229 rfl rfl) ?_
  refine WGo.s (WStep.iload a0_231 rfl) ?_
  refine WGo.s (WStep.iload a0_233 rfl) ?_
  refine WGo.s (WStep.aload a0_235 rfl rfl) ?_
  refine WGo.s (WStep.iload a0_237 rfl) ?_
  refine WGo.s (WStep.iload a0_239 rfl) ?_
  refine WGo.callS a0_241 (ok3 hw _ _ _ _) (wd hw 10 rfl) (wd hw 11 rfl) (argsL := [.ref 0, .int 1, .int 3, .ref 1, .int 0, .int 3]) (S := []) (c3_1303 hw _ _ p q r b0 b1 b2 _) rfl rfl rfl rfl rfl rfl (Nat.le_of_ble_eq_true rfl) (Nat.le_of_ble_eq_true rfl) ?_
  rintro _ _ _ ⟨⟨rfl, hE⟩ | ⟨rfl, hE⟩, rfl, rfl⟩
  · exfalso
    simp_all
  · skip
    show WGo _ (244, (LA p q r b0 b1 b2 ra rb mix [wI 1, wI 3, wI 0, wI 3, wI 2, wI 3, wI 0, wU, wU]), [.int 0], (HA p q r b0 b1 b2), 6) _
    refine WGo.s (WStep.istore (L' := (LA p q r b0 b1 b2 ra rb mix [wI 1, wI 3, wI 0, wI 3, wI 2, wI 3, wI 0, wI 0, wU])) a0_244 rfl) ?_
    exact segE0 Z a0 hw n0 p q r b0 b1 b2 ra rb mix _ _ _ _ _ _
theorem segD1311 (Z : State) (a0 : Array Value) (hw : ∀ d ∈ tables_1, d.before a0 Z = true) (n0 : Nat) (p q r b0 b1 b2 : Int64) (ra rb mix : Int32) : WGo (g0 Z (fun k => n0 + k) n0 0 0) (123, (LA p q r b0 b1 b2 ra rb mix [wI 1, wI 3, wI 1, wI 1, wU, wU, wU, wU, wU]), [], (HA p q r b0 b1 b2), 6) (fun v σ' u' => v = some (.int 1) ∧ σ'.length ≤ 16 ∧ u' ≤ 128) := by
  refine WGo.s (WStep.iload a0_123 rfl) ?_
  refine WGo.s (WStep.iload a0_125 rfl) ?_
  refine WGo.s (WStep.isub a0_127) ?_
  show WGo _ (128, (LA p q r b0 b1 b2 ra rb mix [wI 1, wI 3, wI 1, wI 1, wU, wU, wU, wU, wU]), [.int 2], (HA p q r b0 b1 b2), 6) _
  refine WGo.s (WStep.istore (L' := (LA p q r b0 b1 b2 ra rb mix [wI 1, wI 3, wI 1, wI 1, wI 2, wU, wU, wU, wU])) a0_128 rfl) ?_
  refine WGo.s (WStep.iload a0_130 rfl) ?_
  refine WGo.s (WStep.iload a0_132 rfl) ?_
  refine WGo.s (WStep.isub a0_134) ?_
  show WGo _ (135, (LA p q r b0 b1 b2 ra rb mix [wI 1, wI 3, wI 1, wI 1, wI 2, wU, wU, wU, wU]), [.int 0], (HA p q r b0 b1 b2), 6) _
  refine WGo.s (WStep.istore (L' := (LA p q r b0 b1 b2 ra rb mix [wI 1, wI 3, wI 1, wI 1, wI 2, wI 0, wU, wU, wU])) a0_135 rfl) ?_
  refine WGo.s (WStep.iload a0_137 rfl) ?_
  refine WGo.s (WStep.iload a0_139 rfl) ?_
  refine WGo.s (WStep.icmpF a0_141 (by decide)) ?_
  refine WGo.s (WStep.iconst (0 : Int32) a0_144 rfl) ?_
  refine WGo.s (WStep.istore (L' := (LA p q r b0 b1 b2 ra rb mix [wI 1, wI 3, wI 1, wI 1, wI 2, wI 0, wI 0, wU, wU])) a0_145 rfl) ?_
  refine WGo.s (WStep.goto a0_147) ?_
  refine WGo.s (WStep.aload a0_229 rfl rfl) ?_
  refine WGo.s (WStep.iload a0_231 rfl) ?_
  refine WGo.s (WStep.iload a0_233 rfl) ?_
  refine WGo.s (WStep.aload a0_235 rfl rfl) ?_
  refine WGo.s (WStep.iload a0_237 rfl) ?_
  refine WGo.s (WStep.iload a0_239 rfl) ?_
  refine WGo.callS a0_241 (ok3 hw _ _ _ _) (wd hw 10 rfl) (wd hw 11 rfl) (argsL := [.ref 0, .int 1, .int 3, .ref 1, .int 1, .int 1]) (S := []) (c3_1311 hw _ _ p q r b0 b1 b2 _) rfl rfl rfl rfl rfl rfl (Nat.le_of_ble_eq_true rfl) (Nat.le_of_ble_eq_true rfl) ?_
  rintro _ _ _ ⟨⟨rfl, hE⟩ | ⟨rfl, hE⟩, rfl, rfl⟩
  · exfalso
    simp_all
  · skip
    show WGo _ (244, (LA p q r b0 b1 b2 ra rb mix [wI 1, wI 3, wI 1, wI 1, wI 2, wI 0, wI 0, wU, wU]), [.int 0], (HA p q r b0 b1 b2), 6) _
    refine WGo.s (WStep.istore (L' := (LA p q r b0 b1 b2 ra rb mix [wI 1, wI 3, wI 1, wI 1, wI 2, wI 0, wI 0, wI 0, wU])) a0_244 rfl) ?_
    exact segE0 Z a0 hw n0 p q r b0 b1 b2 ra rb mix _ _ _ _ _ _
theorem segD1312 (Z : State) (a0 : Array Value) (hw : ∀ d ∈ tables_1, d.before a0 Z = true) (n0 : Nat) (p q r b0 b1 b2 : Int64) (ra rb mix : Int32) : WGo (g0 Z (fun k => n0 + k) n0 0 0) (123, (LA p q r b0 b1 b2 ra rb mix [wI 1, wI 3, wI 1, wI 2, wU, wU, wU, wU, wU]), [], (HA p q r b0 b1 b2), 6) (fun v σ' u' => v = some (.int 1) ∧ σ'.length ≤ 16 ∧ u' ≤ 128) := by
  refine WGo.s (WStep.iload a0_123 rfl) ?_
  refine WGo.s (WStep.iload a0_125 rfl) ?_
  refine WGo.s (WStep.isub a0_127) ?_
  show WGo _ (128, (LA p q r b0 b1 b2 ra rb mix [wI 1, wI 3, wI 1, wI 2, wU, wU, wU, wU, wU]), [.int 2], (HA p q r b0 b1 b2), 6) _
  refine WGo.s (WStep.istore (L' := (LA p q r b0 b1 b2 ra rb mix [wI 1, wI 3, wI 1, wI 2, wI 2, wU, wU, wU, wU])) a0_128 rfl) ?_
  refine WGo.s (WStep.iload a0_130 rfl) ?_
  refine WGo.s (WStep.iload a0_132 rfl) ?_
  refine WGo.s (WStep.isub a0_134) ?_
  show WGo _ (135, (LA p q r b0 b1 b2 ra rb mix [wI 1, wI 3, wI 1, wI 2, wI 2, wU, wU, wU, wU]), [.int 1], (HA p q r b0 b1 b2), 6) _
  refine WGo.s (WStep.istore (L' := (LA p q r b0 b1 b2 ra rb mix [wI 1, wI 3, wI 1, wI 2, wI 2, wI 1, wU, wU, wU])) a0_135 rfl) ?_
  refine WGo.s (WStep.iload a0_137 rfl) ?_
  refine WGo.s (WStep.iload a0_139 rfl) ?_
  refine WGo.s (WStep.icmpF a0_141 (by decide)) ?_
  refine WGo.s (WStep.iconst (0 : Int32) a0_144 rfl) ?_
  refine WGo.s (WStep.istore (L' := (LA p q r b0 b1 b2 ra rb mix [wI 1, wI 3, wI 1, wI 2, wI 2, wI 1, wI 0, wU, wU])) a0_145 rfl) ?_
  refine WGo.s (WStep.goto a0_147) ?_
  refine WGo.s (WStep.aload a0_229 rfl rfl) ?_
  refine WGo.s (WStep.iload a0_231 rfl) ?_
  refine WGo.s (WStep.iload a0_233 rfl) ?_
  refine WGo.s (WStep.aload a0_235 rfl rfl) ?_
  refine WGo.s (WStep.iload a0_237 rfl) ?_
  refine WGo.s (WStep.iload a0_239 rfl) ?_
  refine WGo.callS a0_241 (ok3 hw _ _ _ _) (wd hw 10 rfl) (wd hw 11 rfl) (argsL := [.ref 0, .int 1, .int 3, .ref 1, .int 1, .int 2]) (S := []) (c3_1312 hw _ _ p q r b0 b1 b2 _) rfl rfl rfl rfl rfl rfl (Nat.le_of_ble_eq_true rfl) (Nat.le_of_ble_eq_true rfl) ?_
  rintro _ _ _ ⟨⟨rfl, hE⟩ | ⟨rfl, hE⟩, rfl, rfl⟩
  · exfalso
    simp_all
  · skip
    show WGo _ (244, (LA p q r b0 b1 b2 ra rb mix [wI 1, wI 3, wI 1, wI 2, wI 2, wI 1, wI 0, wU, wU]), [.int 0], (HA p q r b0 b1 b2), 6) _
    refine WGo.s (WStep.istore (L' := (LA p q r b0 b1 b2 ra rb mix [wI 1, wI 3, wI 1, wI 2, wI 2, wI 1, wI 0, wI 0, wU])) a0_244 rfl) ?_
    exact segE0 Z a0 hw n0 p q r b0 b1 b2 ra rb mix _ _ _ _ _ _
theorem segD1313 (Z : State) (a0 : Array Value) (hw : ∀ d ∈ tables_1, d.before a0 Z = true) (n0 : Nat) (p q r b0 b1 b2 : Int64) (ra rb mix : Int32) : WGo (g0 Z (fun k => n0 + k) n0 0 0) (123, (LA p q r b0 b1 b2 ra rb mix [wI 1, wI 3, wI 1, wI 3, wU, wU, wU, wU, wU]), [], (HA p q r b0 b1 b2), 6) (fun v σ' u' => v = some (.int 1) ∧ σ'.length ≤ 16 ∧ u' ≤ 128) := by
  refine WGo.s (WStep.iload a0_123 rfl) ?_
  refine WGo.s (WStep.iload a0_125 rfl) ?_
  refine WGo.s (WStep.isub a0_127) ?_
  show WGo _ (128, (LA p q r b0 b1 b2 ra rb mix [wI 1, wI 3, wI 1, wI 3, wU, wU, wU, wU, wU]), [.int 2], (HA p q r b0 b1 b2), 6) _
  refine WGo.s (WStep.istore (L' := (LA p q r b0 b1 b2 ra rb mix [wI 1, wI 3, wI 1, wI 3, wI 2, wU, wU, wU, wU])) a0_128 rfl) ?_
  refine WGo.s (WStep.iload a0_130 rfl) ?_
  refine WGo.s (WStep.iload a0_132 rfl) ?_
  refine WGo.s (WStep.isub a0_134) ?_
  show WGo _ (135, (LA p q r b0 b1 b2 ra rb mix [wI 1, wI 3, wI 1, wI 3, wI 2, wU, wU, wU, wU]), [.int 2], (HA p q r b0 b1 b2), 6) _
  refine WGo.s (WStep.istore (L' := (LA p q r b0 b1 b2 ra rb mix [wI 1, wI 3, wI 1, wI 3, wI 2, wI 2, wU, wU, wU])) a0_135 rfl) ?_
  refine WGo.s (WStep.iload a0_137 rfl) ?_
  refine WGo.s (WStep.iload a0_139 rfl) ?_
  refine WGo.s (WStep.icmpT a0_141 (by decide)) ?_
  refine WGo.s (WStep.iconst (1 : Int32) a0_150 rfl) ?_
  refine WGo.s (WStep.istore (L' := (LA p q r b0 b1 b2 ra rb mix [wI 1, wI 3, wI 1, wI 3, wI 2, wI 2, wI 1, wU, wU])) a0_151 rfl) ?_
  refine WGo.s (WStep.iload a0_153 rfl) ?_
  refine WGo.s (WStep.ifF a0_155 (by decide)) ?_
  refine WGo.s (WStep.aload a0_158 rfl rfl) ?_
  refine WGo.s (WStep.iload a0_160 rfl) ?_
  refine WGo.s (WStep.laload 1 a0_162 rfl (by decide) rfl rfl) ?_
  refine WGo.s (WStep.aload a0_163 rfl rfl) ?_
  refine WGo.s (WStep.iload a0_165 rfl) ?_
  refine WGo.s (WStep.laload 1 a0_167 rfl (by decide) rfl rfl) ?_
  refine WGo.s (WStep.lcmp a0_168) ?_
  refine WGo.eqL a0_169 (fun h169 => ?_) (fun h169 => ?_)
  · refine WGo.s (WStep.iload a0_175 rfl) ?_
    refine WGo.s (WStep.iconst (1 : Int32) a0_177 rfl) ?_
    refine WGo.s (WStep.icmpF a0_178 (by decide)) ?_
    refine WGo.s (WStep.aload a0_181 rfl rfl) ?_
    refine WGo.s (WStep.iload a0_183 rfl) ?_
    refine WGo.s (WStep.iconst (1 : Int32) a0_185 rfl) ?_
    refine WGo.s (WStep.iadd a0_186) ?_
    show WGo _ (187, (LA p q r b0 b1 b2 ra rb mix [wI 1, wI 3, wI 1, wI 3, wI 2, wI 2, wI 1, wU, wU]), [.int 2, .ref 0], (HA p q r b0 b1 b2), 6) _
    refine WGo.s (WStep.laload 2 a0_187 rfl (by decide) rfl rfl) ?_
    refine WGo.s (WStep.aload a0_188 rfl rfl) ?_
    refine WGo.s (WStep.iload a0_190 rfl) ?_
    refine WGo.s (WStep.iconst (1 : Int32) a0_192 rfl) ?_
    refine WGo.s (WStep.iadd a0_193) ?_
    show WGo _ (194, (LA p q r b0 b1 b2 ra rb mix [wI 1, wI 3, wI 1, wI 3, wI 2, wI 2, wI 1, wU, wU]), [.int 2, .ref 1, (.long r)], (HA p q r b0 b1 b2), 6) _
    refine WGo.s (WStep.laload 2 a0_194 rfl (by decide) rfl rfl) ?_
    refine WGo.s (WStep.lcmp a0_195) ?_
    refine WGo.eqL a0_196 (fun h196 => ?_) (fun h196 => ?_)
    · refine WGo.s (WStep.iload a0_202 rfl) ?_
      refine WGo.s (WStep.iconst (2 : Int32) a0_204 rfl) ?_
      refine WGo.s (WStep.icmpT a0_205 (by decide)) ?_
      refine WGo.s (WStep.aload a0_229 rfl rfl) ?_
      refine WGo.s (WStep.iload a0_231 rfl) ?_
      refine WGo.s (WStep.iload a0_233 rfl) ?_
      refine WGo.s (WStep.aload a0_235 rfl rfl) ?_
      refine WGo.s (WStep.iload a0_237 rfl) ?_
      refine WGo.s (WStep.iload a0_239 rfl) ?_
      refine WGo.callS a0_241 (ok3 hw _ _ _ _) (wd hw 10 rfl) (wd hw 11 rfl) (argsL := [.ref 0, .int 1, .int 3, .ref 1, .int 1, .int 3]) (S := []) (c3_1313 hw _ _ p q r b0 b1 b2 _) rfl rfl rfl rfl rfl rfl (Nat.le_of_ble_eq_true rfl) (Nat.le_of_ble_eq_true rfl) ?_
      rintro _ _ _ ⟨⟨rfl, hE⟩ | ⟨rfl, hE⟩, rfl, rfl⟩
      · skip
        show WGo _ (244, (LA p q r b0 b1 b2 ra rb mix [wI 1, wI 3, wI 1, wI 3, wI 2, wI 2, wI 1, wU, wU]), [.int 1], (HA p q r b0 b1 b2), 6) _
        refine WGo.s (WStep.istore (L' := (LA p q r b0 b1 b2 ra rb mix [wI 1, wI 3, wI 1, wI 3, wI 2, wI 2, wI 1, wI 1, wU])) a0_244 rfl) ?_
        exact segE1 Z a0 hw n0 p q r b0 b1 b2 ra rb mix _ _ _ _ _ _
      · exfalso
        simp_all
    · refine WGo.s (WStep.iconst (0 : Int32) a0_199 rfl) ?_
      refine WGo.s (WStep.istore (L' := (LA p q r b0 b1 b2 ra rb mix [wI 1, wI 3, wI 1, wI 3, wI 2, wI 2, wI 0, wU, wU])) a0_200 rfl) ?_
      refine WGo.s (WStep.iload a0_202 rfl) ?_
      refine WGo.s (WStep.iconst (2 : Int32) a0_204 rfl) ?_
      refine WGo.s (WStep.icmpT a0_205 (by decide)) ?_
      refine WGo.s (WStep.aload a0_229 rfl rfl) ?_
      refine WGo.s (WStep.iload a0_231 rfl) ?_
      refine WGo.s (WStep.iload a0_233 rfl) ?_
      refine WGo.s (WStep.aload a0_235 rfl rfl) ?_
      refine WGo.s (WStep.iload a0_237 rfl) ?_
      refine WGo.s (WStep.iload a0_239 rfl) ?_
      refine WGo.callS a0_241 (ok3 hw _ _ _ _) (wd hw 10 rfl) (wd hw 11 rfl) (argsL := [.ref 0, .int 1, .int 3, .ref 1, .int 1, .int 3]) (S := []) (c3_1313 hw _ _ p q r b0 b1 b2 _) rfl rfl rfl rfl rfl rfl (Nat.le_of_ble_eq_true rfl) (Nat.le_of_ble_eq_true rfl) ?_
      rintro _ _ _ ⟨⟨rfl, hE⟩ | ⟨rfl, hE⟩, rfl, rfl⟩
      · exfalso
        simp_all
      · skip
        show WGo _ (244, (LA p q r b0 b1 b2 ra rb mix [wI 1, wI 3, wI 1, wI 3, wI 2, wI 2, wI 0, wU, wU]), [.int 0], (HA p q r b0 b1 b2), 6) _
        refine WGo.s (WStep.istore (L' := (LA p q r b0 b1 b2 ra rb mix [wI 1, wI 3, wI 1, wI 3, wI 2, wI 2, wI 0, wI 0, wU])) a0_244 rfl) ?_
        exact segE0 Z a0 hw n0 p q r b0 b1 b2 ra rb mix _ _ _ _ _ _
  · refine WGo.s (WStep.iconst (0 : Int32) a0_172 rfl) ?_
    refine WGo.s (WStep.istore (L' := (LA p q r b0 b1 b2 ra rb mix [wI 1, wI 3, wI 1, wI 3, wI 2, wI 2, wI 0, wU, wU])) a0_173 rfl) ?_
    refine WGo.s (WStep.iload a0_175 rfl) ?_
    refine WGo.s (WStep.iconst (1 : Int32) a0_177 rfl) ?_
    refine WGo.s (WStep.icmpF a0_178 (by decide)) ?_
    refine WGo.s (WStep.aload a0_181 rfl rfl) ?_
    refine WGo.s (WStep.iload a0_183 rfl) ?_
    refine WGo.s (WStep.iconst (1 : Int32) a0_185 rfl) ?_
    refine WGo.s (WStep.iadd a0_186) ?_
    show WGo _ (187, (LA p q r b0 b1 b2 ra rb mix [wI 1, wI 3, wI 1, wI 3, wI 2, wI 2, wI 0, wU, wU]), [.int 2, .ref 0], (HA p q r b0 b1 b2), 6) _
    refine WGo.s (WStep.laload 2 a0_187 rfl (by decide) rfl rfl) ?_
    refine WGo.s (WStep.aload a0_188 rfl rfl) ?_
    refine WGo.s (WStep.iload a0_190 rfl) ?_
    refine WGo.s (WStep.iconst (1 : Int32) a0_192 rfl) ?_
    refine WGo.s (WStep.iadd a0_193) ?_
    show WGo _ (194, (LA p q r b0 b1 b2 ra rb mix [wI 1, wI 3, wI 1, wI 3, wI 2, wI 2, wI 0, wU, wU]), [.int 2, .ref 1, (.long r)], (HA p q r b0 b1 b2), 6) _
    refine WGo.s (WStep.laload 2 a0_194 rfl (by decide) rfl rfl) ?_
    refine WGo.s (WStep.lcmp a0_195) ?_
    refine WGo.eqL a0_196 (fun h196 => ?_) (fun h196 => ?_)
    · refine WGo.s (WStep.iload a0_202 rfl) ?_
      refine WGo.s (WStep.iconst (2 : Int32) a0_204 rfl) ?_
      refine WGo.s (WStep.icmpT a0_205 (by decide)) ?_
      refine WGo.s (WStep.aload a0_229 rfl rfl) ?_
      refine WGo.s (WStep.iload a0_231 rfl) ?_
      refine WGo.s (WStep.iload a0_233 rfl) ?_
      refine WGo.s (WStep.aload a0_235 rfl rfl) ?_
      refine WGo.s (WStep.iload a0_237 rfl) ?_
      refine WGo.s (WStep.iload a0_239 rfl) ?_
      refine WGo.callS a0_241 (ok3 hw _ _ _ _) (wd hw 10 rfl) (wd hw 11 rfl) (argsL := [.ref 0, .int 1, .int 3, .ref 1, .int 1, .int 3]) (S := []) (c3_1313 hw _ _ p q r b0 b1 b2 _) rfl rfl rfl rfl rfl rfl (Nat.le_of_ble_eq_true rfl) (Nat.le_of_ble_eq_true rfl) ?_
      rintro _ _ _ ⟨⟨rfl, hE⟩ | ⟨rfl, hE⟩, rfl, rfl⟩
      · exfalso
        simp_all
      · skip
        show WGo _ (244, (LA p q r b0 b1 b2 ra rb mix [wI 1, wI 3, wI 1, wI 3, wI 2, wI 2, wI 0, wU, wU]), [.int 0], (HA p q r b0 b1 b2), 6) _
        refine WGo.s (WStep.istore (L' := (LA p q r b0 b1 b2 ra rb mix [wI 1, wI 3, wI 1, wI 3, wI 2, wI 2, wI 0, wI 0, wU])) a0_244 rfl) ?_
        exact segE0 Z a0 hw n0 p q r b0 b1 b2 ra rb mix _ _ _ _ _ _
    · refine WGo.s (WStep.iconst (0 : Int32) a0_199 rfl) ?_
      refine WGo.s (WStep.istore (L' := (LA p q r b0 b1 b2 ra rb mix [wI 1, wI 3, wI 1, wI 3, wI 2, wI 2, wI 0, wU, wU])) a0_200 rfl) ?_
      refine WGo.s (WStep.iload a0_202 rfl) ?_
      refine WGo.s (WStep.iconst (2 : Int32) a0_204 rfl) ?_
      refine WGo.s (WStep.icmpT a0_205 (by decide)) ?_
      refine WGo.s (WStep.aload a0_229 rfl rfl) ?_
      refine WGo.s (WStep.iload a0_231 rfl) ?_
      refine WGo.s (WStep.iload a0_233 rfl) ?_
      refine WGo.s (WStep.aload a0_235 rfl rfl) ?_
      refine WGo.s (WStep.iload a0_237 rfl) ?_
      refine WGo.s (WStep.iload a0_239 rfl) ?_
      refine WGo.callS a0_241 (ok3 hw _ _ _ _) (wd hw 10 rfl) (wd hw 11 rfl) (argsL := [.ref 0, .int 1, .int 3, .ref 1, .int 1, .int 3]) (S := []) (c3_1313 hw _ _ p q r b0 b1 b2 _) rfl rfl rfl rfl rfl rfl (Nat.le_of_ble_eq_true rfl) (Nat.le_of_ble_eq_true rfl) ?_
      rintro _ _ _ ⟨⟨rfl, hE⟩ | ⟨rfl, hE⟩, rfl, rfl⟩
      · exfalso
        simp_all
      · skip
        show WGo _ (244, (LA p q r b0 b1 b2 ra rb mix [wI 1, wI 3, wI 1, wI 3, wI 2, wI 2, wI 0, wU, wU]), [.int 0], (HA p q r b0 b1 b2), 6) _
        refine WGo.s (WStep.istore (L' := (LA p q r b0 b1 b2 ra rb mix [wI 1, wI 3, wI 1, wI 3, wI 2, wI 2, wI 0, wI 0, wU])) a0_244 rfl) ?_
        exact segE0 Z a0 hw n0 p q r b0 b1 b2 ra rb mix _ _ _ _ _ _
theorem segD1322 (Z : State) (a0 : Array Value) (hw : ∀ d ∈ tables_1, d.before a0 Z = true) (n0 : Nat) (p q r b0 b1 b2 : Int64) (ra rb mix : Int32) : WGo (g0 Z (fun k => n0 + k) n0 0 0) (123, (LA p q r b0 b1 b2 ra rb mix [wI 1, wI 3, wI 2, wI 2, wU, wU, wU, wU, wU]), [], (HA p q r b0 b1 b2), 6) (fun v σ' u' => v = some (.int 1) ∧ σ'.length ≤ 16 ∧ u' ≤ 128) := by
  refine WGo.s (WStep.iload a0_123 rfl) ?_
  refine WGo.s (WStep.iload a0_125 rfl) ?_
  refine WGo.s (WStep.isub a0_127) ?_
  show WGo _ (128, (LA p q r b0 b1 b2 ra rb mix [wI 1, wI 3, wI 2, wI 2, wU, wU, wU, wU, wU]), [.int 2], (HA p q r b0 b1 b2), 6) _
  refine WGo.s (WStep.istore (L' := (LA p q r b0 b1 b2 ra rb mix [wI 1, wI 3, wI 2, wI 2, wI 2, wU, wU, wU, wU])) a0_128 rfl) ?_
  refine WGo.s (WStep.iload a0_130 rfl) ?_
  refine WGo.s (WStep.iload a0_132 rfl) ?_
  refine WGo.s (WStep.isub a0_134) ?_
  show WGo _ (135, (LA p q r b0 b1 b2 ra rb mix [wI 1, wI 3, wI 2, wI 2, wI 2, wU, wU, wU, wU]), [.int 0], (HA p q r b0 b1 b2), 6) _
  refine WGo.s (WStep.istore (L' := (LA p q r b0 b1 b2 ra rb mix [wI 1, wI 3, wI 2, wI 2, wI 2, wI 0, wU, wU, wU])) a0_135 rfl) ?_
  refine WGo.s (WStep.iload a0_137 rfl) ?_
  refine WGo.s (WStep.iload a0_139 rfl) ?_
  refine WGo.s (WStep.icmpF a0_141 (by decide)) ?_
  refine WGo.s (WStep.iconst (0 : Int32) a0_144 rfl) ?_
  refine WGo.s (WStep.istore (L' := (LA p q r b0 b1 b2 ra rb mix [wI 1, wI 3, wI 2, wI 2, wI 2, wI 0, wI 0, wU, wU])) a0_145 rfl) ?_
  refine WGo.s (WStep.goto a0_147) ?_
  refine WGo.s (WStep.aload a0_229 rfl rfl) ?_
  refine WGo.s (WStep.iload a0_231 rfl) ?_
  refine WGo.s (WStep.iload a0_233 rfl) ?_
  refine WGo.s (WStep.aload a0_235 rfl rfl) ?_
  refine WGo.s (WStep.iload a0_237 rfl) ?_
  refine WGo.s (WStep.iload a0_239 rfl) ?_
  refine WGo.callS a0_241 (ok3 hw _ _ _ _) (wd hw 10 rfl) (wd hw 11 rfl) (argsL := [.ref 0, .int 1, .int 3, .ref 1, .int 2, .int 2]) (S := []) (c3_1322 hw _ _ p q r b0 b1 b2 _) rfl rfl rfl rfl rfl rfl (Nat.le_of_ble_eq_true rfl) (Nat.le_of_ble_eq_true rfl) ?_
  rintro _ _ _ ⟨⟨rfl, hE⟩ | ⟨rfl, hE⟩, rfl, rfl⟩
  · exfalso
    simp_all
  · skip
    show WGo _ (244, (LA p q r b0 b1 b2 ra rb mix [wI 1, wI 3, wI 2, wI 2, wI 2, wI 0, wI 0, wU, wU]), [.int 0], (HA p q r b0 b1 b2), 6) _
    refine WGo.s (WStep.istore (L' := (LA p q r b0 b1 b2 ra rb mix [wI 1, wI 3, wI 2, wI 2, wI 2, wI 0, wI 0, wI 0, wU])) a0_244 rfl) ?_
    exact segE0 Z a0 hw n0 p q r b0 b1 b2 ra rb mix _ _ _ _ _ _
theorem segD1323 (Z : State) (a0 : Array Value) (hw : ∀ d ∈ tables_1, d.before a0 Z = true) (n0 : Nat) (p q r b0 b1 b2 : Int64) (ra rb mix : Int32) : WGo (g0 Z (fun k => n0 + k) n0 0 0) (123, (LA p q r b0 b1 b2 ra rb mix [wI 1, wI 3, wI 2, wI 3, wU, wU, wU, wU, wU]), [], (HA p q r b0 b1 b2), 6) (fun v σ' u' => v = some (.int 1) ∧ σ'.length ≤ 16 ∧ u' ≤ 128) := by
  refine WGo.s (WStep.iload a0_123 rfl) ?_
  refine WGo.s (WStep.iload a0_125 rfl) ?_
  refine WGo.s (WStep.isub a0_127) ?_
  show WGo _ (128, (LA p q r b0 b1 b2 ra rb mix [wI 1, wI 3, wI 2, wI 3, wU, wU, wU, wU, wU]), [.int 2], (HA p q r b0 b1 b2), 6) _
  refine WGo.s (WStep.istore (L' := (LA p q r b0 b1 b2 ra rb mix [wI 1, wI 3, wI 2, wI 3, wI 2, wU, wU, wU, wU])) a0_128 rfl) ?_
  refine WGo.s (WStep.iload a0_130 rfl) ?_
  refine WGo.s (WStep.iload a0_132 rfl) ?_
  refine WGo.s (WStep.isub a0_134) ?_
  show WGo _ (135, (LA p q r b0 b1 b2 ra rb mix [wI 1, wI 3, wI 2, wI 3, wI 2, wU, wU, wU, wU]), [.int 1], (HA p q r b0 b1 b2), 6) _
  refine WGo.s (WStep.istore (L' := (LA p q r b0 b1 b2 ra rb mix [wI 1, wI 3, wI 2, wI 3, wI 2, wI 1, wU, wU, wU])) a0_135 rfl) ?_
  refine WGo.s (WStep.iload a0_137 rfl) ?_
  refine WGo.s (WStep.iload a0_139 rfl) ?_
  refine WGo.s (WStep.icmpF a0_141 (by decide)) ?_
  refine WGo.s (WStep.iconst (0 : Int32) a0_144 rfl) ?_
  refine WGo.s (WStep.istore (L' := (LA p q r b0 b1 b2 ra rb mix [wI 1, wI 3, wI 2, wI 3, wI 2, wI 1, wI 0, wU, wU])) a0_145 rfl) ?_
  refine WGo.s (WStep.goto a0_147) ?_
  refine WGo.s (WStep.aload a0_229 rfl rfl) ?_
  refine WGo.s (WStep.iload a0_231 rfl) ?_
  refine WGo.s (WStep.iload a0_233 rfl) ?_
  refine WGo.s (WStep.aload a0_235 rfl rfl) ?_
  refine WGo.s (WStep.iload a0_237 rfl) ?_
  refine WGo.s (WStep.iload a0_239 rfl) ?_
  refine WGo.callS a0_241 (ok3 hw _ _ _ _) (wd hw 10 rfl) (wd hw 11 rfl) (argsL := [.ref 0, .int 1, .int 3, .ref 1, .int 2, .int 3]) (S := []) (c3_1323 hw _ _ p q r b0 b1 b2 _) rfl rfl rfl rfl rfl rfl (Nat.le_of_ble_eq_true rfl) (Nat.le_of_ble_eq_true rfl) ?_
  rintro _ _ _ ⟨⟨rfl, hE⟩ | ⟨rfl, hE⟩, rfl, rfl⟩
  · exfalso
    simp_all
  · skip
    show WGo _ (244, (LA p q r b0 b1 b2 ra rb mix [wI 1, wI 3, wI 2, wI 3, wI 2, wI 1, wI 0, wU, wU]), [.int 0], (HA p q r b0 b1 b2), 6) _
    refine WGo.s (WStep.istore (L' := (LA p q r b0 b1 b2 ra rb mix [wI 1, wI 3, wI 2, wI 3, wI 2, wI 1, wI 0, wI 0, wU])) a0_244 rfl) ?_
    exact segE0 Z a0 hw n0 p q r b0 b1 b2 ra rb mix _ _ _ _ _ _
theorem segD1333 (Z : State) (a0 : Array Value) (hw : ∀ d ∈ tables_1, d.before a0 Z = true) (n0 : Nat) (p q r b0 b1 b2 : Int64) (ra rb mix : Int32) : WGo (g0 Z (fun k => n0 + k) n0 0 0) (123, (LA p q r b0 b1 b2 ra rb mix [wI 1, wI 3, wI 3, wI 3, wU, wU, wU, wU, wU]), [], (HA p q r b0 b1 b2), 6) (fun v σ' u' => v = some (.int 1) ∧ σ'.length ≤ 16 ∧ u' ≤ 128) := by
  refine WGo.s (WStep.iload a0_123 rfl) ?_
  refine WGo.s (WStep.iload a0_125 rfl) ?_
  refine WGo.s (WStep.isub a0_127) ?_
  show WGo _ (128, (LA p q r b0 b1 b2 ra rb mix [wI 1, wI 3, wI 3, wI 3, wU, wU, wU, wU, wU]), [.int 2], (HA p q r b0 b1 b2), 6) _
  refine WGo.s (WStep.istore (L' := (LA p q r b0 b1 b2 ra rb mix [wI 1, wI 3, wI 3, wI 3, wI 2, wU, wU, wU, wU])) a0_128 rfl) ?_
  refine WGo.s (WStep.iload a0_130 rfl) ?_
  refine WGo.s (WStep.iload a0_132 rfl) ?_
  refine WGo.s (WStep.isub a0_134) ?_
  show WGo _ (135, (LA p q r b0 b1 b2 ra rb mix [wI 1, wI 3, wI 3, wI 3, wI 2, wU, wU, wU, wU]), [.int 0], (HA p q r b0 b1 b2), 6) _
  refine WGo.s (WStep.istore (L' := (LA p q r b0 b1 b2 ra rb mix [wI 1, wI 3, wI 3, wI 3, wI 2, wI 0, wU, wU, wU])) a0_135 rfl) ?_
  refine WGo.s (WStep.iload a0_137 rfl) ?_
  refine WGo.s (WStep.iload a0_139 rfl) ?_
  refine WGo.s (WStep.icmpF a0_141 (by decide)) ?_
  refine WGo.s (WStep.iconst (0 : Int32) a0_144 rfl) ?_
  refine WGo.s (WStep.istore (L' := (LA p q r b0 b1 b2 ra rb mix [wI 1, wI 3, wI 3, wI 3, wI 2, wI 0, wI 0, wU, wU])) a0_145 rfl) ?_
  refine WGo.s (WStep.goto a0_147) ?_
  refine WGo.s (WStep.aload a0_229 rfl rfl) ?_
  refine WGo.s (WStep.iload a0_231 rfl) ?_
  refine WGo.s (WStep.iload a0_233 rfl) ?_
  refine WGo.s (WStep.aload a0_235 rfl rfl) ?_
  refine WGo.s (WStep.iload a0_237 rfl) ?_
  refine WGo.s (WStep.iload a0_239 rfl) ?_
  refine WGo.callS a0_241 (ok3 hw _ _ _ _) (wd hw 10 rfl) (wd hw 11 rfl) (argsL := [.ref 0, .int 1, .int 3, .ref 1, .int 3, .int 3]) (S := []) (c3_1333 hw _ _ p q r b0 b1 b2 _) rfl rfl rfl rfl rfl rfl (Nat.le_of_ble_eq_true rfl) (Nat.le_of_ble_eq_true rfl) ?_
  rintro _ _ _ ⟨⟨rfl, hE⟩ | ⟨rfl, hE⟩, rfl, rfl⟩
  · exfalso
    simp_all
  · skip
    show WGo _ (244, (LA p q r b0 b1 b2 ra rb mix [wI 1, wI 3, wI 3, wI 3, wI 2, wI 0, wI 0, wU, wU]), [.int 0], (HA p q r b0 b1 b2), 6) _
    refine WGo.s (WStep.istore (L' := (LA p q r b0 b1 b2 ra rb mix [wI 1, wI 3, wI 3, wI 3, wI 2, wI 0, wI 0, wI 0, wU])) a0_244 rfl) ?_
    exact segE0 Z a0 hw n0 p q r b0 b1 b2 ra rb mix _ _ _ _ _ _
theorem segD2200 (Z : State) (a0 : Array Value) (hw : ∀ d ∈ tables_1, d.before a0 Z = true) (n0 : Nat) (p q r b0 b1 b2 : Int64) (ra rb mix : Int32) : WGo (g0 Z (fun k => n0 + k) n0 0 0) (123, (LA p q r b0 b1 b2 ra rb mix [wI 2, wI 2, wI 0, wI 0, wU, wU, wU, wU, wU]), [], (HA p q r b0 b1 b2), 6) (fun v σ' u' => v = some (.int 1) ∧ σ'.length ≤ 16 ∧ u' ≤ 128) := by
  refine WGo.s (WStep.iload a0_123 rfl) ?_
  refine WGo.s (WStep.iload a0_125 rfl) ?_
  refine WGo.s (WStep.isub a0_127) ?_
  show WGo _ (128, (LA p q r b0 b1 b2 ra rb mix [wI 2, wI 2, wI 0, wI 0, wU, wU, wU, wU, wU]), [.int 0], (HA p q r b0 b1 b2), 6) _
  refine WGo.s (WStep.istore (L' := (LA p q r b0 b1 b2 ra rb mix [wI 2, wI 2, wI 0, wI 0, wI 0, wU, wU, wU, wU])) a0_128 rfl) ?_
  refine WGo.s (WStep.iload a0_130 rfl) ?_
  refine WGo.s (WStep.iload a0_132 rfl) ?_
  refine WGo.s (WStep.isub a0_134) ?_
  show WGo _ (135, (LA p q r b0 b1 b2 ra rb mix [wI 2, wI 2, wI 0, wI 0, wI 0, wU, wU, wU, wU]), [.int 0], (HA p q r b0 b1 b2), 6) _
  refine WGo.s (WStep.istore (L' := (LA p q r b0 b1 b2 ra rb mix [wI 2, wI 2, wI 0, wI 0, wI 0, wI 0, wU, wU, wU])) a0_135 rfl) ?_
  refine WGo.s (WStep.iload a0_137 rfl) ?_
  refine WGo.s (WStep.iload a0_139 rfl) ?_
  refine WGo.s (WStep.icmpT a0_141 (by decide)) ?_
  refine WGo.s (WStep.iconst (1 : Int32) a0_150 rfl) ?_
  refine WGo.s (WStep.istore (L' := (LA p q r b0 b1 b2 ra rb mix [wI 2, wI 2, wI 0, wI 0, wI 0, wI 0, wI 1, wU, wU])) a0_151 rfl) ?_
  refine WGo.s (WStep.iload a0_153 rfl) ?_
  refine WGo.s (WStep.ifT a0_155 (by decide)) ?_
  refine WGo.s (WStep.iload a0_175 rfl) ?_
  refine WGo.s (WStep.iconst (1 : Int32) a0_177 rfl) ?_
  refine WGo.s (WStep.icmpT a0_178 (by decide)) ?_
  refine WGo.s (WStep.iload a0_202 rfl) ?_
  refine WGo.s (WStep.iconst (2 : Int32) a0_204 rfl) ?_
  refine WGo.s (WStep.icmpT a0_205 (by decide)) ?_
  refine WGo.s (WStep.aload a0_229 rfl rfl) ?_
  refine WGo.s (WStep.iload a0_231 rfl) ?_
  refine WGo.s (WStep.iload a0_233 rfl) ?_
  refine WGo.s (WStep.aload a0_235 rfl rfl) ?_
  refine WGo.s (WStep.iload a0_237 rfl) ?_
  refine WGo.s (WStep.iload a0_239 rfl) ?_
  refine WGo.callS a0_241 (ok3 hw _ _ _ _) (wd hw 10 rfl) (wd hw 11 rfl) (argsL := [.ref 0, .int 2, .int 2, .ref 1, .int 0, .int 0]) (S := []) (c3_2200 hw _ _ p q r b0 b1 b2 _) rfl rfl rfl rfl rfl rfl (Nat.le_of_ble_eq_true rfl) (Nat.le_of_ble_eq_true rfl) ?_
  rintro _ _ _ ⟨⟨rfl, hE⟩ | ⟨rfl, hE⟩, rfl, rfl⟩
  · skip
    show WGo _ (244, (LA p q r b0 b1 b2 ra rb mix [wI 2, wI 2, wI 0, wI 0, wI 0, wI 0, wI 1, wU, wU]), [.int 1], (HA p q r b0 b1 b2), 6) _
    refine WGo.s (WStep.istore (L' := (LA p q r b0 b1 b2 ra rb mix [wI 2, wI 2, wI 0, wI 0, wI 0, wI 0, wI 1, wI 1, wU])) a0_244 rfl) ?_
    exact segE1 Z a0 hw n0 p q r b0 b1 b2 ra rb mix _ _ _ _ _ _
  · exfalso
    simp_all
theorem segD2201 (Z : State) (a0 : Array Value) (hw : ∀ d ∈ tables_1, d.before a0 Z = true) (n0 : Nat) (p q r b0 b1 b2 : Int64) (ra rb mix : Int32) : WGo (g0 Z (fun k => n0 + k) n0 0 0) (123, (LA p q r b0 b1 b2 ra rb mix [wI 2, wI 2, wI 0, wI 1, wU, wU, wU, wU, wU]), [], (HA p q r b0 b1 b2), 6) (fun v σ' u' => v = some (.int 1) ∧ σ'.length ≤ 16 ∧ u' ≤ 128) := by
  refine WGo.s (WStep.iload a0_123 rfl) ?_
  refine WGo.s (WStep.iload a0_125 rfl) ?_
  refine WGo.s (WStep.isub a0_127) ?_
  show WGo _ (128, (LA p q r b0 b1 b2 ra rb mix [wI 2, wI 2, wI 0, wI 1, wU, wU, wU, wU, wU]), [.int 0], (HA p q r b0 b1 b2), 6) _
  refine WGo.s (WStep.istore (L' := (LA p q r b0 b1 b2 ra rb mix [wI 2, wI 2, wI 0, wI 1, wI 0, wU, wU, wU, wU])) a0_128 rfl) ?_
  refine WGo.s (WStep.iload a0_130 rfl) ?_
  refine WGo.s (WStep.iload a0_132 rfl) ?_
  refine WGo.s (WStep.isub a0_134) ?_
  show WGo _ (135, (LA p q r b0 b1 b2 ra rb mix [wI 2, wI 2, wI 0, wI 1, wI 0, wU, wU, wU, wU]), [.int 1], (HA p q r b0 b1 b2), 6) _
  refine WGo.s (WStep.istore (L' := (LA p q r b0 b1 b2 ra rb mix [wI 2, wI 2, wI 0, wI 1, wI 0, wI 1, wU, wU, wU])) a0_135 rfl) ?_
  refine WGo.s (WStep.iload a0_137 rfl) ?_
  refine WGo.s (WStep.iload a0_139 rfl) ?_
  refine WGo.s (WStep.icmpF a0_141 (by decide)) ?_
  refine WGo.s (WStep.iconst (0 : Int32) a0_144 rfl) ?_
  refine WGo.s (WStep.istore (L' := (LA p q r b0 b1 b2 ra rb mix [wI 2, wI 2, wI 0, wI 1, wI 0, wI 1, wI 0, wU, wU])) a0_145 rfl) ?_
  refine WGo.s (WStep.goto a0_147) ?_
  refine WGo.s (WStep.aload a0_229 rfl rfl) ?_
  refine WGo.s (WStep.iload a0_231 rfl) ?_
  refine WGo.s (WStep.iload a0_233 rfl) ?_
  refine WGo.s (WStep.aload a0_235 rfl rfl) ?_
  refine WGo.s (WStep.iload a0_237 rfl) ?_
  refine WGo.s (WStep.iload a0_239 rfl) ?_
  refine WGo.callS a0_241 (ok3 hw _ _ _ _) (wd hw 10 rfl) (wd hw 11 rfl) (argsL := [.ref 0, .int 2, .int 2, .ref 1, .int 0, .int 1]) (S := []) (c3_2201 hw _ _ p q r b0 b1 b2 _) rfl rfl rfl rfl rfl rfl (Nat.le_of_ble_eq_true rfl) (Nat.le_of_ble_eq_true rfl) ?_
  rintro _ _ _ ⟨⟨rfl, hE⟩ | ⟨rfl, hE⟩, rfl, rfl⟩
  · exfalso
    simp_all
  · skip
    show WGo _ (244, (LA p q r b0 b1 b2 ra rb mix [wI 2, wI 2, wI 0, wI 1, wI 0, wI 1, wI 0, wU, wU]), [.int 0], (HA p q r b0 b1 b2), 6) _
    refine WGo.s (WStep.istore (L' := (LA p q r b0 b1 b2 ra rb mix [wI 2, wI 2, wI 0, wI 1, wI 0, wI 1, wI 0, wI 0, wU])) a0_244 rfl) ?_
    exact segE0 Z a0 hw n0 p q r b0 b1 b2 ra rb mix _ _ _ _ _ _
theorem segD2202 (Z : State) (a0 : Array Value) (hw : ∀ d ∈ tables_1, d.before a0 Z = true) (n0 : Nat) (p q r b0 b1 b2 : Int64) (ra rb mix : Int32) : WGo (g0 Z (fun k => n0 + k) n0 0 0) (123, (LA p q r b0 b1 b2 ra rb mix [wI 2, wI 2, wI 0, wI 2, wU, wU, wU, wU, wU]), [], (HA p q r b0 b1 b2), 6) (fun v σ' u' => v = some (.int 1) ∧ σ'.length ≤ 16 ∧ u' ≤ 128) := by
  refine WGo.s (WStep.iload a0_123 rfl) ?_
  refine WGo.s (WStep.iload a0_125 rfl) ?_
  refine WGo.s (WStep.isub a0_127) ?_
  show WGo _ (128, (LA p q r b0 b1 b2 ra rb mix [wI 2, wI 2, wI 0, wI 2, wU, wU, wU, wU, wU]), [.int 0], (HA p q r b0 b1 b2), 6) _
  refine WGo.s (WStep.istore (L' := (LA p q r b0 b1 b2 ra rb mix [wI 2, wI 2, wI 0, wI 2, wI 0, wU, wU, wU, wU])) a0_128 rfl) ?_
  refine WGo.s (WStep.iload a0_130 rfl) ?_
  refine WGo.s (WStep.iload a0_132 rfl) ?_
  refine WGo.s (WStep.isub a0_134) ?_
  show WGo _ (135, (LA p q r b0 b1 b2 ra rb mix [wI 2, wI 2, wI 0, wI 2, wI 0, wU, wU, wU, wU]), [.int 2], (HA p q r b0 b1 b2), 6) _
  refine WGo.s (WStep.istore (L' := (LA p q r b0 b1 b2 ra rb mix [wI 2, wI 2, wI 0, wI 2, wI 0, wI 2, wU, wU, wU])) a0_135 rfl) ?_
  refine WGo.s (WStep.iload a0_137 rfl) ?_
  refine WGo.s (WStep.iload a0_139 rfl) ?_
  refine WGo.s (WStep.icmpF a0_141 (by decide)) ?_
  refine WGo.s (WStep.iconst (0 : Int32) a0_144 rfl) ?_
  refine WGo.s (WStep.istore (L' := (LA p q r b0 b1 b2 ra rb mix [wI 2, wI 2, wI 0, wI 2, wI 0, wI 2, wI 0, wU, wU])) a0_145 rfl) ?_
  refine WGo.s (WStep.goto a0_147) ?_
  refine WGo.s (WStep.aload a0_229 rfl rfl) ?_
  refine WGo.s (WStep.iload a0_231 rfl) ?_
  refine WGo.s (WStep.iload a0_233 rfl) ?_
  refine WGo.s (WStep.aload a0_235 rfl rfl) ?_
  refine WGo.s (WStep.iload a0_237 rfl) ?_
  refine WGo.s (WStep.iload a0_239 rfl) ?_
  refine WGo.callS a0_241 (ok3 hw _ _ _ _) (wd hw 10 rfl) (wd hw 11 rfl) (argsL := [.ref 0, .int 2, .int 2, .ref 1, .int 0, .int 2]) (S := []) (c3_2202 hw _ _ p q r b0 b1 b2 _) rfl rfl rfl rfl rfl rfl (Nat.le_of_ble_eq_true rfl) (Nat.le_of_ble_eq_true rfl) ?_
  rintro _ _ _ ⟨⟨rfl, hE⟩ | ⟨rfl, hE⟩, rfl, rfl⟩
  · exfalso
    simp_all
  · skip
    show WGo _ (244, (LA p q r b0 b1 b2 ra rb mix [wI 2, wI 2, wI 0, wI 2, wI 0, wI 2, wI 0, wU, wU]), [.int 0], (HA p q r b0 b1 b2), 6) _
    refine WGo.s (WStep.istore (L' := (LA p q r b0 b1 b2 ra rb mix [wI 2, wI 2, wI 0, wI 2, wI 0, wI 2, wI 0, wI 0, wU])) a0_244 rfl) ?_
    exact segE0 Z a0 hw n0 p q r b0 b1 b2 ra rb mix _ _ _ _ _ _
theorem segD2203 (Z : State) (a0 : Array Value) (hw : ∀ d ∈ tables_1, d.before a0 Z = true) (n0 : Nat) (p q r b0 b1 b2 : Int64) (ra rb mix : Int32) : WGo (g0 Z (fun k => n0 + k) n0 0 0) (123, (LA p q r b0 b1 b2 ra rb mix [wI 2, wI 2, wI 0, wI 3, wU, wU, wU, wU, wU]), [], (HA p q r b0 b1 b2), 6) (fun v σ' u' => v = some (.int 1) ∧ σ'.length ≤ 16 ∧ u' ≤ 128) := by
  refine WGo.s (WStep.iload a0_123 rfl) ?_
  refine WGo.s (WStep.iload a0_125 rfl) ?_
  refine WGo.s (WStep.isub a0_127) ?_
  show WGo _ (128, (LA p q r b0 b1 b2 ra rb mix [wI 2, wI 2, wI 0, wI 3, wU, wU, wU, wU, wU]), [.int 0], (HA p q r b0 b1 b2), 6) _
  refine WGo.s (WStep.istore (L' := (LA p q r b0 b1 b2 ra rb mix [wI 2, wI 2, wI 0, wI 3, wI 0, wU, wU, wU, wU])) a0_128 rfl) ?_
  refine WGo.s (WStep.iload a0_130 rfl) ?_
  refine WGo.s (WStep.iload a0_132 rfl) ?_
  refine WGo.s (WStep.isub a0_134) ?_
  show WGo _ (135, (LA p q r b0 b1 b2 ra rb mix [wI 2, wI 2, wI 0, wI 3, wI 0, wU, wU, wU, wU]), [.int 3], (HA p q r b0 b1 b2), 6) _
  refine WGo.s (WStep.istore (L' := (LA p q r b0 b1 b2 ra rb mix [wI 2, wI 2, wI 0, wI 3, wI 0, wI 3, wU, wU, wU])) a0_135 rfl) ?_
  refine WGo.s (WStep.iload a0_137 rfl) ?_
  refine WGo.s (WStep.iload a0_139 rfl) ?_
  refine WGo.s (WStep.icmpF a0_141 (by decide)) ?_
  refine WGo.s (WStep.iconst (0 : Int32) a0_144 rfl) ?_
  refine WGo.s (WStep.istore (L' := (LA p q r b0 b1 b2 ra rb mix [wI 2, wI 2, wI 0, wI 3, wI 0, wI 3, wI 0, wU, wU])) a0_145 rfl) ?_
  refine WGo.s (WStep.goto a0_147) ?_
  refine WGo.s (WStep.aload a0_229 rfl rfl) ?_
  refine WGo.s (WStep.iload a0_231 rfl) ?_
  refine WGo.s (WStep.iload a0_233 rfl) ?_
  refine WGo.s (WStep.aload a0_235 rfl rfl) ?_
  refine WGo.s (WStep.iload a0_237 rfl) ?_
  refine WGo.s (WStep.iload a0_239 rfl) ?_
  refine WGo.callS a0_241 (ok3 hw _ _ _ _) (wd hw 10 rfl) (wd hw 11 rfl) (argsL := [.ref 0, .int 2, .int 2, .ref 1, .int 0, .int 3]) (S := []) (c3_2203 hw _ _ p q r b0 b1 b2 _) rfl rfl rfl rfl rfl rfl (Nat.le_of_ble_eq_true rfl) (Nat.le_of_ble_eq_true rfl) ?_
  rintro _ _ _ ⟨⟨rfl, hE⟩ | ⟨rfl, hE⟩, rfl, rfl⟩
  · exfalso
    simp_all
  · skip
    show WGo _ (244, (LA p q r b0 b1 b2 ra rb mix [wI 2, wI 2, wI 0, wI 3, wI 0, wI 3, wI 0, wU, wU]), [.int 0], (HA p q r b0 b1 b2), 6) _
    refine WGo.s (WStep.istore (L' := (LA p q r b0 b1 b2 ra rb mix [wI 2, wI 2, wI 0, wI 3, wI 0, wI 3, wI 0, wI 0, wU])) a0_244 rfl) ?_
    exact segE0 Z a0 hw n0 p q r b0 b1 b2 ra rb mix _ _ _ _ _ _
theorem segD2211 (Z : State) (a0 : Array Value) (hw : ∀ d ∈ tables_1, d.before a0 Z = true) (n0 : Nat) (p q r b0 b1 b2 : Int64) (ra rb mix : Int32) : WGo (g0 Z (fun k => n0 + k) n0 0 0) (123, (LA p q r b0 b1 b2 ra rb mix [wI 2, wI 2, wI 1, wI 1, wU, wU, wU, wU, wU]), [], (HA p q r b0 b1 b2), 6) (fun v σ' u' => v = some (.int 1) ∧ σ'.length ≤ 16 ∧ u' ≤ 128) := by
  refine WGo.s (WStep.iload a0_123 rfl) ?_
  refine WGo.s (WStep.iload a0_125 rfl) ?_
  refine WGo.s (WStep.isub a0_127) ?_
  show WGo _ (128, (LA p q r b0 b1 b2 ra rb mix [wI 2, wI 2, wI 1, wI 1, wU, wU, wU, wU, wU]), [.int 0], (HA p q r b0 b1 b2), 6) _
  refine WGo.s (WStep.istore (L' := (LA p q r b0 b1 b2 ra rb mix [wI 2, wI 2, wI 1, wI 1, wI 0, wU, wU, wU, wU])) a0_128 rfl) ?_
  refine WGo.s (WStep.iload a0_130 rfl) ?_
  refine WGo.s (WStep.iload a0_132 rfl) ?_
  refine WGo.s (WStep.isub a0_134) ?_
  show WGo _ (135, (LA p q r b0 b1 b2 ra rb mix [wI 2, wI 2, wI 1, wI 1, wI 0, wU, wU, wU, wU]), [.int 0], (HA p q r b0 b1 b2), 6) _
  refine WGo.s (WStep.istore (L' := (LA p q r b0 b1 b2 ra rb mix [wI 2, wI 2, wI 1, wI 1, wI 0, wI 0, wU, wU, wU])) a0_135 rfl) ?_
  refine WGo.s (WStep.iload a0_137 rfl) ?_
  refine WGo.s (WStep.iload a0_139 rfl) ?_
  refine WGo.s (WStep.icmpT a0_141 (by decide)) ?_
  refine WGo.s (WStep.iconst (1 : Int32) a0_150 rfl) ?_
  refine WGo.s (WStep.istore (L' := (LA p q r b0 b1 b2 ra rb mix [wI 2, wI 2, wI 1, wI 1, wI 0, wI 0, wI 1, wU, wU])) a0_151 rfl) ?_
  refine WGo.s (WStep.iload a0_153 rfl) ?_
  refine WGo.s (WStep.ifT a0_155 (by decide)) ?_
  refine WGo.s (WStep.iload a0_175 rfl) ?_
  refine WGo.s (WStep.iconst (1 : Int32) a0_177 rfl) ?_
  refine WGo.s (WStep.icmpT a0_178 (by decide)) ?_
  refine WGo.s (WStep.iload a0_202 rfl) ?_
  refine WGo.s (WStep.iconst (2 : Int32) a0_204 rfl) ?_
  refine WGo.s (WStep.icmpT a0_205 (by decide)) ?_
  refine WGo.s (WStep.aload a0_229 rfl rfl) ?_
  refine WGo.s (WStep.iload a0_231 rfl) ?_
  refine WGo.s (WStep.iload a0_233 rfl) ?_
  refine WGo.s (WStep.aload a0_235 rfl rfl) ?_
  refine WGo.s (WStep.iload a0_237 rfl) ?_
  refine WGo.s (WStep.iload a0_239 rfl) ?_
  refine WGo.callS a0_241 (ok3 hw _ _ _ _) (wd hw 10 rfl) (wd hw 11 rfl) (argsL := [.ref 0, .int 2, .int 2, .ref 1, .int 1, .int 1]) (S := []) (c3_2211 hw _ _ p q r b0 b1 b2 _) rfl rfl rfl rfl rfl rfl (Nat.le_of_ble_eq_true rfl) (Nat.le_of_ble_eq_true rfl) ?_
  rintro _ _ _ ⟨⟨rfl, hE⟩ | ⟨rfl, hE⟩, rfl, rfl⟩
  · skip
    show WGo _ (244, (LA p q r b0 b1 b2 ra rb mix [wI 2, wI 2, wI 1, wI 1, wI 0, wI 0, wI 1, wU, wU]), [.int 1], (HA p q r b0 b1 b2), 6) _
    refine WGo.s (WStep.istore (L' := (LA p q r b0 b1 b2 ra rb mix [wI 2, wI 2, wI 1, wI 1, wI 0, wI 0, wI 1, wI 1, wU])) a0_244 rfl) ?_
    exact segE1 Z a0 hw n0 p q r b0 b1 b2 ra rb mix _ _ _ _ _ _
  · exfalso
    simp_all
theorem segD2212 (Z : State) (a0 : Array Value) (hw : ∀ d ∈ tables_1, d.before a0 Z = true) (n0 : Nat) (p q r b0 b1 b2 : Int64) (ra rb mix : Int32) : WGo (g0 Z (fun k => n0 + k) n0 0 0) (123, (LA p q r b0 b1 b2 ra rb mix [wI 2, wI 2, wI 1, wI 2, wU, wU, wU, wU, wU]), [], (HA p q r b0 b1 b2), 6) (fun v σ' u' => v = some (.int 1) ∧ σ'.length ≤ 16 ∧ u' ≤ 128) := by
  refine WGo.s (WStep.iload a0_123 rfl) ?_
  refine WGo.s (WStep.iload a0_125 rfl) ?_
  refine WGo.s (WStep.isub a0_127) ?_
  show WGo _ (128, (LA p q r b0 b1 b2 ra rb mix [wI 2, wI 2, wI 1, wI 2, wU, wU, wU, wU, wU]), [.int 0], (HA p q r b0 b1 b2), 6) _
  refine WGo.s (WStep.istore (L' := (LA p q r b0 b1 b2 ra rb mix [wI 2, wI 2, wI 1, wI 2, wI 0, wU, wU, wU, wU])) a0_128 rfl) ?_
  refine WGo.s (WStep.iload a0_130 rfl) ?_
  refine WGo.s (WStep.iload a0_132 rfl) ?_
  refine WGo.s (WStep.isub a0_134) ?_
  show WGo _ (135, (LA p q r b0 b1 b2 ra rb mix [wI 2, wI 2, wI 1, wI 2, wI 0, wU, wU, wU, wU]), [.int 1], (HA p q r b0 b1 b2), 6) _
  refine WGo.s (WStep.istore (L' := (LA p q r b0 b1 b2 ra rb mix [wI 2, wI 2, wI 1, wI 2, wI 0, wI 1, wU, wU, wU])) a0_135 rfl) ?_
  refine WGo.s (WStep.iload a0_137 rfl) ?_
  refine WGo.s (WStep.iload a0_139 rfl) ?_
  refine WGo.s (WStep.icmpF a0_141 (by decide)) ?_
  refine WGo.s (WStep.iconst (0 : Int32) a0_144 rfl) ?_
  refine WGo.s (WStep.istore (L' := (LA p q r b0 b1 b2 ra rb mix [wI 2, wI 2, wI 1, wI 2, wI 0, wI 1, wI 0, wU, wU])) a0_145 rfl) ?_
  refine WGo.s (WStep.goto a0_147) ?_
  refine WGo.s (WStep.aload a0_229 rfl rfl) ?_
  refine WGo.s (WStep.iload a0_231 rfl) ?_
  refine WGo.s (WStep.iload a0_233 rfl) ?_
  refine WGo.s (WStep.aload a0_235 rfl rfl) ?_
  refine WGo.s (WStep.iload a0_237 rfl) ?_
  refine WGo.s (WStep.iload a0_239 rfl) ?_
  refine WGo.callS a0_241 (ok3 hw _ _ _ _) (wd hw 10 rfl) (wd hw 11 rfl) (argsL := [.ref 0, .int 2, .int 2, .ref 1, .int 1, .int 2]) (S := []) (c3_2212 hw _ _ p q r b0 b1 b2 _) rfl rfl rfl rfl rfl rfl (Nat.le_of_ble_eq_true rfl) (Nat.le_of_ble_eq_true rfl) ?_
  rintro _ _ _ ⟨⟨rfl, hE⟩ | ⟨rfl, hE⟩, rfl, rfl⟩
  · exfalso
    simp_all
  · skip
    show WGo _ (244, (LA p q r b0 b1 b2 ra rb mix [wI 2, wI 2, wI 1, wI 2, wI 0, wI 1, wI 0, wU, wU]), [.int 0], (HA p q r b0 b1 b2), 6) _
    refine WGo.s (WStep.istore (L' := (LA p q r b0 b1 b2 ra rb mix [wI 2, wI 2, wI 1, wI 2, wI 0, wI 1, wI 0, wI 0, wU])) a0_244 rfl) ?_
    exact segE0 Z a0 hw n0 p q r b0 b1 b2 ra rb mix _ _ _ _ _ _
theorem segD2213 (Z : State) (a0 : Array Value) (hw : ∀ d ∈ tables_1, d.before a0 Z = true) (n0 : Nat) (p q r b0 b1 b2 : Int64) (ra rb mix : Int32) : WGo (g0 Z (fun k => n0 + k) n0 0 0) (123, (LA p q r b0 b1 b2 ra rb mix [wI 2, wI 2, wI 1, wI 3, wU, wU, wU, wU, wU]), [], (HA p q r b0 b1 b2), 6) (fun v σ' u' => v = some (.int 1) ∧ σ'.length ≤ 16 ∧ u' ≤ 128) := by
  refine WGo.s (WStep.iload a0_123 rfl) ?_
  refine WGo.s (WStep.iload a0_125 rfl) ?_
  refine WGo.s (WStep.isub a0_127) ?_
  show WGo _ (128, (LA p q r b0 b1 b2 ra rb mix [wI 2, wI 2, wI 1, wI 3, wU, wU, wU, wU, wU]), [.int 0], (HA p q r b0 b1 b2), 6) _
  refine WGo.s (WStep.istore (L' := (LA p q r b0 b1 b2 ra rb mix [wI 2, wI 2, wI 1, wI 3, wI 0, wU, wU, wU, wU])) a0_128 rfl) ?_
  refine WGo.s (WStep.iload a0_130 rfl) ?_
  refine WGo.s (WStep.iload a0_132 rfl) ?_
  refine WGo.s (WStep.isub a0_134) ?_
  show WGo _ (135, (LA p q r b0 b1 b2 ra rb mix [wI 2, wI 2, wI 1, wI 3, wI 0, wU, wU, wU, wU]), [.int 2], (HA p q r b0 b1 b2), 6) _
  refine WGo.s (WStep.istore (L' := (LA p q r b0 b1 b2 ra rb mix [wI 2, wI 2, wI 1, wI 3, wI 0, wI 2, wU, wU, wU])) a0_135 rfl) ?_
  refine WGo.s (WStep.iload a0_137 rfl) ?_
  refine WGo.s (WStep.iload a0_139 rfl) ?_
  refine WGo.s (WStep.icmpF a0_141 (by decide)) ?_
  refine WGo.s (WStep.iconst (0 : Int32) a0_144 rfl) ?_
  refine WGo.s (WStep.istore (L' := (LA p q r b0 b1 b2 ra rb mix [wI 2, wI 2, wI 1, wI 3, wI 0, wI 2, wI 0, wU, wU])) a0_145 rfl) ?_
  refine WGo.s (WStep.goto a0_147) ?_
  refine WGo.s (WStep.aload a0_229 rfl rfl) ?_
  refine WGo.s (WStep.iload a0_231 rfl) ?_
  refine WGo.s (WStep.iload a0_233 rfl) ?_
  refine WGo.s (WStep.aload a0_235 rfl rfl) ?_
  refine WGo.s (WStep.iload a0_237 rfl) ?_
  refine WGo.s (WStep.iload a0_239 rfl) ?_
  refine WGo.callS a0_241 (ok3 hw _ _ _ _) (wd hw 10 rfl) (wd hw 11 rfl) (argsL := [.ref 0, .int 2, .int 2, .ref 1, .int 1, .int 3]) (S := []) (c3_2213 hw _ _ p q r b0 b1 b2 _) rfl rfl rfl rfl rfl rfl (Nat.le_of_ble_eq_true rfl) (Nat.le_of_ble_eq_true rfl) ?_
  rintro _ _ _ ⟨⟨rfl, hE⟩ | ⟨rfl, hE⟩, rfl, rfl⟩
  · exfalso
    simp_all
  · skip
    show WGo _ (244, (LA p q r b0 b1 b2 ra rb mix [wI 2, wI 2, wI 1, wI 3, wI 0, wI 2, wI 0, wU, wU]), [.int 0], (HA p q r b0 b1 b2), 6) _
    refine WGo.s (WStep.istore (L' := (LA p q r b0 b1 b2 ra rb mix [wI 2, wI 2, wI 1, wI 3, wI 0, wI 2, wI 0, wI 0, wU])) a0_244 rfl) ?_
    exact segE0 Z a0 hw n0 p q r b0 b1 b2 ra rb mix _ _ _ _ _ _
theorem segD2222 (Z : State) (a0 : Array Value) (hw : ∀ d ∈ tables_1, d.before a0 Z = true) (n0 : Nat) (p q r b0 b1 b2 : Int64) (ra rb mix : Int32) : WGo (g0 Z (fun k => n0 + k) n0 0 0) (123, (LA p q r b0 b1 b2 ra rb mix [wI 2, wI 2, wI 2, wI 2, wU, wU, wU, wU, wU]), [], (HA p q r b0 b1 b2), 6) (fun v σ' u' => v = some (.int 1) ∧ σ'.length ≤ 16 ∧ u' ≤ 128) := by
  refine WGo.s (WStep.iload a0_123 rfl) ?_
  refine WGo.s (WStep.iload a0_125 rfl) ?_
  refine WGo.s (WStep.isub a0_127) ?_
  show WGo _ (128, (LA p q r b0 b1 b2 ra rb mix [wI 2, wI 2, wI 2, wI 2, wU, wU, wU, wU, wU]), [.int 0], (HA p q r b0 b1 b2), 6) _
  refine WGo.s (WStep.istore (L' := (LA p q r b0 b1 b2 ra rb mix [wI 2, wI 2, wI 2, wI 2, wI 0, wU, wU, wU, wU])) a0_128 rfl) ?_
  refine WGo.s (WStep.iload a0_130 rfl) ?_
  refine WGo.s (WStep.iload a0_132 rfl) ?_
  refine WGo.s (WStep.isub a0_134) ?_
  show WGo _ (135, (LA p q r b0 b1 b2 ra rb mix [wI 2, wI 2, wI 2, wI 2, wI 0, wU, wU, wU, wU]), [.int 0], (HA p q r b0 b1 b2), 6) _
  refine WGo.s (WStep.istore (L' := (LA p q r b0 b1 b2 ra rb mix [wI 2, wI 2, wI 2, wI 2, wI 0, wI 0, wU, wU, wU])) a0_135 rfl) ?_
  refine WGo.s (WStep.iload a0_137 rfl) ?_
  refine WGo.s (WStep.iload a0_139 rfl) ?_
  refine WGo.s (WStep.icmpT a0_141 (by decide)) ?_
  refine WGo.s (WStep.iconst (1 : Int32) a0_150 rfl) ?_
  refine WGo.s (WStep.istore (L' := (LA p q r b0 b1 b2 ra rb mix [wI 2, wI 2, wI 2, wI 2, wI 0, wI 0, wI 1, wU, wU])) a0_151 rfl) ?_
  refine WGo.s (WStep.iload a0_153 rfl) ?_
  refine WGo.s (WStep.ifT a0_155 (by decide)) ?_
  refine WGo.s (WStep.iload a0_175 rfl) ?_
  refine WGo.s (WStep.iconst (1 : Int32) a0_177 rfl) ?_
  refine WGo.s (WStep.icmpT a0_178 (by decide)) ?_
  refine WGo.s (WStep.iload a0_202 rfl) ?_
  refine WGo.s (WStep.iconst (2 : Int32) a0_204 rfl) ?_
  refine WGo.s (WStep.icmpT a0_205 (by decide)) ?_
  refine WGo.s (WStep.aload a0_229 rfl rfl) ?_
  refine WGo.s (WStep.iload a0_231 rfl) ?_
  refine WGo.s (WStep.iload a0_233 rfl) ?_
  refine WGo.s (WStep.aload a0_235 rfl rfl) ?_
  refine WGo.s (WStep.iload a0_237 rfl) ?_
  refine WGo.s (WStep.iload a0_239 rfl) ?_
  refine WGo.callS a0_241 (ok3 hw _ _ _ _) (wd hw 10 rfl) (wd hw 11 rfl) (argsL := [.ref 0, .int 2, .int 2, .ref 1, .int 2, .int 2]) (S := []) (c3_2222 hw _ _ p q r b0 b1 b2 _) rfl rfl rfl rfl rfl rfl (Nat.le_of_ble_eq_true rfl) (Nat.le_of_ble_eq_true rfl) ?_
  rintro _ _ _ ⟨⟨rfl, hE⟩ | ⟨rfl, hE⟩, rfl, rfl⟩
  · skip
    show WGo _ (244, (LA p q r b0 b1 b2 ra rb mix [wI 2, wI 2, wI 2, wI 2, wI 0, wI 0, wI 1, wU, wU]), [.int 1], (HA p q r b0 b1 b2), 6) _
    refine WGo.s (WStep.istore (L' := (LA p q r b0 b1 b2 ra rb mix [wI 2, wI 2, wI 2, wI 2, wI 0, wI 0, wI 1, wI 1, wU])) a0_244 rfl) ?_
    exact segE1 Z a0 hw n0 p q r b0 b1 b2 ra rb mix _ _ _ _ _ _
  · exfalso
    simp_all
theorem segD2223 (Z : State) (a0 : Array Value) (hw : ∀ d ∈ tables_1, d.before a0 Z = true) (n0 : Nat) (p q r b0 b1 b2 : Int64) (ra rb mix : Int32) : WGo (g0 Z (fun k => n0 + k) n0 0 0) (123, (LA p q r b0 b1 b2 ra rb mix [wI 2, wI 2, wI 2, wI 3, wU, wU, wU, wU, wU]), [], (HA p q r b0 b1 b2), 6) (fun v σ' u' => v = some (.int 1) ∧ σ'.length ≤ 16 ∧ u' ≤ 128) := by
  refine WGo.s (WStep.iload a0_123 rfl) ?_
  refine WGo.s (WStep.iload a0_125 rfl) ?_
  refine WGo.s (WStep.isub a0_127) ?_
  show WGo _ (128, (LA p q r b0 b1 b2 ra rb mix [wI 2, wI 2, wI 2, wI 3, wU, wU, wU, wU, wU]), [.int 0], (HA p q r b0 b1 b2), 6) _
  refine WGo.s (WStep.istore (L' := (LA p q r b0 b1 b2 ra rb mix [wI 2, wI 2, wI 2, wI 3, wI 0, wU, wU, wU, wU])) a0_128 rfl) ?_
  refine WGo.s (WStep.iload a0_130 rfl) ?_
  refine WGo.s (WStep.iload a0_132 rfl) ?_
  refine WGo.s (WStep.isub a0_134) ?_
  show WGo _ (135, (LA p q r b0 b1 b2 ra rb mix [wI 2, wI 2, wI 2, wI 3, wI 0, wU, wU, wU, wU]), [.int 1], (HA p q r b0 b1 b2), 6) _
  refine WGo.s (WStep.istore (L' := (LA p q r b0 b1 b2 ra rb mix [wI 2, wI 2, wI 2, wI 3, wI 0, wI 1, wU, wU, wU])) a0_135 rfl) ?_
  refine WGo.s (WStep.iload a0_137 rfl) ?_
  refine WGo.s (WStep.iload a0_139 rfl) ?_
  refine WGo.s (WStep.icmpF a0_141 (by decide)) ?_
  refine WGo.s (WStep.iconst (0 : Int32) a0_144 rfl) ?_
  refine WGo.s (WStep.istore (L' := (LA p q r b0 b1 b2 ra rb mix [wI 2, wI 2, wI 2, wI 3, wI 0, wI 1, wI 0, wU, wU])) a0_145 rfl) ?_
  refine WGo.s (WStep.goto a0_147) ?_
  refine WGo.s (WStep.aload a0_229 rfl rfl) ?_
  refine WGo.s (WStep.iload a0_231 rfl) ?_
  refine WGo.s (WStep.iload a0_233 rfl) ?_
  refine WGo.s (WStep.aload a0_235 rfl rfl) ?_
  refine WGo.s (WStep.iload a0_237 rfl) ?_
  refine WGo.s (WStep.iload a0_239 rfl) ?_
  refine WGo.callS a0_241 (ok3 hw _ _ _ _) (wd hw 10 rfl) (wd hw 11 rfl) (argsL := [.ref 0, .int 2, .int 2, .ref 1, .int 2, .int 3]) (S := []) (c3_2223 hw _ _ p q r b0 b1 b2 _) rfl rfl rfl rfl rfl rfl (Nat.le_of_ble_eq_true rfl) (Nat.le_of_ble_eq_true rfl) ?_
  rintro _ _ _ ⟨⟨rfl, hE⟩ | ⟨rfl, hE⟩, rfl, rfl⟩
  · exfalso
    simp_all
  · skip
    show WGo _ (244, (LA p q r b0 b1 b2 ra rb mix [wI 2, wI 2, wI 2, wI 3, wI 0, wI 1, wI 0, wU, wU]), [.int 0], (HA p q r b0 b1 b2), 6) _
    refine WGo.s (WStep.istore (L' := (LA p q r b0 b1 b2 ra rb mix [wI 2, wI 2, wI 2, wI 3, wI 0, wI 1, wI 0, wI 0, wU])) a0_244 rfl) ?_
    exact segE0 Z a0 hw n0 p q r b0 b1 b2 ra rb mix _ _ _ _ _ _
theorem segD2233 (Z : State) (a0 : Array Value) (hw : ∀ d ∈ tables_1, d.before a0 Z = true) (n0 : Nat) (p q r b0 b1 b2 : Int64) (ra rb mix : Int32) : WGo (g0 Z (fun k => n0 + k) n0 0 0) (123, (LA p q r b0 b1 b2 ra rb mix [wI 2, wI 2, wI 3, wI 3, wU, wU, wU, wU, wU]), [], (HA p q r b0 b1 b2), 6) (fun v σ' u' => v = some (.int 1) ∧ σ'.length ≤ 16 ∧ u' ≤ 128) := by
  refine WGo.s (WStep.iload a0_123 rfl) ?_
  refine WGo.s (WStep.iload a0_125 rfl) ?_
  refine WGo.s (WStep.isub a0_127) ?_
  show WGo _ (128, (LA p q r b0 b1 b2 ra rb mix [wI 2, wI 2, wI 3, wI 3, wU, wU, wU, wU, wU]), [.int 0], (HA p q r b0 b1 b2), 6) _
  refine WGo.s (WStep.istore (L' := (LA p q r b0 b1 b2 ra rb mix [wI 2, wI 2, wI 3, wI 3, wI 0, wU, wU, wU, wU])) a0_128 rfl) ?_
  refine WGo.s (WStep.iload a0_130 rfl) ?_
  refine WGo.s (WStep.iload a0_132 rfl) ?_
  refine WGo.s (WStep.isub a0_134) ?_
  show WGo _ (135, (LA p q r b0 b1 b2 ra rb mix [wI 2, wI 2, wI 3, wI 3, wI 0, wU, wU, wU, wU]), [.int 0], (HA p q r b0 b1 b2), 6) _
  refine WGo.s (WStep.istore (L' := (LA p q r b0 b1 b2 ra rb mix [wI 2, wI 2, wI 3, wI 3, wI 0, wI 0, wU, wU, wU])) a0_135 rfl) ?_
  refine WGo.s (WStep.iload a0_137 rfl) ?_
  refine WGo.s (WStep.iload a0_139 rfl) ?_
  refine WGo.s (WStep.icmpT a0_141 (by decide)) ?_
  refine WGo.s (WStep.iconst (1 : Int32) a0_150 rfl) ?_
  refine WGo.s (WStep.istore (L' := (LA p q r b0 b1 b2 ra rb mix [wI 2, wI 2, wI 3, wI 3, wI 0, wI 0, wI 1, wU, wU])) a0_151 rfl) ?_
  refine WGo.s (WStep.iload a0_153 rfl) ?_
  refine WGo.s (WStep.ifT a0_155 (by decide)) ?_
  refine WGo.s (WStep.iload a0_175 rfl) ?_
  refine WGo.s (WStep.iconst (1 : Int32) a0_177 rfl) ?_
  refine WGo.s (WStep.icmpT a0_178 (by decide)) ?_
  refine WGo.s (WStep.iload a0_202 rfl) ?_
  refine WGo.s (WStep.iconst (2 : Int32) a0_204 rfl) ?_
  refine WGo.s (WStep.icmpT a0_205 (by decide)) ?_
  refine WGo.s (WStep.aload a0_229 rfl rfl) ?_
  refine WGo.s (WStep.iload a0_231 rfl) ?_
  refine WGo.s (WStep.iload a0_233 rfl) ?_
  refine WGo.s (WStep.aload a0_235 rfl rfl) ?_
  refine WGo.s (WStep.iload a0_237 rfl) ?_
  refine WGo.s (WStep.iload a0_239 rfl) ?_
  refine WGo.callS a0_241 (ok3 hw _ _ _ _) (wd hw 10 rfl) (wd hw 11 rfl) (argsL := [.ref 0, .int 2, .int 2, .ref 1, .int 3, .int 3]) (S := []) (c3_2233 hw _ _ p q r b0 b1 b2 _) rfl rfl rfl rfl rfl rfl (Nat.le_of_ble_eq_true rfl) (Nat.le_of_ble_eq_true rfl) ?_
  rintro _ _ _ ⟨⟨rfl, hE⟩ | ⟨rfl, hE⟩, rfl, rfl⟩
  · skip
    show WGo _ (244, (LA p q r b0 b1 b2 ra rb mix [wI 2, wI 2, wI 3, wI 3, wI 0, wI 0, wI 1, wU, wU]), [.int 1], (HA p q r b0 b1 b2), 6) _
    refine WGo.s (WStep.istore (L' := (LA p q r b0 b1 b2 ra rb mix [wI 2, wI 2, wI 3, wI 3, wI 0, wI 0, wI 1, wI 1, wU])) a0_244 rfl) ?_
    exact segE1 Z a0 hw n0 p q r b0 b1 b2 ra rb mix _ _ _ _ _ _
  · exfalso
    simp_all
theorem segD2300 (Z : State) (a0 : Array Value) (hw : ∀ d ∈ tables_1, d.before a0 Z = true) (n0 : Nat) (p q r b0 b1 b2 : Int64) (ra rb mix : Int32) : WGo (g0 Z (fun k => n0 + k) n0 0 0) (123, (LA p q r b0 b1 b2 ra rb mix [wI 2, wI 3, wI 0, wI 0, wU, wU, wU, wU, wU]), [], (HA p q r b0 b1 b2), 6) (fun v σ' u' => v = some (.int 1) ∧ σ'.length ≤ 16 ∧ u' ≤ 128) := by
  refine WGo.s (WStep.iload a0_123 rfl) ?_
  refine WGo.s (WStep.iload a0_125 rfl) ?_
  refine WGo.s (WStep.isub a0_127) ?_
  show WGo _ (128, (LA p q r b0 b1 b2 ra rb mix [wI 2, wI 3, wI 0, wI 0, wU, wU, wU, wU, wU]), [.int 1], (HA p q r b0 b1 b2), 6) _
  refine WGo.s (WStep.istore (L' := (LA p q r b0 b1 b2 ra rb mix [wI 2, wI 3, wI 0, wI 0, wI 1, wU, wU, wU, wU])) a0_128 rfl) ?_
  refine WGo.s (WStep.iload a0_130 rfl) ?_
  refine WGo.s (WStep.iload a0_132 rfl) ?_
  refine WGo.s (WStep.isub a0_134) ?_
  show WGo _ (135, (LA p q r b0 b1 b2 ra rb mix [wI 2, wI 3, wI 0, wI 0, wI 1, wU, wU, wU, wU]), [.int 0], (HA p q r b0 b1 b2), 6) _
  refine WGo.s (WStep.istore (L' := (LA p q r b0 b1 b2 ra rb mix [wI 2, wI 3, wI 0, wI 0, wI 1, wI 0, wU, wU, wU])) a0_135 rfl) ?_
  refine WGo.s (WStep.iload a0_137 rfl) ?_
  refine WGo.s (WStep.iload a0_139 rfl) ?_
  refine WGo.s (WStep.icmpF a0_141 (by decide)) ?_
  refine WGo.s (WStep.iconst (0 : Int32) a0_144 rfl) ?_
  refine WGo.s (WStep.istore (L' := (LA p q r b0 b1 b2 ra rb mix [wI 2, wI 3, wI 0, wI 0, wI 1, wI 0, wI 0, wU, wU])) a0_145 rfl) ?_
  refine WGo.s (WStep.goto a0_147) ?_
  refine WGo.s (WStep.aload a0_229 rfl rfl) ?_
  refine WGo.s (WStep.iload a0_231 rfl) ?_
  refine WGo.s (WStep.iload a0_233 rfl) ?_
  refine WGo.s (WStep.aload a0_235 rfl rfl) ?_
  refine WGo.s (WStep.iload a0_237 rfl) ?_
  refine WGo.s (WStep.iload a0_239 rfl) ?_
  refine WGo.callS a0_241 (ok3 hw _ _ _ _) (wd hw 10 rfl) (wd hw 11 rfl) (argsL := [.ref 0, .int 2, .int 3, .ref 1, .int 0, .int 0]) (S := []) (c3_2300 hw _ _ p q r b0 b1 b2 _) rfl rfl rfl rfl rfl rfl (Nat.le_of_ble_eq_true rfl) (Nat.le_of_ble_eq_true rfl) ?_
  rintro _ _ _ ⟨⟨rfl, hE⟩ | ⟨rfl, hE⟩, rfl, rfl⟩
  · exfalso
    simp_all
  · skip
    show WGo _ (244, (LA p q r b0 b1 b2 ra rb mix [wI 2, wI 3, wI 0, wI 0, wI 1, wI 0, wI 0, wU, wU]), [.int 0], (HA p q r b0 b1 b2), 6) _
    refine WGo.s (WStep.istore (L' := (LA p q r b0 b1 b2 ra rb mix [wI 2, wI 3, wI 0, wI 0, wI 1, wI 0, wI 0, wI 0, wU])) a0_244 rfl) ?_
    exact segE0 Z a0 hw n0 p q r b0 b1 b2 ra rb mix _ _ _ _ _ _
theorem segD2301 (Z : State) (a0 : Array Value) (hw : ∀ d ∈ tables_1, d.before a0 Z = true) (n0 : Nat) (p q r b0 b1 b2 : Int64) (ra rb mix : Int32) : WGo (g0 Z (fun k => n0 + k) n0 0 0) (123, (LA p q r b0 b1 b2 ra rb mix [wI 2, wI 3, wI 0, wI 1, wU, wU, wU, wU, wU]), [], (HA p q r b0 b1 b2), 6) (fun v σ' u' => v = some (.int 1) ∧ σ'.length ≤ 16 ∧ u' ≤ 128) := by
  refine WGo.s (WStep.iload a0_123 rfl) ?_
  refine WGo.s (WStep.iload a0_125 rfl) ?_
  refine WGo.s (WStep.isub a0_127) ?_
  show WGo _ (128, (LA p q r b0 b1 b2 ra rb mix [wI 2, wI 3, wI 0, wI 1, wU, wU, wU, wU, wU]), [.int 1], (HA p q r b0 b1 b2), 6) _
  refine WGo.s (WStep.istore (L' := (LA p q r b0 b1 b2 ra rb mix [wI 2, wI 3, wI 0, wI 1, wI 1, wU, wU, wU, wU])) a0_128 rfl) ?_
  refine WGo.s (WStep.iload a0_130 rfl) ?_
  refine WGo.s (WStep.iload a0_132 rfl) ?_
  refine WGo.s (WStep.isub a0_134) ?_
  show WGo _ (135, (LA p q r b0 b1 b2 ra rb mix [wI 2, wI 3, wI 0, wI 1, wI 1, wU, wU, wU, wU]), [.int 1], (HA p q r b0 b1 b2), 6) _
  refine WGo.s (WStep.istore (L' := (LA p q r b0 b1 b2 ra rb mix [wI 2, wI 3, wI 0, wI 1, wI 1, wI 1, wU, wU, wU])) a0_135 rfl) ?_
  refine WGo.s (WStep.iload a0_137 rfl) ?_
  refine WGo.s (WStep.iload a0_139 rfl) ?_
  refine WGo.s (WStep.icmpT a0_141 (by decide)) ?_
  refine WGo.s (WStep.iconst (1 : Int32) a0_150 rfl) ?_
  refine WGo.s (WStep.istore (L' := (LA p q r b0 b1 b2 ra rb mix [wI 2, wI 3, wI 0, wI 1, wI 1, wI 1, wI 1, wU, wU])) a0_151 rfl) ?_
  refine WGo.s (WStep.iload a0_153 rfl) ?_
  refine WGo.s (WStep.ifF a0_155 (by decide)) ?_
  refine WGo.s (WStep.aload a0_158 rfl rfl) ?_
  refine WGo.s (WStep.iload a0_160 rfl) ?_
  refine WGo.s (WStep.laload 2 a0_162 rfl (by decide) rfl rfl) ?_
  refine WGo.s (WStep.aload a0_163 rfl rfl) ?_
  refine WGo.s (WStep.iload a0_165 rfl) ?_
  refine WGo.s (WStep.laload 0 a0_167 rfl (by decide) rfl rfl) ?_
  refine WGo.s (WStep.lcmp a0_168) ?_
  refine WGo.eqL a0_169 (fun h169 => ?_) (fun h169 => ?_)
  · refine WGo.s (WStep.iload a0_175 rfl) ?_
    refine WGo.s (WStep.iconst (1 : Int32) a0_177 rfl) ?_
    refine WGo.s (WStep.icmpT a0_178 (by decide)) ?_
    refine WGo.s (WStep.iload a0_202 rfl) ?_
    refine WGo.s (WStep.iconst (2 : Int32) a0_204 rfl) ?_
    refine WGo.s (WStep.icmpT a0_205 (by decide)) ?_
    refine WGo.s (WStep.aload a0_229 rfl rfl) ?_
    refine WGo.s (WStep.iload a0_231 rfl) ?_
    refine WGo.s (WStep.iload a0_233 rfl) ?_
    refine WGo.s (WStep.aload a0_235 rfl rfl) ?_
    refine WGo.s (WStep.iload a0_237 rfl) ?_
    refine WGo.s (WStep.iload a0_239 rfl) ?_
    refine WGo.callS a0_241 (ok3 hw _ _ _ _) (wd hw 10 rfl) (wd hw 11 rfl) (argsL := [.ref 0, .int 2, .int 3, .ref 1, .int 0, .int 1]) (S := []) (c3_2301 hw _ _ p q r b0 b1 b2 _) rfl rfl rfl rfl rfl rfl (Nat.le_of_ble_eq_true rfl) (Nat.le_of_ble_eq_true rfl) ?_
    rintro _ _ _ ⟨⟨rfl, hE⟩ | ⟨rfl, hE⟩, rfl, rfl⟩
    · skip
      show WGo _ (244, (LA p q r b0 b1 b2 ra rb mix [wI 2, wI 3, wI 0, wI 1, wI 1, wI 1, wI 1, wU, wU]), [.int 1], (HA p q r b0 b1 b2), 6) _
      refine WGo.s (WStep.istore (L' := (LA p q r b0 b1 b2 ra rb mix [wI 2, wI 3, wI 0, wI 1, wI 1, wI 1, wI 1, wI 1, wU])) a0_244 rfl) ?_
      exact segE1 Z a0 hw n0 p q r b0 b1 b2 ra rb mix _ _ _ _ _ _
    · exfalso
      simp_all
  · refine WGo.s (WStep.iconst (0 : Int32) a0_172 rfl) ?_
    refine WGo.s (WStep.istore (L' := (LA p q r b0 b1 b2 ra rb mix [wI 2, wI 3, wI 0, wI 1, wI 1, wI 1, wI 0, wU, wU])) a0_173 rfl) ?_
    refine WGo.s (WStep.iload a0_175 rfl) ?_
    refine WGo.s (WStep.iconst (1 : Int32) a0_177 rfl) ?_
    refine WGo.s (WStep.icmpT a0_178 (by decide)) ?_
    refine WGo.s (WStep.iload a0_202 rfl) ?_
    refine WGo.s (WStep.iconst (2 : Int32) a0_204 rfl) ?_
    refine WGo.s (WStep.icmpT a0_205 (by decide)) ?_
    refine WGo.s (WStep.aload a0_229 rfl rfl) ?_
    refine WGo.s (WStep.iload a0_231 rfl) ?_
    refine WGo.s (WStep.iload a0_233 rfl) ?_
    refine WGo.s (WStep.aload a0_235 rfl rfl) ?_
    refine WGo.s (WStep.iload a0_237 rfl) ?_
    refine WGo.s (WStep.iload a0_239 rfl) ?_
    refine WGo.callS a0_241 (ok3 hw _ _ _ _) (wd hw 10 rfl) (wd hw 11 rfl) (argsL := [.ref 0, .int 2, .int 3, .ref 1, .int 0, .int 1]) (S := []) (c3_2301 hw _ _ p q r b0 b1 b2 _) rfl rfl rfl rfl rfl rfl (Nat.le_of_ble_eq_true rfl) (Nat.le_of_ble_eq_true rfl) ?_
    rintro _ _ _ ⟨⟨rfl, hE⟩ | ⟨rfl, hE⟩, rfl, rfl⟩
    · exfalso
      simp_all
    · skip
      show WGo _ (244, (LA p q r b0 b1 b2 ra rb mix [wI 2, wI 3, wI 0, wI 1, wI 1, wI 1, wI 0, wU, wU]), [.int 0], (HA p q r b0 b1 b2), 6) _
      refine WGo.s (WStep.istore (L' := (LA p q r b0 b1 b2 ra rb mix [wI 2, wI 3, wI 0, wI 1, wI 1, wI 1, wI 0, wI 0, wU])) a0_244 rfl) ?_
      exact segE0 Z a0 hw n0 p q r b0 b1 b2 ra rb mix _ _ _ _ _ _
theorem segD2302 (Z : State) (a0 : Array Value) (hw : ∀ d ∈ tables_1, d.before a0 Z = true) (n0 : Nat) (p q r b0 b1 b2 : Int64) (ra rb mix : Int32) : WGo (g0 Z (fun k => n0 + k) n0 0 0) (123, (LA p q r b0 b1 b2 ra rb mix [wI 2, wI 3, wI 0, wI 2, wU, wU, wU, wU, wU]), [], (HA p q r b0 b1 b2), 6) (fun v σ' u' => v = some (.int 1) ∧ σ'.length ≤ 16 ∧ u' ≤ 128) := by
  refine WGo.s (WStep.iload a0_123 rfl) ?_
  refine WGo.s (WStep.iload a0_125 rfl) ?_
  refine WGo.s (WStep.isub a0_127) ?_
  show WGo _ (128, (LA p q r b0 b1 b2 ra rb mix [wI 2, wI 3, wI 0, wI 2, wU, wU, wU, wU, wU]), [.int 1], (HA p q r b0 b1 b2), 6) _
  refine WGo.s (WStep.istore (L' := (LA p q r b0 b1 b2 ra rb mix [wI 2, wI 3, wI 0, wI 2, wI 1, wU, wU, wU, wU])) a0_128 rfl) ?_
  refine WGo.s (WStep.iload a0_130 rfl) ?_
  refine WGo.s (WStep.iload a0_132 rfl) ?_
  refine WGo.s (WStep.isub a0_134) ?_
  show WGo _ (135, (LA p q r b0 b1 b2 ra rb mix [wI 2, wI 3, wI 0, wI 2, wI 1, wU, wU, wU, wU]), [.int 2], (HA p q r b0 b1 b2), 6) _
  refine WGo.s (WStep.istore (L' := (LA p q r b0 b1 b2 ra rb mix [wI 2, wI 3, wI 0, wI 2, wI 1, wI 2, wU, wU, wU])) a0_135 rfl) ?_
  refine WGo.s (WStep.iload a0_137 rfl) ?_
  refine WGo.s (WStep.iload a0_139 rfl) ?_
  refine WGo.s (WStep.icmpF a0_141 (by decide)) ?_
  refine WGo.s (WStep.iconst (0 : Int32) a0_144 rfl) ?_
  refine WGo.s (WStep.istore (L' := (LA p q r b0 b1 b2 ra rb mix [wI 2, wI 3, wI 0, wI 2, wI 1, wI 2, wI 0, wU, wU])) a0_145 rfl) ?_
  refine WGo.s (WStep.goto a0_147) ?_
  refine WGo.s (WStep.aload a0_229 rfl rfl) ?_
  refine WGo.s (WStep.iload a0_231 rfl) ?_
  refine WGo.s (WStep.iload a0_233 rfl) ?_
  refine WGo.s (WStep.aload a0_235 rfl rfl) ?_
  refine WGo.s (WStep.iload a0_237 rfl) ?_
  refine WGo.s (WStep.iload a0_239 rfl) ?_
  refine WGo.callS a0_241 (ok3 hw _ _ _ _) (wd hw 10 rfl) (wd hw 11 rfl) (argsL := [.ref 0, .int 2, .int 3, .ref 1, .int 0, .int 2]) (S := []) (c3_2302 hw _ _ p q r b0 b1 b2 _) rfl rfl rfl rfl rfl rfl (Nat.le_of_ble_eq_true rfl) (Nat.le_of_ble_eq_true rfl) ?_
  rintro _ _ _ ⟨⟨rfl, hE⟩ | ⟨rfl, hE⟩, rfl, rfl⟩
  · exfalso
    simp_all
  · skip
    show WGo _ (244, (LA p q r b0 b1 b2 ra rb mix [wI 2, wI 3, wI 0, wI 2, wI 1, wI 2, wI 0, wU, wU]), [.int 0], (HA p q r b0 b1 b2), 6) _
    refine WGo.s (WStep.istore (L' := (LA p q r b0 b1 b2 ra rb mix [wI 2, wI 3, wI 0, wI 2, wI 1, wI 2, wI 0, wI 0, wU])) a0_244 rfl) ?_
    exact segE0 Z a0 hw n0 p q r b0 b1 b2 ra rb mix _ _ _ _ _ _
theorem segD2303 (Z : State) (a0 : Array Value) (hw : ∀ d ∈ tables_1, d.before a0 Z = true) (n0 : Nat) (p q r b0 b1 b2 : Int64) (ra rb mix : Int32) : WGo (g0 Z (fun k => n0 + k) n0 0 0) (123, (LA p q r b0 b1 b2 ra rb mix [wI 2, wI 3, wI 0, wI 3, wU, wU, wU, wU, wU]), [], (HA p q r b0 b1 b2), 6) (fun v σ' u' => v = some (.int 1) ∧ σ'.length ≤ 16 ∧ u' ≤ 128) := by
  refine WGo.s (WStep.iload a0_123 rfl) ?_
  refine WGo.s (WStep.iload a0_125 rfl) ?_
  refine WGo.s (WStep.isub a0_127) ?_
  show WGo _ (128, (LA p q r b0 b1 b2 ra rb mix [wI 2, wI 3, wI 0, wI 3, wU, wU, wU, wU, wU]), [.int 1], (HA p q r b0 b1 b2), 6) _
  refine WGo.s (WStep.istore (L' := (LA p q r b0 b1 b2 ra rb mix [wI 2, wI 3, wI 0, wI 3, wI 1, wU, wU, wU, wU])) a0_128 rfl) ?_
  refine WGo.s (WStep.iload a0_130 rfl) ?_
  refine WGo.s (WStep.iload a0_132 rfl) ?_
  refine WGo.s (WStep.isub a0_134) ?_
  show WGo _ (135, (LA p q r b0 b1 b2 ra rb mix [wI 2, wI 3, wI 0, wI 3, wI 1, wU, wU, wU, wU]), [.int 3], (HA p q r b0 b1 b2), 6) _
  refine WGo.s (WStep.istore (L' := (LA p q r b0 b1 b2 ra rb mix [wI 2, wI 3, wI 0, wI 3, wI 1, wI 3, wU, wU, wU])) a0_135 rfl) ?_
  refine WGo.s (WStep.iload a0_137 rfl) ?_
  refine WGo.s (WStep.iload a0_139 rfl) ?_
  refine WGo.s (WStep.icmpF a0_141 (by decide)) ?_
  refine WGo.s (WStep.iconst (0 : Int32) a0_144 rfl) ?_
  refine WGo.s (WStep.istore (L' := (LA p q r b0 b1 b2 ra rb mix [wI 2, wI 3, wI 0, wI 3, wI 1, wI 3, wI 0, wU, wU])) a0_145 rfl) ?_
  refine WGo.s (WStep.goto a0_147) ?_
  refine WGo.s (WStep.aload a0_229 rfl rfl) ?_
  refine WGo.s (WStep.iload a0_231 rfl) ?_
  refine WGo.s (WStep.iload a0_233 rfl) ?_
  refine WGo.s (WStep.aload a0_235 rfl rfl) ?_
  refine WGo.s (WStep.iload a0_237 rfl) ?_
  refine WGo.s (WStep.iload a0_239 rfl) ?_
  refine WGo.callS a0_241 (ok3 hw _ _ _ _) (wd hw 10 rfl) (wd hw 11 rfl) (argsL := [.ref 0, .int 2, .int 3, .ref 1, .int 0, .int 3]) (S := []) (c3_2303 hw _ _ p q r b0 b1 b2 _) rfl rfl rfl rfl rfl rfl (Nat.le_of_ble_eq_true rfl) (Nat.le_of_ble_eq_true rfl) ?_
  rintro _ _ _ ⟨⟨rfl, hE⟩ | ⟨rfl, hE⟩, rfl, rfl⟩
  · exfalso
    simp_all
  · skip
    show WGo _ (244, (LA p q r b0 b1 b2 ra rb mix [wI 2, wI 3, wI 0, wI 3, wI 1, wI 3, wI 0, wU, wU]), [.int 0], (HA p q r b0 b1 b2), 6) _
    refine WGo.s (WStep.istore (L' := (LA p q r b0 b1 b2 ra rb mix [wI 2, wI 3, wI 0, wI 3, wI 1, wI 3, wI 0, wI 0, wU])) a0_244 rfl) ?_
    exact segE0 Z a0 hw n0 p q r b0 b1 b2 ra rb mix _ _ _ _ _ _
theorem segD2311 (Z : State) (a0 : Array Value) (hw : ∀ d ∈ tables_1, d.before a0 Z = true) (n0 : Nat) (p q r b0 b1 b2 : Int64) (ra rb mix : Int32) : WGo (g0 Z (fun k => n0 + k) n0 0 0) (123, (LA p q r b0 b1 b2 ra rb mix [wI 2, wI 3, wI 1, wI 1, wU, wU, wU, wU, wU]), [], (HA p q r b0 b1 b2), 6) (fun v σ' u' => v = some (.int 1) ∧ σ'.length ≤ 16 ∧ u' ≤ 128) := by
  refine WGo.s (WStep.iload a0_123 rfl) ?_
  refine WGo.s (WStep.iload a0_125 rfl) ?_
  refine WGo.s (WStep.isub a0_127) ?_
  show WGo _ (128, (LA p q r b0 b1 b2 ra rb mix [wI 2, wI 3, wI 1, wI 1, wU, wU, wU, wU, wU]), [.int 1], (HA p q r b0 b1 b2), 6) _
  refine WGo.s (WStep.istore (L' := (LA p q r b0 b1 b2 ra rb mix [wI 2, wI 3, wI 1, wI 1, wI 1, wU, wU, wU, wU])) a0_128 rfl) ?_
  refine WGo.s (WStep.iload a0_130 rfl) ?_
  refine WGo.s (WStep.iload a0_132 rfl) ?_
  refine WGo.s (WStep.isub a0_134) ?_
  show WGo _ (135, (LA p q r b0 b1 b2 ra rb mix [wI 2, wI 3, wI 1, wI 1, wI 1, wU, wU, wU, wU]), [.int 0], (HA p q r b0 b1 b2), 6) _
  refine WGo.s (WStep.istore (L' := (LA p q r b0 b1 b2 ra rb mix [wI 2, wI 3, wI 1, wI 1, wI 1, wI 0, wU, wU, wU])) a0_135 rfl) ?_
  refine WGo.s (WStep.iload a0_137 rfl) ?_
  refine WGo.s (WStep.iload a0_139 rfl) ?_
  refine WGo.s (WStep.icmpF a0_141 (by decide)) ?_
  refine WGo.s (WStep.iconst (0 : Int32) a0_144 rfl) ?_
  refine WGo.s (WStep.istore (L' := (LA p q r b0 b1 b2 ra rb mix [wI 2, wI 3, wI 1, wI 1, wI 1, wI 0, wI 0, wU, wU])) a0_145 rfl) ?_
  refine WGo.s (WStep.goto a0_147) ?_
  refine WGo.s (WStep.aload a0_229 rfl rfl) ?_
  refine WGo.s (WStep.iload a0_231 rfl) ?_
  refine WGo.s (WStep.iload a0_233 rfl) ?_
  refine WGo.s (WStep.aload a0_235 rfl rfl) ?_
  refine WGo.s (WStep.iload a0_237 rfl) ?_
  refine WGo.s (WStep.iload a0_239 rfl) ?_
  refine WGo.callS a0_241 (ok3 hw _ _ _ _) (wd hw 10 rfl) (wd hw 11 rfl) (argsL := [.ref 0, .int 2, .int 3, .ref 1, .int 1, .int 1]) (S := []) (c3_2311 hw _ _ p q r b0 b1 b2 _) rfl rfl rfl rfl rfl rfl (Nat.le_of_ble_eq_true rfl) (Nat.le_of_ble_eq_true rfl) ?_
  rintro _ _ _ ⟨⟨rfl, hE⟩ | ⟨rfl, hE⟩, rfl, rfl⟩
  · exfalso
    simp_all
  · skip
    show WGo _ (244, (LA p q r b0 b1 b2 ra rb mix [wI 2, wI 3, wI 1, wI 1, wI 1, wI 0, wI 0, wU, wU]), [.int 0], (HA p q r b0 b1 b2), 6) _
    refine WGo.s (WStep.istore (L' := (LA p q r b0 b1 b2 ra rb mix [wI 2, wI 3, wI 1, wI 1, wI 1, wI 0, wI 0, wI 0, wU])) a0_244 rfl) ?_
    exact segE0 Z a0 hw n0 p q r b0 b1 b2 ra rb mix _ _ _ _ _ _
theorem segD2312 (Z : State) (a0 : Array Value) (hw : ∀ d ∈ tables_1, d.before a0 Z = true) (n0 : Nat) (p q r b0 b1 b2 : Int64) (ra rb mix : Int32) : WGo (g0 Z (fun k => n0 + k) n0 0 0) (123, (LA p q r b0 b1 b2 ra rb mix [wI 2, wI 3, wI 1, wI 2, wU, wU, wU, wU, wU]), [], (HA p q r b0 b1 b2), 6) (fun v σ' u' => v = some (.int 1) ∧ σ'.length ≤ 16 ∧ u' ≤ 128) := by
  refine WGo.s (WStep.iload a0_123 rfl) ?_
  refine WGo.s (WStep.iload a0_125 rfl) ?_
  refine WGo.s (WStep.isub a0_127) ?_
  show WGo _ (128, (LA p q r b0 b1 b2 ra rb mix [wI 2, wI 3, wI 1, wI 2, wU, wU, wU, wU, wU]), [.int 1], (HA p q r b0 b1 b2), 6) _
  refine WGo.s (WStep.istore (L' := (LA p q r b0 b1 b2 ra rb mix [wI 2, wI 3, wI 1, wI 2, wI 1, wU, wU, wU, wU])) a0_128 rfl) ?_
  refine WGo.s (WStep.iload a0_130 rfl) ?_
  refine WGo.s (WStep.iload a0_132 rfl) ?_
  refine WGo.s (WStep.isub a0_134) ?_
  show WGo _ (135, (LA p q r b0 b1 b2 ra rb mix [wI 2, wI 3, wI 1, wI 2, wI 1, wU, wU, wU, wU]), [.int 1], (HA p q r b0 b1 b2), 6) _
  refine WGo.s (WStep.istore (L' := (LA p q r b0 b1 b2 ra rb mix [wI 2, wI 3, wI 1, wI 2, wI 1, wI 1, wU, wU, wU])) a0_135 rfl) ?_
  refine WGo.s (WStep.iload a0_137 rfl) ?_
  refine WGo.s (WStep.iload a0_139 rfl) ?_
  refine WGo.s (WStep.icmpT a0_141 (by decide)) ?_
  refine WGo.s (WStep.iconst (1 : Int32) a0_150 rfl) ?_
  refine WGo.s (WStep.istore (L' := (LA p q r b0 b1 b2 ra rb mix [wI 2, wI 3, wI 1, wI 2, wI 1, wI 1, wI 1, wU, wU])) a0_151 rfl) ?_
  refine WGo.s (WStep.iload a0_153 rfl) ?_
  refine WGo.s (WStep.ifF a0_155 (by decide)) ?_
  refine WGo.s (WStep.aload a0_158 rfl rfl) ?_
  refine WGo.s (WStep.iload a0_160 rfl) ?_
  refine WGo.s (WStep.laload 2 a0_162 rfl (by decide) rfl rfl) ?_
  refine WGo.s (WStep.aload a0_163 rfl rfl) ?_
  refine WGo.s (WStep.iload a0_165 rfl) ?_
  refine WGo.s (WStep.laload 1 a0_167 rfl (by decide) rfl rfl) ?_
  refine WGo.s (WStep.lcmp a0_168) ?_
  refine WGo.eqL a0_169 (fun h169 => ?_) (fun h169 => ?_)
  · refine WGo.s (WStep.iload a0_175 rfl) ?_
    refine WGo.s (WStep.iconst (1 : Int32) a0_177 rfl) ?_
    refine WGo.s (WStep.icmpT a0_178 (by decide)) ?_
    refine WGo.s (WStep.iload a0_202 rfl) ?_
    refine WGo.s (WStep.iconst (2 : Int32) a0_204 rfl) ?_
    refine WGo.s (WStep.icmpT a0_205 (by decide)) ?_
    refine WGo.s (WStep.aload a0_229 rfl rfl) ?_
    refine WGo.s (WStep.iload a0_231 rfl) ?_
    refine WGo.s (WStep.iload a0_233 rfl) ?_
    refine WGo.s (WStep.aload a0_235 rfl rfl) ?_
    refine WGo.s (WStep.iload a0_237 rfl) ?_
    refine WGo.s (WStep.iload a0_239 rfl) ?_
    refine WGo.callS a0_241 (ok3 hw _ _ _ _) (wd hw 10 rfl) (wd hw 11 rfl) (argsL := [.ref 0, .int 2, .int 3, .ref 1, .int 1, .int 2]) (S := []) (c3_2312 hw _ _ p q r b0 b1 b2 _) rfl rfl rfl rfl rfl rfl (Nat.le_of_ble_eq_true rfl) (Nat.le_of_ble_eq_true rfl) ?_
    rintro _ _ _ ⟨⟨rfl, hE⟩ | ⟨rfl, hE⟩, rfl, rfl⟩
    · skip
      show WGo _ (244, (LA p q r b0 b1 b2 ra rb mix [wI 2, wI 3, wI 1, wI 2, wI 1, wI 1, wI 1, wU, wU]), [.int 1], (HA p q r b0 b1 b2), 6) _
      refine WGo.s (WStep.istore (L' := (LA p q r b0 b1 b2 ra rb mix [wI 2, wI 3, wI 1, wI 2, wI 1, wI 1, wI 1, wI 1, wU])) a0_244 rfl) ?_
      exact segE1 Z a0 hw n0 p q r b0 b1 b2 ra rb mix _ _ _ _ _ _
    · exfalso
      simp_all
  · refine WGo.s (WStep.iconst (0 : Int32) a0_172 rfl) ?_
    refine WGo.s (WStep.istore (L' := (LA p q r b0 b1 b2 ra rb mix [wI 2, wI 3, wI 1, wI 2, wI 1, wI 1, wI 0, wU, wU])) a0_173 rfl) ?_
    refine WGo.s (WStep.iload a0_175 rfl) ?_
    refine WGo.s (WStep.iconst (1 : Int32) a0_177 rfl) ?_
    refine WGo.s (WStep.icmpT a0_178 (by decide)) ?_
    refine WGo.s (WStep.iload a0_202 rfl) ?_
    refine WGo.s (WStep.iconst (2 : Int32) a0_204 rfl) ?_
    refine WGo.s (WStep.icmpT a0_205 (by decide)) ?_
    refine WGo.s (WStep.aload a0_229 rfl rfl) ?_
    refine WGo.s (WStep.iload a0_231 rfl) ?_
    refine WGo.s (WStep.iload a0_233 rfl) ?_
    refine WGo.s (WStep.aload a0_235 rfl rfl) ?_
    refine WGo.s (WStep.iload a0_237 rfl) ?_
    refine WGo.s (WStep.iload a0_239 rfl) ?_
    refine WGo.callS a0_241 (ok3 hw _ _ _ _) (wd hw 10 rfl) (wd hw 11 rfl) (argsL := [.ref 0, .int 2, .int 3, .ref 1, .int 1, .int 2]) (S := []) (c3_2312 hw _ _ p q r b0 b1 b2 _) rfl rfl rfl rfl rfl rfl (Nat.le_of_ble_eq_true rfl) (Nat.le_of_ble_eq_true rfl) ?_
    rintro _ _ _ ⟨⟨rfl, hE⟩ | ⟨rfl, hE⟩, rfl, rfl⟩
    · exfalso
      simp_all
    · skip
      show WGo _ (244, (LA p q r b0 b1 b2 ra rb mix [wI 2, wI 3, wI 1, wI 2, wI 1, wI 1, wI 0, wU, wU]), [.int 0], (HA p q r b0 b1 b2), 6) _
      refine WGo.s (WStep.istore (L' := (LA p q r b0 b1 b2 ra rb mix [wI 2, wI 3, wI 1, wI 2, wI 1, wI 1, wI 0, wI 0, wU])) a0_244 rfl) ?_
      exact segE0 Z a0 hw n0 p q r b0 b1 b2 ra rb mix _ _ _ _ _ _
theorem segD2313 (Z : State) (a0 : Array Value) (hw : ∀ d ∈ tables_1, d.before a0 Z = true) (n0 : Nat) (p q r b0 b1 b2 : Int64) (ra rb mix : Int32) : WGo (g0 Z (fun k => n0 + k) n0 0 0) (123, (LA p q r b0 b1 b2 ra rb mix [wI 2, wI 3, wI 1, wI 3, wU, wU, wU, wU, wU]), [], (HA p q r b0 b1 b2), 6) (fun v σ' u' => v = some (.int 1) ∧ σ'.length ≤ 16 ∧ u' ≤ 128) := by
  refine WGo.s (WStep.iload a0_123 rfl) ?_
  refine WGo.s (WStep.iload a0_125 rfl) ?_
  refine WGo.s (WStep.isub a0_127) ?_
  show WGo _ (128, (LA p q r b0 b1 b2 ra rb mix [wI 2, wI 3, wI 1, wI 3, wU, wU, wU, wU, wU]), [.int 1], (HA p q r b0 b1 b2), 6) _
  refine WGo.s (WStep.istore (L' := (LA p q r b0 b1 b2 ra rb mix [wI 2, wI 3, wI 1, wI 3, wI 1, wU, wU, wU, wU])) a0_128 rfl) ?_
  refine WGo.s (WStep.iload a0_130 rfl) ?_
  refine WGo.s (WStep.iload a0_132 rfl) ?_
  refine WGo.s (WStep.isub a0_134) ?_
  show WGo _ (135, (LA p q r b0 b1 b2 ra rb mix [wI 2, wI 3, wI 1, wI 3, wI 1, wU, wU, wU, wU]), [.int 2], (HA p q r b0 b1 b2), 6) _
  refine WGo.s (WStep.istore (L' := (LA p q r b0 b1 b2 ra rb mix [wI 2, wI 3, wI 1, wI 3, wI 1, wI 2, wU, wU, wU])) a0_135 rfl) ?_
  refine WGo.s (WStep.iload a0_137 rfl) ?_
  refine WGo.s (WStep.iload a0_139 rfl) ?_
  refine WGo.s (WStep.icmpF a0_141 (by decide)) ?_
  refine WGo.s (WStep.iconst (0 : Int32) a0_144 rfl) ?_
  refine WGo.s (WStep.istore (L' := (LA p q r b0 b1 b2 ra rb mix [wI 2, wI 3, wI 1, wI 3, wI 1, wI 2, wI 0, wU, wU])) a0_145 rfl) ?_
  refine WGo.s (WStep.goto a0_147) ?_
  refine WGo.s (WStep.aload a0_229 rfl rfl) ?_
  refine WGo.s (WStep.iload a0_231 rfl) ?_
  refine WGo.s (WStep.iload a0_233 rfl) ?_
  refine WGo.s (WStep.aload a0_235 rfl rfl) ?_
  refine WGo.s (WStep.iload a0_237 rfl) ?_
  refine WGo.s (WStep.iload a0_239 rfl) ?_
  refine WGo.callS a0_241 (ok3 hw _ _ _ _) (wd hw 10 rfl) (wd hw 11 rfl) (argsL := [.ref 0, .int 2, .int 3, .ref 1, .int 1, .int 3]) (S := []) (c3_2313 hw _ _ p q r b0 b1 b2 _) rfl rfl rfl rfl rfl rfl (Nat.le_of_ble_eq_true rfl) (Nat.le_of_ble_eq_true rfl) ?_
  rintro _ _ _ ⟨⟨rfl, hE⟩ | ⟨rfl, hE⟩, rfl, rfl⟩
  · exfalso
    simp_all
  · skip
    show WGo _ (244, (LA p q r b0 b1 b2 ra rb mix [wI 2, wI 3, wI 1, wI 3, wI 1, wI 2, wI 0, wU, wU]), [.int 0], (HA p q r b0 b1 b2), 6) _
    refine WGo.s (WStep.istore (L' := (LA p q r b0 b1 b2 ra rb mix [wI 2, wI 3, wI 1, wI 3, wI 1, wI 2, wI 0, wI 0, wU])) a0_244 rfl) ?_
    exact segE0 Z a0 hw n0 p q r b0 b1 b2 ra rb mix _ _ _ _ _ _
theorem segD2322 (Z : State) (a0 : Array Value) (hw : ∀ d ∈ tables_1, d.before a0 Z = true) (n0 : Nat) (p q r b0 b1 b2 : Int64) (ra rb mix : Int32) : WGo (g0 Z (fun k => n0 + k) n0 0 0) (123, (LA p q r b0 b1 b2 ra rb mix [wI 2, wI 3, wI 2, wI 2, wU, wU, wU, wU, wU]), [], (HA p q r b0 b1 b2), 6) (fun v σ' u' => v = some (.int 1) ∧ σ'.length ≤ 16 ∧ u' ≤ 128) := by
  refine WGo.s (WStep.iload a0_123 rfl) ?_
  refine WGo.s (WStep.iload a0_125 rfl) ?_
  refine WGo.s (WStep.isub a0_127) ?_
  show WGo _ (128, (LA p q r b0 b1 b2 ra rb mix [wI 2, wI 3, wI 2, wI 2, wU, wU, wU, wU, wU]), [.int 1], (HA p q r b0 b1 b2), 6) _
  refine WGo.s (WStep.istore (L' := (LA p q r b0 b1 b2 ra rb mix [wI 2, wI 3, wI 2, wI 2, wI 1, wU, wU, wU, wU])) a0_128 rfl) ?_
  refine WGo.s (WStep.iload a0_130 rfl) ?_
  refine WGo.s (WStep.iload a0_132 rfl) ?_
  refine WGo.s (WStep.isub a0_134) ?_
  show WGo _ (135, (LA p q r b0 b1 b2 ra rb mix [wI 2, wI 3, wI 2, wI 2, wI 1, wU, wU, wU, wU]), [.int 0], (HA p q r b0 b1 b2), 6) _
  refine WGo.s (WStep.istore (L' := (LA p q r b0 b1 b2 ra rb mix [wI 2, wI 3, wI 2, wI 2, wI 1, wI 0, wU, wU, wU])) a0_135 rfl) ?_
  refine WGo.s (WStep.iload a0_137 rfl) ?_
  refine WGo.s (WStep.iload a0_139 rfl) ?_
  refine WGo.s (WStep.icmpF a0_141 (by decide)) ?_
  refine WGo.s (WStep.iconst (0 : Int32) a0_144 rfl) ?_
  refine WGo.s (WStep.istore (L' := (LA p q r b0 b1 b2 ra rb mix [wI 2, wI 3, wI 2, wI 2, wI 1, wI 0, wI 0, wU, wU])) a0_145 rfl) ?_
  refine WGo.s (WStep.goto a0_147) ?_
  refine WGo.s (WStep.aload a0_229 rfl rfl) ?_
  refine WGo.s (WStep.iload a0_231 rfl) ?_
  refine WGo.s (WStep.iload a0_233 rfl) ?_
  refine WGo.s (WStep.aload a0_235 rfl rfl) ?_
  refine WGo.s (WStep.iload a0_237 rfl) ?_
  refine WGo.s (WStep.iload a0_239 rfl) ?_
  refine WGo.callS a0_241 (ok3 hw _ _ _ _) (wd hw 10 rfl) (wd hw 11 rfl) (argsL := [.ref 0, .int 2, .int 3, .ref 1, .int 2, .int 2]) (S := []) (c3_2322 hw _ _ p q r b0 b1 b2 _) rfl rfl rfl rfl rfl rfl (Nat.le_of_ble_eq_true rfl) (Nat.le_of_ble_eq_true rfl) ?_
  rintro _ _ _ ⟨⟨rfl, hE⟩ | ⟨rfl, hE⟩, rfl, rfl⟩
  · exfalso
    simp_all
  · skip
    show WGo _ (244, (LA p q r b0 b1 b2 ra rb mix [wI 2, wI 3, wI 2, wI 2, wI 1, wI 0, wI 0, wU, wU]), [.int 0], (HA p q r b0 b1 b2), 6) _
    refine WGo.s (WStep.istore (L' := (LA p q r b0 b1 b2 ra rb mix [wI 2, wI 3, wI 2, wI 2, wI 1, wI 0, wI 0, wI 0, wU])) a0_244 rfl) ?_
    exact segE0 Z a0 hw n0 p q r b0 b1 b2 ra rb mix _ _ _ _ _ _
theorem segD2323 (Z : State) (a0 : Array Value) (hw : ∀ d ∈ tables_1, d.before a0 Z = true) (n0 : Nat) (p q r b0 b1 b2 : Int64) (ra rb mix : Int32) : WGo (g0 Z (fun k => n0 + k) n0 0 0) (123, (LA p q r b0 b1 b2 ra rb mix [wI 2, wI 3, wI 2, wI 3, wU, wU, wU, wU, wU]), [], (HA p q r b0 b1 b2), 6) (fun v σ' u' => v = some (.int 1) ∧ σ'.length ≤ 16 ∧ u' ≤ 128) := by
  refine WGo.s (WStep.iload a0_123 rfl) ?_
  refine WGo.s (WStep.iload a0_125 rfl) ?_
  refine WGo.s (WStep.isub a0_127) ?_
  show WGo _ (128, (LA p q r b0 b1 b2 ra rb mix [wI 2, wI 3, wI 2, wI 3, wU, wU, wU, wU, wU]), [.int 1], (HA p q r b0 b1 b2), 6) _
  refine WGo.s (WStep.istore (L' := (LA p q r b0 b1 b2 ra rb mix [wI 2, wI 3, wI 2, wI 3, wI 1, wU, wU, wU, wU])) a0_128 rfl) ?_
  refine WGo.s (WStep.iload a0_130 rfl) ?_
  refine WGo.s (WStep.iload a0_132 rfl) ?_
  refine WGo.s (WStep.isub a0_134) ?_
  show WGo _ (135, (LA p q r b0 b1 b2 ra rb mix [wI 2, wI 3, wI 2, wI 3, wI 1, wU, wU, wU, wU]), [.int 1], (HA p q r b0 b1 b2), 6) _
  refine WGo.s (WStep.istore (L' := (LA p q r b0 b1 b2 ra rb mix [wI 2, wI 3, wI 2, wI 3, wI 1, wI 1, wU, wU, wU])) a0_135 rfl) ?_
  refine WGo.s (WStep.iload a0_137 rfl) ?_
  refine WGo.s (WStep.iload a0_139 rfl) ?_
  refine WGo.s (WStep.icmpT a0_141 (by decide)) ?_
  refine WGo.s (WStep.iconst (1 : Int32) a0_150 rfl) ?_
  refine WGo.s (WStep.istore (L' := (LA p q r b0 b1 b2 ra rb mix [wI 2, wI 3, wI 2, wI 3, wI 1, wI 1, wI 1, wU, wU])) a0_151 rfl) ?_
  refine WGo.s (WStep.iload a0_153 rfl) ?_
  refine WGo.s (WStep.ifF a0_155 (by decide)) ?_
  refine WGo.s (WStep.aload a0_158 rfl rfl) ?_
  refine WGo.s (WStep.iload a0_160 rfl) ?_
  refine WGo.s (WStep.laload 2 a0_162 rfl (by decide) rfl rfl) ?_
  refine WGo.s (WStep.aload a0_163 rfl rfl) ?_
  refine WGo.s (WStep.iload a0_165 rfl) ?_
  refine WGo.s (WStep.laload 2 a0_167 rfl (by decide) rfl rfl) ?_
  refine WGo.s (WStep.lcmp a0_168) ?_
  refine WGo.eqL a0_169 (fun h169 => ?_) (fun h169 => ?_)
  · refine WGo.s (WStep.iload a0_175 rfl) ?_
    refine WGo.s (WStep.iconst (1 : Int32) a0_177 rfl) ?_
    refine WGo.s (WStep.icmpT a0_178 (by decide)) ?_
    refine WGo.s (WStep.iload a0_202 rfl) ?_
    refine WGo.s (WStep.iconst (2 : Int32) a0_204 rfl) ?_
    refine WGo.s (WStep.icmpT a0_205 (by decide)) ?_
    refine WGo.s (WStep.aload a0_229 rfl rfl) ?_
    refine WGo.s (WStep.iload a0_231 rfl) ?_
    refine WGo.s (WStep.iload a0_233 rfl) ?_
    refine WGo.s (WStep.aload a0_235 rfl rfl) ?_
    refine WGo.s (WStep.iload a0_237 rfl) ?_
    refine WGo.s (WStep.iload a0_239 rfl) ?_
    refine WGo.callS a0_241 (ok3 hw _ _ _ _) (wd hw 10 rfl) (wd hw 11 rfl) (argsL := [.ref 0, .int 2, .int 3, .ref 1, .int 2, .int 3]) (S := []) (c3_2323 hw _ _ p q r b0 b1 b2 _) rfl rfl rfl rfl rfl rfl (Nat.le_of_ble_eq_true rfl) (Nat.le_of_ble_eq_true rfl) ?_
    rintro _ _ _ ⟨⟨rfl, hE⟩ | ⟨rfl, hE⟩, rfl, rfl⟩
    · skip
      show WGo _ (244, (LA p q r b0 b1 b2 ra rb mix [wI 2, wI 3, wI 2, wI 3, wI 1, wI 1, wI 1, wU, wU]), [.int 1], (HA p q r b0 b1 b2), 6) _
      refine WGo.s (WStep.istore (L' := (LA p q r b0 b1 b2 ra rb mix [wI 2, wI 3, wI 2, wI 3, wI 1, wI 1, wI 1, wI 1, wU])) a0_244 rfl) ?_
      exact segE1 Z a0 hw n0 p q r b0 b1 b2 ra rb mix _ _ _ _ _ _
    · exfalso
      simp_all
  · refine WGo.s (WStep.iconst (0 : Int32) a0_172 rfl) ?_
    refine WGo.s (WStep.istore (L' := (LA p q r b0 b1 b2 ra rb mix [wI 2, wI 3, wI 2, wI 3, wI 1, wI 1, wI 0, wU, wU])) a0_173 rfl) ?_
    refine WGo.s (WStep.iload a0_175 rfl) ?_
    refine WGo.s (WStep.iconst (1 : Int32) a0_177 rfl) ?_
    refine WGo.s (WStep.icmpT a0_178 (by decide)) ?_
    refine WGo.s (WStep.iload a0_202 rfl) ?_
    refine WGo.s (WStep.iconst (2 : Int32) a0_204 rfl) ?_
    refine WGo.s (WStep.icmpT a0_205 (by decide)) ?_
    refine WGo.s (WStep.aload a0_229 rfl rfl) ?_
    refine WGo.s (WStep.iload a0_231 rfl) ?_
    refine WGo.s (WStep.iload a0_233 rfl) ?_
    refine WGo.s (WStep.aload a0_235 rfl rfl) ?_
    refine WGo.s (WStep.iload a0_237 rfl) ?_
    refine WGo.s (WStep.iload a0_239 rfl) ?_
    refine WGo.callS a0_241 (ok3 hw _ _ _ _) (wd hw 10 rfl) (wd hw 11 rfl) (argsL := [.ref 0, .int 2, .int 3, .ref 1, .int 2, .int 3]) (S := []) (c3_2323 hw _ _ p q r b0 b1 b2 _) rfl rfl rfl rfl rfl rfl (Nat.le_of_ble_eq_true rfl) (Nat.le_of_ble_eq_true rfl) ?_
    rintro _ _ _ ⟨⟨rfl, hE⟩ | ⟨rfl, hE⟩, rfl, rfl⟩
    · exfalso
      simp_all
    · skip
      show WGo _ (244, (LA p q r b0 b1 b2 ra rb mix [wI 2, wI 3, wI 2, wI 3, wI 1, wI 1, wI 0, wU, wU]), [.int 0], (HA p q r b0 b1 b2), 6) _
      refine WGo.s (WStep.istore (L' := (LA p q r b0 b1 b2 ra rb mix [wI 2, wI 3, wI 2, wI 3, wI 1, wI 1, wI 0, wI 0, wU])) a0_244 rfl) ?_
      exact segE0 Z a0 hw n0 p q r b0 b1 b2 ra rb mix _ _ _ _ _ _
theorem segD2333 (Z : State) (a0 : Array Value) (hw : ∀ d ∈ tables_1, d.before a0 Z = true) (n0 : Nat) (p q r b0 b1 b2 : Int64) (ra rb mix : Int32) : WGo (g0 Z (fun k => n0 + k) n0 0 0) (123, (LA p q r b0 b1 b2 ra rb mix [wI 2, wI 3, wI 3, wI 3, wU, wU, wU, wU, wU]), [], (HA p q r b0 b1 b2), 6) (fun v σ' u' => v = some (.int 1) ∧ σ'.length ≤ 16 ∧ u' ≤ 128) := by
  refine WGo.s (WStep.iload a0_123 rfl) ?_
  refine WGo.s (WStep.iload a0_125 rfl) ?_
  refine WGo.s (WStep.isub a0_127) ?_
  show WGo _ (128, (LA p q r b0 b1 b2 ra rb mix [wI 2, wI 3, wI 3, wI 3, wU, wU, wU, wU, wU]), [.int 1], (HA p q r b0 b1 b2), 6) _
  refine WGo.s (WStep.istore (L' := (LA p q r b0 b1 b2 ra rb mix [wI 2, wI 3, wI 3, wI 3, wI 1, wU, wU, wU, wU])) a0_128 rfl) ?_
  refine WGo.s (WStep.iload a0_130 rfl) ?_
  refine WGo.s (WStep.iload a0_132 rfl) ?_
  refine WGo.s (WStep.isub a0_134) ?_
  show WGo _ (135, (LA p q r b0 b1 b2 ra rb mix [wI 2, wI 3, wI 3, wI 3, wI 1, wU, wU, wU, wU]), [.int 0], (HA p q r b0 b1 b2), 6) _
  refine WGo.s (WStep.istore (L' := (LA p q r b0 b1 b2 ra rb mix [wI 2, wI 3, wI 3, wI 3, wI 1, wI 0, wU, wU, wU])) a0_135 rfl) ?_
  refine WGo.s (WStep.iload a0_137 rfl) ?_
  refine WGo.s (WStep.iload a0_139 rfl) ?_
  refine WGo.s (WStep.icmpF a0_141 (by decide)) ?_
  refine WGo.s (WStep.iconst (0 : Int32) a0_144 rfl) ?_
  refine WGo.s (WStep.istore (L' := (LA p q r b0 b1 b2 ra rb mix [wI 2, wI 3, wI 3, wI 3, wI 1, wI 0, wI 0, wU, wU])) a0_145 rfl) ?_
  refine WGo.s (WStep.goto a0_147) ?_
  refine WGo.s (WStep.aload a0_229 rfl rfl) ?_
  refine WGo.s (WStep.iload a0_231 rfl) ?_
  refine WGo.s (WStep.iload a0_233 rfl) ?_
  refine WGo.s (WStep.aload a0_235 rfl rfl) ?_
  refine WGo.s (WStep.iload a0_237 rfl) ?_
  refine WGo.s (WStep.iload a0_239 rfl) ?_
  refine WGo.callS a0_241 (ok3 hw _ _ _ _) (wd hw 10 rfl) (wd hw 11 rfl) (argsL := [.ref 0, .int 2, .int 3, .ref 1, .int 3, .int 3]) (S := []) (c3_2333 hw _ _ p q r b0 b1 b2 _) rfl rfl rfl rfl rfl rfl (Nat.le_of_ble_eq_true rfl) (Nat.le_of_ble_eq_true rfl) ?_
  rintro _ _ _ ⟨⟨rfl, hE⟩ | ⟨rfl, hE⟩, rfl, rfl⟩
  · exfalso
    simp_all
  · skip
    show WGo _ (244, (LA p q r b0 b1 b2 ra rb mix [wI 2, wI 3, wI 3, wI 3, wI 1, wI 0, wI 0, wU, wU]), [.int 0], (HA p q r b0 b1 b2), 6) _
    refine WGo.s (WStep.istore (L' := (LA p q r b0 b1 b2 ra rb mix [wI 2, wI 3, wI 3, wI 3, wI 1, wI 0, wI 0, wI 0, wU])) a0_244 rfl) ?_
    exact segE0 Z a0 hw n0 p q r b0 b1 b2 ra rb mix _ _ _ _ _ _
theorem segD3300 (Z : State) (a0 : Array Value) (hw : ∀ d ∈ tables_1, d.before a0 Z = true) (n0 : Nat) (p q r b0 b1 b2 : Int64) (ra rb mix : Int32) : WGo (g0 Z (fun k => n0 + k) n0 0 0) (123, (LA p q r b0 b1 b2 ra rb mix [wI 3, wI 3, wI 0, wI 0, wU, wU, wU, wU, wU]), [], (HA p q r b0 b1 b2), 6) (fun v σ' u' => v = some (.int 1) ∧ σ'.length ≤ 16 ∧ u' ≤ 128) := by
  refine WGo.s (WStep.iload a0_123 rfl) ?_
  refine WGo.s (WStep.iload a0_125 rfl) ?_
  refine WGo.s (WStep.isub a0_127) ?_
  show WGo _ (128, (LA p q r b0 b1 b2 ra rb mix [wI 3, wI 3, wI 0, wI 0, wU, wU, wU, wU, wU]), [.int 0], (HA p q r b0 b1 b2), 6) _
  refine WGo.s (WStep.istore (L' := (LA p q r b0 b1 b2 ra rb mix [wI 3, wI 3, wI 0, wI 0, wI 0, wU, wU, wU, wU])) a0_128 rfl) ?_
  refine WGo.s (WStep.iload a0_130 rfl) ?_
  refine WGo.s (WStep.iload a0_132 rfl) ?_
  refine WGo.s (WStep.isub a0_134) ?_
  show WGo _ (135, (LA p q r b0 b1 b2 ra rb mix [wI 3, wI 3, wI 0, wI 0, wI 0, wU, wU, wU, wU]), [.int 0], (HA p q r b0 b1 b2), 6) _
  refine WGo.s (WStep.istore (L' := (LA p q r b0 b1 b2 ra rb mix [wI 3, wI 3, wI 0, wI 0, wI 0, wI 0, wU, wU, wU])) a0_135 rfl) ?_
  refine WGo.s (WStep.iload a0_137 rfl) ?_
  refine WGo.s (WStep.iload a0_139 rfl) ?_
  refine WGo.s (WStep.icmpT a0_141 (by decide)) ?_
  refine WGo.s (WStep.iconst (1 : Int32) a0_150 rfl) ?_
  refine WGo.s (WStep.istore (L' := (LA p q r b0 b1 b2 ra rb mix [wI 3, wI 3, wI 0, wI 0, wI 0, wI 0, wI 1, wU, wU])) a0_151 rfl) ?_
  refine WGo.s (WStep.iload a0_153 rfl) ?_
  refine WGo.s (WStep.ifT a0_155 (by decide)) ?_
  refine WGo.s (WStep.iload a0_175 rfl) ?_
  refine WGo.s (WStep.iconst (1 : Int32) a0_177 rfl) ?_
  refine WGo.s (WStep.icmpT a0_178 (by decide)) ?_
  refine WGo.s (WStep.iload a0_202 rfl) ?_
  refine WGo.s (WStep.iconst (2 : Int32) a0_204 rfl) ?_
  refine WGo.s (WStep.icmpT a0_205 (by decide)) ?_
  refine WGo.s (WStep.aload a0_229 rfl rfl) ?_
  refine WGo.s (WStep.iload a0_231 rfl) ?_
  refine WGo.s (WStep.iload a0_233 rfl) ?_
  refine WGo.s (WStep.aload a0_235 rfl rfl) ?_
  refine WGo.s (WStep.iload a0_237 rfl) ?_
  refine WGo.s (WStep.iload a0_239 rfl) ?_
  refine WGo.callS a0_241 (ok3 hw _ _ _ _) (wd hw 10 rfl) (wd hw 11 rfl) (argsL := [.ref 0, .int 3, .int 3, .ref 1, .int 0, .int 0]) (S := []) (c3_3300 hw _ _ p q r b0 b1 b2 _) rfl rfl rfl rfl rfl rfl (Nat.le_of_ble_eq_true rfl) (Nat.le_of_ble_eq_true rfl) ?_
  rintro _ _ _ ⟨⟨rfl, hE⟩ | ⟨rfl, hE⟩, rfl, rfl⟩
  · skip
    show WGo _ (244, (LA p q r b0 b1 b2 ra rb mix [wI 3, wI 3, wI 0, wI 0, wI 0, wI 0, wI 1, wU, wU]), [.int 1], (HA p q r b0 b1 b2), 6) _
    refine WGo.s (WStep.istore (L' := (LA p q r b0 b1 b2 ra rb mix [wI 3, wI 3, wI 0, wI 0, wI 0, wI 0, wI 1, wI 1, wU])) a0_244 rfl) ?_
    exact segE1 Z a0 hw n0 p q r b0 b1 b2 ra rb mix _ _ _ _ _ _
  · exfalso
    simp_all
theorem segD3301 (Z : State) (a0 : Array Value) (hw : ∀ d ∈ tables_1, d.before a0 Z = true) (n0 : Nat) (p q r b0 b1 b2 : Int64) (ra rb mix : Int32) : WGo (g0 Z (fun k => n0 + k) n0 0 0) (123, (LA p q r b0 b1 b2 ra rb mix [wI 3, wI 3, wI 0, wI 1, wU, wU, wU, wU, wU]), [], (HA p q r b0 b1 b2), 6) (fun v σ' u' => v = some (.int 1) ∧ σ'.length ≤ 16 ∧ u' ≤ 128) := by
  refine WGo.s (WStep.iload a0_123 rfl) ?_
  refine WGo.s (WStep.iload a0_125 rfl) ?_
  refine WGo.s (WStep.isub a0_127) ?_
  show WGo _ (128, (LA p q r b0 b1 b2 ra rb mix [wI 3, wI 3, wI 0, wI 1, wU, wU, wU, wU, wU]), [.int 0], (HA p q r b0 b1 b2), 6) _
  refine WGo.s (WStep.istore (L' := (LA p q r b0 b1 b2 ra rb mix [wI 3, wI 3, wI 0, wI 1, wI 0, wU, wU, wU, wU])) a0_128 rfl) ?_
  refine WGo.s (WStep.iload a0_130 rfl) ?_
  refine WGo.s (WStep.iload a0_132 rfl) ?_
  refine WGo.s (WStep.isub a0_134) ?_
  show WGo _ (135, (LA p q r b0 b1 b2 ra rb mix [wI 3, wI 3, wI 0, wI 1, wI 0, wU, wU, wU, wU]), [.int 1], (HA p q r b0 b1 b2), 6) _
  refine WGo.s (WStep.istore (L' := (LA p q r b0 b1 b2 ra rb mix [wI 3, wI 3, wI 0, wI 1, wI 0, wI 1, wU, wU, wU])) a0_135 rfl) ?_
  refine WGo.s (WStep.iload a0_137 rfl) ?_
  refine WGo.s (WStep.iload a0_139 rfl) ?_
  refine WGo.s (WStep.icmpF a0_141 (by decide)) ?_
  refine WGo.s (WStep.iconst (0 : Int32) a0_144 rfl) ?_
  refine WGo.s (WStep.istore (L' := (LA p q r b0 b1 b2 ra rb mix [wI 3, wI 3, wI 0, wI 1, wI 0, wI 1, wI 0, wU, wU])) a0_145 rfl) ?_
  refine WGo.s (WStep.goto a0_147) ?_
  refine WGo.s (WStep.aload a0_229 rfl rfl) ?_
  refine WGo.s (WStep.iload a0_231 rfl) ?_
  refine WGo.s (WStep.iload a0_233 rfl) ?_
  refine WGo.s (WStep.aload a0_235 rfl rfl) ?_
  refine WGo.s (WStep.iload a0_237 rfl) ?_
  refine WGo.s (WStep.iload a0_239 rfl) ?_
  refine WGo.callS a0_241 (ok3 hw _ _ _ _) (wd hw 10 rfl) (wd hw 11 rfl) (argsL := [.ref 0, .int 3, .int 3, .ref 1, .int 0, .int 1]) (S := []) (c3_3301 hw _ _ p q r b0 b1 b2 _) rfl rfl rfl rfl rfl rfl (Nat.le_of_ble_eq_true rfl) (Nat.le_of_ble_eq_true rfl) ?_
  rintro _ _ _ ⟨⟨rfl, hE⟩ | ⟨rfl, hE⟩, rfl, rfl⟩
  · exfalso
    simp_all
  · skip
    show WGo _ (244, (LA p q r b0 b1 b2 ra rb mix [wI 3, wI 3, wI 0, wI 1, wI 0, wI 1, wI 0, wU, wU]), [.int 0], (HA p q r b0 b1 b2), 6) _
    refine WGo.s (WStep.istore (L' := (LA p q r b0 b1 b2 ra rb mix [wI 3, wI 3, wI 0, wI 1, wI 0, wI 1, wI 0, wI 0, wU])) a0_244 rfl) ?_
    exact segE0 Z a0 hw n0 p q r b0 b1 b2 ra rb mix _ _ _ _ _ _
theorem segD3302 (Z : State) (a0 : Array Value) (hw : ∀ d ∈ tables_1, d.before a0 Z = true) (n0 : Nat) (p q r b0 b1 b2 : Int64) (ra rb mix : Int32) : WGo (g0 Z (fun k => n0 + k) n0 0 0) (123, (LA p q r b0 b1 b2 ra rb mix [wI 3, wI 3, wI 0, wI 2, wU, wU, wU, wU, wU]), [], (HA p q r b0 b1 b2), 6) (fun v σ' u' => v = some (.int 1) ∧ σ'.length ≤ 16 ∧ u' ≤ 128) := by
  refine WGo.s (WStep.iload a0_123 rfl) ?_
  refine WGo.s (WStep.iload a0_125 rfl) ?_
  refine WGo.s (WStep.isub a0_127) ?_
  show WGo _ (128, (LA p q r b0 b1 b2 ra rb mix [wI 3, wI 3, wI 0, wI 2, wU, wU, wU, wU, wU]), [.int 0], (HA p q r b0 b1 b2), 6) _
  refine WGo.s (WStep.istore (L' := (LA p q r b0 b1 b2 ra rb mix [wI 3, wI 3, wI 0, wI 2, wI 0, wU, wU, wU, wU])) a0_128 rfl) ?_
  refine WGo.s (WStep.iload a0_130 rfl) ?_
  refine WGo.s (WStep.iload a0_132 rfl) ?_
  refine WGo.s (WStep.isub a0_134) ?_
  show WGo _ (135, (LA p q r b0 b1 b2 ra rb mix [wI 3, wI 3, wI 0, wI 2, wI 0, wU, wU, wU, wU]), [.int 2], (HA p q r b0 b1 b2), 6) _
  refine WGo.s (WStep.istore (L' := (LA p q r b0 b1 b2 ra rb mix [wI 3, wI 3, wI 0, wI 2, wI 0, wI 2, wU, wU, wU])) a0_135 rfl) ?_
  refine WGo.s (WStep.iload a0_137 rfl) ?_
  refine WGo.s (WStep.iload a0_139 rfl) ?_
  refine WGo.s (WStep.icmpF a0_141 (by decide)) ?_
  refine WGo.s (WStep.iconst (0 : Int32) a0_144 rfl) ?_
  refine WGo.s (WStep.istore (L' := (LA p q r b0 b1 b2 ra rb mix [wI 3, wI 3, wI 0, wI 2, wI 0, wI 2, wI 0, wU, wU])) a0_145 rfl) ?_
  refine WGo.s (WStep.goto a0_147) ?_
  refine WGo.s (WStep.aload a0_229 rfl rfl) ?_
  refine WGo.s (WStep.iload a0_231 rfl) ?_
  refine WGo.s (WStep.iload a0_233 rfl) ?_
  refine WGo.s (WStep.aload a0_235 rfl rfl) ?_
  refine WGo.s (WStep.iload a0_237 rfl) ?_
  refine WGo.s (WStep.iload a0_239 rfl) ?_
  refine WGo.callS a0_241 (ok3 hw _ _ _ _) (wd hw 10 rfl) (wd hw 11 rfl) (argsL := [.ref 0, .int 3, .int 3, .ref 1, .int 0, .int 2]) (S := []) (c3_3302 hw _ _ p q r b0 b1 b2 _) rfl rfl rfl rfl rfl rfl (Nat.le_of_ble_eq_true rfl) (Nat.le_of_ble_eq_true rfl) ?_
  rintro _ _ _ ⟨⟨rfl, hE⟩ | ⟨rfl, hE⟩, rfl, rfl⟩
  · exfalso
    simp_all
  · skip
    show WGo _ (244, (LA p q r b0 b1 b2 ra rb mix [wI 3, wI 3, wI 0, wI 2, wI 0, wI 2, wI 0, wU, wU]), [.int 0], (HA p q r b0 b1 b2), 6) _
    refine WGo.s (WStep.istore (L' := (LA p q r b0 b1 b2 ra rb mix [wI 3, wI 3, wI 0, wI 2, wI 0, wI 2, wI 0, wI 0, wU])) a0_244 rfl) ?_
    exact segE0 Z a0 hw n0 p q r b0 b1 b2 ra rb mix _ _ _ _ _ _
theorem segD3303 (Z : State) (a0 : Array Value) (hw : ∀ d ∈ tables_1, d.before a0 Z = true) (n0 : Nat) (p q r b0 b1 b2 : Int64) (ra rb mix : Int32) : WGo (g0 Z (fun k => n0 + k) n0 0 0) (123, (LA p q r b0 b1 b2 ra rb mix [wI 3, wI 3, wI 0, wI 3, wU, wU, wU, wU, wU]), [], (HA p q r b0 b1 b2), 6) (fun v σ' u' => v = some (.int 1) ∧ σ'.length ≤ 16 ∧ u' ≤ 128) := by
  refine WGo.s (WStep.iload a0_123 rfl) ?_
  refine WGo.s (WStep.iload a0_125 rfl) ?_
  refine WGo.s (WStep.isub a0_127) ?_
  show WGo _ (128, (LA p q r b0 b1 b2 ra rb mix [wI 3, wI 3, wI 0, wI 3, wU, wU, wU, wU, wU]), [.int 0], (HA p q r b0 b1 b2), 6) _
  refine WGo.s (WStep.istore (L' := (LA p q r b0 b1 b2 ra rb mix [wI 3, wI 3, wI 0, wI 3, wI 0, wU, wU, wU, wU])) a0_128 rfl) ?_
  refine WGo.s (WStep.iload a0_130 rfl) ?_
  refine WGo.s (WStep.iload a0_132 rfl) ?_
  refine WGo.s (WStep.isub a0_134) ?_
  show WGo _ (135, (LA p q r b0 b1 b2 ra rb mix [wI 3, wI 3, wI 0, wI 3, wI 0, wU, wU, wU, wU]), [.int 3], (HA p q r b0 b1 b2), 6) _
  refine WGo.s (WStep.istore (L' := (LA p q r b0 b1 b2 ra rb mix [wI 3, wI 3, wI 0, wI 3, wI 0, wI 3, wU, wU, wU])) a0_135 rfl) ?_
  refine WGo.s (WStep.iload a0_137 rfl) ?_
  refine WGo.s (WStep.iload a0_139 rfl) ?_
  refine WGo.s (WStep.icmpF a0_141 (by decide)) ?_
  refine WGo.s (WStep.iconst (0 : Int32) a0_144 rfl) ?_
  refine WGo.s (WStep.istore (L' := (LA p q r b0 b1 b2 ra rb mix [wI 3, wI 3, wI 0, wI 3, wI 0, wI 3, wI 0, wU, wU])) a0_145 rfl) ?_
  refine WGo.s (WStep.goto a0_147) ?_
  refine WGo.s (WStep.aload a0_229 rfl rfl) ?_
  refine WGo.s (WStep.iload a0_231 rfl) ?_
  refine WGo.s (WStep.iload a0_233 rfl) ?_
  refine WGo.s (WStep.aload a0_235 rfl rfl) ?_
  refine WGo.s (WStep.iload a0_237 rfl) ?_
  refine WGo.s (WStep.iload a0_239 rfl) ?_
  refine WGo.callS a0_241 (ok3 hw _ _ _ _) (wd hw 10 rfl) (wd hw 11 rfl) (argsL := [.ref 0, .int 3, .int 3, .ref 1, .int 0, .int 3]) (S := []) (c3_3303 hw _ _ p q r b0 b1 b2 _) rfl rfl rfl rfl rfl rfl (Nat.le_of_ble_eq_true rfl) (Nat.le_of_ble_eq_true rfl) ?_
  rintro _ _ _ ⟨⟨rfl, hE⟩ | ⟨rfl, hE⟩, rfl, rfl⟩
  · exfalso
    simp_all
  · skip
    show WGo _ (244, (LA p q r b0 b1 b2 ra rb mix [wI 3, wI 3, wI 0, wI 3, wI 0, wI 3, wI 0, wU, wU]), [.int 0], (HA p q r b0 b1 b2), 6) _
    refine WGo.s (WStep.istore (L' := (LA p q r b0 b1 b2 ra rb mix [wI 3, wI 3, wI 0, wI 3, wI 0, wI 3, wI 0, wI 0, wU])) a0_244 rfl) ?_
    exact segE0 Z a0 hw n0 p q r b0 b1 b2 ra rb mix _ _ _ _ _ _
theorem segD3311 (Z : State) (a0 : Array Value) (hw : ∀ d ∈ tables_1, d.before a0 Z = true) (n0 : Nat) (p q r b0 b1 b2 : Int64) (ra rb mix : Int32) : WGo (g0 Z (fun k => n0 + k) n0 0 0) (123, (LA p q r b0 b1 b2 ra rb mix [wI 3, wI 3, wI 1, wI 1, wU, wU, wU, wU, wU]), [], (HA p q r b0 b1 b2), 6) (fun v σ' u' => v = some (.int 1) ∧ σ'.length ≤ 16 ∧ u' ≤ 128) := by
  refine WGo.s (WStep.iload a0_123 rfl) ?_
  refine WGo.s (WStep.iload a0_125 rfl) ?_
  refine WGo.s (WStep.isub a0_127) ?_
  show WGo _ (128, (LA p q r b0 b1 b2 ra rb mix [wI 3, wI 3, wI 1, wI 1, wU, wU, wU, wU, wU]), [.int 0], (HA p q r b0 b1 b2), 6) _
  refine WGo.s (WStep.istore (L' := (LA p q r b0 b1 b2 ra rb mix [wI 3, wI 3, wI 1, wI 1, wI 0, wU, wU, wU, wU])) a0_128 rfl) ?_
  refine WGo.s (WStep.iload a0_130 rfl) ?_
  refine WGo.s (WStep.iload a0_132 rfl) ?_
  refine WGo.s (WStep.isub a0_134) ?_
  show WGo _ (135, (LA p q r b0 b1 b2 ra rb mix [wI 3, wI 3, wI 1, wI 1, wI 0, wU, wU, wU, wU]), [.int 0], (HA p q r b0 b1 b2), 6) _
  refine WGo.s (WStep.istore (L' := (LA p q r b0 b1 b2 ra rb mix [wI 3, wI 3, wI 1, wI 1, wI 0, wI 0, wU, wU, wU])) a0_135 rfl) ?_
  refine WGo.s (WStep.iload a0_137 rfl) ?_
  refine WGo.s (WStep.iload a0_139 rfl) ?_
  refine WGo.s (WStep.icmpT a0_141 (by decide)) ?_
  refine WGo.s (WStep.iconst (1 : Int32) a0_150 rfl) ?_
  refine WGo.s (WStep.istore (L' := (LA p q r b0 b1 b2 ra rb mix [wI 3, wI 3, wI 1, wI 1, wI 0, wI 0, wI 1, wU, wU])) a0_151 rfl) ?_
  refine WGo.s (WStep.iload a0_153 rfl) ?_
  refine WGo.s (WStep.ifT a0_155 (by decide)) ?_
  refine WGo.s (WStep.iload a0_175 rfl) ?_
  refine WGo.s (WStep.iconst (1 : Int32) a0_177 rfl) ?_
  refine WGo.s (WStep.icmpT a0_178 (by decide)) ?_
  refine WGo.s (WStep.iload a0_202 rfl) ?_
  refine WGo.s (WStep.iconst (2 : Int32) a0_204 rfl) ?_
  refine WGo.s (WStep.icmpT a0_205 (by decide)) ?_
  refine WGo.s (WStep.aload a0_229 rfl rfl) ?_
  refine WGo.s (WStep.iload a0_231 rfl) ?_
  refine WGo.s (WStep.iload a0_233 rfl) ?_
  refine WGo.s (WStep.aload a0_235 rfl rfl) ?_
  refine WGo.s (WStep.iload a0_237 rfl) ?_
  refine WGo.s (WStep.iload a0_239 rfl) ?_
  refine WGo.callS a0_241 (ok3 hw _ _ _ _) (wd hw 10 rfl) (wd hw 11 rfl) (argsL := [.ref 0, .int 3, .int 3, .ref 1, .int 1, .int 1]) (S := []) (c3_3311 hw _ _ p q r b0 b1 b2 _) rfl rfl rfl rfl rfl rfl (Nat.le_of_ble_eq_true rfl) (Nat.le_of_ble_eq_true rfl) ?_
  rintro _ _ _ ⟨⟨rfl, hE⟩ | ⟨rfl, hE⟩, rfl, rfl⟩
  · skip
    show WGo _ (244, (LA p q r b0 b1 b2 ra rb mix [wI 3, wI 3, wI 1, wI 1, wI 0, wI 0, wI 1, wU, wU]), [.int 1], (HA p q r b0 b1 b2), 6) _
    refine WGo.s (WStep.istore (L' := (LA p q r b0 b1 b2 ra rb mix [wI 3, wI 3, wI 1, wI 1, wI 0, wI 0, wI 1, wI 1, wU])) a0_244 rfl) ?_
    exact segE1 Z a0 hw n0 p q r b0 b1 b2 ra rb mix _ _ _ _ _ _
  · exfalso
    simp_all
theorem segD3312 (Z : State) (a0 : Array Value) (hw : ∀ d ∈ tables_1, d.before a0 Z = true) (n0 : Nat) (p q r b0 b1 b2 : Int64) (ra rb mix : Int32) : WGo (g0 Z (fun k => n0 + k) n0 0 0) (123, (LA p q r b0 b1 b2 ra rb mix [wI 3, wI 3, wI 1, wI 2, wU, wU, wU, wU, wU]), [], (HA p q r b0 b1 b2), 6) (fun v σ' u' => v = some (.int 1) ∧ σ'.length ≤ 16 ∧ u' ≤ 128) := by
  refine WGo.s (WStep.iload a0_123 rfl) ?_
  refine WGo.s (WStep.iload a0_125 rfl) ?_
  refine WGo.s (WStep.isub a0_127) ?_
  show WGo _ (128, (LA p q r b0 b1 b2 ra rb mix [wI 3, wI 3, wI 1, wI 2, wU, wU, wU, wU, wU]), [.int 0], (HA p q r b0 b1 b2), 6) _
  refine WGo.s (WStep.istore (L' := (LA p q r b0 b1 b2 ra rb mix [wI 3, wI 3, wI 1, wI 2, wI 0, wU, wU, wU, wU])) a0_128 rfl) ?_
  refine WGo.s (WStep.iload a0_130 rfl) ?_
  refine WGo.s (WStep.iload a0_132 rfl) ?_
  refine WGo.s (WStep.isub a0_134) ?_
  show WGo _ (135, (LA p q r b0 b1 b2 ra rb mix [wI 3, wI 3, wI 1, wI 2, wI 0, wU, wU, wU, wU]), [.int 1], (HA p q r b0 b1 b2), 6) _
  refine WGo.s (WStep.istore (L' := (LA p q r b0 b1 b2 ra rb mix [wI 3, wI 3, wI 1, wI 2, wI 0, wI 1, wU, wU, wU])) a0_135 rfl) ?_
  refine WGo.s (WStep.iload a0_137 rfl) ?_
  refine WGo.s (WStep.iload a0_139 rfl) ?_
  refine WGo.s (WStep.icmpF a0_141 (by decide)) ?_
  refine WGo.s (WStep.iconst (0 : Int32) a0_144 rfl) ?_
  refine WGo.s (WStep.istore (L' := (LA p q r b0 b1 b2 ra rb mix [wI 3, wI 3, wI 1, wI 2, wI 0, wI 1, wI 0, wU, wU])) a0_145 rfl) ?_
  refine WGo.s (WStep.goto a0_147) ?_
  refine WGo.s (WStep.aload a0_229 rfl rfl) ?_
  refine WGo.s (WStep.iload a0_231 rfl) ?_
  refine WGo.s (WStep.iload a0_233 rfl) ?_
  refine WGo.s (WStep.aload a0_235 rfl rfl) ?_
  refine WGo.s (WStep.iload a0_237 rfl) ?_
  refine WGo.s (WStep.iload a0_239 rfl) ?_
  refine WGo.callS a0_241 (ok3 hw _ _ _ _) (wd hw 10 rfl) (wd hw 11 rfl) (argsL := [.ref 0, .int 3, .int 3, .ref 1, .int 1, .int 2]) (S := []) (c3_3312 hw _ _ p q r b0 b1 b2 _) rfl rfl rfl rfl rfl rfl (Nat.le_of_ble_eq_true rfl) (Nat.le_of_ble_eq_true rfl) ?_
  rintro _ _ _ ⟨⟨rfl, hE⟩ | ⟨rfl, hE⟩, rfl, rfl⟩
  · exfalso
    simp_all
  · skip
    show WGo _ (244, (LA p q r b0 b1 b2 ra rb mix [wI 3, wI 3, wI 1, wI 2, wI 0, wI 1, wI 0, wU, wU]), [.int 0], (HA p q r b0 b1 b2), 6) _
    refine WGo.s (WStep.istore (L' := (LA p q r b0 b1 b2 ra rb mix [wI 3, wI 3, wI 1, wI 2, wI 0, wI 1, wI 0, wI 0, wU])) a0_244 rfl) ?_
    exact segE0 Z a0 hw n0 p q r b0 b1 b2 ra rb mix _ _ _ _ _ _
theorem segD3313 (Z : State) (a0 : Array Value) (hw : ∀ d ∈ tables_1, d.before a0 Z = true) (n0 : Nat) (p q r b0 b1 b2 : Int64) (ra rb mix : Int32) : WGo (g0 Z (fun k => n0 + k) n0 0 0) (123, (LA p q r b0 b1 b2 ra rb mix [wI 3, wI 3, wI 1, wI 3, wU, wU, wU, wU, wU]), [], (HA p q r b0 b1 b2), 6) (fun v σ' u' => v = some (.int 1) ∧ σ'.length ≤ 16 ∧ u' ≤ 128) := by
  refine WGo.s (WStep.iload a0_123 rfl) ?_
  refine WGo.s (WStep.iload a0_125 rfl) ?_
  refine WGo.s (WStep.isub a0_127) ?_
  show WGo _ (128, (LA p q r b0 b1 b2 ra rb mix [wI 3, wI 3, wI 1, wI 3, wU, wU, wU, wU, wU]), [.int 0], (HA p q r b0 b1 b2), 6) _
  refine WGo.s (WStep.istore (L' := (LA p q r b0 b1 b2 ra rb mix [wI 3, wI 3, wI 1, wI 3, wI 0, wU, wU, wU, wU])) a0_128 rfl) ?_
  refine WGo.s (WStep.iload a0_130 rfl) ?_
  refine WGo.s (WStep.iload a0_132 rfl) ?_
  refine WGo.s (WStep.isub a0_134) ?_
  show WGo _ (135, (LA p q r b0 b1 b2 ra rb mix [wI 3, wI 3, wI 1, wI 3, wI 0, wU, wU, wU, wU]), [.int 2], (HA p q r b0 b1 b2), 6) _
  refine WGo.s (WStep.istore (L' := (LA p q r b0 b1 b2 ra rb mix [wI 3, wI 3, wI 1, wI 3, wI 0, wI 2, wU, wU, wU])) a0_135 rfl) ?_
  refine WGo.s (WStep.iload a0_137 rfl) ?_
  refine WGo.s (WStep.iload a0_139 rfl) ?_
  refine WGo.s (WStep.icmpF a0_141 (by decide)) ?_
  refine WGo.s (WStep.iconst (0 : Int32) a0_144 rfl) ?_
  refine WGo.s (WStep.istore (L' := (LA p q r b0 b1 b2 ra rb mix [wI 3, wI 3, wI 1, wI 3, wI 0, wI 2, wI 0, wU, wU])) a0_145 rfl) ?_
  refine WGo.s (WStep.goto a0_147) ?_
  refine WGo.s (WStep.aload a0_229 rfl rfl) ?_
  refine WGo.s (WStep.iload a0_231 rfl) ?_
  refine WGo.s (WStep.iload a0_233 rfl) ?_
  refine WGo.s (WStep.aload a0_235 rfl rfl) ?_
  refine WGo.s (WStep.iload a0_237 rfl) ?_
  refine WGo.s (WStep.iload a0_239 rfl) ?_
  refine WGo.callS a0_241 (ok3 hw _ _ _ _) (wd hw 10 rfl) (wd hw 11 rfl) (argsL := [.ref 0, .int 3, .int 3, .ref 1, .int 1, .int 3]) (S := []) (c3_3313 hw _ _ p q r b0 b1 b2 _) rfl rfl rfl rfl rfl rfl (Nat.le_of_ble_eq_true rfl) (Nat.le_of_ble_eq_true rfl) ?_
  rintro _ _ _ ⟨⟨rfl, hE⟩ | ⟨rfl, hE⟩, rfl, rfl⟩
  · exfalso
    simp_all
  · skip
    show WGo _ (244, (LA p q r b0 b1 b2 ra rb mix [wI 3, wI 3, wI 1, wI 3, wI 0, wI 2, wI 0, wU, wU]), [.int 0], (HA p q r b0 b1 b2), 6) _
    refine WGo.s (WStep.istore (L' := (LA p q r b0 b1 b2 ra rb mix [wI 3, wI 3, wI 1, wI 3, wI 0, wI 2, wI 0, wI 0, wU])) a0_244 rfl) ?_
    exact segE0 Z a0 hw n0 p q r b0 b1 b2 ra rb mix _ _ _ _ _ _
theorem segD3322 (Z : State) (a0 : Array Value) (hw : ∀ d ∈ tables_1, d.before a0 Z = true) (n0 : Nat) (p q r b0 b1 b2 : Int64) (ra rb mix : Int32) : WGo (g0 Z (fun k => n0 + k) n0 0 0) (123, (LA p q r b0 b1 b2 ra rb mix [wI 3, wI 3, wI 2, wI 2, wU, wU, wU, wU, wU]), [], (HA p q r b0 b1 b2), 6) (fun v σ' u' => v = some (.int 1) ∧ σ'.length ≤ 16 ∧ u' ≤ 128) := by
  refine WGo.s (WStep.iload a0_123 rfl) ?_
  refine WGo.s (WStep.iload a0_125 rfl) ?_
  refine WGo.s (WStep.isub a0_127) ?_
  show WGo _ (128, (LA p q r b0 b1 b2 ra rb mix [wI 3, wI 3, wI 2, wI 2, wU, wU, wU, wU, wU]), [.int 0], (HA p q r b0 b1 b2), 6) _
  refine WGo.s (WStep.istore (L' := (LA p q r b0 b1 b2 ra rb mix [wI 3, wI 3, wI 2, wI 2, wI 0, wU, wU, wU, wU])) a0_128 rfl) ?_
  refine WGo.s (WStep.iload a0_130 rfl) ?_
  refine WGo.s (WStep.iload a0_132 rfl) ?_
  refine WGo.s (WStep.isub a0_134) ?_
  show WGo _ (135, (LA p q r b0 b1 b2 ra rb mix [wI 3, wI 3, wI 2, wI 2, wI 0, wU, wU, wU, wU]), [.int 0], (HA p q r b0 b1 b2), 6) _
  refine WGo.s (WStep.istore (L' := (LA p q r b0 b1 b2 ra rb mix [wI 3, wI 3, wI 2, wI 2, wI 0, wI 0, wU, wU, wU])) a0_135 rfl) ?_
  refine WGo.s (WStep.iload a0_137 rfl) ?_
  refine WGo.s (WStep.iload a0_139 rfl) ?_
  refine WGo.s (WStep.icmpT a0_141 (by decide)) ?_
  refine WGo.s (WStep.iconst (1 : Int32) a0_150 rfl) ?_
  refine WGo.s (WStep.istore (L' := (LA p q r b0 b1 b2 ra rb mix [wI 3, wI 3, wI 2, wI 2, wI 0, wI 0, wI 1, wU, wU])) a0_151 rfl) ?_
  refine WGo.s (WStep.iload a0_153 rfl) ?_
  refine WGo.s (WStep.ifT a0_155 (by decide)) ?_
  refine WGo.s (WStep.iload a0_175 rfl) ?_
  refine WGo.s (WStep.iconst (1 : Int32) a0_177 rfl) ?_
  refine WGo.s (WStep.icmpT a0_178 (by decide)) ?_
  refine WGo.s (WStep.iload a0_202 rfl) ?_
  refine WGo.s (WStep.iconst (2 : Int32) a0_204 rfl) ?_
  refine WGo.s (WStep.icmpT a0_205 (by decide)) ?_
  refine WGo.s (WStep.aload a0_229 rfl rfl) ?_
  refine WGo.s (WStep.iload a0_231 rfl) ?_
  refine WGo.s (WStep.iload a0_233 rfl) ?_
  refine WGo.s (WStep.aload a0_235 rfl rfl) ?_
  refine WGo.s (WStep.iload a0_237 rfl) ?_
  refine WGo.s (WStep.iload a0_239 rfl) ?_
  refine WGo.callS a0_241 (ok3 hw _ _ _ _) (wd hw 10 rfl) (wd hw 11 rfl) (argsL := [.ref 0, .int 3, .int 3, .ref 1, .int 2, .int 2]) (S := []) (c3_3322 hw _ _ p q r b0 b1 b2 _) rfl rfl rfl rfl rfl rfl (Nat.le_of_ble_eq_true rfl) (Nat.le_of_ble_eq_true rfl) ?_
  rintro _ _ _ ⟨⟨rfl, hE⟩ | ⟨rfl, hE⟩, rfl, rfl⟩
  · skip
    show WGo _ (244, (LA p q r b0 b1 b2 ra rb mix [wI 3, wI 3, wI 2, wI 2, wI 0, wI 0, wI 1, wU, wU]), [.int 1], (HA p q r b0 b1 b2), 6) _
    refine WGo.s (WStep.istore (L' := (LA p q r b0 b1 b2 ra rb mix [wI 3, wI 3, wI 2, wI 2, wI 0, wI 0, wI 1, wI 1, wU])) a0_244 rfl) ?_
    exact segE1 Z a0 hw n0 p q r b0 b1 b2 ra rb mix _ _ _ _ _ _
  · exfalso
    simp_all
theorem segD3323 (Z : State) (a0 : Array Value) (hw : ∀ d ∈ tables_1, d.before a0 Z = true) (n0 : Nat) (p q r b0 b1 b2 : Int64) (ra rb mix : Int32) : WGo (g0 Z (fun k => n0 + k) n0 0 0) (123, (LA p q r b0 b1 b2 ra rb mix [wI 3, wI 3, wI 2, wI 3, wU, wU, wU, wU, wU]), [], (HA p q r b0 b1 b2), 6) (fun v σ' u' => v = some (.int 1) ∧ σ'.length ≤ 16 ∧ u' ≤ 128) := by
  refine WGo.s (WStep.iload a0_123 rfl) ?_
  refine WGo.s (WStep.iload a0_125 rfl) ?_
  refine WGo.s (WStep.isub a0_127) ?_
  show WGo _ (128, (LA p q r b0 b1 b2 ra rb mix [wI 3, wI 3, wI 2, wI 3, wU, wU, wU, wU, wU]), [.int 0], (HA p q r b0 b1 b2), 6) _
  refine WGo.s (WStep.istore (L' := (LA p q r b0 b1 b2 ra rb mix [wI 3, wI 3, wI 2, wI 3, wI 0, wU, wU, wU, wU])) a0_128 rfl) ?_
  refine WGo.s (WStep.iload a0_130 rfl) ?_
  refine WGo.s (WStep.iload a0_132 rfl) ?_
  refine WGo.s (WStep.isub a0_134) ?_
  show WGo _ (135, (LA p q r b0 b1 b2 ra rb mix [wI 3, wI 3, wI 2, wI 3, wI 0, wU, wU, wU, wU]), [.int 1], (HA p q r b0 b1 b2), 6) _
  refine WGo.s (WStep.istore (L' := (LA p q r b0 b1 b2 ra rb mix [wI 3, wI 3, wI 2, wI 3, wI 0, wI 1, wU, wU, wU])) a0_135 rfl) ?_
  refine WGo.s (WStep.iload a0_137 rfl) ?_
  refine WGo.s (WStep.iload a0_139 rfl) ?_
  refine WGo.s (WStep.icmpF a0_141 (by decide)) ?_
  refine WGo.s (WStep.iconst (0 : Int32) a0_144 rfl) ?_
  refine WGo.s (WStep.istore (L' := (LA p q r b0 b1 b2 ra rb mix [wI 3, wI 3, wI 2, wI 3, wI 0, wI 1, wI 0, wU, wU])) a0_145 rfl) ?_
  refine WGo.s (WStep.goto a0_147) ?_
  refine WGo.s (WStep.aload a0_229 rfl rfl) ?_
  refine WGo.s (WStep.iload a0_231 rfl) ?_
  refine WGo.s (WStep.iload a0_233 rfl) ?_
  refine WGo.s (WStep.aload a0_235 rfl rfl) ?_
  refine WGo.s (WStep.iload a0_237 rfl) ?_
  refine WGo.s (WStep.iload a0_239 rfl) ?_
  refine WGo.callS a0_241 (ok3 hw _ _ _ _) (wd hw 10 rfl) (wd hw 11 rfl) (argsL := [.ref 0, .int 3, .int 3, .ref 1, .int 2, .int 3]) (S := []) (c3_3323 hw _ _ p q r b0 b1 b2 _) rfl rfl rfl rfl rfl rfl (Nat.le_of_ble_eq_true rfl) (Nat.le_of_ble_eq_true rfl) ?_
  rintro _ _ _ ⟨⟨rfl, hE⟩ | ⟨rfl, hE⟩, rfl, rfl⟩
  · exfalso
    simp_all
  · skip
    show WGo _ (244, (LA p q r b0 b1 b2 ra rb mix [wI 3, wI 3, wI 2, wI 3, wI 0, wI 1, wI 0, wU, wU]), [.int 0], (HA p q r b0 b1 b2), 6) _
    refine WGo.s (WStep.istore (L' := (LA p q r b0 b1 b2 ra rb mix [wI 3, wI 3, wI 2, wI 3, wI 0, wI 1, wI 0, wI 0, wU])) a0_244 rfl) ?_
    exact segE0 Z a0 hw n0 p q r b0 b1 b2 ra rb mix _ _ _ _ _ _
theorem segD3333 (Z : State) (a0 : Array Value) (hw : ∀ d ∈ tables_1, d.before a0 Z = true) (n0 : Nat) (p q r b0 b1 b2 : Int64) (ra rb mix : Int32) : WGo (g0 Z (fun k => n0 + k) n0 0 0) (123, (LA p q r b0 b1 b2 ra rb mix [wI 3, wI 3, wI 3, wI 3, wU, wU, wU, wU, wU]), [], (HA p q r b0 b1 b2), 6) (fun v σ' u' => v = some (.int 1) ∧ σ'.length ≤ 16 ∧ u' ≤ 128) := by
  refine WGo.s (WStep.iload a0_123 rfl) ?_
  refine WGo.s (WStep.iload a0_125 rfl) ?_
  refine WGo.s (WStep.isub a0_127) ?_
  show WGo _ (128, (LA p q r b0 b1 b2 ra rb mix [wI 3, wI 3, wI 3, wI 3, wU, wU, wU, wU, wU]), [.int 0], (HA p q r b0 b1 b2), 6) _
  refine WGo.s (WStep.istore (L' := (LA p q r b0 b1 b2 ra rb mix [wI 3, wI 3, wI 3, wI 3, wI 0, wU, wU, wU, wU])) a0_128 rfl) ?_
  refine WGo.s (WStep.iload a0_130 rfl) ?_
  refine WGo.s (WStep.iload a0_132 rfl) ?_
  refine WGo.s (WStep.isub a0_134) ?_
  show WGo _ (135, (LA p q r b0 b1 b2 ra rb mix [wI 3, wI 3, wI 3, wI 3, wI 0, wU, wU, wU, wU]), [.int 0], (HA p q r b0 b1 b2), 6) _
  refine WGo.s (WStep.istore (L' := (LA p q r b0 b1 b2 ra rb mix [wI 3, wI 3, wI 3, wI 3, wI 0, wI 0, wU, wU, wU])) a0_135 rfl) ?_
  refine WGo.s (WStep.iload a0_137 rfl) ?_
  refine WGo.s (WStep.iload a0_139 rfl) ?_
  refine WGo.s (WStep.icmpT a0_141 (by decide)) ?_
  refine WGo.s (WStep.iconst (1 : Int32) a0_150 rfl) ?_
  refine WGo.s (WStep.istore (L' := (LA p q r b0 b1 b2 ra rb mix [wI 3, wI 3, wI 3, wI 3, wI 0, wI 0, wI 1, wU, wU])) a0_151 rfl) ?_
  refine WGo.s (WStep.iload a0_153 rfl) ?_
  refine WGo.s (WStep.ifT a0_155 (by decide)) ?_
  refine WGo.s (WStep.iload a0_175 rfl) ?_
  refine WGo.s (WStep.iconst (1 : Int32) a0_177 rfl) ?_
  refine WGo.s (WStep.icmpT a0_178 (by decide)) ?_
  refine WGo.s (WStep.iload a0_202 rfl) ?_
  refine WGo.s (WStep.iconst (2 : Int32) a0_204 rfl) ?_
  refine WGo.s (WStep.icmpT a0_205 (by decide)) ?_
  refine WGo.s (WStep.aload a0_229 rfl rfl) ?_
  refine WGo.s (WStep.iload a0_231 rfl) ?_
  refine WGo.s (WStep.iload a0_233 rfl) ?_
  refine WGo.s (WStep.aload a0_235 rfl rfl) ?_
  refine WGo.s (WStep.iload a0_237 rfl) ?_
  refine WGo.s (WStep.iload a0_239 rfl) ?_
  refine WGo.callS a0_241 (ok3 hw _ _ _ _) (wd hw 10 rfl) (wd hw 11 rfl) (argsL := [.ref 0, .int 3, .int 3, .ref 1, .int 3, .int 3]) (S := []) (c3_3333 hw _ _ p q r b0 b1 b2 _) rfl rfl rfl rfl rfl rfl (Nat.le_of_ble_eq_true rfl) (Nat.le_of_ble_eq_true rfl) ?_
  rintro _ _ _ ⟨⟨rfl, hE⟩ | ⟨rfl, hE⟩, rfl, rfl⟩
  · skip
    show WGo _ (244, (LA p q r b0 b1 b2 ra rb mix [wI 3, wI 3, wI 3, wI 3, wI 0, wI 0, wI 1, wU, wU]), [.int 1], (HA p q r b0 b1 b2), 6) _
    refine WGo.s (WStep.istore (L' := (LA p q r b0 b1 b2 ra rb mix [wI 3, wI 3, wI 3, wI 3, wI 0, wI 0, wI 1, wI 1, wU])) a0_244 rfl) ?_
    exact segE1 Z a0 hw n0 p q r b0 b1 b2 ra rb mix _ _ _ _ _ _
  · exfalso
    simp_all
theorem four (x k : Int32) (h : (x &&& (3 : Int32)) = k) : k = 0 ∨ k = 1 ∨ k = 2 ∨ k = 3 := by
  have q := c_and x 3 (by decide)
  rw [h] at q
  have e : (3 : Int32).toInt = 3 := rfl
  simp only [← Int32.toInt_inj, Int32.reduceToInt]
  omega
theorem segC00 (Z : State) (a0 : Array Value) (hw : ∀ d ∈ tables_1, d.before a0 Z = true) (n0 : Nat) (p q r b0 b1 b2 : Int64) (ra rb mix : Int32) : WGo (g0 Z (fun k => n0 + k) n0 0 0) (102, (LA p q r b0 b1 b2 ra rb mix [wI 0, wI 0, wU, wU, wU, wU, wU, wU, wU]), [], (HA p q r b0 b1 b2), 6) (fun v σ' u' => v = some (.int 1) ∧ σ'.length ≤ 16 ∧ u' ≤ 128) := by
  refine WGo.s (WStep.iload a0_102 rfl) ?_
  refine WGo.s (WStep.iconst (3 : Int32) a0_104 rfl) ?_
  refine WGo.s (WStep.iand a0_105) ?_
  generalize hg_s1 : (rb &&& (3 : Int32)) = s1
  obtain hs_s1 := four _ _ hg_s1
  rcases hs_s1 with rfl | rfl | rfl | rfl
  · show WGo _ (106, (LA p q r b0 b1 b2 ra rb mix [wI 0, wI 0, wU, wU, wU, wU, wU, wU, wU]), [.int 0], (HA p q r b0 b1 b2), 6) _
    refine WGo.s (WStep.istore (L' := (LA p q r b0 b1 b2 ra rb mix [wI 0, wI 0, wI 0, wU, wU, wU, wU, wU, wU])) a0_106 rfl) ?_
    refine WGo.s (WStep.iconst (3 : Int32) a0_108 rfl) ?_
    refine WGo.s (WStep.iload a0_109 rfl) ?_
    refine WGo.s (WStep.iload a0_111 rfl) ?_
    refine WGo.s (WStep.iconst (2 : Int32) a0_113 rfl) ?_
    refine WGo.s (WStep.iushr a0_114) ?_
    refine WGo.s (WStep.iconst (3 : Int32) a0_115 rfl) ?_
    refine WGo.s (WStep.iand a0_116) ?_
    generalize hg_s2 : (((rb.toUInt32 >>> ((2 : Int32) &&& 31).toUInt32).toInt32) &&& (3 : Int32)) = s2
    obtain hs_s2 := four _ _ hg_s2
    rcases hs_s2 with rfl | rfl | rfl | rfl
    · show WGo _ (117, (LA p q r b0 b1 b2 ra rb mix [wI 0, wI 0, wI 0, wU, wU, wU, wU, wU, wU]), [.int 0, .int 0, .int 3], (HA p q r b0 b1 b2), 6) _
      refine WGo.s (WStep.iadd a0_117) ?_
      show WGo _ (118, (LA p q r b0 b1 b2 ra rb mix [wI 0, wI 0, wI 0, wU, wU, wU, wU, wU, wU]), [.int 0, .int 3], (HA p q r b0 b1 b2), 6) _
      refine WGo.callS a0_118 (ok2 hw _ _ _ _) (wd hw 6 rfl) (wd hw 7 rfl) (argsL := [.int 3, .int 0]) (S := []) (c2 hw _ _ (3 : Int32) (0 : Int32) _ _) rfl rfl rfl rfl rfl rfl (Nat.le_of_ble_eq_true rfl) (Nat.le_of_ble_eq_true rfl) ?_
      rintro _ _ _ ⟨rfl, rfl, rfl⟩
      show WGo _ (121, (LA p q r b0 b1 b2 ra rb mix [wI 0, wI 0, wI 0, wU, wU, wU, wU, wU, wU]), [.int 0], (HA p q r b0 b1 b2), 6) _
      refine WGo.s (WStep.istore (L' := (LA p q r b0 b1 b2 ra rb mix [wI 0, wI 0, wI 0, wI 0, wU, wU, wU, wU, wU])) a0_121 rfl) ?_
      exact segD0000 Z a0 hw n0 p q r b0 b1 b2 ra rb mix
    · show WGo _ (117, (LA p q r b0 b1 b2 ra rb mix [wI 0, wI 0, wI 0, wU, wU, wU, wU, wU, wU]), [.int 1, .int 0, .int 3], (HA p q r b0 b1 b2), 6) _
      refine WGo.s (WStep.iadd a0_117) ?_
      show WGo _ (118, (LA p q r b0 b1 b2 ra rb mix [wI 0, wI 0, wI 0, wU, wU, wU, wU, wU, wU]), [.int 1, .int 3], (HA p q r b0 b1 b2), 6) _
      refine WGo.callS a0_118 (ok2 hw _ _ _ _) (wd hw 6 rfl) (wd hw 7 rfl) (argsL := [.int 3, .int 1]) (S := []) (c2 hw _ _ (3 : Int32) (1 : Int32) _ _) rfl rfl rfl rfl rfl rfl (Nat.le_of_ble_eq_true rfl) (Nat.le_of_ble_eq_true rfl) ?_
      rintro _ _ _ ⟨rfl, rfl, rfl⟩
      show WGo _ (121, (LA p q r b0 b1 b2 ra rb mix [wI 0, wI 0, wI 0, wU, wU, wU, wU, wU, wU]), [.int 1], (HA p q r b0 b1 b2), 6) _
      refine WGo.s (WStep.istore (L' := (LA p q r b0 b1 b2 ra rb mix [wI 0, wI 0, wI 0, wI 1, wU, wU, wU, wU, wU])) a0_121 rfl) ?_
      exact segD0001 Z a0 hw n0 p q r b0 b1 b2 ra rb mix
    · show WGo _ (117, (LA p q r b0 b1 b2 ra rb mix [wI 0, wI 0, wI 0, wU, wU, wU, wU, wU, wU]), [.int 2, .int 0, .int 3], (HA p q r b0 b1 b2), 6) _
      refine WGo.s (WStep.iadd a0_117) ?_
      show WGo _ (118, (LA p q r b0 b1 b2 ra rb mix [wI 0, wI 0, wI 0, wU, wU, wU, wU, wU, wU]), [.int 2, .int 3], (HA p q r b0 b1 b2), 6) _
      refine WGo.callS a0_118 (ok2 hw _ _ _ _) (wd hw 6 rfl) (wd hw 7 rfl) (argsL := [.int 3, .int 2]) (S := []) (c2 hw _ _ (3 : Int32) (2 : Int32) _ _) rfl rfl rfl rfl rfl rfl (Nat.le_of_ble_eq_true rfl) (Nat.le_of_ble_eq_true rfl) ?_
      rintro _ _ _ ⟨rfl, rfl, rfl⟩
      show WGo _ (121, (LA p q r b0 b1 b2 ra rb mix [wI 0, wI 0, wI 0, wU, wU, wU, wU, wU, wU]), [.int 2], (HA p q r b0 b1 b2), 6) _
      refine WGo.s (WStep.istore (L' := (LA p q r b0 b1 b2 ra rb mix [wI 0, wI 0, wI 0, wI 2, wU, wU, wU, wU, wU])) a0_121 rfl) ?_
      exact segD0002 Z a0 hw n0 p q r b0 b1 b2 ra rb mix
    · show WGo _ (117, (LA p q r b0 b1 b2 ra rb mix [wI 0, wI 0, wI 0, wU, wU, wU, wU, wU, wU]), [.int 3, .int 0, .int 3], (HA p q r b0 b1 b2), 6) _
      refine WGo.s (WStep.iadd a0_117) ?_
      show WGo _ (118, (LA p q r b0 b1 b2 ra rb mix [wI 0, wI 0, wI 0, wU, wU, wU, wU, wU, wU]), [.int 3, .int 3], (HA p q r b0 b1 b2), 6) _
      refine WGo.callS a0_118 (ok2 hw _ _ _ _) (wd hw 6 rfl) (wd hw 7 rfl) (argsL := [.int 3, .int 3]) (S := []) (c2 hw _ _ (3 : Int32) (3 : Int32) _ _) rfl rfl rfl rfl rfl rfl (Nat.le_of_ble_eq_true rfl) (Nat.le_of_ble_eq_true rfl) ?_
      rintro _ _ _ ⟨rfl, rfl, rfl⟩
      show WGo _ (121, (LA p q r b0 b1 b2 ra rb mix [wI 0, wI 0, wI 0, wU, wU, wU, wU, wU, wU]), [.int 3], (HA p q r b0 b1 b2), 6) _
      refine WGo.s (WStep.istore (L' := (LA p q r b0 b1 b2 ra rb mix [wI 0, wI 0, wI 0, wI 3, wU, wU, wU, wU, wU])) a0_121 rfl) ?_
      exact segD0003 Z a0 hw n0 p q r b0 b1 b2 ra rb mix
  · show WGo _ (106, (LA p q r b0 b1 b2 ra rb mix [wI 0, wI 0, wU, wU, wU, wU, wU, wU, wU]), [.int 1], (HA p q r b0 b1 b2), 6) _
    refine WGo.s (WStep.istore (L' := (LA p q r b0 b1 b2 ra rb mix [wI 0, wI 0, wI 1, wU, wU, wU, wU, wU, wU])) a0_106 rfl) ?_
    refine WGo.s (WStep.iconst (3 : Int32) a0_108 rfl) ?_
    refine WGo.s (WStep.iload a0_109 rfl) ?_
    refine WGo.s (WStep.iload a0_111 rfl) ?_
    refine WGo.s (WStep.iconst (2 : Int32) a0_113 rfl) ?_
    refine WGo.s (WStep.iushr a0_114) ?_
    refine WGo.s (WStep.iconst (3 : Int32) a0_115 rfl) ?_
    refine WGo.s (WStep.iand a0_116) ?_
    generalize hg_s2 : (((rb.toUInt32 >>> ((2 : Int32) &&& 31).toUInt32).toInt32) &&& (3 : Int32)) = s2
    obtain hs_s2 := four _ _ hg_s2
    rcases hs_s2 with rfl | rfl | rfl | rfl
    · show WGo _ (117, (LA p q r b0 b1 b2 ra rb mix [wI 0, wI 0, wI 1, wU, wU, wU, wU, wU, wU]), [.int 0, .int 1, .int 3], (HA p q r b0 b1 b2), 6) _
      refine WGo.s (WStep.iadd a0_117) ?_
      show WGo _ (118, (LA p q r b0 b1 b2 ra rb mix [wI 0, wI 0, wI 1, wU, wU, wU, wU, wU, wU]), [.int 1, .int 3], (HA p q r b0 b1 b2), 6) _
      refine WGo.callS a0_118 (ok2 hw _ _ _ _) (wd hw 6 rfl) (wd hw 7 rfl) (argsL := [.int 3, .int 1]) (S := []) (c2 hw _ _ (3 : Int32) (1 : Int32) _ _) rfl rfl rfl rfl rfl rfl (Nat.le_of_ble_eq_true rfl) (Nat.le_of_ble_eq_true rfl) ?_
      rintro _ _ _ ⟨rfl, rfl, rfl⟩
      show WGo _ (121, (LA p q r b0 b1 b2 ra rb mix [wI 0, wI 0, wI 1, wU, wU, wU, wU, wU, wU]), [.int 1], (HA p q r b0 b1 b2), 6) _
      refine WGo.s (WStep.istore (L' := (LA p q r b0 b1 b2 ra rb mix [wI 0, wI 0, wI 1, wI 1, wU, wU, wU, wU, wU])) a0_121 rfl) ?_
      exact segD0011 Z a0 hw n0 p q r b0 b1 b2 ra rb mix
    · show WGo _ (117, (LA p q r b0 b1 b2 ra rb mix [wI 0, wI 0, wI 1, wU, wU, wU, wU, wU, wU]), [.int 1, .int 1, .int 3], (HA p q r b0 b1 b2), 6) _
      refine WGo.s (WStep.iadd a0_117) ?_
      show WGo _ (118, (LA p q r b0 b1 b2 ra rb mix [wI 0, wI 0, wI 1, wU, wU, wU, wU, wU, wU]), [.int 2, .int 3], (HA p q r b0 b1 b2), 6) _
      refine WGo.callS a0_118 (ok2 hw _ _ _ _) (wd hw 6 rfl) (wd hw 7 rfl) (argsL := [.int 3, .int 2]) (S := []) (c2 hw _ _ (3 : Int32) (2 : Int32) _ _) rfl rfl rfl rfl rfl rfl (Nat.le_of_ble_eq_true rfl) (Nat.le_of_ble_eq_true rfl) ?_
      rintro _ _ _ ⟨rfl, rfl, rfl⟩
      show WGo _ (121, (LA p q r b0 b1 b2 ra rb mix [wI 0, wI 0, wI 1, wU, wU, wU, wU, wU, wU]), [.int 2], (HA p q r b0 b1 b2), 6) _
      refine WGo.s (WStep.istore (L' := (LA p q r b0 b1 b2 ra rb mix [wI 0, wI 0, wI 1, wI 2, wU, wU, wU, wU, wU])) a0_121 rfl) ?_
      exact segD0012 Z a0 hw n0 p q r b0 b1 b2 ra rb mix
    · show WGo _ (117, (LA p q r b0 b1 b2 ra rb mix [wI 0, wI 0, wI 1, wU, wU, wU, wU, wU, wU]), [.int 2, .int 1, .int 3], (HA p q r b0 b1 b2), 6) _
      refine WGo.s (WStep.iadd a0_117) ?_
      show WGo _ (118, (LA p q r b0 b1 b2 ra rb mix [wI 0, wI 0, wI 1, wU, wU, wU, wU, wU, wU]), [.int 3, .int 3], (HA p q r b0 b1 b2), 6) _
      refine WGo.callS a0_118 (ok2 hw _ _ _ _) (wd hw 6 rfl) (wd hw 7 rfl) (argsL := [.int 3, .int 3]) (S := []) (c2 hw _ _ (3 : Int32) (3 : Int32) _ _) rfl rfl rfl rfl rfl rfl (Nat.le_of_ble_eq_true rfl) (Nat.le_of_ble_eq_true rfl) ?_
      rintro _ _ _ ⟨rfl, rfl, rfl⟩
      show WGo _ (121, (LA p q r b0 b1 b2 ra rb mix [wI 0, wI 0, wI 1, wU, wU, wU, wU, wU, wU]), [.int 3], (HA p q r b0 b1 b2), 6) _
      refine WGo.s (WStep.istore (L' := (LA p q r b0 b1 b2 ra rb mix [wI 0, wI 0, wI 1, wI 3, wU, wU, wU, wU, wU])) a0_121 rfl) ?_
      exact segD0013 Z a0 hw n0 p q r b0 b1 b2 ra rb mix
    · show WGo _ (117, (LA p q r b0 b1 b2 ra rb mix [wI 0, wI 0, wI 1, wU, wU, wU, wU, wU, wU]), [.int 3, .int 1, .int 3], (HA p q r b0 b1 b2), 6) _
      refine WGo.s (WStep.iadd a0_117) ?_
      show WGo _ (118, (LA p q r b0 b1 b2 ra rb mix [wI 0, wI 0, wI 1, wU, wU, wU, wU, wU, wU]), [.int 4, .int 3], (HA p q r b0 b1 b2), 6) _
      refine WGo.callS a0_118 (ok2 hw _ _ _ _) (wd hw 6 rfl) (wd hw 7 rfl) (argsL := [.int 3, .int 4]) (S := []) (c2 hw _ _ (3 : Int32) (4 : Int32) _ _) rfl rfl rfl rfl rfl rfl (Nat.le_of_ble_eq_true rfl) (Nat.le_of_ble_eq_true rfl) ?_
      rintro _ _ _ ⟨rfl, rfl, rfl⟩
      show WGo _ (121, (LA p q r b0 b1 b2 ra rb mix [wI 0, wI 0, wI 1, wU, wU, wU, wU, wU, wU]), [.int 3], (HA p q r b0 b1 b2), 6) _
      refine WGo.s (WStep.istore (L' := (LA p q r b0 b1 b2 ra rb mix [wI 0, wI 0, wI 1, wI 3, wU, wU, wU, wU, wU])) a0_121 rfl) ?_
      exact segD0013 Z a0 hw n0 p q r b0 b1 b2 ra rb mix
  · show WGo _ (106, (LA p q r b0 b1 b2 ra rb mix [wI 0, wI 0, wU, wU, wU, wU, wU, wU, wU]), [.int 2], (HA p q r b0 b1 b2), 6) _
    refine WGo.s (WStep.istore (L' := (LA p q r b0 b1 b2 ra rb mix [wI 0, wI 0, wI 2, wU, wU, wU, wU, wU, wU])) a0_106 rfl) ?_
    refine WGo.s (WStep.iconst (3 : Int32) a0_108 rfl) ?_
    refine WGo.s (WStep.iload a0_109 rfl) ?_
    refine WGo.s (WStep.iload a0_111 rfl) ?_
    refine WGo.s (WStep.iconst (2 : Int32) a0_113 rfl) ?_
    refine WGo.s (WStep.iushr a0_114) ?_
    refine WGo.s (WStep.iconst (3 : Int32) a0_115 rfl) ?_
    refine WGo.s (WStep.iand a0_116) ?_
    generalize hg_s2 : (((rb.toUInt32 >>> ((2 : Int32) &&& 31).toUInt32).toInt32) &&& (3 : Int32)) = s2
    obtain hs_s2 := four _ _ hg_s2
    rcases hs_s2 with rfl | rfl | rfl | rfl
    · show WGo _ (117, (LA p q r b0 b1 b2 ra rb mix [wI 0, wI 0, wI 2, wU, wU, wU, wU, wU, wU]), [.int 0, .int 2, .int 3], (HA p q r b0 b1 b2), 6) _
      refine WGo.s (WStep.iadd a0_117) ?_
      show WGo _ (118, (LA p q r b0 b1 b2 ra rb mix [wI 0, wI 0, wI 2, wU, wU, wU, wU, wU, wU]), [.int 2, .int 3], (HA p q r b0 b1 b2), 6) _
      refine WGo.callS a0_118 (ok2 hw _ _ _ _) (wd hw 6 rfl) (wd hw 7 rfl) (argsL := [.int 3, .int 2]) (S := []) (c2 hw _ _ (3 : Int32) (2 : Int32) _ _) rfl rfl rfl rfl rfl rfl (Nat.le_of_ble_eq_true rfl) (Nat.le_of_ble_eq_true rfl) ?_
      rintro _ _ _ ⟨rfl, rfl, rfl⟩
      show WGo _ (121, (LA p q r b0 b1 b2 ra rb mix [wI 0, wI 0, wI 2, wU, wU, wU, wU, wU, wU]), [.int 2], (HA p q r b0 b1 b2), 6) _
      refine WGo.s (WStep.istore (L' := (LA p q r b0 b1 b2 ra rb mix [wI 0, wI 0, wI 2, wI 2, wU, wU, wU, wU, wU])) a0_121 rfl) ?_
      exact segD0022 Z a0 hw n0 p q r b0 b1 b2 ra rb mix
    · show WGo _ (117, (LA p q r b0 b1 b2 ra rb mix [wI 0, wI 0, wI 2, wU, wU, wU, wU, wU, wU]), [.int 1, .int 2, .int 3], (HA p q r b0 b1 b2), 6) _
      refine WGo.s (WStep.iadd a0_117) ?_
      show WGo _ (118, (LA p q r b0 b1 b2 ra rb mix [wI 0, wI 0, wI 2, wU, wU, wU, wU, wU, wU]), [.int 3, .int 3], (HA p q r b0 b1 b2), 6) _
      refine WGo.callS a0_118 (ok2 hw _ _ _ _) (wd hw 6 rfl) (wd hw 7 rfl) (argsL := [.int 3, .int 3]) (S := []) (c2 hw _ _ (3 : Int32) (3 : Int32) _ _) rfl rfl rfl rfl rfl rfl (Nat.le_of_ble_eq_true rfl) (Nat.le_of_ble_eq_true rfl) ?_
      rintro _ _ _ ⟨rfl, rfl, rfl⟩
      show WGo _ (121, (LA p q r b0 b1 b2 ra rb mix [wI 0, wI 0, wI 2, wU, wU, wU, wU, wU, wU]), [.int 3], (HA p q r b0 b1 b2), 6) _
      refine WGo.s (WStep.istore (L' := (LA p q r b0 b1 b2 ra rb mix [wI 0, wI 0, wI 2, wI 3, wU, wU, wU, wU, wU])) a0_121 rfl) ?_
      exact segD0023 Z a0 hw n0 p q r b0 b1 b2 ra rb mix
    · show WGo _ (117, (LA p q r b0 b1 b2 ra rb mix [wI 0, wI 0, wI 2, wU, wU, wU, wU, wU, wU]), [.int 2, .int 2, .int 3], (HA p q r b0 b1 b2), 6) _
      refine WGo.s (WStep.iadd a0_117) ?_
      show WGo _ (118, (LA p q r b0 b1 b2 ra rb mix [wI 0, wI 0, wI 2, wU, wU, wU, wU, wU, wU]), [.int 4, .int 3], (HA p q r b0 b1 b2), 6) _
      refine WGo.callS a0_118 (ok2 hw _ _ _ _) (wd hw 6 rfl) (wd hw 7 rfl) (argsL := [.int 3, .int 4]) (S := []) (c2 hw _ _ (3 : Int32) (4 : Int32) _ _) rfl rfl rfl rfl rfl rfl (Nat.le_of_ble_eq_true rfl) (Nat.le_of_ble_eq_true rfl) ?_
      rintro _ _ _ ⟨rfl, rfl, rfl⟩
      show WGo _ (121, (LA p q r b0 b1 b2 ra rb mix [wI 0, wI 0, wI 2, wU, wU, wU, wU, wU, wU]), [.int 3], (HA p q r b0 b1 b2), 6) _
      refine WGo.s (WStep.istore (L' := (LA p q r b0 b1 b2 ra rb mix [wI 0, wI 0, wI 2, wI 3, wU, wU, wU, wU, wU])) a0_121 rfl) ?_
      exact segD0023 Z a0 hw n0 p q r b0 b1 b2 ra rb mix
    · show WGo _ (117, (LA p q r b0 b1 b2 ra rb mix [wI 0, wI 0, wI 2, wU, wU, wU, wU, wU, wU]), [.int 3, .int 2, .int 3], (HA p q r b0 b1 b2), 6) _
      refine WGo.s (WStep.iadd a0_117) ?_
      show WGo _ (118, (LA p q r b0 b1 b2 ra rb mix [wI 0, wI 0, wI 2, wU, wU, wU, wU, wU, wU]), [.int 5, .int 3], (HA p q r b0 b1 b2), 6) _
      refine WGo.callS a0_118 (ok2 hw _ _ _ _) (wd hw 6 rfl) (wd hw 7 rfl) (argsL := [.int 3, .int 5]) (S := []) (c2 hw _ _ (3 : Int32) (5 : Int32) _ _) rfl rfl rfl rfl rfl rfl (Nat.le_of_ble_eq_true rfl) (Nat.le_of_ble_eq_true rfl) ?_
      rintro _ _ _ ⟨rfl, rfl, rfl⟩
      show WGo _ (121, (LA p q r b0 b1 b2 ra rb mix [wI 0, wI 0, wI 2, wU, wU, wU, wU, wU, wU]), [.int 3], (HA p q r b0 b1 b2), 6) _
      refine WGo.s (WStep.istore (L' := (LA p q r b0 b1 b2 ra rb mix [wI 0, wI 0, wI 2, wI 3, wU, wU, wU, wU, wU])) a0_121 rfl) ?_
      exact segD0023 Z a0 hw n0 p q r b0 b1 b2 ra rb mix
  · show WGo _ (106, (LA p q r b0 b1 b2 ra rb mix [wI 0, wI 0, wU, wU, wU, wU, wU, wU, wU]), [.int 3], (HA p q r b0 b1 b2), 6) _
    refine WGo.s (WStep.istore (L' := (LA p q r b0 b1 b2 ra rb mix [wI 0, wI 0, wI 3, wU, wU, wU, wU, wU, wU])) a0_106 rfl) ?_
    refine WGo.s (WStep.iconst (3 : Int32) a0_108 rfl) ?_
    refine WGo.s (WStep.iload a0_109 rfl) ?_
    refine WGo.s (WStep.iload a0_111 rfl) ?_
    refine WGo.s (WStep.iconst (2 : Int32) a0_113 rfl) ?_
    refine WGo.s (WStep.iushr a0_114) ?_
    refine WGo.s (WStep.iconst (3 : Int32) a0_115 rfl) ?_
    refine WGo.s (WStep.iand a0_116) ?_
    generalize hg_s2 : (((rb.toUInt32 >>> ((2 : Int32) &&& 31).toUInt32).toInt32) &&& (3 : Int32)) = s2
    obtain hs_s2 := four _ _ hg_s2
    rcases hs_s2 with rfl | rfl | rfl | rfl
    · show WGo _ (117, (LA p q r b0 b1 b2 ra rb mix [wI 0, wI 0, wI 3, wU, wU, wU, wU, wU, wU]), [.int 0, .int 3, .int 3], (HA p q r b0 b1 b2), 6) _
      refine WGo.s (WStep.iadd a0_117) ?_
      show WGo _ (118, (LA p q r b0 b1 b2 ra rb mix [wI 0, wI 0, wI 3, wU, wU, wU, wU, wU, wU]), [.int 3, .int 3], (HA p q r b0 b1 b2), 6) _
      refine WGo.callS a0_118 (ok2 hw _ _ _ _) (wd hw 6 rfl) (wd hw 7 rfl) (argsL := [.int 3, .int 3]) (S := []) (c2 hw _ _ (3 : Int32) (3 : Int32) _ _) rfl rfl rfl rfl rfl rfl (Nat.le_of_ble_eq_true rfl) (Nat.le_of_ble_eq_true rfl) ?_
      rintro _ _ _ ⟨rfl, rfl, rfl⟩
      show WGo _ (121, (LA p q r b0 b1 b2 ra rb mix [wI 0, wI 0, wI 3, wU, wU, wU, wU, wU, wU]), [.int 3], (HA p q r b0 b1 b2), 6) _
      refine WGo.s (WStep.istore (L' := (LA p q r b0 b1 b2 ra rb mix [wI 0, wI 0, wI 3, wI 3, wU, wU, wU, wU, wU])) a0_121 rfl) ?_
      exact segD0033 Z a0 hw n0 p q r b0 b1 b2 ra rb mix
    · show WGo _ (117, (LA p q r b0 b1 b2 ra rb mix [wI 0, wI 0, wI 3, wU, wU, wU, wU, wU, wU]), [.int 1, .int 3, .int 3], (HA p q r b0 b1 b2), 6) _
      refine WGo.s (WStep.iadd a0_117) ?_
      show WGo _ (118, (LA p q r b0 b1 b2 ra rb mix [wI 0, wI 0, wI 3, wU, wU, wU, wU, wU, wU]), [.int 4, .int 3], (HA p q r b0 b1 b2), 6) _
      refine WGo.callS a0_118 (ok2 hw _ _ _ _) (wd hw 6 rfl) (wd hw 7 rfl) (argsL := [.int 3, .int 4]) (S := []) (c2 hw _ _ (3 : Int32) (4 : Int32) _ _) rfl rfl rfl rfl rfl rfl (Nat.le_of_ble_eq_true rfl) (Nat.le_of_ble_eq_true rfl) ?_
      rintro _ _ _ ⟨rfl, rfl, rfl⟩
      show WGo _ (121, (LA p q r b0 b1 b2 ra rb mix [wI 0, wI 0, wI 3, wU, wU, wU, wU, wU, wU]), [.int 3], (HA p q r b0 b1 b2), 6) _
      refine WGo.s (WStep.istore (L' := (LA p q r b0 b1 b2 ra rb mix [wI 0, wI 0, wI 3, wI 3, wU, wU, wU, wU, wU])) a0_121 rfl) ?_
      exact segD0033 Z a0 hw n0 p q r b0 b1 b2 ra rb mix
    · show WGo _ (117, (LA p q r b0 b1 b2 ra rb mix [wI 0, wI 0, wI 3, wU, wU, wU, wU, wU, wU]), [.int 2, .int 3, .int 3], (HA p q r b0 b1 b2), 6) _
      refine WGo.s (WStep.iadd a0_117) ?_
      show WGo _ (118, (LA p q r b0 b1 b2 ra rb mix [wI 0, wI 0, wI 3, wU, wU, wU, wU, wU, wU]), [.int 5, .int 3], (HA p q r b0 b1 b2), 6) _
      refine WGo.callS a0_118 (ok2 hw _ _ _ _) (wd hw 6 rfl) (wd hw 7 rfl) (argsL := [.int 3, .int 5]) (S := []) (c2 hw _ _ (3 : Int32) (5 : Int32) _ _) rfl rfl rfl rfl rfl rfl (Nat.le_of_ble_eq_true rfl) (Nat.le_of_ble_eq_true rfl) ?_
      rintro _ _ _ ⟨rfl, rfl, rfl⟩
      show WGo _ (121, (LA p q r b0 b1 b2 ra rb mix [wI 0, wI 0, wI 3, wU, wU, wU, wU, wU, wU]), [.int 3], (HA p q r b0 b1 b2), 6) _
      refine WGo.s (WStep.istore (L' := (LA p q r b0 b1 b2 ra rb mix [wI 0, wI 0, wI 3, wI 3, wU, wU, wU, wU, wU])) a0_121 rfl) ?_
      exact segD0033 Z a0 hw n0 p q r b0 b1 b2 ra rb mix
    · show WGo _ (117, (LA p q r b0 b1 b2 ra rb mix [wI 0, wI 0, wI 3, wU, wU, wU, wU, wU, wU]), [.int 3, .int 3, .int 3], (HA p q r b0 b1 b2), 6) _
      refine WGo.s (WStep.iadd a0_117) ?_
      show WGo _ (118, (LA p q r b0 b1 b2 ra rb mix [wI 0, wI 0, wI 3, wU, wU, wU, wU, wU, wU]), [.int 6, .int 3], (HA p q r b0 b1 b2), 6) _
      refine WGo.callS a0_118 (ok2 hw _ _ _ _) (wd hw 6 rfl) (wd hw 7 rfl) (argsL := [.int 3, .int 6]) (S := []) (c2 hw _ _ (3 : Int32) (6 : Int32) _ _) rfl rfl rfl rfl rfl rfl (Nat.le_of_ble_eq_true rfl) (Nat.le_of_ble_eq_true rfl) ?_
      rintro _ _ _ ⟨rfl, rfl, rfl⟩
      show WGo _ (121, (LA p q r b0 b1 b2 ra rb mix [wI 0, wI 0, wI 3, wU, wU, wU, wU, wU, wU]), [.int 3], (HA p q r b0 b1 b2), 6) _
      refine WGo.s (WStep.istore (L' := (LA p q r b0 b1 b2 ra rb mix [wI 0, wI 0, wI 3, wI 3, wU, wU, wU, wU, wU])) a0_121 rfl) ?_
      exact segD0033 Z a0 hw n0 p q r b0 b1 b2 ra rb mix
theorem segC01 (Z : State) (a0 : Array Value) (hw : ∀ d ∈ tables_1, d.before a0 Z = true) (n0 : Nat) (p q r b0 b1 b2 : Int64) (ra rb mix : Int32) : WGo (g0 Z (fun k => n0 + k) n0 0 0) (102, (LA p q r b0 b1 b2 ra rb mix [wI 0, wI 1, wU, wU, wU, wU, wU, wU, wU]), [], (HA p q r b0 b1 b2), 6) (fun v σ' u' => v = some (.int 1) ∧ σ'.length ≤ 16 ∧ u' ≤ 128) := by
  refine WGo.s (WStep.iload a0_102 rfl) ?_
  refine WGo.s (WStep.iconst (3 : Int32) a0_104 rfl) ?_
  refine WGo.s (WStep.iand a0_105) ?_
  generalize hg_s1 : (rb &&& (3 : Int32)) = s1
  obtain hs_s1 := four _ _ hg_s1
  rcases hs_s1 with rfl | rfl | rfl | rfl
  · show WGo _ (106, (LA p q r b0 b1 b2 ra rb mix [wI 0, wI 1, wU, wU, wU, wU, wU, wU, wU]), [.int 0], (HA p q r b0 b1 b2), 6) _
    refine WGo.s (WStep.istore (L' := (LA p q r b0 b1 b2 ra rb mix [wI 0, wI 1, wI 0, wU, wU, wU, wU, wU, wU])) a0_106 rfl) ?_
    refine WGo.s (WStep.iconst (3 : Int32) a0_108 rfl) ?_
    refine WGo.s (WStep.iload a0_109 rfl) ?_
    refine WGo.s (WStep.iload a0_111 rfl) ?_
    refine WGo.s (WStep.iconst (2 : Int32) a0_113 rfl) ?_
    refine WGo.s (WStep.iushr a0_114) ?_
    refine WGo.s (WStep.iconst (3 : Int32) a0_115 rfl) ?_
    refine WGo.s (WStep.iand a0_116) ?_
    generalize hg_s2 : (((rb.toUInt32 >>> ((2 : Int32) &&& 31).toUInt32).toInt32) &&& (3 : Int32)) = s2
    obtain hs_s2 := four _ _ hg_s2
    rcases hs_s2 with rfl | rfl | rfl | rfl
    · show WGo _ (117, (LA p q r b0 b1 b2 ra rb mix [wI 0, wI 1, wI 0, wU, wU, wU, wU, wU, wU]), [.int 0, .int 0, .int 3], (HA p q r b0 b1 b2), 6) _
      refine WGo.s (WStep.iadd a0_117) ?_
      show WGo _ (118, (LA p q r b0 b1 b2 ra rb mix [wI 0, wI 1, wI 0, wU, wU, wU, wU, wU, wU]), [.int 0, .int 3], (HA p q r b0 b1 b2), 6) _
      refine WGo.callS a0_118 (ok2 hw _ _ _ _) (wd hw 6 rfl) (wd hw 7 rfl) (argsL := [.int 3, .int 0]) (S := []) (c2 hw _ _ (3 : Int32) (0 : Int32) _ _) rfl rfl rfl rfl rfl rfl (Nat.le_of_ble_eq_true rfl) (Nat.le_of_ble_eq_true rfl) ?_
      rintro _ _ _ ⟨rfl, rfl, rfl⟩
      show WGo _ (121, (LA p q r b0 b1 b2 ra rb mix [wI 0, wI 1, wI 0, wU, wU, wU, wU, wU, wU]), [.int 0], (HA p q r b0 b1 b2), 6) _
      refine WGo.s (WStep.istore (L' := (LA p q r b0 b1 b2 ra rb mix [wI 0, wI 1, wI 0, wI 0, wU, wU, wU, wU, wU])) a0_121 rfl) ?_
      exact segD0100 Z a0 hw n0 p q r b0 b1 b2 ra rb mix
    · show WGo _ (117, (LA p q r b0 b1 b2 ra rb mix [wI 0, wI 1, wI 0, wU, wU, wU, wU, wU, wU]), [.int 1, .int 0, .int 3], (HA p q r b0 b1 b2), 6) _
      refine WGo.s (WStep.iadd a0_117) ?_
      show WGo _ (118, (LA p q r b0 b1 b2 ra rb mix [wI 0, wI 1, wI 0, wU, wU, wU, wU, wU, wU]), [.int 1, .int 3], (HA p q r b0 b1 b2), 6) _
      refine WGo.callS a0_118 (ok2 hw _ _ _ _) (wd hw 6 rfl) (wd hw 7 rfl) (argsL := [.int 3, .int 1]) (S := []) (c2 hw _ _ (3 : Int32) (1 : Int32) _ _) rfl rfl rfl rfl rfl rfl (Nat.le_of_ble_eq_true rfl) (Nat.le_of_ble_eq_true rfl) ?_
      rintro _ _ _ ⟨rfl, rfl, rfl⟩
      show WGo _ (121, (LA p q r b0 b1 b2 ra rb mix [wI 0, wI 1, wI 0, wU, wU, wU, wU, wU, wU]), [.int 1], (HA p q r b0 b1 b2), 6) _
      refine WGo.s (WStep.istore (L' := (LA p q r b0 b1 b2 ra rb mix [wI 0, wI 1, wI 0, wI 1, wU, wU, wU, wU, wU])) a0_121 rfl) ?_
      exact segD0101 Z a0 hw n0 p q r b0 b1 b2 ra rb mix
    · show WGo _ (117, (LA p q r b0 b1 b2 ra rb mix [wI 0, wI 1, wI 0, wU, wU, wU, wU, wU, wU]), [.int 2, .int 0, .int 3], (HA p q r b0 b1 b2), 6) _
      refine WGo.s (WStep.iadd a0_117) ?_
      show WGo _ (118, (LA p q r b0 b1 b2 ra rb mix [wI 0, wI 1, wI 0, wU, wU, wU, wU, wU, wU]), [.int 2, .int 3], (HA p q r b0 b1 b2), 6) _
      refine WGo.callS a0_118 (ok2 hw _ _ _ _) (wd hw 6 rfl) (wd hw 7 rfl) (argsL := [.int 3, .int 2]) (S := []) (c2 hw _ _ (3 : Int32) (2 : Int32) _ _) rfl rfl rfl rfl rfl rfl (Nat.le_of_ble_eq_true rfl) (Nat.le_of_ble_eq_true rfl) ?_
      rintro _ _ _ ⟨rfl, rfl, rfl⟩
      show WGo _ (121, (LA p q r b0 b1 b2 ra rb mix [wI 0, wI 1, wI 0, wU, wU, wU, wU, wU, wU]), [.int 2], (HA p q r b0 b1 b2), 6) _
      refine WGo.s (WStep.istore (L' := (LA p q r b0 b1 b2 ra rb mix [wI 0, wI 1, wI 0, wI 2, wU, wU, wU, wU, wU])) a0_121 rfl) ?_
      exact segD0102 Z a0 hw n0 p q r b0 b1 b2 ra rb mix
    · show WGo _ (117, (LA p q r b0 b1 b2 ra rb mix [wI 0, wI 1, wI 0, wU, wU, wU, wU, wU, wU]), [.int 3, .int 0, .int 3], (HA p q r b0 b1 b2), 6) _
      refine WGo.s (WStep.iadd a0_117) ?_
      show WGo _ (118, (LA p q r b0 b1 b2 ra rb mix [wI 0, wI 1, wI 0, wU, wU, wU, wU, wU, wU]), [.int 3, .int 3], (HA p q r b0 b1 b2), 6) _
      refine WGo.callS a0_118 (ok2 hw _ _ _ _) (wd hw 6 rfl) (wd hw 7 rfl) (argsL := [.int 3, .int 3]) (S := []) (c2 hw _ _ (3 : Int32) (3 : Int32) _ _) rfl rfl rfl rfl rfl rfl (Nat.le_of_ble_eq_true rfl) (Nat.le_of_ble_eq_true rfl) ?_
      rintro _ _ _ ⟨rfl, rfl, rfl⟩
      show WGo _ (121, (LA p q r b0 b1 b2 ra rb mix [wI 0, wI 1, wI 0, wU, wU, wU, wU, wU, wU]), [.int 3], (HA p q r b0 b1 b2), 6) _
      refine WGo.s (WStep.istore (L' := (LA p q r b0 b1 b2 ra rb mix [wI 0, wI 1, wI 0, wI 3, wU, wU, wU, wU, wU])) a0_121 rfl) ?_
      exact segD0103 Z a0 hw n0 p q r b0 b1 b2 ra rb mix
  · show WGo _ (106, (LA p q r b0 b1 b2 ra rb mix [wI 0, wI 1, wU, wU, wU, wU, wU, wU, wU]), [.int 1], (HA p q r b0 b1 b2), 6) _
    refine WGo.s (WStep.istore (L' := (LA p q r b0 b1 b2 ra rb mix [wI 0, wI 1, wI 1, wU, wU, wU, wU, wU, wU])) a0_106 rfl) ?_
    refine WGo.s (WStep.iconst (3 : Int32) a0_108 rfl) ?_
    refine WGo.s (WStep.iload a0_109 rfl) ?_
    refine WGo.s (WStep.iload a0_111 rfl) ?_
    refine WGo.s (WStep.iconst (2 : Int32) a0_113 rfl) ?_
    refine WGo.s (WStep.iushr a0_114) ?_
    refine WGo.s (WStep.iconst (3 : Int32) a0_115 rfl) ?_
    refine WGo.s (WStep.iand a0_116) ?_
    generalize hg_s2 : (((rb.toUInt32 >>> ((2 : Int32) &&& 31).toUInt32).toInt32) &&& (3 : Int32)) = s2
    obtain hs_s2 := four _ _ hg_s2
    rcases hs_s2 with rfl | rfl | rfl | rfl
    · show WGo _ (117, (LA p q r b0 b1 b2 ra rb mix [wI 0, wI 1, wI 1, wU, wU, wU, wU, wU, wU]), [.int 0, .int 1, .int 3], (HA p q r b0 b1 b2), 6) _
      refine WGo.s (WStep.iadd a0_117) ?_
      show WGo _ (118, (LA p q r b0 b1 b2 ra rb mix [wI 0, wI 1, wI 1, wU, wU, wU, wU, wU, wU]), [.int 1, .int 3], (HA p q r b0 b1 b2), 6) _
      refine WGo.callS a0_118 (ok2 hw _ _ _ _) (wd hw 6 rfl) (wd hw 7 rfl) (argsL := [.int 3, .int 1]) (S := []) (c2 hw _ _ (3 : Int32) (1 : Int32) _ _) rfl rfl rfl rfl rfl rfl (Nat.le_of_ble_eq_true rfl) (Nat.le_of_ble_eq_true rfl) ?_
      rintro _ _ _ ⟨rfl, rfl, rfl⟩
      show WGo _ (121, (LA p q r b0 b1 b2 ra rb mix [wI 0, wI 1, wI 1, wU, wU, wU, wU, wU, wU]), [.int 1], (HA p q r b0 b1 b2), 6) _
      refine WGo.s (WStep.istore (L' := (LA p q r b0 b1 b2 ra rb mix [wI 0, wI 1, wI 1, wI 1, wU, wU, wU, wU, wU])) a0_121 rfl) ?_
      exact segD0111 Z a0 hw n0 p q r b0 b1 b2 ra rb mix
    · show WGo _ (117, (LA p q r b0 b1 b2 ra rb mix [wI 0, wI 1, wI 1, wU, wU, wU, wU, wU, wU]), [.int 1, .int 1, .int 3], (HA p q r b0 b1 b2), 6) _
      refine WGo.s (WStep.iadd a0_117) ?_
      show WGo _ (118, (LA p q r b0 b1 b2 ra rb mix [wI 0, wI 1, wI 1, wU, wU, wU, wU, wU, wU]), [.int 2, .int 3], (HA p q r b0 b1 b2), 6) _
      refine WGo.callS a0_118 (ok2 hw _ _ _ _) (wd hw 6 rfl) (wd hw 7 rfl) (argsL := [.int 3, .int 2]) (S := []) (c2 hw _ _ (3 : Int32) (2 : Int32) _ _) rfl rfl rfl rfl rfl rfl (Nat.le_of_ble_eq_true rfl) (Nat.le_of_ble_eq_true rfl) ?_
      rintro _ _ _ ⟨rfl, rfl, rfl⟩
      show WGo _ (121, (LA p q r b0 b1 b2 ra rb mix [wI 0, wI 1, wI 1, wU, wU, wU, wU, wU, wU]), [.int 2], (HA p q r b0 b1 b2), 6) _
      refine WGo.s (WStep.istore (L' := (LA p q r b0 b1 b2 ra rb mix [wI 0, wI 1, wI 1, wI 2, wU, wU, wU, wU, wU])) a0_121 rfl) ?_
      exact segD0112 Z a0 hw n0 p q r b0 b1 b2 ra rb mix
    · show WGo _ (117, (LA p q r b0 b1 b2 ra rb mix [wI 0, wI 1, wI 1, wU, wU, wU, wU, wU, wU]), [.int 2, .int 1, .int 3], (HA p q r b0 b1 b2), 6) _
      refine WGo.s (WStep.iadd a0_117) ?_
      show WGo _ (118, (LA p q r b0 b1 b2 ra rb mix [wI 0, wI 1, wI 1, wU, wU, wU, wU, wU, wU]), [.int 3, .int 3], (HA p q r b0 b1 b2), 6) _
      refine WGo.callS a0_118 (ok2 hw _ _ _ _) (wd hw 6 rfl) (wd hw 7 rfl) (argsL := [.int 3, .int 3]) (S := []) (c2 hw _ _ (3 : Int32) (3 : Int32) _ _) rfl rfl rfl rfl rfl rfl (Nat.le_of_ble_eq_true rfl) (Nat.le_of_ble_eq_true rfl) ?_
      rintro _ _ _ ⟨rfl, rfl, rfl⟩
      show WGo _ (121, (LA p q r b0 b1 b2 ra rb mix [wI 0, wI 1, wI 1, wU, wU, wU, wU, wU, wU]), [.int 3], (HA p q r b0 b1 b2), 6) _
      refine WGo.s (WStep.istore (L' := (LA p q r b0 b1 b2 ra rb mix [wI 0, wI 1, wI 1, wI 3, wU, wU, wU, wU, wU])) a0_121 rfl) ?_
      exact segD0113 Z a0 hw n0 p q r b0 b1 b2 ra rb mix
    · show WGo _ (117, (LA p q r b0 b1 b2 ra rb mix [wI 0, wI 1, wI 1, wU, wU, wU, wU, wU, wU]), [.int 3, .int 1, .int 3], (HA p q r b0 b1 b2), 6) _
      refine WGo.s (WStep.iadd a0_117) ?_
      show WGo _ (118, (LA p q r b0 b1 b2 ra rb mix [wI 0, wI 1, wI 1, wU, wU, wU, wU, wU, wU]), [.int 4, .int 3], (HA p q r b0 b1 b2), 6) _
      refine WGo.callS a0_118 (ok2 hw _ _ _ _) (wd hw 6 rfl) (wd hw 7 rfl) (argsL := [.int 3, .int 4]) (S := []) (c2 hw _ _ (3 : Int32) (4 : Int32) _ _) rfl rfl rfl rfl rfl rfl (Nat.le_of_ble_eq_true rfl) (Nat.le_of_ble_eq_true rfl) ?_
      rintro _ _ _ ⟨rfl, rfl, rfl⟩
      show WGo _ (121, (LA p q r b0 b1 b2 ra rb mix [wI 0, wI 1, wI 1, wU, wU, wU, wU, wU, wU]), [.int 3], (HA p q r b0 b1 b2), 6) _
      refine WGo.s (WStep.istore (L' := (LA p q r b0 b1 b2 ra rb mix [wI 0, wI 1, wI 1, wI 3, wU, wU, wU, wU, wU])) a0_121 rfl) ?_
      exact segD0113 Z a0 hw n0 p q r b0 b1 b2 ra rb mix
  · show WGo _ (106, (LA p q r b0 b1 b2 ra rb mix [wI 0, wI 1, wU, wU, wU, wU, wU, wU, wU]), [.int 2], (HA p q r b0 b1 b2), 6) _
    refine WGo.s (WStep.istore (L' := (LA p q r b0 b1 b2 ra rb mix [wI 0, wI 1, wI 2, wU, wU, wU, wU, wU, wU])) a0_106 rfl) ?_
    refine WGo.s (WStep.iconst (3 : Int32) a0_108 rfl) ?_
    refine WGo.s (WStep.iload a0_109 rfl) ?_
    refine WGo.s (WStep.iload a0_111 rfl) ?_
    refine WGo.s (WStep.iconst (2 : Int32) a0_113 rfl) ?_
    refine WGo.s (WStep.iushr a0_114) ?_
    refine WGo.s (WStep.iconst (3 : Int32) a0_115 rfl) ?_
    refine WGo.s (WStep.iand a0_116) ?_
    generalize hg_s2 : (((rb.toUInt32 >>> ((2 : Int32) &&& 31).toUInt32).toInt32) &&& (3 : Int32)) = s2
    obtain hs_s2 := four _ _ hg_s2
    rcases hs_s2 with rfl | rfl | rfl | rfl
    · show WGo _ (117, (LA p q r b0 b1 b2 ra rb mix [wI 0, wI 1, wI 2, wU, wU, wU, wU, wU, wU]), [.int 0, .int 2, .int 3], (HA p q r b0 b1 b2), 6) _
      refine WGo.s (WStep.iadd a0_117) ?_
      show WGo _ (118, (LA p q r b0 b1 b2 ra rb mix [wI 0, wI 1, wI 2, wU, wU, wU, wU, wU, wU]), [.int 2, .int 3], (HA p q r b0 b1 b2), 6) _
      refine WGo.callS a0_118 (ok2 hw _ _ _ _) (wd hw 6 rfl) (wd hw 7 rfl) (argsL := [.int 3, .int 2]) (S := []) (c2 hw _ _ (3 : Int32) (2 : Int32) _ _) rfl rfl rfl rfl rfl rfl (Nat.le_of_ble_eq_true rfl) (Nat.le_of_ble_eq_true rfl) ?_
      rintro _ _ _ ⟨rfl, rfl, rfl⟩
      show WGo _ (121, (LA p q r b0 b1 b2 ra rb mix [wI 0, wI 1, wI 2, wU, wU, wU, wU, wU, wU]), [.int 2], (HA p q r b0 b1 b2), 6) _
      refine WGo.s (WStep.istore (L' := (LA p q r b0 b1 b2 ra rb mix [wI 0, wI 1, wI 2, wI 2, wU, wU, wU, wU, wU])) a0_121 rfl) ?_
      exact segD0122 Z a0 hw n0 p q r b0 b1 b2 ra rb mix
    · show WGo _ (117, (LA p q r b0 b1 b2 ra rb mix [wI 0, wI 1, wI 2, wU, wU, wU, wU, wU, wU]), [.int 1, .int 2, .int 3], (HA p q r b0 b1 b2), 6) _
      refine WGo.s (WStep.iadd a0_117) ?_
      show WGo _ (118, (LA p q r b0 b1 b2 ra rb mix [wI 0, wI 1, wI 2, wU, wU, wU, wU, wU, wU]), [.int 3, .int 3], (HA p q r b0 b1 b2), 6) _
      refine WGo.callS a0_118 (ok2 hw _ _ _ _) (wd hw 6 rfl) (wd hw 7 rfl) (argsL := [.int 3, .int 3]) (S := []) (c2 hw _ _ (3 : Int32) (3 : Int32) _ _) rfl rfl rfl rfl rfl rfl (Nat.le_of_ble_eq_true rfl) (Nat.le_of_ble_eq_true rfl) ?_
      rintro _ _ _ ⟨rfl, rfl, rfl⟩
      show WGo _ (121, (LA p q r b0 b1 b2 ra rb mix [wI 0, wI 1, wI 2, wU, wU, wU, wU, wU, wU]), [.int 3], (HA p q r b0 b1 b2), 6) _
      refine WGo.s (WStep.istore (L' := (LA p q r b0 b1 b2 ra rb mix [wI 0, wI 1, wI 2, wI 3, wU, wU, wU, wU, wU])) a0_121 rfl) ?_
      exact segD0123 Z a0 hw n0 p q r b0 b1 b2 ra rb mix
    · show WGo _ (117, (LA p q r b0 b1 b2 ra rb mix [wI 0, wI 1, wI 2, wU, wU, wU, wU, wU, wU]), [.int 2, .int 2, .int 3], (HA p q r b0 b1 b2), 6) _
      refine WGo.s (WStep.iadd a0_117) ?_
      show WGo _ (118, (LA p q r b0 b1 b2 ra rb mix [wI 0, wI 1, wI 2, wU, wU, wU, wU, wU, wU]), [.int 4, .int 3], (HA p q r b0 b1 b2), 6) _
      refine WGo.callS a0_118 (ok2 hw _ _ _ _) (wd hw 6 rfl) (wd hw 7 rfl) (argsL := [.int 3, .int 4]) (S := []) (c2 hw _ _ (3 : Int32) (4 : Int32) _ _) rfl rfl rfl rfl rfl rfl (Nat.le_of_ble_eq_true rfl) (Nat.le_of_ble_eq_true rfl) ?_
      rintro _ _ _ ⟨rfl, rfl, rfl⟩
      show WGo _ (121, (LA p q r b0 b1 b2 ra rb mix [wI 0, wI 1, wI 2, wU, wU, wU, wU, wU, wU]), [.int 3], (HA p q r b0 b1 b2), 6) _
      refine WGo.s (WStep.istore (L' := (LA p q r b0 b1 b2 ra rb mix [wI 0, wI 1, wI 2, wI 3, wU, wU, wU, wU, wU])) a0_121 rfl) ?_
      exact segD0123 Z a0 hw n0 p q r b0 b1 b2 ra rb mix
    · show WGo _ (117, (LA p q r b0 b1 b2 ra rb mix [wI 0, wI 1, wI 2, wU, wU, wU, wU, wU, wU]), [.int 3, .int 2, .int 3], (HA p q r b0 b1 b2), 6) _
      refine WGo.s (WStep.iadd a0_117) ?_
      show WGo _ (118, (LA p q r b0 b1 b2 ra rb mix [wI 0, wI 1, wI 2, wU, wU, wU, wU, wU, wU]), [.int 5, .int 3], (HA p q r b0 b1 b2), 6) _
      refine WGo.callS a0_118 (ok2 hw _ _ _ _) (wd hw 6 rfl) (wd hw 7 rfl) (argsL := [.int 3, .int 5]) (S := []) (c2 hw _ _ (3 : Int32) (5 : Int32) _ _) rfl rfl rfl rfl rfl rfl (Nat.le_of_ble_eq_true rfl) (Nat.le_of_ble_eq_true rfl) ?_
      rintro _ _ _ ⟨rfl, rfl, rfl⟩
      show WGo _ (121, (LA p q r b0 b1 b2 ra rb mix [wI 0, wI 1, wI 2, wU, wU, wU, wU, wU, wU]), [.int 3], (HA p q r b0 b1 b2), 6) _
      refine WGo.s (WStep.istore (L' := (LA p q r b0 b1 b2 ra rb mix [wI 0, wI 1, wI 2, wI 3, wU, wU, wU, wU, wU])) a0_121 rfl) ?_
      exact segD0123 Z a0 hw n0 p q r b0 b1 b2 ra rb mix
  · show WGo _ (106, (LA p q r b0 b1 b2 ra rb mix [wI 0, wI 1, wU, wU, wU, wU, wU, wU, wU]), [.int 3], (HA p q r b0 b1 b2), 6) _
    refine WGo.s (WStep.istore (L' := (LA p q r b0 b1 b2 ra rb mix [wI 0, wI 1, wI 3, wU, wU, wU, wU, wU, wU])) a0_106 rfl) ?_
    refine WGo.s (WStep.iconst (3 : Int32) a0_108 rfl) ?_
    refine WGo.s (WStep.iload a0_109 rfl) ?_
    refine WGo.s (WStep.iload a0_111 rfl) ?_
    refine WGo.s (WStep.iconst (2 : Int32) a0_113 rfl) ?_
    refine WGo.s (WStep.iushr a0_114) ?_
    refine WGo.s (WStep.iconst (3 : Int32) a0_115 rfl) ?_
    refine WGo.s (WStep.iand a0_116) ?_
    generalize hg_s2 : (((rb.toUInt32 >>> ((2 : Int32) &&& 31).toUInt32).toInt32) &&& (3 : Int32)) = s2
    obtain hs_s2 := four _ _ hg_s2
    rcases hs_s2 with rfl | rfl | rfl | rfl
    · show WGo _ (117, (LA p q r b0 b1 b2 ra rb mix [wI 0, wI 1, wI 3, wU, wU, wU, wU, wU, wU]), [.int 0, .int 3, .int 3], (HA p q r b0 b1 b2), 6) _
      refine WGo.s (WStep.iadd a0_117) ?_
      show WGo _ (118, (LA p q r b0 b1 b2 ra rb mix [wI 0, wI 1, wI 3, wU, wU, wU, wU, wU, wU]), [.int 3, .int 3], (HA p q r b0 b1 b2), 6) _
      refine WGo.callS a0_118 (ok2 hw _ _ _ _) (wd hw 6 rfl) (wd hw 7 rfl) (argsL := [.int 3, .int 3]) (S := []) (c2 hw _ _ (3 : Int32) (3 : Int32) _ _) rfl rfl rfl rfl rfl rfl (Nat.le_of_ble_eq_true rfl) (Nat.le_of_ble_eq_true rfl) ?_
      rintro _ _ _ ⟨rfl, rfl, rfl⟩
      show WGo _ (121, (LA p q r b0 b1 b2 ra rb mix [wI 0, wI 1, wI 3, wU, wU, wU, wU, wU, wU]), [.int 3], (HA p q r b0 b1 b2), 6) _
      refine WGo.s (WStep.istore (L' := (LA p q r b0 b1 b2 ra rb mix [wI 0, wI 1, wI 3, wI 3, wU, wU, wU, wU, wU])) a0_121 rfl) ?_
      exact segD0133 Z a0 hw n0 p q r b0 b1 b2 ra rb mix
    · show WGo _ (117, (LA p q r b0 b1 b2 ra rb mix [wI 0, wI 1, wI 3, wU, wU, wU, wU, wU, wU]), [.int 1, .int 3, .int 3], (HA p q r b0 b1 b2), 6) _
      refine WGo.s (WStep.iadd a0_117) ?_
      show WGo _ (118, (LA p q r b0 b1 b2 ra rb mix [wI 0, wI 1, wI 3, wU, wU, wU, wU, wU, wU]), [.int 4, .int 3], (HA p q r b0 b1 b2), 6) _
      refine WGo.callS a0_118 (ok2 hw _ _ _ _) (wd hw 6 rfl) (wd hw 7 rfl) (argsL := [.int 3, .int 4]) (S := []) (c2 hw _ _ (3 : Int32) (4 : Int32) _ _) rfl rfl rfl rfl rfl rfl (Nat.le_of_ble_eq_true rfl) (Nat.le_of_ble_eq_true rfl) ?_
      rintro _ _ _ ⟨rfl, rfl, rfl⟩
      show WGo _ (121, (LA p q r b0 b1 b2 ra rb mix [wI 0, wI 1, wI 3, wU, wU, wU, wU, wU, wU]), [.int 3], (HA p q r b0 b1 b2), 6) _
      refine WGo.s (WStep.istore (L' := (LA p q r b0 b1 b2 ra rb mix [wI 0, wI 1, wI 3, wI 3, wU, wU, wU, wU, wU])) a0_121 rfl) ?_
      exact segD0133 Z a0 hw n0 p q r b0 b1 b2 ra rb mix
    · show WGo _ (117, (LA p q r b0 b1 b2 ra rb mix [wI 0, wI 1, wI 3, wU, wU, wU, wU, wU, wU]), [.int 2, .int 3, .int 3], (HA p q r b0 b1 b2), 6) _
      refine WGo.s (WStep.iadd a0_117) ?_
      show WGo _ (118, (LA p q r b0 b1 b2 ra rb mix [wI 0, wI 1, wI 3, wU, wU, wU, wU, wU, wU]), [.int 5, .int 3], (HA p q r b0 b1 b2), 6) _
      refine WGo.callS a0_118 (ok2 hw _ _ _ _) (wd hw 6 rfl) (wd hw 7 rfl) (argsL := [.int 3, .int 5]) (S := []) (c2 hw _ _ (3 : Int32) (5 : Int32) _ _) rfl rfl rfl rfl rfl rfl (Nat.le_of_ble_eq_true rfl) (Nat.le_of_ble_eq_true rfl) ?_
      rintro _ _ _ ⟨rfl, rfl, rfl⟩
      show WGo _ (121, (LA p q r b0 b1 b2 ra rb mix [wI 0, wI 1, wI 3, wU, wU, wU, wU, wU, wU]), [.int 3], (HA p q r b0 b1 b2), 6) _
      refine WGo.s (WStep.istore (L' := (LA p q r b0 b1 b2 ra rb mix [wI 0, wI 1, wI 3, wI 3, wU, wU, wU, wU, wU])) a0_121 rfl) ?_
      exact segD0133 Z a0 hw n0 p q r b0 b1 b2 ra rb mix
    · show WGo _ (117, (LA p q r b0 b1 b2 ra rb mix [wI 0, wI 1, wI 3, wU, wU, wU, wU, wU, wU]), [.int 3, .int 3, .int 3], (HA p q r b0 b1 b2), 6) _
      refine WGo.s (WStep.iadd a0_117) ?_
      show WGo _ (118, (LA p q r b0 b1 b2 ra rb mix [wI 0, wI 1, wI 3, wU, wU, wU, wU, wU, wU]), [.int 6, .int 3], (HA p q r b0 b1 b2), 6) _
      refine WGo.callS a0_118 (ok2 hw _ _ _ _) (wd hw 6 rfl) (wd hw 7 rfl) (argsL := [.int 3, .int 6]) (S := []) (c2 hw _ _ (3 : Int32) (6 : Int32) _ _) rfl rfl rfl rfl rfl rfl (Nat.le_of_ble_eq_true rfl) (Nat.le_of_ble_eq_true rfl) ?_
      rintro _ _ _ ⟨rfl, rfl, rfl⟩
      show WGo _ (121, (LA p q r b0 b1 b2 ra rb mix [wI 0, wI 1, wI 3, wU, wU, wU, wU, wU, wU]), [.int 3], (HA p q r b0 b1 b2), 6) _
      refine WGo.s (WStep.istore (L' := (LA p q r b0 b1 b2 ra rb mix [wI 0, wI 1, wI 3, wI 3, wU, wU, wU, wU, wU])) a0_121 rfl) ?_
      exact segD0133 Z a0 hw n0 p q r b0 b1 b2 ra rb mix
theorem segC02 (Z : State) (a0 : Array Value) (hw : ∀ d ∈ tables_1, d.before a0 Z = true) (n0 : Nat) (p q r b0 b1 b2 : Int64) (ra rb mix : Int32) : WGo (g0 Z (fun k => n0 + k) n0 0 0) (102, (LA p q r b0 b1 b2 ra rb mix [wI 0, wI 2, wU, wU, wU, wU, wU, wU, wU]), [], (HA p q r b0 b1 b2), 6) (fun v σ' u' => v = some (.int 1) ∧ σ'.length ≤ 16 ∧ u' ≤ 128) := by
  refine WGo.s (WStep.iload a0_102 rfl) ?_
  refine WGo.s (WStep.iconst (3 : Int32) a0_104 rfl) ?_
  refine WGo.s (WStep.iand a0_105) ?_
  generalize hg_s1 : (rb &&& (3 : Int32)) = s1
  obtain hs_s1 := four _ _ hg_s1
  rcases hs_s1 with rfl | rfl | rfl | rfl
  · show WGo _ (106, (LA p q r b0 b1 b2 ra rb mix [wI 0, wI 2, wU, wU, wU, wU, wU, wU, wU]), [.int 0], (HA p q r b0 b1 b2), 6) _
    refine WGo.s (WStep.istore (L' := (LA p q r b0 b1 b2 ra rb mix [wI 0, wI 2, wI 0, wU, wU, wU, wU, wU, wU])) a0_106 rfl) ?_
    refine WGo.s (WStep.iconst (3 : Int32) a0_108 rfl) ?_
    refine WGo.s (WStep.iload a0_109 rfl) ?_
    refine WGo.s (WStep.iload a0_111 rfl) ?_
    refine WGo.s (WStep.iconst (2 : Int32) a0_113 rfl) ?_
    refine WGo.s (WStep.iushr a0_114) ?_
    refine WGo.s (WStep.iconst (3 : Int32) a0_115 rfl) ?_
    refine WGo.s (WStep.iand a0_116) ?_
    generalize hg_s2 : (((rb.toUInt32 >>> ((2 : Int32) &&& 31).toUInt32).toInt32) &&& (3 : Int32)) = s2
    obtain hs_s2 := four _ _ hg_s2
    rcases hs_s2 with rfl | rfl | rfl | rfl
    · show WGo _ (117, (LA p q r b0 b1 b2 ra rb mix [wI 0, wI 2, wI 0, wU, wU, wU, wU, wU, wU]), [.int 0, .int 0, .int 3], (HA p q r b0 b1 b2), 6) _
      refine WGo.s (WStep.iadd a0_117) ?_
      show WGo _ (118, (LA p q r b0 b1 b2 ra rb mix [wI 0, wI 2, wI 0, wU, wU, wU, wU, wU, wU]), [.int 0, .int 3], (HA p q r b0 b1 b2), 6) _
      refine WGo.callS a0_118 (ok2 hw _ _ _ _) (wd hw 6 rfl) (wd hw 7 rfl) (argsL := [.int 3, .int 0]) (S := []) (c2 hw _ _ (3 : Int32) (0 : Int32) _ _) rfl rfl rfl rfl rfl rfl (Nat.le_of_ble_eq_true rfl) (Nat.le_of_ble_eq_true rfl) ?_
      rintro _ _ _ ⟨rfl, rfl, rfl⟩
      show WGo _ (121, (LA p q r b0 b1 b2 ra rb mix [wI 0, wI 2, wI 0, wU, wU, wU, wU, wU, wU]), [.int 0], (HA p q r b0 b1 b2), 6) _
      refine WGo.s (WStep.istore (L' := (LA p q r b0 b1 b2 ra rb mix [wI 0, wI 2, wI 0, wI 0, wU, wU, wU, wU, wU])) a0_121 rfl) ?_
      exact segD0200 Z a0 hw n0 p q r b0 b1 b2 ra rb mix
    · show WGo _ (117, (LA p q r b0 b1 b2 ra rb mix [wI 0, wI 2, wI 0, wU, wU, wU, wU, wU, wU]), [.int 1, .int 0, .int 3], (HA p q r b0 b1 b2), 6) _
      refine WGo.s (WStep.iadd a0_117) ?_
      show WGo _ (118, (LA p q r b0 b1 b2 ra rb mix [wI 0, wI 2, wI 0, wU, wU, wU, wU, wU, wU]), [.int 1, .int 3], (HA p q r b0 b1 b2), 6) _
      refine WGo.callS a0_118 (ok2 hw _ _ _ _) (wd hw 6 rfl) (wd hw 7 rfl) (argsL := [.int 3, .int 1]) (S := []) (c2 hw _ _ (3 : Int32) (1 : Int32) _ _) rfl rfl rfl rfl rfl rfl (Nat.le_of_ble_eq_true rfl) (Nat.le_of_ble_eq_true rfl) ?_
      rintro _ _ _ ⟨rfl, rfl, rfl⟩
      show WGo _ (121, (LA p q r b0 b1 b2 ra rb mix [wI 0, wI 2, wI 0, wU, wU, wU, wU, wU, wU]), [.int 1], (HA p q r b0 b1 b2), 6) _
      refine WGo.s (WStep.istore (L' := (LA p q r b0 b1 b2 ra rb mix [wI 0, wI 2, wI 0, wI 1, wU, wU, wU, wU, wU])) a0_121 rfl) ?_
      exact segD0201 Z a0 hw n0 p q r b0 b1 b2 ra rb mix
    · show WGo _ (117, (LA p q r b0 b1 b2 ra rb mix [wI 0, wI 2, wI 0, wU, wU, wU, wU, wU, wU]), [.int 2, .int 0, .int 3], (HA p q r b0 b1 b2), 6) _
      refine WGo.s (WStep.iadd a0_117) ?_
      show WGo _ (118, (LA p q r b0 b1 b2 ra rb mix [wI 0, wI 2, wI 0, wU, wU, wU, wU, wU, wU]), [.int 2, .int 3], (HA p q r b0 b1 b2), 6) _
      refine WGo.callS a0_118 (ok2 hw _ _ _ _) (wd hw 6 rfl) (wd hw 7 rfl) (argsL := [.int 3, .int 2]) (S := []) (c2 hw _ _ (3 : Int32) (2 : Int32) _ _) rfl rfl rfl rfl rfl rfl (Nat.le_of_ble_eq_true rfl) (Nat.le_of_ble_eq_true rfl) ?_
      rintro _ _ _ ⟨rfl, rfl, rfl⟩
      show WGo _ (121, (LA p q r b0 b1 b2 ra rb mix [wI 0, wI 2, wI 0, wU, wU, wU, wU, wU, wU]), [.int 2], (HA p q r b0 b1 b2), 6) _
      refine WGo.s (WStep.istore (L' := (LA p q r b0 b1 b2 ra rb mix [wI 0, wI 2, wI 0, wI 2, wU, wU, wU, wU, wU])) a0_121 rfl) ?_
      exact segD0202 Z a0 hw n0 p q r b0 b1 b2 ra rb mix
    · show WGo _ (117, (LA p q r b0 b1 b2 ra rb mix [wI 0, wI 2, wI 0, wU, wU, wU, wU, wU, wU]), [.int 3, .int 0, .int 3], (HA p q r b0 b1 b2), 6) _
      refine WGo.s (WStep.iadd a0_117) ?_
      show WGo _ (118, (LA p q r b0 b1 b2 ra rb mix [wI 0, wI 2, wI 0, wU, wU, wU, wU, wU, wU]), [.int 3, .int 3], (HA p q r b0 b1 b2), 6) _
      refine WGo.callS a0_118 (ok2 hw _ _ _ _) (wd hw 6 rfl) (wd hw 7 rfl) (argsL := [.int 3, .int 3]) (S := []) (c2 hw _ _ (3 : Int32) (3 : Int32) _ _) rfl rfl rfl rfl rfl rfl (Nat.le_of_ble_eq_true rfl) (Nat.le_of_ble_eq_true rfl) ?_
      rintro _ _ _ ⟨rfl, rfl, rfl⟩
      show WGo _ (121, (LA p q r b0 b1 b2 ra rb mix [wI 0, wI 2, wI 0, wU, wU, wU, wU, wU, wU]), [.int 3], (HA p q r b0 b1 b2), 6) _
      refine WGo.s (WStep.istore (L' := (LA p q r b0 b1 b2 ra rb mix [wI 0, wI 2, wI 0, wI 3, wU, wU, wU, wU, wU])) a0_121 rfl) ?_
      exact segD0203 Z a0 hw n0 p q r b0 b1 b2 ra rb mix
  · show WGo _ (106, (LA p q r b0 b1 b2 ra rb mix [wI 0, wI 2, wU, wU, wU, wU, wU, wU, wU]), [.int 1], (HA p q r b0 b1 b2), 6) _
    refine WGo.s (WStep.istore (L' := (LA p q r b0 b1 b2 ra rb mix [wI 0, wI 2, wI 1, wU, wU, wU, wU, wU, wU])) a0_106 rfl) ?_
    refine WGo.s (WStep.iconst (3 : Int32) a0_108 rfl) ?_
    refine WGo.s (WStep.iload a0_109 rfl) ?_
    refine WGo.s (WStep.iload a0_111 rfl) ?_
    refine WGo.s (WStep.iconst (2 : Int32) a0_113 rfl) ?_
    refine WGo.s (WStep.iushr a0_114) ?_
    refine WGo.s (WStep.iconst (3 : Int32) a0_115 rfl) ?_
    refine WGo.s (WStep.iand a0_116) ?_
    generalize hg_s2 : (((rb.toUInt32 >>> ((2 : Int32) &&& 31).toUInt32).toInt32) &&& (3 : Int32)) = s2
    obtain hs_s2 := four _ _ hg_s2
    rcases hs_s2 with rfl | rfl | rfl | rfl
    · show WGo _ (117, (LA p q r b0 b1 b2 ra rb mix [wI 0, wI 2, wI 1, wU, wU, wU, wU, wU, wU]), [.int 0, .int 1, .int 3], (HA p q r b0 b1 b2), 6) _
      refine WGo.s (WStep.iadd a0_117) ?_
      show WGo _ (118, (LA p q r b0 b1 b2 ra rb mix [wI 0, wI 2, wI 1, wU, wU, wU, wU, wU, wU]), [.int 1, .int 3], (HA p q r b0 b1 b2), 6) _
      refine WGo.callS a0_118 (ok2 hw _ _ _ _) (wd hw 6 rfl) (wd hw 7 rfl) (argsL := [.int 3, .int 1]) (S := []) (c2 hw _ _ (3 : Int32) (1 : Int32) _ _) rfl rfl rfl rfl rfl rfl (Nat.le_of_ble_eq_true rfl) (Nat.le_of_ble_eq_true rfl) ?_
      rintro _ _ _ ⟨rfl, rfl, rfl⟩
      show WGo _ (121, (LA p q r b0 b1 b2 ra rb mix [wI 0, wI 2, wI 1, wU, wU, wU, wU, wU, wU]), [.int 1], (HA p q r b0 b1 b2), 6) _
      refine WGo.s (WStep.istore (L' := (LA p q r b0 b1 b2 ra rb mix [wI 0, wI 2, wI 1, wI 1, wU, wU, wU, wU, wU])) a0_121 rfl) ?_
      exact segD0211 Z a0 hw n0 p q r b0 b1 b2 ra rb mix
    · show WGo _ (117, (LA p q r b0 b1 b2 ra rb mix [wI 0, wI 2, wI 1, wU, wU, wU, wU, wU, wU]), [.int 1, .int 1, .int 3], (HA p q r b0 b1 b2), 6) _
      refine WGo.s (WStep.iadd a0_117) ?_
      show WGo _ (118, (LA p q r b0 b1 b2 ra rb mix [wI 0, wI 2, wI 1, wU, wU, wU, wU, wU, wU]), [.int 2, .int 3], (HA p q r b0 b1 b2), 6) _
      refine WGo.callS a0_118 (ok2 hw _ _ _ _) (wd hw 6 rfl) (wd hw 7 rfl) (argsL := [.int 3, .int 2]) (S := []) (c2 hw _ _ (3 : Int32) (2 : Int32) _ _) rfl rfl rfl rfl rfl rfl (Nat.le_of_ble_eq_true rfl) (Nat.le_of_ble_eq_true rfl) ?_
      rintro _ _ _ ⟨rfl, rfl, rfl⟩
      show WGo _ (121, (LA p q r b0 b1 b2 ra rb mix [wI 0, wI 2, wI 1, wU, wU, wU, wU, wU, wU]), [.int 2], (HA p q r b0 b1 b2), 6) _
      refine WGo.s (WStep.istore (L' := (LA p q r b0 b1 b2 ra rb mix [wI 0, wI 2, wI 1, wI 2, wU, wU, wU, wU, wU])) a0_121 rfl) ?_
      exact segD0212 Z a0 hw n0 p q r b0 b1 b2 ra rb mix
    · show WGo _ (117, (LA p q r b0 b1 b2 ra rb mix [wI 0, wI 2, wI 1, wU, wU, wU, wU, wU, wU]), [.int 2, .int 1, .int 3], (HA p q r b0 b1 b2), 6) _
      refine WGo.s (WStep.iadd a0_117) ?_
      show WGo _ (118, (LA p q r b0 b1 b2 ra rb mix [wI 0, wI 2, wI 1, wU, wU, wU, wU, wU, wU]), [.int 3, .int 3], (HA p q r b0 b1 b2), 6) _
      refine WGo.callS a0_118 (ok2 hw _ _ _ _) (wd hw 6 rfl) (wd hw 7 rfl) (argsL := [.int 3, .int 3]) (S := []) (c2 hw _ _ (3 : Int32) (3 : Int32) _ _) rfl rfl rfl rfl rfl rfl (Nat.le_of_ble_eq_true rfl) (Nat.le_of_ble_eq_true rfl) ?_
      rintro _ _ _ ⟨rfl, rfl, rfl⟩
      show WGo _ (121, (LA p q r b0 b1 b2 ra rb mix [wI 0, wI 2, wI 1, wU, wU, wU, wU, wU, wU]), [.int 3], (HA p q r b0 b1 b2), 6) _
      refine WGo.s (WStep.istore (L' := (LA p q r b0 b1 b2 ra rb mix [wI 0, wI 2, wI 1, wI 3, wU, wU, wU, wU, wU])) a0_121 rfl) ?_
      exact segD0213 Z a0 hw n0 p q r b0 b1 b2 ra rb mix
    · show WGo _ (117, (LA p q r b0 b1 b2 ra rb mix [wI 0, wI 2, wI 1, wU, wU, wU, wU, wU, wU]), [.int 3, .int 1, .int 3], (HA p q r b0 b1 b2), 6) _
      refine WGo.s (WStep.iadd a0_117) ?_
      show WGo _ (118, (LA p q r b0 b1 b2 ra rb mix [wI 0, wI 2, wI 1, wU, wU, wU, wU, wU, wU]), [.int 4, .int 3], (HA p q r b0 b1 b2), 6) _
      refine WGo.callS a0_118 (ok2 hw _ _ _ _) (wd hw 6 rfl) (wd hw 7 rfl) (argsL := [.int 3, .int 4]) (S := []) (c2 hw _ _ (3 : Int32) (4 : Int32) _ _) rfl rfl rfl rfl rfl rfl (Nat.le_of_ble_eq_true rfl) (Nat.le_of_ble_eq_true rfl) ?_
      rintro _ _ _ ⟨rfl, rfl, rfl⟩
      show WGo _ (121, (LA p q r b0 b1 b2 ra rb mix [wI 0, wI 2, wI 1, wU, wU, wU, wU, wU, wU]), [.int 3], (HA p q r b0 b1 b2), 6) _
      refine WGo.s (WStep.istore (L' := (LA p q r b0 b1 b2 ra rb mix [wI 0, wI 2, wI 1, wI 3, wU, wU, wU, wU, wU])) a0_121 rfl) ?_
      exact segD0213 Z a0 hw n0 p q r b0 b1 b2 ra rb mix
  · show WGo _ (106, (LA p q r b0 b1 b2 ra rb mix [wI 0, wI 2, wU, wU, wU, wU, wU, wU, wU]), [.int 2], (HA p q r b0 b1 b2), 6) _
    refine WGo.s (WStep.istore (L' := (LA p q r b0 b1 b2 ra rb mix [wI 0, wI 2, wI 2, wU, wU, wU, wU, wU, wU])) a0_106 rfl) ?_
    refine WGo.s (WStep.iconst (3 : Int32) a0_108 rfl) ?_
    refine WGo.s (WStep.iload a0_109 rfl) ?_
    refine WGo.s (WStep.iload a0_111 rfl) ?_
    refine WGo.s (WStep.iconst (2 : Int32) a0_113 rfl) ?_
    refine WGo.s (WStep.iushr a0_114) ?_
    refine WGo.s (WStep.iconst (3 : Int32) a0_115 rfl) ?_
    refine WGo.s (WStep.iand a0_116) ?_
    generalize hg_s2 : (((rb.toUInt32 >>> ((2 : Int32) &&& 31).toUInt32).toInt32) &&& (3 : Int32)) = s2
    obtain hs_s2 := four _ _ hg_s2
    rcases hs_s2 with rfl | rfl | rfl | rfl
    · show WGo _ (117, (LA p q r b0 b1 b2 ra rb mix [wI 0, wI 2, wI 2, wU, wU, wU, wU, wU, wU]), [.int 0, .int 2, .int 3], (HA p q r b0 b1 b2), 6) _
      refine WGo.s (WStep.iadd a0_117) ?_
      show WGo _ (118, (LA p q r b0 b1 b2 ra rb mix [wI 0, wI 2, wI 2, wU, wU, wU, wU, wU, wU]), [.int 2, .int 3], (HA p q r b0 b1 b2), 6) _
      refine WGo.callS a0_118 (ok2 hw _ _ _ _) (wd hw 6 rfl) (wd hw 7 rfl) (argsL := [.int 3, .int 2]) (S := []) (c2 hw _ _ (3 : Int32) (2 : Int32) _ _) rfl rfl rfl rfl rfl rfl (Nat.le_of_ble_eq_true rfl) (Nat.le_of_ble_eq_true rfl) ?_
      rintro _ _ _ ⟨rfl, rfl, rfl⟩
      show WGo _ (121, (LA p q r b0 b1 b2 ra rb mix [wI 0, wI 2, wI 2, wU, wU, wU, wU, wU, wU]), [.int 2], (HA p q r b0 b1 b2), 6) _
      refine WGo.s (WStep.istore (L' := (LA p q r b0 b1 b2 ra rb mix [wI 0, wI 2, wI 2, wI 2, wU, wU, wU, wU, wU])) a0_121 rfl) ?_
      exact segD0222 Z a0 hw n0 p q r b0 b1 b2 ra rb mix
    · show WGo _ (117, (LA p q r b0 b1 b2 ra rb mix [wI 0, wI 2, wI 2, wU, wU, wU, wU, wU, wU]), [.int 1, .int 2, .int 3], (HA p q r b0 b1 b2), 6) _
      refine WGo.s (WStep.iadd a0_117) ?_
      show WGo _ (118, (LA p q r b0 b1 b2 ra rb mix [wI 0, wI 2, wI 2, wU, wU, wU, wU, wU, wU]), [.int 3, .int 3], (HA p q r b0 b1 b2), 6) _
      refine WGo.callS a0_118 (ok2 hw _ _ _ _) (wd hw 6 rfl) (wd hw 7 rfl) (argsL := [.int 3, .int 3]) (S := []) (c2 hw _ _ (3 : Int32) (3 : Int32) _ _) rfl rfl rfl rfl rfl rfl (Nat.le_of_ble_eq_true rfl) (Nat.le_of_ble_eq_true rfl) ?_
      rintro _ _ _ ⟨rfl, rfl, rfl⟩
      show WGo _ (121, (LA p q r b0 b1 b2 ra rb mix [wI 0, wI 2, wI 2, wU, wU, wU, wU, wU, wU]), [.int 3], (HA p q r b0 b1 b2), 6) _
      refine WGo.s (WStep.istore (L' := (LA p q r b0 b1 b2 ra rb mix [wI 0, wI 2, wI 2, wI 3, wU, wU, wU, wU, wU])) a0_121 rfl) ?_
      exact segD0223 Z a0 hw n0 p q r b0 b1 b2 ra rb mix
    · show WGo _ (117, (LA p q r b0 b1 b2 ra rb mix [wI 0, wI 2, wI 2, wU, wU, wU, wU, wU, wU]), [.int 2, .int 2, .int 3], (HA p q r b0 b1 b2), 6) _
      refine WGo.s (WStep.iadd a0_117) ?_
      show WGo _ (118, (LA p q r b0 b1 b2 ra rb mix [wI 0, wI 2, wI 2, wU, wU, wU, wU, wU, wU]), [.int 4, .int 3], (HA p q r b0 b1 b2), 6) _
      refine WGo.callS a0_118 (ok2 hw _ _ _ _) (wd hw 6 rfl) (wd hw 7 rfl) (argsL := [.int 3, .int 4]) (S := []) (c2 hw _ _ (3 : Int32) (4 : Int32) _ _) rfl rfl rfl rfl rfl rfl (Nat.le_of_ble_eq_true rfl) (Nat.le_of_ble_eq_true rfl) ?_
      rintro _ _ _ ⟨rfl, rfl, rfl⟩
      show WGo _ (121, (LA p q r b0 b1 b2 ra rb mix [wI 0, wI 2, wI 2, wU, wU, wU, wU, wU, wU]), [.int 3], (HA p q r b0 b1 b2), 6) _
      refine WGo.s (WStep.istore (L' := (LA p q r b0 b1 b2 ra rb mix [wI 0, wI 2, wI 2, wI 3, wU, wU, wU, wU, wU])) a0_121 rfl) ?_
      exact segD0223 Z a0 hw n0 p q r b0 b1 b2 ra rb mix
    · show WGo _ (117, (LA p q r b0 b1 b2 ra rb mix [wI 0, wI 2, wI 2, wU, wU, wU, wU, wU, wU]), [.int 3, .int 2, .int 3], (HA p q r b0 b1 b2), 6) _
      refine WGo.s (WStep.iadd a0_117) ?_
      show WGo _ (118, (LA p q r b0 b1 b2 ra rb mix [wI 0, wI 2, wI 2, wU, wU, wU, wU, wU, wU]), [.int 5, .int 3], (HA p q r b0 b1 b2), 6) _
      refine WGo.callS a0_118 (ok2 hw _ _ _ _) (wd hw 6 rfl) (wd hw 7 rfl) (argsL := [.int 3, .int 5]) (S := []) (c2 hw _ _ (3 : Int32) (5 : Int32) _ _) rfl rfl rfl rfl rfl rfl (Nat.le_of_ble_eq_true rfl) (Nat.le_of_ble_eq_true rfl) ?_
      rintro _ _ _ ⟨rfl, rfl, rfl⟩
      show WGo _ (121, (LA p q r b0 b1 b2 ra rb mix [wI 0, wI 2, wI 2, wU, wU, wU, wU, wU, wU]), [.int 3], (HA p q r b0 b1 b2), 6) _
      refine WGo.s (WStep.istore (L' := (LA p q r b0 b1 b2 ra rb mix [wI 0, wI 2, wI 2, wI 3, wU, wU, wU, wU, wU])) a0_121 rfl) ?_
      exact segD0223 Z a0 hw n0 p q r b0 b1 b2 ra rb mix
  · show WGo _ (106, (LA p q r b0 b1 b2 ra rb mix [wI 0, wI 2, wU, wU, wU, wU, wU, wU, wU]), [.int 3], (HA p q r b0 b1 b2), 6) _
    refine WGo.s (WStep.istore (L' := (LA p q r b0 b1 b2 ra rb mix [wI 0, wI 2, wI 3, wU, wU, wU, wU, wU, wU])) a0_106 rfl) ?_
    refine WGo.s (WStep.iconst (3 : Int32) a0_108 rfl) ?_
    refine WGo.s (WStep.iload a0_109 rfl) ?_
    refine WGo.s (WStep.iload a0_111 rfl) ?_
    refine WGo.s (WStep.iconst (2 : Int32) a0_113 rfl) ?_
    refine WGo.s (WStep.iushr a0_114) ?_
    refine WGo.s (WStep.iconst (3 : Int32) a0_115 rfl) ?_
    refine WGo.s (WStep.iand a0_116) ?_
    generalize hg_s2 : (((rb.toUInt32 >>> ((2 : Int32) &&& 31).toUInt32).toInt32) &&& (3 : Int32)) = s2
    obtain hs_s2 := four _ _ hg_s2
    rcases hs_s2 with rfl | rfl | rfl | rfl
    · show WGo _ (117, (LA p q r b0 b1 b2 ra rb mix [wI 0, wI 2, wI 3, wU, wU, wU, wU, wU, wU]), [.int 0, .int 3, .int 3], (HA p q r b0 b1 b2), 6) _
      refine WGo.s (WStep.iadd a0_117) ?_
      show WGo _ (118, (LA p q r b0 b1 b2 ra rb mix [wI 0, wI 2, wI 3, wU, wU, wU, wU, wU, wU]), [.int 3, .int 3], (HA p q r b0 b1 b2), 6) _
      refine WGo.callS a0_118 (ok2 hw _ _ _ _) (wd hw 6 rfl) (wd hw 7 rfl) (argsL := [.int 3, .int 3]) (S := []) (c2 hw _ _ (3 : Int32) (3 : Int32) _ _) rfl rfl rfl rfl rfl rfl (Nat.le_of_ble_eq_true rfl) (Nat.le_of_ble_eq_true rfl) ?_
      rintro _ _ _ ⟨rfl, rfl, rfl⟩
      show WGo _ (121, (LA p q r b0 b1 b2 ra rb mix [wI 0, wI 2, wI 3, wU, wU, wU, wU, wU, wU]), [.int 3], (HA p q r b0 b1 b2), 6) _
      refine WGo.s (WStep.istore (L' := (LA p q r b0 b1 b2 ra rb mix [wI 0, wI 2, wI 3, wI 3, wU, wU, wU, wU, wU])) a0_121 rfl) ?_
      exact segD0233 Z a0 hw n0 p q r b0 b1 b2 ra rb mix
    · show WGo _ (117, (LA p q r b0 b1 b2 ra rb mix [wI 0, wI 2, wI 3, wU, wU, wU, wU, wU, wU]), [.int 1, .int 3, .int 3], (HA p q r b0 b1 b2), 6) _
      refine WGo.s (WStep.iadd a0_117) ?_
      show WGo _ (118, (LA p q r b0 b1 b2 ra rb mix [wI 0, wI 2, wI 3, wU, wU, wU, wU, wU, wU]), [.int 4, .int 3], (HA p q r b0 b1 b2), 6) _
      refine WGo.callS a0_118 (ok2 hw _ _ _ _) (wd hw 6 rfl) (wd hw 7 rfl) (argsL := [.int 3, .int 4]) (S := []) (c2 hw _ _ (3 : Int32) (4 : Int32) _ _) rfl rfl rfl rfl rfl rfl (Nat.le_of_ble_eq_true rfl) (Nat.le_of_ble_eq_true rfl) ?_
      rintro _ _ _ ⟨rfl, rfl, rfl⟩
      show WGo _ (121, (LA p q r b0 b1 b2 ra rb mix [wI 0, wI 2, wI 3, wU, wU, wU, wU, wU, wU]), [.int 3], (HA p q r b0 b1 b2), 6) _
      refine WGo.s (WStep.istore (L' := (LA p q r b0 b1 b2 ra rb mix [wI 0, wI 2, wI 3, wI 3, wU, wU, wU, wU, wU])) a0_121 rfl) ?_
      exact segD0233 Z a0 hw n0 p q r b0 b1 b2 ra rb mix
    · show WGo _ (117, (LA p q r b0 b1 b2 ra rb mix [wI 0, wI 2, wI 3, wU, wU, wU, wU, wU, wU]), [.int 2, .int 3, .int 3], (HA p q r b0 b1 b2), 6) _
      refine WGo.s (WStep.iadd a0_117) ?_
      show WGo _ (118, (LA p q r b0 b1 b2 ra rb mix [wI 0, wI 2, wI 3, wU, wU, wU, wU, wU, wU]), [.int 5, .int 3], (HA p q r b0 b1 b2), 6) _
      refine WGo.callS a0_118 (ok2 hw _ _ _ _) (wd hw 6 rfl) (wd hw 7 rfl) (argsL := [.int 3, .int 5]) (S := []) (c2 hw _ _ (3 : Int32) (5 : Int32) _ _) rfl rfl rfl rfl rfl rfl (Nat.le_of_ble_eq_true rfl) (Nat.le_of_ble_eq_true rfl) ?_
      rintro _ _ _ ⟨rfl, rfl, rfl⟩
      show WGo _ (121, (LA p q r b0 b1 b2 ra rb mix [wI 0, wI 2, wI 3, wU, wU, wU, wU, wU, wU]), [.int 3], (HA p q r b0 b1 b2), 6) _
      refine WGo.s (WStep.istore (L' := (LA p q r b0 b1 b2 ra rb mix [wI 0, wI 2, wI 3, wI 3, wU, wU, wU, wU, wU])) a0_121 rfl) ?_
      exact segD0233 Z a0 hw n0 p q r b0 b1 b2 ra rb mix
    · show WGo _ (117, (LA p q r b0 b1 b2 ra rb mix [wI 0, wI 2, wI 3, wU, wU, wU, wU, wU, wU]), [.int 3, .int 3, .int 3], (HA p q r b0 b1 b2), 6) _
      refine WGo.s (WStep.iadd a0_117) ?_
      show WGo _ (118, (LA p q r b0 b1 b2 ra rb mix [wI 0, wI 2, wI 3, wU, wU, wU, wU, wU, wU]), [.int 6, .int 3], (HA p q r b0 b1 b2), 6) _
      refine WGo.callS a0_118 (ok2 hw _ _ _ _) (wd hw 6 rfl) (wd hw 7 rfl) (argsL := [.int 3, .int 6]) (S := []) (c2 hw _ _ (3 : Int32) (6 : Int32) _ _) rfl rfl rfl rfl rfl rfl (Nat.le_of_ble_eq_true rfl) (Nat.le_of_ble_eq_true rfl) ?_
      rintro _ _ _ ⟨rfl, rfl, rfl⟩
      show WGo _ (121, (LA p q r b0 b1 b2 ra rb mix [wI 0, wI 2, wI 3, wU, wU, wU, wU, wU, wU]), [.int 3], (HA p q r b0 b1 b2), 6) _
      refine WGo.s (WStep.istore (L' := (LA p q r b0 b1 b2 ra rb mix [wI 0, wI 2, wI 3, wI 3, wU, wU, wU, wU, wU])) a0_121 rfl) ?_
      exact segD0233 Z a0 hw n0 p q r b0 b1 b2 ra rb mix
theorem segC03 (Z : State) (a0 : Array Value) (hw : ∀ d ∈ tables_1, d.before a0 Z = true) (n0 : Nat) (p q r b0 b1 b2 : Int64) (ra rb mix : Int32) : WGo (g0 Z (fun k => n0 + k) n0 0 0) (102, (LA p q r b0 b1 b2 ra rb mix [wI 0, wI 3, wU, wU, wU, wU, wU, wU, wU]), [], (HA p q r b0 b1 b2), 6) (fun v σ' u' => v = some (.int 1) ∧ σ'.length ≤ 16 ∧ u' ≤ 128) := by
  refine WGo.s (WStep.iload a0_102 rfl) ?_
  refine WGo.s (WStep.iconst (3 : Int32) a0_104 rfl) ?_
  refine WGo.s (WStep.iand a0_105) ?_
  generalize hg_s1 : (rb &&& (3 : Int32)) = s1
  obtain hs_s1 := four _ _ hg_s1
  rcases hs_s1 with rfl | rfl | rfl | rfl
  · show WGo _ (106, (LA p q r b0 b1 b2 ra rb mix [wI 0, wI 3, wU, wU, wU, wU, wU, wU, wU]), [.int 0], (HA p q r b0 b1 b2), 6) _
    refine WGo.s (WStep.istore (L' := (LA p q r b0 b1 b2 ra rb mix [wI 0, wI 3, wI 0, wU, wU, wU, wU, wU, wU])) a0_106 rfl) ?_
    refine WGo.s (WStep.iconst (3 : Int32) a0_108 rfl) ?_
    refine WGo.s (WStep.iload a0_109 rfl) ?_
    refine WGo.s (WStep.iload a0_111 rfl) ?_
    refine WGo.s (WStep.iconst (2 : Int32) a0_113 rfl) ?_
    refine WGo.s (WStep.iushr a0_114) ?_
    refine WGo.s (WStep.iconst (3 : Int32) a0_115 rfl) ?_
    refine WGo.s (WStep.iand a0_116) ?_
    generalize hg_s2 : (((rb.toUInt32 >>> ((2 : Int32) &&& 31).toUInt32).toInt32) &&& (3 : Int32)) = s2
    obtain hs_s2 := four _ _ hg_s2
    rcases hs_s2 with rfl | rfl | rfl | rfl
    · show WGo _ (117, (LA p q r b0 b1 b2 ra rb mix [wI 0, wI 3, wI 0, wU, wU, wU, wU, wU, wU]), [.int 0, .int 0, .int 3], (HA p q r b0 b1 b2), 6) _
      refine WGo.s (WStep.iadd a0_117) ?_
      show WGo _ (118, (LA p q r b0 b1 b2 ra rb mix [wI 0, wI 3, wI 0, wU, wU, wU, wU, wU, wU]), [.int 0, .int 3], (HA p q r b0 b1 b2), 6) _
      refine WGo.callS a0_118 (ok2 hw _ _ _ _) (wd hw 6 rfl) (wd hw 7 rfl) (argsL := [.int 3, .int 0]) (S := []) (c2 hw _ _ (3 : Int32) (0 : Int32) _ _) rfl rfl rfl rfl rfl rfl (Nat.le_of_ble_eq_true rfl) (Nat.le_of_ble_eq_true rfl) ?_
      rintro _ _ _ ⟨rfl, rfl, rfl⟩
      show WGo _ (121, (LA p q r b0 b1 b2 ra rb mix [wI 0, wI 3, wI 0, wU, wU, wU, wU, wU, wU]), [.int 0], (HA p q r b0 b1 b2), 6) _
      refine WGo.s (WStep.istore (L' := (LA p q r b0 b1 b2 ra rb mix [wI 0, wI 3, wI 0, wI 0, wU, wU, wU, wU, wU])) a0_121 rfl) ?_
      exact segD0300 Z a0 hw n0 p q r b0 b1 b2 ra rb mix
    · show WGo _ (117, (LA p q r b0 b1 b2 ra rb mix [wI 0, wI 3, wI 0, wU, wU, wU, wU, wU, wU]), [.int 1, .int 0, .int 3], (HA p q r b0 b1 b2), 6) _
      refine WGo.s (WStep.iadd a0_117) ?_
      show WGo _ (118, (LA p q r b0 b1 b2 ra rb mix [wI 0, wI 3, wI 0, wU, wU, wU, wU, wU, wU]), [.int 1, .int 3], (HA p q r b0 b1 b2), 6) _
      refine WGo.callS a0_118 (ok2 hw _ _ _ _) (wd hw 6 rfl) (wd hw 7 rfl) (argsL := [.int 3, .int 1]) (S := []) (c2 hw _ _ (3 : Int32) (1 : Int32) _ _) rfl rfl rfl rfl rfl rfl (Nat.le_of_ble_eq_true rfl) (Nat.le_of_ble_eq_true rfl) ?_
      rintro _ _ _ ⟨rfl, rfl, rfl⟩
      show WGo _ (121, (LA p q r b0 b1 b2 ra rb mix [wI 0, wI 3, wI 0, wU, wU, wU, wU, wU, wU]), [.int 1], (HA p q r b0 b1 b2), 6) _
      refine WGo.s (WStep.istore (L' := (LA p q r b0 b1 b2 ra rb mix [wI 0, wI 3, wI 0, wI 1, wU, wU, wU, wU, wU])) a0_121 rfl) ?_
      exact segD0301 Z a0 hw n0 p q r b0 b1 b2 ra rb mix
    · show WGo _ (117, (LA p q r b0 b1 b2 ra rb mix [wI 0, wI 3, wI 0, wU, wU, wU, wU, wU, wU]), [.int 2, .int 0, .int 3], (HA p q r b0 b1 b2), 6) _
      refine WGo.s (WStep.iadd a0_117) ?_
      show WGo _ (118, (LA p q r b0 b1 b2 ra rb mix [wI 0, wI 3, wI 0, wU, wU, wU, wU, wU, wU]), [.int 2, .int 3], (HA p q r b0 b1 b2), 6) _
      refine WGo.callS a0_118 (ok2 hw _ _ _ _) (wd hw 6 rfl) (wd hw 7 rfl) (argsL := [.int 3, .int 2]) (S := []) (c2 hw _ _ (3 : Int32) (2 : Int32) _ _) rfl rfl rfl rfl rfl rfl (Nat.le_of_ble_eq_true rfl) (Nat.le_of_ble_eq_true rfl) ?_
      rintro _ _ _ ⟨rfl, rfl, rfl⟩
      show WGo _ (121, (LA p q r b0 b1 b2 ra rb mix [wI 0, wI 3, wI 0, wU, wU, wU, wU, wU, wU]), [.int 2], (HA p q r b0 b1 b2), 6) _
      refine WGo.s (WStep.istore (L' := (LA p q r b0 b1 b2 ra rb mix [wI 0, wI 3, wI 0, wI 2, wU, wU, wU, wU, wU])) a0_121 rfl) ?_
      exact segD0302 Z a0 hw n0 p q r b0 b1 b2 ra rb mix
    · show WGo _ (117, (LA p q r b0 b1 b2 ra rb mix [wI 0, wI 3, wI 0, wU, wU, wU, wU, wU, wU]), [.int 3, .int 0, .int 3], (HA p q r b0 b1 b2), 6) _
      refine WGo.s (WStep.iadd a0_117) ?_
      show WGo _ (118, (LA p q r b0 b1 b2 ra rb mix [wI 0, wI 3, wI 0, wU, wU, wU, wU, wU, wU]), [.int 3, .int 3], (HA p q r b0 b1 b2), 6) _
      refine WGo.callS a0_118 (ok2 hw _ _ _ _) (wd hw 6 rfl) (wd hw 7 rfl) (argsL := [.int 3, .int 3]) (S := []) (c2 hw _ _ (3 : Int32) (3 : Int32) _ _) rfl rfl rfl rfl rfl rfl (Nat.le_of_ble_eq_true rfl) (Nat.le_of_ble_eq_true rfl) ?_
      rintro _ _ _ ⟨rfl, rfl, rfl⟩
      show WGo _ (121, (LA p q r b0 b1 b2 ra rb mix [wI 0, wI 3, wI 0, wU, wU, wU, wU, wU, wU]), [.int 3], (HA p q r b0 b1 b2), 6) _
      refine WGo.s (WStep.istore (L' := (LA p q r b0 b1 b2 ra rb mix [wI 0, wI 3, wI 0, wI 3, wU, wU, wU, wU, wU])) a0_121 rfl) ?_
      exact segD0303 Z a0 hw n0 p q r b0 b1 b2 ra rb mix
  · show WGo _ (106, (LA p q r b0 b1 b2 ra rb mix [wI 0, wI 3, wU, wU, wU, wU, wU, wU, wU]), [.int 1], (HA p q r b0 b1 b2), 6) _
    refine WGo.s (WStep.istore (L' := (LA p q r b0 b1 b2 ra rb mix [wI 0, wI 3, wI 1, wU, wU, wU, wU, wU, wU])) a0_106 rfl) ?_
    refine WGo.s (WStep.iconst (3 : Int32) a0_108 rfl) ?_
    refine WGo.s (WStep.iload a0_109 rfl) ?_
    refine WGo.s (WStep.iload a0_111 rfl) ?_
    refine WGo.s (WStep.iconst (2 : Int32) a0_113 rfl) ?_
    refine WGo.s (WStep.iushr a0_114) ?_
    refine WGo.s (WStep.iconst (3 : Int32) a0_115 rfl) ?_
    refine WGo.s (WStep.iand a0_116) ?_
    generalize hg_s2 : (((rb.toUInt32 >>> ((2 : Int32) &&& 31).toUInt32).toInt32) &&& (3 : Int32)) = s2
    obtain hs_s2 := four _ _ hg_s2
    rcases hs_s2 with rfl | rfl | rfl | rfl
    · show WGo _ (117, (LA p q r b0 b1 b2 ra rb mix [wI 0, wI 3, wI 1, wU, wU, wU, wU, wU, wU]), [.int 0, .int 1, .int 3], (HA p q r b0 b1 b2), 6) _
      refine WGo.s (WStep.iadd a0_117) ?_
      show WGo _ (118, (LA p q r b0 b1 b2 ra rb mix [wI 0, wI 3, wI 1, wU, wU, wU, wU, wU, wU]), [.int 1, .int 3], (HA p q r b0 b1 b2), 6) _
      refine WGo.callS a0_118 (ok2 hw _ _ _ _) (wd hw 6 rfl) (wd hw 7 rfl) (argsL := [.int 3, .int 1]) (S := []) (c2 hw _ _ (3 : Int32) (1 : Int32) _ _) rfl rfl rfl rfl rfl rfl (Nat.le_of_ble_eq_true rfl) (Nat.le_of_ble_eq_true rfl) ?_
      rintro _ _ _ ⟨rfl, rfl, rfl⟩
      show WGo _ (121, (LA p q r b0 b1 b2 ra rb mix [wI 0, wI 3, wI 1, wU, wU, wU, wU, wU, wU]), [.int 1], (HA p q r b0 b1 b2), 6) _
      refine WGo.s (WStep.istore (L' := (LA p q r b0 b1 b2 ra rb mix [wI 0, wI 3, wI 1, wI 1, wU, wU, wU, wU, wU])) a0_121 rfl) ?_
      exact segD0311 Z a0 hw n0 p q r b0 b1 b2 ra rb mix
    · show WGo _ (117, (LA p q r b0 b1 b2 ra rb mix [wI 0, wI 3, wI 1, wU, wU, wU, wU, wU, wU]), [.int 1, .int 1, .int 3], (HA p q r b0 b1 b2), 6) _
      refine WGo.s (WStep.iadd a0_117) ?_
      show WGo _ (118, (LA p q r b0 b1 b2 ra rb mix [wI 0, wI 3, wI 1, wU, wU, wU, wU, wU, wU]), [.int 2, .int 3], (HA p q r b0 b1 b2), 6) _
      refine WGo.callS a0_118 (ok2 hw _ _ _ _) (wd hw 6 rfl) (wd hw 7 rfl) (argsL := [.int 3, .int 2]) (S := []) (c2 hw _ _ (3 : Int32) (2 : Int32) _ _) rfl rfl rfl rfl rfl rfl (Nat.le_of_ble_eq_true rfl) (Nat.le_of_ble_eq_true rfl) ?_
      rintro _ _ _ ⟨rfl, rfl, rfl⟩
      show WGo _ (121, (LA p q r b0 b1 b2 ra rb mix [wI 0, wI 3, wI 1, wU, wU, wU, wU, wU, wU]), [.int 2], (HA p q r b0 b1 b2), 6) _
      refine WGo.s (WStep.istore (L' := (LA p q r b0 b1 b2 ra rb mix [wI 0, wI 3, wI 1, wI 2, wU, wU, wU, wU, wU])) a0_121 rfl) ?_
      exact segD0312 Z a0 hw n0 p q r b0 b1 b2 ra rb mix
    · show WGo _ (117, (LA p q r b0 b1 b2 ra rb mix [wI 0, wI 3, wI 1, wU, wU, wU, wU, wU, wU]), [.int 2, .int 1, .int 3], (HA p q r b0 b1 b2), 6) _
      refine WGo.s (WStep.iadd a0_117) ?_
      show WGo _ (118, (LA p q r b0 b1 b2 ra rb mix [wI 0, wI 3, wI 1, wU, wU, wU, wU, wU, wU]), [.int 3, .int 3], (HA p q r b0 b1 b2), 6) _
      refine WGo.callS a0_118 (ok2 hw _ _ _ _) (wd hw 6 rfl) (wd hw 7 rfl) (argsL := [.int 3, .int 3]) (S := []) (c2 hw _ _ (3 : Int32) (3 : Int32) _ _) rfl rfl rfl rfl rfl rfl (Nat.le_of_ble_eq_true rfl) (Nat.le_of_ble_eq_true rfl) ?_
      rintro _ _ _ ⟨rfl, rfl, rfl⟩
      show WGo _ (121, (LA p q r b0 b1 b2 ra rb mix [wI 0, wI 3, wI 1, wU, wU, wU, wU, wU, wU]), [.int 3], (HA p q r b0 b1 b2), 6) _
      refine WGo.s (WStep.istore (L' := (LA p q r b0 b1 b2 ra rb mix [wI 0, wI 3, wI 1, wI 3, wU, wU, wU, wU, wU])) a0_121 rfl) ?_
      exact segD0313 Z a0 hw n0 p q r b0 b1 b2 ra rb mix
    · show WGo _ (117, (LA p q r b0 b1 b2 ra rb mix [wI 0, wI 3, wI 1, wU, wU, wU, wU, wU, wU]), [.int 3, .int 1, .int 3], (HA p q r b0 b1 b2), 6) _
      refine WGo.s (WStep.iadd a0_117) ?_
      show WGo _ (118, (LA p q r b0 b1 b2 ra rb mix [wI 0, wI 3, wI 1, wU, wU, wU, wU, wU, wU]), [.int 4, .int 3], (HA p q r b0 b1 b2), 6) _
      refine WGo.callS a0_118 (ok2 hw _ _ _ _) (wd hw 6 rfl) (wd hw 7 rfl) (argsL := [.int 3, .int 4]) (S := []) (c2 hw _ _ (3 : Int32) (4 : Int32) _ _) rfl rfl rfl rfl rfl rfl (Nat.le_of_ble_eq_true rfl) (Nat.le_of_ble_eq_true rfl) ?_
      rintro _ _ _ ⟨rfl, rfl, rfl⟩
      show WGo _ (121, (LA p q r b0 b1 b2 ra rb mix [wI 0, wI 3, wI 1, wU, wU, wU, wU, wU, wU]), [.int 3], (HA p q r b0 b1 b2), 6) _
      refine WGo.s (WStep.istore (L' := (LA p q r b0 b1 b2 ra rb mix [wI 0, wI 3, wI 1, wI 3, wU, wU, wU, wU, wU])) a0_121 rfl) ?_
      exact segD0313 Z a0 hw n0 p q r b0 b1 b2 ra rb mix
  · show WGo _ (106, (LA p q r b0 b1 b2 ra rb mix [wI 0, wI 3, wU, wU, wU, wU, wU, wU, wU]), [.int 2], (HA p q r b0 b1 b2), 6) _
    refine WGo.s (WStep.istore (L' := (LA p q r b0 b1 b2 ra rb mix [wI 0, wI 3, wI 2, wU, wU, wU, wU, wU, wU])) a0_106 rfl) ?_
    refine WGo.s (WStep.iconst (3 : Int32) a0_108 rfl) ?_
    refine WGo.s (WStep.iload a0_109 rfl) ?_
    refine WGo.s (WStep.iload a0_111 rfl) ?_
    refine WGo.s (WStep.iconst (2 : Int32) a0_113 rfl) ?_
    refine WGo.s (WStep.iushr a0_114) ?_
    refine WGo.s (WStep.iconst (3 : Int32) a0_115 rfl) ?_
    refine WGo.s (WStep.iand a0_116) ?_
    generalize hg_s2 : (((rb.toUInt32 >>> ((2 : Int32) &&& 31).toUInt32).toInt32) &&& (3 : Int32)) = s2
    obtain hs_s2 := four _ _ hg_s2
    rcases hs_s2 with rfl | rfl | rfl | rfl
    · show WGo _ (117, (LA p q r b0 b1 b2 ra rb mix [wI 0, wI 3, wI 2, wU, wU, wU, wU, wU, wU]), [.int 0, .int 2, .int 3], (HA p q r b0 b1 b2), 6) _
      refine WGo.s (WStep.iadd a0_117) ?_
      show WGo _ (118, (LA p q r b0 b1 b2 ra rb mix [wI 0, wI 3, wI 2, wU, wU, wU, wU, wU, wU]), [.int 2, .int 3], (HA p q r b0 b1 b2), 6) _
      refine WGo.callS a0_118 (ok2 hw _ _ _ _) (wd hw 6 rfl) (wd hw 7 rfl) (argsL := [.int 3, .int 2]) (S := []) (c2 hw _ _ (3 : Int32) (2 : Int32) _ _) rfl rfl rfl rfl rfl rfl (Nat.le_of_ble_eq_true rfl) (Nat.le_of_ble_eq_true rfl) ?_
      rintro _ _ _ ⟨rfl, rfl, rfl⟩
      show WGo _ (121, (LA p q r b0 b1 b2 ra rb mix [wI 0, wI 3, wI 2, wU, wU, wU, wU, wU, wU]), [.int 2], (HA p q r b0 b1 b2), 6) _
      refine WGo.s (WStep.istore (L' := (LA p q r b0 b1 b2 ra rb mix [wI 0, wI 3, wI 2, wI 2, wU, wU, wU, wU, wU])) a0_121 rfl) ?_
      exact segD0322 Z a0 hw n0 p q r b0 b1 b2 ra rb mix
    · show WGo _ (117, (LA p q r b0 b1 b2 ra rb mix [wI 0, wI 3, wI 2, wU, wU, wU, wU, wU, wU]), [.int 1, .int 2, .int 3], (HA p q r b0 b1 b2), 6) _
      refine WGo.s (WStep.iadd a0_117) ?_
      show WGo _ (118, (LA p q r b0 b1 b2 ra rb mix [wI 0, wI 3, wI 2, wU, wU, wU, wU, wU, wU]), [.int 3, .int 3], (HA p q r b0 b1 b2), 6) _
      refine WGo.callS a0_118 (ok2 hw _ _ _ _) (wd hw 6 rfl) (wd hw 7 rfl) (argsL := [.int 3, .int 3]) (S := []) (c2 hw _ _ (3 : Int32) (3 : Int32) _ _) rfl rfl rfl rfl rfl rfl (Nat.le_of_ble_eq_true rfl) (Nat.le_of_ble_eq_true rfl) ?_
      rintro _ _ _ ⟨rfl, rfl, rfl⟩
      show WGo _ (121, (LA p q r b0 b1 b2 ra rb mix [wI 0, wI 3, wI 2, wU, wU, wU, wU, wU, wU]), [.int 3], (HA p q r b0 b1 b2), 6) _
      refine WGo.s (WStep.istore (L' := (LA p q r b0 b1 b2 ra rb mix [wI 0, wI 3, wI 2, wI 3, wU, wU, wU, wU, wU])) a0_121 rfl) ?_
      exact segD0323 Z a0 hw n0 p q r b0 b1 b2 ra rb mix
    · show WGo _ (117, (LA p q r b0 b1 b2 ra rb mix [wI 0, wI 3, wI 2, wU, wU, wU, wU, wU, wU]), [.int 2, .int 2, .int 3], (HA p q r b0 b1 b2), 6) _
      refine WGo.s (WStep.iadd a0_117) ?_
      show WGo _ (118, (LA p q r b0 b1 b2 ra rb mix [wI 0, wI 3, wI 2, wU, wU, wU, wU, wU, wU]), [.int 4, .int 3], (HA p q r b0 b1 b2), 6) _
      refine WGo.callS a0_118 (ok2 hw _ _ _ _) (wd hw 6 rfl) (wd hw 7 rfl) (argsL := [.int 3, .int 4]) (S := []) (c2 hw _ _ (3 : Int32) (4 : Int32) _ _) rfl rfl rfl rfl rfl rfl (Nat.le_of_ble_eq_true rfl) (Nat.le_of_ble_eq_true rfl) ?_
      rintro _ _ _ ⟨rfl, rfl, rfl⟩
      show WGo _ (121, (LA p q r b0 b1 b2 ra rb mix [wI 0, wI 3, wI 2, wU, wU, wU, wU, wU, wU]), [.int 3], (HA p q r b0 b1 b2), 6) _
      refine WGo.s (WStep.istore (L' := (LA p q r b0 b1 b2 ra rb mix [wI 0, wI 3, wI 2, wI 3, wU, wU, wU, wU, wU])) a0_121 rfl) ?_
      exact segD0323 Z a0 hw n0 p q r b0 b1 b2 ra rb mix
    · show WGo _ (117, (LA p q r b0 b1 b2 ra rb mix [wI 0, wI 3, wI 2, wU, wU, wU, wU, wU, wU]), [.int 3, .int 2, .int 3], (HA p q r b0 b1 b2), 6) _
      refine WGo.s (WStep.iadd a0_117) ?_
      show WGo _ (118, (LA p q r b0 b1 b2 ra rb mix [wI 0, wI 3, wI 2, wU, wU, wU, wU, wU, wU]), [.int 5, .int 3], (HA p q r b0 b1 b2), 6) _
      refine WGo.callS a0_118 (ok2 hw _ _ _ _) (wd hw 6 rfl) (wd hw 7 rfl) (argsL := [.int 3, .int 5]) (S := []) (c2 hw _ _ (3 : Int32) (5 : Int32) _ _) rfl rfl rfl rfl rfl rfl (Nat.le_of_ble_eq_true rfl) (Nat.le_of_ble_eq_true rfl) ?_
      rintro _ _ _ ⟨rfl, rfl, rfl⟩
      show WGo _ (121, (LA p q r b0 b1 b2 ra rb mix [wI 0, wI 3, wI 2, wU, wU, wU, wU, wU, wU]), [.int 3], (HA p q r b0 b1 b2), 6) _
      refine WGo.s (WStep.istore (L' := (LA p q r b0 b1 b2 ra rb mix [wI 0, wI 3, wI 2, wI 3, wU, wU, wU, wU, wU])) a0_121 rfl) ?_
      exact segD0323 Z a0 hw n0 p q r b0 b1 b2 ra rb mix
  · show WGo _ (106, (LA p q r b0 b1 b2 ra rb mix [wI 0, wI 3, wU, wU, wU, wU, wU, wU, wU]), [.int 3], (HA p q r b0 b1 b2), 6) _
    refine WGo.s (WStep.istore (L' := (LA p q r b0 b1 b2 ra rb mix [wI 0, wI 3, wI 3, wU, wU, wU, wU, wU, wU])) a0_106 rfl) ?_
    refine WGo.s (WStep.iconst (3 : Int32) a0_108 rfl) ?_
    refine WGo.s (WStep.iload a0_109 rfl) ?_
    refine WGo.s (WStep.iload a0_111 rfl) ?_
    refine WGo.s (WStep.iconst (2 : Int32) a0_113 rfl) ?_
    refine WGo.s (WStep.iushr a0_114) ?_
    refine WGo.s (WStep.iconst (3 : Int32) a0_115 rfl) ?_
    refine WGo.s (WStep.iand a0_116) ?_
    generalize hg_s2 : (((rb.toUInt32 >>> ((2 : Int32) &&& 31).toUInt32).toInt32) &&& (3 : Int32)) = s2
    obtain hs_s2 := four _ _ hg_s2
    rcases hs_s2 with rfl | rfl | rfl | rfl
    · show WGo _ (117, (LA p q r b0 b1 b2 ra rb mix [wI 0, wI 3, wI 3, wU, wU, wU, wU, wU, wU]), [.int 0, .int 3, .int 3], (HA p q r b0 b1 b2), 6) _
      refine WGo.s (WStep.iadd a0_117) ?_
      show WGo _ (118, (LA p q r b0 b1 b2 ra rb mix [wI 0, wI 3, wI 3, wU, wU, wU, wU, wU, wU]), [.int 3, .int 3], (HA p q r b0 b1 b2), 6) _
      refine WGo.callS a0_118 (ok2 hw _ _ _ _) (wd hw 6 rfl) (wd hw 7 rfl) (argsL := [.int 3, .int 3]) (S := []) (c2 hw _ _ (3 : Int32) (3 : Int32) _ _) rfl rfl rfl rfl rfl rfl (Nat.le_of_ble_eq_true rfl) (Nat.le_of_ble_eq_true rfl) ?_
      rintro _ _ _ ⟨rfl, rfl, rfl⟩
      show WGo _ (121, (LA p q r b0 b1 b2 ra rb mix [wI 0, wI 3, wI 3, wU, wU, wU, wU, wU, wU]), [.int 3], (HA p q r b0 b1 b2), 6) _
      refine WGo.s (WStep.istore (L' := (LA p q r b0 b1 b2 ra rb mix [wI 0, wI 3, wI 3, wI 3, wU, wU, wU, wU, wU])) a0_121 rfl) ?_
      exact segD0333 Z a0 hw n0 p q r b0 b1 b2 ra rb mix
    · show WGo _ (117, (LA p q r b0 b1 b2 ra rb mix [wI 0, wI 3, wI 3, wU, wU, wU, wU, wU, wU]), [.int 1, .int 3, .int 3], (HA p q r b0 b1 b2), 6) _
      refine WGo.s (WStep.iadd a0_117) ?_
      show WGo _ (118, (LA p q r b0 b1 b2 ra rb mix [wI 0, wI 3, wI 3, wU, wU, wU, wU, wU, wU]), [.int 4, .int 3], (HA p q r b0 b1 b2), 6) _
      refine WGo.callS a0_118 (ok2 hw _ _ _ _) (wd hw 6 rfl) (wd hw 7 rfl) (argsL := [.int 3, .int 4]) (S := []) (c2 hw _ _ (3 : Int32) (4 : Int32) _ _) rfl rfl rfl rfl rfl rfl (Nat.le_of_ble_eq_true rfl) (Nat.le_of_ble_eq_true rfl) ?_
      rintro _ _ _ ⟨rfl, rfl, rfl⟩
      show WGo _ (121, (LA p q r b0 b1 b2 ra rb mix [wI 0, wI 3, wI 3, wU, wU, wU, wU, wU, wU]), [.int 3], (HA p q r b0 b1 b2), 6) _
      refine WGo.s (WStep.istore (L' := (LA p q r b0 b1 b2 ra rb mix [wI 0, wI 3, wI 3, wI 3, wU, wU, wU, wU, wU])) a0_121 rfl) ?_
      exact segD0333 Z a0 hw n0 p q r b0 b1 b2 ra rb mix
    · show WGo _ (117, (LA p q r b0 b1 b2 ra rb mix [wI 0, wI 3, wI 3, wU, wU, wU, wU, wU, wU]), [.int 2, .int 3, .int 3], (HA p q r b0 b1 b2), 6) _
      refine WGo.s (WStep.iadd a0_117) ?_
      show WGo _ (118, (LA p q r b0 b1 b2 ra rb mix [wI 0, wI 3, wI 3, wU, wU, wU, wU, wU, wU]), [.int 5, .int 3], (HA p q r b0 b1 b2), 6) _
      refine WGo.callS a0_118 (ok2 hw _ _ _ _) (wd hw 6 rfl) (wd hw 7 rfl) (argsL := [.int 3, .int 5]) (S := []) (c2 hw _ _ (3 : Int32) (5 : Int32) _ _) rfl rfl rfl rfl rfl rfl (Nat.le_of_ble_eq_true rfl) (Nat.le_of_ble_eq_true rfl) ?_
      rintro _ _ _ ⟨rfl, rfl, rfl⟩
      show WGo _ (121, (LA p q r b0 b1 b2 ra rb mix [wI 0, wI 3, wI 3, wU, wU, wU, wU, wU, wU]), [.int 3], (HA p q r b0 b1 b2), 6) _
      refine WGo.s (WStep.istore (L' := (LA p q r b0 b1 b2 ra rb mix [wI 0, wI 3, wI 3, wI 3, wU, wU, wU, wU, wU])) a0_121 rfl) ?_
      exact segD0333 Z a0 hw n0 p q r b0 b1 b2 ra rb mix
    · show WGo _ (117, (LA p q r b0 b1 b2 ra rb mix [wI 0, wI 3, wI 3, wU, wU, wU, wU, wU, wU]), [.int 3, .int 3, .int 3], (HA p q r b0 b1 b2), 6) _
      refine WGo.s (WStep.iadd a0_117) ?_
      show WGo _ (118, (LA p q r b0 b1 b2 ra rb mix [wI 0, wI 3, wI 3, wU, wU, wU, wU, wU, wU]), [.int 6, .int 3], (HA p q r b0 b1 b2), 6) _
      refine WGo.callS a0_118 (ok2 hw _ _ _ _) (wd hw 6 rfl) (wd hw 7 rfl) (argsL := [.int 3, .int 6]) (S := []) (c2 hw _ _ (3 : Int32) (6 : Int32) _ _) rfl rfl rfl rfl rfl rfl (Nat.le_of_ble_eq_true rfl) (Nat.le_of_ble_eq_true rfl) ?_
      rintro _ _ _ ⟨rfl, rfl, rfl⟩
      show WGo _ (121, (LA p q r b0 b1 b2 ra rb mix [wI 0, wI 3, wI 3, wU, wU, wU, wU, wU, wU]), [.int 3], (HA p q r b0 b1 b2), 6) _
      refine WGo.s (WStep.istore (L' := (LA p q r b0 b1 b2 ra rb mix [wI 0, wI 3, wI 3, wI 3, wU, wU, wU, wU, wU])) a0_121 rfl) ?_
      exact segD0333 Z a0 hw n0 p q r b0 b1 b2 ra rb mix
theorem segC11 (Z : State) (a0 : Array Value) (hw : ∀ d ∈ tables_1, d.before a0 Z = true) (n0 : Nat) (p q r b0 b1 b2 : Int64) (ra rb mix : Int32) : WGo (g0 Z (fun k => n0 + k) n0 0 0) (102, (LA p q r b0 b1 b2 ra rb mix [wI 1, wI 1, wU, wU, wU, wU, wU, wU, wU]), [], (HA p q r b0 b1 b2), 6) (fun v σ' u' => v = some (.int 1) ∧ σ'.length ≤ 16 ∧ u' ≤ 128) := by
  refine WGo.s (WStep.iload a0_102 rfl) ?_
  refine WGo.s (WStep.iconst (3 : Int32) a0_104 rfl) ?_
  refine WGo.s (WStep.iand a0_105) ?_
  generalize hg_s1 : (rb &&& (3 : Int32)) = s1
  obtain hs_s1 := four _ _ hg_s1
  rcases hs_s1 with rfl | rfl | rfl | rfl
  · show WGo _ (106, (LA p q r b0 b1 b2 ra rb mix [wI 1, wI 1, wU, wU, wU, wU, wU, wU, wU]), [.int 0], (HA p q r b0 b1 b2), 6) _
    refine WGo.s (WStep.istore (L' := (LA p q r b0 b1 b2 ra rb mix [wI 1, wI 1, wI 0, wU, wU, wU, wU, wU, wU])) a0_106 rfl) ?_
    refine WGo.s (WStep.iconst (3 : Int32) a0_108 rfl) ?_
    refine WGo.s (WStep.iload a0_109 rfl) ?_
    refine WGo.s (WStep.iload a0_111 rfl) ?_
    refine WGo.s (WStep.iconst (2 : Int32) a0_113 rfl) ?_
    refine WGo.s (WStep.iushr a0_114) ?_
    refine WGo.s (WStep.iconst (3 : Int32) a0_115 rfl) ?_
    refine WGo.s (WStep.iand a0_116) ?_
    generalize hg_s2 : (((rb.toUInt32 >>> ((2 : Int32) &&& 31).toUInt32).toInt32) &&& (3 : Int32)) = s2
    obtain hs_s2 := four _ _ hg_s2
    rcases hs_s2 with rfl | rfl | rfl | rfl
    · show WGo _ (117, (LA p q r b0 b1 b2 ra rb mix [wI 1, wI 1, wI 0, wU, wU, wU, wU, wU, wU]), [.int 0, .int 0, .int 3], (HA p q r b0 b1 b2), 6) _
      refine WGo.s (WStep.iadd a0_117) ?_
      show WGo _ (118, (LA p q r b0 b1 b2 ra rb mix [wI 1, wI 1, wI 0, wU, wU, wU, wU, wU, wU]), [.int 0, .int 3], (HA p q r b0 b1 b2), 6) _
      refine WGo.callS a0_118 (ok2 hw _ _ _ _) (wd hw 6 rfl) (wd hw 7 rfl) (argsL := [.int 3, .int 0]) (S := []) (c2 hw _ _ (3 : Int32) (0 : Int32) _ _) rfl rfl rfl rfl rfl rfl (Nat.le_of_ble_eq_true rfl) (Nat.le_of_ble_eq_true rfl) ?_
      rintro _ _ _ ⟨rfl, rfl, rfl⟩
      show WGo _ (121, (LA p q r b0 b1 b2 ra rb mix [wI 1, wI 1, wI 0, wU, wU, wU, wU, wU, wU]), [.int 0], (HA p q r b0 b1 b2), 6) _
      refine WGo.s (WStep.istore (L' := (LA p q r b0 b1 b2 ra rb mix [wI 1, wI 1, wI 0, wI 0, wU, wU, wU, wU, wU])) a0_121 rfl) ?_
      exact segD1100 Z a0 hw n0 p q r b0 b1 b2 ra rb mix
    · show WGo _ (117, (LA p q r b0 b1 b2 ra rb mix [wI 1, wI 1, wI 0, wU, wU, wU, wU, wU, wU]), [.int 1, .int 0, .int 3], (HA p q r b0 b1 b2), 6) _
      refine WGo.s (WStep.iadd a0_117) ?_
      show WGo _ (118, (LA p q r b0 b1 b2 ra rb mix [wI 1, wI 1, wI 0, wU, wU, wU, wU, wU, wU]), [.int 1, .int 3], (HA p q r b0 b1 b2), 6) _
      refine WGo.callS a0_118 (ok2 hw _ _ _ _) (wd hw 6 rfl) (wd hw 7 rfl) (argsL := [.int 3, .int 1]) (S := []) (c2 hw _ _ (3 : Int32) (1 : Int32) _ _) rfl rfl rfl rfl rfl rfl (Nat.le_of_ble_eq_true rfl) (Nat.le_of_ble_eq_true rfl) ?_
      rintro _ _ _ ⟨rfl, rfl, rfl⟩
      show WGo _ (121, (LA p q r b0 b1 b2 ra rb mix [wI 1, wI 1, wI 0, wU, wU, wU, wU, wU, wU]), [.int 1], (HA p q r b0 b1 b2), 6) _
      refine WGo.s (WStep.istore (L' := (LA p q r b0 b1 b2 ra rb mix [wI 1, wI 1, wI 0, wI 1, wU, wU, wU, wU, wU])) a0_121 rfl) ?_
      exact segD1101 Z a0 hw n0 p q r b0 b1 b2 ra rb mix
    · show WGo _ (117, (LA p q r b0 b1 b2 ra rb mix [wI 1, wI 1, wI 0, wU, wU, wU, wU, wU, wU]), [.int 2, .int 0, .int 3], (HA p q r b0 b1 b2), 6) _
      refine WGo.s (WStep.iadd a0_117) ?_
      show WGo _ (118, (LA p q r b0 b1 b2 ra rb mix [wI 1, wI 1, wI 0, wU, wU, wU, wU, wU, wU]), [.int 2, .int 3], (HA p q r b0 b1 b2), 6) _
      refine WGo.callS a0_118 (ok2 hw _ _ _ _) (wd hw 6 rfl) (wd hw 7 rfl) (argsL := [.int 3, .int 2]) (S := []) (c2 hw _ _ (3 : Int32) (2 : Int32) _ _) rfl rfl rfl rfl rfl rfl (Nat.le_of_ble_eq_true rfl) (Nat.le_of_ble_eq_true rfl) ?_
      rintro _ _ _ ⟨rfl, rfl, rfl⟩
      show WGo _ (121, (LA p q r b0 b1 b2 ra rb mix [wI 1, wI 1, wI 0, wU, wU, wU, wU, wU, wU]), [.int 2], (HA p q r b0 b1 b2), 6) _
      refine WGo.s (WStep.istore (L' := (LA p q r b0 b1 b2 ra rb mix [wI 1, wI 1, wI 0, wI 2, wU, wU, wU, wU, wU])) a0_121 rfl) ?_
      exact segD1102 Z a0 hw n0 p q r b0 b1 b2 ra rb mix
    · show WGo _ (117, (LA p q r b0 b1 b2 ra rb mix [wI 1, wI 1, wI 0, wU, wU, wU, wU, wU, wU]), [.int 3, .int 0, .int 3], (HA p q r b0 b1 b2), 6) _
      refine WGo.s (WStep.iadd a0_117) ?_
      show WGo _ (118, (LA p q r b0 b1 b2 ra rb mix [wI 1, wI 1, wI 0, wU, wU, wU, wU, wU, wU]), [.int 3, .int 3], (HA p q r b0 b1 b2), 6) _
      refine WGo.callS a0_118 (ok2 hw _ _ _ _) (wd hw 6 rfl) (wd hw 7 rfl) (argsL := [.int 3, .int 3]) (S := []) (c2 hw _ _ (3 : Int32) (3 : Int32) _ _) rfl rfl rfl rfl rfl rfl (Nat.le_of_ble_eq_true rfl) (Nat.le_of_ble_eq_true rfl) ?_
      rintro _ _ _ ⟨rfl, rfl, rfl⟩
      show WGo _ (121, (LA p q r b0 b1 b2 ra rb mix [wI 1, wI 1, wI 0, wU, wU, wU, wU, wU, wU]), [.int 3], (HA p q r b0 b1 b2), 6) _
      refine WGo.s (WStep.istore (L' := (LA p q r b0 b1 b2 ra rb mix [wI 1, wI 1, wI 0, wI 3, wU, wU, wU, wU, wU])) a0_121 rfl) ?_
      exact segD1103 Z a0 hw n0 p q r b0 b1 b2 ra rb mix
  · show WGo _ (106, (LA p q r b0 b1 b2 ra rb mix [wI 1, wI 1, wU, wU, wU, wU, wU, wU, wU]), [.int 1], (HA p q r b0 b1 b2), 6) _
    refine WGo.s (WStep.istore (L' := (LA p q r b0 b1 b2 ra rb mix [wI 1, wI 1, wI 1, wU, wU, wU, wU, wU, wU])) a0_106 rfl) ?_
    refine WGo.s (WStep.iconst (3 : Int32) a0_108 rfl) ?_
    refine WGo.s (WStep.iload a0_109 rfl) ?_
    refine WGo.s (WStep.iload a0_111 rfl) ?_
    refine WGo.s (WStep.iconst (2 : Int32) a0_113 rfl) ?_
    refine WGo.s (WStep.iushr a0_114) ?_
    refine WGo.s (WStep.iconst (3 : Int32) a0_115 rfl) ?_
    refine WGo.s (WStep.iand a0_116) ?_
    generalize hg_s2 : (((rb.toUInt32 >>> ((2 : Int32) &&& 31).toUInt32).toInt32) &&& (3 : Int32)) = s2
    obtain hs_s2 := four _ _ hg_s2
    rcases hs_s2 with rfl | rfl | rfl | rfl
    · show WGo _ (117, (LA p q r b0 b1 b2 ra rb mix [wI 1, wI 1, wI 1, wU, wU, wU, wU, wU, wU]), [.int 0, .int 1, .int 3], (HA p q r b0 b1 b2), 6) _
      refine WGo.s (WStep.iadd a0_117) ?_
      show WGo _ (118, (LA p q r b0 b1 b2 ra rb mix [wI 1, wI 1, wI 1, wU, wU, wU, wU, wU, wU]), [.int 1, .int 3], (HA p q r b0 b1 b2), 6) _
      refine WGo.callS a0_118 (ok2 hw _ _ _ _) (wd hw 6 rfl) (wd hw 7 rfl) (argsL := [.int 3, .int 1]) (S := []) (c2 hw _ _ (3 : Int32) (1 : Int32) _ _) rfl rfl rfl rfl rfl rfl (Nat.le_of_ble_eq_true rfl) (Nat.le_of_ble_eq_true rfl) ?_
      rintro _ _ _ ⟨rfl, rfl, rfl⟩
      show WGo _ (121, (LA p q r b0 b1 b2 ra rb mix [wI 1, wI 1, wI 1, wU, wU, wU, wU, wU, wU]), [.int 1], (HA p q r b0 b1 b2), 6) _
      refine WGo.s (WStep.istore (L' := (LA p q r b0 b1 b2 ra rb mix [wI 1, wI 1, wI 1, wI 1, wU, wU, wU, wU, wU])) a0_121 rfl) ?_
      exact segD1111 Z a0 hw n0 p q r b0 b1 b2 ra rb mix
    · show WGo _ (117, (LA p q r b0 b1 b2 ra rb mix [wI 1, wI 1, wI 1, wU, wU, wU, wU, wU, wU]), [.int 1, .int 1, .int 3], (HA p q r b0 b1 b2), 6) _
      refine WGo.s (WStep.iadd a0_117) ?_
      show WGo _ (118, (LA p q r b0 b1 b2 ra rb mix [wI 1, wI 1, wI 1, wU, wU, wU, wU, wU, wU]), [.int 2, .int 3], (HA p q r b0 b1 b2), 6) _
      refine WGo.callS a0_118 (ok2 hw _ _ _ _) (wd hw 6 rfl) (wd hw 7 rfl) (argsL := [.int 3, .int 2]) (S := []) (c2 hw _ _ (3 : Int32) (2 : Int32) _ _) rfl rfl rfl rfl rfl rfl (Nat.le_of_ble_eq_true rfl) (Nat.le_of_ble_eq_true rfl) ?_
      rintro _ _ _ ⟨rfl, rfl, rfl⟩
      show WGo _ (121, (LA p q r b0 b1 b2 ra rb mix [wI 1, wI 1, wI 1, wU, wU, wU, wU, wU, wU]), [.int 2], (HA p q r b0 b1 b2), 6) _
      refine WGo.s (WStep.istore (L' := (LA p q r b0 b1 b2 ra rb mix [wI 1, wI 1, wI 1, wI 2, wU, wU, wU, wU, wU])) a0_121 rfl) ?_
      exact segD1112 Z a0 hw n0 p q r b0 b1 b2 ra rb mix
    · show WGo _ (117, (LA p q r b0 b1 b2 ra rb mix [wI 1, wI 1, wI 1, wU, wU, wU, wU, wU, wU]), [.int 2, .int 1, .int 3], (HA p q r b0 b1 b2), 6) _
      refine WGo.s (WStep.iadd a0_117) ?_
      show WGo _ (118, (LA p q r b0 b1 b2 ra rb mix [wI 1, wI 1, wI 1, wU, wU, wU, wU, wU, wU]), [.int 3, .int 3], (HA p q r b0 b1 b2), 6) _
      refine WGo.callS a0_118 (ok2 hw _ _ _ _) (wd hw 6 rfl) (wd hw 7 rfl) (argsL := [.int 3, .int 3]) (S := []) (c2 hw _ _ (3 : Int32) (3 : Int32) _ _) rfl rfl rfl rfl rfl rfl (Nat.le_of_ble_eq_true rfl) (Nat.le_of_ble_eq_true rfl) ?_
      rintro _ _ _ ⟨rfl, rfl, rfl⟩
      show WGo _ (121, (LA p q r b0 b1 b2 ra rb mix [wI 1, wI 1, wI 1, wU, wU, wU, wU, wU, wU]), [.int 3], (HA p q r b0 b1 b2), 6) _
      refine WGo.s (WStep.istore (L' := (LA p q r b0 b1 b2 ra rb mix [wI 1, wI 1, wI 1, wI 3, wU, wU, wU, wU, wU])) a0_121 rfl) ?_
      exact segD1113 Z a0 hw n0 p q r b0 b1 b2 ra rb mix
    · show WGo _ (117, (LA p q r b0 b1 b2 ra rb mix [wI 1, wI 1, wI 1, wU, wU, wU, wU, wU, wU]), [.int 3, .int 1, .int 3], (HA p q r b0 b1 b2), 6) _
      refine WGo.s (WStep.iadd a0_117) ?_
      show WGo _ (118, (LA p q r b0 b1 b2 ra rb mix [wI 1, wI 1, wI 1, wU, wU, wU, wU, wU, wU]), [.int 4, .int 3], (HA p q r b0 b1 b2), 6) _
      refine WGo.callS a0_118 (ok2 hw _ _ _ _) (wd hw 6 rfl) (wd hw 7 rfl) (argsL := [.int 3, .int 4]) (S := []) (c2 hw _ _ (3 : Int32) (4 : Int32) _ _) rfl rfl rfl rfl rfl rfl (Nat.le_of_ble_eq_true rfl) (Nat.le_of_ble_eq_true rfl) ?_
      rintro _ _ _ ⟨rfl, rfl, rfl⟩
      show WGo _ (121, (LA p q r b0 b1 b2 ra rb mix [wI 1, wI 1, wI 1, wU, wU, wU, wU, wU, wU]), [.int 3], (HA p q r b0 b1 b2), 6) _
      refine WGo.s (WStep.istore (L' := (LA p q r b0 b1 b2 ra rb mix [wI 1, wI 1, wI 1, wI 3, wU, wU, wU, wU, wU])) a0_121 rfl) ?_
      exact segD1113 Z a0 hw n0 p q r b0 b1 b2 ra rb mix
  · show WGo _ (106, (LA p q r b0 b1 b2 ra rb mix [wI 1, wI 1, wU, wU, wU, wU, wU, wU, wU]), [.int 2], (HA p q r b0 b1 b2), 6) _
    refine WGo.s (WStep.istore (L' := (LA p q r b0 b1 b2 ra rb mix [wI 1, wI 1, wI 2, wU, wU, wU, wU, wU, wU])) a0_106 rfl) ?_
    refine WGo.s (WStep.iconst (3 : Int32) a0_108 rfl) ?_
    refine WGo.s (WStep.iload a0_109 rfl) ?_
    refine WGo.s (WStep.iload a0_111 rfl) ?_
    refine WGo.s (WStep.iconst (2 : Int32) a0_113 rfl) ?_
    refine WGo.s (WStep.iushr a0_114) ?_
    refine WGo.s (WStep.iconst (3 : Int32) a0_115 rfl) ?_
    refine WGo.s (WStep.iand a0_116) ?_
    generalize hg_s2 : (((rb.toUInt32 >>> ((2 : Int32) &&& 31).toUInt32).toInt32) &&& (3 : Int32)) = s2
    obtain hs_s2 := four _ _ hg_s2
    rcases hs_s2 with rfl | rfl | rfl | rfl
    · show WGo _ (117, (LA p q r b0 b1 b2 ra rb mix [wI 1, wI 1, wI 2, wU, wU, wU, wU, wU, wU]), [.int 0, .int 2, .int 3], (HA p q r b0 b1 b2), 6) _
      refine WGo.s (WStep.iadd a0_117) ?_
      show WGo _ (118, (LA p q r b0 b1 b2 ra rb mix [wI 1, wI 1, wI 2, wU, wU, wU, wU, wU, wU]), [.int 2, .int 3], (HA p q r b0 b1 b2), 6) _
      refine WGo.callS a0_118 (ok2 hw _ _ _ _) (wd hw 6 rfl) (wd hw 7 rfl) (argsL := [.int 3, .int 2]) (S := []) (c2 hw _ _ (3 : Int32) (2 : Int32) _ _) rfl rfl rfl rfl rfl rfl (Nat.le_of_ble_eq_true rfl) (Nat.le_of_ble_eq_true rfl) ?_
      rintro _ _ _ ⟨rfl, rfl, rfl⟩
      show WGo _ (121, (LA p q r b0 b1 b2 ra rb mix [wI 1, wI 1, wI 2, wU, wU, wU, wU, wU, wU]), [.int 2], (HA p q r b0 b1 b2), 6) _
      refine WGo.s (WStep.istore (L' := (LA p q r b0 b1 b2 ra rb mix [wI 1, wI 1, wI 2, wI 2, wU, wU, wU, wU, wU])) a0_121 rfl) ?_
      exact segD1122 Z a0 hw n0 p q r b0 b1 b2 ra rb mix
    · show WGo _ (117, (LA p q r b0 b1 b2 ra rb mix [wI 1, wI 1, wI 2, wU, wU, wU, wU, wU, wU]), [.int 1, .int 2, .int 3], (HA p q r b0 b1 b2), 6) _
      refine WGo.s (WStep.iadd a0_117) ?_
      show WGo _ (118, (LA p q r b0 b1 b2 ra rb mix [wI 1, wI 1, wI 2, wU, wU, wU, wU, wU, wU]), [.int 3, .int 3], (HA p q r b0 b1 b2), 6) _
      refine WGo.callS a0_118 (ok2 hw _ _ _ _) (wd hw 6 rfl) (wd hw 7 rfl) (argsL := [.int 3, .int 3]) (S := []) (c2 hw _ _ (3 : Int32) (3 : Int32) _ _) rfl rfl rfl rfl rfl rfl (Nat.le_of_ble_eq_true rfl) (Nat.le_of_ble_eq_true rfl) ?_
      rintro _ _ _ ⟨rfl, rfl, rfl⟩
      show WGo _ (121, (LA p q r b0 b1 b2 ra rb mix [wI 1, wI 1, wI 2, wU, wU, wU, wU, wU, wU]), [.int 3], (HA p q r b0 b1 b2), 6) _
      refine WGo.s (WStep.istore (L' := (LA p q r b0 b1 b2 ra rb mix [wI 1, wI 1, wI 2, wI 3, wU, wU, wU, wU, wU])) a0_121 rfl) ?_
      exact segD1123 Z a0 hw n0 p q r b0 b1 b2 ra rb mix
    · show WGo _ (117, (LA p q r b0 b1 b2 ra rb mix [wI 1, wI 1, wI 2, wU, wU, wU, wU, wU, wU]), [.int 2, .int 2, .int 3], (HA p q r b0 b1 b2), 6) _
      refine WGo.s (WStep.iadd a0_117) ?_
      show WGo _ (118, (LA p q r b0 b1 b2 ra rb mix [wI 1, wI 1, wI 2, wU, wU, wU, wU, wU, wU]), [.int 4, .int 3], (HA p q r b0 b1 b2), 6) _
      refine WGo.callS a0_118 (ok2 hw _ _ _ _) (wd hw 6 rfl) (wd hw 7 rfl) (argsL := [.int 3, .int 4]) (S := []) (c2 hw _ _ (3 : Int32) (4 : Int32) _ _) rfl rfl rfl rfl rfl rfl (Nat.le_of_ble_eq_true rfl) (Nat.le_of_ble_eq_true rfl) ?_
      rintro _ _ _ ⟨rfl, rfl, rfl⟩
      show WGo _ (121, (LA p q r b0 b1 b2 ra rb mix [wI 1, wI 1, wI 2, wU, wU, wU, wU, wU, wU]), [.int 3], (HA p q r b0 b1 b2), 6) _
      refine WGo.s (WStep.istore (L' := (LA p q r b0 b1 b2 ra rb mix [wI 1, wI 1, wI 2, wI 3, wU, wU, wU, wU, wU])) a0_121 rfl) ?_
      exact segD1123 Z a0 hw n0 p q r b0 b1 b2 ra rb mix
    · show WGo _ (117, (LA p q r b0 b1 b2 ra rb mix [wI 1, wI 1, wI 2, wU, wU, wU, wU, wU, wU]), [.int 3, .int 2, .int 3], (HA p q r b0 b1 b2), 6) _
      refine WGo.s (WStep.iadd a0_117) ?_
      show WGo _ (118, (LA p q r b0 b1 b2 ra rb mix [wI 1, wI 1, wI 2, wU, wU, wU, wU, wU, wU]), [.int 5, .int 3], (HA p q r b0 b1 b2), 6) _
      refine WGo.callS a0_118 (ok2 hw _ _ _ _) (wd hw 6 rfl) (wd hw 7 rfl) (argsL := [.int 3, .int 5]) (S := []) (c2 hw _ _ (3 : Int32) (5 : Int32) _ _) rfl rfl rfl rfl rfl rfl (Nat.le_of_ble_eq_true rfl) (Nat.le_of_ble_eq_true rfl) ?_
      rintro _ _ _ ⟨rfl, rfl, rfl⟩
      show WGo _ (121, (LA p q r b0 b1 b2 ra rb mix [wI 1, wI 1, wI 2, wU, wU, wU, wU, wU, wU]), [.int 3], (HA p q r b0 b1 b2), 6) _
      refine WGo.s (WStep.istore (L' := (LA p q r b0 b1 b2 ra rb mix [wI 1, wI 1, wI 2, wI 3, wU, wU, wU, wU, wU])) a0_121 rfl) ?_
      exact segD1123 Z a0 hw n0 p q r b0 b1 b2 ra rb mix
  · show WGo _ (106, (LA p q r b0 b1 b2 ra rb mix [wI 1, wI 1, wU, wU, wU, wU, wU, wU, wU]), [.int 3], (HA p q r b0 b1 b2), 6) _
    refine WGo.s (WStep.istore (L' := (LA p q r b0 b1 b2 ra rb mix [wI 1, wI 1, wI 3, wU, wU, wU, wU, wU, wU])) a0_106 rfl) ?_
    refine WGo.s (WStep.iconst (3 : Int32) a0_108 rfl) ?_
    refine WGo.s (WStep.iload a0_109 rfl) ?_
    refine WGo.s (WStep.iload a0_111 rfl) ?_
    refine WGo.s (WStep.iconst (2 : Int32) a0_113 rfl) ?_
    refine WGo.s (WStep.iushr a0_114) ?_
    refine WGo.s (WStep.iconst (3 : Int32) a0_115 rfl) ?_
    refine WGo.s (WStep.iand a0_116) ?_
    generalize hg_s2 : (((rb.toUInt32 >>> ((2 : Int32) &&& 31).toUInt32).toInt32) &&& (3 : Int32)) = s2
    obtain hs_s2 := four _ _ hg_s2
    rcases hs_s2 with rfl | rfl | rfl | rfl
    · show WGo _ (117, (LA p q r b0 b1 b2 ra rb mix [wI 1, wI 1, wI 3, wU, wU, wU, wU, wU, wU]), [.int 0, .int 3, .int 3], (HA p q r b0 b1 b2), 6) _
      refine WGo.s (WStep.iadd a0_117) ?_
      show WGo _ (118, (LA p q r b0 b1 b2 ra rb mix [wI 1, wI 1, wI 3, wU, wU, wU, wU, wU, wU]), [.int 3, .int 3], (HA p q r b0 b1 b2), 6) _
      refine WGo.callS a0_118 (ok2 hw _ _ _ _) (wd hw 6 rfl) (wd hw 7 rfl) (argsL := [.int 3, .int 3]) (S := []) (c2 hw _ _ (3 : Int32) (3 : Int32) _ _) rfl rfl rfl rfl rfl rfl (Nat.le_of_ble_eq_true rfl) (Nat.le_of_ble_eq_true rfl) ?_
      rintro _ _ _ ⟨rfl, rfl, rfl⟩
      show WGo _ (121, (LA p q r b0 b1 b2 ra rb mix [wI 1, wI 1, wI 3, wU, wU, wU, wU, wU, wU]), [.int 3], (HA p q r b0 b1 b2), 6) _
      refine WGo.s (WStep.istore (L' := (LA p q r b0 b1 b2 ra rb mix [wI 1, wI 1, wI 3, wI 3, wU, wU, wU, wU, wU])) a0_121 rfl) ?_
      exact segD1133 Z a0 hw n0 p q r b0 b1 b2 ra rb mix
    · show WGo _ (117, (LA p q r b0 b1 b2 ra rb mix [wI 1, wI 1, wI 3, wU, wU, wU, wU, wU, wU]), [.int 1, .int 3, .int 3], (HA p q r b0 b1 b2), 6) _
      refine WGo.s (WStep.iadd a0_117) ?_
      show WGo _ (118, (LA p q r b0 b1 b2 ra rb mix [wI 1, wI 1, wI 3, wU, wU, wU, wU, wU, wU]), [.int 4, .int 3], (HA p q r b0 b1 b2), 6) _
      refine WGo.callS a0_118 (ok2 hw _ _ _ _) (wd hw 6 rfl) (wd hw 7 rfl) (argsL := [.int 3, .int 4]) (S := []) (c2 hw _ _ (3 : Int32) (4 : Int32) _ _) rfl rfl rfl rfl rfl rfl (Nat.le_of_ble_eq_true rfl) (Nat.le_of_ble_eq_true rfl) ?_
      rintro _ _ _ ⟨rfl, rfl, rfl⟩
      show WGo _ (121, (LA p q r b0 b1 b2 ra rb mix [wI 1, wI 1, wI 3, wU, wU, wU, wU, wU, wU]), [.int 3], (HA p q r b0 b1 b2), 6) _
      refine WGo.s (WStep.istore (L' := (LA p q r b0 b1 b2 ra rb mix [wI 1, wI 1, wI 3, wI 3, wU, wU, wU, wU, wU])) a0_121 rfl) ?_
      exact segD1133 Z a0 hw n0 p q r b0 b1 b2 ra rb mix
    · show WGo _ (117, (LA p q r b0 b1 b2 ra rb mix [wI 1, wI 1, wI 3, wU, wU, wU, wU, wU, wU]), [.int 2, .int 3, .int 3], (HA p q r b0 b1 b2), 6) _
      refine WGo.s (WStep.iadd a0_117) ?_
      show WGo _ (118, (LA p q r b0 b1 b2 ra rb mix [wI 1, wI 1, wI 3, wU, wU, wU, wU, wU, wU]), [.int 5, .int 3], (HA p q r b0 b1 b2), 6) _
      refine WGo.callS a0_118 (ok2 hw _ _ _ _) (wd hw 6 rfl) (wd hw 7 rfl) (argsL := [.int 3, .int 5]) (S := []) (c2 hw _ _ (3 : Int32) (5 : Int32) _ _) rfl rfl rfl rfl rfl rfl (Nat.le_of_ble_eq_true rfl) (Nat.le_of_ble_eq_true rfl) ?_
      rintro _ _ _ ⟨rfl, rfl, rfl⟩
      show WGo _ (121, (LA p q r b0 b1 b2 ra rb mix [wI 1, wI 1, wI 3, wU, wU, wU, wU, wU, wU]), [.int 3], (HA p q r b0 b1 b2), 6) _
      refine WGo.s (WStep.istore (L' := (LA p q r b0 b1 b2 ra rb mix [wI 1, wI 1, wI 3, wI 3, wU, wU, wU, wU, wU])) a0_121 rfl) ?_
      exact segD1133 Z a0 hw n0 p q r b0 b1 b2 ra rb mix
    · show WGo _ (117, (LA p q r b0 b1 b2 ra rb mix [wI 1, wI 1, wI 3, wU, wU, wU, wU, wU, wU]), [.int 3, .int 3, .int 3], (HA p q r b0 b1 b2), 6) _
      refine WGo.s (WStep.iadd a0_117) ?_
      show WGo _ (118, (LA p q r b0 b1 b2 ra rb mix [wI 1, wI 1, wI 3, wU, wU, wU, wU, wU, wU]), [.int 6, .int 3], (HA p q r b0 b1 b2), 6) _
      refine WGo.callS a0_118 (ok2 hw _ _ _ _) (wd hw 6 rfl) (wd hw 7 rfl) (argsL := [.int 3, .int 6]) (S := []) (c2 hw _ _ (3 : Int32) (6 : Int32) _ _) rfl rfl rfl rfl rfl rfl (Nat.le_of_ble_eq_true rfl) (Nat.le_of_ble_eq_true rfl) ?_
      rintro _ _ _ ⟨rfl, rfl, rfl⟩
      show WGo _ (121, (LA p q r b0 b1 b2 ra rb mix [wI 1, wI 1, wI 3, wU, wU, wU, wU, wU, wU]), [.int 3], (HA p q r b0 b1 b2), 6) _
      refine WGo.s (WStep.istore (L' := (LA p q r b0 b1 b2 ra rb mix [wI 1, wI 1, wI 3, wI 3, wU, wU, wU, wU, wU])) a0_121 rfl) ?_
      exact segD1133 Z a0 hw n0 p q r b0 b1 b2 ra rb mix
theorem segC12 (Z : State) (a0 : Array Value) (hw : ∀ d ∈ tables_1, d.before a0 Z = true) (n0 : Nat) (p q r b0 b1 b2 : Int64) (ra rb mix : Int32) : WGo (g0 Z (fun k => n0 + k) n0 0 0) (102, (LA p q r b0 b1 b2 ra rb mix [wI 1, wI 2, wU, wU, wU, wU, wU, wU, wU]), [], (HA p q r b0 b1 b2), 6) (fun v σ' u' => v = some (.int 1) ∧ σ'.length ≤ 16 ∧ u' ≤ 128) := by
  refine WGo.s (WStep.iload a0_102 rfl) ?_
  refine WGo.s (WStep.iconst (3 : Int32) a0_104 rfl) ?_
  refine WGo.s (WStep.iand a0_105) ?_
  generalize hg_s1 : (rb &&& (3 : Int32)) = s1
  obtain hs_s1 := four _ _ hg_s1
  rcases hs_s1 with rfl | rfl | rfl | rfl
  · show WGo _ (106, (LA p q r b0 b1 b2 ra rb mix [wI 1, wI 2, wU, wU, wU, wU, wU, wU, wU]), [.int 0], (HA p q r b0 b1 b2), 6) _
    refine WGo.s (WStep.istore (L' := (LA p q r b0 b1 b2 ra rb mix [wI 1, wI 2, wI 0, wU, wU, wU, wU, wU, wU])) a0_106 rfl) ?_
    refine WGo.s (WStep.iconst (3 : Int32) a0_108 rfl) ?_
    refine WGo.s (WStep.iload a0_109 rfl) ?_
    refine WGo.s (WStep.iload a0_111 rfl) ?_
    refine WGo.s (WStep.iconst (2 : Int32) a0_113 rfl) ?_
    refine WGo.s (WStep.iushr a0_114) ?_
    refine WGo.s (WStep.iconst (3 : Int32) a0_115 rfl) ?_
    refine WGo.s (WStep.iand a0_116) ?_
    generalize hg_s2 : (((rb.toUInt32 >>> ((2 : Int32) &&& 31).toUInt32).toInt32) &&& (3 : Int32)) = s2
    obtain hs_s2 := four _ _ hg_s2
    rcases hs_s2 with rfl | rfl | rfl | rfl
    · show WGo _ (117, (LA p q r b0 b1 b2 ra rb mix [wI 1, wI 2, wI 0, wU, wU, wU, wU, wU, wU]), [.int 0, .int 0, .int 3], (HA p q r b0 b1 b2), 6) _
      refine WGo.s (WStep.iadd a0_117) ?_
      show WGo _ (118, (LA p q r b0 b1 b2 ra rb mix [wI 1, wI 2, wI 0, wU, wU, wU, wU, wU, wU]), [.int 0, .int 3], (HA p q r b0 b1 b2), 6) _
      refine WGo.callS a0_118 (ok2 hw _ _ _ _) (wd hw 6 rfl) (wd hw 7 rfl) (argsL := [.int 3, .int 0]) (S := []) (c2 hw _ _ (3 : Int32) (0 : Int32) _ _) rfl rfl rfl rfl rfl rfl (Nat.le_of_ble_eq_true rfl) (Nat.le_of_ble_eq_true rfl) ?_
      rintro _ _ _ ⟨rfl, rfl, rfl⟩
      show WGo _ (121, (LA p q r b0 b1 b2 ra rb mix [wI 1, wI 2, wI 0, wU, wU, wU, wU, wU, wU]), [.int 0], (HA p q r b0 b1 b2), 6) _
      refine WGo.s (WStep.istore (L' := (LA p q r b0 b1 b2 ra rb mix [wI 1, wI 2, wI 0, wI 0, wU, wU, wU, wU, wU])) a0_121 rfl) ?_
      exact segD1200 Z a0 hw n0 p q r b0 b1 b2 ra rb mix
    · show WGo _ (117, (LA p q r b0 b1 b2 ra rb mix [wI 1, wI 2, wI 0, wU, wU, wU, wU, wU, wU]), [.int 1, .int 0, .int 3], (HA p q r b0 b1 b2), 6) _
      refine WGo.s (WStep.iadd a0_117) ?_
      show WGo _ (118, (LA p q r b0 b1 b2 ra rb mix [wI 1, wI 2, wI 0, wU, wU, wU, wU, wU, wU]), [.int 1, .int 3], (HA p q r b0 b1 b2), 6) _
      refine WGo.callS a0_118 (ok2 hw _ _ _ _) (wd hw 6 rfl) (wd hw 7 rfl) (argsL := [.int 3, .int 1]) (S := []) (c2 hw _ _ (3 : Int32) (1 : Int32) _ _) rfl rfl rfl rfl rfl rfl (Nat.le_of_ble_eq_true rfl) (Nat.le_of_ble_eq_true rfl) ?_
      rintro _ _ _ ⟨rfl, rfl, rfl⟩
      show WGo _ (121, (LA p q r b0 b1 b2 ra rb mix [wI 1, wI 2, wI 0, wU, wU, wU, wU, wU, wU]), [.int 1], (HA p q r b0 b1 b2), 6) _
      refine WGo.s (WStep.istore (L' := (LA p q r b0 b1 b2 ra rb mix [wI 1, wI 2, wI 0, wI 1, wU, wU, wU, wU, wU])) a0_121 rfl) ?_
      exact segD1201 Z a0 hw n0 p q r b0 b1 b2 ra rb mix
    · show WGo _ (117, (LA p q r b0 b1 b2 ra rb mix [wI 1, wI 2, wI 0, wU, wU, wU, wU, wU, wU]), [.int 2, .int 0, .int 3], (HA p q r b0 b1 b2), 6) _
      refine WGo.s (WStep.iadd a0_117) ?_
      show WGo _ (118, (LA p q r b0 b1 b2 ra rb mix [wI 1, wI 2, wI 0, wU, wU, wU, wU, wU, wU]), [.int 2, .int 3], (HA p q r b0 b1 b2), 6) _
      refine WGo.callS a0_118 (ok2 hw _ _ _ _) (wd hw 6 rfl) (wd hw 7 rfl) (argsL := [.int 3, .int 2]) (S := []) (c2 hw _ _ (3 : Int32) (2 : Int32) _ _) rfl rfl rfl rfl rfl rfl (Nat.le_of_ble_eq_true rfl) (Nat.le_of_ble_eq_true rfl) ?_
      rintro _ _ _ ⟨rfl, rfl, rfl⟩
      show WGo _ (121, (LA p q r b0 b1 b2 ra rb mix [wI 1, wI 2, wI 0, wU, wU, wU, wU, wU, wU]), [.int 2], (HA p q r b0 b1 b2), 6) _
      refine WGo.s (WStep.istore (L' := (LA p q r b0 b1 b2 ra rb mix [wI 1, wI 2, wI 0, wI 2, wU, wU, wU, wU, wU])) a0_121 rfl) ?_
      exact segD1202 Z a0 hw n0 p q r b0 b1 b2 ra rb mix
    · show WGo _ (117, (LA p q r b0 b1 b2 ra rb mix [wI 1, wI 2, wI 0, wU, wU, wU, wU, wU, wU]), [.int 3, .int 0, .int 3], (HA p q r b0 b1 b2), 6) _
      refine WGo.s (WStep.iadd a0_117) ?_
      show WGo _ (118, (LA p q r b0 b1 b2 ra rb mix [wI 1, wI 2, wI 0, wU, wU, wU, wU, wU, wU]), [.int 3, .int 3], (HA p q r b0 b1 b2), 6) _
      refine WGo.callS a0_118 (ok2 hw _ _ _ _) (wd hw 6 rfl) (wd hw 7 rfl) (argsL := [.int 3, .int 3]) (S := []) (c2 hw _ _ (3 : Int32) (3 : Int32) _ _) rfl rfl rfl rfl rfl rfl (Nat.le_of_ble_eq_true rfl) (Nat.le_of_ble_eq_true rfl) ?_
      rintro _ _ _ ⟨rfl, rfl, rfl⟩
      show WGo _ (121, (LA p q r b0 b1 b2 ra rb mix [wI 1, wI 2, wI 0, wU, wU, wU, wU, wU, wU]), [.int 3], (HA p q r b0 b1 b2), 6) _
      refine WGo.s (WStep.istore (L' := (LA p q r b0 b1 b2 ra rb mix [wI 1, wI 2, wI 0, wI 3, wU, wU, wU, wU, wU])) a0_121 rfl) ?_
      exact segD1203 Z a0 hw n0 p q r b0 b1 b2 ra rb mix
  · show WGo _ (106, (LA p q r b0 b1 b2 ra rb mix [wI 1, wI 2, wU, wU, wU, wU, wU, wU, wU]), [.int 1], (HA p q r b0 b1 b2), 6) _
    refine WGo.s (WStep.istore (L' := (LA p q r b0 b1 b2 ra rb mix [wI 1, wI 2, wI 1, wU, wU, wU, wU, wU, wU])) a0_106 rfl) ?_
    refine WGo.s (WStep.iconst (3 : Int32) a0_108 rfl) ?_
    refine WGo.s (WStep.iload a0_109 rfl) ?_
    refine WGo.s (WStep.iload a0_111 rfl) ?_
    refine WGo.s (WStep.iconst (2 : Int32) a0_113 rfl) ?_
    refine WGo.s (WStep.iushr a0_114) ?_
    refine WGo.s (WStep.iconst (3 : Int32) a0_115 rfl) ?_
    refine WGo.s (WStep.iand a0_116) ?_
    generalize hg_s2 : (((rb.toUInt32 >>> ((2 : Int32) &&& 31).toUInt32).toInt32) &&& (3 : Int32)) = s2
    obtain hs_s2 := four _ _ hg_s2
    rcases hs_s2 with rfl | rfl | rfl | rfl
    · show WGo _ (117, (LA p q r b0 b1 b2 ra rb mix [wI 1, wI 2, wI 1, wU, wU, wU, wU, wU, wU]), [.int 0, .int 1, .int 3], (HA p q r b0 b1 b2), 6) _
      refine WGo.s (WStep.iadd a0_117) ?_
      show WGo _ (118, (LA p q r b0 b1 b2 ra rb mix [wI 1, wI 2, wI 1, wU, wU, wU, wU, wU, wU]), [.int 1, .int 3], (HA p q r b0 b1 b2), 6) _
      refine WGo.callS a0_118 (ok2 hw _ _ _ _) (wd hw 6 rfl) (wd hw 7 rfl) (argsL := [.int 3, .int 1]) (S := []) (c2 hw _ _ (3 : Int32) (1 : Int32) _ _) rfl rfl rfl rfl rfl rfl (Nat.le_of_ble_eq_true rfl) (Nat.le_of_ble_eq_true rfl) ?_
      rintro _ _ _ ⟨rfl, rfl, rfl⟩
      show WGo _ (121, (LA p q r b0 b1 b2 ra rb mix [wI 1, wI 2, wI 1, wU, wU, wU, wU, wU, wU]), [.int 1], (HA p q r b0 b1 b2), 6) _
      refine WGo.s (WStep.istore (L' := (LA p q r b0 b1 b2 ra rb mix [wI 1, wI 2, wI 1, wI 1, wU, wU, wU, wU, wU])) a0_121 rfl) ?_
      exact segD1211 Z a0 hw n0 p q r b0 b1 b2 ra rb mix
    · show WGo _ (117, (LA p q r b0 b1 b2 ra rb mix [wI 1, wI 2, wI 1, wU, wU, wU, wU, wU, wU]), [.int 1, .int 1, .int 3], (HA p q r b0 b1 b2), 6) _
      refine WGo.s (WStep.iadd a0_117) ?_
      show WGo _ (118, (LA p q r b0 b1 b2 ra rb mix [wI 1, wI 2, wI 1, wU, wU, wU, wU, wU, wU]), [.int 2, .int 3], (HA p q r b0 b1 b2), 6) _
      refine WGo.callS a0_118 (ok2 hw _ _ _ _) (wd hw 6 rfl) (wd hw 7 rfl) (argsL := [.int 3, .int 2]) (S := []) (c2 hw _ _ (3 : Int32) (2 : Int32) _ _) rfl rfl rfl rfl rfl rfl (Nat.le_of_ble_eq_true rfl) (Nat.le_of_ble_eq_true rfl) ?_
      rintro _ _ _ ⟨rfl, rfl, rfl⟩
      show WGo _ (121, (LA p q r b0 b1 b2 ra rb mix [wI 1, wI 2, wI 1, wU, wU, wU, wU, wU, wU]), [.int 2], (HA p q r b0 b1 b2), 6) _
      refine WGo.s (WStep.istore (L' := (LA p q r b0 b1 b2 ra rb mix [wI 1, wI 2, wI 1, wI 2, wU, wU, wU, wU, wU])) a0_121 rfl) ?_
      exact segD1212 Z a0 hw n0 p q r b0 b1 b2 ra rb mix
    · show WGo _ (117, (LA p q r b0 b1 b2 ra rb mix [wI 1, wI 2, wI 1, wU, wU, wU, wU, wU, wU]), [.int 2, .int 1, .int 3], (HA p q r b0 b1 b2), 6) _
      refine WGo.s (WStep.iadd a0_117) ?_
      show WGo _ (118, (LA p q r b0 b1 b2 ra rb mix [wI 1, wI 2, wI 1, wU, wU, wU, wU, wU, wU]), [.int 3, .int 3], (HA p q r b0 b1 b2), 6) _
      refine WGo.callS a0_118 (ok2 hw _ _ _ _) (wd hw 6 rfl) (wd hw 7 rfl) (argsL := [.int 3, .int 3]) (S := []) (c2 hw _ _ (3 : Int32) (3 : Int32) _ _) rfl rfl rfl rfl rfl rfl (Nat.le_of_ble_eq_true rfl) (Nat.le_of_ble_eq_true rfl) ?_
      rintro _ _ _ ⟨rfl, rfl, rfl⟩
      show WGo _ (121, (LA p q r b0 b1 b2 ra rb mix [wI 1, wI 2, wI 1, wU, wU, wU, wU, wU, wU]), [.int 3], (HA p q r b0 b1 b2), 6) _
      refine WGo.s (WStep.istore (L' := (LA p q r b0 b1 b2 ra rb mix [wI 1, wI 2, wI 1, wI 3, wU, wU, wU, wU, wU])) a0_121 rfl) ?_
      exact segD1213 Z a0 hw n0 p q r b0 b1 b2 ra rb mix
    · show WGo _ (117, (LA p q r b0 b1 b2 ra rb mix [wI 1, wI 2, wI 1, wU, wU, wU, wU, wU, wU]), [.int 3, .int 1, .int 3], (HA p q r b0 b1 b2), 6) _
      refine WGo.s (WStep.iadd a0_117) ?_
      show WGo _ (118, (LA p q r b0 b1 b2 ra rb mix [wI 1, wI 2, wI 1, wU, wU, wU, wU, wU, wU]), [.int 4, .int 3], (HA p q r b0 b1 b2), 6) _
      refine WGo.callS a0_118 (ok2 hw _ _ _ _) (wd hw 6 rfl) (wd hw 7 rfl) (argsL := [.int 3, .int 4]) (S := []) (c2 hw _ _ (3 : Int32) (4 : Int32) _ _) rfl rfl rfl rfl rfl rfl (Nat.le_of_ble_eq_true rfl) (Nat.le_of_ble_eq_true rfl) ?_
      rintro _ _ _ ⟨rfl, rfl, rfl⟩
      show WGo _ (121, (LA p q r b0 b1 b2 ra rb mix [wI 1, wI 2, wI 1, wU, wU, wU, wU, wU, wU]), [.int 3], (HA p q r b0 b1 b2), 6) _
      refine WGo.s (WStep.istore (L' := (LA p q r b0 b1 b2 ra rb mix [wI 1, wI 2, wI 1, wI 3, wU, wU, wU, wU, wU])) a0_121 rfl) ?_
      exact segD1213 Z a0 hw n0 p q r b0 b1 b2 ra rb mix
  · show WGo _ (106, (LA p q r b0 b1 b2 ra rb mix [wI 1, wI 2, wU, wU, wU, wU, wU, wU, wU]), [.int 2], (HA p q r b0 b1 b2), 6) _
    refine WGo.s (WStep.istore (L' := (LA p q r b0 b1 b2 ra rb mix [wI 1, wI 2, wI 2, wU, wU, wU, wU, wU, wU])) a0_106 rfl) ?_
    refine WGo.s (WStep.iconst (3 : Int32) a0_108 rfl) ?_
    refine WGo.s (WStep.iload a0_109 rfl) ?_
    refine WGo.s (WStep.iload a0_111 rfl) ?_
    refine WGo.s (WStep.iconst (2 : Int32) a0_113 rfl) ?_
    refine WGo.s (WStep.iushr a0_114) ?_
    refine WGo.s (WStep.iconst (3 : Int32) a0_115 rfl) ?_
    refine WGo.s (WStep.iand a0_116) ?_
    generalize hg_s2 : (((rb.toUInt32 >>> ((2 : Int32) &&& 31).toUInt32).toInt32) &&& (3 : Int32)) = s2
    obtain hs_s2 := four _ _ hg_s2
    rcases hs_s2 with rfl | rfl | rfl | rfl
    · show WGo _ (117, (LA p q r b0 b1 b2 ra rb mix [wI 1, wI 2, wI 2, wU, wU, wU, wU, wU, wU]), [.int 0, .int 2, .int 3], (HA p q r b0 b1 b2), 6) _
      refine WGo.s (WStep.iadd a0_117) ?_
      show WGo _ (118, (LA p q r b0 b1 b2 ra rb mix [wI 1, wI 2, wI 2, wU, wU, wU, wU, wU, wU]), [.int 2, .int 3], (HA p q r b0 b1 b2), 6) _
      refine WGo.callS a0_118 (ok2 hw _ _ _ _) (wd hw 6 rfl) (wd hw 7 rfl) (argsL := [.int 3, .int 2]) (S := []) (c2 hw _ _ (3 : Int32) (2 : Int32) _ _) rfl rfl rfl rfl rfl rfl (Nat.le_of_ble_eq_true rfl) (Nat.le_of_ble_eq_true rfl) ?_
      rintro _ _ _ ⟨rfl, rfl, rfl⟩
      show WGo _ (121, (LA p q r b0 b1 b2 ra rb mix [wI 1, wI 2, wI 2, wU, wU, wU, wU, wU, wU]), [.int 2], (HA p q r b0 b1 b2), 6) _
      refine WGo.s (WStep.istore (L' := (LA p q r b0 b1 b2 ra rb mix [wI 1, wI 2, wI 2, wI 2, wU, wU, wU, wU, wU])) a0_121 rfl) ?_
      exact segD1222 Z a0 hw n0 p q r b0 b1 b2 ra rb mix
    · show WGo _ (117, (LA p q r b0 b1 b2 ra rb mix [wI 1, wI 2, wI 2, wU, wU, wU, wU, wU, wU]), [.int 1, .int 2, .int 3], (HA p q r b0 b1 b2), 6) _
      refine WGo.s (WStep.iadd a0_117) ?_
      show WGo _ (118, (LA p q r b0 b1 b2 ra rb mix [wI 1, wI 2, wI 2, wU, wU, wU, wU, wU, wU]), [.int 3, .int 3], (HA p q r b0 b1 b2), 6) _
      refine WGo.callS a0_118 (ok2 hw _ _ _ _) (wd hw 6 rfl) (wd hw 7 rfl) (argsL := [.int 3, .int 3]) (S := []) (c2 hw _ _ (3 : Int32) (3 : Int32) _ _) rfl rfl rfl rfl rfl rfl (Nat.le_of_ble_eq_true rfl) (Nat.le_of_ble_eq_true rfl) ?_
      rintro _ _ _ ⟨rfl, rfl, rfl⟩
      show WGo _ (121, (LA p q r b0 b1 b2 ra rb mix [wI 1, wI 2, wI 2, wU, wU, wU, wU, wU, wU]), [.int 3], (HA p q r b0 b1 b2), 6) _
      refine WGo.s (WStep.istore (L' := (LA p q r b0 b1 b2 ra rb mix [wI 1, wI 2, wI 2, wI 3, wU, wU, wU, wU, wU])) a0_121 rfl) ?_
      exact segD1223 Z a0 hw n0 p q r b0 b1 b2 ra rb mix
    · show WGo _ (117, (LA p q r b0 b1 b2 ra rb mix [wI 1, wI 2, wI 2, wU, wU, wU, wU, wU, wU]), [.int 2, .int 2, .int 3], (HA p q r b0 b1 b2), 6) _
      refine WGo.s (WStep.iadd a0_117) ?_
      show WGo _ (118, (LA p q r b0 b1 b2 ra rb mix [wI 1, wI 2, wI 2, wU, wU, wU, wU, wU, wU]), [.int 4, .int 3], (HA p q r b0 b1 b2), 6) _
      refine WGo.callS a0_118 (ok2 hw _ _ _ _) (wd hw 6 rfl) (wd hw 7 rfl) (argsL := [.int 3, .int 4]) (S := []) (c2 hw _ _ (3 : Int32) (4 : Int32) _ _) rfl rfl rfl rfl rfl rfl (Nat.le_of_ble_eq_true rfl) (Nat.le_of_ble_eq_true rfl) ?_
      rintro _ _ _ ⟨rfl, rfl, rfl⟩
      show WGo _ (121, (LA p q r b0 b1 b2 ra rb mix [wI 1, wI 2, wI 2, wU, wU, wU, wU, wU, wU]), [.int 3], (HA p q r b0 b1 b2), 6) _
      refine WGo.s (WStep.istore (L' := (LA p q r b0 b1 b2 ra rb mix [wI 1, wI 2, wI 2, wI 3, wU, wU, wU, wU, wU])) a0_121 rfl) ?_
      exact segD1223 Z a0 hw n0 p q r b0 b1 b2 ra rb mix
    · show WGo _ (117, (LA p q r b0 b1 b2 ra rb mix [wI 1, wI 2, wI 2, wU, wU, wU, wU, wU, wU]), [.int 3, .int 2, .int 3], (HA p q r b0 b1 b2), 6) _
      refine WGo.s (WStep.iadd a0_117) ?_
      show WGo _ (118, (LA p q r b0 b1 b2 ra rb mix [wI 1, wI 2, wI 2, wU, wU, wU, wU, wU, wU]), [.int 5, .int 3], (HA p q r b0 b1 b2), 6) _
      refine WGo.callS a0_118 (ok2 hw _ _ _ _) (wd hw 6 rfl) (wd hw 7 rfl) (argsL := [.int 3, .int 5]) (S := []) (c2 hw _ _ (3 : Int32) (5 : Int32) _ _) rfl rfl rfl rfl rfl rfl (Nat.le_of_ble_eq_true rfl) (Nat.le_of_ble_eq_true rfl) ?_
      rintro _ _ _ ⟨rfl, rfl, rfl⟩
      show WGo _ (121, (LA p q r b0 b1 b2 ra rb mix [wI 1, wI 2, wI 2, wU, wU, wU, wU, wU, wU]), [.int 3], (HA p q r b0 b1 b2), 6) _
      refine WGo.s (WStep.istore (L' := (LA p q r b0 b1 b2 ra rb mix [wI 1, wI 2, wI 2, wI 3, wU, wU, wU, wU, wU])) a0_121 rfl) ?_
      exact segD1223 Z a0 hw n0 p q r b0 b1 b2 ra rb mix
  · show WGo _ (106, (LA p q r b0 b1 b2 ra rb mix [wI 1, wI 2, wU, wU, wU, wU, wU, wU, wU]), [.int 3], (HA p q r b0 b1 b2), 6) _
    refine WGo.s (WStep.istore (L' := (LA p q r b0 b1 b2 ra rb mix [wI 1, wI 2, wI 3, wU, wU, wU, wU, wU, wU])) a0_106 rfl) ?_
    refine WGo.s (WStep.iconst (3 : Int32) a0_108 rfl) ?_
    refine WGo.s (WStep.iload a0_109 rfl) ?_
    refine WGo.s (WStep.iload a0_111 rfl) ?_
    refine WGo.s (WStep.iconst (2 : Int32) a0_113 rfl) ?_
    refine WGo.s (WStep.iushr a0_114) ?_
    refine WGo.s (WStep.iconst (3 : Int32) a0_115 rfl) ?_
    refine WGo.s (WStep.iand a0_116) ?_
    generalize hg_s2 : (((rb.toUInt32 >>> ((2 : Int32) &&& 31).toUInt32).toInt32) &&& (3 : Int32)) = s2
    obtain hs_s2 := four _ _ hg_s2
    rcases hs_s2 with rfl | rfl | rfl | rfl
    · show WGo _ (117, (LA p q r b0 b1 b2 ra rb mix [wI 1, wI 2, wI 3, wU, wU, wU, wU, wU, wU]), [.int 0, .int 3, .int 3], (HA p q r b0 b1 b2), 6) _
      refine WGo.s (WStep.iadd a0_117) ?_
      show WGo _ (118, (LA p q r b0 b1 b2 ra rb mix [wI 1, wI 2, wI 3, wU, wU, wU, wU, wU, wU]), [.int 3, .int 3], (HA p q r b0 b1 b2), 6) _
      refine WGo.callS a0_118 (ok2 hw _ _ _ _) (wd hw 6 rfl) (wd hw 7 rfl) (argsL := [.int 3, .int 3]) (S := []) (c2 hw _ _ (3 : Int32) (3 : Int32) _ _) rfl rfl rfl rfl rfl rfl (Nat.le_of_ble_eq_true rfl) (Nat.le_of_ble_eq_true rfl) ?_
      rintro _ _ _ ⟨rfl, rfl, rfl⟩
      show WGo _ (121, (LA p q r b0 b1 b2 ra rb mix [wI 1, wI 2, wI 3, wU, wU, wU, wU, wU, wU]), [.int 3], (HA p q r b0 b1 b2), 6) _
      refine WGo.s (WStep.istore (L' := (LA p q r b0 b1 b2 ra rb mix [wI 1, wI 2, wI 3, wI 3, wU, wU, wU, wU, wU])) a0_121 rfl) ?_
      exact segD1233 Z a0 hw n0 p q r b0 b1 b2 ra rb mix
    · show WGo _ (117, (LA p q r b0 b1 b2 ra rb mix [wI 1, wI 2, wI 3, wU, wU, wU, wU, wU, wU]), [.int 1, .int 3, .int 3], (HA p q r b0 b1 b2), 6) _
      refine WGo.s (WStep.iadd a0_117) ?_
      show WGo _ (118, (LA p q r b0 b1 b2 ra rb mix [wI 1, wI 2, wI 3, wU, wU, wU, wU, wU, wU]), [.int 4, .int 3], (HA p q r b0 b1 b2), 6) _
      refine WGo.callS a0_118 (ok2 hw _ _ _ _) (wd hw 6 rfl) (wd hw 7 rfl) (argsL := [.int 3, .int 4]) (S := []) (c2 hw _ _ (3 : Int32) (4 : Int32) _ _) rfl rfl rfl rfl rfl rfl (Nat.le_of_ble_eq_true rfl) (Nat.le_of_ble_eq_true rfl) ?_
      rintro _ _ _ ⟨rfl, rfl, rfl⟩
      show WGo _ (121, (LA p q r b0 b1 b2 ra rb mix [wI 1, wI 2, wI 3, wU, wU, wU, wU, wU, wU]), [.int 3], (HA p q r b0 b1 b2), 6) _
      refine WGo.s (WStep.istore (L' := (LA p q r b0 b1 b2 ra rb mix [wI 1, wI 2, wI 3, wI 3, wU, wU, wU, wU, wU])) a0_121 rfl) ?_
      exact segD1233 Z a0 hw n0 p q r b0 b1 b2 ra rb mix
    · show WGo _ (117, (LA p q r b0 b1 b2 ra rb mix [wI 1, wI 2, wI 3, wU, wU, wU, wU, wU, wU]), [.int 2, .int 3, .int 3], (HA p q r b0 b1 b2), 6) _
      refine WGo.s (WStep.iadd a0_117) ?_
      show WGo _ (118, (LA p q r b0 b1 b2 ra rb mix [wI 1, wI 2, wI 3, wU, wU, wU, wU, wU, wU]), [.int 5, .int 3], (HA p q r b0 b1 b2), 6) _
      refine WGo.callS a0_118 (ok2 hw _ _ _ _) (wd hw 6 rfl) (wd hw 7 rfl) (argsL := [.int 3, .int 5]) (S := []) (c2 hw _ _ (3 : Int32) (5 : Int32) _ _) rfl rfl rfl rfl rfl rfl (Nat.le_of_ble_eq_true rfl) (Nat.le_of_ble_eq_true rfl) ?_
      rintro _ _ _ ⟨rfl, rfl, rfl⟩
      show WGo _ (121, (LA p q r b0 b1 b2 ra rb mix [wI 1, wI 2, wI 3, wU, wU, wU, wU, wU, wU]), [.int 3], (HA p q r b0 b1 b2), 6) _
      refine WGo.s (WStep.istore (L' := (LA p q r b0 b1 b2 ra rb mix [wI 1, wI 2, wI 3, wI 3, wU, wU, wU, wU, wU])) a0_121 rfl) ?_
      exact segD1233 Z a0 hw n0 p q r b0 b1 b2 ra rb mix
    · show WGo _ (117, (LA p q r b0 b1 b2 ra rb mix [wI 1, wI 2, wI 3, wU, wU, wU, wU, wU, wU]), [.int 3, .int 3, .int 3], (HA p q r b0 b1 b2), 6) _
      refine WGo.s (WStep.iadd a0_117) ?_
      show WGo _ (118, (LA p q r b0 b1 b2 ra rb mix [wI 1, wI 2, wI 3, wU, wU, wU, wU, wU, wU]), [.int 6, .int 3], (HA p q r b0 b1 b2), 6) _
      refine WGo.callS a0_118 (ok2 hw _ _ _ _) (wd hw 6 rfl) (wd hw 7 rfl) (argsL := [.int 3, .int 6]) (S := []) (c2 hw _ _ (3 : Int32) (6 : Int32) _ _) rfl rfl rfl rfl rfl rfl (Nat.le_of_ble_eq_true rfl) (Nat.le_of_ble_eq_true rfl) ?_
      rintro _ _ _ ⟨rfl, rfl, rfl⟩
      show WGo _ (121, (LA p q r b0 b1 b2 ra rb mix [wI 1, wI 2, wI 3, wU, wU, wU, wU, wU, wU]), [.int 3], (HA p q r b0 b1 b2), 6) _
      refine WGo.s (WStep.istore (L' := (LA p q r b0 b1 b2 ra rb mix [wI 1, wI 2, wI 3, wI 3, wU, wU, wU, wU, wU])) a0_121 rfl) ?_
      exact segD1233 Z a0 hw n0 p q r b0 b1 b2 ra rb mix
theorem segC13 (Z : State) (a0 : Array Value) (hw : ∀ d ∈ tables_1, d.before a0 Z = true) (n0 : Nat) (p q r b0 b1 b2 : Int64) (ra rb mix : Int32) : WGo (g0 Z (fun k => n0 + k) n0 0 0) (102, (LA p q r b0 b1 b2 ra rb mix [wI 1, wI 3, wU, wU, wU, wU, wU, wU, wU]), [], (HA p q r b0 b1 b2), 6) (fun v σ' u' => v = some (.int 1) ∧ σ'.length ≤ 16 ∧ u' ≤ 128) := by
  refine WGo.s (WStep.iload a0_102 rfl) ?_
  refine WGo.s (WStep.iconst (3 : Int32) a0_104 rfl) ?_
  refine WGo.s (WStep.iand a0_105) ?_
  generalize hg_s1 : (rb &&& (3 : Int32)) = s1
  obtain hs_s1 := four _ _ hg_s1
  rcases hs_s1 with rfl | rfl | rfl | rfl
  · show WGo _ (106, (LA p q r b0 b1 b2 ra rb mix [wI 1, wI 3, wU, wU, wU, wU, wU, wU, wU]), [.int 0], (HA p q r b0 b1 b2), 6) _
    refine WGo.s (WStep.istore (L' := (LA p q r b0 b1 b2 ra rb mix [wI 1, wI 3, wI 0, wU, wU, wU, wU, wU, wU])) a0_106 rfl) ?_
    refine WGo.s (WStep.iconst (3 : Int32) a0_108 rfl) ?_
    refine WGo.s (WStep.iload a0_109 rfl) ?_
    refine WGo.s (WStep.iload a0_111 rfl) ?_
    refine WGo.s (WStep.iconst (2 : Int32) a0_113 rfl) ?_
    refine WGo.s (WStep.iushr a0_114) ?_
    refine WGo.s (WStep.iconst (3 : Int32) a0_115 rfl) ?_
    refine WGo.s (WStep.iand a0_116) ?_
    generalize hg_s2 : (((rb.toUInt32 >>> ((2 : Int32) &&& 31).toUInt32).toInt32) &&& (3 : Int32)) = s2
    obtain hs_s2 := four _ _ hg_s2
    rcases hs_s2 with rfl | rfl | rfl | rfl
    · show WGo _ (117, (LA p q r b0 b1 b2 ra rb mix [wI 1, wI 3, wI 0, wU, wU, wU, wU, wU, wU]), [.int 0, .int 0, .int 3], (HA p q r b0 b1 b2), 6) _
      refine WGo.s (WStep.iadd a0_117) ?_
      show WGo _ (118, (LA p q r b0 b1 b2 ra rb mix [wI 1, wI 3, wI 0, wU, wU, wU, wU, wU, wU]), [.int 0, .int 3], (HA p q r b0 b1 b2), 6) _
      refine WGo.callS a0_118 (ok2 hw _ _ _ _) (wd hw 6 rfl) (wd hw 7 rfl) (argsL := [.int 3, .int 0]) (S := []) (c2 hw _ _ (3 : Int32) (0 : Int32) _ _) rfl rfl rfl rfl rfl rfl (Nat.le_of_ble_eq_true rfl) (Nat.le_of_ble_eq_true rfl) ?_
      rintro _ _ _ ⟨rfl, rfl, rfl⟩
      show WGo _ (121, (LA p q r b0 b1 b2 ra rb mix [wI 1, wI 3, wI 0, wU, wU, wU, wU, wU, wU]), [.int 0], (HA p q r b0 b1 b2), 6) _
      refine WGo.s (WStep.istore (L' := (LA p q r b0 b1 b2 ra rb mix [wI 1, wI 3, wI 0, wI 0, wU, wU, wU, wU, wU])) a0_121 rfl) ?_
      exact segD1300 Z a0 hw n0 p q r b0 b1 b2 ra rb mix
    · show WGo _ (117, (LA p q r b0 b1 b2 ra rb mix [wI 1, wI 3, wI 0, wU, wU, wU, wU, wU, wU]), [.int 1, .int 0, .int 3], (HA p q r b0 b1 b2), 6) _
      refine WGo.s (WStep.iadd a0_117) ?_
      show WGo _ (118, (LA p q r b0 b1 b2 ra rb mix [wI 1, wI 3, wI 0, wU, wU, wU, wU, wU, wU]), [.int 1, .int 3], (HA p q r b0 b1 b2), 6) _
      refine WGo.callS a0_118 (ok2 hw _ _ _ _) (wd hw 6 rfl) (wd hw 7 rfl) (argsL := [.int 3, .int 1]) (S := []) (c2 hw _ _ (3 : Int32) (1 : Int32) _ _) rfl rfl rfl rfl rfl rfl (Nat.le_of_ble_eq_true rfl) (Nat.le_of_ble_eq_true rfl) ?_
      rintro _ _ _ ⟨rfl, rfl, rfl⟩
      show WGo _ (121, (LA p q r b0 b1 b2 ra rb mix [wI 1, wI 3, wI 0, wU, wU, wU, wU, wU, wU]), [.int 1], (HA p q r b0 b1 b2), 6) _
      refine WGo.s (WStep.istore (L' := (LA p q r b0 b1 b2 ra rb mix [wI 1, wI 3, wI 0, wI 1, wU, wU, wU, wU, wU])) a0_121 rfl) ?_
      exact segD1301 Z a0 hw n0 p q r b0 b1 b2 ra rb mix
    · show WGo _ (117, (LA p q r b0 b1 b2 ra rb mix [wI 1, wI 3, wI 0, wU, wU, wU, wU, wU, wU]), [.int 2, .int 0, .int 3], (HA p q r b0 b1 b2), 6) _
      refine WGo.s (WStep.iadd a0_117) ?_
      show WGo _ (118, (LA p q r b0 b1 b2 ra rb mix [wI 1, wI 3, wI 0, wU, wU, wU, wU, wU, wU]), [.int 2, .int 3], (HA p q r b0 b1 b2), 6) _
      refine WGo.callS a0_118 (ok2 hw _ _ _ _) (wd hw 6 rfl) (wd hw 7 rfl) (argsL := [.int 3, .int 2]) (S := []) (c2 hw _ _ (3 : Int32) (2 : Int32) _ _) rfl rfl rfl rfl rfl rfl (Nat.le_of_ble_eq_true rfl) (Nat.le_of_ble_eq_true rfl) ?_
      rintro _ _ _ ⟨rfl, rfl, rfl⟩
      show WGo _ (121, (LA p q r b0 b1 b2 ra rb mix [wI 1, wI 3, wI 0, wU, wU, wU, wU, wU, wU]), [.int 2], (HA p q r b0 b1 b2), 6) _
      refine WGo.s (WStep.istore (L' := (LA p q r b0 b1 b2 ra rb mix [wI 1, wI 3, wI 0, wI 2, wU, wU, wU, wU, wU])) a0_121 rfl) ?_
      exact segD1302 Z a0 hw n0 p q r b0 b1 b2 ra rb mix
    · show WGo _ (117, (LA p q r b0 b1 b2 ra rb mix [wI 1, wI 3, wI 0, wU, wU, wU, wU, wU, wU]), [.int 3, .int 0, .int 3], (HA p q r b0 b1 b2), 6) _
      refine WGo.s (WStep.iadd a0_117) ?_
      show WGo _ (118, (LA p q r b0 b1 b2 ra rb mix [wI 1, wI 3, wI 0, wU, wU, wU, wU, wU, wU]), [.int 3, .int 3], (HA p q r b0 b1 b2), 6) _
      refine WGo.callS a0_118 (ok2 hw _ _ _ _) (wd hw 6 rfl) (wd hw 7 rfl) (argsL := [.int 3, .int 3]) (S := []) (c2 hw _ _ (3 : Int32) (3 : Int32) _ _) rfl rfl rfl rfl rfl rfl (Nat.le_of_ble_eq_true rfl) (Nat.le_of_ble_eq_true rfl) ?_
      rintro _ _ _ ⟨rfl, rfl, rfl⟩
      show WGo _ (121, (LA p q r b0 b1 b2 ra rb mix [wI 1, wI 3, wI 0, wU, wU, wU, wU, wU, wU]), [.int 3], (HA p q r b0 b1 b2), 6) _
      refine WGo.s (WStep.istore (L' := (LA p q r b0 b1 b2 ra rb mix [wI 1, wI 3, wI 0, wI 3, wU, wU, wU, wU, wU])) a0_121 rfl) ?_
      exact segD1303 Z a0 hw n0 p q r b0 b1 b2 ra rb mix
  · show WGo _ (106, (LA p q r b0 b1 b2 ra rb mix [wI 1, wI 3, wU, wU, wU, wU, wU, wU, wU]), [.int 1], (HA p q r b0 b1 b2), 6) _
    refine WGo.s (WStep.istore (L' := (LA p q r b0 b1 b2 ra rb mix [wI 1, wI 3, wI 1, wU, wU, wU, wU, wU, wU])) a0_106 rfl) ?_
    refine WGo.s (WStep.iconst (3 : Int32) a0_108 rfl) ?_
    refine WGo.s (WStep.iload a0_109 rfl) ?_
    refine WGo.s (WStep.iload a0_111 rfl) ?_
    refine WGo.s (WStep.iconst (2 : Int32) a0_113 rfl) ?_
    refine WGo.s (WStep.iushr a0_114) ?_
    refine WGo.s (WStep.iconst (3 : Int32) a0_115 rfl) ?_
    refine WGo.s (WStep.iand a0_116) ?_
    generalize hg_s2 : (((rb.toUInt32 >>> ((2 : Int32) &&& 31).toUInt32).toInt32) &&& (3 : Int32)) = s2
    obtain hs_s2 := four _ _ hg_s2
    rcases hs_s2 with rfl | rfl | rfl | rfl
    · show WGo _ (117, (LA p q r b0 b1 b2 ra rb mix [wI 1, wI 3, wI 1, wU, wU, wU, wU, wU, wU]), [.int 0, .int 1, .int 3], (HA p q r b0 b1 b2), 6) _
      refine WGo.s (WStep.iadd a0_117) ?_
      show WGo _ (118, (LA p q r b0 b1 b2 ra rb mix [wI 1, wI 3, wI 1, wU, wU, wU, wU, wU, wU]), [.int 1, .int 3], (HA p q r b0 b1 b2), 6) _
      refine WGo.callS a0_118 (ok2 hw _ _ _ _) (wd hw 6 rfl) (wd hw 7 rfl) (argsL := [.int 3, .int 1]) (S := []) (c2 hw _ _ (3 : Int32) (1 : Int32) _ _) rfl rfl rfl rfl rfl rfl (Nat.le_of_ble_eq_true rfl) (Nat.le_of_ble_eq_true rfl) ?_
      rintro _ _ _ ⟨rfl, rfl, rfl⟩
      show WGo _ (121, (LA p q r b0 b1 b2 ra rb mix [wI 1, wI 3, wI 1, wU, wU, wU, wU, wU, wU]), [.int 1], (HA p q r b0 b1 b2), 6) _
      refine WGo.s (WStep.istore (L' := (LA p q r b0 b1 b2 ra rb mix [wI 1, wI 3, wI 1, wI 1, wU, wU, wU, wU, wU])) a0_121 rfl) ?_
      exact segD1311 Z a0 hw n0 p q r b0 b1 b2 ra rb mix
    · show WGo _ (117, (LA p q r b0 b1 b2 ra rb mix [wI 1, wI 3, wI 1, wU, wU, wU, wU, wU, wU]), [.int 1, .int 1, .int 3], (HA p q r b0 b1 b2), 6) _
      refine WGo.s (WStep.iadd a0_117) ?_
      show WGo _ (118, (LA p q r b0 b1 b2 ra rb mix [wI 1, wI 3, wI 1, wU, wU, wU, wU, wU, wU]), [.int 2, .int 3], (HA p q r b0 b1 b2), 6) _
      refine WGo.callS a0_118 (ok2 hw _ _ _ _) (wd hw 6 rfl) (wd hw 7 rfl) (argsL := [.int 3, .int 2]) (S := []) (c2 hw _ _ (3 : Int32) (2 : Int32) _ _) rfl rfl rfl rfl rfl rfl (Nat.le_of_ble_eq_true rfl) (Nat.le_of_ble_eq_true rfl) ?_
      rintro _ _ _ ⟨rfl, rfl, rfl⟩
      show WGo _ (121, (LA p q r b0 b1 b2 ra rb mix [wI 1, wI 3, wI 1, wU, wU, wU, wU, wU, wU]), [.int 2], (HA p q r b0 b1 b2), 6) _
      refine WGo.s (WStep.istore (L' := (LA p q r b0 b1 b2 ra rb mix [wI 1, wI 3, wI 1, wI 2, wU, wU, wU, wU, wU])) a0_121 rfl) ?_
      exact segD1312 Z a0 hw n0 p q r b0 b1 b2 ra rb mix
    · show WGo _ (117, (LA p q r b0 b1 b2 ra rb mix [wI 1, wI 3, wI 1, wU, wU, wU, wU, wU, wU]), [.int 2, .int 1, .int 3], (HA p q r b0 b1 b2), 6) _
      refine WGo.s (WStep.iadd a0_117) ?_
      show WGo _ (118, (LA p q r b0 b1 b2 ra rb mix [wI 1, wI 3, wI 1, wU, wU, wU, wU, wU, wU]), [.int 3, .int 3], (HA p q r b0 b1 b2), 6) _
      refine WGo.callS a0_118 (ok2 hw _ _ _ _) (wd hw 6 rfl) (wd hw 7 rfl) (argsL := [.int 3, .int 3]) (S := []) (c2 hw _ _ (3 : Int32) (3 : Int32) _ _) rfl rfl rfl rfl rfl rfl (Nat.le_of_ble_eq_true rfl) (Nat.le_of_ble_eq_true rfl) ?_
      rintro _ _ _ ⟨rfl, rfl, rfl⟩
      show WGo _ (121, (LA p q r b0 b1 b2 ra rb mix [wI 1, wI 3, wI 1, wU, wU, wU, wU, wU, wU]), [.int 3], (HA p q r b0 b1 b2), 6) _
      refine WGo.s (WStep.istore (L' := (LA p q r b0 b1 b2 ra rb mix [wI 1, wI 3, wI 1, wI 3, wU, wU, wU, wU, wU])) a0_121 rfl) ?_
      exact segD1313 Z a0 hw n0 p q r b0 b1 b2 ra rb mix
    · show WGo _ (117, (LA p q r b0 b1 b2 ra rb mix [wI 1, wI 3, wI 1, wU, wU, wU, wU, wU, wU]), [.int 3, .int 1, .int 3], (HA p q r b0 b1 b2), 6) _
      refine WGo.s (WStep.iadd a0_117) ?_
      show WGo _ (118, (LA p q r b0 b1 b2 ra rb mix [wI 1, wI 3, wI 1, wU, wU, wU, wU, wU, wU]), [.int 4, .int 3], (HA p q r b0 b1 b2), 6) _
      refine WGo.callS a0_118 (ok2 hw _ _ _ _) (wd hw 6 rfl) (wd hw 7 rfl) (argsL := [.int 3, .int 4]) (S := []) (c2 hw _ _ (3 : Int32) (4 : Int32) _ _) rfl rfl rfl rfl rfl rfl (Nat.le_of_ble_eq_true rfl) (Nat.le_of_ble_eq_true rfl) ?_
      rintro _ _ _ ⟨rfl, rfl, rfl⟩
      show WGo _ (121, (LA p q r b0 b1 b2 ra rb mix [wI 1, wI 3, wI 1, wU, wU, wU, wU, wU, wU]), [.int 3], (HA p q r b0 b1 b2), 6) _
      refine WGo.s (WStep.istore (L' := (LA p q r b0 b1 b2 ra rb mix [wI 1, wI 3, wI 1, wI 3, wU, wU, wU, wU, wU])) a0_121 rfl) ?_
      exact segD1313 Z a0 hw n0 p q r b0 b1 b2 ra rb mix
  · show WGo _ (106, (LA p q r b0 b1 b2 ra rb mix [wI 1, wI 3, wU, wU, wU, wU, wU, wU, wU]), [.int 2], (HA p q r b0 b1 b2), 6) _
    refine WGo.s (WStep.istore (L' := (LA p q r b0 b1 b2 ra rb mix [wI 1, wI 3, wI 2, wU, wU, wU, wU, wU, wU])) a0_106 rfl) ?_
    refine WGo.s (WStep.iconst (3 : Int32) a0_108 rfl) ?_
    refine WGo.s (WStep.iload a0_109 rfl) ?_
    refine WGo.s (WStep.iload a0_111 rfl) ?_
    refine WGo.s (WStep.iconst (2 : Int32) a0_113 rfl) ?_
    refine WGo.s (WStep.iushr a0_114) ?_
    refine WGo.s (WStep.iconst (3 : Int32) a0_115 rfl) ?_
    refine WGo.s (WStep.iand a0_116) ?_
    generalize hg_s2 : (((rb.toUInt32 >>> ((2 : Int32) &&& 31).toUInt32).toInt32) &&& (3 : Int32)) = s2
    obtain hs_s2 := four _ _ hg_s2
    rcases hs_s2 with rfl | rfl | rfl | rfl
    · show WGo _ (117, (LA p q r b0 b1 b2 ra rb mix [wI 1, wI 3, wI 2, wU, wU, wU, wU, wU, wU]), [.int 0, .int 2, .int 3], (HA p q r b0 b1 b2), 6) _
      refine WGo.s (WStep.iadd a0_117) ?_
      show WGo _ (118, (LA p q r b0 b1 b2 ra rb mix [wI 1, wI 3, wI 2, wU, wU, wU, wU, wU, wU]), [.int 2, .int 3], (HA p q r b0 b1 b2), 6) _
      refine WGo.callS a0_118 (ok2 hw _ _ _ _) (wd hw 6 rfl) (wd hw 7 rfl) (argsL := [.int 3, .int 2]) (S := []) (c2 hw _ _ (3 : Int32) (2 : Int32) _ _) rfl rfl rfl rfl rfl rfl (Nat.le_of_ble_eq_true rfl) (Nat.le_of_ble_eq_true rfl) ?_
      rintro _ _ _ ⟨rfl, rfl, rfl⟩
      show WGo _ (121, (LA p q r b0 b1 b2 ra rb mix [wI 1, wI 3, wI 2, wU, wU, wU, wU, wU, wU]), [.int 2], (HA p q r b0 b1 b2), 6) _
      refine WGo.s (WStep.istore (L' := (LA p q r b0 b1 b2 ra rb mix [wI 1, wI 3, wI 2, wI 2, wU, wU, wU, wU, wU])) a0_121 rfl) ?_
      exact segD1322 Z a0 hw n0 p q r b0 b1 b2 ra rb mix
    · show WGo _ (117, (LA p q r b0 b1 b2 ra rb mix [wI 1, wI 3, wI 2, wU, wU, wU, wU, wU, wU]), [.int 1, .int 2, .int 3], (HA p q r b0 b1 b2), 6) _
      refine WGo.s (WStep.iadd a0_117) ?_
      show WGo _ (118, (LA p q r b0 b1 b2 ra rb mix [wI 1, wI 3, wI 2, wU, wU, wU, wU, wU, wU]), [.int 3, .int 3], (HA p q r b0 b1 b2), 6) _
      refine WGo.callS a0_118 (ok2 hw _ _ _ _) (wd hw 6 rfl) (wd hw 7 rfl) (argsL := [.int 3, .int 3]) (S := []) (c2 hw _ _ (3 : Int32) (3 : Int32) _ _) rfl rfl rfl rfl rfl rfl (Nat.le_of_ble_eq_true rfl) (Nat.le_of_ble_eq_true rfl) ?_
      rintro _ _ _ ⟨rfl, rfl, rfl⟩
      show WGo _ (121, (LA p q r b0 b1 b2 ra rb mix [wI 1, wI 3, wI 2, wU, wU, wU, wU, wU, wU]), [.int 3], (HA p q r b0 b1 b2), 6) _
      refine WGo.s (WStep.istore (L' := (LA p q r b0 b1 b2 ra rb mix [wI 1, wI 3, wI 2, wI 3, wU, wU, wU, wU, wU])) a0_121 rfl) ?_
      exact segD1323 Z a0 hw n0 p q r b0 b1 b2 ra rb mix
    · show WGo _ (117, (LA p q r b0 b1 b2 ra rb mix [wI 1, wI 3, wI 2, wU, wU, wU, wU, wU, wU]), [.int 2, .int 2, .int 3], (HA p q r b0 b1 b2), 6) _
      refine WGo.s (WStep.iadd a0_117) ?_
      show WGo _ (118, (LA p q r b0 b1 b2 ra rb mix [wI 1, wI 3, wI 2, wU, wU, wU, wU, wU, wU]), [.int 4, .int 3], (HA p q r b0 b1 b2), 6) _
      refine WGo.callS a0_118 (ok2 hw _ _ _ _) (wd hw 6 rfl) (wd hw 7 rfl) (argsL := [.int 3, .int 4]) (S := []) (c2 hw _ _ (3 : Int32) (4 : Int32) _ _) rfl rfl rfl rfl rfl rfl (Nat.le_of_ble_eq_true rfl) (Nat.le_of_ble_eq_true rfl) ?_
      rintro _ _ _ ⟨rfl, rfl, rfl⟩
      show WGo _ (121, (LA p q r b0 b1 b2 ra rb mix [wI 1, wI 3, wI 2, wU, wU, wU, wU, wU, wU]), [.int 3], (HA p q r b0 b1 b2), 6) _
      refine WGo.s (WStep.istore (L' := (LA p q r b0 b1 b2 ra rb mix [wI 1, wI 3, wI 2, wI 3, wU, wU, wU, wU, wU])) a0_121 rfl) ?_
      exact segD1323 Z a0 hw n0 p q r b0 b1 b2 ra rb mix
    · show WGo _ (117, (LA p q r b0 b1 b2 ra rb mix [wI 1, wI 3, wI 2, wU, wU, wU, wU, wU, wU]), [.int 3, .int 2, .int 3], (HA p q r b0 b1 b2), 6) _
      refine WGo.s (WStep.iadd a0_117) ?_
      show WGo _ (118, (LA p q r b0 b1 b2 ra rb mix [wI 1, wI 3, wI 2, wU, wU, wU, wU, wU, wU]), [.int 5, .int 3], (HA p q r b0 b1 b2), 6) _
      refine WGo.callS a0_118 (ok2 hw _ _ _ _) (wd hw 6 rfl) (wd hw 7 rfl) (argsL := [.int 3, .int 5]) (S := []) (c2 hw _ _ (3 : Int32) (5 : Int32) _ _) rfl rfl rfl rfl rfl rfl (Nat.le_of_ble_eq_true rfl) (Nat.le_of_ble_eq_true rfl) ?_
      rintro _ _ _ ⟨rfl, rfl, rfl⟩
      show WGo _ (121, (LA p q r b0 b1 b2 ra rb mix [wI 1, wI 3, wI 2, wU, wU, wU, wU, wU, wU]), [.int 3], (HA p q r b0 b1 b2), 6) _
      refine WGo.s (WStep.istore (L' := (LA p q r b0 b1 b2 ra rb mix [wI 1, wI 3, wI 2, wI 3, wU, wU, wU, wU, wU])) a0_121 rfl) ?_
      exact segD1323 Z a0 hw n0 p q r b0 b1 b2 ra rb mix
  · show WGo _ (106, (LA p q r b0 b1 b2 ra rb mix [wI 1, wI 3, wU, wU, wU, wU, wU, wU, wU]), [.int 3], (HA p q r b0 b1 b2), 6) _
    refine WGo.s (WStep.istore (L' := (LA p q r b0 b1 b2 ra rb mix [wI 1, wI 3, wI 3, wU, wU, wU, wU, wU, wU])) a0_106 rfl) ?_
    refine WGo.s (WStep.iconst (3 : Int32) a0_108 rfl) ?_
    refine WGo.s (WStep.iload a0_109 rfl) ?_
    refine WGo.s (WStep.iload a0_111 rfl) ?_
    refine WGo.s (WStep.iconst (2 : Int32) a0_113 rfl) ?_
    refine WGo.s (WStep.iushr a0_114) ?_
    refine WGo.s (WStep.iconst (3 : Int32) a0_115 rfl) ?_
    refine WGo.s (WStep.iand a0_116) ?_
    generalize hg_s2 : (((rb.toUInt32 >>> ((2 : Int32) &&& 31).toUInt32).toInt32) &&& (3 : Int32)) = s2
    obtain hs_s2 := four _ _ hg_s2
    rcases hs_s2 with rfl | rfl | rfl | rfl
    · show WGo _ (117, (LA p q r b0 b1 b2 ra rb mix [wI 1, wI 3, wI 3, wU, wU, wU, wU, wU, wU]), [.int 0, .int 3, .int 3], (HA p q r b0 b1 b2), 6) _
      refine WGo.s (WStep.iadd a0_117) ?_
      show WGo _ (118, (LA p q r b0 b1 b2 ra rb mix [wI 1, wI 3, wI 3, wU, wU, wU, wU, wU, wU]), [.int 3, .int 3], (HA p q r b0 b1 b2), 6) _
      refine WGo.callS a0_118 (ok2 hw _ _ _ _) (wd hw 6 rfl) (wd hw 7 rfl) (argsL := [.int 3, .int 3]) (S := []) (c2 hw _ _ (3 : Int32) (3 : Int32) _ _) rfl rfl rfl rfl rfl rfl (Nat.le_of_ble_eq_true rfl) (Nat.le_of_ble_eq_true rfl) ?_
      rintro _ _ _ ⟨rfl, rfl, rfl⟩
      show WGo _ (121, (LA p q r b0 b1 b2 ra rb mix [wI 1, wI 3, wI 3, wU, wU, wU, wU, wU, wU]), [.int 3], (HA p q r b0 b1 b2), 6) _
      refine WGo.s (WStep.istore (L' := (LA p q r b0 b1 b2 ra rb mix [wI 1, wI 3, wI 3, wI 3, wU, wU, wU, wU, wU])) a0_121 rfl) ?_
      exact segD1333 Z a0 hw n0 p q r b0 b1 b2 ra rb mix
    · show WGo _ (117, (LA p q r b0 b1 b2 ra rb mix [wI 1, wI 3, wI 3, wU, wU, wU, wU, wU, wU]), [.int 1, .int 3, .int 3], (HA p q r b0 b1 b2), 6) _
      refine WGo.s (WStep.iadd a0_117) ?_
      show WGo _ (118, (LA p q r b0 b1 b2 ra rb mix [wI 1, wI 3, wI 3, wU, wU, wU, wU, wU, wU]), [.int 4, .int 3], (HA p q r b0 b1 b2), 6) _
      refine WGo.callS a0_118 (ok2 hw _ _ _ _) (wd hw 6 rfl) (wd hw 7 rfl) (argsL := [.int 3, .int 4]) (S := []) (c2 hw _ _ (3 : Int32) (4 : Int32) _ _) rfl rfl rfl rfl rfl rfl (Nat.le_of_ble_eq_true rfl) (Nat.le_of_ble_eq_true rfl) ?_
      rintro _ _ _ ⟨rfl, rfl, rfl⟩
      show WGo _ (121, (LA p q r b0 b1 b2 ra rb mix [wI 1, wI 3, wI 3, wU, wU, wU, wU, wU, wU]), [.int 3], (HA p q r b0 b1 b2), 6) _
      refine WGo.s (WStep.istore (L' := (LA p q r b0 b1 b2 ra rb mix [wI 1, wI 3, wI 3, wI 3, wU, wU, wU, wU, wU])) a0_121 rfl) ?_
      exact segD1333 Z a0 hw n0 p q r b0 b1 b2 ra rb mix
    · show WGo _ (117, (LA p q r b0 b1 b2 ra rb mix [wI 1, wI 3, wI 3, wU, wU, wU, wU, wU, wU]), [.int 2, .int 3, .int 3], (HA p q r b0 b1 b2), 6) _
      refine WGo.s (WStep.iadd a0_117) ?_
      show WGo _ (118, (LA p q r b0 b1 b2 ra rb mix [wI 1, wI 3, wI 3, wU, wU, wU, wU, wU, wU]), [.int 5, .int 3], (HA p q r b0 b1 b2), 6) _
      refine WGo.callS a0_118 (ok2 hw _ _ _ _) (wd hw 6 rfl) (wd hw 7 rfl) (argsL := [.int 3, .int 5]) (S := []) (c2 hw _ _ (3 : Int32) (5 : Int32) _ _) rfl rfl rfl rfl rfl rfl (Nat.le_of_ble_eq_true rfl) (Nat.le_of_ble_eq_true rfl) ?_
      rintro _ _ _ ⟨rfl, rfl, rfl⟩
      show WGo _ (121, (LA p q r b0 b1 b2 ra rb mix [wI 1, wI 3, wI 3, wU, wU, wU, wU, wU, wU]), [.int 3], (HA p q r b0 b1 b2), 6) _
      refine WGo.s (WStep.istore (L' := (LA p q r b0 b1 b2 ra rb mix [wI 1, wI 3, wI 3, wI 3, wU, wU, wU, wU, wU])) a0_121 rfl) ?_
      exact segD1333 Z a0 hw n0 p q r b0 b1 b2 ra rb mix
    · show WGo _ (117, (LA p q r b0 b1 b2 ra rb mix [wI 1, wI 3, wI 3, wU, wU, wU, wU, wU, wU]), [.int 3, .int 3, .int 3], (HA p q r b0 b1 b2), 6) _
      refine WGo.s (WStep.iadd a0_117) ?_
      show WGo _ (118, (LA p q r b0 b1 b2 ra rb mix [wI 1, wI 3, wI 3, wU, wU, wU, wU, wU, wU]), [.int 6, .int 3], (HA p q r b0 b1 b2), 6) _
      refine WGo.callS a0_118 (ok2 hw _ _ _ _) (wd hw 6 rfl) (wd hw 7 rfl) (argsL := [.int 3, .int 6]) (S := []) (c2 hw _ _ (3 : Int32) (6 : Int32) _ _) rfl rfl rfl rfl rfl rfl (Nat.le_of_ble_eq_true rfl) (Nat.le_of_ble_eq_true rfl) ?_
      rintro _ _ _ ⟨rfl, rfl, rfl⟩
      show WGo _ (121, (LA p q r b0 b1 b2 ra rb mix [wI 1, wI 3, wI 3, wU, wU, wU, wU, wU, wU]), [.int 3], (HA p q r b0 b1 b2), 6) _
      refine WGo.s (WStep.istore (L' := (LA p q r b0 b1 b2 ra rb mix [wI 1, wI 3, wI 3, wI 3, wU, wU, wU, wU, wU])) a0_121 rfl) ?_
      exact segD1333 Z a0 hw n0 p q r b0 b1 b2 ra rb mix
theorem segC22 (Z : State) (a0 : Array Value) (hw : ∀ d ∈ tables_1, d.before a0 Z = true) (n0 : Nat) (p q r b0 b1 b2 : Int64) (ra rb mix : Int32) : WGo (g0 Z (fun k => n0 + k) n0 0 0) (102, (LA p q r b0 b1 b2 ra rb mix [wI 2, wI 2, wU, wU, wU, wU, wU, wU, wU]), [], (HA p q r b0 b1 b2), 6) (fun v σ' u' => v = some (.int 1) ∧ σ'.length ≤ 16 ∧ u' ≤ 128) := by
  refine WGo.s (WStep.iload a0_102 rfl) ?_
  refine WGo.s (WStep.iconst (3 : Int32) a0_104 rfl) ?_
  refine WGo.s (WStep.iand a0_105) ?_
  generalize hg_s1 : (rb &&& (3 : Int32)) = s1
  obtain hs_s1 := four _ _ hg_s1
  rcases hs_s1 with rfl | rfl | rfl | rfl
  · show WGo _ (106, (LA p q r b0 b1 b2 ra rb mix [wI 2, wI 2, wU, wU, wU, wU, wU, wU, wU]), [.int 0], (HA p q r b0 b1 b2), 6) _
    refine WGo.s (WStep.istore (L' := (LA p q r b0 b1 b2 ra rb mix [wI 2, wI 2, wI 0, wU, wU, wU, wU, wU, wU])) a0_106 rfl) ?_
    refine WGo.s (WStep.iconst (3 : Int32) a0_108 rfl) ?_
    refine WGo.s (WStep.iload a0_109 rfl) ?_
    refine WGo.s (WStep.iload a0_111 rfl) ?_
    refine WGo.s (WStep.iconst (2 : Int32) a0_113 rfl) ?_
    refine WGo.s (WStep.iushr a0_114) ?_
    refine WGo.s (WStep.iconst (3 : Int32) a0_115 rfl) ?_
    refine WGo.s (WStep.iand a0_116) ?_
    generalize hg_s2 : (((rb.toUInt32 >>> ((2 : Int32) &&& 31).toUInt32).toInt32) &&& (3 : Int32)) = s2
    obtain hs_s2 := four _ _ hg_s2
    rcases hs_s2 with rfl | rfl | rfl | rfl
    · show WGo _ (117, (LA p q r b0 b1 b2 ra rb mix [wI 2, wI 2, wI 0, wU, wU, wU, wU, wU, wU]), [.int 0, .int 0, .int 3], (HA p q r b0 b1 b2), 6) _
      refine WGo.s (WStep.iadd a0_117) ?_
      show WGo _ (118, (LA p q r b0 b1 b2 ra rb mix [wI 2, wI 2, wI 0, wU, wU, wU, wU, wU, wU]), [.int 0, .int 3], (HA p q r b0 b1 b2), 6) _
      refine WGo.callS a0_118 (ok2 hw _ _ _ _) (wd hw 6 rfl) (wd hw 7 rfl) (argsL := [.int 3, .int 0]) (S := []) (c2 hw _ _ (3 : Int32) (0 : Int32) _ _) rfl rfl rfl rfl rfl rfl (Nat.le_of_ble_eq_true rfl) (Nat.le_of_ble_eq_true rfl) ?_
      rintro _ _ _ ⟨rfl, rfl, rfl⟩
      show WGo _ (121, (LA p q r b0 b1 b2 ra rb mix [wI 2, wI 2, wI 0, wU, wU, wU, wU, wU, wU]), [.int 0], (HA p q r b0 b1 b2), 6) _
      refine WGo.s (WStep.istore (L' := (LA p q r b0 b1 b2 ra rb mix [wI 2, wI 2, wI 0, wI 0, wU, wU, wU, wU, wU])) a0_121 rfl) ?_
      exact segD2200 Z a0 hw n0 p q r b0 b1 b2 ra rb mix
    · show WGo _ (117, (LA p q r b0 b1 b2 ra rb mix [wI 2, wI 2, wI 0, wU, wU, wU, wU, wU, wU]), [.int 1, .int 0, .int 3], (HA p q r b0 b1 b2), 6) _
      refine WGo.s (WStep.iadd a0_117) ?_
      show WGo _ (118, (LA p q r b0 b1 b2 ra rb mix [wI 2, wI 2, wI 0, wU, wU, wU, wU, wU, wU]), [.int 1, .int 3], (HA p q r b0 b1 b2), 6) _
      refine WGo.callS a0_118 (ok2 hw _ _ _ _) (wd hw 6 rfl) (wd hw 7 rfl) (argsL := [.int 3, .int 1]) (S := []) (c2 hw _ _ (3 : Int32) (1 : Int32) _ _) rfl rfl rfl rfl rfl rfl (Nat.le_of_ble_eq_true rfl) (Nat.le_of_ble_eq_true rfl) ?_
      rintro _ _ _ ⟨rfl, rfl, rfl⟩
      show WGo _ (121, (LA p q r b0 b1 b2 ra rb mix [wI 2, wI 2, wI 0, wU, wU, wU, wU, wU, wU]), [.int 1], (HA p q r b0 b1 b2), 6) _
      refine WGo.s (WStep.istore (L' := (LA p q r b0 b1 b2 ra rb mix [wI 2, wI 2, wI 0, wI 1, wU, wU, wU, wU, wU])) a0_121 rfl) ?_
      exact segD2201 Z a0 hw n0 p q r b0 b1 b2 ra rb mix
    · show WGo _ (117, (LA p q r b0 b1 b2 ra rb mix [wI 2, wI 2, wI 0, wU, wU, wU, wU, wU, wU]), [.int 2, .int 0, .int 3], (HA p q r b0 b1 b2), 6) _
      refine WGo.s (WStep.iadd a0_117) ?_
      show WGo _ (118, (LA p q r b0 b1 b2 ra rb mix [wI 2, wI 2, wI 0, wU, wU, wU, wU, wU, wU]), [.int 2, .int 3], (HA p q r b0 b1 b2), 6) _
      refine WGo.callS a0_118 (ok2 hw _ _ _ _) (wd hw 6 rfl) (wd hw 7 rfl) (argsL := [.int 3, .int 2]) (S := []) (c2 hw _ _ (3 : Int32) (2 : Int32) _ _) rfl rfl rfl rfl rfl rfl (Nat.le_of_ble_eq_true rfl) (Nat.le_of_ble_eq_true rfl) ?_
      rintro _ _ _ ⟨rfl, rfl, rfl⟩
      show WGo _ (121, (LA p q r b0 b1 b2 ra rb mix [wI 2, wI 2, wI 0, wU, wU, wU, wU, wU, wU]), [.int 2], (HA p q r b0 b1 b2), 6) _
      refine WGo.s (WStep.istore (L' := (LA p q r b0 b1 b2 ra rb mix [wI 2, wI 2, wI 0, wI 2, wU, wU, wU, wU, wU])) a0_121 rfl) ?_
      exact segD2202 Z a0 hw n0 p q r b0 b1 b2 ra rb mix
    · show WGo _ (117, (LA p q r b0 b1 b2 ra rb mix [wI 2, wI 2, wI 0, wU, wU, wU, wU, wU, wU]), [.int 3, .int 0, .int 3], (HA p q r b0 b1 b2), 6) _
      refine WGo.s (WStep.iadd a0_117) ?_
      show WGo _ (118, (LA p q r b0 b1 b2 ra rb mix [wI 2, wI 2, wI 0, wU, wU, wU, wU, wU, wU]), [.int 3, .int 3], (HA p q r b0 b1 b2), 6) _
      refine WGo.callS a0_118 (ok2 hw _ _ _ _) (wd hw 6 rfl) (wd hw 7 rfl) (argsL := [.int 3, .int 3]) (S := []) (c2 hw _ _ (3 : Int32) (3 : Int32) _ _) rfl rfl rfl rfl rfl rfl (Nat.le_of_ble_eq_true rfl) (Nat.le_of_ble_eq_true rfl) ?_
      rintro _ _ _ ⟨rfl, rfl, rfl⟩
      show WGo _ (121, (LA p q r b0 b1 b2 ra rb mix [wI 2, wI 2, wI 0, wU, wU, wU, wU, wU, wU]), [.int 3], (HA p q r b0 b1 b2), 6) _
      refine WGo.s (WStep.istore (L' := (LA p q r b0 b1 b2 ra rb mix [wI 2, wI 2, wI 0, wI 3, wU, wU, wU, wU, wU])) a0_121 rfl) ?_
      exact segD2203 Z a0 hw n0 p q r b0 b1 b2 ra rb mix
  · show WGo _ (106, (LA p q r b0 b1 b2 ra rb mix [wI 2, wI 2, wU, wU, wU, wU, wU, wU, wU]), [.int 1], (HA p q r b0 b1 b2), 6) _
    refine WGo.s (WStep.istore (L' := (LA p q r b0 b1 b2 ra rb mix [wI 2, wI 2, wI 1, wU, wU, wU, wU, wU, wU])) a0_106 rfl) ?_
    refine WGo.s (WStep.iconst (3 : Int32) a0_108 rfl) ?_
    refine WGo.s (WStep.iload a0_109 rfl) ?_
    refine WGo.s (WStep.iload a0_111 rfl) ?_
    refine WGo.s (WStep.iconst (2 : Int32) a0_113 rfl) ?_
    refine WGo.s (WStep.iushr a0_114) ?_
    refine WGo.s (WStep.iconst (3 : Int32) a0_115 rfl) ?_
    refine WGo.s (WStep.iand a0_116) ?_
    generalize hg_s2 : (((rb.toUInt32 >>> ((2 : Int32) &&& 31).toUInt32).toInt32) &&& (3 : Int32)) = s2
    obtain hs_s2 := four _ _ hg_s2
    rcases hs_s2 with rfl | rfl | rfl | rfl
    · show WGo _ (117, (LA p q r b0 b1 b2 ra rb mix [wI 2, wI 2, wI 1, wU, wU, wU, wU, wU, wU]), [.int 0, .int 1, .int 3], (HA p q r b0 b1 b2), 6) _
      refine WGo.s (WStep.iadd a0_117) ?_
      show WGo _ (118, (LA p q r b0 b1 b2 ra rb mix [wI 2, wI 2, wI 1, wU, wU, wU, wU, wU, wU]), [.int 1, .int 3], (HA p q r b0 b1 b2), 6) _
      refine WGo.callS a0_118 (ok2 hw _ _ _ _) (wd hw 6 rfl) (wd hw 7 rfl) (argsL := [.int 3, .int 1]) (S := []) (c2 hw _ _ (3 : Int32) (1 : Int32) _ _) rfl rfl rfl rfl rfl rfl (Nat.le_of_ble_eq_true rfl) (Nat.le_of_ble_eq_true rfl) ?_
      rintro _ _ _ ⟨rfl, rfl, rfl⟩
      show WGo _ (121, (LA p q r b0 b1 b2 ra rb mix [wI 2, wI 2, wI 1, wU, wU, wU, wU, wU, wU]), [.int 1], (HA p q r b0 b1 b2), 6) _
      refine WGo.s (WStep.istore (L' := (LA p q r b0 b1 b2 ra rb mix [wI 2, wI 2, wI 1, wI 1, wU, wU, wU, wU, wU])) a0_121 rfl) ?_
      exact segD2211 Z a0 hw n0 p q r b0 b1 b2 ra rb mix
    · show WGo _ (117, (LA p q r b0 b1 b2 ra rb mix [wI 2, wI 2, wI 1, wU, wU, wU, wU, wU, wU]), [.int 1, .int 1, .int 3], (HA p q r b0 b1 b2), 6) _
      refine WGo.s (WStep.iadd a0_117) ?_
      show WGo _ (118, (LA p q r b0 b1 b2 ra rb mix [wI 2, wI 2, wI 1, wU, wU, wU, wU, wU, wU]), [.int 2, .int 3], (HA p q r b0 b1 b2), 6) _
      refine WGo.callS a0_118 (ok2 hw _ _ _ _) (wd hw 6 rfl) (wd hw 7 rfl) (argsL := [.int 3, .int 2]) (S := []) (c2 hw _ _ (3 : Int32) (2 : Int32) _ _) rfl rfl rfl rfl rfl rfl (Nat.le_of_ble_eq_true rfl) (Nat.le_of_ble_eq_true rfl) ?_
      rintro _ _ _ ⟨rfl, rfl, rfl⟩
      show WGo _ (121, (LA p q r b0 b1 b2 ra rb mix [wI 2, wI 2, wI 1, wU, wU, wU, wU, wU, wU]), [.int 2], (HA p q r b0 b1 b2), 6) _
      refine WGo.s (WStep.istore (L' := (LA p q r b0 b1 b2 ra rb mix [wI 2, wI 2, wI 1, wI 2, wU, wU, wU, wU, wU])) a0_121 rfl) ?_
      exact segD2212 Z a0 hw n0 p q r b0 b1 b2 ra rb mix
    · show WGo _ (117, (LA p q r b0 b1 b2 ra rb mix [wI 2, wI 2, wI 1, wU, wU, wU, wU, wU, wU]), [.int 2, .int 1, .int 3], (HA p q r b0 b1 b2), 6) _
      refine WGo.s (WStep.iadd a0_117) ?_
      show WGo _ (118, (LA p q r b0 b1 b2 ra rb mix [wI 2, wI 2, wI 1, wU, wU, wU, wU, wU, wU]), [.int 3, .int 3], (HA p q r b0 b1 b2), 6) _
      refine WGo.callS a0_118 (ok2 hw _ _ _ _) (wd hw 6 rfl) (wd hw 7 rfl) (argsL := [.int 3, .int 3]) (S := []) (c2 hw _ _ (3 : Int32) (3 : Int32) _ _) rfl rfl rfl rfl rfl rfl (Nat.le_of_ble_eq_true rfl) (Nat.le_of_ble_eq_true rfl) ?_
      rintro _ _ _ ⟨rfl, rfl, rfl⟩
      show WGo _ (121, (LA p q r b0 b1 b2 ra rb mix [wI 2, wI 2, wI 1, wU, wU, wU, wU, wU, wU]), [.int 3], (HA p q r b0 b1 b2), 6) _
      refine WGo.s (WStep.istore (L' := (LA p q r b0 b1 b2 ra rb mix [wI 2, wI 2, wI 1, wI 3, wU, wU, wU, wU, wU])) a0_121 rfl) ?_
      exact segD2213 Z a0 hw n0 p q r b0 b1 b2 ra rb mix
    · show WGo _ (117, (LA p q r b0 b1 b2 ra rb mix [wI 2, wI 2, wI 1, wU, wU, wU, wU, wU, wU]), [.int 3, .int 1, .int 3], (HA p q r b0 b1 b2), 6) _
      refine WGo.s (WStep.iadd a0_117) ?_
      show WGo _ (118, (LA p q r b0 b1 b2 ra rb mix [wI 2, wI 2, wI 1, wU, wU, wU, wU, wU, wU]), [.int 4, .int 3], (HA p q r b0 b1 b2), 6) _
      refine WGo.callS a0_118 (ok2 hw _ _ _ _) (wd hw 6 rfl) (wd hw 7 rfl) (argsL := [.int 3, .int 4]) (S := []) (c2 hw _ _ (3 : Int32) (4 : Int32) _ _) rfl rfl rfl rfl rfl rfl (Nat.le_of_ble_eq_true rfl) (Nat.le_of_ble_eq_true rfl) ?_
      rintro _ _ _ ⟨rfl, rfl, rfl⟩
      show WGo _ (121, (LA p q r b0 b1 b2 ra rb mix [wI 2, wI 2, wI 1, wU, wU, wU, wU, wU, wU]), [.int 3], (HA p q r b0 b1 b2), 6) _
      refine WGo.s (WStep.istore (L' := (LA p q r b0 b1 b2 ra rb mix [wI 2, wI 2, wI 1, wI 3, wU, wU, wU, wU, wU])) a0_121 rfl) ?_
      exact segD2213 Z a0 hw n0 p q r b0 b1 b2 ra rb mix
  · show WGo _ (106, (LA p q r b0 b1 b2 ra rb mix [wI 2, wI 2, wU, wU, wU, wU, wU, wU, wU]), [.int 2], (HA p q r b0 b1 b2), 6) _
    refine WGo.s (WStep.istore (L' := (LA p q r b0 b1 b2 ra rb mix [wI 2, wI 2, wI 2, wU, wU, wU, wU, wU, wU])) a0_106 rfl) ?_
    refine WGo.s (WStep.iconst (3 : Int32) a0_108 rfl) ?_
    refine WGo.s (WStep.iload a0_109 rfl) ?_
    refine WGo.s (WStep.iload a0_111 rfl) ?_
    refine WGo.s (WStep.iconst (2 : Int32) a0_113 rfl) ?_
    refine WGo.s (WStep.iushr a0_114) ?_
    refine WGo.s (WStep.iconst (3 : Int32) a0_115 rfl) ?_
    refine WGo.s (WStep.iand a0_116) ?_
    generalize hg_s2 : (((rb.toUInt32 >>> ((2 : Int32) &&& 31).toUInt32).toInt32) &&& (3 : Int32)) = s2
    obtain hs_s2 := four _ _ hg_s2
    rcases hs_s2 with rfl | rfl | rfl | rfl
    · show WGo _ (117, (LA p q r b0 b1 b2 ra rb mix [wI 2, wI 2, wI 2, wU, wU, wU, wU, wU, wU]), [.int 0, .int 2, .int 3], (HA p q r b0 b1 b2), 6) _
      refine WGo.s (WStep.iadd a0_117) ?_
      show WGo _ (118, (LA p q r b0 b1 b2 ra rb mix [wI 2, wI 2, wI 2, wU, wU, wU, wU, wU, wU]), [.int 2, .int 3], (HA p q r b0 b1 b2), 6) _
      refine WGo.callS a0_118 (ok2 hw _ _ _ _) (wd hw 6 rfl) (wd hw 7 rfl) (argsL := [.int 3, .int 2]) (S := []) (c2 hw _ _ (3 : Int32) (2 : Int32) _ _) rfl rfl rfl rfl rfl rfl (Nat.le_of_ble_eq_true rfl) (Nat.le_of_ble_eq_true rfl) ?_
      rintro _ _ _ ⟨rfl, rfl, rfl⟩
      show WGo _ (121, (LA p q r b0 b1 b2 ra rb mix [wI 2, wI 2, wI 2, wU, wU, wU, wU, wU, wU]), [.int 2], (HA p q r b0 b1 b2), 6) _
      refine WGo.s (WStep.istore (L' := (LA p q r b0 b1 b2 ra rb mix [wI 2, wI 2, wI 2, wI 2, wU, wU, wU, wU, wU])) a0_121 rfl) ?_
      exact segD2222 Z a0 hw n0 p q r b0 b1 b2 ra rb mix
    · show WGo _ (117, (LA p q r b0 b1 b2 ra rb mix [wI 2, wI 2, wI 2, wU, wU, wU, wU, wU, wU]), [.int 1, .int 2, .int 3], (HA p q r b0 b1 b2), 6) _
      refine WGo.s (WStep.iadd a0_117) ?_
      show WGo _ (118, (LA p q r b0 b1 b2 ra rb mix [wI 2, wI 2, wI 2, wU, wU, wU, wU, wU, wU]), [.int 3, .int 3], (HA p q r b0 b1 b2), 6) _
      refine WGo.callS a0_118 (ok2 hw _ _ _ _) (wd hw 6 rfl) (wd hw 7 rfl) (argsL := [.int 3, .int 3]) (S := []) (c2 hw _ _ (3 : Int32) (3 : Int32) _ _) rfl rfl rfl rfl rfl rfl (Nat.le_of_ble_eq_true rfl) (Nat.le_of_ble_eq_true rfl) ?_
      rintro _ _ _ ⟨rfl, rfl, rfl⟩
      show WGo _ (121, (LA p q r b0 b1 b2 ra rb mix [wI 2, wI 2, wI 2, wU, wU, wU, wU, wU, wU]), [.int 3], (HA p q r b0 b1 b2), 6) _
      refine WGo.s (WStep.istore (L' := (LA p q r b0 b1 b2 ra rb mix [wI 2, wI 2, wI 2, wI 3, wU, wU, wU, wU, wU])) a0_121 rfl) ?_
      exact segD2223 Z a0 hw n0 p q r b0 b1 b2 ra rb mix
    · show WGo _ (117, (LA p q r b0 b1 b2 ra rb mix [wI 2, wI 2, wI 2, wU, wU, wU, wU, wU, wU]), [.int 2, .int 2, .int 3], (HA p q r b0 b1 b2), 6) _
      refine WGo.s (WStep.iadd a0_117) ?_
      show WGo _ (118, (LA p q r b0 b1 b2 ra rb mix [wI 2, wI 2, wI 2, wU, wU, wU, wU, wU, wU]), [.int 4, .int 3], (HA p q r b0 b1 b2), 6) _
      refine WGo.callS a0_118 (ok2 hw _ _ _ _) (wd hw 6 rfl) (wd hw 7 rfl) (argsL := [.int 3, .int 4]) (S := []) (c2 hw _ _ (3 : Int32) (4 : Int32) _ _) rfl rfl rfl rfl rfl rfl (Nat.le_of_ble_eq_true rfl) (Nat.le_of_ble_eq_true rfl) ?_
      rintro _ _ _ ⟨rfl, rfl, rfl⟩
      show WGo _ (121, (LA p q r b0 b1 b2 ra rb mix [wI 2, wI 2, wI 2, wU, wU, wU, wU, wU, wU]), [.int 3], (HA p q r b0 b1 b2), 6) _
      refine WGo.s (WStep.istore (L' := (LA p q r b0 b1 b2 ra rb mix [wI 2, wI 2, wI 2, wI 3, wU, wU, wU, wU, wU])) a0_121 rfl) ?_
      exact segD2223 Z a0 hw n0 p q r b0 b1 b2 ra rb mix
    · show WGo _ (117, (LA p q r b0 b1 b2 ra rb mix [wI 2, wI 2, wI 2, wU, wU, wU, wU, wU, wU]), [.int 3, .int 2, .int 3], (HA p q r b0 b1 b2), 6) _
      refine WGo.s (WStep.iadd a0_117) ?_
      show WGo _ (118, (LA p q r b0 b1 b2 ra rb mix [wI 2, wI 2, wI 2, wU, wU, wU, wU, wU, wU]), [.int 5, .int 3], (HA p q r b0 b1 b2), 6) _
      refine WGo.callS a0_118 (ok2 hw _ _ _ _) (wd hw 6 rfl) (wd hw 7 rfl) (argsL := [.int 3, .int 5]) (S := []) (c2 hw _ _ (3 : Int32) (5 : Int32) _ _) rfl rfl rfl rfl rfl rfl (Nat.le_of_ble_eq_true rfl) (Nat.le_of_ble_eq_true rfl) ?_
      rintro _ _ _ ⟨rfl, rfl, rfl⟩
      show WGo _ (121, (LA p q r b0 b1 b2 ra rb mix [wI 2, wI 2, wI 2, wU, wU, wU, wU, wU, wU]), [.int 3], (HA p q r b0 b1 b2), 6) _
      refine WGo.s (WStep.istore (L' := (LA p q r b0 b1 b2 ra rb mix [wI 2, wI 2, wI 2, wI 3, wU, wU, wU, wU, wU])) a0_121 rfl) ?_
      exact segD2223 Z a0 hw n0 p q r b0 b1 b2 ra rb mix
  · show WGo _ (106, (LA p q r b0 b1 b2 ra rb mix [wI 2, wI 2, wU, wU, wU, wU, wU, wU, wU]), [.int 3], (HA p q r b0 b1 b2), 6) _
    refine WGo.s (WStep.istore (L' := (LA p q r b0 b1 b2 ra rb mix [wI 2, wI 2, wI 3, wU, wU, wU, wU, wU, wU])) a0_106 rfl) ?_
    refine WGo.s (WStep.iconst (3 : Int32) a0_108 rfl) ?_
    refine WGo.s (WStep.iload a0_109 rfl) ?_
    refine WGo.s (WStep.iload a0_111 rfl) ?_
    refine WGo.s (WStep.iconst (2 : Int32) a0_113 rfl) ?_
    refine WGo.s (WStep.iushr a0_114) ?_
    refine WGo.s (WStep.iconst (3 : Int32) a0_115 rfl) ?_
    refine WGo.s (WStep.iand a0_116) ?_
    generalize hg_s2 : (((rb.toUInt32 >>> ((2 : Int32) &&& 31).toUInt32).toInt32) &&& (3 : Int32)) = s2
    obtain hs_s2 := four _ _ hg_s2
    rcases hs_s2 with rfl | rfl | rfl | rfl
    · show WGo _ (117, (LA p q r b0 b1 b2 ra rb mix [wI 2, wI 2, wI 3, wU, wU, wU, wU, wU, wU]), [.int 0, .int 3, .int 3], (HA p q r b0 b1 b2), 6) _
      refine WGo.s (WStep.iadd a0_117) ?_
      show WGo _ (118, (LA p q r b0 b1 b2 ra rb mix [wI 2, wI 2, wI 3, wU, wU, wU, wU, wU, wU]), [.int 3, .int 3], (HA p q r b0 b1 b2), 6) _
      refine WGo.callS a0_118 (ok2 hw _ _ _ _) (wd hw 6 rfl) (wd hw 7 rfl) (argsL := [.int 3, .int 3]) (S := []) (c2 hw _ _ (3 : Int32) (3 : Int32) _ _) rfl rfl rfl rfl rfl rfl (Nat.le_of_ble_eq_true rfl) (Nat.le_of_ble_eq_true rfl) ?_
      rintro _ _ _ ⟨rfl, rfl, rfl⟩
      show WGo _ (121, (LA p q r b0 b1 b2 ra rb mix [wI 2, wI 2, wI 3, wU, wU, wU, wU, wU, wU]), [.int 3], (HA p q r b0 b1 b2), 6) _
      refine WGo.s (WStep.istore (L' := (LA p q r b0 b1 b2 ra rb mix [wI 2, wI 2, wI 3, wI 3, wU, wU, wU, wU, wU])) a0_121 rfl) ?_
      exact segD2233 Z a0 hw n0 p q r b0 b1 b2 ra rb mix
    · show WGo _ (117, (LA p q r b0 b1 b2 ra rb mix [wI 2, wI 2, wI 3, wU, wU, wU, wU, wU, wU]), [.int 1, .int 3, .int 3], (HA p q r b0 b1 b2), 6) _
      refine WGo.s (WStep.iadd a0_117) ?_
      show WGo _ (118, (LA p q r b0 b1 b2 ra rb mix [wI 2, wI 2, wI 3, wU, wU, wU, wU, wU, wU]), [.int 4, .int 3], (HA p q r b0 b1 b2), 6) _
      refine WGo.callS a0_118 (ok2 hw _ _ _ _) (wd hw 6 rfl) (wd hw 7 rfl) (argsL := [.int 3, .int 4]) (S := []) (c2 hw _ _ (3 : Int32) (4 : Int32) _ _) rfl rfl rfl rfl rfl rfl (Nat.le_of_ble_eq_true rfl) (Nat.le_of_ble_eq_true rfl) ?_
      rintro _ _ _ ⟨rfl, rfl, rfl⟩
      show WGo _ (121, (LA p q r b0 b1 b2 ra rb mix [wI 2, wI 2, wI 3, wU, wU, wU, wU, wU, wU]), [.int 3], (HA p q r b0 b1 b2), 6) _
      refine WGo.s (WStep.istore (L' := (LA p q r b0 b1 b2 ra rb mix [wI 2, wI 2, wI 3, wI 3, wU, wU, wU, wU, wU])) a0_121 rfl) ?_
      exact segD2233 Z a0 hw n0 p q r b0 b1 b2 ra rb mix
    · show WGo _ (117, (LA p q r b0 b1 b2 ra rb mix [wI 2, wI 2, wI 3, wU, wU, wU, wU, wU, wU]), [.int 2, .int 3, .int 3], (HA p q r b0 b1 b2), 6) _
      refine WGo.s (WStep.iadd a0_117) ?_
      show WGo _ (118, (LA p q r b0 b1 b2 ra rb mix [wI 2, wI 2, wI 3, wU, wU, wU, wU, wU, wU]), [.int 5, .int 3], (HA p q r b0 b1 b2), 6) _
      refine WGo.callS a0_118 (ok2 hw _ _ _ _) (wd hw 6 rfl) (wd hw 7 rfl) (argsL := [.int 3, .int 5]) (S := []) (c2 hw _ _ (3 : Int32) (5 : Int32) _ _) rfl rfl rfl rfl rfl rfl (Nat.le_of_ble_eq_true rfl) (Nat.le_of_ble_eq_true rfl) ?_
      rintro _ _ _ ⟨rfl, rfl, rfl⟩
      show WGo _ (121, (LA p q r b0 b1 b2 ra rb mix [wI 2, wI 2, wI 3, wU, wU, wU, wU, wU, wU]), [.int 3], (HA p q r b0 b1 b2), 6) _
      refine WGo.s (WStep.istore (L' := (LA p q r b0 b1 b2 ra rb mix [wI 2, wI 2, wI 3, wI 3, wU, wU, wU, wU, wU])) a0_121 rfl) ?_
      exact segD2233 Z a0 hw n0 p q r b0 b1 b2 ra rb mix
    · show WGo _ (117, (LA p q r b0 b1 b2 ra rb mix [wI 2, wI 2, wI 3, wU, wU, wU, wU, wU, wU]), [.int 3, .int 3, .int 3], (HA p q r b0 b1 b2), 6) _
      refine WGo.s (WStep.iadd a0_117) ?_
      show WGo _ (118, (LA p q r b0 b1 b2 ra rb mix [wI 2, wI 2, wI 3, wU, wU, wU, wU, wU, wU]), [.int 6, .int 3], (HA p q r b0 b1 b2), 6) _
      refine WGo.callS a0_118 (ok2 hw _ _ _ _) (wd hw 6 rfl) (wd hw 7 rfl) (argsL := [.int 3, .int 6]) (S := []) (c2 hw _ _ (3 : Int32) (6 : Int32) _ _) rfl rfl rfl rfl rfl rfl (Nat.le_of_ble_eq_true rfl) (Nat.le_of_ble_eq_true rfl) ?_
      rintro _ _ _ ⟨rfl, rfl, rfl⟩
      show WGo _ (121, (LA p q r b0 b1 b2 ra rb mix [wI 2, wI 2, wI 3, wU, wU, wU, wU, wU, wU]), [.int 3], (HA p q r b0 b1 b2), 6) _
      refine WGo.s (WStep.istore (L' := (LA p q r b0 b1 b2 ra rb mix [wI 2, wI 2, wI 3, wI 3, wU, wU, wU, wU, wU])) a0_121 rfl) ?_
      exact segD2233 Z a0 hw n0 p q r b0 b1 b2 ra rb mix
theorem segC23 (Z : State) (a0 : Array Value) (hw : ∀ d ∈ tables_1, d.before a0 Z = true) (n0 : Nat) (p q r b0 b1 b2 : Int64) (ra rb mix : Int32) : WGo (g0 Z (fun k => n0 + k) n0 0 0) (102, (LA p q r b0 b1 b2 ra rb mix [wI 2, wI 3, wU, wU, wU, wU, wU, wU, wU]), [], (HA p q r b0 b1 b2), 6) (fun v σ' u' => v = some (.int 1) ∧ σ'.length ≤ 16 ∧ u' ≤ 128) := by
  refine WGo.s (WStep.iload a0_102 rfl) ?_
  refine WGo.s (WStep.iconst (3 : Int32) a0_104 rfl) ?_
  refine WGo.s (WStep.iand a0_105) ?_
  generalize hg_s1 : (rb &&& (3 : Int32)) = s1
  obtain hs_s1 := four _ _ hg_s1
  rcases hs_s1 with rfl | rfl | rfl | rfl
  · show WGo _ (106, (LA p q r b0 b1 b2 ra rb mix [wI 2, wI 3, wU, wU, wU, wU, wU, wU, wU]), [.int 0], (HA p q r b0 b1 b2), 6) _
    refine WGo.s (WStep.istore (L' := (LA p q r b0 b1 b2 ra rb mix [wI 2, wI 3, wI 0, wU, wU, wU, wU, wU, wU])) a0_106 rfl) ?_
    refine WGo.s (WStep.iconst (3 : Int32) a0_108 rfl) ?_
    refine WGo.s (WStep.iload a0_109 rfl) ?_
    refine WGo.s (WStep.iload a0_111 rfl) ?_
    refine WGo.s (WStep.iconst (2 : Int32) a0_113 rfl) ?_
    refine WGo.s (WStep.iushr a0_114) ?_
    refine WGo.s (WStep.iconst (3 : Int32) a0_115 rfl) ?_
    refine WGo.s (WStep.iand a0_116) ?_
    generalize hg_s2 : (((rb.toUInt32 >>> ((2 : Int32) &&& 31).toUInt32).toInt32) &&& (3 : Int32)) = s2
    obtain hs_s2 := four _ _ hg_s2
    rcases hs_s2 with rfl | rfl | rfl | rfl
    · show WGo _ (117, (LA p q r b0 b1 b2 ra rb mix [wI 2, wI 3, wI 0, wU, wU, wU, wU, wU, wU]), [.int 0, .int 0, .int 3], (HA p q r b0 b1 b2), 6) _
      refine WGo.s (WStep.iadd a0_117) ?_
      show WGo _ (118, (LA p q r b0 b1 b2 ra rb mix [wI 2, wI 3, wI 0, wU, wU, wU, wU, wU, wU]), [.int 0, .int 3], (HA p q r b0 b1 b2), 6) _
      refine WGo.callS a0_118 (ok2 hw _ _ _ _) (wd hw 6 rfl) (wd hw 7 rfl) (argsL := [.int 3, .int 0]) (S := []) (c2 hw _ _ (3 : Int32) (0 : Int32) _ _) rfl rfl rfl rfl rfl rfl (Nat.le_of_ble_eq_true rfl) (Nat.le_of_ble_eq_true rfl) ?_
      rintro _ _ _ ⟨rfl, rfl, rfl⟩
      show WGo _ (121, (LA p q r b0 b1 b2 ra rb mix [wI 2, wI 3, wI 0, wU, wU, wU, wU, wU, wU]), [.int 0], (HA p q r b0 b1 b2), 6) _
      refine WGo.s (WStep.istore (L' := (LA p q r b0 b1 b2 ra rb mix [wI 2, wI 3, wI 0, wI 0, wU, wU, wU, wU, wU])) a0_121 rfl) ?_
      exact segD2300 Z a0 hw n0 p q r b0 b1 b2 ra rb mix
    · show WGo _ (117, (LA p q r b0 b1 b2 ra rb mix [wI 2, wI 3, wI 0, wU, wU, wU, wU, wU, wU]), [.int 1, .int 0, .int 3], (HA p q r b0 b1 b2), 6) _
      refine WGo.s (WStep.iadd a0_117) ?_
      show WGo _ (118, (LA p q r b0 b1 b2 ra rb mix [wI 2, wI 3, wI 0, wU, wU, wU, wU, wU, wU]), [.int 1, .int 3], (HA p q r b0 b1 b2), 6) _
      refine WGo.callS a0_118 (ok2 hw _ _ _ _) (wd hw 6 rfl) (wd hw 7 rfl) (argsL := [.int 3, .int 1]) (S := []) (c2 hw _ _ (3 : Int32) (1 : Int32) _ _) rfl rfl rfl rfl rfl rfl (Nat.le_of_ble_eq_true rfl) (Nat.le_of_ble_eq_true rfl) ?_
      rintro _ _ _ ⟨rfl, rfl, rfl⟩
      show WGo _ (121, (LA p q r b0 b1 b2 ra rb mix [wI 2, wI 3, wI 0, wU, wU, wU, wU, wU, wU]), [.int 1], (HA p q r b0 b1 b2), 6) _
      refine WGo.s (WStep.istore (L' := (LA p q r b0 b1 b2 ra rb mix [wI 2, wI 3, wI 0, wI 1, wU, wU, wU, wU, wU])) a0_121 rfl) ?_
      exact segD2301 Z a0 hw n0 p q r b0 b1 b2 ra rb mix
    · show WGo _ (117, (LA p q r b0 b1 b2 ra rb mix [wI 2, wI 3, wI 0, wU, wU, wU, wU, wU, wU]), [.int 2, .int 0, .int 3], (HA p q r b0 b1 b2), 6) _
      refine WGo.s (WStep.iadd a0_117) ?_
      show WGo _ (118, (LA p q r b0 b1 b2 ra rb mix [wI 2, wI 3, wI 0, wU, wU, wU, wU, wU, wU]), [.int 2, .int 3], (HA p q r b0 b1 b2), 6) _
      refine WGo.callS a0_118 (ok2 hw _ _ _ _) (wd hw 6 rfl) (wd hw 7 rfl) (argsL := [.int 3, .int 2]) (S := []) (c2 hw _ _ (3 : Int32) (2 : Int32) _ _) rfl rfl rfl rfl rfl rfl (Nat.le_of_ble_eq_true rfl) (Nat.le_of_ble_eq_true rfl) ?_
      rintro _ _ _ ⟨rfl, rfl, rfl⟩
      show WGo _ (121, (LA p q r b0 b1 b2 ra rb mix [wI 2, wI 3, wI 0, wU, wU, wU, wU, wU, wU]), [.int 2], (HA p q r b0 b1 b2), 6) _
      refine WGo.s (WStep.istore (L' := (LA p q r b0 b1 b2 ra rb mix [wI 2, wI 3, wI 0, wI 2, wU, wU, wU, wU, wU])) a0_121 rfl) ?_
      exact segD2302 Z a0 hw n0 p q r b0 b1 b2 ra rb mix
    · show WGo _ (117, (LA p q r b0 b1 b2 ra rb mix [wI 2, wI 3, wI 0, wU, wU, wU, wU, wU, wU]), [.int 3, .int 0, .int 3], (HA p q r b0 b1 b2), 6) _
      refine WGo.s (WStep.iadd a0_117) ?_
      show WGo _ (118, (LA p q r b0 b1 b2 ra rb mix [wI 2, wI 3, wI 0, wU, wU, wU, wU, wU, wU]), [.int 3, .int 3], (HA p q r b0 b1 b2), 6) _
      refine WGo.callS a0_118 (ok2 hw _ _ _ _) (wd hw 6 rfl) (wd hw 7 rfl) (argsL := [.int 3, .int 3]) (S := []) (c2 hw _ _ (3 : Int32) (3 : Int32) _ _) rfl rfl rfl rfl rfl rfl (Nat.le_of_ble_eq_true rfl) (Nat.le_of_ble_eq_true rfl) ?_
      rintro _ _ _ ⟨rfl, rfl, rfl⟩
      show WGo _ (121, (LA p q r b0 b1 b2 ra rb mix [wI 2, wI 3, wI 0, wU, wU, wU, wU, wU, wU]), [.int 3], (HA p q r b0 b1 b2), 6) _
      refine WGo.s (WStep.istore (L' := (LA p q r b0 b1 b2 ra rb mix [wI 2, wI 3, wI 0, wI 3, wU, wU, wU, wU, wU])) a0_121 rfl) ?_
      exact segD2303 Z a0 hw n0 p q r b0 b1 b2 ra rb mix
  · show WGo _ (106, (LA p q r b0 b1 b2 ra rb mix [wI 2, wI 3, wU, wU, wU, wU, wU, wU, wU]), [.int 1], (HA p q r b0 b1 b2), 6) _
    refine WGo.s (WStep.istore (L' := (LA p q r b0 b1 b2 ra rb mix [wI 2, wI 3, wI 1, wU, wU, wU, wU, wU, wU])) a0_106 rfl) ?_
    refine WGo.s (WStep.iconst (3 : Int32) a0_108 rfl) ?_
    refine WGo.s (WStep.iload a0_109 rfl) ?_
    refine WGo.s (WStep.iload a0_111 rfl) ?_
    refine WGo.s (WStep.iconst (2 : Int32) a0_113 rfl) ?_
    refine WGo.s (WStep.iushr a0_114) ?_
    refine WGo.s (WStep.iconst (3 : Int32) a0_115 rfl) ?_
    refine WGo.s (WStep.iand a0_116) ?_
    generalize hg_s2 : (((rb.toUInt32 >>> ((2 : Int32) &&& 31).toUInt32).toInt32) &&& (3 : Int32)) = s2
    obtain hs_s2 := four _ _ hg_s2
    rcases hs_s2 with rfl | rfl | rfl | rfl
    · show WGo _ (117, (LA p q r b0 b1 b2 ra rb mix [wI 2, wI 3, wI 1, wU, wU, wU, wU, wU, wU]), [.int 0, .int 1, .int 3], (HA p q r b0 b1 b2), 6) _
      refine WGo.s (WStep.iadd a0_117) ?_
      show WGo _ (118, (LA p q r b0 b1 b2 ra rb mix [wI 2, wI 3, wI 1, wU, wU, wU, wU, wU, wU]), [.int 1, .int 3], (HA p q r b0 b1 b2), 6) _
      refine WGo.callS a0_118 (ok2 hw _ _ _ _) (wd hw 6 rfl) (wd hw 7 rfl) (argsL := [.int 3, .int 1]) (S := []) (c2 hw _ _ (3 : Int32) (1 : Int32) _ _) rfl rfl rfl rfl rfl rfl (Nat.le_of_ble_eq_true rfl) (Nat.le_of_ble_eq_true rfl) ?_
      rintro _ _ _ ⟨rfl, rfl, rfl⟩
      show WGo _ (121, (LA p q r b0 b1 b2 ra rb mix [wI 2, wI 3, wI 1, wU, wU, wU, wU, wU, wU]), [.int 1], (HA p q r b0 b1 b2), 6) _
      refine WGo.s (WStep.istore (L' := (LA p q r b0 b1 b2 ra rb mix [wI 2, wI 3, wI 1, wI 1, wU, wU, wU, wU, wU])) a0_121 rfl) ?_
      exact segD2311 Z a0 hw n0 p q r b0 b1 b2 ra rb mix
    · show WGo _ (117, (LA p q r b0 b1 b2 ra rb mix [wI 2, wI 3, wI 1, wU, wU, wU, wU, wU, wU]), [.int 1, .int 1, .int 3], (HA p q r b0 b1 b2), 6) _
      refine WGo.s (WStep.iadd a0_117) ?_
      show WGo _ (118, (LA p q r b0 b1 b2 ra rb mix [wI 2, wI 3, wI 1, wU, wU, wU, wU, wU, wU]), [.int 2, .int 3], (HA p q r b0 b1 b2), 6) _
      refine WGo.callS a0_118 (ok2 hw _ _ _ _) (wd hw 6 rfl) (wd hw 7 rfl) (argsL := [.int 3, .int 2]) (S := []) (c2 hw _ _ (3 : Int32) (2 : Int32) _ _) rfl rfl rfl rfl rfl rfl (Nat.le_of_ble_eq_true rfl) (Nat.le_of_ble_eq_true rfl) ?_
      rintro _ _ _ ⟨rfl, rfl, rfl⟩
      show WGo _ (121, (LA p q r b0 b1 b2 ra rb mix [wI 2, wI 3, wI 1, wU, wU, wU, wU, wU, wU]), [.int 2], (HA p q r b0 b1 b2), 6) _
      refine WGo.s (WStep.istore (L' := (LA p q r b0 b1 b2 ra rb mix [wI 2, wI 3, wI 1, wI 2, wU, wU, wU, wU, wU])) a0_121 rfl) ?_
      exact segD2312 Z a0 hw n0 p q r b0 b1 b2 ra rb mix
    · show WGo _ (117, (LA p q r b0 b1 b2 ra rb mix [wI 2, wI 3, wI 1, wU, wU, wU, wU, wU, wU]), [.int 2, .int 1, .int 3], (HA p q r b0 b1 b2), 6) _
      refine WGo.s (WStep.iadd a0_117) ?_
      show WGo _ (118, (LA p q r b0 b1 b2 ra rb mix [wI 2, wI 3, wI 1, wU, wU, wU, wU, wU, wU]), [.int 3, .int 3], (HA p q r b0 b1 b2), 6) _
      refine WGo.callS a0_118 (ok2 hw _ _ _ _) (wd hw 6 rfl) (wd hw 7 rfl) (argsL := [.int 3, .int 3]) (S := []) (c2 hw _ _ (3 : Int32) (3 : Int32) _ _) rfl rfl rfl rfl rfl rfl (Nat.le_of_ble_eq_true rfl) (Nat.le_of_ble_eq_true rfl) ?_
      rintro _ _ _ ⟨rfl, rfl, rfl⟩
      show WGo _ (121, (LA p q r b0 b1 b2 ra rb mix [wI 2, wI 3, wI 1, wU, wU, wU, wU, wU, wU]), [.int 3], (HA p q r b0 b1 b2), 6) _
      refine WGo.s (WStep.istore (L' := (LA p q r b0 b1 b2 ra rb mix [wI 2, wI 3, wI 1, wI 3, wU, wU, wU, wU, wU])) a0_121 rfl) ?_
      exact segD2313 Z a0 hw n0 p q r b0 b1 b2 ra rb mix
    · show WGo _ (117, (LA p q r b0 b1 b2 ra rb mix [wI 2, wI 3, wI 1, wU, wU, wU, wU, wU, wU]), [.int 3, .int 1, .int 3], (HA p q r b0 b1 b2), 6) _
      refine WGo.s (WStep.iadd a0_117) ?_
      show WGo _ (118, (LA p q r b0 b1 b2 ra rb mix [wI 2, wI 3, wI 1, wU, wU, wU, wU, wU, wU]), [.int 4, .int 3], (HA p q r b0 b1 b2), 6) _
      refine WGo.callS a0_118 (ok2 hw _ _ _ _) (wd hw 6 rfl) (wd hw 7 rfl) (argsL := [.int 3, .int 4]) (S := []) (c2 hw _ _ (3 : Int32) (4 : Int32) _ _) rfl rfl rfl rfl rfl rfl (Nat.le_of_ble_eq_true rfl) (Nat.le_of_ble_eq_true rfl) ?_
      rintro _ _ _ ⟨rfl, rfl, rfl⟩
      show WGo _ (121, (LA p q r b0 b1 b2 ra rb mix [wI 2, wI 3, wI 1, wU, wU, wU, wU, wU, wU]), [.int 3], (HA p q r b0 b1 b2), 6) _
      refine WGo.s (WStep.istore (L' := (LA p q r b0 b1 b2 ra rb mix [wI 2, wI 3, wI 1, wI 3, wU, wU, wU, wU, wU])) a0_121 rfl) ?_
      exact segD2313 Z a0 hw n0 p q r b0 b1 b2 ra rb mix
  · show WGo _ (106, (LA p q r b0 b1 b2 ra rb mix [wI 2, wI 3, wU, wU, wU, wU, wU, wU, wU]), [.int 2], (HA p q r b0 b1 b2), 6) _
    refine WGo.s (WStep.istore (L' := (LA p q r b0 b1 b2 ra rb mix [wI 2, wI 3, wI 2, wU, wU, wU, wU, wU, wU])) a0_106 rfl) ?_
    refine WGo.s (WStep.iconst (3 : Int32) a0_108 rfl) ?_
    refine WGo.s (WStep.iload a0_109 rfl) ?_
    refine WGo.s (WStep.iload a0_111 rfl) ?_
    refine WGo.s (WStep.iconst (2 : Int32) a0_113 rfl) ?_
    refine WGo.s (WStep.iushr a0_114) ?_
    refine WGo.s (WStep.iconst (3 : Int32) a0_115 rfl) ?_
    refine WGo.s (WStep.iand a0_116) ?_
    generalize hg_s2 : (((rb.toUInt32 >>> ((2 : Int32) &&& 31).toUInt32).toInt32) &&& (3 : Int32)) = s2
    obtain hs_s2 := four _ _ hg_s2
    rcases hs_s2 with rfl | rfl | rfl | rfl
    · show WGo _ (117, (LA p q r b0 b1 b2 ra rb mix [wI 2, wI 3, wI 2, wU, wU, wU, wU, wU, wU]), [.int 0, .int 2, .int 3], (HA p q r b0 b1 b2), 6) _
      refine WGo.s (WStep.iadd a0_117) ?_
      show WGo _ (118, (LA p q r b0 b1 b2 ra rb mix [wI 2, wI 3, wI 2, wU, wU, wU, wU, wU, wU]), [.int 2, .int 3], (HA p q r b0 b1 b2), 6) _
      refine WGo.callS a0_118 (ok2 hw _ _ _ _) (wd hw 6 rfl) (wd hw 7 rfl) (argsL := [.int 3, .int 2]) (S := []) (c2 hw _ _ (3 : Int32) (2 : Int32) _ _) rfl rfl rfl rfl rfl rfl (Nat.le_of_ble_eq_true rfl) (Nat.le_of_ble_eq_true rfl) ?_
      rintro _ _ _ ⟨rfl, rfl, rfl⟩
      show WGo _ (121, (LA p q r b0 b1 b2 ra rb mix [wI 2, wI 3, wI 2, wU, wU, wU, wU, wU, wU]), [.int 2], (HA p q r b0 b1 b2), 6) _
      refine WGo.s (WStep.istore (L' := (LA p q r b0 b1 b2 ra rb mix [wI 2, wI 3, wI 2, wI 2, wU, wU, wU, wU, wU])) a0_121 rfl) ?_
      exact segD2322 Z a0 hw n0 p q r b0 b1 b2 ra rb mix
    · show WGo _ (117, (LA p q r b0 b1 b2 ra rb mix [wI 2, wI 3, wI 2, wU, wU, wU, wU, wU, wU]), [.int 1, .int 2, .int 3], (HA p q r b0 b1 b2), 6) _
      refine WGo.s (WStep.iadd a0_117) ?_
      show WGo _ (118, (LA p q r b0 b1 b2 ra rb mix [wI 2, wI 3, wI 2, wU, wU, wU, wU, wU, wU]), [.int 3, .int 3], (HA p q r b0 b1 b2), 6) _
      refine WGo.callS a0_118 (ok2 hw _ _ _ _) (wd hw 6 rfl) (wd hw 7 rfl) (argsL := [.int 3, .int 3]) (S := []) (c2 hw _ _ (3 : Int32) (3 : Int32) _ _) rfl rfl rfl rfl rfl rfl (Nat.le_of_ble_eq_true rfl) (Nat.le_of_ble_eq_true rfl) ?_
      rintro _ _ _ ⟨rfl, rfl, rfl⟩
      show WGo _ (121, (LA p q r b0 b1 b2 ra rb mix [wI 2, wI 3, wI 2, wU, wU, wU, wU, wU, wU]), [.int 3], (HA p q r b0 b1 b2), 6) _
      refine WGo.s (WStep.istore (L' := (LA p q r b0 b1 b2 ra rb mix [wI 2, wI 3, wI 2, wI 3, wU, wU, wU, wU, wU])) a0_121 rfl) ?_
      exact segD2323 Z a0 hw n0 p q r b0 b1 b2 ra rb mix
    · show WGo _ (117, (LA p q r b0 b1 b2 ra rb mix [wI 2, wI 3, wI 2, wU, wU, wU, wU, wU, wU]), [.int 2, .int 2, .int 3], (HA p q r b0 b1 b2), 6) _
      refine WGo.s (WStep.iadd a0_117) ?_
      show WGo _ (118, (LA p q r b0 b1 b2 ra rb mix [wI 2, wI 3, wI 2, wU, wU, wU, wU, wU, wU]), [.int 4, .int 3], (HA p q r b0 b1 b2), 6) _
      refine WGo.callS a0_118 (ok2 hw _ _ _ _) (wd hw 6 rfl) (wd hw 7 rfl) (argsL := [.int 3, .int 4]) (S := []) (c2 hw _ _ (3 : Int32) (4 : Int32) _ _) rfl rfl rfl rfl rfl rfl (Nat.le_of_ble_eq_true rfl) (Nat.le_of_ble_eq_true rfl) ?_
      rintro _ _ _ ⟨rfl, rfl, rfl⟩
      show WGo _ (121, (LA p q r b0 b1 b2 ra rb mix [wI 2, wI 3, wI 2, wU, wU, wU, wU, wU, wU]), [.int 3], (HA p q r b0 b1 b2), 6) _
      refine WGo.s (WStep.istore (L' := (LA p q r b0 b1 b2 ra rb mix [wI 2, wI 3, wI 2, wI 3, wU, wU, wU, wU, wU])) a0_121 rfl) ?_
      exact segD2323 Z a0 hw n0 p q r b0 b1 b2 ra rb mix
    · show WGo _ (117, (LA p q r b0 b1 b2 ra rb mix [wI 2, wI 3, wI 2, wU, wU, wU, wU, wU, wU]), [.int 3, .int 2, .int 3], (HA p q r b0 b1 b2), 6) _
      refine WGo.s (WStep.iadd a0_117) ?_
      show WGo _ (118, (LA p q r b0 b1 b2 ra rb mix [wI 2, wI 3, wI 2, wU, wU, wU, wU, wU, wU]), [.int 5, .int 3], (HA p q r b0 b1 b2), 6) _
      refine WGo.callS a0_118 (ok2 hw _ _ _ _) (wd hw 6 rfl) (wd hw 7 rfl) (argsL := [.int 3, .int 5]) (S := []) (c2 hw _ _ (3 : Int32) (5 : Int32) _ _) rfl rfl rfl rfl rfl rfl (Nat.le_of_ble_eq_true rfl) (Nat.le_of_ble_eq_true rfl) ?_
      rintro _ _ _ ⟨rfl, rfl, rfl⟩
      show WGo _ (121, (LA p q r b0 b1 b2 ra rb mix [wI 2, wI 3, wI 2, wU, wU, wU, wU, wU, wU]), [.int 3], (HA p q r b0 b1 b2), 6) _
      refine WGo.s (WStep.istore (L' := (LA p q r b0 b1 b2 ra rb mix [wI 2, wI 3, wI 2, wI 3, wU, wU, wU, wU, wU])) a0_121 rfl) ?_
      exact segD2323 Z a0 hw n0 p q r b0 b1 b2 ra rb mix
  · show WGo _ (106, (LA p q r b0 b1 b2 ra rb mix [wI 2, wI 3, wU, wU, wU, wU, wU, wU, wU]), [.int 3], (HA p q r b0 b1 b2), 6) _
    refine WGo.s (WStep.istore (L' := (LA p q r b0 b1 b2 ra rb mix [wI 2, wI 3, wI 3, wU, wU, wU, wU, wU, wU])) a0_106 rfl) ?_
    refine WGo.s (WStep.iconst (3 : Int32) a0_108 rfl) ?_
    refine WGo.s (WStep.iload a0_109 rfl) ?_
    refine WGo.s (WStep.iload a0_111 rfl) ?_
    refine WGo.s (WStep.iconst (2 : Int32) a0_113 rfl) ?_
    refine WGo.s (WStep.iushr a0_114) ?_
    refine WGo.s (WStep.iconst (3 : Int32) a0_115 rfl) ?_
    refine WGo.s (WStep.iand a0_116) ?_
    generalize hg_s2 : (((rb.toUInt32 >>> ((2 : Int32) &&& 31).toUInt32).toInt32) &&& (3 : Int32)) = s2
    obtain hs_s2 := four _ _ hg_s2
    rcases hs_s2 with rfl | rfl | rfl | rfl
    · show WGo _ (117, (LA p q r b0 b1 b2 ra rb mix [wI 2, wI 3, wI 3, wU, wU, wU, wU, wU, wU]), [.int 0, .int 3, .int 3], (HA p q r b0 b1 b2), 6) _
      refine WGo.s (WStep.iadd a0_117) ?_
      show WGo _ (118, (LA p q r b0 b1 b2 ra rb mix [wI 2, wI 3, wI 3, wU, wU, wU, wU, wU, wU]), [.int 3, .int 3], (HA p q r b0 b1 b2), 6) _
      refine WGo.callS a0_118 (ok2 hw _ _ _ _) (wd hw 6 rfl) (wd hw 7 rfl) (argsL := [.int 3, .int 3]) (S := []) (c2 hw _ _ (3 : Int32) (3 : Int32) _ _) rfl rfl rfl rfl rfl rfl (Nat.le_of_ble_eq_true rfl) (Nat.le_of_ble_eq_true rfl) ?_
      rintro _ _ _ ⟨rfl, rfl, rfl⟩
      show WGo _ (121, (LA p q r b0 b1 b2 ra rb mix [wI 2, wI 3, wI 3, wU, wU, wU, wU, wU, wU]), [.int 3], (HA p q r b0 b1 b2), 6) _
      refine WGo.s (WStep.istore (L' := (LA p q r b0 b1 b2 ra rb mix [wI 2, wI 3, wI 3, wI 3, wU, wU, wU, wU, wU])) a0_121 rfl) ?_
      exact segD2333 Z a0 hw n0 p q r b0 b1 b2 ra rb mix
    · show WGo _ (117, (LA p q r b0 b1 b2 ra rb mix [wI 2, wI 3, wI 3, wU, wU, wU, wU, wU, wU]), [.int 1, .int 3, .int 3], (HA p q r b0 b1 b2), 6) _
      refine WGo.s (WStep.iadd a0_117) ?_
      show WGo _ (118, (LA p q r b0 b1 b2 ra rb mix [wI 2, wI 3, wI 3, wU, wU, wU, wU, wU, wU]), [.int 4, .int 3], (HA p q r b0 b1 b2), 6) _
      refine WGo.callS a0_118 (ok2 hw _ _ _ _) (wd hw 6 rfl) (wd hw 7 rfl) (argsL := [.int 3, .int 4]) (S := []) (c2 hw _ _ (3 : Int32) (4 : Int32) _ _) rfl rfl rfl rfl rfl rfl (Nat.le_of_ble_eq_true rfl) (Nat.le_of_ble_eq_true rfl) ?_
      rintro _ _ _ ⟨rfl, rfl, rfl⟩
      show WGo _ (121, (LA p q r b0 b1 b2 ra rb mix [wI 2, wI 3, wI 3, wU, wU, wU, wU, wU, wU]), [.int 3], (HA p q r b0 b1 b2), 6) _
      refine WGo.s (WStep.istore (L' := (LA p q r b0 b1 b2 ra rb mix [wI 2, wI 3, wI 3, wI 3, wU, wU, wU, wU, wU])) a0_121 rfl) ?_
      exact segD2333 Z a0 hw n0 p q r b0 b1 b2 ra rb mix
    · show WGo _ (117, (LA p q r b0 b1 b2 ra rb mix [wI 2, wI 3, wI 3, wU, wU, wU, wU, wU, wU]), [.int 2, .int 3, .int 3], (HA p q r b0 b1 b2), 6) _
      refine WGo.s (WStep.iadd a0_117) ?_
      show WGo _ (118, (LA p q r b0 b1 b2 ra rb mix [wI 2, wI 3, wI 3, wU, wU, wU, wU, wU, wU]), [.int 5, .int 3], (HA p q r b0 b1 b2), 6) _
      refine WGo.callS a0_118 (ok2 hw _ _ _ _) (wd hw 6 rfl) (wd hw 7 rfl) (argsL := [.int 3, .int 5]) (S := []) (c2 hw _ _ (3 : Int32) (5 : Int32) _ _) rfl rfl rfl rfl rfl rfl (Nat.le_of_ble_eq_true rfl) (Nat.le_of_ble_eq_true rfl) ?_
      rintro _ _ _ ⟨rfl, rfl, rfl⟩
      show WGo _ (121, (LA p q r b0 b1 b2 ra rb mix [wI 2, wI 3, wI 3, wU, wU, wU, wU, wU, wU]), [.int 3], (HA p q r b0 b1 b2), 6) _
      refine WGo.s (WStep.istore (L' := (LA p q r b0 b1 b2 ra rb mix [wI 2, wI 3, wI 3, wI 3, wU, wU, wU, wU, wU])) a0_121 rfl) ?_
      exact segD2333 Z a0 hw n0 p q r b0 b1 b2 ra rb mix
    · show WGo _ (117, (LA p q r b0 b1 b2 ra rb mix [wI 2, wI 3, wI 3, wU, wU, wU, wU, wU, wU]), [.int 3, .int 3, .int 3], (HA p q r b0 b1 b2), 6) _
      refine WGo.s (WStep.iadd a0_117) ?_
      show WGo _ (118, (LA p q r b0 b1 b2 ra rb mix [wI 2, wI 3, wI 3, wU, wU, wU, wU, wU, wU]), [.int 6, .int 3], (HA p q r b0 b1 b2), 6) _
      refine WGo.callS a0_118 (ok2 hw _ _ _ _) (wd hw 6 rfl) (wd hw 7 rfl) (argsL := [.int 3, .int 6]) (S := []) (c2 hw _ _ (3 : Int32) (6 : Int32) _ _) rfl rfl rfl rfl rfl rfl (Nat.le_of_ble_eq_true rfl) (Nat.le_of_ble_eq_true rfl) ?_
      rintro _ _ _ ⟨rfl, rfl, rfl⟩
      show WGo _ (121, (LA p q r b0 b1 b2 ra rb mix [wI 2, wI 3, wI 3, wU, wU, wU, wU, wU, wU]), [.int 3], (HA p q r b0 b1 b2), 6) _
      refine WGo.s (WStep.istore (L' := (LA p q r b0 b1 b2 ra rb mix [wI 2, wI 3, wI 3, wI 3, wU, wU, wU, wU, wU])) a0_121 rfl) ?_
      exact segD2333 Z a0 hw n0 p q r b0 b1 b2 ra rb mix
theorem segC33 (Z : State) (a0 : Array Value) (hw : ∀ d ∈ tables_1, d.before a0 Z = true) (n0 : Nat) (p q r b0 b1 b2 : Int64) (ra rb mix : Int32) : WGo (g0 Z (fun k => n0 + k) n0 0 0) (102, (LA p q r b0 b1 b2 ra rb mix [wI 3, wI 3, wU, wU, wU, wU, wU, wU, wU]), [], (HA p q r b0 b1 b2), 6) (fun v σ' u' => v = some (.int 1) ∧ σ'.length ≤ 16 ∧ u' ≤ 128) := by
  refine WGo.s (WStep.iload a0_102 rfl) ?_
  refine WGo.s (WStep.iconst (3 : Int32) a0_104 rfl) ?_
  refine WGo.s (WStep.iand a0_105) ?_
  generalize hg_s1 : (rb &&& (3 : Int32)) = s1
  obtain hs_s1 := four _ _ hg_s1
  rcases hs_s1 with rfl | rfl | rfl | rfl
  · show WGo _ (106, (LA p q r b0 b1 b2 ra rb mix [wI 3, wI 3, wU, wU, wU, wU, wU, wU, wU]), [.int 0], (HA p q r b0 b1 b2), 6) _
    refine WGo.s (WStep.istore (L' := (LA p q r b0 b1 b2 ra rb mix [wI 3, wI 3, wI 0, wU, wU, wU, wU, wU, wU])) a0_106 rfl) ?_
    refine WGo.s (WStep.iconst (3 : Int32) a0_108 rfl) ?_
    refine WGo.s (WStep.iload a0_109 rfl) ?_
    refine WGo.s (WStep.iload a0_111 rfl) ?_
    refine WGo.s (WStep.iconst (2 : Int32) a0_113 rfl) ?_
    refine WGo.s (WStep.iushr a0_114) ?_
    refine WGo.s (WStep.iconst (3 : Int32) a0_115 rfl) ?_
    refine WGo.s (WStep.iand a0_116) ?_
    generalize hg_s2 : (((rb.toUInt32 >>> ((2 : Int32) &&& 31).toUInt32).toInt32) &&& (3 : Int32)) = s2
    obtain hs_s2 := four _ _ hg_s2
    rcases hs_s2 with rfl | rfl | rfl | rfl
    · show WGo _ (117, (LA p q r b0 b1 b2 ra rb mix [wI 3, wI 3, wI 0, wU, wU, wU, wU, wU, wU]), [.int 0, .int 0, .int 3], (HA p q r b0 b1 b2), 6) _
      refine WGo.s (WStep.iadd a0_117) ?_
      show WGo _ (118, (LA p q r b0 b1 b2 ra rb mix [wI 3, wI 3, wI 0, wU, wU, wU, wU, wU, wU]), [.int 0, .int 3], (HA p q r b0 b1 b2), 6) _
      refine WGo.callS a0_118 (ok2 hw _ _ _ _) (wd hw 6 rfl) (wd hw 7 rfl) (argsL := [.int 3, .int 0]) (S := []) (c2 hw _ _ (3 : Int32) (0 : Int32) _ _) rfl rfl rfl rfl rfl rfl (Nat.le_of_ble_eq_true rfl) (Nat.le_of_ble_eq_true rfl) ?_
      rintro _ _ _ ⟨rfl, rfl, rfl⟩
      show WGo _ (121, (LA p q r b0 b1 b2 ra rb mix [wI 3, wI 3, wI 0, wU, wU, wU, wU, wU, wU]), [.int 0], (HA p q r b0 b1 b2), 6) _
      refine WGo.s (WStep.istore (L' := (LA p q r b0 b1 b2 ra rb mix [wI 3, wI 3, wI 0, wI 0, wU, wU, wU, wU, wU])) a0_121 rfl) ?_
      exact segD3300 Z a0 hw n0 p q r b0 b1 b2 ra rb mix
    · show WGo _ (117, (LA p q r b0 b1 b2 ra rb mix [wI 3, wI 3, wI 0, wU, wU, wU, wU, wU, wU]), [.int 1, .int 0, .int 3], (HA p q r b0 b1 b2), 6) _
      refine WGo.s (WStep.iadd a0_117) ?_
      show WGo _ (118, (LA p q r b0 b1 b2 ra rb mix [wI 3, wI 3, wI 0, wU, wU, wU, wU, wU, wU]), [.int 1, .int 3], (HA p q r b0 b1 b2), 6) _
      refine WGo.callS a0_118 (ok2 hw _ _ _ _) (wd hw 6 rfl) (wd hw 7 rfl) (argsL := [.int 3, .int 1]) (S := []) (c2 hw _ _ (3 : Int32) (1 : Int32) _ _) rfl rfl rfl rfl rfl rfl (Nat.le_of_ble_eq_true rfl) (Nat.le_of_ble_eq_true rfl) ?_
      rintro _ _ _ ⟨rfl, rfl, rfl⟩
      show WGo _ (121, (LA p q r b0 b1 b2 ra rb mix [wI 3, wI 3, wI 0, wU, wU, wU, wU, wU, wU]), [.int 1], (HA p q r b0 b1 b2), 6) _
      refine WGo.s (WStep.istore (L' := (LA p q r b0 b1 b2 ra rb mix [wI 3, wI 3, wI 0, wI 1, wU, wU, wU, wU, wU])) a0_121 rfl) ?_
      exact segD3301 Z a0 hw n0 p q r b0 b1 b2 ra rb mix
    · show WGo _ (117, (LA p q r b0 b1 b2 ra rb mix [wI 3, wI 3, wI 0, wU, wU, wU, wU, wU, wU]), [.int 2, .int 0, .int 3], (HA p q r b0 b1 b2), 6) _
      refine WGo.s (WStep.iadd a0_117) ?_
      show WGo _ (118, (LA p q r b0 b1 b2 ra rb mix [wI 3, wI 3, wI 0, wU, wU, wU, wU, wU, wU]), [.int 2, .int 3], (HA p q r b0 b1 b2), 6) _
      refine WGo.callS a0_118 (ok2 hw _ _ _ _) (wd hw 6 rfl) (wd hw 7 rfl) (argsL := [.int 3, .int 2]) (S := []) (c2 hw _ _ (3 : Int32) (2 : Int32) _ _) rfl rfl rfl rfl rfl rfl (Nat.le_of_ble_eq_true rfl) (Nat.le_of_ble_eq_true rfl) ?_
      rintro _ _ _ ⟨rfl, rfl, rfl⟩
      show WGo _ (121, (LA p q r b0 b1 b2 ra rb mix [wI 3, wI 3, wI 0, wU, wU, wU, wU, wU, wU]), [.int 2], (HA p q r b0 b1 b2), 6) _
      refine WGo.s (WStep.istore (L' := (LA p q r b0 b1 b2 ra rb mix [wI 3, wI 3, wI 0, wI 2, wU, wU, wU, wU, wU])) a0_121 rfl) ?_
      exact segD3302 Z a0 hw n0 p q r b0 b1 b2 ra rb mix
    · show WGo _ (117, (LA p q r b0 b1 b2 ra rb mix [wI 3, wI 3, wI 0, wU, wU, wU, wU, wU, wU]), [.int 3, .int 0, .int 3], (HA p q r b0 b1 b2), 6) _
      refine WGo.s (WStep.iadd a0_117) ?_
      show WGo _ (118, (LA p q r b0 b1 b2 ra rb mix [wI 3, wI 3, wI 0, wU, wU, wU, wU, wU, wU]), [.int 3, .int 3], (HA p q r b0 b1 b2), 6) _
      refine WGo.callS a0_118 (ok2 hw _ _ _ _) (wd hw 6 rfl) (wd hw 7 rfl) (argsL := [.int 3, .int 3]) (S := []) (c2 hw _ _ (3 : Int32) (3 : Int32) _ _) rfl rfl rfl rfl rfl rfl (Nat.le_of_ble_eq_true rfl) (Nat.le_of_ble_eq_true rfl) ?_
      rintro _ _ _ ⟨rfl, rfl, rfl⟩
      show WGo _ (121, (LA p q r b0 b1 b2 ra rb mix [wI 3, wI 3, wI 0, wU, wU, wU, wU, wU, wU]), [.int 3], (HA p q r b0 b1 b2), 6) _
      refine WGo.s (WStep.istore (L' := (LA p q r b0 b1 b2 ra rb mix [wI 3, wI 3, wI 0, wI 3, wU, wU, wU, wU, wU])) a0_121 rfl) ?_
      exact segD3303 Z a0 hw n0 p q r b0 b1 b2 ra rb mix
  · show WGo _ (106, (LA p q r b0 b1 b2 ra rb mix [wI 3, wI 3, wU, wU, wU, wU, wU, wU, wU]), [.int 1], (HA p q r b0 b1 b2), 6) _
    refine WGo.s (WStep.istore (L' := (LA p q r b0 b1 b2 ra rb mix [wI 3, wI 3, wI 1, wU, wU, wU, wU, wU, wU])) a0_106 rfl) ?_
    refine WGo.s (WStep.iconst (3 : Int32) a0_108 rfl) ?_
    refine WGo.s (WStep.iload a0_109 rfl) ?_
    refine WGo.s (WStep.iload a0_111 rfl) ?_
    refine WGo.s (WStep.iconst (2 : Int32) a0_113 rfl) ?_
    refine WGo.s (WStep.iushr a0_114) ?_
    refine WGo.s (WStep.iconst (3 : Int32) a0_115 rfl) ?_
    refine WGo.s (WStep.iand a0_116) ?_
    generalize hg_s2 : (((rb.toUInt32 >>> ((2 : Int32) &&& 31).toUInt32).toInt32) &&& (3 : Int32)) = s2
    obtain hs_s2 := four _ _ hg_s2
    rcases hs_s2 with rfl | rfl | rfl | rfl
    · show WGo _ (117, (LA p q r b0 b1 b2 ra rb mix [wI 3, wI 3, wI 1, wU, wU, wU, wU, wU, wU]), [.int 0, .int 1, .int 3], (HA p q r b0 b1 b2), 6) _
      refine WGo.s (WStep.iadd a0_117) ?_
      show WGo _ (118, (LA p q r b0 b1 b2 ra rb mix [wI 3, wI 3, wI 1, wU, wU, wU, wU, wU, wU]), [.int 1, .int 3], (HA p q r b0 b1 b2), 6) _
      refine WGo.callS a0_118 (ok2 hw _ _ _ _) (wd hw 6 rfl) (wd hw 7 rfl) (argsL := [.int 3, .int 1]) (S := []) (c2 hw _ _ (3 : Int32) (1 : Int32) _ _) rfl rfl rfl rfl rfl rfl (Nat.le_of_ble_eq_true rfl) (Nat.le_of_ble_eq_true rfl) ?_
      rintro _ _ _ ⟨rfl, rfl, rfl⟩
      show WGo _ (121, (LA p q r b0 b1 b2 ra rb mix [wI 3, wI 3, wI 1, wU, wU, wU, wU, wU, wU]), [.int 1], (HA p q r b0 b1 b2), 6) _
      refine WGo.s (WStep.istore (L' := (LA p q r b0 b1 b2 ra rb mix [wI 3, wI 3, wI 1, wI 1, wU, wU, wU, wU, wU])) a0_121 rfl) ?_
      exact segD3311 Z a0 hw n0 p q r b0 b1 b2 ra rb mix
    · show WGo _ (117, (LA p q r b0 b1 b2 ra rb mix [wI 3, wI 3, wI 1, wU, wU, wU, wU, wU, wU]), [.int 1, .int 1, .int 3], (HA p q r b0 b1 b2), 6) _
      refine WGo.s (WStep.iadd a0_117) ?_
      show WGo _ (118, (LA p q r b0 b1 b2 ra rb mix [wI 3, wI 3, wI 1, wU, wU, wU, wU, wU, wU]), [.int 2, .int 3], (HA p q r b0 b1 b2), 6) _
      refine WGo.callS a0_118 (ok2 hw _ _ _ _) (wd hw 6 rfl) (wd hw 7 rfl) (argsL := [.int 3, .int 2]) (S := []) (c2 hw _ _ (3 : Int32) (2 : Int32) _ _) rfl rfl rfl rfl rfl rfl (Nat.le_of_ble_eq_true rfl) (Nat.le_of_ble_eq_true rfl) ?_
      rintro _ _ _ ⟨rfl, rfl, rfl⟩
      show WGo _ (121, (LA p q r b0 b1 b2 ra rb mix [wI 3, wI 3, wI 1, wU, wU, wU, wU, wU, wU]), [.int 2], (HA p q r b0 b1 b2), 6) _
      refine WGo.s (WStep.istore (L' := (LA p q r b0 b1 b2 ra rb mix [wI 3, wI 3, wI 1, wI 2, wU, wU, wU, wU, wU])) a0_121 rfl) ?_
      exact segD3312 Z a0 hw n0 p q r b0 b1 b2 ra rb mix
    · show WGo _ (117, (LA p q r b0 b1 b2 ra rb mix [wI 3, wI 3, wI 1, wU, wU, wU, wU, wU, wU]), [.int 2, .int 1, .int 3], (HA p q r b0 b1 b2), 6) _
      refine WGo.s (WStep.iadd a0_117) ?_
      show WGo _ (118, (LA p q r b0 b1 b2 ra rb mix [wI 3, wI 3, wI 1, wU, wU, wU, wU, wU, wU]), [.int 3, .int 3], (HA p q r b0 b1 b2), 6) _
      refine WGo.callS a0_118 (ok2 hw _ _ _ _) (wd hw 6 rfl) (wd hw 7 rfl) (argsL := [.int 3, .int 3]) (S := []) (c2 hw _ _ (3 : Int32) (3 : Int32) _ _) rfl rfl rfl rfl rfl rfl (Nat.le_of_ble_eq_true rfl) (Nat.le_of_ble_eq_true rfl) ?_
      rintro _ _ _ ⟨rfl, rfl, rfl⟩
      show WGo _ (121, (LA p q r b0 b1 b2 ra rb mix [wI 3, wI 3, wI 1, wU, wU, wU, wU, wU, wU]), [.int 3], (HA p q r b0 b1 b2), 6) _
      refine WGo.s (WStep.istore (L' := (LA p q r b0 b1 b2 ra rb mix [wI 3, wI 3, wI 1, wI 3, wU, wU, wU, wU, wU])) a0_121 rfl) ?_
      exact segD3313 Z a0 hw n0 p q r b0 b1 b2 ra rb mix
    · show WGo _ (117, (LA p q r b0 b1 b2 ra rb mix [wI 3, wI 3, wI 1, wU, wU, wU, wU, wU, wU]), [.int 3, .int 1, .int 3], (HA p q r b0 b1 b2), 6) _
      refine WGo.s (WStep.iadd a0_117) ?_
      show WGo _ (118, (LA p q r b0 b1 b2 ra rb mix [wI 3, wI 3, wI 1, wU, wU, wU, wU, wU, wU]), [.int 4, .int 3], (HA p q r b0 b1 b2), 6) _
      refine WGo.callS a0_118 (ok2 hw _ _ _ _) (wd hw 6 rfl) (wd hw 7 rfl) (argsL := [.int 3, .int 4]) (S := []) (c2 hw _ _ (3 : Int32) (4 : Int32) _ _) rfl rfl rfl rfl rfl rfl (Nat.le_of_ble_eq_true rfl) (Nat.le_of_ble_eq_true rfl) ?_
      rintro _ _ _ ⟨rfl, rfl, rfl⟩
      show WGo _ (121, (LA p q r b0 b1 b2 ra rb mix [wI 3, wI 3, wI 1, wU, wU, wU, wU, wU, wU]), [.int 3], (HA p q r b0 b1 b2), 6) _
      refine WGo.s (WStep.istore (L' := (LA p q r b0 b1 b2 ra rb mix [wI 3, wI 3, wI 1, wI 3, wU, wU, wU, wU, wU])) a0_121 rfl) ?_
      exact segD3313 Z a0 hw n0 p q r b0 b1 b2 ra rb mix
  · show WGo _ (106, (LA p q r b0 b1 b2 ra rb mix [wI 3, wI 3, wU, wU, wU, wU, wU, wU, wU]), [.int 2], (HA p q r b0 b1 b2), 6) _
    refine WGo.s (WStep.istore (L' := (LA p q r b0 b1 b2 ra rb mix [wI 3, wI 3, wI 2, wU, wU, wU, wU, wU, wU])) a0_106 rfl) ?_
    refine WGo.s (WStep.iconst (3 : Int32) a0_108 rfl) ?_
    refine WGo.s (WStep.iload a0_109 rfl) ?_
    refine WGo.s (WStep.iload a0_111 rfl) ?_
    refine WGo.s (WStep.iconst (2 : Int32) a0_113 rfl) ?_
    refine WGo.s (WStep.iushr a0_114) ?_
    refine WGo.s (WStep.iconst (3 : Int32) a0_115 rfl) ?_
    refine WGo.s (WStep.iand a0_116) ?_
    generalize hg_s2 : (((rb.toUInt32 >>> ((2 : Int32) &&& 31).toUInt32).toInt32) &&& (3 : Int32)) = s2
    obtain hs_s2 := four _ _ hg_s2
    rcases hs_s2 with rfl | rfl | rfl | rfl
    · show WGo _ (117, (LA p q r b0 b1 b2 ra rb mix [wI 3, wI 3, wI 2, wU, wU, wU, wU, wU, wU]), [.int 0, .int 2, .int 3], (HA p q r b0 b1 b2), 6) _
      refine WGo.s (WStep.iadd a0_117) ?_
      show WGo _ (118, (LA p q r b0 b1 b2 ra rb mix [wI 3, wI 3, wI 2, wU, wU, wU, wU, wU, wU]), [.int 2, .int 3], (HA p q r b0 b1 b2), 6) _
      refine WGo.callS a0_118 (ok2 hw _ _ _ _) (wd hw 6 rfl) (wd hw 7 rfl) (argsL := [.int 3, .int 2]) (S := []) (c2 hw _ _ (3 : Int32) (2 : Int32) _ _) rfl rfl rfl rfl rfl rfl (Nat.le_of_ble_eq_true rfl) (Nat.le_of_ble_eq_true rfl) ?_
      rintro _ _ _ ⟨rfl, rfl, rfl⟩
      show WGo _ (121, (LA p q r b0 b1 b2 ra rb mix [wI 3, wI 3, wI 2, wU, wU, wU, wU, wU, wU]), [.int 2], (HA p q r b0 b1 b2), 6) _
      refine WGo.s (WStep.istore (L' := (LA p q r b0 b1 b2 ra rb mix [wI 3, wI 3, wI 2, wI 2, wU, wU, wU, wU, wU])) a0_121 rfl) ?_
      exact segD3322 Z a0 hw n0 p q r b0 b1 b2 ra rb mix
    · show WGo _ (117, (LA p q r b0 b1 b2 ra rb mix [wI 3, wI 3, wI 2, wU, wU, wU, wU, wU, wU]), [.int 1, .int 2, .int 3], (HA p q r b0 b1 b2), 6) _
      refine WGo.s (WStep.iadd a0_117) ?_
      show WGo _ (118, (LA p q r b0 b1 b2 ra rb mix [wI 3, wI 3, wI 2, wU, wU, wU, wU, wU, wU]), [.int 3, .int 3], (HA p q r b0 b1 b2), 6) _
      refine WGo.callS a0_118 (ok2 hw _ _ _ _) (wd hw 6 rfl) (wd hw 7 rfl) (argsL := [.int 3, .int 3]) (S := []) (c2 hw _ _ (3 : Int32) (3 : Int32) _ _) rfl rfl rfl rfl rfl rfl (Nat.le_of_ble_eq_true rfl) (Nat.le_of_ble_eq_true rfl) ?_
      rintro _ _ _ ⟨rfl, rfl, rfl⟩
      show WGo _ (121, (LA p q r b0 b1 b2 ra rb mix [wI 3, wI 3, wI 2, wU, wU, wU, wU, wU, wU]), [.int 3], (HA p q r b0 b1 b2), 6) _
      refine WGo.s (WStep.istore (L' := (LA p q r b0 b1 b2 ra rb mix [wI 3, wI 3, wI 2, wI 3, wU, wU, wU, wU, wU])) a0_121 rfl) ?_
      exact segD3323 Z a0 hw n0 p q r b0 b1 b2 ra rb mix
    · show WGo _ (117, (LA p q r b0 b1 b2 ra rb mix [wI 3, wI 3, wI 2, wU, wU, wU, wU, wU, wU]), [.int 2, .int 2, .int 3], (HA p q r b0 b1 b2), 6) _
      refine WGo.s (WStep.iadd a0_117) ?_
      show WGo _ (118, (LA p q r b0 b1 b2 ra rb mix [wI 3, wI 3, wI 2, wU, wU, wU, wU, wU, wU]), [.int 4, .int 3], (HA p q r b0 b1 b2), 6) _
      refine WGo.callS a0_118 (ok2 hw _ _ _ _) (wd hw 6 rfl) (wd hw 7 rfl) (argsL := [.int 3, .int 4]) (S := []) (c2 hw _ _ (3 : Int32) (4 : Int32) _ _) rfl rfl rfl rfl rfl rfl (Nat.le_of_ble_eq_true rfl) (Nat.le_of_ble_eq_true rfl) ?_
      rintro _ _ _ ⟨rfl, rfl, rfl⟩
      show WGo _ (121, (LA p q r b0 b1 b2 ra rb mix [wI 3, wI 3, wI 2, wU, wU, wU, wU, wU, wU]), [.int 3], (HA p q r b0 b1 b2), 6) _
      refine WGo.s (WStep.istore (L' := (LA p q r b0 b1 b2 ra rb mix [wI 3, wI 3, wI 2, wI 3, wU, wU, wU, wU, wU])) a0_121 rfl) ?_
      exact segD3323 Z a0 hw n0 p q r b0 b1 b2 ra rb mix
    · show WGo _ (117, (LA p q r b0 b1 b2 ra rb mix [wI 3, wI 3, wI 2, wU, wU, wU, wU, wU, wU]), [.int 3, .int 2, .int 3], (HA p q r b0 b1 b2), 6) _
      refine WGo.s (WStep.iadd a0_117) ?_
      show WGo _ (118, (LA p q r b0 b1 b2 ra rb mix [wI 3, wI 3, wI 2, wU, wU, wU, wU, wU, wU]), [.int 5, .int 3], (HA p q r b0 b1 b2), 6) _
      refine WGo.callS a0_118 (ok2 hw _ _ _ _) (wd hw 6 rfl) (wd hw 7 rfl) (argsL := [.int 3, .int 5]) (S := []) (c2 hw _ _ (3 : Int32) (5 : Int32) _ _) rfl rfl rfl rfl rfl rfl (Nat.le_of_ble_eq_true rfl) (Nat.le_of_ble_eq_true rfl) ?_
      rintro _ _ _ ⟨rfl, rfl, rfl⟩
      show WGo _ (121, (LA p q r b0 b1 b2 ra rb mix [wI 3, wI 3, wI 2, wU, wU, wU, wU, wU, wU]), [.int 3], (HA p q r b0 b1 b2), 6) _
      refine WGo.s (WStep.istore (L' := (LA p q r b0 b1 b2 ra rb mix [wI 3, wI 3, wI 2, wI 3, wU, wU, wU, wU, wU])) a0_121 rfl) ?_
      exact segD3323 Z a0 hw n0 p q r b0 b1 b2 ra rb mix
  · show WGo _ (106, (LA p q r b0 b1 b2 ra rb mix [wI 3, wI 3, wU, wU, wU, wU, wU, wU, wU]), [.int 3], (HA p q r b0 b1 b2), 6) _
    refine WGo.s (WStep.istore (L' := (LA p q r b0 b1 b2 ra rb mix [wI 3, wI 3, wI 3, wU, wU, wU, wU, wU, wU])) a0_106 rfl) ?_
    refine WGo.s (WStep.iconst (3 : Int32) a0_108 rfl) ?_
    refine WGo.s (WStep.iload a0_109 rfl) ?_
    refine WGo.s (WStep.iload a0_111 rfl) ?_
    refine WGo.s (WStep.iconst (2 : Int32) a0_113 rfl) ?_
    refine WGo.s (WStep.iushr a0_114) ?_
    refine WGo.s (WStep.iconst (3 : Int32) a0_115 rfl) ?_
    refine WGo.s (WStep.iand a0_116) ?_
    generalize hg_s2 : (((rb.toUInt32 >>> ((2 : Int32) &&& 31).toUInt32).toInt32) &&& (3 : Int32)) = s2
    obtain hs_s2 := four _ _ hg_s2
    rcases hs_s2 with rfl | rfl | rfl | rfl
    · show WGo _ (117, (LA p q r b0 b1 b2 ra rb mix [wI 3, wI 3, wI 3, wU, wU, wU, wU, wU, wU]), [.int 0, .int 3, .int 3], (HA p q r b0 b1 b2), 6) _
      refine WGo.s (WStep.iadd a0_117) ?_
      show WGo _ (118, (LA p q r b0 b1 b2 ra rb mix [wI 3, wI 3, wI 3, wU, wU, wU, wU, wU, wU]), [.int 3, .int 3], (HA p q r b0 b1 b2), 6) _
      refine WGo.callS a0_118 (ok2 hw _ _ _ _) (wd hw 6 rfl) (wd hw 7 rfl) (argsL := [.int 3, .int 3]) (S := []) (c2 hw _ _ (3 : Int32) (3 : Int32) _ _) rfl rfl rfl rfl rfl rfl (Nat.le_of_ble_eq_true rfl) (Nat.le_of_ble_eq_true rfl) ?_
      rintro _ _ _ ⟨rfl, rfl, rfl⟩
      show WGo _ (121, (LA p q r b0 b1 b2 ra rb mix [wI 3, wI 3, wI 3, wU, wU, wU, wU, wU, wU]), [.int 3], (HA p q r b0 b1 b2), 6) _
      refine WGo.s (WStep.istore (L' := (LA p q r b0 b1 b2 ra rb mix [wI 3, wI 3, wI 3, wI 3, wU, wU, wU, wU, wU])) a0_121 rfl) ?_
      exact segD3333 Z a0 hw n0 p q r b0 b1 b2 ra rb mix
    · show WGo _ (117, (LA p q r b0 b1 b2 ra rb mix [wI 3, wI 3, wI 3, wU, wU, wU, wU, wU, wU]), [.int 1, .int 3, .int 3], (HA p q r b0 b1 b2), 6) _
      refine WGo.s (WStep.iadd a0_117) ?_
      show WGo _ (118, (LA p q r b0 b1 b2 ra rb mix [wI 3, wI 3, wI 3, wU, wU, wU, wU, wU, wU]), [.int 4, .int 3], (HA p q r b0 b1 b2), 6) _
      refine WGo.callS a0_118 (ok2 hw _ _ _ _) (wd hw 6 rfl) (wd hw 7 rfl) (argsL := [.int 3, .int 4]) (S := []) (c2 hw _ _ (3 : Int32) (4 : Int32) _ _) rfl rfl rfl rfl rfl rfl (Nat.le_of_ble_eq_true rfl) (Nat.le_of_ble_eq_true rfl) ?_
      rintro _ _ _ ⟨rfl, rfl, rfl⟩
      show WGo _ (121, (LA p q r b0 b1 b2 ra rb mix [wI 3, wI 3, wI 3, wU, wU, wU, wU, wU, wU]), [.int 3], (HA p q r b0 b1 b2), 6) _
      refine WGo.s (WStep.istore (L' := (LA p q r b0 b1 b2 ra rb mix [wI 3, wI 3, wI 3, wI 3, wU, wU, wU, wU, wU])) a0_121 rfl) ?_
      exact segD3333 Z a0 hw n0 p q r b0 b1 b2 ra rb mix
    · show WGo _ (117, (LA p q r b0 b1 b2 ra rb mix [wI 3, wI 3, wI 3, wU, wU, wU, wU, wU, wU]), [.int 2, .int 3, .int 3], (HA p q r b0 b1 b2), 6) _
      refine WGo.s (WStep.iadd a0_117) ?_
      show WGo _ (118, (LA p q r b0 b1 b2 ra rb mix [wI 3, wI 3, wI 3, wU, wU, wU, wU, wU, wU]), [.int 5, .int 3], (HA p q r b0 b1 b2), 6) _
      refine WGo.callS a0_118 (ok2 hw _ _ _ _) (wd hw 6 rfl) (wd hw 7 rfl) (argsL := [.int 3, .int 5]) (S := []) (c2 hw _ _ (3 : Int32) (5 : Int32) _ _) rfl rfl rfl rfl rfl rfl (Nat.le_of_ble_eq_true rfl) (Nat.le_of_ble_eq_true rfl) ?_
      rintro _ _ _ ⟨rfl, rfl, rfl⟩
      show WGo _ (121, (LA p q r b0 b1 b2 ra rb mix [wI 3, wI 3, wI 3, wU, wU, wU, wU, wU, wU]), [.int 3], (HA p q r b0 b1 b2), 6) _
      refine WGo.s (WStep.istore (L' := (LA p q r b0 b1 b2 ra rb mix [wI 3, wI 3, wI 3, wI 3, wU, wU, wU, wU, wU])) a0_121 rfl) ?_
      exact segD3333 Z a0 hw n0 p q r b0 b1 b2 ra rb mix
    · show WGo _ (117, (LA p q r b0 b1 b2 ra rb mix [wI 3, wI 3, wI 3, wU, wU, wU, wU, wU, wU]), [.int 3, .int 3, .int 3], (HA p q r b0 b1 b2), 6) _
      refine WGo.s (WStep.iadd a0_117) ?_
      show WGo _ (118, (LA p q r b0 b1 b2 ra rb mix [wI 3, wI 3, wI 3, wU, wU, wU, wU, wU, wU]), [.int 6, .int 3], (HA p q r b0 b1 b2), 6) _
      refine WGo.callS a0_118 (ok2 hw _ _ _ _) (wd hw 6 rfl) (wd hw 7 rfl) (argsL := [.int 3, .int 6]) (S := []) (c2 hw _ _ (3 : Int32) (6 : Int32) _ _) rfl rfl rfl rfl rfl rfl (Nat.le_of_ble_eq_true rfl) (Nat.le_of_ble_eq_true rfl) ?_
      rintro _ _ _ ⟨rfl, rfl, rfl⟩
      show WGo _ (121, (LA p q r b0 b1 b2 ra rb mix [wI 3, wI 3, wI 3, wU, wU, wU, wU, wU, wU]), [.int 3], (HA p q r b0 b1 b2), 6) _
      refine WGo.s (WStep.istore (L' := (LA p q r b0 b1 b2 ra rb mix [wI 3, wI 3, wI 3, wI 3, wU, wU, wU, wU, wU])) a0_121 rfl) ?_
      exact segD3333 Z a0 hw n0 p q r b0 b1 b2 ra rb mix
theorem law_go (Z : State) (a0 : Array Value) (hw : ∀ d ∈ tables_1, d.before a0 Z = true) (n0 : Nat) (p q r : Int64) (ra rb mix : Int32) : WGo (g0 Z (fun k => n0 + k) n0 0 0) (0, [wJ p, wS, wJ q, wS, wJ r, wS, wI ra, wI rb, wI mix, wU, wU, wU, wU, wU, wU, wU, wU, wU, wU, wU, wU, wU, wU, wU, wU, wU], [], [], 0) (fun v σ' u' => v = some (.int 1) ∧ σ'.length ≤ 16 ∧ u' ≤ 128) := by
  refine WGo.s (WStep.iload a0_0 rfl) ?_
  refine WGo.s (WStep.iconst (3 : Int32) a0_2 rfl) ?_
  refine WGo.s (WStep.iand a0_3) ?_
  refine WGo.s (WStep.lloadN a0_4 rfl) ?_
  refine WGo.s (WStep.lloadN a0_5 rfl) ?_
  refine WGo.s (WStep.lload a0_6 rfl) ?_
  refine WGo.callS a0_8 (ok1 hw _ _ _ _) (wd hw 0 rfl) (wd hw 1 rfl) (argsL := [(.int (mix &&& (3 : Int32))), (.long p), (.long q), (.long r)]) (S := []) (c1 hw _ _ (mix &&& (3 : Int32)) _ _ _ _ _) rfl rfl rfl rfl rfl rfl (Nat.le_of_ble_eq_true rfl) (Nat.le_of_ble_eq_true rfl) ?_
  rintro _ _ _ ⟨⟨b0, rfl⟩, rfl, rfl⟩
  show WGo _ (11, [wJ p, wS, wJ q, wS, wJ r, wS, wI ra, wI rb, wI mix, wU, wU, wU, wU, wU, wU, wU, wU, wU, wU, wU, wU, wU, wU, wU, wU, wU], [(.long b0)], [], 0) _
  refine WGo.s (WStep.lstore (L' := [wJ p, wS, wJ q, wS, wJ r, wS, wI ra, wI rb, wI mix, wJ b0, wS, wU, wU, wU, wU, wU, wU, wU, wU, wU, wU, wU, wU, wU, wU, wU]) a0_11 rfl) ?_
  refine WGo.s (WStep.iload a0_13 rfl) ?_
  refine WGo.s (WStep.iconst (2 : Int32) a0_15 rfl) ?_
  refine WGo.s (WStep.iushr a0_16) ?_
  refine WGo.s (WStep.iconst (3 : Int32) a0_17 rfl) ?_
  refine WGo.s (WStep.iand a0_18) ?_
  refine WGo.s (WStep.lloadN a0_19 rfl) ?_
  refine WGo.s (WStep.lloadN a0_20 rfl) ?_
  refine WGo.s (WStep.lload a0_21 rfl) ?_
  refine WGo.callS a0_23 (ok1 hw _ _ _ _) (wd hw 0 rfl) (wd hw 1 rfl) (argsL := [(.int (((mix.toUInt32 >>> ((2 : Int32) &&& 31).toUInt32).toInt32) &&& (3 : Int32))), (.long p), (.long q), (.long r)]) (S := []) (c1 hw _ _ (((mix.toUInt32 >>> ((2 : Int32) &&& 31).toUInt32).toInt32) &&& (3 : Int32)) _ _ _ _ _) rfl rfl rfl rfl rfl rfl (Nat.le_of_ble_eq_true rfl) (Nat.le_of_ble_eq_true rfl) ?_
  rintro _ _ _ ⟨⟨b1, rfl⟩, rfl, rfl⟩
  show WGo _ (26, [wJ p, wS, wJ q, wS, wJ r, wS, wI ra, wI rb, wI mix, wJ b0, wS, wU, wU, wU, wU, wU, wU, wU, wU, wU, wU, wU, wU, wU, wU, wU], [(.long b1)], [], 0) _
  refine WGo.s (WStep.lstore (L' := [wJ p, wS, wJ q, wS, wJ r, wS, wI ra, wI rb, wI mix, wJ b0, wS, wJ b1, wS, wU, wU, wU, wU, wU, wU, wU, wU, wU, wU, wU, wU, wU]) a0_26 rfl) ?_
  refine WGo.s (WStep.iload a0_28 rfl) ?_
  refine WGo.s (WStep.iconst (4 : Int32) a0_30 rfl) ?_
  refine WGo.s (WStep.iushr a0_31) ?_
  refine WGo.s (WStep.iconst (3 : Int32) a0_32 rfl) ?_
  refine WGo.s (WStep.iand a0_33) ?_
  refine WGo.s (WStep.lloadN a0_34 rfl) ?_
  refine WGo.s (WStep.lloadN a0_35 rfl) ?_
  refine WGo.s (WStep.lload a0_36 rfl) ?_
  refine WGo.callS a0_38 (ok1 hw _ _ _ _) (wd hw 0 rfl) (wd hw 1 rfl) (argsL := [(.int (((mix.toUInt32 >>> ((4 : Int32) &&& 31).toUInt32).toInt32) &&& (3 : Int32))), (.long p), (.long q), (.long r)]) (S := []) (c1 hw _ _ (((mix.toUInt32 >>> ((4 : Int32) &&& 31).toUInt32).toInt32) &&& (3 : Int32)) _ _ _ _ _) rfl rfl rfl rfl rfl rfl (Nat.le_of_ble_eq_true rfl) (Nat.le_of_ble_eq_true rfl) ?_
  rintro _ _ _ ⟨⟨b2, rfl⟩, rfl, rfl⟩
  show WGo _ (41, [wJ p, wS, wJ q, wS, wJ r, wS, wI ra, wI rb, wI mix, wJ b0, wS, wJ b1, wS, wU, wU, wU, wU, wU, wU, wU, wU, wU, wU, wU, wU, wU], [(.long b2)], [], 0) _
  refine WGo.s (WStep.lstore (L' := [wJ p, wS, wJ q, wS, wJ r, wS, wI ra, wI rb, wI mix, wJ b0, wS, wJ b1, wS, wJ b2, wS, wU, wU, wU, wU, wU, wU, wU, wU, wU, wU, wU]) a0_41 rfl) ?_
  refine WGo.s (WStep.iconst (3 : Int32) a0_43 rfl) ?_
  refine WGo.s (WStep.newP (k := 0) (3 : Int32) 3 a0_44 (wd hw 5 rfl) (by decide) rfl (by decide) rfl (by decide)) ?_
  show WGo _ (46, [wJ p, wS, wJ q, wS, wJ r, wS, wI ra, wI rb, wI mix, wJ b0, wS, wJ b1, wS, wJ b2, wS, wU, wU, wU, wU, wU, wU, wU, wU, wU, wU, wU], [.ref 0], [(.inl (.long, [.long 0, .long 0, .long 0]))], 3) _
  refine WGo.s (WStep.dup a0_46 rfl) ?_
  refine WGo.s (WStep.iconst (0 : Int32) a0_47 rfl) ?_
  refine WGo.s (WStep.lloadN a0_48 rfl) ?_
  refine WGo.s (WStep.lastore 0 a0_49 rfl (by decide) rfl (Nat.le_of_ble_eq_true rfl)) ?_
  show WGo _ (50, [wJ p, wS, wJ q, wS, wJ r, wS, wI ra, wI rb, wI mix, wJ b0, wS, wJ b1, wS, wJ b2, wS, wU, wU, wU, wU, wU, wU, wU, wU, wU, wU, wU], [.ref 0], [(.inl (.long, [(.long p), .long 0, .long 0]))], 3) _
  refine WGo.s (WStep.dup a0_50 rfl) ?_
  refine WGo.s (WStep.iconst (1 : Int32) a0_51 rfl) ?_
  refine WGo.s (WStep.lloadN a0_52 rfl) ?_
  refine WGo.s (WStep.lastore 1 a0_53 rfl (by decide) rfl (Nat.le_of_ble_eq_true rfl)) ?_
  show WGo _ (54, [wJ p, wS, wJ q, wS, wJ r, wS, wI ra, wI rb, wI mix, wJ b0, wS, wJ b1, wS, wJ b2, wS, wU, wU, wU, wU, wU, wU, wU, wU, wU, wU, wU], [.ref 0], [(.inl (.long, [(.long p), (.long q), .long 0]))], 3) _
  refine WGo.s (WStep.dup a0_54 rfl) ?_
  refine WGo.s (WStep.iconst (2 : Int32) a0_55 rfl) ?_
  refine WGo.s (WStep.lload a0_56 rfl) ?_
  refine WGo.s (WStep.lastore 2 a0_58 rfl (by decide) rfl (Nat.le_of_ble_eq_true rfl)) ?_
  show WGo _ (59, [wJ p, wS, wJ q, wS, wJ r, wS, wI ra, wI rb, wI mix, wJ b0, wS, wJ b1, wS, wJ b2, wS, wU, wU, wU, wU, wU, wU, wU, wU, wU, wU, wU], [.ref 0], [(.inl (.long, [(.long p), (.long q), (.long r)]))], 3) _
  refine WGo.s (WStep.astore (L' := [wJ p, wS, wJ q, wS, wJ r, wS, wI ra, wI rb, wI mix, wJ b0, wS, wJ b1, wS, wJ b2, wS, wR 0, wU, wU, wU, wU, wU, wU, wU, wU, wU, wU]) a0_59 rfl rfl) ?_
  refine WGo.s (WStep.iconst (3 : Int32) a0_61 rfl) ?_
  refine WGo.s (WStep.newP (k := 1) (3 : Int32) 3 a0_62 (wd hw 5 rfl) (by decide) rfl (by decide) rfl (by decide)) ?_
  show WGo _ (64, [wJ p, wS, wJ q, wS, wJ r, wS, wI ra, wI rb, wI mix, wJ b0, wS, wJ b1, wS, wJ b2, wS, wR 0, wU, wU, wU, wU, wU, wU, wU, wU, wU, wU], [.ref 1], [(.inl (.long, [(.long p), (.long q), (.long r)])), (.inl (.long, [.long 0, .long 0, .long 0]))], 6) _
  refine WGo.s (WStep.dup a0_64 rfl) ?_
  refine WGo.s (WStep.iconst (0 : Int32) a0_65 rfl) ?_
  refine WGo.s (WStep.lload a0_66 rfl) ?_
  refine WGo.s (WStep.lastore 0 a0_68 rfl (by decide) rfl (Nat.le_of_ble_eq_true rfl)) ?_
  show WGo _ (69, [wJ p, wS, wJ q, wS, wJ r, wS, wI ra, wI rb, wI mix, wJ b0, wS, wJ b1, wS, wJ b2, wS, wR 0, wU, wU, wU, wU, wU, wU, wU, wU, wU, wU], [.ref 1], [(.inl (.long, [(.long p), (.long q), (.long r)])), (.inl (.long, [(.long b0), .long 0, .long 0]))], 6) _
  refine WGo.s (WStep.dup a0_69 rfl) ?_
  refine WGo.s (WStep.iconst (1 : Int32) a0_70 rfl) ?_
  refine WGo.s (WStep.lload a0_71 rfl) ?_
  refine WGo.s (WStep.lastore 1 a0_73 rfl (by decide) rfl (Nat.le_of_ble_eq_true rfl)) ?_
  show WGo _ (74, [wJ p, wS, wJ q, wS, wJ r, wS, wI ra, wI rb, wI mix, wJ b0, wS, wJ b1, wS, wJ b2, wS, wR 0, wU, wU, wU, wU, wU, wU, wU, wU, wU, wU], [.ref 1], [(.inl (.long, [(.long p), (.long q), (.long r)])), (.inl (.long, [(.long b0), (.long b1), .long 0]))], 6) _
  refine WGo.s (WStep.dup a0_74 rfl) ?_
  refine WGo.s (WStep.iconst (2 : Int32) a0_75 rfl) ?_
  refine WGo.s (WStep.lload a0_76 rfl) ?_
  refine WGo.s (WStep.lastore 2 a0_78 rfl (by decide) rfl (Nat.le_of_ble_eq_true rfl)) ?_
  show WGo _ (79, [wJ p, wS, wJ q, wS, wJ r, wS, wI ra, wI rb, wI mix, wJ b0, wS, wJ b1, wS, wJ b2, wS, wR 0, wU, wU, wU, wU, wU, wU, wU, wU, wU, wU], [.ref 1], (HA p q r b0 b1 b2), 6) _
  refine WGo.s (WStep.astore (L' := (LA p q r b0 b1 b2 ra rb mix [wU, wU, wU, wU, wU, wU, wU, wU, wU])) a0_79 rfl rfl) ?_
  refine WGo.s (WStep.iload a0_81 rfl) ?_
  refine WGo.s (WStep.iconst (3 : Int32) a0_83 rfl) ?_
  refine WGo.s (WStep.iand a0_84) ?_
  generalize hg_s1 : (ra &&& (3 : Int32)) = s1
  obtain hs_s1 := four _ _ hg_s1
  rcases hs_s1 with rfl | rfl | rfl | rfl
  · show WGo _ (85, (LA p q r b0 b1 b2 ra rb mix [wU, wU, wU, wU, wU, wU, wU, wU, wU]), [.int 0], (HA p q r b0 b1 b2), 6) _
    refine WGo.s (WStep.istore (L' := (LA p q r b0 b1 b2 ra rb mix [wI 0, wU, wU, wU, wU, wU, wU, wU, wU])) a0_85 rfl) ?_
    refine WGo.s (WStep.iconst (3 : Int32) a0_87 rfl) ?_
    refine WGo.s (WStep.iload a0_88 rfl) ?_
    refine WGo.s (WStep.iload a0_90 rfl) ?_
    refine WGo.s (WStep.iconst (2 : Int32) a0_92 rfl) ?_
    refine WGo.s (WStep.iushr a0_93) ?_
    refine WGo.s (WStep.iconst (3 : Int32) a0_94 rfl) ?_
    refine WGo.s (WStep.iand a0_95) ?_
    generalize hg_s2 : (((ra.toUInt32 >>> ((2 : Int32) &&& 31).toUInt32).toInt32) &&& (3 : Int32)) = s2
    obtain hs_s2 := four _ _ hg_s2
    rcases hs_s2 with rfl | rfl | rfl | rfl
    · show WGo _ (96, (LA p q r b0 b1 b2 ra rb mix [wI 0, wU, wU, wU, wU, wU, wU, wU, wU]), [.int 0, .int 0, .int 3], (HA p q r b0 b1 b2), 6) _
      refine WGo.s (WStep.iadd a0_96) ?_
      show WGo _ (97, (LA p q r b0 b1 b2 ra rb mix [wI 0, wU, wU, wU, wU, wU, wU, wU, wU]), [.int 0, .int 3], (HA p q r b0 b1 b2), 6) _
      refine WGo.callS a0_97 (ok2 hw _ _ _ _) (wd hw 6 rfl) (wd hw 7 rfl) (argsL := [.int 3, .int 0]) (S := []) (c2 hw _ _ (3 : Int32) (0 : Int32) _ _) rfl rfl rfl rfl rfl rfl (Nat.le_of_ble_eq_true rfl) (Nat.le_of_ble_eq_true rfl) ?_
      rintro _ _ _ ⟨rfl, rfl, rfl⟩
      show WGo _ (100, (LA p q r b0 b1 b2 ra rb mix [wI 0, wU, wU, wU, wU, wU, wU, wU, wU]), [.int 0], (HA p q r b0 b1 b2), 6) _
      refine WGo.s (WStep.istore (L' := (LA p q r b0 b1 b2 ra rb mix [wI 0, wI 0, wU, wU, wU, wU, wU, wU, wU])) a0_100 rfl) ?_
      exact segC00 Z a0 hw n0 p q r b0 b1 b2 ra rb mix
    · show WGo _ (96, (LA p q r b0 b1 b2 ra rb mix [wI 0, wU, wU, wU, wU, wU, wU, wU, wU]), [.int 1, .int 0, .int 3], (HA p q r b0 b1 b2), 6) _
      refine WGo.s (WStep.iadd a0_96) ?_
      show WGo _ (97, (LA p q r b0 b1 b2 ra rb mix [wI 0, wU, wU, wU, wU, wU, wU, wU, wU]), [.int 1, .int 3], (HA p q r b0 b1 b2), 6) _
      refine WGo.callS a0_97 (ok2 hw _ _ _ _) (wd hw 6 rfl) (wd hw 7 rfl) (argsL := [.int 3, .int 1]) (S := []) (c2 hw _ _ (3 : Int32) (1 : Int32) _ _) rfl rfl rfl rfl rfl rfl (Nat.le_of_ble_eq_true rfl) (Nat.le_of_ble_eq_true rfl) ?_
      rintro _ _ _ ⟨rfl, rfl, rfl⟩
      show WGo _ (100, (LA p q r b0 b1 b2 ra rb mix [wI 0, wU, wU, wU, wU, wU, wU, wU, wU]), [.int 1], (HA p q r b0 b1 b2), 6) _
      refine WGo.s (WStep.istore (L' := (LA p q r b0 b1 b2 ra rb mix [wI 0, wI 1, wU, wU, wU, wU, wU, wU, wU])) a0_100 rfl) ?_
      exact segC01 Z a0 hw n0 p q r b0 b1 b2 ra rb mix
    · show WGo _ (96, (LA p q r b0 b1 b2 ra rb mix [wI 0, wU, wU, wU, wU, wU, wU, wU, wU]), [.int 2, .int 0, .int 3], (HA p q r b0 b1 b2), 6) _
      refine WGo.s (WStep.iadd a0_96) ?_
      show WGo _ (97, (LA p q r b0 b1 b2 ra rb mix [wI 0, wU, wU, wU, wU, wU, wU, wU, wU]), [.int 2, .int 3], (HA p q r b0 b1 b2), 6) _
      refine WGo.callS a0_97 (ok2 hw _ _ _ _) (wd hw 6 rfl) (wd hw 7 rfl) (argsL := [.int 3, .int 2]) (S := []) (c2 hw _ _ (3 : Int32) (2 : Int32) _ _) rfl rfl rfl rfl rfl rfl (Nat.le_of_ble_eq_true rfl) (Nat.le_of_ble_eq_true rfl) ?_
      rintro _ _ _ ⟨rfl, rfl, rfl⟩
      show WGo _ (100, (LA p q r b0 b1 b2 ra rb mix [wI 0, wU, wU, wU, wU, wU, wU, wU, wU]), [.int 2], (HA p q r b0 b1 b2), 6) _
      refine WGo.s (WStep.istore (L' := (LA p q r b0 b1 b2 ra rb mix [wI 0, wI 2, wU, wU, wU, wU, wU, wU, wU])) a0_100 rfl) ?_
      exact segC02 Z a0 hw n0 p q r b0 b1 b2 ra rb mix
    · show WGo _ (96, (LA p q r b0 b1 b2 ra rb mix [wI 0, wU, wU, wU, wU, wU, wU, wU, wU]), [.int 3, .int 0, .int 3], (HA p q r b0 b1 b2), 6) _
      refine WGo.s (WStep.iadd a0_96) ?_
      show WGo _ (97, (LA p q r b0 b1 b2 ra rb mix [wI 0, wU, wU, wU, wU, wU, wU, wU, wU]), [.int 3, .int 3], (HA p q r b0 b1 b2), 6) _
      refine WGo.callS a0_97 (ok2 hw _ _ _ _) (wd hw 6 rfl) (wd hw 7 rfl) (argsL := [.int 3, .int 3]) (S := []) (c2 hw _ _ (3 : Int32) (3 : Int32) _ _) rfl rfl rfl rfl rfl rfl (Nat.le_of_ble_eq_true rfl) (Nat.le_of_ble_eq_true rfl) ?_
      rintro _ _ _ ⟨rfl, rfl, rfl⟩
      show WGo _ (100, (LA p q r b0 b1 b2 ra rb mix [wI 0, wU, wU, wU, wU, wU, wU, wU, wU]), [.int 3], (HA p q r b0 b1 b2), 6) _
      refine WGo.s (WStep.istore (L' := (LA p q r b0 b1 b2 ra rb mix [wI 0, wI 3, wU, wU, wU, wU, wU, wU, wU])) a0_100 rfl) ?_
      exact segC03 Z a0 hw n0 p q r b0 b1 b2 ra rb mix
  · show WGo _ (85, (LA p q r b0 b1 b2 ra rb mix [wU, wU, wU, wU, wU, wU, wU, wU, wU]), [.int 1], (HA p q r b0 b1 b2), 6) _
    refine WGo.s (WStep.istore (L' := (LA p q r b0 b1 b2 ra rb mix [wI 1, wU, wU, wU, wU, wU, wU, wU, wU])) a0_85 rfl) ?_
    refine WGo.s (WStep.iconst (3 : Int32) a0_87 rfl) ?_
    refine WGo.s (WStep.iload a0_88 rfl) ?_
    refine WGo.s (WStep.iload a0_90 rfl) ?_
    refine WGo.s (WStep.iconst (2 : Int32) a0_92 rfl) ?_
    refine WGo.s (WStep.iushr a0_93) ?_
    refine WGo.s (WStep.iconst (3 : Int32) a0_94 rfl) ?_
    refine WGo.s (WStep.iand a0_95) ?_
    generalize hg_s2 : (((ra.toUInt32 >>> ((2 : Int32) &&& 31).toUInt32).toInt32) &&& (3 : Int32)) = s2
    obtain hs_s2 := four _ _ hg_s2
    rcases hs_s2 with rfl | rfl | rfl | rfl
    · show WGo _ (96, (LA p q r b0 b1 b2 ra rb mix [wI 1, wU, wU, wU, wU, wU, wU, wU, wU]), [.int 0, .int 1, .int 3], (HA p q r b0 b1 b2), 6) _
      refine WGo.s (WStep.iadd a0_96) ?_
      show WGo _ (97, (LA p q r b0 b1 b2 ra rb mix [wI 1, wU, wU, wU, wU, wU, wU, wU, wU]), [.int 1, .int 3], (HA p q r b0 b1 b2), 6) _
      refine WGo.callS a0_97 (ok2 hw _ _ _ _) (wd hw 6 rfl) (wd hw 7 rfl) (argsL := [.int 3, .int 1]) (S := []) (c2 hw _ _ (3 : Int32) (1 : Int32) _ _) rfl rfl rfl rfl rfl rfl (Nat.le_of_ble_eq_true rfl) (Nat.le_of_ble_eq_true rfl) ?_
      rintro _ _ _ ⟨rfl, rfl, rfl⟩
      show WGo _ (100, (LA p q r b0 b1 b2 ra rb mix [wI 1, wU, wU, wU, wU, wU, wU, wU, wU]), [.int 1], (HA p q r b0 b1 b2), 6) _
      refine WGo.s (WStep.istore (L' := (LA p q r b0 b1 b2 ra rb mix [wI 1, wI 1, wU, wU, wU, wU, wU, wU, wU])) a0_100 rfl) ?_
      exact segC11 Z a0 hw n0 p q r b0 b1 b2 ra rb mix
    · show WGo _ (96, (LA p q r b0 b1 b2 ra rb mix [wI 1, wU, wU, wU, wU, wU, wU, wU, wU]), [.int 1, .int 1, .int 3], (HA p q r b0 b1 b2), 6) _
      refine WGo.s (WStep.iadd a0_96) ?_
      show WGo _ (97, (LA p q r b0 b1 b2 ra rb mix [wI 1, wU, wU, wU, wU, wU, wU, wU, wU]), [.int 2, .int 3], (HA p q r b0 b1 b2), 6) _
      refine WGo.callS a0_97 (ok2 hw _ _ _ _) (wd hw 6 rfl) (wd hw 7 rfl) (argsL := [.int 3, .int 2]) (S := []) (c2 hw _ _ (3 : Int32) (2 : Int32) _ _) rfl rfl rfl rfl rfl rfl (Nat.le_of_ble_eq_true rfl) (Nat.le_of_ble_eq_true rfl) ?_
      rintro _ _ _ ⟨rfl, rfl, rfl⟩
      show WGo _ (100, (LA p q r b0 b1 b2 ra rb mix [wI 1, wU, wU, wU, wU, wU, wU, wU, wU]), [.int 2], (HA p q r b0 b1 b2), 6) _
      refine WGo.s (WStep.istore (L' := (LA p q r b0 b1 b2 ra rb mix [wI 1, wI 2, wU, wU, wU, wU, wU, wU, wU])) a0_100 rfl) ?_
      exact segC12 Z a0 hw n0 p q r b0 b1 b2 ra rb mix
    · show WGo _ (96, (LA p q r b0 b1 b2 ra rb mix [wI 1, wU, wU, wU, wU, wU, wU, wU, wU]), [.int 2, .int 1, .int 3], (HA p q r b0 b1 b2), 6) _
      refine WGo.s (WStep.iadd a0_96) ?_
      show WGo _ (97, (LA p q r b0 b1 b2 ra rb mix [wI 1, wU, wU, wU, wU, wU, wU, wU, wU]), [.int 3, .int 3], (HA p q r b0 b1 b2), 6) _
      refine WGo.callS a0_97 (ok2 hw _ _ _ _) (wd hw 6 rfl) (wd hw 7 rfl) (argsL := [.int 3, .int 3]) (S := []) (c2 hw _ _ (3 : Int32) (3 : Int32) _ _) rfl rfl rfl rfl rfl rfl (Nat.le_of_ble_eq_true rfl) (Nat.le_of_ble_eq_true rfl) ?_
      rintro _ _ _ ⟨rfl, rfl, rfl⟩
      show WGo _ (100, (LA p q r b0 b1 b2 ra rb mix [wI 1, wU, wU, wU, wU, wU, wU, wU, wU]), [.int 3], (HA p q r b0 b1 b2), 6) _
      refine WGo.s (WStep.istore (L' := (LA p q r b0 b1 b2 ra rb mix [wI 1, wI 3, wU, wU, wU, wU, wU, wU, wU])) a0_100 rfl) ?_
      exact segC13 Z a0 hw n0 p q r b0 b1 b2 ra rb mix
    · show WGo _ (96, (LA p q r b0 b1 b2 ra rb mix [wI 1, wU, wU, wU, wU, wU, wU, wU, wU]), [.int 3, .int 1, .int 3], (HA p q r b0 b1 b2), 6) _
      refine WGo.s (WStep.iadd a0_96) ?_
      show WGo _ (97, (LA p q r b0 b1 b2 ra rb mix [wI 1, wU, wU, wU, wU, wU, wU, wU, wU]), [.int 4, .int 3], (HA p q r b0 b1 b2), 6) _
      refine WGo.callS a0_97 (ok2 hw _ _ _ _) (wd hw 6 rfl) (wd hw 7 rfl) (argsL := [.int 3, .int 4]) (S := []) (c2 hw _ _ (3 : Int32) (4 : Int32) _ _) rfl rfl rfl rfl rfl rfl (Nat.le_of_ble_eq_true rfl) (Nat.le_of_ble_eq_true rfl) ?_
      rintro _ _ _ ⟨rfl, rfl, rfl⟩
      show WGo _ (100, (LA p q r b0 b1 b2 ra rb mix [wI 1, wU, wU, wU, wU, wU, wU, wU, wU]), [.int 3], (HA p q r b0 b1 b2), 6) _
      refine WGo.s (WStep.istore (L' := (LA p q r b0 b1 b2 ra rb mix [wI 1, wI 3, wU, wU, wU, wU, wU, wU, wU])) a0_100 rfl) ?_
      exact segC13 Z a0 hw n0 p q r b0 b1 b2 ra rb mix
  · show WGo _ (85, (LA p q r b0 b1 b2 ra rb mix [wU, wU, wU, wU, wU, wU, wU, wU, wU]), [.int 2], (HA p q r b0 b1 b2), 6) _
    refine WGo.s (WStep.istore (L' := (LA p q r b0 b1 b2 ra rb mix [wI 2, wU, wU, wU, wU, wU, wU, wU, wU])) a0_85 rfl) ?_
    refine WGo.s (WStep.iconst (3 : Int32) a0_87 rfl) ?_
    refine WGo.s (WStep.iload a0_88 rfl) ?_
    refine WGo.s (WStep.iload a0_90 rfl) ?_
    refine WGo.s (WStep.iconst (2 : Int32) a0_92 rfl) ?_
    refine WGo.s (WStep.iushr a0_93) ?_
    refine WGo.s (WStep.iconst (3 : Int32) a0_94 rfl) ?_
    refine WGo.s (WStep.iand a0_95) ?_
    generalize hg_s2 : (((ra.toUInt32 >>> ((2 : Int32) &&& 31).toUInt32).toInt32) &&& (3 : Int32)) = s2
    obtain hs_s2 := four _ _ hg_s2
    rcases hs_s2 with rfl | rfl | rfl | rfl
    · show WGo _ (96, (LA p q r b0 b1 b2 ra rb mix [wI 2, wU, wU, wU, wU, wU, wU, wU, wU]), [.int 0, .int 2, .int 3], (HA p q r b0 b1 b2), 6) _
      refine WGo.s (WStep.iadd a0_96) ?_
      show WGo _ (97, (LA p q r b0 b1 b2 ra rb mix [wI 2, wU, wU, wU, wU, wU, wU, wU, wU]), [.int 2, .int 3], (HA p q r b0 b1 b2), 6) _
      refine WGo.callS a0_97 (ok2 hw _ _ _ _) (wd hw 6 rfl) (wd hw 7 rfl) (argsL := [.int 3, .int 2]) (S := []) (c2 hw _ _ (3 : Int32) (2 : Int32) _ _) rfl rfl rfl rfl rfl rfl (Nat.le_of_ble_eq_true rfl) (Nat.le_of_ble_eq_true rfl) ?_
      rintro _ _ _ ⟨rfl, rfl, rfl⟩
      show WGo _ (100, (LA p q r b0 b1 b2 ra rb mix [wI 2, wU, wU, wU, wU, wU, wU, wU, wU]), [.int 2], (HA p q r b0 b1 b2), 6) _
      refine WGo.s (WStep.istore (L' := (LA p q r b0 b1 b2 ra rb mix [wI 2, wI 2, wU, wU, wU, wU, wU, wU, wU])) a0_100 rfl) ?_
      exact segC22 Z a0 hw n0 p q r b0 b1 b2 ra rb mix
    · show WGo _ (96, (LA p q r b0 b1 b2 ra rb mix [wI 2, wU, wU, wU, wU, wU, wU, wU, wU]), [.int 1, .int 2, .int 3], (HA p q r b0 b1 b2), 6) _
      refine WGo.s (WStep.iadd a0_96) ?_
      show WGo _ (97, (LA p q r b0 b1 b2 ra rb mix [wI 2, wU, wU, wU, wU, wU, wU, wU, wU]), [.int 3, .int 3], (HA p q r b0 b1 b2), 6) _
      refine WGo.callS a0_97 (ok2 hw _ _ _ _) (wd hw 6 rfl) (wd hw 7 rfl) (argsL := [.int 3, .int 3]) (S := []) (c2 hw _ _ (3 : Int32) (3 : Int32) _ _) rfl rfl rfl rfl rfl rfl (Nat.le_of_ble_eq_true rfl) (Nat.le_of_ble_eq_true rfl) ?_
      rintro _ _ _ ⟨rfl, rfl, rfl⟩
      show WGo _ (100, (LA p q r b0 b1 b2 ra rb mix [wI 2, wU, wU, wU, wU, wU, wU, wU, wU]), [.int 3], (HA p q r b0 b1 b2), 6) _
      refine WGo.s (WStep.istore (L' := (LA p q r b0 b1 b2 ra rb mix [wI 2, wI 3, wU, wU, wU, wU, wU, wU, wU])) a0_100 rfl) ?_
      exact segC23 Z a0 hw n0 p q r b0 b1 b2 ra rb mix
    · show WGo _ (96, (LA p q r b0 b1 b2 ra rb mix [wI 2, wU, wU, wU, wU, wU, wU, wU, wU]), [.int 2, .int 2, .int 3], (HA p q r b0 b1 b2), 6) _
      refine WGo.s (WStep.iadd a0_96) ?_
      show WGo _ (97, (LA p q r b0 b1 b2 ra rb mix [wI 2, wU, wU, wU, wU, wU, wU, wU, wU]), [.int 4, .int 3], (HA p q r b0 b1 b2), 6) _
      refine WGo.callS a0_97 (ok2 hw _ _ _ _) (wd hw 6 rfl) (wd hw 7 rfl) (argsL := [.int 3, .int 4]) (S := []) (c2 hw _ _ (3 : Int32) (4 : Int32) _ _) rfl rfl rfl rfl rfl rfl (Nat.le_of_ble_eq_true rfl) (Nat.le_of_ble_eq_true rfl) ?_
      rintro _ _ _ ⟨rfl, rfl, rfl⟩
      show WGo _ (100, (LA p q r b0 b1 b2 ra rb mix [wI 2, wU, wU, wU, wU, wU, wU, wU, wU]), [.int 3], (HA p q r b0 b1 b2), 6) _
      refine WGo.s (WStep.istore (L' := (LA p q r b0 b1 b2 ra rb mix [wI 2, wI 3, wU, wU, wU, wU, wU, wU, wU])) a0_100 rfl) ?_
      exact segC23 Z a0 hw n0 p q r b0 b1 b2 ra rb mix
    · show WGo _ (96, (LA p q r b0 b1 b2 ra rb mix [wI 2, wU, wU, wU, wU, wU, wU, wU, wU]), [.int 3, .int 2, .int 3], (HA p q r b0 b1 b2), 6) _
      refine WGo.s (WStep.iadd a0_96) ?_
      show WGo _ (97, (LA p q r b0 b1 b2 ra rb mix [wI 2, wU, wU, wU, wU, wU, wU, wU, wU]), [.int 5, .int 3], (HA p q r b0 b1 b2), 6) _
      refine WGo.callS a0_97 (ok2 hw _ _ _ _) (wd hw 6 rfl) (wd hw 7 rfl) (argsL := [.int 3, .int 5]) (S := []) (c2 hw _ _ (3 : Int32) (5 : Int32) _ _) rfl rfl rfl rfl rfl rfl (Nat.le_of_ble_eq_true rfl) (Nat.le_of_ble_eq_true rfl) ?_
      rintro _ _ _ ⟨rfl, rfl, rfl⟩
      show WGo _ (100, (LA p q r b0 b1 b2 ra rb mix [wI 2, wU, wU, wU, wU, wU, wU, wU, wU]), [.int 3], (HA p q r b0 b1 b2), 6) _
      refine WGo.s (WStep.istore (L' := (LA p q r b0 b1 b2 ra rb mix [wI 2, wI 3, wU, wU, wU, wU, wU, wU, wU])) a0_100 rfl) ?_
      exact segC23 Z a0 hw n0 p q r b0 b1 b2 ra rb mix
  · show WGo _ (85, (LA p q r b0 b1 b2 ra rb mix [wU, wU, wU, wU, wU, wU, wU, wU, wU]), [.int 3], (HA p q r b0 b1 b2), 6) _
    refine WGo.s (WStep.istore (L' := (LA p q r b0 b1 b2 ra rb mix [wI 3, wU, wU, wU, wU, wU, wU, wU, wU])) a0_85 rfl) ?_
    refine WGo.s (WStep.iconst (3 : Int32) a0_87 rfl) ?_
    refine WGo.s (WStep.iload a0_88 rfl) ?_
    refine WGo.s (WStep.iload a0_90 rfl) ?_
    refine WGo.s (WStep.iconst (2 : Int32) a0_92 rfl) ?_
    refine WGo.s (WStep.iushr a0_93) ?_
    refine WGo.s (WStep.iconst (3 : Int32) a0_94 rfl) ?_
    refine WGo.s (WStep.iand a0_95) ?_
    generalize hg_s2 : (((ra.toUInt32 >>> ((2 : Int32) &&& 31).toUInt32).toInt32) &&& (3 : Int32)) = s2
    obtain hs_s2 := four _ _ hg_s2
    rcases hs_s2 with rfl | rfl | rfl | rfl
    · show WGo _ (96, (LA p q r b0 b1 b2 ra rb mix [wI 3, wU, wU, wU, wU, wU, wU, wU, wU]), [.int 0, .int 3, .int 3], (HA p q r b0 b1 b2), 6) _
      refine WGo.s (WStep.iadd a0_96) ?_
      show WGo _ (97, (LA p q r b0 b1 b2 ra rb mix [wI 3, wU, wU, wU, wU, wU, wU, wU, wU]), [.int 3, .int 3], (HA p q r b0 b1 b2), 6) _
      refine WGo.callS a0_97 (ok2 hw _ _ _ _) (wd hw 6 rfl) (wd hw 7 rfl) (argsL := [.int 3, .int 3]) (S := []) (c2 hw _ _ (3 : Int32) (3 : Int32) _ _) rfl rfl rfl rfl rfl rfl (Nat.le_of_ble_eq_true rfl) (Nat.le_of_ble_eq_true rfl) ?_
      rintro _ _ _ ⟨rfl, rfl, rfl⟩
      show WGo _ (100, (LA p q r b0 b1 b2 ra rb mix [wI 3, wU, wU, wU, wU, wU, wU, wU, wU]), [.int 3], (HA p q r b0 b1 b2), 6) _
      refine WGo.s (WStep.istore (L' := (LA p q r b0 b1 b2 ra rb mix [wI 3, wI 3, wU, wU, wU, wU, wU, wU, wU])) a0_100 rfl) ?_
      exact segC33 Z a0 hw n0 p q r b0 b1 b2 ra rb mix
    · show WGo _ (96, (LA p q r b0 b1 b2 ra rb mix [wI 3, wU, wU, wU, wU, wU, wU, wU, wU]), [.int 1, .int 3, .int 3], (HA p q r b0 b1 b2), 6) _
      refine WGo.s (WStep.iadd a0_96) ?_
      show WGo _ (97, (LA p q r b0 b1 b2 ra rb mix [wI 3, wU, wU, wU, wU, wU, wU, wU, wU]), [.int 4, .int 3], (HA p q r b0 b1 b2), 6) _
      refine WGo.callS a0_97 (ok2 hw _ _ _ _) (wd hw 6 rfl) (wd hw 7 rfl) (argsL := [.int 3, .int 4]) (S := []) (c2 hw _ _ (3 : Int32) (4 : Int32) _ _) rfl rfl rfl rfl rfl rfl (Nat.le_of_ble_eq_true rfl) (Nat.le_of_ble_eq_true rfl) ?_
      rintro _ _ _ ⟨rfl, rfl, rfl⟩
      show WGo _ (100, (LA p q r b0 b1 b2 ra rb mix [wI 3, wU, wU, wU, wU, wU, wU, wU, wU]), [.int 3], (HA p q r b0 b1 b2), 6) _
      refine WGo.s (WStep.istore (L' := (LA p q r b0 b1 b2 ra rb mix [wI 3, wI 3, wU, wU, wU, wU, wU, wU, wU])) a0_100 rfl) ?_
      exact segC33 Z a0 hw n0 p q r b0 b1 b2 ra rb mix
    · show WGo _ (96, (LA p q r b0 b1 b2 ra rb mix [wI 3, wU, wU, wU, wU, wU, wU, wU, wU]), [.int 2, .int 3, .int 3], (HA p q r b0 b1 b2), 6) _
      refine WGo.s (WStep.iadd a0_96) ?_
      show WGo _ (97, (LA p q r b0 b1 b2 ra rb mix [wI 3, wU, wU, wU, wU, wU, wU, wU, wU]), [.int 5, .int 3], (HA p q r b0 b1 b2), 6) _
      refine WGo.callS a0_97 (ok2 hw _ _ _ _) (wd hw 6 rfl) (wd hw 7 rfl) (argsL := [.int 3, .int 5]) (S := []) (c2 hw _ _ (3 : Int32) (5 : Int32) _ _) rfl rfl rfl rfl rfl rfl (Nat.le_of_ble_eq_true rfl) (Nat.le_of_ble_eq_true rfl) ?_
      rintro _ _ _ ⟨rfl, rfl, rfl⟩
      show WGo _ (100, (LA p q r b0 b1 b2 ra rb mix [wI 3, wU, wU, wU, wU, wU, wU, wU, wU]), [.int 3], (HA p q r b0 b1 b2), 6) _
      refine WGo.s (WStep.istore (L' := (LA p q r b0 b1 b2 ra rb mix [wI 3, wI 3, wU, wU, wU, wU, wU, wU, wU])) a0_100 rfl) ?_
      exact segC33 Z a0 hw n0 p q r b0 b1 b2 ra rb mix
    · show WGo _ (96, (LA p q r b0 b1 b2 ra rb mix [wI 3, wU, wU, wU, wU, wU, wU, wU, wU]), [.int 3, .int 3, .int 3], (HA p q r b0 b1 b2), 6) _
      refine WGo.s (WStep.iadd a0_96) ?_
      show WGo _ (97, (LA p q r b0 b1 b2 ra rb mix [wI 3, wU, wU, wU, wU, wU, wU, wU, wU]), [.int 6, .int 3], (HA p q r b0 b1 b2), 6) _
      refine WGo.callS a0_97 (ok2 hw _ _ _ _) (wd hw 6 rfl) (wd hw 7 rfl) (argsL := [.int 3, .int 6]) (S := []) (c2 hw _ _ (3 : Int32) (6 : Int32) _ _) rfl rfl rfl rfl rfl rfl (Nat.le_of_ble_eq_true rfl) (Nat.le_of_ble_eq_true rfl) ?_
      rintro _ _ _ ⟨rfl, rfl, rfl⟩
      show WGo _ (100, (LA p q r b0 b1 b2 ra rb mix [wI 3, wU, wU, wU, wU, wU, wU, wU, wU]), [.int 3], (HA p q r b0 b1 b2), 6) _
      refine WGo.s (WStep.istore (L' := (LA p q r b0 b1 b2 ra rb mix [wI 3, wI 3, wU, wU, wU, wU, wU, wU, wU])) a0_100 rfl) ?_
      exact segC33 Z a0 hw n0 p q r b0 b1 b2 ra rb mix
theorem plx : plainFor x = true := plainFor_of_name (by first | (simp [plainName, overriddenIn, x]; done) | decide +kernel)
set_option maxRecDepth 65536 in
set_option maxHeartbeats 40000000 in
theorem comes_1 {Post : Tables → Env → Array Value → State → Outcome → State → Prop} (hpost : ∀ tb e args s v u, (limb_1_1.after args s (.returned v) u = true ∧ limb_1_2.after args s (.returned v) u = true ∧ True) → FrameEnd s (.returned v) u (Jvm.fieldLocs frame_1_writes args s ++ Jvm.arrayLocs frame_1_arrays args s ++ Jvm.staticLocs frame_1_statics s) 16 128 → Post tb e args s (.returned v) u) :
    ArmFor flags0 classFile x code maxLocals ret World_1 tables_1 room_1 Calls_1 rest_1 Pre_1 Post := by
  intro l hfl _ _ p e ha hc hk s m args below hf hA hF happ hP
  obtain ⟨hcalls, hrest, hpre⟩ := hP
  obtain ⟨-, -, -, hnamed, -, -, -, hat⟩ := (Spec.applies_iff hf).mp happ
  obtain ⟨hg, hn⟩ := and_e (Cond.before_iff.mp (show (Jvm.Cond.and given_1 narrow_1).before args s = true from hpre))
  obtain ⟨gg1, gg2⟩ := and_e hg
  obtain ⟨gg3, gg4⟩ := and_e gg2
  obtain ⟨gg5, gg6⟩ := and_e gg4
  obtain ⟨gg7, gg8⟩ := and_e gg6
  obtain ⟨gg9, gg10⟩ := and_e gg8
  obtain ⟨gg11, gg12⟩ := and_e gg10
  obtain ⟨w0, w1, w2, w3, w4, w5, rfl⟩ : ∃ w0 w1 w2 w3 w4 w5 : Value, args = #[w0, w1, w2, w3, w4, w5] := by
    have hs : args.size = 6 := by simpa [Cond.value, given_1] using gg1
    obtain ⟨L⟩ := args
    match L, hs with
    | [w0, w1, w2, w3, w4, w5], _ => exact ⟨w0, w1, w2, w3, w4, w5, rfl⟩
  have hw := fun d (hd : d ∈ tables_1) => atoms_spec (ws := Jvm.Cond.code x code maxLocals ret :: tables_1) hat d (List.mem_cons_of_mem _ hd)
  obtain ⟨i0, ei0⟩ := isL_v gg3
  obtain rfl : w0 = (.long i0) := Option.some.inj ei0
  obtain ⟨i1, ei1⟩ := isL_v gg5
  obtain rfl : w1 = (.long i1) := Option.some.inj ei1
  obtain ⟨i2, ei2⟩ := isL_v gg7
  obtain rfl : w2 = (.long i2) := Option.some.inj ei2
  obtain ⟨i3, ei3⟩ := is_v gg9
  obtain rfl : w3 = (.int i3) := Option.some.inj ei3
  obtain ⟨i4, ei4⟩ := is_v gg11
  obtain rfl : w4 = (.int i4) := Option.some.inj ei4
  obtain ⟨i5, ei5⟩ := is_v gg12
  obtain rfl : w5 = (.int i5) := Option.some.inj ei5
  obtain ⟨v, σ', u', ⟨rfl, hc1, hu1⟩, r⟩ := law_go s _ hw s.heap.size i0 i1 i2 i3 i4 i5
  have D0 : WDen s (fun k => s.heap.size + k) s.heap.size [] s.heap := ⟨rfl, Nat.zero_le _, fun k o h => by cases h⟩
  obtain ⟨n, o, h1, h2, h3, _, L, rfl, ⟨rfl, N, -⟩, hq⟩ := met_of (l := l) (y := x) (ws := tables_1) (argsL := [(.long i0), (.long i1), (.long i2), (.int i3), (.int i4), (.int i5)]) (h := s.heap) rfl rfl rfl rfl plx (fun k _ => rfl) (fun i j h => Nat.add_left_cancel h) r D0 room_1 (Nat.le_of_ble_eq_true rfl) (Nat.le_trans (Nat.sub_le _ _) (Nat.le_trans hc1 (by decide))) (Nat.le_trans (Nat.sub_le _ _) (Nat.le_trans hu1 (by decide))) (Nat.le_of_ble_eq_true rfl) p e ha hc hk s m _ below hf ((Spec.applies_iff_loose hf).mp happ).1 ⟨rfl, State.Warmed39.refl s, rfl⟩ trivial
  refine ⟨n, _, h1, h2, h3, hpost _ _ _ _ _ _ ⟨Cond.after_iff.mpr rfl, Cond.after_iff.mpr (eq_i res_at (Term.int_eval (1)) rfl), trivial⟩ ⟨hq.1, hq.2.1, (hq.2.2.sift fun y hy => Or.inr (N y hy)).mono (Nat.le_trans (Nat.sub_le _ _) (Nat.le_trans hc1 (by decide))) (Nat.le_trans (Nat.sub_le _ _) (Nat.le_trans hu1 (by decide)))⟩⟩
theorem main_1_1 : Claimed_1_1 := comes_1 fun _ _ _ _ _ _ h hF => ⟨h.1, hF⟩
theorem main_1_2 : Claimed_1_2 := comes_1 fun _ _ _ _ _ _ h hF => ⟨h.2.1, hF⟩
end Jvm.Pilot.@@N@@
namespace Jvm.Pilot.@@N@@
open Jvm Jvm.ClassFile Sem Op Lib Jvm.Free Jvm.Stand Jvm.Pilot.@@N@@.Jvm.D
/-! MADE BY PROGRAM (witnessworld.py) out of the Statement's table words and the real class files: 12 classes; the members and pool entries that the words name. The judged class is class 1, her method 2. -/
namespace start1
open Jvm.ClassFile
def u (s : String) : CpInfo := .utf8 (stringToUtf16 s)
/-- a pool by its gaps: so many unusable entries, then the entry; so many at the end -/
def gap : Nat → List CpInfo → List CpInfo
  | 0, r => r
  | n + 1, r => .unusable :: gap n r
def poolList (es : List (Nat × CpInfo)) (last : Nat) : List CpInfo := es.foldr (fun e r => gap e.1 (e.2 :: r)) (gap last [])
def pool (es : List (Nat × CpInfo)) (last : Nat) : Array CpInfo := ⟨poolList es last⟩
def fileOf (pool : Array CpInfo) (this : Nat) (attrs : Array Attribute := #[]) (ms : Array MethodInfo := #[]) (fl : Nat := 33) (sup : Nat := 0) (ifs : Array Nat := #[]) (fds : Array FieldInfo := #[]) : ClassFile where
  minorVersion := 0
  majorVersion := 65
  constantPool := pool
  accessFlags := fl
  thisClass := this
  superClass := sup
  interfaces := ifs
  fields := fds
  methods := ms
  attributes := attrs
def plain (name : String) (sup : Option ClassId) : Class where
  name := name
  kind := .ordinary
  loader := none
  accessFlags := 33
  super := sup
  interfaces := #[]
  cf := none
  fields := #[]
  methods := #[]
  instanceTypes := #[]
  staticTypes := #[]
  resolved := #[]
  callSites := []
  init := .initialized
  statics := none
  mirror := none

def pool0 : Array CpInfo := pool [(5, u "<init>"), (0, u "()V"), (1, .class_ 10), (1, u "java/lang/Object")] 113

def k0m0 : Method := { name := "<init>", desc := "()V", sig := { parameters := [], returnType := none }, accessFlags := 1, code := none }
/-- java/lang/Object -/
def k0 : Class := { plain "java/lang/Object" none with
  accessFlags := 33
  interfaces := #[]
  cf := some (fileOf pool0 8 #[] #[{ accessFlags := 1, nameIndex := 5, descriptorIndex := 6, attributes := #[] }] 33 0 #[] #[])
  fields := #[]
  methods := #[k0m0]
  instanceTypes := #[]
  staticTypes := #[]
  resolved := Array.replicate 124 none
  statics := none }

def pool1 : Array CpInfo := pool [(2, .class_ 4), (1, u "java/lang/Object"), (0, u "<init>"), (0, u "()V"), (0, .long 18446744073709551615), (1, .methodref 10 11), (0, .class_ 12), (0, .nameAndType 13 14), (0, u "com/example/firm_handshake/firmhandshake/lts/ArrayRangesEqualPinLaw"), (0, u "pick"), (0, u "(IJJJ)J"), (0, .methodref 16 17), (0, .class_ 18), (0, .nameAndType 19 20), (0, u "java/lang/Math"), (0, u "min"), (0, u "(II)I"), (0, .methodref 22 23), (0, .class_ 24), (0, .nameAndType 25 26), (0, u "com/example/firm_handshake/firmhandshake/lts/ArrayRanges"), (0, u "equal"), (0, u "([JII[JII)Z"), (3, u "law"), (0, u "(JJJIII)Z")] 4

def k1m0 : Method := { name := "<init>", desc := "()V", sig := { parameters := [], returnType := none }, accessFlags := 2, code := none }
def k1c1 : Code := { maxStack := 4, maxLocals := 7, code := method_2_code, exceptionTable := #[], attributes := #[] }
def k1m1 : Method := { name := "pick", desc := "(IJJJ)J", sig := { parameters := [.int, .long, .long, .long], returnType := some .long }, accessFlags := 10, code := some k1c1 }
def k1c2 : Code := { maxStack := 7, maxLocals := 26, code := code, exceptionTable := #[], attributes := #[] }
def k1m2 : Method := { name := "law", desc := "(JJJIII)Z", sig := { parameters := [.long, .long, .long, .int, .int, .int], returnType := some .boolean }, accessFlags := 9, code := some k1c2 }
/-- com/example/firm_handshake/firmhandshake/lts/ArrayRangesEqualPinLaw -/
def k1 : Class := { plain "com/example/firm_handshake/firmhandshake/lts/ArrayRangesEqualPinLaw" (some 0) with
  accessFlags := 49
  interfaces := #[]
  cf := some (fileOf pool1 10 #[] #[{ accessFlags := 2, nameIndex := 5, descriptorIndex := 6, attributes := #[] }, { accessFlags := 10, nameIndex := 13, descriptorIndex := 14, attributes := #[] }, { accessFlags := 9, nameIndex := 30, descriptorIndex := 31, attributes := #[] }] 49 2 #[] #[])
  fields := #[]
  methods := #[k1m0, k1m1, k1m2]
  instanceTypes := #[]
  staticTypes := #[]
  resolved := Array.replicate 36 none
  statics := none }

def pool2 : Array CpInfo := pool [(1, .class_ 2), (0, u "java/lang/Math"), (1, .class_ 6), (1, u "java/lang/Object"), (0, u "<init>"), (0, u "()V"), (89, .class_ 100), (1, u "java/lang/Math$RandomNumberGeneratorHolder"), (71, u "negativeZeroFloatBits"), (0, u "J"), (2, u "negativeZeroDoubleBits"), (24, u "min"), (43, u "$assertionsDisabled"), (0, u "Z"), (88, u "(II)I"), (2, u "twoToTheDoubleScaleDown"), (0, u "D"), (4, u "twoToTheDoubleScaleUp"), (9, u "E"), (3, u "PI"), (2, u "TAU"), (2, u "DEGREES_TO_RADIANS"), (0, u "RADIANS_TO_DEGREES")] 94

def k2m0 : Method := { name := "<init>", desc := "()V", sig := { parameters := [], returnType := none }, accessFlags := 2, code := none }
def k2c1 : Code := { maxStack := 2, maxLocals := 2, code := jdk_29_method_69_code, exceptionTable := #[], attributes := #[] }
def k2m1 : Method := { name := "min", desc := "(II)I", sig := { parameters := [.int, .int], returnType := some .int }, accessFlags := 9, code := some k2c1 }
/-- java/lang/Math -/
def k2 : Class := { plain "java/lang/Math" (some 0) with
  accessFlags := 49
  interfaces := #[]
  cf := some (fileOf pool2 1 #[.nestMembers #[98]] #[{ accessFlags := 2, nameIndex := 7, descriptorIndex := 8, attributes := #[] }, { accessFlags := 9, nameIndex := 201, descriptorIndex := 335, attributes := #[] }] 49 4 #[] #[{ accessFlags := 25, nameIndex := 354, descriptorIndex := 339, attributes := #[] }, { accessFlags := 25, nameIndex := 358, descriptorIndex := 339, attributes := #[] }, { accessFlags := 25, nameIndex := 361, descriptorIndex := 339, attributes := #[] }, { accessFlags := 26, nameIndex := 364, descriptorIndex := 339, attributes := #[] }, { accessFlags := 26, nameIndex := 365, descriptorIndex := 339, attributes := #[] }, { accessFlags := 26, nameIndex := 172, descriptorIndex := 173, attributes := #[] }, { accessFlags := 26, nameIndex := 176, descriptorIndex := 173, attributes := #[] }, { accessFlags := 8, nameIndex := 344, descriptorIndex := 339, attributes := #[] }, { accessFlags := 8, nameIndex := 338, descriptorIndex := 339, attributes := #[] }, { accessFlags := 4120, nameIndex := 245, descriptorIndex := 246, attributes := #[] }])
  fields := #[{ name := "E", type := .double, accessFlags := 25, slot := 0, constantValue := 0 }, { name := "PI", type := .double, accessFlags := 25, slot := 1, constantValue := 0 }, { name := "TAU", type := .double, accessFlags := 25, slot := 2, constantValue := 0 }, { name := "DEGREES_TO_RADIANS", type := .double, accessFlags := 26, slot := 3, constantValue := 0 }, { name := "RADIANS_TO_DEGREES", type := .double, accessFlags := 26, slot := 4, constantValue := 0 }, { name := "negativeZeroFloatBits", type := .long, accessFlags := 26, slot := 5, constantValue := 0 }, { name := "negativeZeroDoubleBits", type := .long, accessFlags := 26, slot := 6, constantValue := 0 }, { name := "twoToTheDoubleScaleUp", type := .double, accessFlags := 8, slot := 7, constantValue := 0 }, { name := "twoToTheDoubleScaleDown", type := .double, accessFlags := 8, slot := 8, constantValue := 0 }, { name := "$assertionsDisabled", type := .boolean, accessFlags := 4120, slot := 9, constantValue := 0 }]
  methods := #[k2m0, k2m1]
  instanceTypes := #[]
  staticTypes := #[.double, .double, .double, .double, .double, .long, .long, .double, .double, .boolean]
  resolved := Array.replicate 460 none
  statics := none }

def pool3 : Array CpInfo := pool [(2, .class_ 4), (1, u "java/lang/Object"), (0, u "<init>"), (0, u "()V"), (0, .class_ 8), (0, u "com/example/firm_handshake/firmhandshake/lts/ArrayRanges"), (2, u "equal"), (0, u "([JII[JII)Z")] 3

def k3m0 : Method := { name := "<init>", desc := "()V", sig := { parameters := [], returnType := none }, accessFlags := 2, code := none }
def k3c1 : Code := { maxStack := 5, maxLocals := 8, code := prog_73_method_2_code, exceptionTable := #[], attributes := #[] }
def k3m1 : Method := { name := "equal", desc := "([JII[JII)Z", sig := { parameters := [(.array .long), .int, .int, (.array .long), .int, .int], returnType := some .boolean }, accessFlags := 8, code := some k3c1 }
/-- com/example/firm_handshake/firmhandshake/lts/ArrayRanges -/
def k3 : Class := { plain "com/example/firm_handshake/firmhandshake/lts/ArrayRanges" (some 0) with
  accessFlags := 48
  interfaces := #[]
  cf := some (fileOf pool3 7 #[] #[{ accessFlags := 2, nameIndex := 5, descriptorIndex := 6, attributes := #[] }, { accessFlags := 8, nameIndex := 11, descriptorIndex := 12, attributes := #[] }] 48 2 #[] #[])
  fields := #[]
  methods := #[k3m0, k3m1]
  instanceTypes := #[]
  staticTypes := #[]
  resolved := Array.replicate 16 none
  statics := none }

def pool4 : Array CpInfo := pool [(1, u "java/lang/Cloneable"), (0, .class_ 1), (0, u "java/lang/Object"), (0, .class_ 3)] 3

/-- java/lang/Cloneable -/
def k4 : Class := { plain "java/lang/Cloneable" (some 0) with
  accessFlags := 1537
  interfaces := #[]
  cf := some (fileOf pool4 2 #[] #[] 1537 4 #[] #[])
  fields := #[]
  methods := #[]
  instanceTypes := #[]
  staticTypes := #[]
  resolved := Array.replicate 8 none
  statics := none }

def pool5 : Array CpInfo := pool [(1, u "java/io/Serializable"), (0, .class_ 1), (0, u "java/lang/Object"), (0, .class_ 3)] 3

/-- java/io/Serializable -/
def k5 : Class := { plain "java/io/Serializable" (some 0) with
  accessFlags := 1537
  interfaces := #[]
  cf := some (fileOf pool5 2 #[] #[] 1537 4 #[] #[])
  fields := #[]
  methods := #[]
  instanceTypes := #[]
  staticTypes := #[]
  resolved := Array.replicate 8 none
  statics := none }

/-- the primitive byte -/
def k6 : Class := { plain "byte" none with kind := .primitive 'B', accessFlags := 0x411 }
/-- [B -/
def k7 : Class := { plain "[B" (some 0) with kind := .array 6 .byte, interfaces := #[4, 5], accessFlags := 1041 }

/-- the primitive int -/
def k8 : Class := { plain "int" none with kind := .primitive 'I', accessFlags := 0x411 }
/-- [I -/
def k9 : Class := { plain "[I" (some 0) with kind := .array 8 .int, interfaces := #[4, 5], accessFlags := 1041 }

/-- the primitive long -/
def k10 : Class := { plain "long" none with kind := .primitive 'J', accessFlags := 0x411 }
/-- [J -/
def k11 : Class := { plain "[J" (some 0) with kind := .array 10 .long, interfaces := #[4, 5], accessFlags := 1041 }

def heap : Heap := #[]
def classes : Array Class := #[k0, k1, k2, k3, k4, k5, k6, k7, k8, k9, k10, k11]
def interned : List (Array UInt16 × Addr) := []
def slotsUsed : Nat := 0
def theMethod : MethodId := ⟨1, 2⟩
def args0 : Array Value := #[.long 5, .long 0, .long 3, .int 2, .int 6, .int 1]
def aboutOver (below : List Frame) : State where
  vm := { classes := classes, interned := interned.toArray }
  heap := heap
  slotsUsed := slotsUsed
  threads := #[{ frames := .invoking theMethod args0 :: below }]
def below0 : List Frame := [.native { method := ⟨0, 0⟩, args := #[] }]
def about1 : State := aboutOver below0
def p0 : Program := .bare "" "" ""
def e0 : Env := launch0.env 0 0 0
theorem w_frames : about1.frames = Frame.invoking theMethod args0 :: below0 := rfl
set_option maxRecDepth 65536 in
theorem w_args : argsFit about1.vm theMethod args0 = true := by decide +kernel
set_option maxRecDepth 65536 in
theorem w_heap : heapFits about1 = true := by decide +kernel
set_option maxRecDepth 65536 in
theorem w_runnable : about1.curStatus? = some .runnable := by decide +kernel
set_option maxRecDepth 65536 in
theorem w_alone : about1.alone = true := by decide +kernel
set_option maxRecDepth 65536 in
theorem w_named : about1.methodNamed? x = some theMethod := by decide +kernel
set_option maxRecDepth 65536 in
theorem w_hears : about1.hears theMethod below0 = true := by decide +kernel
set_option maxRecDepth 65536 in
theorem w_ripe : about1.ripe theMethod args0 below0 = true := by decide +kernel
theorem w_running : about1.status = .running := rfl
set_option maxRecDepth 65536 in
theorem w_room : about1.hasRoom e0.platform room_1 = true :=
  launch0.hasRoom_least _ room_1 (by decide +kernel) (by decide +kernel) (by decide +kernel) (by decide +kernel) (by decide +kernel) (by decide +kernel)
theorem allAtoms_all (ts : List Jvm.Cond) (a : Array Jvm.Value) (st : Jvm.State) : (allAtoms ts).before a st = ts.all (fun c => c.before a st) := by
  induction ts with
  | nil => rfl
  | cons c t ih =>
    show (Jvm.Cond.and c (allAtoms t)).before a st = _
    rw [Jvm.Cond.before_and, ih, List.all_cons]
def words1 : List Jvm.Cond := Jvm.Cond.code x code maxLocals ret :: tables_1
/-- a 'code' word, met by the world's own term for the bytes: nothing is compared byte by byte -/
theorem code_word {y : MethodName} {bytes : ByteArray} {mx : Nat} {rt : Option FieldType} {a : Array Value} {s : State} {m : MethodId} {meth : Method} {c : Code} (h1 : s.methodNamed? y = some m) (h2 : s.vm.method? m = some meth) (h3 : meth.code = some c) (h4 : c.code = bytes)
    (h5 : (c.maxLocals == mx && c.exceptionTable.isEmpty && decide (c.maxStack ≤ mostOperands) && decide (meth.sig.returnType = rt) && !meth.locks && decide (parseMethodDescriptor y.desc = some meth.sig)) = true) : (Jvm.Cond.code y bytes mx rt).before a s = true := by
  simp only [Bool.and_eq_true, beq_iff_eq, Bool.not_eq_true', decide_eq_true_eq] at h5
  obtain ⟨⟨⟨⟨⟨g1, g2⟩, g3⟩, g4⟩, g5⟩, g6⟩ := h5
  simp [Cond.before, Cond.holds, Cond.value, h1, h2, h3, h4, g1, g2, g3, g4, g5, g6]
def isCode : Jvm.Cond → Bool
  | .code _ _ _ _ => true
  | _ => false
theorem all_split {L : List Jvm.Cond} {P : Jvm.Cond → Bool} (h1 : L.all (fun c => isCode c || P c) = true) (h2 : ∀ c ∈ L.filter isCode, P c = true) : L.all P = true := by
  refine List.all_eq_true.mpr fun c hc => ?_
  have h := List.all_eq_true.mp h1 c hc
  rcases Bool.eq_false_or_eq_true (isCode c) with hi | hi
  · exact h2 c (List.mem_filter.mpr ⟨hc, hi⟩)
  · simpa [hi] using h
set_option maxRecDepth 65536 in
theorem w_c0 : (Jvm.Cond.code x code maxLocals ret).before args0 about1 = true := code_word (m := ⟨1, 2⟩) (meth := k1m2) (c := k1c2) (by decide +kernel) rfl rfl rfl (by decide +kernel)
set_option maxRecDepth 65536 in
theorem w_c1 : (Jvm.Cond.code ({ cls := "com/example/firm_handshake/firmhandshake/lts/ArrayRangesEqualPinLaw", name := "pick", desc := "(IJJJ)J" } : Jvm.MethodName) method_2_code (7 : Nat) (Option.some Jvm.ClassFile.FieldType.long)).before args0 about1 = true := code_word (m := ⟨1, 1⟩) (meth := k1m1) (c := k1c1) (by decide +kernel) rfl rfl rfl (by decide +kernel)
set_option maxRecDepth 65536 in
theorem w_c2 : (Jvm.Cond.code ({ cls := "java/lang/Math", name := "min", desc := "(II)I" } : Jvm.MethodName) jdk_29_method_69_code (2 : Nat) (Option.some Jvm.ClassFile.FieldType.int)).before args0 about1 = true := code_word (m := ⟨2, 1⟩) (meth := k2m1) (c := k2c1) (by decide +kernel) rfl rfl rfl (by decide +kernel)
set_option maxRecDepth 65536 in
theorem w_c3 : (Jvm.Cond.code ({ cls := "com/example/firm_handshake/firmhandshake/lts/ArrayRanges", name := "equal", desc := "([JII[JII)Z" } : Jvm.MethodName) prog_73_method_2_code (8 : Nat) (Option.some Jvm.ClassFile.FieldType.boolean)).before args0 about1 = true := code_word (m := ⟨3, 1⟩) (meth := k3m1) (c := k3c1) (by decide +kernel) rfl rfl rfl (by decide +kernel)
def codes1 : List Jvm.Cond := [Jvm.Cond.code x code maxLocals ret, Jvm.Cond.code ({ cls := "com/example/firm_handshake/firmhandshake/lts/ArrayRangesEqualPinLaw", name := "pick", desc := "(IJJJ)J" } : Jvm.MethodName) method_2_code (7 : Nat) (Option.some Jvm.ClassFile.FieldType.long), Jvm.Cond.code ({ cls := "java/lang/Math", name := "min", desc := "(II)I" } : Jvm.MethodName) jdk_29_method_69_code (2 : Nat) (Option.some Jvm.ClassFile.FieldType.int), Jvm.Cond.code ({ cls := "com/example/firm_handshake/firmhandshake/lts/ArrayRanges", name := "equal", desc := "([JII[JII)Z" } : Jvm.MethodName) prog_73_method_2_code (8 : Nat) (Option.some Jvm.ClassFile.FieldType.boolean)]
set_option maxRecDepth 65536 in
theorem codes_eq : words1.filter isCode = codes1 := rfl
theorem w_codes : ∀ c ∈ words1.filter isCode, c.before args0 about1 = true := by
  rw [codes_eq]
  intro c hc
  simp only [codes1, List.mem_cons, List.not_mem_nil, or_false] at hc
  rcases hc with rfl | rfl | rfl | rfl
  · exact w_c0
  · exact w_c1
  · exact w_c2
  · exact w_c3
set_option maxRecDepth 65536 in
theorem w_t1 : words1.all (fun c => isCode c || c.before args0 about1) = true := by decide +kernel
theorem w_tables : (allAtoms (Jvm.Cond.code x code maxLocals ret :: tables_1)).before args0 about1 = true := by
  rw [allAtoms_all]
  show words1.all (fun c => c.before args0 about1) = true
  refine all_split ?_ w_codes
  rw [w_t1]
set_option maxRecDepth 65536 in
theorem w_case : (Jvm.Cond.and given_1 narrow_1).before args0 about1 = true := by decide +kernel
theorem w_applies : (headSpec (Jvm.Cond.code x code maxLocals ret :: tables_1) room_1).applies x e0.platform about1 = true :=
  (Spec.applies_iff w_frames).mpr ⟨w_running, w_runnable, w_alone, w_named, w_hears, w_ripe, w_room, w_tables⟩
theorem atStart : AtStart classFile x code maxLocals ret World_1 tables_1 room_1 Calls_1 rest_1 Pre_1 launch0 p0 e0 about1 theMethod args0 below0 :=
  ⟨lists_1, trivial, launch0.admits_env _ _ _, launch0.least_env, fairChoices_fair.cas, fairChoices_fair.clock, w_frames, w_args, w_heap, w_applies, trivial, trivial, w_case⟩
end start1
theorem witness_1 : WitnessClaimed_1 := ⟨start1.p0, start1.e0, start1.about1, start1.theMethod, start1.args0, start1.below0, start1.atStart⟩
end Jvm.Pilot.@@N@@
