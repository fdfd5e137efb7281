import JvmDerived
import JvmDerived.Pilot.@@N@@Statement
import JvmDerived.Pilot.@@N@@Code
set_option linter.unusedVariables false
set_option linter.unusedSimpArgs false

namespace Jvm.Sy
open Jvm Jvm.ClassFile Sem Op Lib Jvm.Free Jvm.Stand Jvm.LawKit Jvm.RoadKit Bundle

abbrev WKey := String × String × String
abbrev WObj := (FieldType × List Value) ⊕ (String × List (WKey × Value))
abbrev WHp := List WObj
def gv (ρ : Nat → Nat) : Value → Value
  | .ref a => .ref (ρ a)
  | .int x => .int x
  | .long x => .long x
  | .float x => .float x
  | .double x => .double x
  | .null => .null
  | .retAddr q => .retAddr q
def gs (ρ : Nat → Nat) : Slot → Slot
  | .val v => .val (gv ρ v)
  | .unset => .unset
  | .second => .second
def gS (ρ : Nat → Nat) (S : List Value) : List Value := S.map (gv ρ)
def gL (ρ : Nat → Nat) (L : List Slot) : Array Slot := (L.map (gs ρ)).toArray
section Vals
variable {ρ : Nat → Nat} {v : Value} {ty : FieldType}
theorem cat_gv : (gv ρ v).category = v.category := by cases v <;> rfl
theorem isRef_gv : (gv ρ v).isRef = v.isRef := by cases v <;> rfl
theorem fits_gv : fits ty (gv ρ v) = fits ty v := by cases ty <;> cases v <;> rfl
theorem narrow_gv : narrow ty (gv ρ v) = gv ρ (narrow ty v) := by cases ty <;> cases v <;> rfl
theorem dv_gv : gv ρ (defaultValue ty) = defaultValue ty := by cases ty <;> rfl
theorem sum_gS (S : List Value) : ((gS ρ S).map fun v => v.category).sum = (S.map Value.category).sum := by
  induction S with
  | nil => rfl
  | cons a t ih => simp only [gS, List.map_cons, List.sum_cons, cat_gv] at ih ⊢; rw [ih]
theorem gL_get (L : List Slot) (k : Nat) : (gL ρ L)[k]? = (L[k]?).map (gs ρ) := by simp [gL]
theorem gL_val {L : List Slot} {k : Nat} (h : L[k]? = some (.val v)) : (gL ρ L)[k]? = some (.val (gv ρ v)) := by rw [gL_get, h]; rfl
theorem gL_size (L : List Slot) : (gL ρ L).size = L.length := by simp [gL]
end Vals
def ArrOk (Z : State) (ρ : Nat → Nat) (h : Heap) (a : Addr) (ty : FieldType) (vs : List Value) : Prop :=
  ∃ cl : Cell, Arr Z h a cl ty ∧ cl.slots.toList = vs.map (gv ρ) ∧ (∀ C, ty = .object C → Ovr Z cl.cls C) ∧ ∀ v ∈ vs, fits ty v = true
def ObjOk (Z : State) (ρ : Nat → Nat) (h : Heap) (a : Addr) (C : String) (fs : List (WKey × Value)) : Prop :=
  Exa Z h a C ∧ (∀ (i : Nat) (O n d : String) (v : Value), fs[i]? = some ((O, n, d), v) → Fld Z h a O n d (gv ρ v)) ∧
    ∀ (i j : Nat) (k1 k2 : WKey) (v1 v2 : Value), i ≠ j → fs[i]? = some (k1, v1) → fs[j]? = some (k2, v2) → RoadKit.slotOf Z k1.1 k1.2.1 k1.2.2 ≠ RoadKit.slotOf Z k2.1 k2.2.1 k2.2.2
def CellOk (Z : State) (ρ : Nat → Nat) (h : Heap) (a : Addr) : WObj → Prop
  | .inl q => ArrOk Z ρ h a q.1 q.2
  | .inr q => ObjOk Z ρ h a q.1 q.2
def WDen (Z : State) (ρ : Nat → Nat) (n0 : Nat) (σ : WHp) (h : Heap) : Prop :=
  h.size = n0 + σ.length ∧ (σ.length ≤ 1000 ∧ ∀ (a : Addr) (c : Cell), a < n0 → Z.heap[a]? = some c → h[a]? = some c) ∧ ∀ (k : Nat) (o : WObj), σ[k]? = some o → CellOk Z ρ h (n0 + k) o
section Heaps
variable {Z : State} {ρ : Nat → Nat} {h h' : Heap} {a b : Addr} {o : WObj} {n0 k sl : Nat} {σ : WHp} {v : Value}
theorem CellOk.ext (F : CellOk Z ρ h a o) (E : Ext h h') : CellOk Z ρ h' a o := by
  rcases o with ⟨ty, vs⟩ | ⟨C, fs⟩
  · obtain ⟨cl, A, r⟩ := F; exact ⟨cl, A.ext E, r⟩
  · obtain ⟨F1, F2, F3⟩ := F; exact ⟨F1.ext E, fun i O n d v q => (F2 i O n d v q).ext E, F3⟩
theorem CellOk.other (F : CellOk Z ρ h b o) (W : Wr h h' a sl v) (q : b ≠ a) : CellOk Z ρ h' b o := by
  rcases o with ⟨ty, vs⟩ | ⟨C, fs⟩
  · obtain ⟨cl, A, r⟩ := F; exact ⟨cl, A.other W q, r⟩
  · obtain ⟨F1, F2, F3⟩ := F; exact ⟨F1.wr W, fun i O n d v y => (F2 i O n d v y).other W (Or.inl q), F3⟩
theorem WDen.push (D : WDen Z ρ n0 σ h) (E : Ext h h') (hs : h'.size = h.size + 1) (hl : σ.length < 1000) (F : CellOk Z ρ h' (n0 + σ.length) o) : WDen Z ρ n0 (σ ++ [o]) h' := by
  obtain ⟨D1, D2, D3⟩ := D
  refine ⟨by rw [hs, D1]; simp [Nat.add_assoc], ⟨by simp; omega, fun a c h1 h2 => E.2 _ _ (D2.2 a c h1 h2)⟩, fun k o' hk => ?_⟩
  by_cases q : k < σ.length
  · rw [List.getElem?_append_left q] at hk; exact (D3 k o' hk).ext E
  · rw [List.getElem?_append_right (by omega)] at hk
    have e : k - σ.length = 0 := by
      rcases Nat.eq_zero_or_pos (k - σ.length) with z | z
      · exact z
      · rw [List.getElem?_eq_none (by simp; omega)] at hk; cases hk
    rw [e] at hk
    cases hk
    have e2 : k = σ.length := by omega
    rw [e2]; exact F
theorem WDen.put (D : WDen Z ρ n0 σ h) (W : Wr h h' (n0 + k) sl v) (F : CellOk Z ρ h' (n0 + k) o) : WDen Z ρ n0 (σ.set k o) h' := by
  obtain ⟨D1, D2, D3⟩ := D
  refine ⟨by rw [W.size, D1]; simp, ⟨by simp; exact D2.1, fun a c h1 h2 => ?_⟩, fun j o' hj => ?_⟩
  · obtain ⟨c', q1, -, -, -, q5, -⟩ := wr_at W (D2.2 a c h1 h2)
    rw [q1, q5 (fun e => by rw [e] at h1; exact absurd h1 (Nat.not_lt.mpr (Nat.le_add_right _ _)))]
  by_cases q : j = k
  · subst q
    rw [List.getElem?_set] at hj
    simp only [if_true] at hj
    split at hj
    · cases hj; exact F
    · cases hj
  · rw [List.getElem?_set_ne (Ne.symm q)] at hj
    exact (D3 j o' hj).other W fun e => q (Nat.add_left_cancel e)
theorem WDen.lt (D : WDen Z ρ n0 σ h) (hk : σ[k]? = some o) : k < 1000 := by
  have := (List.getElem?_eq_some_iff.mp hk).1
  have := D.2.1.1
  omega
theorem ArrOk.size {ty : FieldType} {vs : List Value} {cl : Cell} (e : cl.slots.toList = vs.map (gv ρ)) : cl.slots.size = vs.length := by
  have := congrArg List.length e
  simpa using this
theorem ArrOk.at {vs : List Value} {cl : Cell} (e : cl.slots.toList = vs.map (gv ρ)) {i : Nat} {w : Value} (hw : vs[i]? = some w) : cl.slots[i]? = some (gv ρ w) := by
  rw [← Array.getElem?_toList, e, List.getElem?_map, hw]; rfl
theorem ArrOk.set {ty : FieldType} {vs : List Value} {cl : Cell} (A : Arr Z h a cl ty) (e : cl.slots.toList = vs.map (gv ρ)) (hO : ∀ C, ty = .object C → Ovr Z cl.cls C) (hf : ∀ v ∈ vs, fits ty v = true) {i : Nat} {w : Value} (W : Wr h h' a i (gv ρ w)) (hw : fits ty w = true) : ArrOk Z ρ h' a ty (vs.set i w) := by
  refine ⟨cl.setSlot i (gv ρ w), A.same W, ?_, hO, fun y hy => ?_⟩
  · show (cl.slots.setIfInBounds i (gv ρ w)).toList = _
    rw [Array.toList_setIfInBounds, e, List.map_set]
  · rcases List.mem_or_eq_of_mem_set hy with q | q
    · exact hf y q
    · rw [q]; exact hw
end Heaps
abbrev WMC := (State × (Nat → Nat) × Nat) × (String × ByteArray × String × Option FieldType × Nat) × (Nat × Nat × Nat × Nat)
abbrev WMC.Z (G : WMC) : State := G.1.1
abbrev WMC.ρ (G : WMC) : Nat → Nat := G.1.2.1
abbrev WMC.n0 (G : WMC) : Nat := G.1.2.2
abbrev WMC.own (G : WMC) : String := G.2.1.1
abbrev WMC.bytes (G : WMC) : ByteArray := G.2.1.2.1
abbrev WMC.nm (G : WMC) : String := G.2.1.2.2.1
abbrev WMC.ret (G : WMC) : Option FieldType := G.2.1.2.2.2.1
abbrev WMC.ml (G : WMC) : Nat := G.2.1.2.2.2.2
abbrev WMC.j0 (G : WMC) : Nat := G.2.2.1
abbrev WMC.u0 (G : WMC) : Nat := G.2.2.2.1
abbrev WMC.fr (G : WMC) : Nat := G.2.2.2.2.1
abbrev WMC.lo (G : WMC) : Nat := G.2.2.2.2.2
abbrev WCfg := Nat × List Slot × List Value × WHp × Nat
def frm (G : WMC) (m : MethodId) (A : WCfg) : JFrame := mkF m A.1 (gL G.ρ A.2.1) (gS G.ρ A.2.2.1)
def WCtx (G : WMC) (p : Program) (R : Room) (s : State) (m : MethodId) (meth : Method) (c : Code) : Prop :=
  p.tables.exec = Jvm.exec ∧ c.code = G.bytes ∧ G.Z.Warmed39 s.vm ∧ s.vm.findClass G.own = some m.cls ∧ meth.name = G.nm ∧ meth.sig.returnType = G.ret ∧ c.maxLocals = G.ml ∧ s.heap.size = G.n0 + G.j0 ∧ (∀ k, k < 1000 → G.ρ k = G.n0 + k) ∧ (∀ i j, G.ρ i = G.ρ j → i = j) ∧ G.fr ≤ R.frames ∧ G.lo ≤ R.locals
def WHere (G : WMC) (p : Program) (l : Launch) (e : Env) (R : Room) (s : State) (m : MethodId) (args : Array Value) (below : List Frame) (meth : Method) (c : Code) (σ : WHp) (u : Nat) (T : State) : Prop :=
  ∃ locs ce sl, σ.length = G.j0 + ce ∧ u = G.u0 + sl ∧ Stand p l e R s m args below meth c T locs ce sl ∧ WDen G.Z G.ρ G.n0 σ T.heap ∧ Fr G.n0 locs
def WStep (G : WMC) (A B : WCfg) : Prop :=
  A.2.2.2.1.length ≤ B.2.2.2.1.length ∧ A.2.2.2.2 ≤ B.2.2.2.2 ∧
  ∀ (p : Program) (l : Launch) (e : Env) (R : Room) (s : State) (m : MethodId) (args : Array Value) (below : List Frame) (meth : Method) (c : Code),
    WCtx G p R s m meth c → B.2.2.2.1.length ≤ G.j0 + R.cells → B.2.2.2.2 ≤ G.u0 + R.slots →
    ∀ T, WHere G p l e R s m args below meth c A.2.2.2.1 A.2.2.2.2 T →
      ∃ T', WHere G p l e R s m args below meth c B.2.2.2.1 B.2.2.2.2 T' ∧
        ∀ target, Steps p.tables e below (T'.setTop (frm G m B)) target → Steps p.tables e below (T.setTop (frm G m A)) target
def WRun (G : WMC) (A : WCfg) (v : Option Value) (σ' : WHp) (u' : Nat) : Prop :=
  A.2.2.2.1.length ≤ σ'.length ∧ A.2.2.2.2 ≤ u' ∧ (G.ret = none → v = none) ∧
  ∀ (p : Program) (l : Launch) (e : Env) (R : Room) (s : State) (m : MethodId) (args : Array Value) (below : List Frame) (meth : Method) (c : Code),
    WCtx G p R s m meth c → σ'.length ≤ G.j0 + R.cells → u' ≤ G.u0 + R.slots →
    ∀ T, WHere G p l e R s m args below meth c A.2.2.2.1 A.2.2.2.2 T →
      ∃ T', WHere G p l e R s m args below meth c σ' u' T' ∧
        ∀ fs, (∀ (f : JFrame) (acts : List Action), f.method = m → f.locked = none → f.entered = [] → (doReturn e (T'.setTop f) acts (v.map (gv G.ρ))).1 = T'.setFrames fs) →
          Steps p.tables e below (T.setTop (frm G m A)) (T'.setFrames fs)
def WGo (G : WMC) (A : WCfg) (Q : Option Value → WHp → Nat → Prop) : Prop := ∃ v σ' u', Q v σ' u' ∧ WRun G A v σ' u'
def AtI (bytes : ByteArray) (pc : Nat) (i : Instr) (len nx : Nat) : Prop := decode bytes pc = .ok (i, len) ∧ pc + len = nx
def AtJ (bytes : ByteArray) (pc : Nat) (f : Int → Instr) (nx tgt : Nat) : Prop := ∃ o : Int, decode bytes pc = .ok (f o, 3) ∧ pc + 3 = nx ∧ 0 ≤ (pc : Int) + o ∧ ((pc : Int) + o).toNat = tgt
section Walk
variable {G : WMC} {A B C : WCfg} {Q Q' : Option Value → WHp → Nat → Prop}
theorem WStep.refl (A : WCfg) : WStep G A A := ⟨Nat.le_refl _, Nat.le_refl _, fun _ _ _ _ _ _ _ _ _ _ _ _ _ T hT => ⟨T, hT, fun _ k => k⟩⟩
theorem WStep.trans (h1 : WStep G A B) (h2 : WStep G B C) : WStep G A C := by
  obtain ⟨a1, a2, a3⟩ := h1
  obtain ⟨b1, b2, b3⟩ := h2
  refine ⟨Nat.le_trans a1 b1, Nat.le_trans a2 b2, fun p l e R s m args below meth c hC hc hs T hT => ?_⟩
  obtain ⟨T1, hT1, k1⟩ := a3 p l e R s m args below meth c hC (Nat.le_trans b1 hc) (Nat.le_trans b2 hs) T hT
  obtain ⟨T2, hT2, k2⟩ := b3 p l e R s m args below meth c hC hc hs T1 hT1
  exact ⟨T2, hT2, fun t k => k1 t (k2 t k)⟩
theorem WRun.s {v : Option Value} {σ' : WHp} {u' : Nat} (h1 : WStep G A B) (h2 : WRun G B v σ' u') : WRun G A v σ' u' := by
  obtain ⟨a1, a2, a3⟩ := h1
  obtain ⟨b1, b2, b0, b3⟩ := h2
  refine ⟨Nat.le_trans a1 b1, Nat.le_trans a2 b2, b0, fun p l e R s m args below meth c hC hc hs T hT => ?_⟩
  obtain ⟨T1, hT1, k1⟩ := a3 p l e R s m args below meth c hC (Nat.le_trans b1 hc) (Nat.le_trans b2 hs) T hT
  obtain ⟨T2, hT2, k2⟩ := b3 p l e R s m args below meth c hC hc hs T1 hT1
  exact ⟨T2, hT2, fun fs h => k1 _ (k2 fs h)⟩
theorem WGo.s (h1 : WStep G A B) (h2 : WGo G B Q) : WGo G A Q := by
  obtain ⟨v, σ', u', q, r⟩ := h2
  exact ⟨v, σ', u', q, r.s h1⟩
theorem WGo.mono (h1 : WGo G A Q) (h : ∀ v σ' u', Q v σ' u' → Q' v σ' u') : WGo G A Q' := by
  obtain ⟨v, σ', u', q, r⟩ := h1
  exact ⟨v, σ', u', h _ _ _ q, r⟩
theorem WStep.pure {pc nx : Nat} {L L' : List Slot} {S S' : List Value} {σ : WHp} {u : Nat}
    (h : ∀ {p : Program} {e : Env} {below : List Frame} {T target : State} {m : MethodId} {c : Code}, At T m c below → p.tables.exec = Jvm.exec → c.code = G.bytes → (∀ i j, G.ρ i = G.ρ j → i = j) →
      Steps p.tables e below (T.setTop (mkF m nx (gL G.ρ L') (gS G.ρ S'))) target → Steps p.tables e below (T.setTop (mkF m pc (gL G.ρ L) (gS G.ρ S))) target) :
    WStep G (pc, L, S, σ, u) (nx, L', S', σ, u) := by
  refine ⟨Nat.le_refl _, Nat.le_refl _, fun p l e R s m args below meth c hC hc hs T hT => ⟨T, hT, fun target k => ?_⟩⟩
  obtain ⟨locs, ce, sl, h1, h2, X, D, N⟩ := hT
  exact h X.here hC.1 hC.2.1 hC.2.2.2.2.2.2.2.2.2.1 k
end Walk
end Jvm.Sy
namespace Jvm.Sy
open Jvm Jvm.ClassFile Sem Op Lib Jvm.Free Jvm.Stand Jvm.LawKit Jvm.RoadKit Bundle
section Pure
variable {G : WMC} {pc nx tgt u : Nat} {L L' : List Slot} {S : List Value} {σ : WHp}
theorem WStep.iload {k : Nat} {x : Int32} (d : AtI G.bytes pc (.iload k) 2 nx) (hl : L[k]? = some (.val (.int x))) : WStep G (pc, L, S, σ, u) (nx, L, .int x :: S, σ, u) := by
  obtain ⟨d, rfl⟩ := d
  exact WStep.pure fun hA hx hby _ k => XS.iload hA hx rfl (hb hby d) (gL_val hl) k
theorem WStep.iloadN {k : Fin 4} {x : Int32} (d : AtI G.bytes pc (.iload_n k) 1 nx) (hl : L[k.val]? = some (.val (.int x))) : WStep G (pc, L, S, σ, u) (nx, L, .int x :: S, σ, u) := by
  obtain ⟨d, rfl⟩ := d
  exact WStep.pure fun hA hx hby _ k => XS.iloadN hA hx rfl (hb hby d) (gL_val hl) k
theorem WStep.aload {k : Nat} {x : Value} (d : AtI G.bytes pc (.aload k) 2 nx) (hl : L[k]? = some (.val x)) (hr : x.isRef = true) : WStep G (pc, L, S, σ, u) (nx, L, x :: S, σ, u) := by
  obtain ⟨d, rfl⟩ := d
  exact WStep.pure fun hA hx hby _ k => XS.aload hA hx rfl (hb hby d) (gL_val hl) (isRef_gv.trans hr) k
theorem WStep.aloadN {k : Fin 4} {x : Value} (d : AtI G.bytes pc (.aload_n k) 1 nx) (hl : L[k.val]? = some (.val x)) (hr : x.isRef = true) : WStep G (pc, L, S, σ, u) (nx, L, x :: S, σ, u) := by
  obtain ⟨d, rfl⟩ := d
  exact WStep.pure fun hA hx hby _ k => XS.aloadN hA hx rfl (hb hby d) (gL_val hl) (isRef_gv.trans hr) k
theorem WStep.istore {k : Nat} {x : Int32} (d : AtI G.bytes pc (.istore k) 2 nx) (hl : storeLocals (gL G.ρ L) k (.int x) = some (gL G.ρ L')) : WStep G (pc, L, .int x :: S, σ, u) (nx, L', S, σ, u) := by
  obtain ⟨d, rfl⟩ := d
  exact WStep.pure fun hA hx hby _ k => XS.istore hA hx rfl (hb hby d) rfl hl k
theorem WStep.istoreN {k : Fin 4} {x : Int32} (d : AtI G.bytes pc (.istore_n k) 1 nx) (hl : storeLocals (gL G.ρ L) k.val (.int x) = some (gL G.ρ L')) : WStep G (pc, L, .int x :: S, σ, u) (nx, L', S, σ, u) := by
  obtain ⟨d, rfl⟩ := d
  exact WStep.pure fun hA hx hby _ k => XS.istoreN hA hx rfl (hb hby d) rfl hl k
theorem WStep.astore {k : Nat} {x : Value} (d : AtI G.bytes pc (.astore k) 2 nx) (hr : x.isRef = true) (hl : storeLocals (gL G.ρ L) k (gv G.ρ x) = some (gL G.ρ L')) : WStep G (pc, L, x :: S, σ, u) (nx, L', S, σ, u) := by
  obtain ⟨d, rfl⟩ := d
  exact WStep.pure fun hA hx hby _ k => XS.astore hA hx rfl (hb hby d) rfl (isRef_gv.trans hr) hl k
theorem WStep.astoreN {k : Fin 4} {x : Value} (d : AtI G.bytes pc (.astore_n k) 1 nx) (hr : x.isRef = true) (hl : storeLocals (gL G.ρ L) k.val (gv G.ρ x) = some (gL G.ρ L')) : WStep G (pc, L, x :: S, σ, u) (nx, L', S, σ, u) := by
  obtain ⟨d, rfl⟩ := d
  exact WStep.pure fun hA hx hby _ k => XS.astoreN hA hx rfl (hb hby d) rfl (isRef_gv.trans hr) hl k
theorem WStep.iinc {k : Nat} {cst : Int} {x : Int32} (d : AtI G.bytes pc (.iinc k cst) 3 nx) (hl : L[k]? = some (.val (.int x))) (hl' : storeLocals (gL G.ρ L) k (.int (x + Int32.ofInt cst)) = some (gL G.ρ L')) : WStep G (pc, L, S, σ, u) (nx, L', S, σ, u) := by
  obtain ⟨d, rfl⟩ := d
  exact WStep.pure fun hA hx hby _ k => XS.iinc hA hx rfl (hb hby d) (gL_val hl) hl' k
theorem WStep.iconst {i : Int} (z : Int32) (d : AtI G.bytes pc (.iconst i) 1 nx) (hz : Int32.ofInt i = z) : WStep G (pc, L, S, σ, u) (nx, L, .int z :: S, σ, u) := by
  obtain ⟨d, rfl⟩ := d
  exact WStep.pure fun hA hx hby _ k => by subst hz; exact XS.iconst hA hx rfl (hb hby d) k
theorem WStep.bipush {i : Int} (z : Int32) (d : AtI G.bytes pc (.bipush i) 2 nx) (hz : (Int8.ofInt i).toInt32 = z) : WStep G (pc, L, S, σ, u) (nx, L, .int z :: S, σ, u) := by
  obtain ⟨d, rfl⟩ := d
  exact WStep.pure fun hA hx hby _ k => by subst hz; exact XS.bipush hA hx rfl (hb hby d) k
theorem WStep.sipush {i : Int} (z : Int32) (d : AtI G.bytes pc (.sipush i) 3 nx) (hz : (Int16.ofInt i).toInt32 = z) : WStep G (pc, L, S, σ, u) (nx, L, .int z :: S, σ, u) := by
  obtain ⟨d, rfl⟩ := d
  exact WStep.pure fun hA hx hby _ k => by subst hz; exact XS.sipush hA hx rfl (hb hby d) k
theorem WStep.aconstNull (d : AtI G.bytes pc .aconst_null 1 nx) : WStep G (pc, L, S, σ, u) (nx, L, .null :: S, σ, u) := by
  obtain ⟨d, rfl⟩ := d
  exact WStep.pure fun hA hx hby _ k => XS.aconstNull hA hx rfl (hb hby d) k
theorem WStep.iadd {x y : Int32} (d : AtI G.bytes pc .iadd 1 nx) : WStep G (pc, L, .int y :: .int x :: S, σ, u) (nx, L, .int (x + y) :: S, σ, u) := by
  obtain ⟨d, rfl⟩ := d
  exact WStep.pure fun hA hx hby _ k => XS.iadd hA hx rfl (hb hby d) rfl k
theorem WStep.isub {x y : Int32} (d : AtI G.bytes pc .isub 1 nx) : WStep G (pc, L, .int y :: .int x :: S, σ, u) (nx, L, .int (x - y) :: S, σ, u) := by
  obtain ⟨d, rfl⟩ := d
  exact WStep.pure fun hA hx hby _ k => XS.isub hA hx rfl (hb hby d) rfl k
theorem WStep.imul {x y : Int32} (d : AtI G.bytes pc .imul 1 nx) : WStep G (pc, L, .int y :: .int x :: S, σ, u) (nx, L, .int (x * y) :: S, σ, u) := by
  obtain ⟨d, rfl⟩ := d
  exact WStep.pure fun hA hx hby _ k => XS.imul hA hx rfl (hb hby d) rfl k
theorem WStep.iand {x y : Int32} (d : AtI G.bytes pc .iand 1 nx) : WStep G (pc, L, .int y :: .int x :: S, σ, u) (nx, L, .int (x &&& y) :: S, σ, u) := by
  obtain ⟨d, rfl⟩ := d
  exact WStep.pure fun hA hx hby _ k => XS.iand hA hx rfl (hb hby d) rfl k
theorem WStep.ior {x y : Int32} (d : AtI G.bytes pc .ior 1 nx) : WStep G (pc, L, .int y :: .int x :: S, σ, u) (nx, L, .int (x ||| y) :: S, σ, u) := by
  obtain ⟨d, rfl⟩ := d
  exact WStep.pure fun hA hx hby _ k => XS.ior hA hx rfl (hb hby d) rfl k
theorem WStep.ishl {x : Int32} {y : Int32} (d : AtI G.bytes pc .ishl 1 nx) : WStep G (pc, L, .int y :: .int x :: S, σ, u) (nx, L, .int (x <<< (y &&& 31)) :: S, σ, u) := by
  obtain ⟨d, rfl⟩ := d
  exact WStep.pure fun hA hx hby _ k => XS.ishl hA hx rfl (hb hby d) rfl k
theorem WStep.ishr {x : Int32} {y : Int32} (d : AtI G.bytes pc .ishr 1 nx) : WStep G (pc, L, .int y :: .int x :: S, σ, u) (nx, L, .int (x >>> (y &&& 31)) :: S, σ, u) := by
  obtain ⟨d, rfl⟩ := d
  exact WStep.pure fun hA hx hby _ k => XS.ishr hA hx rfl (hb hby d) rfl k
theorem WStep.iushr {x : Int32} {y : Int32} (d : AtI G.bytes pc .iushr 1 nx) : WStep G (pc, L, .int y :: .int x :: S, σ, u) (nx, L, .int ((x.toUInt32 >>> (y &&& 31).toUInt32).toInt32) :: S, σ, u) := by
  obtain ⟨d, rfl⟩ := d
  exact WStep.pure fun hA hx hby _ k => XS.iushr hA hx rfl (hb hby d) rfl k
theorem WStep.dup {x : Value} (d : AtI G.bytes pc .dup 1 nx) (hc : x.category = 1) : WStep G (pc, L, x :: S, σ, u) (nx, L, x :: x :: S, σ, u) := by
  obtain ⟨d, rfl⟩ := d
  exact WStep.pure fun hA hx hby _ k => XS.dup hA hx rfl (hb hby d) rfl (cat_gv.trans hc) k
theorem WStep.dupX1 {x y : Value} (d : AtI G.bytes pc .dup_x1 1 nx) (hc : x.category = 1) (hc' : y.category = 1) : WStep G (pc, L, x :: y :: S, σ, u) (nx, L, x :: y :: x :: S, σ, u) := by
  obtain ⟨d, rfl⟩ := d
  exact WStep.pure fun hA hx hby _ k => XS.dupX1 hA hx rfl (hb hby d) rfl (cat_gv.trans hc) (cat_gv.trans hc') k
theorem WStep.goto (d : AtJ G.bytes pc .goto nx tgt) : WStep G (pc, L, S, σ, u) (tgt, L, S, σ, u) := by
  obtain ⟨o, d, rfl, h0, h1⟩ := d
  exact WStep.pure fun hA hx hby _ k => XS.goto hA hx rfl (pc0 := pc) (pc' := tgt) rfl (hb hby d) h0 h1 k
theorem WStep.icmpT {cd : ClassFile.Cond} {x y : Int32} (d : AtJ G.bytes pc (.if_icmp cd) nx tgt) (h : if_icmp.holds cd x y = true) : WStep G (pc, L, .int y :: .int x :: S, σ, u) (tgt, L, S, σ, u) := by
  obtain ⟨o, d, rfl, h0, h1⟩ := d
  exact WStep.pure fun hA hx hby _ k => XS.icmpYes hA hx rfl (pc0 := pc) (pc' := tgt) rfl (hb hby d) rfl h h0 h1 k
theorem WStep.icmpF {cd : ClassFile.Cond} {x y : Int32} (d : AtJ G.bytes pc (.if_icmp cd) nx tgt) (h : if_icmp.holds cd x y = false) : WStep G (pc, L, .int y :: .int x :: S, σ, u) (nx, L, S, σ, u) := by
  obtain ⟨o, d, rfl, h0, h1⟩ := d
  exact WStep.pure fun hA hx hby _ k => XS.icmpNo hA hx rfl (hb hby d) rfl h k
theorem WStep.ifT {cd : ClassFile.Cond} {x : Int32} (d : AtJ G.bytes pc (.ifCond cd) nx tgt) (h : if_icmp.holds cd x 0 = true) : WStep G (pc, L, .int x :: S, σ, u) (tgt, L, S, σ, u) := by
  obtain ⟨o, d, rfl, h0, h1⟩ := d
  exact WStep.pure fun hA hx hby _ k => XS.ifYes hA hx rfl (pc0 := pc) (pc' := tgt) rfl (hb hby d) rfl ((if0 _ _).trans h) h0 h1 k
theorem WStep.ifF {cd : ClassFile.Cond} {x : Int32} (d : AtJ G.bytes pc (.ifCond cd) nx tgt) (h : if_icmp.holds cd x 0 = false) : WStep G (pc, L, .int x :: S, σ, u) (nx, L, S, σ, u) := by
  obtain ⟨o, d, rfl, h0, h1⟩ := d
  exact WStep.pure fun hA hx hby _ k => XS.ifNo hA hx rfl (hb hby d) rfl ((if0 _ _).trans h) k
end Pure
section Forks
variable {G : WMC} {pc nx tgt u : Nat} {L : List Slot} {S : List Value} {σ : WHp} {Q : Option Value → WHp → Nat → Prop}
theorem WGo.lt {x y : Int32} (d : AtJ G.bytes pc (.if_icmp .lt) nx tgt) (h1 : x < y → WGo G (tgt, L, S, σ, u) Q) (h2 : ¬ x < y → WGo G (nx, L, S, σ, u) Q) : WGo G (pc, L, .int y :: .int x :: S, σ, u) Q := by
  by_cases h : x < y
  · exact (h1 h).s (WStep.icmpT d (tlt h).1)
  · exact (h2 h).s (WStep.icmpF d (flt h).1)
theorem WGo.ge {x y : Int32} (d : AtJ G.bytes pc (.if_icmp .ge) nx tgt) (h1 : ¬ x < y → WGo G (tgt, L, S, σ, u) Q) (h2 : x < y → WGo G (nx, L, S, σ, u) Q) : WGo G (pc, L, .int y :: .int x :: S, σ, u) Q := by
  by_cases h : x < y
  · exact (h2 h).s (WStep.icmpF d (tlt h).2.1)
  · exact (h1 h).s (WStep.icmpT d (flt h).2.1)
theorem WGo.gt {x y : Int32} (d : AtJ G.bytes pc (.if_icmp .gt) nx tgt) (h1 : y < x → WGo G (tgt, L, S, σ, u) Q) (h2 : ¬ y < x → WGo G (nx, L, S, σ, u) Q) : WGo G (pc, L, .int y :: .int x :: S, σ, u) Q := by
  by_cases h : y < x
  · exact (h1 h).s (WStep.icmpT d (tlt h).2.2.1)
  · exact (h2 h).s (WStep.icmpF d (flt h).2.2.1)
theorem WGo.le {x y : Int32} (d : AtJ G.bytes pc (.if_icmp .le) nx tgt) (h1 : ¬ y < x → WGo G (tgt, L, S, σ, u) Q) (h2 : y < x → WGo G (nx, L, S, σ, u) Q) : WGo G (pc, L, .int y :: .int x :: S, σ, u) Q := by
  by_cases h : y < x
  · exact (h2 h).s (WStep.icmpF d (tlt h).2.2.2)
  · exact (h1 h).s (WStep.icmpT d (flt h).2.2.2)
theorem WGo.eq {x y : Int32} (d : AtJ G.bytes pc (.if_icmp .eq) nx tgt) (h1 : x = y → WGo G (tgt, L, S, σ, u) Q) (h2 : ¬ x = y → WGo G (nx, L, S, σ, u) Q) : WGo G (pc, L, .int y :: .int x :: S, σ, u) Q := by
  by_cases h : x = y
  · exact (h1 h).s (WStep.icmpT d (teq h).1)
  · exact (h2 h).s (WStep.icmpF d (feq h).1)
theorem WGo.ne {x y : Int32} (d : AtJ G.bytes pc (.if_icmp .ne) nx tgt) (h1 : ¬ x = y → WGo G (tgt, L, S, σ, u) Q) (h2 : x = y → WGo G (nx, L, S, σ, u) Q) : WGo G (pc, L, .int y :: .int x :: S, σ, u) Q := by
  by_cases h : x = y
  · exact (h2 h).s (WStep.icmpF d (teq h).2)
  · exact (h1 h).s (WStep.icmpT d (feq h).2)
end Forks
end Jvm.Sy
namespace Jvm.Sy
open Jvm Jvm.ClassFile Sem Op Lib Jvm.Free Jvm.Stand Jvm.LawKit Jvm.RoadKit Bundle
def entL : List Value → List Slot
  | [] => []
  | v :: r => if v.category = 2 then .val v :: .second :: entL r else .val v :: entL r
def entryL (args : List Value) (maxL : Nat) : List Slot := entL args ++ List.replicate (maxL - (entL args).length) .unset
theorem fill_eq {ρ : Nat → Nat} : ∀ (args : List Value) (acc : Array Slot), (gS ρ args).foldl (fun acc v => if v.category = 2 then (acc.push (.val v)).push .second else acc.push (.val v)) acc = acc ++ ((entL args).map (gs ρ)).toArray
  | [], acc => by simp [gS, entL]
  | v :: r, acc => by
    have ih := fill_eq (ρ := ρ) r
    simp only [gS, List.map_cons, List.foldl_cons, cat_gv] at ih ⊢
    rw [ih]
    by_cases q : v.category = 2
    · simp [entL, q, gs]
    · simp [entL, q, gs]
theorem entry_eq {ρ : Nat → Nat} (args : List Value) (maxL : Nat) : argsToLocals (gS ρ args).toArray maxL = gL ρ (entryL args maxL) := by
  have h := fill_eq (ρ := ρ) args #[]
  simp only [argsToLocals, List.foldl_toArray', List.size_toArray] at *
  rw [h]
  simp [gL, entryL, gs]
theorem entryF_eq {ρ : Nat → Nat} (m : MethodId) (args : List Value) (maxL : Nat) : entryFrame m (gS ρ args).toArray maxL = mkF m 0 (gL ρ (entryL args maxL)) [] := by
  show ({ method := m, pc := 0, locals := argsToLocals _ maxL, stack := [], locked := none } : JFrame) = _
  rw [entry_eq]
section Ret
variable {G : WMC} {pc nx u : Nat} {L : List Slot} {S : List Value} {σ : WHp} {Q : Option Value → WHp → Nat → Prop}
theorem WRun.of {v : Option Value} {A : WCfg} (h0 : G.ret = none → v = none)
    (h : ∀ {p : Program} {l : Launch} {e : Env} {R : Room} {s : State} {m : MethodId} {args : Array Value} {below : List Frame} {meth : Method} {c : Code} {T : State} {locs : List Loc} {ce sl : Nat}, WCtx G p R s m meth c → Stand p l e R s m args below meth c T locs ce sl →
      ∀ fs, (∀ (f : JFrame) (acts : List Action), f.method = m → f.locked = none → f.entered = [] → (doReturn e (T.setTop f) acts (v.map (gv G.ρ))).1 = T.setFrames fs) → Steps p.tables e below (T.setTop (frm G m A)) (T.setFrames fs)) :
    WRun G A v A.2.2.2.1 A.2.2.2.2 := by
  refine ⟨Nat.le_refl _, Nat.le_refl _, h0, fun p l e R s m args below meth c hC hc hs T hT => ⟨T, hT, fun fs hr => ?_⟩⟩
  obtain ⟨locs, ce, sl, h1, h2, X, D, N⟩ := hT
  exact h hC X fs hr
theorem WGo.ireturn (t : FieldType) {z : Int32} (d : AtI G.bytes pc .ireturn 1 nx) (hret : G.ret = some t) (ht : t = .int ∨ t = .boolean ∨ t = .byte ∨ t = .char ∨ t = .short) (q : Q (some (narrow t (.int z))) σ u) : WGo G (pc, L, .int z :: S, σ, u) Q := by
  refine ⟨_, _, _, q, WRun.of (A := (pc, L, .int z :: S, σ, u)) (fun h => by rw [hret] at h; cases h) fun hC X fs hr => ?_⟩
  have hm := hC.2.2.2.2.2.1.trans hret
  rcases ht with rfl | ht
  · exact retOut X hC.1 hm rfl (Or.inl ⟨rfl, Or.inl rfl, _, rfl⟩) (hb hC.2.1 d.1) hr
  · have hn : narrow t (.int z) = .int (nar t z) := by rcases ht with rfl | rfl | rfl | rfl <;> rfl
    rw [hn] at hr
    exact retN X hC.1 hm ht (hb hC.2.1 d.1) hr
theorem WGo.areturn (t : FieldType) {z : Value} (d : AtI G.bytes pc .areturn 1 nx) (hret : G.ret = some t) (ht : t.isReference = true) (hz : z.isRef = true) (q : Q (some z) σ u) : WGo G (pc, L, z :: S, σ, u) Q := by
  refine ⟨_, _, _, q, WRun.of (A := (pc, L, z :: S, σ, u)) (fun h => by rw [hret] at h; cases h) fun hC X fs hr => ?_⟩
  refine retOut X hC.1 (hC.2.2.2.2.2.1.trans hret) ?_ (Or.inr (Or.inr (Or.inr (Or.inr ⟨rfl, ht, isRef_gv.trans hz⟩)))) (hb hC.2.1 d.1) hr
  cases t <;> first | rfl | cases ht
theorem WGo.vreturn (d : AtI G.bytes pc .return_ 1 nx) (hret : G.ret = none) (q : Q none σ u) : WGo G (pc, L, [], σ, u) Q := by
  refine ⟨_, _, _, q, WRun.of (A := (pc, L, [], σ, u)) (fun _ => rfl) fun hC X fs hr => ?_⟩
  exact X.returnOut hC.1 (hC.2.2.2.2.2.1.trans hret) (hb hC.2.1 d.1) hr
end Ret
theorem met_of {l : Launch} {G : WMC} {y : MethodName} {argsL : List Value} {σ σ' : WHp} {u u' : Nat} {v : Option Value} {ws : List Jvm.Cond} {h : Heap}
    (hy1 : G.own = y.cls) (hy2 : G.nm = y.name) (hj : G.j0 = σ.length) (hu : G.u0 = u) (hpl : plainFor y = true) (hρ : ∀ k, k < 1000 → G.ρ k = G.n0 + k) (hinj : ∀ i j, G.ρ i = G.ρ j → i = j)
    (H : WRun G (0, entryL argsL G.ml, [], σ, u) v σ' u') (D : WDen G.Z G.ρ G.n0 σ h) (RM : Room) (hR1 : G.fr ≤ RM.frames) (hR2 : σ'.length - σ.length ≤ RM.cells) (hR3 : u' - u ≤ RM.slots) (hR4 : G.lo ≤ RM.locals) :
    MetFree l y (head1 (Jvm.Cond.code y G.bytes G.ml G.ret :: ws) RM) (fun a U => a = (gS G.ρ argsL).toArray ∧ G.Z.Warmed39 U.vm ∧ U.heap = h) (fun _ _ _ _ _ => True)
      (fun _ U o U' => ∃ w L, o = .returned w ∧ (w = v.map (gv G.ρ) ∧ Fr G.n0 L ∧ WDen G.Z G.ρ G.n0 σ' U'.heap) ∧ FrameEnd U o U' L (σ'.length - σ.length) (u' - u)) := by
  refine MetFree.of_bodySF hpl hisR ?_
  intro p e s m args below meth c s₁ Bd hml0 hP hK
  obtain ⟨rfl, hZ, hh⟩ := hP
  have X0 : Stand p l e RM s m (gS G.ρ argsL).toArray below meth c s₁ [] 0 0 := Stand.of_body Bd
  have e0 : s₁.heap = h := by rw [← hh, Bd.state]; rfl
  obtain ⟨a1, a2, a0, a3⟩ := H
  have a1' : σ.length ≤ σ'.length := a1
  have a2' : u ≤ u' := a2
  obtain ⟨T', ⟨locs, ce, sl, q1, q2, X, D', N⟩, st⟩ := a3 p l e RM s m _ below meth c ⟨Bd.exec, Bd.bytes, hZ, by rw [hy1]; exact findClass_of_methodNamed Bd.named, (name_of_methodNamed Bd.named Bd.method).1.trans hy2.symm, Bd.returns, hml0, by rw [hh, hj]; exact D.1, hρ, hinj, hR1, hR4⟩ (by omega) (by omega) s₁ ⟨[], 0, 0, hj.symm, hu.symm, X0, by rw [e0]; exact D, Fr.nil _⟩
  obtain ⟨fs, hr, hrun, hended, hW, hsame⟩ := X.leave (v := v.map (gv G.ρ)) (fun hn => by rw [a0 (Bd.returns ▸ hn)]; rfl)
  refine ⟨_, _, ?_, hrun, hended, _, _, rfl, ⟨rfl, N, D'⟩, ⟨_, rfl⟩, hW, hsame.mono (by omega) (by omega)⟩
  rw [entryF_eq]
  exact st fs hr
def WCallee (Z : State) (a0 : Array Value) (y : MethodName) (Gc : WMC) (n : Nat) : Prop :=
  plainFor y = true ∧ (y.cls ≠ "java/lang/invoke/MethodHandle" ∧ y.cls ≠ "java/lang/invoke/VarHandle") ∧ Gc.own = y.cls ∧ Gc.nm = y.name ∧ Gc.Z = Z ∧ (Jvm.Cond.initialized y.cls).before a0 Z = true ∧ (Jvm.Cond.code y Gc.bytes Gc.ml Gc.ret).before a0 Z = true ∧ (∀ sig, parseMethodDescriptor y.desc = some sig → n = sig.parameters.length)
theorem backFor {p : Program} {l : Launch} {e : Env} {R : Room} {s : State} {args : Array Value} {below : List Frame} {Gc : WMC} {y : MethodName} {a0 : Array Value} {argsL : List Value} {σ σ' : WHp} {u u' W n : Nat} {v : Option Value} {h : Heap}
    (C : WCallee Gc.Z a0 y Gc n) (hj : Gc.j0 = σ.length) (hu : Gc.u0 = u) (hρ : ∀ k, k < 1000 → Gc.ρ k = Gc.n0 + k) (hinj : ∀ i j, Gc.ρ i = Gc.ρ j → i = j)
    (H : WRun Gc (0, entryL argsL Gc.ml, [], σ, u) v σ' u') (D : WDen Gc.Z Gc.ρ Gc.n0 σ h) (hZ : Gc.Z.Warmed39 s.vm) (hf : Gc.fr + 1 ≤ R.frames) (hl : W + (Gc.ml + 11) + Gc.lo ≤ R.locals) :
    Back l R p e below s args y 3 W (fun A a => a = (gS Gc.ρ argsL).toArray ∧ A.U.heap = h ∧ A.cells + (σ'.length - σ.length) ≤ R.cells ∧ A.slots + (u' - u) ≤ R.slots)
      (fun A _ w B => ∃ L, (w = v.map (gv Gc.ρ) ∧ Fr Gc.n0 L ∧ WDen Gc.Z Gc.ρ Gc.n0 σ' B.U.heap) ∧ B.locs = A.locs ++ L ∧ B.cells = A.cells + (σ'.length - σ.length) ∧ B.slots = A.slots + (u' - u)) :=
  backOf (rm := { frames := Gc.fr, cells := σ'.length - σ.length, slots := u' - u, locals := Gc.lo }) (Q := fun w h' L => w = v.map (gv Gc.ρ) ∧ Fr Gc.n0 L ∧ WDen Gc.Z Gc.ρ Gc.n0 σ' h') (met_of C.2.2.1 C.2.2.2.1 hj hu C.1 hρ hinj H D _ (Nat.le_refl _) (Nat.le_refl _) (Nat.le_refl _) (Nat.le_refl _)) hZ C.2.2.2.2.2.2.1 C.2.2.2.2.2.1 hf hl
theorem toL {ρ : Nat → Nat} (v : Option Value) (S : List Value) : gS ρ (v.toList ++ S) = (v.map (gv ρ)).toList ++ gS ρ S := by cases v <;> rfl
section Calls
variable {G Gc : WMC} {pc nx u idx n : Nat} {L : List Slot} {S Sf argsL : List Value} {σ : WHp} {Q Qc : Option Value → WHp → Nat → Prop} {y : MethodName} {a0 : Array Value}
theorem WGo.callS (d : AtI G.bytes pc (.invokestatic idx) 3 nx) (C : WCallee G.Z a0 y Gc n) (wl : (Jvm.Cond.methodLink G.own idx y).before a0 G.Z = true) (ws : (Jvm.Cond.static y).before a0 G.Z = true)
    (H : WGo Gc (0, entryL argsL Gc.ml, [], σ, u) Qc) (hG : Gc.1 = G.1) (hj : Gc.j0 = σ.length) (hu : Gc.u0 = u) (hn : argsL.length = n) (hS : Sf = argsL.reverse ++ S) (hL : L.length = G.ml) (hf : Gc.fr + 1 ≤ G.fr) (hl : (S.map Value.category).sum + (Gc.ml + 11) + Gc.lo ≤ G.lo)
    (K : ∀ v σ' u', Qc v σ' u' → WGo G (nx, L, v.toList ++ S, σ', u') Q) : WGo G (pc, L, Sf, σ, u) Q := by
  obtain ⟨v, σ', u', q, r⟩ := H
  refine (K v σ' u' q).s ?_
  have m1 : σ.length ≤ σ'.length := r.1
  have m2 : u ≤ u' := r.2.1
  refine ⟨m1, m2, fun p l e R s m args below meth c hC hc hs T hT => ?_⟩
  obtain ⟨hx, hby, hZ, hown, hnm, hret, hml, hs0, hρ, hinj, hfr, hlo⟩ := hC
  obtain ⟨locs, ce, sl, h1, h2, X, D, N⟩ := hT
  have eZ : Gc.Z = G.Z := congrArg (·.1) hG
  have eρ : Gc.ρ = G.ρ := congrArg (·.2.1) hG
  have en : Gc.n0 = G.n0 := congrArg (·.2.2) hG
  have h1' : σ.length = G.j0 + ce := h1
  have h2' : u = G.u0 + sl := h2
  have hc' : σ'.length ≤ G.j0 + R.cells := hc
  have hs' : u' ≤ G.u0 + R.slots := hs
  have Bk := backFor (p := p) (l := l) (e := e) (R := R) (s := s) (args := args) (below := below) (W := (S.map Value.category).sum) (eZ ▸ C) hj hu (by rw [eρ, en]; exact hρ) (by rw [eρ]; exact hinj) r (by rw [eZ, eρ, en]; exact D) (by rw [eZ]; exact hZ) (Nat.le_trans hf hfr) (Nat.le_trans hl hlo)
  obtain ⟨C1, C2, C3, C4, C5, C6, C7, C8⟩ := C
  rw [eρ, en, eZ] at Bk
  obtain ⟨w, vm1, ⟨T', L', k', n'⟩, -, X', ⟨Lc, ⟨hw', N', D'⟩, l', y', z'⟩, st⟩ := Jvm.LawKit.callS X hx (y := y) hown (mvT hZ wl) (mvT hZ ws) (mvT hZ C6) (mvT hZ C7) C2 Bk (g := frm G m (pc, L, Sf, σ, u)) rfl (by show (gL _ L).size = _; rw [gL_size, hL, hml]) (argsL := gS G.ρ argsL) (rest := gS G.ρ S)
    (fun sig hsig => by rw [← C8 sig hsig, ← hn]; simp [gS]) (by show gS _ Sf = _; rw [hS]; simp [gS]) (by rw [sum_gS]; show 2 * 0 + _ ≤ _; omega) (hb hby d.1) (fun _ _ => ⟨rfl, rfl, by show ce + _ ≤ _; omega, by show sl + _ ≤ _; omega⟩)
  dsimp only [Pt.U, Pt.locs, Pt.cells, Pt.slots] at X' l' y' z' st D'
  subst l' y' z' hw'
  refine ⟨T', ⟨_, _, _, ?_, ?_, X', D', N.app N'⟩, fun t k => st t ?_⟩
  · show σ'.length = _; omega
  · show u' = _; omega
  · rw [← toL]
    have := d.2
    subst this
    exact k
theorem WGo.callI {k : Nat} (d : AtI G.bytes pc (.invokespecial idx) 3 nx) (C : WCallee G.Z a0 y Gc n) (hi : y.name = "<init>") (hr : Gc.ret = none) (wl : (Jvm.Cond.methodLink G.own idx y).before a0 G.Z = true) (ws : (Jvm.Cond.instanceMethod y).before a0 G.Z = true) (hk : k < 1000)
    (H : WGo Gc (0, entryL (.ref k :: argsL) Gc.ml, [], σ, u) Qc) (hG : Gc.1 = G.1) (hj : Gc.j0 = σ.length) (hu : Gc.u0 = u) (hn : argsL.length = n) (hS : Sf = argsL.reverse ++ .ref k :: S) (hL : L.length = G.ml) (hf : Gc.fr + 1 ≤ G.fr) (hl : (S.map Value.category).sum + (Gc.ml + 11) + Gc.lo ≤ G.lo)
    (K : ∀ v σ' u', Qc v σ' u' → WGo G (nx, L, v.toList ++ S, σ', u') Q) : WGo G (pc, L, Sf, σ, u) Q := by
  obtain ⟨v, σ', u', q, r⟩ := H
  refine (K v σ' u' q).s ?_
  have m1 : σ.length ≤ σ'.length := r.1
  have m2 : u ≤ u' := r.2.1
  refine ⟨m1, m2, fun p l e R s m args below meth c hC hc hs T hT => ?_⟩
  obtain ⟨hx, hby, hZ, hown, hnm, hret, hml, hs0, hρ, hinj, hfr, hlo⟩ := hC
  obtain ⟨locs, ce, sl, h1, h2, X, D, N⟩ := hT
  have eZ : Gc.Z = G.Z := congrArg (·.1) hG
  have eρ : Gc.ρ = G.ρ := congrArg (·.2.1) hG
  have en : Gc.n0 = G.n0 := congrArg (·.2.2) hG
  have h1' : σ.length = G.j0 + ce := h1
  have h2' : u = G.u0 + sl := h2
  have hc' : σ'.length ≤ G.j0 + R.cells := hc
  have hs' : u' ≤ G.u0 + R.slots := hs
  have Bk := backFor (p := p) (l := l) (e := e) (R := R) (s := s) (args := args) (below := below) (W := (S.map Value.category).sum) (eZ ▸ C) hj hu (by rw [eρ, en]; exact hρ) (by rw [eρ]; exact hinj) r (by rw [eZ, eρ, en]; exact D) (by rw [eZ]; exact hZ) (Nat.le_trans hf hfr) (Nat.le_trans hl hlo)
  obtain ⟨C1, C2, C3, C4, C5, C6, C7, C8⟩ := C
  rw [hr] at C7
  rw [eρ, en, eZ] at Bk
  obtain ⟨w, vm1, ⟨T', L', k', n'⟩, -, X', ⟨Lc, ⟨hw', N', D'⟩, l', y', z'⟩, st⟩ := X.specialBack hx (y := y) hi hown (mvT hZ wl) (mvT hZ ws) (mvT hZ C7) C2 Bk (g := frm G m (pc, L, Sf, σ, u)) rfl (by show (gL _ L).size = _; rw [gL_size, hL, hml]) (Steps.refl _) (a := G.ρ k) (argsL := gS G.ρ argsL) (rest := gS G.ρ S)
    (fun sig hsig => by rw [← C8 sig hsig, ← hn]; simp [gS]) (by show gS _ Sf = _; rw [hS]; simp [gS, gv]) (by rw [sum_gS]; show 2 * 0 + _ ≤ _; omega) (hb hby d.1) (fun _ _ => ⟨rfl, rfl, by show ce + _ ≤ _; omega, by show sl + _ ≤ _; omega⟩)
  dsimp only [Pt.U, Pt.locs, Pt.cells, Pt.slots] at X' l' y' z' st D'
  subst l' y' z' hw'
  refine ⟨T', ⟨_, _, _, ?_, ?_, X', D', N.app N'⟩, fun t k => st.trans ?_⟩
  · show σ'.length = _; omega
  · show u' = _; omega
  · rw [← toL]
    have := d.2
    subst this
    exact k
theorem WGo.callV {k : Nat} {Cn : String} {fs : List (WKey × Value)} {z : MethodName} (d : AtI G.bytes pc (.invokevirtual idx) 3 nx) (C : WCallee G.Z a0 y Gc n) (hz : z.desc = y.desc ∧ (z.cls ≠ "java/lang/invoke/MethodHandle" ∧ z.cls ≠ "java/lang/invoke/VarHandle")) (wl : (Jvm.Cond.methodLink G.own idx z).before a0 G.Z = true) (wd : (Jvm.Cond.declares z).before a0 G.Z = true) (hnf : ∀ s, G.Z.Warmed39 s.vm → NotFace s z) (wsel : (Jvm.Cond.selects Cn z y).before a0 G.Z = true) (ws : (Jvm.Cond.instanceMethod y).before a0 G.Z = true) (hk : σ[k]? = some (.inr (Cn, fs)))
    (H : WGo Gc (0, entryL (.ref k :: argsL) Gc.ml, [], σ, u) Qc) (hG : Gc.1 = G.1) (hj : Gc.j0 = σ.length) (hu : Gc.u0 = u) (hn : argsL.length = n) (hS : Sf = argsL.reverse ++ .ref k :: S) (hL : L.length = G.ml) (hf : Gc.fr + 1 ≤ G.fr) (hl : (S.map Value.category).sum + (Gc.ml + 11) + Gc.lo ≤ G.lo)
    (K : ∀ v σ' u', Qc v σ' u' → WGo G (nx, L, v.toList ++ S, σ', u') Q) : WGo G (pc, L, Sf, σ, u) Q := by
  obtain ⟨v, σ', u', q, r⟩ := H
  refine (K v σ' u' q).s ?_
  have m1 : σ.length ≤ σ'.length := r.1
  have m2 : u ≤ u' := r.2.1
  refine ⟨m1, m2, fun p l e R s m args below meth c hC hc hs T hT => ?_⟩
  obtain ⟨hx, hby, hZ, hown, hnm, hret, hml, hs0, hρ, hinj, hfr, hlo⟩ := hC
  obtain ⟨locs, ce, sl, h1, h2, X, D, N⟩ := hT
  have eZ : Gc.Z = G.Z := congrArg (·.1) hG
  have eρ : Gc.ρ = G.ρ := congrArg (·.2.1) hG
  have en : Gc.n0 = G.n0 := congrArg (·.2.2) hG
  have h1' : σ.length = G.j0 + ce := h1
  have h2' : u = G.u0 + sl := h2
  have hc' : σ'.length ≤ G.j0 + R.cells := hc
  have hs' : u' ≤ G.u0 + R.slots := hs
  have Bk := backFor (p := p) (l := l) (e := e) (R := R) (s := s) (args := args) (below := below) (W := (S.map Value.category).sum) (eZ ▸ C) hj hu (by rw [eρ, en]; exact hρ) (by rw [eρ]; exact hinj) r (by rw [eZ, eρ, en]; exact D) (by rw [eZ]; exact hZ) (Nat.le_trans hf hfr) (Nat.le_trans hl hlo)
  obtain ⟨C1, C2, C3, C4, C5, C6, C7, C8⟩ := C
  rw [eρ, en, eZ] at Bk
  have hE : Exa G.Z T.heap (G.n0 + k) Cn := (D.2.2 k _ hk).1
  rw [← hρ k (D.lt hk)] at hE
  obtain ⟨cq, kq, qa, qb, qc⟩ := isOf hZ rfl hE
  obtain ⟨w, vm1, ⟨T', L', k', n'⟩, -, X', ⟨Lc, ⟨hw', N', D'⟩, l', y', z'⟩, st⟩ := X.virtualBack hx (y := z) (z := y) hown (mvT hZ wl) (mvT hZ wd) (hnf s hZ) (mvT hZ wsel) (mvT hZ ws) hz.2 Bk qa qc (g := frm G m (pc, L, Sf, σ, u)) rfl (by show (gL _ L).size = _; rw [gL_size, hL, hml]) (Steps.refl _) (argsL := gS G.ρ argsL) (rest := gS G.ρ S)
    (fun sig hsig => by rw [hz.1] at hsig; rw [← C8 sig hsig, ← hn]; simp [gS]) (by show gS _ Sf = _; rw [hS]; simp [gS, gv]) (by rw [sum_gS]; show 2 * 0 + _ ≤ _; omega) (hb hby d.1) (fun _ _ => ⟨rfl, rfl, by show ce + _ ≤ _; omega, by show sl + _ ≤ _; omega⟩)
  dsimp only [Pt.U, Pt.locs, Pt.cells, Pt.slots] at X' l' y' z' st D'
  subst l' y' z' hw'
  refine ⟨T', ⟨_, _, _, ?_, ?_, X', D', N.app N'⟩, fun t k => st.trans ?_⟩
  · show σ'.length = _; omega
  · show u' = _; omega
  · rw [← toL]
    have := d.2
    subst this
    exact k
theorem selP {Z : State} {y : MethodName} {a0 : Array Value} {n : Nat} (wi : (Jvm.Cond.instantiable y.cls n).before a0 Z = true) (ws : (Jvm.Cond.instanceMethod y).before a0 Z = true) (wp : (Jvm.Cond.privateMethod y).before a0 Z = true) (hy : y.cls ≠ "java/lang/invoke/MethodHandle" ∧ y.cls ≠ "java/lang/invoke/VarHandle") : (Jvm.Cond.selects y.cls y y).before a0 Z = true := by
  obtain ⟨c, k, h1, h2, -, h4, -⟩ := Cond.instantiable_spec wi
  rw [Bool.or_eq_false_iff] at h4
  exact selects_self_of_private h1 h2 h4.1 (Cond.privateMethod_at wp) ws hy
theorem WGo.callP {k : Nat} {Cn : String} {fs : List (WKey × Value)} (d : AtI G.bytes pc (.invokevirtual idx) 3 nx) (C : WCallee G.Z a0 y Gc n) (wl : (Jvm.Cond.methodLink G.own idx y).before a0 G.Z = true) (ws : (Jvm.Cond.instanceMethod y).before a0 G.Z = true) (wsel : (Jvm.Cond.selects y.cls y y).before a0 G.Z = true) (wp : (Jvm.Cond.privateMethod y).before a0 G.Z = true) (hk : σ[k]? = some (.inr (Cn, fs)))
    (H : WGo Gc (0, entryL (.ref k :: argsL) Gc.ml, [], σ, u) Qc) (hG : Gc.1 = G.1) (hj : Gc.j0 = σ.length) (hu : Gc.u0 = u) (hn : argsL.length = n) (hS : Sf = argsL.reverse ++ .ref k :: S) (hL : L.length = G.ml) (hf : Gc.fr + 1 ≤ G.fr) (hl : (S.map Value.category).sum + (Gc.ml + 11) + Gc.lo ≤ G.lo)
    (K : ∀ v σ' u', Qc v σ' u' → WGo G (nx, L, v.toList ++ S, σ', u') Q) : WGo G (pc, L, Sf, σ, u) Q := by
  obtain ⟨v, σ', u', q, r⟩ := H
  refine (K v σ' u' q).s ?_
  have m1 : σ.length ≤ σ'.length := r.1
  have m2 : u ≤ u' := r.2.1
  refine ⟨m1, m2, fun p l e R s m args below meth c hC hc hs T hT => ?_⟩
  obtain ⟨hx, hby, hZ, hown, hnm, hret, hml, hs0, hρ, hinj, hfr, hlo⟩ := hC
  obtain ⟨locs, ce, sl, h1, h2, X, D, N⟩ := hT
  have eZ : Gc.Z = G.Z := congrArg (·.1) hG
  have eρ : Gc.ρ = G.ρ := congrArg (·.2.1) hG
  have en : Gc.n0 = G.n0 := congrArg (·.2.2) hG
  have h1' : σ.length = G.j0 + ce := h1
  have h2' : u = G.u0 + sl := h2
  have hc' : σ'.length ≤ G.j0 + R.cells := hc
  have hs' : u' ≤ G.u0 + R.slots := hs
  have Bk := backFor (p := p) (l := l) (e := e) (R := R) (s := s) (args := args) (below := below) (W := (S.map Value.category).sum) (eZ ▸ C) hj hu (by rw [eρ, en]; exact hρ) (by rw [eρ]; exact hinj) r (by rw [eZ, eρ, en]; exact D) (by rw [eZ]; exact hZ) (Nat.le_trans hf hfr) (Nat.le_trans hl hlo)
  obtain ⟨C1, C2, C3, C4, C5, C6, C7, C8⟩ := C
  rw [eρ, en, eZ] at Bk
  have hE : Exa G.Z T.heap (G.n0 + k) Cn := (D.2.2 k _ hk).1
  rw [← hρ k (D.lt hk)] at hE
  obtain ⟨cq, e1, e2⟩ := hE.cell
  obtain ⟨w, vm1, ⟨T', L', k', n'⟩, -, X', ⟨Lc, ⟨hw', N', D'⟩, l', y', z'⟩, st⟩ := X.privateBack hx (y := y) hown (mvT hZ wl) (mvT hZ ws) (mvT hZ wsel) (Cond.privateMethod_at (mvP hZ wp (args := #[]))) (mvT hZ C7) C2 Bk (g := frm G m (pc, L, Sf, σ, u)) rfl (by show (gL _ L).size = _; rw [gL_size, hL, hml]) (Steps.refl _) (a := G.ρ k) e1 e2 (argsL := gS G.ρ argsL) (rest := gS G.ρ S)
    (fun sig hsig => by rw [← C8 sig hsig, ← hn]; simp [gS]) (by show gS _ Sf = _; rw [hS]; simp [gS, gv]) (by rw [sum_gS]; show 2 * 0 + _ ≤ _; omega) (hb hby d.1) (fun _ _ => ⟨rfl, rfl, by show ce + _ ≤ _; omega, by show sl + _ ≤ _; omega⟩)
  dsimp only [Pt.U, Pt.locs, Pt.cells, Pt.slots] at X' l' y' z' st D'
  subst l' y' z' hw'
  refine ⟨T', ⟨_, _, _, ?_, ?_, X', D', N.app N'⟩, fun t k => st.trans ?_⟩
  · show σ'.length = _; omega
  · show u' = _; omega
  · rw [← toL]
    have := d.2
    subst this
    exact k
end Calls
end Jvm.Sy
namespace Jvm.Sy
open Jvm Jvm.ClassFile Sem Op Lib Jvm.Free Jvm.Stand Jvm.LawKit Jvm.RoadKit Bundle
def LaidAll (Z : State) (a0 : Array Value) (C : String) : List (WKey × Value) → Prop
  | [] => True
  | f :: r => (Laid Z a0 C f.1.1 f.1.2.1 f.1.2.2 ∧ ∃ ty, parseFieldDescriptor f.1.2.2 = some ty ∧ f.2 = defaultValue ty) ∧ LaidAll Z a0 C r
theorem LaidAll.at {Z : State} {a0 : Array Value} {C : String} : ∀ {fs : List (WKey × Value)}, LaidAll Z a0 C fs → ∀ {i : Nat} {f : WKey × Value}, fs[i]? = some f → Laid Z a0 C f.1.1 f.1.2.1 f.1.2.2 ∧ ∃ ty, parseFieldDescriptor f.1.2.2 = some ty ∧ f.2 = defaultValue ty
  | [], _, i, f, h => by simp at h
  | g :: r, H, 0, f, h => by simp at h; subst h; exact H.1
  | g :: r, H, i + 1, f, h => LaidAll.at H.2 (i := i) (by simpa using h)
section HeapOps
variable {G : WMC} {pc nx tgt u idx k i n : Nat} {L : List Slot} {S : List Value} {σ : WHp} {a0 : Array Value} {v w : Value} {j : Int32} {vs : List Value} {ty : FieldType} {fs : List (WKey × Value)} {C O nm dd K : String}
theorem WStep.initO (d : AtI G.bytes pc (.invokespecial idx) 3 nx) (w1 : (Jvm.Cond.methodLink G.own idx Lib.objectInit).before a0 G.Z = true) (w2 : (Jvm.Cond.instanceMethod Lib.objectInit).before a0 G.Z = true) (w3 : (Jvm.Cond.code Lib.objectInit ⟨#[0xb1]⟩ 1 none).before a0 G.Z = true)
    (hL : L.length = G.ml) (hf : 1 ≤ G.fr) (hl : (S.map Value.category).sum + 12 ≤ G.lo) : WStep G (pc, L, .ref k :: S, σ, u) (nx, L, S, σ, u) := by
  refine ⟨Nat.le_refl _, Nat.le_refl _, fun p l e R s m args below meth c hC hc hs T hT => ?_⟩
  obtain ⟨hx, hby, hZ, hown, hnm, hret, hml, hs0, hρ, hinj, hfr, hlo⟩ := hC
  obtain ⟨locs, ce, sl, h1, h2, X, D, N⟩ := hT
  obtain ⟨d, rfl⟩ := d
  obtain ⟨T', X', e', st⟩ := RoadKit.initO X hx hZ hown w1 w2 w3 rfl (g := frm G m (pc, L, .ref k :: S, σ, u)) rfl (by show (gL _ L).size = _; rw [gL_size, hL, hml]) rfl (hb hby d) (Nat.le_trans hf hfr) (W := (S.map Value.category).sum) (by have := sum_gS (ρ := G.ρ) S; unfold gS at this; rw [this]; show 2 * 0 + _ ≤ _; omega) (Nat.le_trans hl hlo)
  exact ⟨T', ⟨locs, ce, sl, h1, h2, X', by rw [e']; exact D, N⟩, st⟩
theorem WStep.getF (i : Nat) (d : AtI G.bytes pc (.getfield idx) 3 nx) (wd : (Jvm.Cond.fieldLink G.own idx O nm dd).before a0 G.Z = true) (hk : σ[k]? = some (.inr (C, fs))) (hi : fs[i]? = some ((O, nm, dd), v)) : WStep G (pc, L, .ref k :: S, σ, u) (nx, L, v :: S, σ, u) := by
  refine ⟨Nat.le_refl _, Nat.le_refl _, fun p l e R s m args below meth c hC hc hs T hT => ?_⟩
  obtain ⟨hx, hby, hZ, hown, hnm, hret, hml, hs0, hρ, hinj, hfr, hlo⟩ := hC
  obtain ⟨locs, ce, sl, h1, h2, X, D, N⟩ := hT
  obtain ⟨d, rfl⟩ := d
  have hko : ObjOk G.Z G.ρ T.heap (G.n0 + k) C fs := D.2.2 k _ hk
  have F := hko.2.1 i _ _ _ _ hi
  rw [← hρ k (D.lt hk)] at F
  obtain ⟨T', X', e', st⟩ := RoadKit.getF X hx hZ hown (host := "") (Or.inl wd) Via.refl rfl F (g := frm G m (pc, L, .ref k :: S, σ, u)) rfl rfl (hb hby d)
  exact ⟨T', ⟨locs, ce, sl, h1, h2, X', by rw [e']; exact D, N⟩, st⟩
theorem WStep.putF (i : Nat) (v' : Value) (d : AtI G.bytes pc (.putfield idx) 3 nx) (wd : (Jvm.Cond.fieldLink G.own idx O nm dd).before a0 G.Z = true) (hk : σ[k]? = some (.inr (C, fs))) (hi : fs[i]? = some ((O, nm, dd), w))
    (hlay : (Jvm.Cond.lays C O nm dd).before a0 G.Z = true ∨ ((Jvm.Cond.laysFinal C O nm dd).before a0 G.Z = true ∧ G.own = O ∧ G.nm = "<init>")) (wi : (Jvm.Cond.instantiable C n).before a0 G.Z = true) (hty : parseFieldDescriptor dd = some ty) (hn : narrow ty v = v') (hf : fits ty v' = true) :
    WStep G (pc, L, v :: .ref k :: S, σ, u) (nx, L, S, σ.set k (.inr (C, fs.set i ((O, nm, dd), v'))), u) := by
  refine ⟨by simp, Nat.le_refl _, fun p l e R s m args below meth c hC hc hs T hT => ?_⟩
  obtain ⟨hx, hby, hZ, hown, hnm, hret, hml, hs0, hρ, hinj, hfr, hlo⟩ := hC
  obtain ⟨locs, ce, sl, h1, h2, X, D, N⟩ := hT
  obtain ⟨d, rfl⟩ := d
  have hko : ObjOk G.Z G.ρ T.heap (G.n0 + k) C fs := D.2.2 k _ hk
  obtain ⟨E, Fs, hNe⟩ := hko
  have F := Fs i _ _ _ _ hi
  have hρk := hρ k (D.lt hk)
  obtain ⟨T', h', X', e', W, st⟩ := putFN X hx hZ hown (v := gv G.ρ v) (v' := gv G.ρ v') wd Via.refl rfl F E (hlay.imp id fun q => ⟨q.1, q.2.1, hnm.trans q.2.2⟩) wi hty (by rw [narrow_gv, hn]) (by rw [fits_gv, hf]) (g := frm G m (pc, L, v :: .ref k :: S, σ, u)) rfl (by show gv _ v :: Value.ref (G.ρ k) :: _ = _; rw [hρk]) (hb hby d)
  subst e'
  refine ⟨T', ⟨_, ce, sl, by simpa using h1, h2, X', D.put W ?_, N.app fun y hy => by cases List.mem_singleton.mp hy; exact Nat.le_add_right _ _⟩, st⟩
  have hlt := (List.getElem?_eq_some_iff.mp hi).1
  refine ⟨E.wr W, fun i' O' n' d' y hy => ?_, fun i1 i2 k1 k2 v1 v2 ne q1 q2 => ?_⟩
  · by_cases q : i' = i
    · subst q
      rw [List.getElem?_set_self hlt] at hy
      cases hy
      exact F.same W
    · rw [List.getElem?_set_ne (Ne.symm q)] at hy
      have hne : RoadKit.slotOf G.Z O' n' d' ≠ RoadKit.slotOf G.Z O nm dd := hNe i' i (O', n', d') (O, nm, dd) y w q hy hi
      exact (Fs i' O' n' d' y hy).other W (Or.inr hne)
  · have key : ∀ {i' : Nat} {k' : WKey} {v' : Value}, (fs.set i ((O, nm, dd), v'))[i']? = some (k', v1) → ∃ v'', fs[i']? = some (k', v'') := by
      intro i' k' v' hh
      by_cases q : i' = i
      · subst q
        rw [List.getElem?_set_self hlt] at hh
        cases hh
        exact ⟨_, hi⟩
      · rw [List.getElem?_set_ne (fun z => q z.symm)] at hh
        exact ⟨_, hh⟩
    have key2 : ∀ {i' : Nat} {k' : WKey} {v' : Value}, (fs.set i ((O, nm, dd), v'))[i']? = some (k', v2) → ∃ v'', fs[i']? = some (k', v'') := by
      intro i' k' v' hh
      by_cases q : i' = i
      · subst q
        rw [List.getElem?_set_self hlt] at hh
        cases hh
        exact ⟨_, hi⟩
      · rw [List.getElem?_set_ne (fun z => q z.symm)] at hh
        exact ⟨_, hh⟩
    obtain ⟨_, r1⟩ := key q1
    obtain ⟨_, r2⟩ := key2 q2
    exact hNe i1 i2 _ _ _ _ ne r1 r2
theorem WStep.newO (fs : List (WKey × Value)) (d : AtI G.bytes pc (.new idx) 3 nx) (w1 : (Jvm.Cond.classLink G.own idx C).before a0 G.Z = true) (w2 : (Jvm.Cond.instantiable C n).before a0 G.Z = true) (w3 : (Jvm.Cond.initialized C).before a0 G.Z = true)
    (hfs : LaidAll G.Z a0 C fs) (hnd : (fs.map fun f => f.1.2.1).Nodup) (hlen : σ.length = k) (hk : k < 1000) : WStep G (pc, L, S, σ, u) (nx, L, .ref k :: S, σ ++ [.inr (C, fs)], u + n) := by
  refine ⟨by simp, Nat.le_add_right _ _, fun p l e R s m args below meth c hC hc hs T hT => ?_⟩
  obtain ⟨hx, hby, hZ, hown, hnm, hret, hml, hs0, hρ, hinj, hfr, hlo⟩ := hC
  obtain ⟨locs, ce, sl, h1, h2, X, D, N⟩ := hT
  obtain ⟨d, rfl⟩ := d
  subst hlen
  have h1' : σ.length = G.j0 + ce := h1
  have h2' : u = G.u0 + sl := h2
  have hc' : σ.length + 1 ≤ G.j0 + R.cells := by simpa using hc
  have hs' : u + n ≤ G.u0 + R.slots := hs
  have eS : T.heap.size = G.n0 + σ.length := D.1
  obtain ⟨T', h', X', e', E, A, Dv, -, st⟩ := RoadKit.newO X hx hZ hown w1 w2 w3 rfl (g := frm G m (pc, L, S, σ, u)) rfl (hb hby d) (by omega) (by omega)
  subst e'
  have hsz : T'.heap.size = T.heap.size + 1 := by
    have a1 := X'.heapSize
    have a2 : T.heap.size < T'.heap.size := A.lt
    have a3 : s.heap.size = G.n0 + G.j0 := hs0
    omega
  rw [eS] at A Dv
  have eρ : G.ρ σ.length = T.heap.size := by rw [hρ _ hk, eS]
  refine ⟨T', ⟨locs, ce + 1, sl + n, by simp; omega, by show u + n = _; omega, X', D.push E hsz hk ⟨A, fun i O' n' d' y hy => ?_, fun i1 i2 k1 k2 v1 v2 ne q1 q2 => ?_⟩, N⟩, fun t kt => st t ?_⟩
  · obtain ⟨LL, ty, p1, p2⟩ := hfs.at hy
    have := Dv LL p1
    dsimp only at p2
    rw [p2, dv_gv]
    exact this
  · obtain ⟨LL, ty, p1, p2⟩ := hfs.at q1
    obtain ⟨LL', ty', p1', p2'⟩ := hfs.at q2
    refine slot_ne LL LL' (fun e => ne ?_) p1 p1'
    have b1 := (List.getElem?_eq_some_iff.mp q1).1
    have b2 := (List.getElem?_eq_some_iff.mp q2).1
    refine (List.getElem?_inj (l := fs.map fun f => f.1.2.1) (i := i1) (j := i2) (by simpa using b1) hnd).mp ?_
    rw [List.getElem?_map, List.getElem?_map, q1, q2]
    exact congrArg some e
  · rw [← eρ]; exact kt
theorem WStep.newP {aty : ArrayType} (n : Int32) (m : Nat) (d : AtI G.bytes pc (.newarray aty) 2 nx) (w1 : (Jvm.Cond.arrayClass (newarray.typeOf aty)).before a0 G.Z = true) (hn : ¬ n < 0) (hm : n.toNatClampNeg = m) (hb8 : m * 8 ≤ 536870912) (hlen : σ.length = k) (hk : k < 1000) :
    WStep G (pc, L, .int n :: S, σ, u) (nx, L, .ref k :: S, σ ++ [.inl (newarray.typeOf aty, List.replicate m (defaultValue (newarray.typeOf aty)))], u + m) := by
  refine ⟨by simp, Nat.le_add_right _ _, fun p l e R s me args below meth c hC hc hs T hT => ?_⟩
  obtain ⟨hx, hby, hZ, hown, hnm, hret, hml, hs0, hρ, hinj, hfr, hlo⟩ := hC
  obtain ⟨locs, ce, sl, h1, h2, X, D, N⟩ := hT
  obtain ⟨d, rfl⟩ := d
  subst hlen
  have h1' : σ.length = G.j0 + ce := h1
  have h2' : u = G.u0 + sl := h2
  have hc' : σ.length + 1 ≤ G.j0 + R.cells := by simpa using hc
  have hs' : u + m ≤ G.u0 + R.slots := hs
  have eS : T.heap.size = G.n0 + σ.length := D.1
  obtain ⟨T', h', cA, X', e', E, A, st⟩ := RoadKit.newP X hx hZ w1 rfl (g := frm G me (pc, L, .int n :: S, σ, u)) rfl (hb hby d) rfl hn (cap := m) (by omega) hb8 (by omega) (by omega)
  subst e'
  have hsz : T'.heap.size = T.heap.size + 1 := by
    have a1 := X'.heapSize
    have a2 : T.heap.size < T'.heap.size := A.lt
    have a3 : s.heap.size = G.n0 + G.j0 := hs0
    omega
  rw [eS] at A
  have eρ : G.ρ σ.length = T.heap.size := by rw [hρ _ hk, eS]
  refine ⟨T', ⟨locs, ce + 1, sl + m, by simp; omega, by show u + m = _; omega, X', D.push E hsz hk ⟨_, A, ?_, ?_, ?_⟩, N⟩, fun t kt => st t ?_⟩
  · simp [newA, hm, dv_gv]
  · intro C hC; cases aty <;> cases hC
  · intro y hy
    rw [List.eq_of_mem_replicate hy]
    cases aty <;> rfl
  · rw [← eρ]; exact kt
theorem WStep.alen (z : Int32) (d : AtI G.bytes pc .arraylength 1 nx) (hk : σ[k]? = some (.inl (ty, vs))) (hz : vs.length.toInt32 = z) : WStep G (pc, L, .ref k :: S, σ, u) (nx, L, .int z :: S, σ, u) := by
  refine ⟨Nat.le_refl _, Nat.le_refl _, fun p l e R s m args below meth c hC hc hs T hT => ?_⟩
  obtain ⟨hx, hby, hZ, hown, hnm, hret, hml, hs0, hρ, hinj, hfr, hlo⟩ := hC
  obtain ⟨locs, ce, sl, h1, h2, X, D, N⟩ := hT
  obtain ⟨d, rfl⟩ := d
  obtain ⟨cl, A, eC, -⟩ : ArrOk G.Z G.ρ T.heap (G.n0 + k) ty vs := D.2.2 k _ hk
  rw [← hρ k (D.lt hk)] at A
  refine ⟨T, ⟨locs, ce, sl, h1, h2, X, D, N⟩, fun t kt => X.arraylength hx A.1 (State.isArrayOf_alike hZ.alike A.2.1) (g := frm G m (pc, L, .ref k :: S, σ, u)) rfl rfl (hb hby d) t ?_⟩
  rw [ArrOk.size (ty := ty) eC, hz]
  exact kt
theorem WStep.iaload (i : Nat) (d : AtI G.bytes pc .iaload 1 nx) (hk : σ[k]? = some (.inl (.int, vs))) (hj : ¬ j < 0) (hi : j.toNatClampNeg = i) (hv : vs[i]? = some v) : WStep G (pc, L, .int j :: .ref k :: S, σ, u) (nx, L, v :: S, σ, u) := by
  refine ⟨Nat.le_refl _, Nat.le_refl _, fun p l e R s m args below meth c hC hc hs T hT => ?_⟩
  obtain ⟨hx, hby, hZ, hown, hnm, hret, hml, hs0, hρ, hinj, hfr, hlo⟩ := hC
  obtain ⟨locs, ce, sl, h1, h2, X, D, N⟩ := hT
  obtain ⟨d, rfl⟩ := d
  obtain ⟨cl, A, eC, -⟩ : ArrOk G.Z G.ρ T.heap (G.n0 + k) .int vs := D.2.2 k _ hk
  rw [← hρ k (D.lt hk)] at A
  have hlt := (List.getElem?_eq_some_iff.mp hv).1
  exact ⟨T, ⟨locs, ce, sl, h1, h2, X, D, N⟩, fun t kt => X.iaload hx (j := j) (v := gv G.ρ v) A.1 (State.isArrayOf_alike hZ.alike A.2.1) A.2.2 (fun q => q.elim hj fun q => by rw [ArrOk.size (ty := .int) eC, hi] at q; omega) (by rw [hi]; exact ArrOk.at eC hv) (g := frm G m (pc, L, .int j :: .ref k :: S, σ, u)) rfl rfl (hb hby d) t kt⟩
theorem WStep.iastore {z : Int32} (i : Nat) (d : AtI G.bytes pc .iastore 1 nx) (hk : σ[k]? = some (.inl (.int, vs))) (hj : ¬ j < 0) (hi : j.toNatClampNeg = i) (hlt : i < vs.length) : WStep G (pc, L, .int z :: .int j :: .ref k :: S, σ, u) (nx, L, S, σ.set k (.inl (.int, vs.set i (.int z))), u) := by
  refine ⟨by simp, Nat.le_refl _, fun p l e R s m args below meth c hC hc hs T hT => ?_⟩
  obtain ⟨hx, hby, hZ, hown, hnm, hret, hml, hs0, hρ, hinj, hfr, hlo⟩ := hC
  obtain ⟨locs, ce, sl, h1, h2, X, D, N⟩ := hT
  obtain ⟨d, rfl⟩ := d
  obtain ⟨cl, A, eC, hO, hF⟩ : ArrOk G.Z G.ρ T.heap (G.n0 + k) .int vs := D.2.2 k _ hk
  have hρk := hρ k (D.lt hk)
  obtain ⟨T', h', X', e', W, st⟩ := stI X hx hZ rfl A (j := j) (x := z) (fun q => q.elim hj fun q => by rw [ArrOk.size (ty := .int) eC, hi] at q; omega) (g := frm G m (pc, L, .int z :: .int j :: .ref k :: S, σ, u)) rfl (by show _ :: _ :: Value.ref (G.ρ k) :: _ = _; rw [hρk]; rfl) (hb hby d)
  subst e'
  rw [hi] at W
  exact ⟨T', ⟨_, ce, sl, by simpa using h1, h2, X', D.put W (ArrOk.set (w := .int z) A eC hO hF W (rfl)), N.app fun y hy => by cases List.mem_singleton.mp hy; exact Nat.le_add_right _ _⟩, st⟩
end HeapOps
end Jvm.Sy

namespace Jvm.Sy
open Jvm Jvm.RoadKit
abbrev wI (x : Int32) : Slot := .val (.int x)
abbrev wR (k : Nat) : Slot := .val (.ref k)
abbrev wN : Slot := .val .null
abbrev wAI (l : List Value) : WObj := .inl (.int, l)
abbrev wU : Slot := .unset
def ia (ks : List Int32) : List Value := ks.map Value.int
theorem ia_len (ks : List Int32) : (ia ks).length = ks.length := by simp [ia]
theorem ia_get {ks : List Int32} {i : Nat} {e : Int32} (h : ks[i]? = some e) : (ia ks)[i]? = some (.int e) := by simp [ia, h]
theorem ia_set (ks : List Int32) (i : Nat) (x : Int32) : (ia ks).set i (.int x) = ia (ks.set i x) := by simp [ia, List.map_set]
theorem nn {j : Int32} (h0 : 0 ≤ j.toInt) : ¬ j < 0 := by rw [Int32.lt_iff_toInt_lt]; have : (0 : Int32).toInt = 0 := rfl; omega
theorem nlt {j : Int32} {n : Nat} (h0 : 0 ≤ j.toInt) (h1 : j.toInt < n) : j.toNatClampNeg < n := by simp only [Int32.toNatClampNeg]; omega
end Jvm.Sy

namespace Jvm.Sy
open Jvm Jvm.ClassFile Sem Op Lib Jvm.Free Jvm.Stand Jvm.LawKit Jvm.RoadKit Bundle
section Copy
variable {Z : State} {ρ : Nat → Nat} {h h' : Heap} {a b : Addr} {o : WObj} {ws : List Addr} {ty : FieldType} {vs : List Value}
theorem CellOk.keep (F : CellOk Z ρ h a o) (K : Keep h h' ws) (q : a ∉ ws) : CellOk Z ρ h' a o := by
  rcases o with ⟨ty, vs⟩ | ⟨C, fs⟩
  · obtain ⟨cl, A, r⟩ := F; exact ⟨cl, ⟨K.2.1 _ _ A.1 q, A.2⟩, r⟩
  · obtain ⟨F1, F2, F3⟩ := F; exact ⟨F1.keep K, fun i O n d v y => (F2 i O n d v y).keep K q, F3⟩
theorem nat_back {n : Nat} (hn : n < 2 ^ 31) : (Int32.ofNat n).toNatClampNeg = n ∧ ¬ (Int32.ofNat n) < 0 := by
  have e : (Int32.ofNat n).toInt = n := Int32.toInt_ofNat_small hn
  refine ⟨by simp only [Int32.toNatClampNeg]; omega, ?_⟩
  rw [Int32.lt_iff_toInt_lt]
  have e0 : (0 : Int32).toInt = 0 := rfl
  omega
theorem ArrOk.arv (F : ArrOk Z ρ h a ty vs) (hl : vs.length < 2 ^ 31) : ∃ k, Arv Z h a k ty (Int32.ofNat vs.length) (vs.map (gv ρ)) (defaultValue ty) := by
  obtain ⟨cl, A, e, -, hf⟩ := F
  have hs : cl.slots.size = vs.length := ArrOk.size (ty := ty) e
  refine ⟨cl.cls, cl, A, rfl, by rw [hs]; exact (nat_back hl).1.symm, (nat_back hl).2, fun k hk => ?_, fun i hi => ?_⟩
  · rw [← Array.getElem?_toList, e]
    rw [List.getD_eq_getElem?_getD, List.getElem?_eq_getElem (by rw [List.length_map]; omega)]
    rfl
  · rw [List.getD_eq_getElem?_getD, List.getElem?_eq_getElem (by rw [List.length_map]; omega)]
    simp only [Option.getD_some, List.getElem_map]
    rw [fits_gv]
    exact hf _ (List.getElem_mem _)
theorem ArrOk.of_arv {k : ClassId} {z : Int32} {ws : List Value} {d : Value} (hr : refKind ty = false) (F : Arv Z h a k ty z ws d) (hz : z.toNatClampNeg = vs.length) (e : ws = vs.map (gv ρ)) : ArrOk Z ρ h a ty vs := by
  obtain ⟨c, A, -, S, -, H, G⟩ := F
  have hs : c.slots.size = vs.length := S.trans hz
  have ht : c.slots.toList = vs.map (gv ρ) := by
    apply List.ext_getElem?
    intro i
    rcases Nat.lt_or_ge i vs.length with q | q
    · rw [Array.getElem?_toList, H i (by omega), e, List.getD_eq_getElem?_getD, List.getElem?_eq_getElem (by rw [List.length_map]; omega)]
      rfl
    · rw [List.getElem?_eq_none (by simpa [hs] using q), List.getElem?_eq_none (by simpa using q)]
  refine ⟨c, A, ht, fun C hC => (by rw [hC] at hr; cases hr), fun v hv => ?_⟩
  obtain ⟨i, hi, rfl⟩ := List.getElem_of_mem hv
  have g := G i (by omega)
  rw [e, List.getD_eq_getElem?_getD, List.getElem?_eq_getElem (by rw [List.length_map]; omega)] at g
  simp only [Option.getD_some, List.getElem_map] at g
  rwa [fits_gv] at g
end Copy
theorem WStep.copyA {G : WMC} {pc nx u idx k k2 : Nat} {L : List Slot} {S va vb vr : List Value} {σ : WHp} {a0 : Array Value} {ty : FieldType} {sp dp nn : Int32}
    (d : AtI G.bytes pc (.invokestatic idx) 3 nx) (w1 : (Jvm.Cond.methodLink G.own idx Jvm.Stand.acN).before a0 G.Z = true) (w2 : (Jvm.Cond.native Jvm.Stand.acN).before a0 G.Z = true) (w3 : (Jvm.Cond.static Jvm.Stand.acN).before a0 G.Z = true) (w4 : (Jvm.Cond.initialized "java/lang/System").before a0 G.Z = true)
    (hk : σ[k]? = some (.inl (ty, va))) (hk2 : σ[k2]? = some (.inl (ty, vb))) (hty : refKind ty = false) (h1 : ¬ sp < 0) (h2 : ¬ dp < 0) (h3 : ¬ nn < 0) (h4 : sp.toNatClampNeg + nn.toNatClampNeg ≤ va.length) (h5 : dp.toNatClampNeg + nn.toNatClampNeg ≤ vb.length) (hla : va.length < 2 ^ 31) (hlb : vb.length < 2 ^ 31)
    (hr : vb.take dp.toNatClampNeg ++ ((List.range nn.toNatClampNeg).map fun i => va.getD (sp.toNatClampNeg + i) (defaultValue ty)) ++ vb.drop (dp.toNatClampNeg + nn.toNatClampNeg) = vr)
    (hL : L.length = G.ml) (hf : 1 ≤ G.fr) (hl : (S.map Value.category).sum + (nativeFrameWords "java/lang/System" "arraycopy" 5 + 11) ≤ G.lo) :
    WStep G (pc, L, .int nn :: .int dp :: .ref k2 :: .int sp :: .ref k :: S, σ, u) (nx, L, S, σ.set k2 (.inl (ty, vr)), u) := by
  refine ⟨by simp, Nat.le_refl _, fun p l e R s m args below meth c hC hc hs T hT => ?_⟩
  obtain ⟨hx, hby, hZ, hown, hnm, hret, hml, hs0, hρ, hinj, hfr, hlo⟩ := hC
  obtain ⟨locs, ce, sl, q1, q2, X, D, N⟩ := hT
  obtain ⟨d, rfl⟩ := d
  have FA : ArrOk G.Z G.ρ T.heap (G.n0 + k) ty va := D.2.2 k _ hk
  have FB : ArrOk G.Z G.ρ T.heap (G.n0 + k2) ty vb := D.2.2 k2 _ hk2
  obtain ⟨ka, VA⟩ := FA.arv hla
  obtain ⟨kb, VB⟩ := FB.arv hlb
  have hρk := hρ k (D.lt hk)
  have hρk2 := hρ k2 (D.lt hk2)
  obtain ⟨T', h', L', X', e', N', K, B', st⟩ := cpA X hx hZ hown w1 w2 w3 w4 rfl VA VB (Or.inl ⟨rfl, hty⟩) h1 h2 h3 (by rw [(nat_back hla).1]; exact h4) (by rw [(nat_back hlb).1]; exact h5) rfl (by rw [List.length_map]; exact h5) N (Nat.le_add_right _ _) (g := frm G m (pc, L, .int nn :: .int dp :: .ref k2 :: .int sp :: .ref k :: S, σ, u)) rfl (by show (gL _ L).size = _; rw [gL_size, hL, hml]) (rest := gS G.ρ S) (by show _ :: _ :: Value.ref (G.ρ k2) :: _ :: Value.ref (G.ρ k) :: _ = _; rw [hρk, hρk2]; rfl) (hb hby d) (Nat.le_trans hf hfr) (W := (S.map Value.category).sum) (by rw [sum_gS]; show 2 * 0 + _ ≤ _; omega) (Nat.le_trans hl hlo)
  subst e'
  have hlen : vr.length = vb.length := by
    rw [← hr]; simp only [List.length_append, List.length_take, List.length_map, List.length_range, List.length_drop]; omega
  have hsz : T'.heap.size = T.heap.size := by
    have a1 := X'.heapSize
    have a2 : T.heap.size ≤ T'.heap.size := K.1
    have a3 : s.heap.size = G.n0 + G.j0 := hs0
    have a4 : T.heap.size = G.n0 + σ.length := D.1
    have a5 : σ.length = G.j0 + ce := q1
    omega
  have FB' : ArrOk G.Z G.ρ T'.heap (G.n0 + k2) ty vr := by
    refine ArrOk.of_arv hty B' (by rw [(nat_back hlb).1]; exact hlen.symm) ?_
    rw [← hr]
    simp only [List.map_append, List.map_take, List.map_drop, List.map_map]
    congr 2
    apply List.map_congr_left
    intro i _
    simp only [Function.comp_apply, List.getD_eq_getElem?_getD, List.getElem?_map]
    cases va[sp.toNatClampNeg + i]? with
    | none => simp [dv_gv]
    | some v => rfl
  refine ⟨T', ⟨_, ce, sl, by simpa using q1, q2, X', ⟨by rw [hsz]; simpa using D.1, ⟨by simpa using D.2.1.1, fun a c h1 h2 => K.2.1 a c (D.2.1.2 a c h1 h2) fun q => ?_⟩, fun j o' hj => ?_⟩, N'⟩, st⟩
  · cases List.mem_singleton.mp q
    exact absurd h1 (Nat.not_lt.mpr (Nat.le_add_right _ _))
  · by_cases q : j = k2
    · subst q
      rw [List.getElem?_set] at hj
      simp only [if_true] at hj
      split at hj
      · cases hj; exact FB'
      · cases hj
    · rw [List.getElem?_set_ne (Ne.symm q)] at hj
      exact (D.2.2 j o' hj).keep K fun z => q (Nat.add_left_cancel (List.mem_singleton.mp z))
end Jvm.Sy
namespace Jvm.Sy
open Jvm Jvm.RoadKit
abbrev ix4 (q : Int32) : Prop := 0 ≤ q.toInt ∧ q.toInt ≤ 3
def mkk (M : List Int32) (x : Int32) : Int32 := M.getD x.toNatClampNeg 0
theorem ix4_lt {x : Int32} (h : ix4 x) : x.toNatClampNeg < 4 := nlt h.1 (by have := h.2; omega)
theorem mkk_get {M : List Int32} {x : Int32} (hM : M.length = 4) (h : ix4 x) : M[x.toNatClampNeg]? = some (mkk M x) := by
  have := ix4_lt h
  rw [mkk, List.getD_eq_getElem?_getD, List.getElem?_eq_getElem (by omega)]
  rfl
theorem ix4_inj {x y : Int32} (h : ix4 x) (g : ix4 y) (e : x.toNatClampNeg = y.toNatClampNeg) : x = y := by
  apply Int32.toInt_inj.mp
  simp only [Int32.toNatClampNeg] at e
  have h0 := h.1
  have g0 := g.1
  omega
theorem mkk_same {M : List Int32} {x : Int32} (s : Int32) (hM : M.length = 4) (h : ix4 x) : mkk (M.set x.toNatClampNeg s) x = s := by
  have := ix4_lt h
  simp [mkk, hM, this]
theorem mkk_other {M : List Int32} {x y : Int32} (s : Int32) (h : ix4 x) (g : ix4 y) (ne : ¬ y = x) : mkk (M.set x.toNatClampNeg s) y = mkk M y := by
  have : ¬ x.toNatClampNeg = y.toNatClampNeg := fun e => ne (ix4_inj h g e).symm
  simp [mkk, List.getElem?_set_ne this]
theorem mkk_zero {x : Int32} (h : ix4 x) : mkk [0, 0, 0, 0] x = 0 := by
  have h4 := ix4_lt h
  unfold mkk
  generalize x.toNatClampNeg = i at h4
  match i, h4 with
  | 0, _ => rfl
  | 1, _ => rfl
  | 2, _ => rfl
  | 3, _ => rfl
def No2 (M : List Int32) : Prop := ∀ y, ix4 y → ¬ mkk M y = 2
theorem no2_zero : No2 [0, 0, 0, 0] := fun y h => by rw [mkk_zero h]; decide
theorem no2_set {M : List Int32} {x : Int32} (hM : M.length = 4) (hx : ix4 x) (h : No2 M) : No2 (M.set x.toNatClampNeg 1) := fun y hy => by
  by_cases e : y = x
  · rw [e, mkk_same _ hM hx]; decide
  · rw [mkk_other _ hx hy e]; exact h y hy
theorem zer5 {j : Int32} (h0 : 0 ≤ j.toInt) (h1 : j.toInt ≤ 4) : ([.int 0, .int 0, .int 0, .int 0, .int 0] : List Value)[j.toNatClampNeg]? = some (.int 0) := by
  have h5 : j.toNatClampNeg < 5 := nlt h0 (by omega)
  generalize j.toNatClampNeg = i at h5
  match i, h5 with
  | 0, _ => rfl
  | 1, _ => rfl
  | 2, _ => rfl
  | 3, _ => rfl
  | 4, _ => rfl
theorem ix4_succ {q : Int32} (h : ix4 q) : 0 ≤ (q + 1).toInt ∧ (q + 1).toInt ≤ 4 := by
  have e := c_iadd q 1
  have e1 : (1 : Int32).toInt = 1 := rfl
  have r := rng32 (q + 1)
  have h1 := h.1
  have h2 := h.2
  omega
theorem ix4_mask (a : Int32) : ix4 (a &&& 3) := by
  have h := c_mask a 3 2 (by decide) (by decide)
  have r := rng32 (a &&& 3)
  constructor <;> omega
def dst (x y z : Int32) : Int32 := if y = x then (if z = x then 1 else if z = y then 1 else 2) else (if z = x then 2 else if z = y then 2 else 3)
def Srt1 (R : List Int32) (q0 : Int32) : Prop := R = [q0]
def Srt2 (R : List Int32) (q0 q1 : Int32) : Prop := ∃ r0 r1, R = [r0, r1] ∧ ¬ r1 < r0 ∧ (r0 = q0 ∧ r1 = q1 ∨ r0 = q1 ∧ r1 = q0)
def Srt3 (R : List Int32) (q0 q1 q2 : Int32) : Prop := ∃ r0 r1 r2, R = [r0, r1, r2] ∧ ¬ r1 < r0 ∧ ¬ r2 < r1 ∧ (r0 = q0 ∧ r1 = q1 ∧ r2 = q2 ∨ r0 = q0 ∧ r1 = q2 ∧ r2 = q1 ∨ r0 = q1 ∧ r1 = q0 ∧ r2 = q2 ∨ r0 = q1 ∧ r1 = q2 ∧ r2 = q0 ∨ r0 = q2 ∧ r1 = q0 ∧ r2 = q1 ∨ r0 = q2 ∧ r1 = q1 ∧ r2 = q0)
def IsS1 (r0 x y z : Int32) : Prop := dst x y z = 1 ∧ r0 = x ∧ r0 = y ∧ r0 = z
def IsS2 (r0 r1 x y z : Int32) : Prop := dst x y z = 2 ∧ r0 < r1 ∧ (r0 = x ∨ r1 = x) ∧ (r0 = y ∨ r1 = y) ∧ (r0 = z ∨ r1 = z)
def IsS3 (r0 r1 r2 x y z : Int32) : Prop := dst x y z = 3 ∧ r0 < r1 ∧ r1 < r2 ∧ (r0 = x ∨ r1 = x ∨ r2 = x) ∧ (r0 = y ∨ r1 = y ∨ r2 = y) ∧ (r0 = z ∨ r1 = z ∨ r2 = z)
def IsS (R : List Int32) (x y z : Int32) : Prop := (∃ r0, R = [r0] ∧ IsS1 r0 x y z) ∨ (∃ r0 r1, R = [r0, r1] ∧ IsS2 r0 r1 x y z) ∨ (∃ r0 r1 r2, R = [r0, r1, r2] ∧ IsS3 r0 r1 r2 x y z)
theorem lt_of_ne {a b : Int32} (h : ¬ b < a) (e : ¬ a = b) : a < b := by
  simp only [Int32.lt_iff_toInt_lt, ← Int32.toInt_inj] at *
  omega
theorem is1 {R : List Int32} {q x y z : Int32} (h : Srt1 R q) (hx : q = x) (hy : y = x) (hz : z = x) : IsS R x y z := by
  subst hx hy hz
  exact Or.inl ⟨_, h, by simp [dst], rfl, rfl, rfl⟩
theorem is2 {R : List Int32} {q0 q1 x y z : Int32} (h : Srt2 R q0 q1) (ne : ¬ q1 = q0) (hd : dst x y z = 2) (hx : q0 = x ∨ q1 = x) (hy : q0 = y ∨ q1 = y) (hz : q0 = z ∨ q1 = z) : IsS R x y z := by
  obtain ⟨r0, r1, rfl, hs, hp⟩ := h
  refine Or.inr (Or.inl ⟨r0, r1, rfl, hd, ?_⟩)
  rcases hp with ⟨rfl, rfl⟩ | ⟨rfl, rfl⟩
  · exact ⟨lt_of_ne hs fun e => ne e.symm, hx, hy, hz⟩
  · exact ⟨lt_of_ne hs ne, hx.symm, hy.symm, hz.symm⟩
theorem is3 {R : List Int32} {x y z : Int32} (h : Srt3 R x y z) (h1 : ¬ y = x) (h2 : ¬ z = x) (h3 : ¬ z = y) : IsS R x y z := by
  obtain ⟨r0, r1, r2, rfl, hs, ht, hp⟩ := h
  refine Or.inr (Or.inr ⟨r0, r1, r2, rfl, by simp [dst, h1, h2, h3], ?_⟩)
  rcases hp with ⟨rfl, rfl, rfl⟩ | ⟨rfl, rfl, rfl⟩ | ⟨rfl, rfl, rfl⟩ | ⟨rfl, rfl, rfl⟩ | ⟨rfl, rfl, rfl⟩ | ⟨rfl, rfl, rfl⟩ <;>
    exact ⟨lt_of_ne hs (by first | assumption | exact fun e => absurd e.symm (by assumption)), lt_of_ne ht (by first | assumption | exact fun e => absurd e.symm (by assumption)), by simp, by simp, by simp⟩
end Jvm.Sy


namespace Jvm.Pilot.@@N@@
open Jvm Jvm.ClassFile Sem Op Lib Jvm.Free Jvm.Stand Jvm.LawKit Jvm.RoadKit Bundle Jvm.Sy Jvm.Pilot.@@N@@.Jvm.D
theorem wd {Z : State} {a0 : Array Value} (hw : ∀ d ∈ tables_1, d.before a0 Z = true) (i : Nat) {d : Jvm.Cond} (h : tables_1[i]? = some d) : d.before a0 Z = true := hw d (List.mem_of_getElem? h)
abbrev fk0 : WKey := ("com/example/firm_handshake/firmhandshake/lts/Graph", "first", "[I")
abbrev fk1 : WKey := ("com/example/firm_handshake/firmhandshake/lts/Graph", "labels", "[I")
abbrev fk2 : WKey := ("com/example/firm_handshake/firmhandshake/lts/Graph", "targets", "[I")
abbrev fk3 : WKey := ("com/example/firm_handshake/firmhandshake/lts/InternalClosure", "graph", "Lcom/example/firm_handshake/firmhandshake/lts/Graph;")
abbrev fk4 : WKey := ("com/example/firm_handshake/firmhandshake/lts/InternalClosure", "internal", "I")
abbrev fk5 : WKey := ("com/example/firm_handshake/firmhandshake/lts/InternalClosure", "mark", "[I")
abbrev fk6 : WKey := ("com/example/firm_handshake/firmhandshake/lts/InternalClosure", "queue", "[I")
abbrev fk7 : WKey := ("com/example/firm_handshake/firmhandshake/lts/InternalClosure", "stamp", "I")
abbrev fk8 : WKey := ("com/example/firm_handshake/firmhandshake/lts/InternalClosure", "size", "I")
abbrev cn0 : String := "com/example/firm_handshake/firmhandshake/lts/Graph"
abbrev cn1 : String := "com/example/firm_handshake/firmhandshake/lts/InternalClosure"

abbrev g19 (Z : State) (ρ : Nat → Nat) (n0 j0 u0 : Nat) : WMC := ((Z, ρ, n0), ("com/example/firm_handshake/firmhandshake/lts/InternalClosureSeedPinLaw", method_4_code, "contains", (some .boolean), 2), (j0, u0, 0, 0))
theorem a19_0 : AtI method_4_code 0 (.aload_n 0) 1 1 := ⟨by decide +kernel, rfl⟩
theorem a19_1 : AtI method_4_code 1 (.arraylength) 1 2 := ⟨by decide +kernel, rfl⟩
theorem a19_2 : AtJ method_4_code 2 (.ifCond .le) 5 12 := ⟨10, by decide +kernel, rfl, by decide, rfl⟩
theorem a19_5 : AtI method_4_code 5 (.aload_n 0) 1 6 := ⟨by decide +kernel, rfl⟩
theorem a19_6 : AtI method_4_code 6 (.iconst 0) 1 7 := ⟨by decide +kernel, rfl⟩
theorem a19_7 : AtI method_4_code 7 (.iaload) 1 8 := ⟨by decide +kernel, rfl⟩
theorem a19_8 : AtI method_4_code 8 (.iload_n 1) 1 9 := ⟨by decide +kernel, rfl⟩
theorem a19_9 : AtJ method_4_code 9 (.if_icmp .eq) 12 38 := ⟨29, by decide +kernel, rfl, by decide, rfl⟩
theorem a19_12 : AtI method_4_code 12 (.aload_n 0) 1 13 := ⟨by decide +kernel, rfl⟩
theorem a19_13 : AtI method_4_code 13 (.arraylength) 1 14 := ⟨by decide +kernel, rfl⟩
theorem a19_14 : AtI method_4_code 14 (.iconst 1) 1 15 := ⟨by decide +kernel, rfl⟩
theorem a19_15 : AtJ method_4_code 15 (.if_icmp .le) 18 25 := ⟨10, by decide +kernel, rfl, by decide, rfl⟩
theorem a19_18 : AtI method_4_code 18 (.aload_n 0) 1 19 := ⟨by decide +kernel, rfl⟩
theorem a19_19 : AtI method_4_code 19 (.iconst 1) 1 20 := ⟨by decide +kernel, rfl⟩
theorem a19_20 : AtI method_4_code 20 (.iaload) 1 21 := ⟨by decide +kernel, rfl⟩
theorem a19_21 : AtI method_4_code 21 (.iload_n 1) 1 22 := ⟨by decide +kernel, rfl⟩
theorem a19_22 : AtJ method_4_code 22 (.if_icmp .eq) 25 38 := ⟨16, by decide +kernel, rfl, by decide, rfl⟩
theorem a19_25 : AtI method_4_code 25 (.aload_n 0) 1 26 := ⟨by decide +kernel, rfl⟩
theorem a19_26 : AtI method_4_code 26 (.arraylength) 1 27 := ⟨by decide +kernel, rfl⟩
theorem a19_27 : AtI method_4_code 27 (.iconst 2) 1 28 := ⟨by decide +kernel, rfl⟩
theorem a19_28 : AtJ method_4_code 28 (.if_icmp .le) 31 42 := ⟨14, by decide +kernel, rfl, by decide, rfl⟩
theorem a19_31 : AtI method_4_code 31 (.aload_n 0) 1 32 := ⟨by decide +kernel, rfl⟩
theorem a19_32 : AtI method_4_code 32 (.iconst 2) 1 33 := ⟨by decide +kernel, rfl⟩
theorem a19_33 : AtI method_4_code 33 (.iaload) 1 34 := ⟨by decide +kernel, rfl⟩
theorem a19_34 : AtI method_4_code 34 (.iload_n 1) 1 35 := ⟨by decide +kernel, rfl⟩
theorem a19_35 : AtJ method_4_code 35 (.if_icmp .ne) 38 42 := ⟨7, by decide +kernel, rfl, by decide, rfl⟩
theorem a19_38 : AtI method_4_code 38 (.iconst 1) 1 39 := ⟨by decide +kernel, rfl⟩
theorem a19_39 : AtJ method_4_code 39 (.goto) 42 43 := ⟨4, by decide +kernel, rfl, by decide, rfl⟩
theorem a19_42 : AtI method_4_code 42 (.iconst 0) 1 43 := ⟨by decide +kernel, rfl⟩
theorem a19_43 : AtI method_4_code 43 (.ireturn) 1 44 := ⟨by decide +kernel, rfl⟩
theorem pd19 : parseMethodDescriptor "([II)Z" = some ⟨[(.array .int), .int], some .boolean⟩ := by decide +kernel
theorem pl19 : plainFor (⟨"com/example/firm_handshake/firmhandshake/lts/InternalClosureSeedPinLaw", "contains", "([II)Z"⟩ : MethodName) = true := plainFor_of_name (by first | (simp [plainName, overriddenIn]; done) | decide +kernel)
theorem ok19 {Z : State} {a0 : Array Value} (hw : ∀ d ∈ tables_1, d.before a0 Z = true) (ρ : Nat → Nat) (n0 j0 u0 : Nat) : WCallee Z a0 (⟨"com/example/firm_handshake/firmhandshake/lts/InternalClosureSeedPinLaw", "contains", "([II)Z"⟩ : MethodName) (g19 Z ρ n0 j0 u0) 2 :=
  ⟨pl19, (by decide), rfl, rfl, rfl, (wd hw 96 rfl), (wd hw 103 rfl), fun sig h => by cases pd19.symm.trans h; rfl⟩
abbrev g18 (Z : State) (ρ : Nat → Nat) (n0 j0 u0 : Nat) : WMC := ((Z, ρ, n0), ("com/example/firm_handshake/firmhandshake/lts/InternalClosureSeedPinLaw", method_3_code, "distinct", (some .int), 4), (j0, u0, 0, 0))
theorem a18_0 : AtI method_3_code 0 (.iconst 1) 1 1 := ⟨by decide +kernel, rfl⟩
theorem a18_1 : AtI method_3_code 1 (.istore_n 3) 1 2 := ⟨by decide +kernel, rfl⟩
theorem a18_2 : AtI method_3_code 2 (.iload_n 1) 1 3 := ⟨by decide +kernel, rfl⟩
theorem a18_3 : AtI method_3_code 3 (.iload_n 0) 1 4 := ⟨by decide +kernel, rfl⟩
theorem a18_4 : AtJ method_3_code 4 (.if_icmp .eq) 7 10 := ⟨6, by decide +kernel, rfl, by decide, rfl⟩
theorem a18_7 : AtI method_3_code 7 (.iinc 3 1) 3 10 := ⟨by decide +kernel, rfl⟩
theorem a18_10 : AtI method_3_code 10 (.iload_n 2) 1 11 := ⟨by decide +kernel, rfl⟩
theorem a18_11 : AtI method_3_code 11 (.iload_n 0) 1 12 := ⟨by decide +kernel, rfl⟩
theorem a18_12 : AtJ method_3_code 12 (.if_icmp .eq) 15 23 := ⟨11, by decide +kernel, rfl, by decide, rfl⟩
theorem a18_15 : AtI method_3_code 15 (.iload_n 2) 1 16 := ⟨by decide +kernel, rfl⟩
theorem a18_16 : AtI method_3_code 16 (.iload_n 1) 1 17 := ⟨by decide +kernel, rfl⟩
theorem a18_17 : AtJ method_3_code 17 (.if_icmp .eq) 20 23 := ⟨6, by decide +kernel, rfl, by decide, rfl⟩
theorem a18_20 : AtI method_3_code 20 (.iinc 3 1) 3 23 := ⟨by decide +kernel, rfl⟩
theorem a18_23 : AtI method_3_code 23 (.iload_n 3) 1 24 := ⟨by decide +kernel, rfl⟩
theorem a18_24 : AtI method_3_code 24 (.ireturn) 1 25 := ⟨by decide +kernel, rfl⟩
theorem pd18 : parseMethodDescriptor "(III)I" = some ⟨[.int, .int, .int], some .int⟩ := by decide +kernel
theorem pl18 : plainFor (⟨"com/example/firm_handshake/firmhandshake/lts/InternalClosureSeedPinLaw", "distinct", "(III)I"⟩ : MethodName) = true := plainFor_of_name (by first | (simp [plainName, overriddenIn]; done) | decide +kernel)
theorem ok18 {Z : State} {a0 : Array Value} (hw : ∀ d ∈ tables_1, d.before a0 Z = true) (ρ : Nat → Nat) (n0 j0 u0 : Nat) : WCallee Z a0 (⟨"com/example/firm_handshake/firmhandshake/lts/InternalClosureSeedPinLaw", "distinct", "(III)I"⟩ : MethodName) (g18 Z ρ n0 j0 u0) 3 :=
  ⟨pl18, (by decide), rfl, rfl, rfl, (wd hw 96 rfl), (wd hw 100 rfl), fun sig h => by cases pd18.symm.trans h; rfl⟩
abbrev g17 (Z : State) (ρ : Nat → Nat) (n0 j0 u0 : Nat) : WMC := ((Z, ρ, n0), ("com/example/firm_handshake/firmhandshake/lts/InternalClosureSeedPinLaw", method_5_code, "isSet", (some .boolean), 4), (j0, u0, 1, 16))
theorem a17_0 : AtI method_5_code 0 (.aload_n 0) 1 1 := ⟨by decide +kernel, rfl⟩
theorem a17_1 : AtI method_5_code 1 (.arraylength) 1 2 := ⟨by decide +kernel, rfl⟩
theorem a17_2 : AtI method_5_code 2 (.iload_n 1) 1 3 := ⟨by decide +kernel, rfl⟩
theorem a17_3 : AtI method_5_code 3 (.iload_n 2) 1 4 := ⟨by decide +kernel, rfl⟩
theorem a17_4 : AtI method_5_code 4 (.iload_n 3) 1 5 := ⟨by decide +kernel, rfl⟩
theorem a17_5 : AtI method_5_code 5 (.invokestatic 34) 3 8 := ⟨by decide +kernel, rfl⟩
theorem a17_8 : AtJ method_5_code 8 (.if_icmp .eq) 11 13 := ⟨5, by decide +kernel, rfl, by decide, rfl⟩
theorem a17_11 : AtI method_5_code 11 (.iconst 0) 1 12 := ⟨by decide +kernel, rfl⟩
theorem a17_12 : AtI method_5_code 12 (.ireturn) 1 13 := ⟨by decide +kernel, rfl⟩
theorem a17_13 : AtI method_5_code 13 (.aload_n 0) 1 14 := ⟨by decide +kernel, rfl⟩
theorem a17_14 : AtI method_5_code 14 (.arraylength) 1 15 := ⟨by decide +kernel, rfl⟩
theorem a17_15 : AtI method_5_code 15 (.iconst 1) 1 16 := ⟨by decide +kernel, rfl⟩
theorem a17_16 : AtJ method_5_code 16 (.if_icmp .le) 19 30 := ⟨14, by decide +kernel, rfl, by decide, rfl⟩
theorem a17_19 : AtI method_5_code 19 (.aload_n 0) 1 20 := ⟨by decide +kernel, rfl⟩
theorem a17_20 : AtI method_5_code 20 (.iconst 0) 1 21 := ⟨by decide +kernel, rfl⟩
theorem a17_21 : AtI method_5_code 21 (.iaload) 1 22 := ⟨by decide +kernel, rfl⟩
theorem a17_22 : AtI method_5_code 22 (.aload_n 0) 1 23 := ⟨by decide +kernel, rfl⟩
theorem a17_23 : AtI method_5_code 23 (.iconst 1) 1 24 := ⟨by decide +kernel, rfl⟩
theorem a17_24 : AtI method_5_code 24 (.iaload) 1 25 := ⟨by decide +kernel, rfl⟩
theorem a17_25 : AtJ method_5_code 25 (.if_icmp .lt) 28 30 := ⟨5, by decide +kernel, rfl, by decide, rfl⟩
theorem a17_28 : AtI method_5_code 28 (.iconst 0) 1 29 := ⟨by decide +kernel, rfl⟩
theorem a17_29 : AtI method_5_code 29 (.ireturn) 1 30 := ⟨by decide +kernel, rfl⟩
theorem a17_30 : AtI method_5_code 30 (.aload_n 0) 1 31 := ⟨by decide +kernel, rfl⟩
theorem a17_31 : AtI method_5_code 31 (.arraylength) 1 32 := ⟨by decide +kernel, rfl⟩
theorem a17_32 : AtI method_5_code 32 (.iconst 2) 1 33 := ⟨by decide +kernel, rfl⟩
theorem a17_33 : AtJ method_5_code 33 (.if_icmp .le) 36 47 := ⟨14, by decide +kernel, rfl, by decide, rfl⟩
theorem a17_36 : AtI method_5_code 36 (.aload_n 0) 1 37 := ⟨by decide +kernel, rfl⟩
theorem a17_37 : AtI method_5_code 37 (.iconst 1) 1 38 := ⟨by decide +kernel, rfl⟩
theorem a17_38 : AtI method_5_code 38 (.iaload) 1 39 := ⟨by decide +kernel, rfl⟩
theorem a17_39 : AtI method_5_code 39 (.aload_n 0) 1 40 := ⟨by decide +kernel, rfl⟩
theorem a17_40 : AtI method_5_code 40 (.iconst 2) 1 41 := ⟨by decide +kernel, rfl⟩
theorem a17_41 : AtI method_5_code 41 (.iaload) 1 42 := ⟨by decide +kernel, rfl⟩
theorem a17_42 : AtJ method_5_code 42 (.if_icmp .lt) 45 47 := ⟨5, by decide +kernel, rfl, by decide, rfl⟩
theorem a17_45 : AtI method_5_code 45 (.iconst 0) 1 46 := ⟨by decide +kernel, rfl⟩
theorem a17_46 : AtI method_5_code 46 (.ireturn) 1 47 := ⟨by decide +kernel, rfl⟩
theorem a17_47 : AtI method_5_code 47 (.aload_n 0) 1 48 := ⟨by decide +kernel, rfl⟩
theorem a17_48 : AtI method_5_code 48 (.iload_n 1) 1 49 := ⟨by decide +kernel, rfl⟩
theorem a17_49 : AtI method_5_code 49 (.invokestatic 38) 3 52 := ⟨by decide +kernel, rfl⟩
theorem a17_52 : AtJ method_5_code 52 (.ifCond .eq) 55 75 := ⟨23, by decide +kernel, rfl, by decide, rfl⟩
theorem a17_55 : AtI method_5_code 55 (.aload_n 0) 1 56 := ⟨by decide +kernel, rfl⟩
theorem a17_56 : AtI method_5_code 56 (.iload_n 2) 1 57 := ⟨by decide +kernel, rfl⟩
theorem a17_57 : AtI method_5_code 57 (.invokestatic 38) 3 60 := ⟨by decide +kernel, rfl⟩
theorem a17_60 : AtJ method_5_code 60 (.ifCond .eq) 63 75 := ⟨15, by decide +kernel, rfl, by decide, rfl⟩
theorem a17_63 : AtI method_5_code 63 (.aload_n 0) 1 64 := ⟨by decide +kernel, rfl⟩
theorem a17_64 : AtI method_5_code 64 (.iload_n 3) 1 65 := ⟨by decide +kernel, rfl⟩
theorem a17_65 : AtI method_5_code 65 (.invokestatic 38) 3 68 := ⟨by decide +kernel, rfl⟩
theorem a17_68 : AtJ method_5_code 68 (.ifCond .eq) 71 75 := ⟨7, by decide +kernel, rfl, by decide, rfl⟩
theorem a17_71 : AtI method_5_code 71 (.iconst 1) 1 72 := ⟨by decide +kernel, rfl⟩
theorem a17_72 : AtJ method_5_code 72 (.goto) 75 76 := ⟨4, by decide +kernel, rfl, by decide, rfl⟩
theorem a17_75 : AtI method_5_code 75 (.iconst 0) 1 76 := ⟨by decide +kernel, rfl⟩
theorem a17_76 : AtI method_5_code 76 (.ireturn) 1 77 := ⟨by decide +kernel, rfl⟩
theorem pd17 : parseMethodDescriptor "([IIII)Z" = some ⟨[(.array .int), .int, .int, .int], some .boolean⟩ := by decide +kernel
theorem pl17 : plainFor (⟨"com/example/firm_handshake/firmhandshake/lts/InternalClosureSeedPinLaw", "isSet", "([IIII)Z"⟩ : MethodName) = true := plainFor_of_name (by first | (simp [plainName, overriddenIn]; done) | decide +kernel)
theorem ok17 {Z : State} {a0 : Array Value} (hw : ∀ d ∈ tables_1, d.before a0 Z = true) (ρ : Nat → Nat) (n0 j0 u0 : Nat) : WCallee Z a0 (⟨"com/example/firm_handshake/firmhandshake/lts/InternalClosureSeedPinLaw", "isSet", "([IIII)Z"⟩ : MethodName) (g17 Z ρ n0 j0 u0) 4 :=
  ⟨pl17, (by decide), rfl, rfl, rfl, (wd hw 96 rfl), (wd hw 97 rfl), fun sig h => by cases pd17.symm.trans h; rfl⟩
abbrev g16 (Z : State) (ρ : Nat → Nat) (n0 j0 u0 : Nat) : WMC := ((Z, ρ, n0), ("java/util/DualPivotQuicksort", jdk_2529_method_6_code, "insertionSort", none, 6), (j0, u0, 0, 0))
theorem a16_0 : AtI jdk_2529_method_6_code 0 (.iload_n 1) 1 1 := ⟨by decide +kernel, rfl⟩
theorem a16_1 : AtI jdk_2529_method_6_code 1 (.istore 4) 2 3 := ⟨by decide +kernel, rfl⟩
theorem a16_3 : AtI jdk_2529_method_6_code 3 (.iinc 4 1) 3 6 := ⟨by decide +kernel, rfl⟩
theorem a16_6 : AtI jdk_2529_method_6_code 6 (.iload 4) 2 8 := ⟨by decide +kernel, rfl⟩
theorem a16_8 : AtI jdk_2529_method_6_code 8 (.iload_n 2) 1 9 := ⟨by decide +kernel, rfl⟩
theorem a16_9 : AtJ jdk_2529_method_6_code 9 (.if_icmp .ge) 12 67 := ⟨58, by decide +kernel, rfl, by decide, rfl⟩
theorem a16_12 : AtI jdk_2529_method_6_code 12 (.aload_n 0) 1 13 := ⟨by decide +kernel, rfl⟩
theorem a16_13 : AtI jdk_2529_method_6_code 13 (.iload 4) 2 15 := ⟨by decide +kernel, rfl⟩
theorem a16_15 : AtI jdk_2529_method_6_code 15 (.dup) 1 16 := ⟨by decide +kernel, rfl⟩
theorem a16_16 : AtI jdk_2529_method_6_code 16 (.istore_n 3) 1 17 := ⟨by decide +kernel, rfl⟩
theorem a16_17 : AtI jdk_2529_method_6_code 17 (.iaload) 1 18 := ⟨by decide +kernel, rfl⟩
theorem a16_18 : AtI jdk_2529_method_6_code 18 (.istore 5) 2 20 := ⟨by decide +kernel, rfl⟩
theorem a16_20 : AtI jdk_2529_method_6_code 20 (.iload 5) 2 22 := ⟨by decide +kernel, rfl⟩
theorem a16_22 : AtI jdk_2529_method_6_code 22 (.aload_n 0) 1 23 := ⟨by decide +kernel, rfl⟩
theorem a16_23 : AtI jdk_2529_method_6_code 23 (.iload_n 3) 1 24 := ⟨by decide +kernel, rfl⟩
theorem a16_24 : AtI jdk_2529_method_6_code 24 (.iconst 1) 1 25 := ⟨by decide +kernel, rfl⟩
theorem a16_25 : AtI jdk_2529_method_6_code 25 (.isub) 1 26 := ⟨by decide +kernel, rfl⟩
theorem a16_26 : AtI jdk_2529_method_6_code 26 (.iaload) 1 27 := ⟨by decide +kernel, rfl⟩
theorem a16_27 : AtJ jdk_2529_method_6_code 27 (.if_icmp .ge) 30 64 := ⟨37, by decide +kernel, rfl, by decide, rfl⟩
theorem a16_30 : AtI jdk_2529_method_6_code 30 (.iinc 3 (-1)) 3 33 := ⟨by decide +kernel, rfl⟩
theorem a16_33 : AtI jdk_2529_method_6_code 33 (.iload_n 3) 1 34 := ⟨by decide +kernel, rfl⟩
theorem a16_34 : AtI jdk_2529_method_6_code 34 (.iload_n 1) 1 35 := ⟨by decide +kernel, rfl⟩
theorem a16_35 : AtJ jdk_2529_method_6_code 35 (.if_icmp .lt) 38 57 := ⟨22, by decide +kernel, rfl, by decide, rfl⟩
theorem a16_38 : AtI jdk_2529_method_6_code 38 (.iload 5) 2 40 := ⟨by decide +kernel, rfl⟩
theorem a16_40 : AtI jdk_2529_method_6_code 40 (.aload_n 0) 1 41 := ⟨by decide +kernel, rfl⟩
theorem a16_41 : AtI jdk_2529_method_6_code 41 (.iload_n 3) 1 42 := ⟨by decide +kernel, rfl⟩
theorem a16_42 : AtI jdk_2529_method_6_code 42 (.iaload) 1 43 := ⟨by decide +kernel, rfl⟩
theorem a16_43 : AtJ jdk_2529_method_6_code 43 (.if_icmp .ge) 46 57 := ⟨14, by decide +kernel, rfl, by decide, rfl⟩
theorem a16_46 : AtI jdk_2529_method_6_code 46 (.aload_n 0) 1 47 := ⟨by decide +kernel, rfl⟩
theorem a16_47 : AtI jdk_2529_method_6_code 47 (.iload_n 3) 1 48 := ⟨by decide +kernel, rfl⟩
theorem a16_48 : AtI jdk_2529_method_6_code 48 (.iconst 1) 1 49 := ⟨by decide +kernel, rfl⟩
theorem a16_49 : AtI jdk_2529_method_6_code 49 (.iadd) 1 50 := ⟨by decide +kernel, rfl⟩
theorem a16_50 : AtI jdk_2529_method_6_code 50 (.aload_n 0) 1 51 := ⟨by decide +kernel, rfl⟩
theorem a16_51 : AtI jdk_2529_method_6_code 51 (.iload_n 3) 1 52 := ⟨by decide +kernel, rfl⟩
theorem a16_52 : AtI jdk_2529_method_6_code 52 (.iaload) 1 53 := ⟨by decide +kernel, rfl⟩
theorem a16_53 : AtI jdk_2529_method_6_code 53 (.iastore) 1 54 := ⟨by decide +kernel, rfl⟩
theorem a16_54 : AtJ jdk_2529_method_6_code 54 (.goto) 57 30 := ⟨(-24), by decide +kernel, rfl, by decide, rfl⟩
theorem a16_57 : AtI jdk_2529_method_6_code 57 (.aload_n 0) 1 58 := ⟨by decide +kernel, rfl⟩
theorem a16_58 : AtI jdk_2529_method_6_code 58 (.iload_n 3) 1 59 := ⟨by decide +kernel, rfl⟩
theorem a16_59 : AtI jdk_2529_method_6_code 59 (.iconst 1) 1 60 := ⟨by decide +kernel, rfl⟩
theorem a16_60 : AtI jdk_2529_method_6_code 60 (.iadd) 1 61 := ⟨by decide +kernel, rfl⟩
theorem a16_61 : AtI jdk_2529_method_6_code 61 (.iload 5) 2 63 := ⟨by decide +kernel, rfl⟩
theorem a16_63 : AtI jdk_2529_method_6_code 63 (.iastore) 1 64 := ⟨by decide +kernel, rfl⟩
theorem a16_64 : AtJ jdk_2529_method_6_code 64 (.goto) 67 3 := ⟨(-61), by decide +kernel, rfl, by decide, rfl⟩
theorem a16_67 : AtI jdk_2529_method_6_code 67 (.return_) 1 68 := ⟨by decide +kernel, rfl⟩
theorem pd16 : parseMethodDescriptor "([III)V" = some ⟨[(.array .int), .int, .int], none⟩ := by decide +kernel
theorem pl16 : plainFor (⟨"java/util/DualPivotQuicksort", "insertionSort", "([III)V"⟩ : MethodName) = true := plainFor_of_name (by first | (simp [plainName, overriddenIn]; done) | decide +kernel)
theorem ok16 {Z : State} {a0 : Array Value} (hw : ∀ d ∈ tables_1, d.before a0 Z = true) (ρ : Nat → Nat) (n0 j0 u0 : Nat) : WCallee Z a0 (⟨"java/util/DualPivotQuicksort", "insertionSort", "([III)V"⟩ : MethodName) (g16 Z ρ n0 j0 u0) 3 :=
  ⟨pl16, (by decide), rfl, rfl, rfl, (wd hw 86 rfl), (wd hw 93 rfl), fun sig h => by cases pd16.symm.trans h; rfl⟩
abbrev g15 (Z : State) (ρ : Nat → Nat) (n0 j0 u0 : Nat) : WMC := ((Z, ρ, n0), ("java/util/DualPivotQuicksort", jdk_2529_method_4_code, "sort", none, 21), (j0, u0, 1, 32))
theorem a15_0 : AtI jdk_2529_method_4_code 0 (.iload 4) 2 2 := ⟨by decide +kernel, rfl⟩
theorem a15_2 : AtI jdk_2529_method_4_code 2 (.iconst 1) 1 3 := ⟨by decide +kernel, rfl⟩
theorem a15_3 : AtI jdk_2529_method_4_code 3 (.isub) 1 4 := ⟨by decide +kernel, rfl⟩
theorem a15_4 : AtI jdk_2529_method_4_code 4 (.istore 5) 2 6 := ⟨by decide +kernel, rfl⟩
theorem a15_6 : AtI jdk_2529_method_4_code 6 (.iload 4) 2 8 := ⟨by decide +kernel, rfl⟩
theorem a15_8 : AtI jdk_2529_method_4_code 8 (.iload_n 3) 1 9 := ⟨by decide +kernel, rfl⟩
theorem a15_9 : AtI jdk_2529_method_4_code 9 (.isub) 1 10 := ⟨by decide +kernel, rfl⟩
theorem a15_10 : AtI jdk_2529_method_4_code 10 (.istore 6) 2 12 := ⟨by decide +kernel, rfl⟩
theorem a15_12 : AtI jdk_2529_method_4_code 12 (.iload 6) 2 14 := ⟨by decide +kernel, rfl⟩
theorem a15_14 : AtI jdk_2529_method_4_code 14 (.bipush 65) 2 16 := ⟨by decide +kernel, rfl⟩
theorem a15_16 : AtI jdk_2529_method_4_code 16 (.iload_n 2) 1 17 := ⟨by decide +kernel, rfl⟩
theorem a15_17 : AtI jdk_2529_method_4_code 17 (.iadd) 1 18 := ⟨by decide +kernel, rfl⟩
theorem a15_18 : AtJ jdk_2529_method_4_code 18 (.if_icmp .ge) 21 46 := ⟨28, by decide +kernel, rfl, by decide, rfl⟩
theorem a15_21 : AtI jdk_2529_method_4_code 21 (.iload_n 2) 1 22 := ⟨by decide +kernel, rfl⟩
theorem a15_22 : AtI jdk_2529_method_4_code 22 (.iconst 1) 1 23 := ⟨by decide +kernel, rfl⟩
theorem a15_23 : AtI jdk_2529_method_4_code 23 (.iand) 1 24 := ⟨by decide +kernel, rfl⟩
theorem a15_24 : AtJ jdk_2529_method_4_code 24 (.ifCond .le) 27 46 := ⟨22, by decide +kernel, rfl, by decide, rfl⟩
theorem a15_27 : AtI jdk_2529_method_4_code 27 (.aload_n 1) 1 28 := ⟨by decide +kernel, rfl⟩
theorem a15_28 : AtI jdk_2529_method_4_code 28 (.iload_n 3) 1 29 := ⟨by decide +kernel, rfl⟩
theorem a15_29 : AtI jdk_2529_method_4_code 29 (.iload 4) 2 31 := ⟨by decide +kernel, rfl⟩
theorem a15_31 : AtI jdk_2529_method_4_code 31 (.iconst 3) 1 32 := ⟨by decide +kernel, rfl⟩
theorem a15_32 : AtI jdk_2529_method_4_code 32 (.iload 6) 2 34 := ⟨by decide +kernel, rfl⟩
theorem a15_34 : AtI jdk_2529_method_4_code 34 (.iconst 5) 1 35 := ⟨by decide +kernel, rfl⟩
theorem a15_35 : AtI jdk_2529_method_4_code 35 (.ishr) 1 36 := ⟨by decide +kernel, rfl⟩
theorem a15_36 : AtI jdk_2529_method_4_code 36 (.iconst 3) 1 37 := ⟨by decide +kernel, rfl⟩
theorem a15_37 : AtI jdk_2529_method_4_code 37 (.ishl) 1 38 := ⟨by decide +kernel, rfl⟩
theorem a15_38 : AtI jdk_2529_method_4_code 38 (.imul) 1 39 := ⟨by decide +kernel, rfl⟩
theorem a15_39 : AtI jdk_2529_method_4_code 39 (.isub) 1 40 := ⟨by decide +kernel, rfl⟩
theorem a15_40 : AtI jdk_2529_method_4_code 40 (.iload 4) 2 42 := ⟨by decide +kernel, rfl⟩
theorem a15_42 : AtI jdk_2529_method_4_code 42 (.invokestatic 30) 3 45 := ⟨by decide +kernel, rfl⟩
theorem a15_46 : AtI jdk_2529_method_4_code 46 (.iload 6) 2 48 := ⟨by decide +kernel, rfl⟩
theorem a15_48 : AtI jdk_2529_method_4_code 48 (.bipush 44) 2 50 := ⟨by decide +kernel, rfl⟩
theorem a15_50 : AtJ jdk_2529_method_4_code 50 (.if_icmp .ge) 53 61 := ⟨11, by decide +kernel, rfl, by decide, rfl⟩
theorem a15_53 : AtI jdk_2529_method_4_code 53 (.aload_n 1) 1 54 := ⟨by decide +kernel, rfl⟩
theorem a15_54 : AtI jdk_2529_method_4_code 54 (.iload_n 3) 1 55 := ⟨by decide +kernel, rfl⟩
theorem a15_55 : AtI jdk_2529_method_4_code 55 (.iload 4) 2 57 := ⟨by decide +kernel, rfl⟩
theorem a15_57 : AtI jdk_2529_method_4_code 57 (.invokestatic 34) 3 60 := ⟨by decide +kernel, rfl⟩
theorem a15_60 : AtI jdk_2529_method_4_code 60 (.return_) 1 61 := ⟨by decide +kernel, rfl⟩
theorem a15_61 : AtI jdk_2529_method_4_code 61 (.iload_n 2) 1 62 := ⟨by decide +kernel, rfl⟩
theorem a15_62 : AtJ jdk_2529_method_4_code 62 (.ifCond .eq) 65 79 := ⟨17, by decide +kernel, rfl, by decide, rfl⟩
theorem a15_65 : AtI jdk_2529_method_4_code 65 (.iload 6) 2 67 := ⟨by decide +kernel, rfl⟩
theorem a15_67 : AtI jdk_2529_method_4_code 67 (.sipush 4096) 3 70 := ⟨by decide +kernel, rfl⟩
theorem a15_70 : AtJ jdk_2529_method_4_code 70 (.if_icmp .le) 73 91 := ⟨21, by decide +kernel, rfl, by decide, rfl⟩
theorem a15_73 : AtI jdk_2529_method_4_code 73 (.iload_n 2) 1 74 := ⟨by decide +kernel, rfl⟩
theorem a15_74 : AtI jdk_2529_method_4_code 74 (.iconst 1) 1 75 := ⟨by decide +kernel, rfl⟩
theorem a15_75 : AtI jdk_2529_method_4_code 75 (.iand) 1 76 := ⟨by decide +kernel, rfl⟩
theorem a15_76 : AtJ jdk_2529_method_4_code 76 (.ifCond .le) 79 91 := ⟨15, by decide +kernel, rfl, by decide, rfl⟩
theorem a15_79 : AtI jdk_2529_method_4_code 79 (.aload_n 0) 1 80 := ⟨by decide +kernel, rfl⟩
theorem a15_80 : AtI jdk_2529_method_4_code 80 (.aload_n 1) 1 81 := ⟨by decide +kernel, rfl⟩
theorem a15_81 : AtI jdk_2529_method_4_code 81 (.iload_n 3) 1 82 := ⟨by decide +kernel, rfl⟩
theorem a15_82 : AtI jdk_2529_method_4_code 82 (.iload 6) 2 84 := ⟨by decide +kernel, rfl⟩
theorem a15_84 : AtI jdk_2529_method_4_code 84 (.invokestatic 38) 3 87 := ⟨by decide +kernel, rfl⟩
theorem a15_91 : AtI jdk_2529_method_4_code 91 (.iinc 2 6) 3 94 := ⟨by decide +kernel, rfl⟩
theorem a15_94 : AtI jdk_2529_method_4_code 94 (.iload_n 2) 1 95 := ⟨by decide +kernel, rfl⟩
theorem a15_95 : AtI jdk_2529_method_4_code 95 (.sipush 384) 3 98 := ⟨by decide +kernel, rfl⟩
theorem a15_98 : AtJ jdk_2529_method_4_code 98 (.if_icmp .le) 101 109 := ⟨11, by decide +kernel, rfl, by decide, rfl⟩
theorem a15_101 : AtI jdk_2529_method_4_code 101 (.aload_n 1) 1 102 := ⟨by decide +kernel, rfl⟩
theorem a15_102 : AtI jdk_2529_method_4_code 102 (.iload_n 3) 1 103 := ⟨by decide +kernel, rfl⟩
theorem a15_103 : AtI jdk_2529_method_4_code 103 (.iload 4) 2 105 := ⟨by decide +kernel, rfl⟩
theorem a15_105 : AtI jdk_2529_method_4_code 105 (.invokestatic 42) 3 108 := ⟨by decide +kernel, rfl⟩
theorem a15_109 : AtI jdk_2529_method_4_code 109 (.iload 6) 2 111 := ⟨by decide +kernel, rfl⟩
theorem a15_111 : AtI jdk_2529_method_4_code 111 (.iconst 3) 1 112 := ⟨by decide +kernel, rfl⟩
theorem a15_112 : AtI jdk_2529_method_4_code 112 (.ishr) 1 113 := ⟨by decide +kernel, rfl⟩
theorem a15_113 : AtI jdk_2529_method_4_code 113 (.iconst 3) 1 114 := ⟨by decide +kernel, rfl⟩
theorem a15_114 : AtI jdk_2529_method_4_code 114 (.imul) 1 115 := ⟨by decide +kernel, rfl⟩
theorem a15_115 : AtI jdk_2529_method_4_code 115 (.iconst 3) 1 116 := ⟨by decide +kernel, rfl⟩
theorem a15_116 : AtI jdk_2529_method_4_code 116 (.iadd) 1 117 := ⟨by decide +kernel, rfl⟩
theorem a15_117 : AtI jdk_2529_method_4_code 117 (.istore 7) 2 119 := ⟨by decide +kernel, rfl⟩
theorem a15_119 : AtI jdk_2529_method_4_code 119 (.iload_n 3) 1 120 := ⟨by decide +kernel, rfl⟩
theorem a15_120 : AtI jdk_2529_method_4_code 120 (.iload 7) 2 122 := ⟨by decide +kernel, rfl⟩
theorem a15_122 : AtI jdk_2529_method_4_code 122 (.iadd) 1 123 := ⟨by decide +kernel, rfl⟩
theorem a15_123 : AtI jdk_2529_method_4_code 123 (.istore 8) 2 125 := ⟨by decide +kernel, rfl⟩
theorem a15_125 : AtI jdk_2529_method_4_code 125 (.iload 5) 2 127 := ⟨by decide +kernel, rfl⟩
theorem a15_127 : AtI jdk_2529_method_4_code 127 (.iload 7) 2 129 := ⟨by decide +kernel, rfl⟩
theorem a15_129 : AtI jdk_2529_method_4_code 129 (.isub) 1 130 := ⟨by decide +kernel, rfl⟩
theorem a15_130 : AtI jdk_2529_method_4_code 130 (.istore 9) 2 132 := ⟨by decide +kernel, rfl⟩
theorem a15_132 : AtI jdk_2529_method_4_code 132 (.iload 8) 2 134 := ⟨by decide +kernel, rfl⟩
theorem a15_134 : AtI jdk_2529_method_4_code 134 (.iload 9) 2 136 := ⟨by decide +kernel, rfl⟩
theorem a15_136 : AtI jdk_2529_method_4_code 136 (.iadd) 1 137 := ⟨by decide +kernel, rfl⟩
theorem a15_137 : AtI jdk_2529_method_4_code 137 (.iconst 1) 1 138 := ⟨by decide +kernel, rfl⟩
theorem a15_138 : AtI jdk_2529_method_4_code 138 (.iushr) 1 139 := ⟨by decide +kernel, rfl⟩
theorem a15_139 : AtI jdk_2529_method_4_code 139 (.istore 10) 2 141 := ⟨by decide +kernel, rfl⟩
theorem a15_141 : AtI jdk_2529_method_4_code 141 (.iload 8) 2 143 := ⟨by decide +kernel, rfl⟩
theorem a15_143 : AtI jdk_2529_method_4_code 143 (.iload 10) 2 145 := ⟨by decide +kernel, rfl⟩
theorem a15_145 : AtI jdk_2529_method_4_code 145 (.iadd) 1 146 := ⟨by decide +kernel, rfl⟩
theorem a15_146 : AtI jdk_2529_method_4_code 146 (.iconst 1) 1 147 := ⟨by decide +kernel, rfl⟩
theorem a15_147 : AtI jdk_2529_method_4_code 147 (.iushr) 1 148 := ⟨by decide +kernel, rfl⟩
theorem a15_148 : AtI jdk_2529_method_4_code 148 (.istore 11) 2 150 := ⟨by decide +kernel, rfl⟩
theorem a15_150 : AtI jdk_2529_method_4_code 150 (.iload 10) 2 152 := ⟨by decide +kernel, rfl⟩
theorem a15_152 : AtI jdk_2529_method_4_code 152 (.iload 9) 2 154 := ⟨by decide +kernel, rfl⟩
theorem a15_154 : AtI jdk_2529_method_4_code 154 (.iadd) 1 155 := ⟨by decide +kernel, rfl⟩
theorem a15_155 : AtI jdk_2529_method_4_code 155 (.iconst 1) 1 156 := ⟨by decide +kernel, rfl⟩
theorem a15_156 : AtI jdk_2529_method_4_code 156 (.iushr) 1 157 := ⟨by decide +kernel, rfl⟩
theorem a15_157 : AtI jdk_2529_method_4_code 157 (.istore 12) 2 159 := ⟨by decide +kernel, rfl⟩
theorem a15_159 : AtI jdk_2529_method_4_code 159 (.aload_n 1) 1 160 := ⟨by decide +kernel, rfl⟩
theorem a15_160 : AtI jdk_2529_method_4_code 160 (.iload 10) 2 162 := ⟨by decide +kernel, rfl⟩
theorem a15_162 : AtI jdk_2529_method_4_code 162 (.iaload) 1 163 := ⟨by decide +kernel, rfl⟩
theorem a15_163 : AtI jdk_2529_method_4_code 163 (.istore 13) 2 165 := ⟨by decide +kernel, rfl⟩
theorem a15_165 : AtI jdk_2529_method_4_code 165 (.aload_n 1) 1 166 := ⟨by decide +kernel, rfl⟩
theorem a15_166 : AtI jdk_2529_method_4_code 166 (.iload 9) 2 168 := ⟨by decide +kernel, rfl⟩
theorem a15_168 : AtI jdk_2529_method_4_code 168 (.iaload) 1 169 := ⟨by decide +kernel, rfl⟩
theorem a15_169 : AtI jdk_2529_method_4_code 169 (.aload_n 1) 1 170 := ⟨by decide +kernel, rfl⟩
theorem a15_170 : AtI jdk_2529_method_4_code 170 (.iload 11) 2 172 := ⟨by decide +kernel, rfl⟩
theorem a15_172 : AtI jdk_2529_method_4_code 172 (.iaload) 1 173 := ⟨by decide +kernel, rfl⟩
theorem a15_173 : AtJ jdk_2529_method_4_code 173 (.if_icmp .ge) 176 196 := ⟨23, by decide +kernel, rfl, by decide, rfl⟩
theorem a15_176 : AtI jdk_2529_method_4_code 176 (.aload_n 1) 1 177 := ⟨by decide +kernel, rfl⟩
theorem a15_177 : AtI jdk_2529_method_4_code 177 (.iload 9) 2 179 := ⟨by decide +kernel, rfl⟩
theorem a15_179 : AtI jdk_2529_method_4_code 179 (.iaload) 1 180 := ⟨by decide +kernel, rfl⟩
theorem a15_180 : AtI jdk_2529_method_4_code 180 (.istore 14) 2 182 := ⟨by decide +kernel, rfl⟩
theorem a15_182 : AtI jdk_2529_method_4_code 182 (.aload_n 1) 1 183 := ⟨by decide +kernel, rfl⟩
theorem a15_183 : AtI jdk_2529_method_4_code 183 (.iload 9) 2 185 := ⟨by decide +kernel, rfl⟩
theorem a15_185 : AtI jdk_2529_method_4_code 185 (.aload_n 1) 1 186 := ⟨by decide +kernel, rfl⟩
theorem a15_186 : AtI jdk_2529_method_4_code 186 (.iload 11) 2 188 := ⟨by decide +kernel, rfl⟩
theorem a15_188 : AtI jdk_2529_method_4_code 188 (.iaload) 1 189 := ⟨by decide +kernel, rfl⟩
theorem a15_189 : AtI jdk_2529_method_4_code 189 (.iastore) 1 190 := ⟨by decide +kernel, rfl⟩
theorem a15_190 : AtI jdk_2529_method_4_code 190 (.aload_n 1) 1 191 := ⟨by decide +kernel, rfl⟩
theorem a15_191 : AtI jdk_2529_method_4_code 191 (.iload 11) 2 193 := ⟨by decide +kernel, rfl⟩
theorem a15_193 : AtI jdk_2529_method_4_code 193 (.iload 14) 2 195 := ⟨by decide +kernel, rfl⟩
theorem a15_195 : AtI jdk_2529_method_4_code 195 (.iastore) 1 196 := ⟨by decide +kernel, rfl⟩
theorem a15_196 : AtI jdk_2529_method_4_code 196 (.aload_n 1) 1 197 := ⟨by decide +kernel, rfl⟩
theorem a15_197 : AtI jdk_2529_method_4_code 197 (.iload 12) 2 199 := ⟨by decide +kernel, rfl⟩
theorem a15_199 : AtI jdk_2529_method_4_code 199 (.iaload) 1 200 := ⟨by decide +kernel, rfl⟩
theorem a15_200 : AtI jdk_2529_method_4_code 200 (.aload_n 1) 1 201 := ⟨by decide +kernel, rfl⟩
theorem a15_201 : AtI jdk_2529_method_4_code 201 (.iload 8) 2 203 := ⟨by decide +kernel, rfl⟩
theorem a15_203 : AtI jdk_2529_method_4_code 203 (.iaload) 1 204 := ⟨by decide +kernel, rfl⟩
theorem a15_204 : AtJ jdk_2529_method_4_code 204 (.if_icmp .ge) 207 227 := ⟨23, by decide +kernel, rfl, by decide, rfl⟩
theorem a15_207 : AtI jdk_2529_method_4_code 207 (.aload_n 1) 1 208 := ⟨by decide +kernel, rfl⟩
theorem a15_208 : AtI jdk_2529_method_4_code 208 (.iload 12) 2 210 := ⟨by decide +kernel, rfl⟩
theorem a15_210 : AtI jdk_2529_method_4_code 210 (.iaload) 1 211 := ⟨by decide +kernel, rfl⟩
theorem a15_211 : AtI jdk_2529_method_4_code 211 (.istore 14) 2 213 := ⟨by decide +kernel, rfl⟩
theorem a15_213 : AtI jdk_2529_method_4_code 213 (.aload_n 1) 1 214 := ⟨by decide +kernel, rfl⟩
theorem a15_214 : AtI jdk_2529_method_4_code 214 (.iload 12) 2 216 := ⟨by decide +kernel, rfl⟩
theorem a15_216 : AtI jdk_2529_method_4_code 216 (.aload_n 1) 1 217 := ⟨by decide +kernel, rfl⟩
theorem a15_217 : AtI jdk_2529_method_4_code 217 (.iload 8) 2 219 := ⟨by decide +kernel, rfl⟩
theorem a15_219 : AtI jdk_2529_method_4_code 219 (.iaload) 1 220 := ⟨by decide +kernel, rfl⟩
theorem a15_220 : AtI jdk_2529_method_4_code 220 (.iastore) 1 221 := ⟨by decide +kernel, rfl⟩
theorem a15_221 : AtI jdk_2529_method_4_code 221 (.aload_n 1) 1 222 := ⟨by decide +kernel, rfl⟩
theorem a15_222 : AtI jdk_2529_method_4_code 222 (.iload 8) 2 224 := ⟨by decide +kernel, rfl⟩
theorem a15_224 : AtI jdk_2529_method_4_code 224 (.iload 14) 2 226 := ⟨by decide +kernel, rfl⟩
theorem a15_226 : AtI jdk_2529_method_4_code 226 (.iastore) 1 227 := ⟨by decide +kernel, rfl⟩
theorem a15_227 : AtI jdk_2529_method_4_code 227 (.aload_n 1) 1 228 := ⟨by decide +kernel, rfl⟩
theorem a15_228 : AtI jdk_2529_method_4_code 228 (.iload 9) 2 230 := ⟨by decide +kernel, rfl⟩
theorem a15_230 : AtI jdk_2529_method_4_code 230 (.iaload) 1 231 := ⟨by decide +kernel, rfl⟩
theorem a15_231 : AtI jdk_2529_method_4_code 231 (.aload_n 1) 1 232 := ⟨by decide +kernel, rfl⟩
theorem a15_232 : AtI jdk_2529_method_4_code 232 (.iload 12) 2 234 := ⟨by decide +kernel, rfl⟩
theorem a15_234 : AtI jdk_2529_method_4_code 234 (.iaload) 1 235 := ⟨by decide +kernel, rfl⟩
theorem a15_235 : AtJ jdk_2529_method_4_code 235 (.if_icmp .ge) 238 258 := ⟨23, by decide +kernel, rfl, by decide, rfl⟩
theorem a15_238 : AtI jdk_2529_method_4_code 238 (.aload_n 1) 1 239 := ⟨by decide +kernel, rfl⟩
theorem a15_239 : AtI jdk_2529_method_4_code 239 (.iload 9) 2 241 := ⟨by decide +kernel, rfl⟩
theorem a15_241 : AtI jdk_2529_method_4_code 241 (.iaload) 1 242 := ⟨by decide +kernel, rfl⟩
theorem a15_242 : AtI jdk_2529_method_4_code 242 (.istore 14) 2 244 := ⟨by decide +kernel, rfl⟩
theorem a15_244 : AtI jdk_2529_method_4_code 244 (.aload_n 1) 1 245 := ⟨by decide +kernel, rfl⟩
theorem a15_245 : AtI jdk_2529_method_4_code 245 (.iload 9) 2 247 := ⟨by decide +kernel, rfl⟩
theorem a15_247 : AtI jdk_2529_method_4_code 247 (.aload_n 1) 1 248 := ⟨by decide +kernel, rfl⟩
theorem a15_248 : AtI jdk_2529_method_4_code 248 (.iload 12) 2 250 := ⟨by decide +kernel, rfl⟩
theorem a15_250 : AtI jdk_2529_method_4_code 250 (.iaload) 1 251 := ⟨by decide +kernel, rfl⟩
theorem a15_251 : AtI jdk_2529_method_4_code 251 (.iastore) 1 252 := ⟨by decide +kernel, rfl⟩
theorem a15_252 : AtI jdk_2529_method_4_code 252 (.aload_n 1) 1 253 := ⟨by decide +kernel, rfl⟩
theorem a15_253 : AtI jdk_2529_method_4_code 253 (.iload 12) 2 255 := ⟨by decide +kernel, rfl⟩
theorem a15_255 : AtI jdk_2529_method_4_code 255 (.iload 14) 2 257 := ⟨by decide +kernel, rfl⟩
theorem a15_257 : AtI jdk_2529_method_4_code 257 (.iastore) 1 258 := ⟨by decide +kernel, rfl⟩
theorem a15_258 : AtI jdk_2529_method_4_code 258 (.aload_n 1) 1 259 := ⟨by decide +kernel, rfl⟩
theorem a15_259 : AtI jdk_2529_method_4_code 259 (.iload 11) 2 261 := ⟨by decide +kernel, rfl⟩
theorem a15_261 : AtI jdk_2529_method_4_code 261 (.iaload) 1 262 := ⟨by decide +kernel, rfl⟩
theorem a15_262 : AtI jdk_2529_method_4_code 262 (.aload_n 1) 1 263 := ⟨by decide +kernel, rfl⟩
theorem a15_263 : AtI jdk_2529_method_4_code 263 (.iload 8) 2 265 := ⟨by decide +kernel, rfl⟩
theorem a15_265 : AtI jdk_2529_method_4_code 265 (.iaload) 1 266 := ⟨by decide +kernel, rfl⟩
theorem a15_266 : AtJ jdk_2529_method_4_code 266 (.if_icmp .ge) 269 289 := ⟨23, by decide +kernel, rfl, by decide, rfl⟩
theorem a15_269 : AtI jdk_2529_method_4_code 269 (.aload_n 1) 1 270 := ⟨by decide +kernel, rfl⟩
theorem a15_270 : AtI jdk_2529_method_4_code 270 (.iload 11) 2 272 := ⟨by decide +kernel, rfl⟩
theorem a15_272 : AtI jdk_2529_method_4_code 272 (.iaload) 1 273 := ⟨by decide +kernel, rfl⟩
theorem a15_273 : AtI jdk_2529_method_4_code 273 (.istore 14) 2 275 := ⟨by decide +kernel, rfl⟩
theorem a15_275 : AtI jdk_2529_method_4_code 275 (.aload_n 1) 1 276 := ⟨by decide +kernel, rfl⟩
theorem a15_276 : AtI jdk_2529_method_4_code 276 (.iload 11) 2 278 := ⟨by decide +kernel, rfl⟩
theorem a15_278 : AtI jdk_2529_method_4_code 278 (.aload_n 1) 1 279 := ⟨by decide +kernel, rfl⟩
theorem a15_279 : AtI jdk_2529_method_4_code 279 (.iload 8) 2 281 := ⟨by decide +kernel, rfl⟩
theorem a15_281 : AtI jdk_2529_method_4_code 281 (.iaload) 1 282 := ⟨by decide +kernel, rfl⟩
theorem a15_282 : AtI jdk_2529_method_4_code 282 (.iastore) 1 283 := ⟨by decide +kernel, rfl⟩
theorem a15_283 : AtI jdk_2529_method_4_code 283 (.aload_n 1) 1 284 := ⟨by decide +kernel, rfl⟩
theorem a15_284 : AtI jdk_2529_method_4_code 284 (.iload 8) 2 286 := ⟨by decide +kernel, rfl⟩
theorem a15_286 : AtI jdk_2529_method_4_code 286 (.iload 14) 2 288 := ⟨by decide +kernel, rfl⟩
theorem a15_288 : AtI jdk_2529_method_4_code 288 (.iastore) 1 289 := ⟨by decide +kernel, rfl⟩
theorem a15_289 : AtI jdk_2529_method_4_code 289 (.aload_n 1) 1 290 := ⟨by decide +kernel, rfl⟩
theorem a15_290 : AtI jdk_2529_method_4_code 290 (.iload 12) 2 292 := ⟨by decide +kernel, rfl⟩
theorem a15_292 : AtI jdk_2529_method_4_code 292 (.iaload) 1 293 := ⟨by decide +kernel, rfl⟩
theorem a15_293 : AtI jdk_2529_method_4_code 293 (.aload_n 1) 1 294 := ⟨by decide +kernel, rfl⟩
theorem a15_294 : AtI jdk_2529_method_4_code 294 (.iload 11) 2 296 := ⟨by decide +kernel, rfl⟩
theorem a15_296 : AtI jdk_2529_method_4_code 296 (.iaload) 1 297 := ⟨by decide +kernel, rfl⟩
theorem a15_297 : AtJ jdk_2529_method_4_code 297 (.if_icmp .ge) 300 320 := ⟨23, by decide +kernel, rfl, by decide, rfl⟩
theorem a15_300 : AtI jdk_2529_method_4_code 300 (.aload_n 1) 1 301 := ⟨by decide +kernel, rfl⟩
theorem a15_301 : AtI jdk_2529_method_4_code 301 (.iload 12) 2 303 := ⟨by decide +kernel, rfl⟩
theorem a15_303 : AtI jdk_2529_method_4_code 303 (.iaload) 1 304 := ⟨by decide +kernel, rfl⟩
theorem a15_304 : AtI jdk_2529_method_4_code 304 (.istore 14) 2 306 := ⟨by decide +kernel, rfl⟩
theorem a15_306 : AtI jdk_2529_method_4_code 306 (.aload_n 1) 1 307 := ⟨by decide +kernel, rfl⟩
theorem a15_307 : AtI jdk_2529_method_4_code 307 (.iload 12) 2 309 := ⟨by decide +kernel, rfl⟩
theorem a15_309 : AtI jdk_2529_method_4_code 309 (.aload_n 1) 1 310 := ⟨by decide +kernel, rfl⟩
theorem a15_310 : AtI jdk_2529_method_4_code 310 (.iload 11) 2 312 := ⟨by decide +kernel, rfl⟩
theorem a15_312 : AtI jdk_2529_method_4_code 312 (.iaload) 1 313 := ⟨by decide +kernel, rfl⟩
theorem a15_313 : AtI jdk_2529_method_4_code 313 (.iastore) 1 314 := ⟨by decide +kernel, rfl⟩
theorem a15_314 : AtI jdk_2529_method_4_code 314 (.aload_n 1) 1 315 := ⟨by decide +kernel, rfl⟩
theorem a15_315 : AtI jdk_2529_method_4_code 315 (.iload 11) 2 317 := ⟨by decide +kernel, rfl⟩
theorem a15_317 : AtI jdk_2529_method_4_code 317 (.iload 14) 2 319 := ⟨by decide +kernel, rfl⟩
theorem a15_319 : AtI jdk_2529_method_4_code 319 (.iastore) 1 320 := ⟨by decide +kernel, rfl⟩
theorem a15_320 : AtI jdk_2529_method_4_code 320 (.iload 13) 2 322 := ⟨by decide +kernel, rfl⟩
theorem a15_322 : AtI jdk_2529_method_4_code 322 (.aload_n 1) 1 323 := ⟨by decide +kernel, rfl⟩
theorem a15_323 : AtI jdk_2529_method_4_code 323 (.iload 11) 2 325 := ⟨by decide +kernel, rfl⟩
theorem a15_325 : AtI jdk_2529_method_4_code 325 (.iaload) 1 326 := ⟨by decide +kernel, rfl⟩
theorem a15_326 : AtJ jdk_2529_method_4_code 326 (.if_icmp .ge) 329 380 := ⟨54, by decide +kernel, rfl, by decide, rfl⟩
theorem a15_329 : AtI jdk_2529_method_4_code 329 (.iload 13) 2 331 := ⟨by decide +kernel, rfl⟩
theorem a15_331 : AtI jdk_2529_method_4_code 331 (.aload_n 1) 1 332 := ⟨by decide +kernel, rfl⟩
theorem a15_332 : AtI jdk_2529_method_4_code 332 (.iload 8) 2 334 := ⟨by decide +kernel, rfl⟩
theorem a15_334 : AtI jdk_2529_method_4_code 334 (.iaload) 1 335 := ⟨by decide +kernel, rfl⟩
theorem a15_335 : AtJ jdk_2529_method_4_code 335 (.if_icmp .ge) 338 363 := ⟨28, by decide +kernel, rfl, by decide, rfl⟩
theorem a15_338 : AtI jdk_2529_method_4_code 338 (.aload_n 1) 1 339 := ⟨by decide +kernel, rfl⟩
theorem a15_339 : AtI jdk_2529_method_4_code 339 (.iload 10) 2 341 := ⟨by decide +kernel, rfl⟩
theorem a15_341 : AtI jdk_2529_method_4_code 341 (.aload_n 1) 1 342 := ⟨by decide +kernel, rfl⟩
theorem a15_342 : AtI jdk_2529_method_4_code 342 (.iload 11) 2 344 := ⟨by decide +kernel, rfl⟩
theorem a15_344 : AtI jdk_2529_method_4_code 344 (.iaload) 1 345 := ⟨by decide +kernel, rfl⟩
theorem a15_345 : AtI jdk_2529_method_4_code 345 (.iastore) 1 346 := ⟨by decide +kernel, rfl⟩
theorem a15_346 : AtI jdk_2529_method_4_code 346 (.aload_n 1) 1 347 := ⟨by decide +kernel, rfl⟩
theorem a15_347 : AtI jdk_2529_method_4_code 347 (.iload 11) 2 349 := ⟨by decide +kernel, rfl⟩
theorem a15_349 : AtI jdk_2529_method_4_code 349 (.aload_n 1) 1 350 := ⟨by decide +kernel, rfl⟩
theorem a15_350 : AtI jdk_2529_method_4_code 350 (.iload 8) 2 352 := ⟨by decide +kernel, rfl⟩
theorem a15_352 : AtI jdk_2529_method_4_code 352 (.iaload) 1 353 := ⟨by decide +kernel, rfl⟩
theorem a15_353 : AtI jdk_2529_method_4_code 353 (.iastore) 1 354 := ⟨by decide +kernel, rfl⟩
theorem a15_354 : AtI jdk_2529_method_4_code 354 (.aload_n 1) 1 355 := ⟨by decide +kernel, rfl⟩
theorem a15_355 : AtI jdk_2529_method_4_code 355 (.iload 8) 2 357 := ⟨by decide +kernel, rfl⟩
theorem a15_357 : AtI jdk_2529_method_4_code 357 (.iload 13) 2 359 := ⟨by decide +kernel, rfl⟩
theorem a15_359 : AtI jdk_2529_method_4_code 359 (.iastore) 1 360 := ⟨by decide +kernel, rfl⟩
theorem a15_360 : AtJ jdk_2529_method_4_code 360 (.goto) 363 437 := ⟨77, by decide +kernel, rfl, by decide, rfl⟩
theorem a15_363 : AtI jdk_2529_method_4_code 363 (.aload_n 1) 1 364 := ⟨by decide +kernel, rfl⟩
theorem a15_364 : AtI jdk_2529_method_4_code 364 (.iload 10) 2 366 := ⟨by decide +kernel, rfl⟩
theorem a15_366 : AtI jdk_2529_method_4_code 366 (.aload_n 1) 1 367 := ⟨by decide +kernel, rfl⟩
theorem a15_367 : AtI jdk_2529_method_4_code 367 (.iload 11) 2 369 := ⟨by decide +kernel, rfl⟩
theorem a15_369 : AtI jdk_2529_method_4_code 369 (.iaload) 1 370 := ⟨by decide +kernel, rfl⟩
theorem a15_370 : AtI jdk_2529_method_4_code 370 (.iastore) 1 371 := ⟨by decide +kernel, rfl⟩
theorem a15_371 : AtI jdk_2529_method_4_code 371 (.aload_n 1) 1 372 := ⟨by decide +kernel, rfl⟩
theorem a15_372 : AtI jdk_2529_method_4_code 372 (.iload 11) 2 374 := ⟨by decide +kernel, rfl⟩
theorem a15_374 : AtI jdk_2529_method_4_code 374 (.iload 13) 2 376 := ⟨by decide +kernel, rfl⟩
theorem a15_376 : AtI jdk_2529_method_4_code 376 (.iastore) 1 377 := ⟨by decide +kernel, rfl⟩
theorem a15_377 : AtJ jdk_2529_method_4_code 377 (.goto) 380 437 := ⟨60, by decide +kernel, rfl, by decide, rfl⟩
theorem a15_380 : AtI jdk_2529_method_4_code 380 (.iload 13) 2 382 := ⟨by decide +kernel, rfl⟩
theorem a15_382 : AtI jdk_2529_method_4_code 382 (.aload_n 1) 1 383 := ⟨by decide +kernel, rfl⟩
theorem a15_383 : AtI jdk_2529_method_4_code 383 (.iload 12) 2 385 := ⟨by decide +kernel, rfl⟩
theorem a15_385 : AtI jdk_2529_method_4_code 385 (.iaload) 1 386 := ⟨by decide +kernel, rfl⟩
theorem a15_386 : AtJ jdk_2529_method_4_code 386 (.if_icmp .le) 389 437 := ⟨51, by decide +kernel, rfl, by decide, rfl⟩
theorem a15_389 : AtI jdk_2529_method_4_code 389 (.iload 13) 2 391 := ⟨by decide +kernel, rfl⟩
theorem a15_391 : AtI jdk_2529_method_4_code 391 (.aload_n 1) 1 392 := ⟨by decide +kernel, rfl⟩
theorem a15_392 : AtI jdk_2529_method_4_code 392 (.iload 9) 2 394 := ⟨by decide +kernel, rfl⟩
theorem a15_394 : AtI jdk_2529_method_4_code 394 (.iaload) 1 395 := ⟨by decide +kernel, rfl⟩
theorem a15_395 : AtJ jdk_2529_method_4_code 395 (.if_icmp .le) 398 423 := ⟨28, by decide +kernel, rfl, by decide, rfl⟩
theorem a15_398 : AtI jdk_2529_method_4_code 398 (.aload_n 1) 1 399 := ⟨by decide +kernel, rfl⟩
theorem a15_399 : AtI jdk_2529_method_4_code 399 (.iload 10) 2 401 := ⟨by decide +kernel, rfl⟩
theorem a15_401 : AtI jdk_2529_method_4_code 401 (.aload_n 1) 1 402 := ⟨by decide +kernel, rfl⟩
theorem a15_402 : AtI jdk_2529_method_4_code 402 (.iload 12) 2 404 := ⟨by decide +kernel, rfl⟩
theorem a15_404 : AtI jdk_2529_method_4_code 404 (.iaload) 1 405 := ⟨by decide +kernel, rfl⟩
theorem a15_405 : AtI jdk_2529_method_4_code 405 (.iastore) 1 406 := ⟨by decide +kernel, rfl⟩
theorem a15_406 : AtI jdk_2529_method_4_code 406 (.aload_n 1) 1 407 := ⟨by decide +kernel, rfl⟩
theorem a15_407 : AtI jdk_2529_method_4_code 407 (.iload 12) 2 409 := ⟨by decide +kernel, rfl⟩
theorem a15_409 : AtI jdk_2529_method_4_code 409 (.aload_n 1) 1 410 := ⟨by decide +kernel, rfl⟩
theorem a15_410 : AtI jdk_2529_method_4_code 410 (.iload 9) 2 412 := ⟨by decide +kernel, rfl⟩
theorem a15_412 : AtI jdk_2529_method_4_code 412 (.iaload) 1 413 := ⟨by decide +kernel, rfl⟩
theorem a15_413 : AtI jdk_2529_method_4_code 413 (.iastore) 1 414 := ⟨by decide +kernel, rfl⟩
theorem a15_414 : AtI jdk_2529_method_4_code 414 (.aload_n 1) 1 415 := ⟨by decide +kernel, rfl⟩
theorem a15_415 : AtI jdk_2529_method_4_code 415 (.iload 9) 2 417 := ⟨by decide +kernel, rfl⟩
theorem a15_417 : AtI jdk_2529_method_4_code 417 (.iload 13) 2 419 := ⟨by decide +kernel, rfl⟩
theorem a15_419 : AtI jdk_2529_method_4_code 419 (.iastore) 1 420 := ⟨by decide +kernel, rfl⟩
theorem a15_420 : AtJ jdk_2529_method_4_code 420 (.goto) 423 437 := ⟨17, by decide +kernel, rfl, by decide, rfl⟩
theorem a15_423 : AtI jdk_2529_method_4_code 423 (.aload_n 1) 1 424 := ⟨by decide +kernel, rfl⟩
theorem a15_424 : AtI jdk_2529_method_4_code 424 (.iload 10) 2 426 := ⟨by decide +kernel, rfl⟩
theorem a15_426 : AtI jdk_2529_method_4_code 426 (.aload_n 1) 1 427 := ⟨by decide +kernel, rfl⟩
theorem a15_427 : AtI jdk_2529_method_4_code 427 (.iload 12) 2 429 := ⟨by decide +kernel, rfl⟩
theorem a15_429 : AtI jdk_2529_method_4_code 429 (.iaload) 1 430 := ⟨by decide +kernel, rfl⟩
theorem a15_430 : AtI jdk_2529_method_4_code 430 (.iastore) 1 431 := ⟨by decide +kernel, rfl⟩
theorem a15_431 : AtI jdk_2529_method_4_code 431 (.aload_n 1) 1 432 := ⟨by decide +kernel, rfl⟩
theorem a15_432 : AtI jdk_2529_method_4_code 432 (.iload 12) 2 434 := ⟨by decide +kernel, rfl⟩
theorem a15_434 : AtI jdk_2529_method_4_code 434 (.iload 13) 2 436 := ⟨by decide +kernel, rfl⟩
theorem a15_436 : AtI jdk_2529_method_4_code 436 (.iastore) 1 437 := ⟨by decide +kernel, rfl⟩
theorem a15_437 : AtI jdk_2529_method_4_code 437 (.iload_n 3) 1 438 := ⟨by decide +kernel, rfl⟩
theorem a15_438 : AtI jdk_2529_method_4_code 438 (.istore 14) 2 440 := ⟨by decide +kernel, rfl⟩
theorem a15_440 : AtI jdk_2529_method_4_code 440 (.iload 5) 2 442 := ⟨by decide +kernel, rfl⟩
theorem a15_442 : AtI jdk_2529_method_4_code 442 (.istore 15) 2 444 := ⟨by decide +kernel, rfl⟩
theorem a15_444 : AtI jdk_2529_method_4_code 444 (.aload_n 1) 1 445 := ⟨by decide +kernel, rfl⟩
theorem a15_445 : AtI jdk_2529_method_4_code 445 (.iload 8) 2 447 := ⟨by decide +kernel, rfl⟩
theorem a15_447 : AtI jdk_2529_method_4_code 447 (.iaload) 1 448 := ⟨by decide +kernel, rfl⟩
theorem a15_448 : AtI jdk_2529_method_4_code 448 (.aload_n 1) 1 449 := ⟨by decide +kernel, rfl⟩
theorem a15_449 : AtI jdk_2529_method_4_code 449 (.iload 11) 2 451 := ⟨by decide +kernel, rfl⟩
theorem a15_451 : AtI jdk_2529_method_4_code 451 (.iaload) 1 452 := ⟨by decide +kernel, rfl⟩
theorem a15_452 : AtJ jdk_2529_method_4_code 452 (.if_icmp .ge) 455 776 := ⟨324, by decide +kernel, rfl, by decide, rfl⟩
theorem a15_455 : AtI jdk_2529_method_4_code 455 (.aload_n 1) 1 456 := ⟨by decide +kernel, rfl⟩
theorem a15_456 : AtI jdk_2529_method_4_code 456 (.iload 11) 2 458 := ⟨by decide +kernel, rfl⟩
theorem a15_458 : AtI jdk_2529_method_4_code 458 (.iaload) 1 459 := ⟨by decide +kernel, rfl⟩
theorem a15_459 : AtI jdk_2529_method_4_code 459 (.aload_n 1) 1 460 := ⟨by decide +kernel, rfl⟩
theorem a15_460 : AtI jdk_2529_method_4_code 460 (.iload 10) 2 462 := ⟨by decide +kernel, rfl⟩
theorem a15_462 : AtI jdk_2529_method_4_code 462 (.iaload) 1 463 := ⟨by decide +kernel, rfl⟩
theorem a15_463 : AtJ jdk_2529_method_4_code 463 (.if_icmp .ge) 466 776 := ⟨313, by decide +kernel, rfl, by decide, rfl⟩
theorem a15_466 : AtI jdk_2529_method_4_code 466 (.aload_n 1) 1 467 := ⟨by decide +kernel, rfl⟩
theorem a15_467 : AtI jdk_2529_method_4_code 467 (.iload 10) 2 469 := ⟨by decide +kernel, rfl⟩
theorem a15_469 : AtI jdk_2529_method_4_code 469 (.iaload) 1 470 := ⟨by decide +kernel, rfl⟩
theorem a15_470 : AtI jdk_2529_method_4_code 470 (.aload_n 1) 1 471 := ⟨by decide +kernel, rfl⟩
theorem a15_471 : AtI jdk_2529_method_4_code 471 (.iload 12) 2 473 := ⟨by decide +kernel, rfl⟩
theorem a15_473 : AtI jdk_2529_method_4_code 473 (.iaload) 1 474 := ⟨by decide +kernel, rfl⟩
theorem a15_474 : AtJ jdk_2529_method_4_code 474 (.if_icmp .ge) 477 776 := ⟨302, by decide +kernel, rfl, by decide, rfl⟩
theorem a15_477 : AtI jdk_2529_method_4_code 477 (.aload_n 1) 1 478 := ⟨by decide +kernel, rfl⟩
theorem a15_478 : AtI jdk_2529_method_4_code 478 (.iload 12) 2 480 := ⟨by decide +kernel, rfl⟩
theorem a15_480 : AtI jdk_2529_method_4_code 480 (.iaload) 1 481 := ⟨by decide +kernel, rfl⟩
theorem a15_481 : AtI jdk_2529_method_4_code 481 (.aload_n 1) 1 482 := ⟨by decide +kernel, rfl⟩
theorem a15_482 : AtI jdk_2529_method_4_code 482 (.iload 9) 2 484 := ⟨by decide +kernel, rfl⟩
theorem a15_484 : AtI jdk_2529_method_4_code 484 (.iaload) 1 485 := ⟨by decide +kernel, rfl⟩
theorem a15_485 : AtJ jdk_2529_method_4_code 485 (.if_icmp .ge) 488 776 := ⟨291, by decide +kernel, rfl, by decide, rfl⟩
theorem a15_488 : AtI jdk_2529_method_4_code 488 (.aload_n 1) 1 489 := ⟨by decide +kernel, rfl⟩
theorem a15_489 : AtI jdk_2529_method_4_code 489 (.iload 8) 2 491 := ⟨by decide +kernel, rfl⟩
theorem a15_491 : AtI jdk_2529_method_4_code 491 (.iaload) 1 492 := ⟨by decide +kernel, rfl⟩
theorem a15_492 : AtI jdk_2529_method_4_code 492 (.istore 16) 2 494 := ⟨by decide +kernel, rfl⟩
theorem a15_494 : AtI jdk_2529_method_4_code 494 (.aload_n 1) 1 495 := ⟨by decide +kernel, rfl⟩
theorem a15_495 : AtI jdk_2529_method_4_code 495 (.iload 9) 2 497 := ⟨by decide +kernel, rfl⟩
theorem a15_497 : AtI jdk_2529_method_4_code 497 (.iaload) 1 498 := ⟨by decide +kernel, rfl⟩
theorem a15_498 : AtI jdk_2529_method_4_code 498 (.istore 17) 2 500 := ⟨by decide +kernel, rfl⟩
theorem a15_500 : AtI jdk_2529_method_4_code 500 (.aload_n 1) 1 501 := ⟨by decide +kernel, rfl⟩
theorem a15_501 : AtI jdk_2529_method_4_code 501 (.iload 8) 2 503 := ⟨by decide +kernel, rfl⟩
theorem a15_503 : AtI jdk_2529_method_4_code 503 (.aload_n 1) 1 504 := ⟨by decide +kernel, rfl⟩
theorem a15_504 : AtI jdk_2529_method_4_code 504 (.iload 14) 2 506 := ⟨by decide +kernel, rfl⟩
theorem a15_506 : AtI jdk_2529_method_4_code 506 (.iaload) 1 507 := ⟨by decide +kernel, rfl⟩
theorem a15_507 : AtI jdk_2529_method_4_code 507 (.iastore) 1 508 := ⟨by decide +kernel, rfl⟩
theorem a15_508 : AtI jdk_2529_method_4_code 508 (.aload_n 1) 1 509 := ⟨by decide +kernel, rfl⟩
theorem a15_509 : AtI jdk_2529_method_4_code 509 (.iload 9) 2 511 := ⟨by decide +kernel, rfl⟩
theorem a15_511 : AtI jdk_2529_method_4_code 511 (.aload_n 1) 1 512 := ⟨by decide +kernel, rfl⟩
theorem a15_512 : AtI jdk_2529_method_4_code 512 (.iload 15) 2 514 := ⟨by decide +kernel, rfl⟩
theorem a15_514 : AtI jdk_2529_method_4_code 514 (.iaload) 1 515 := ⟨by decide +kernel, rfl⟩
theorem a15_515 : AtI jdk_2529_method_4_code 515 (.iastore) 1 516 := ⟨by decide +kernel, rfl⟩
theorem a15_516 : AtI jdk_2529_method_4_code 516 (.aload_n 1) 1 517 := ⟨by decide +kernel, rfl⟩
theorem a15_517 : AtI jdk_2529_method_4_code 517 (.iinc 14 1) 3 520 := ⟨by decide +kernel, rfl⟩
theorem a15_520 : AtI jdk_2529_method_4_code 520 (.iload 14) 2 522 := ⟨by decide +kernel, rfl⟩
theorem a15_522 : AtI jdk_2529_method_4_code 522 (.iaload) 1 523 := ⟨by decide +kernel, rfl⟩
theorem a15_523 : AtI jdk_2529_method_4_code 523 (.iload 16) 2 525 := ⟨by decide +kernel, rfl⟩
theorem a15_525 : AtJ jdk_2529_method_4_code 525 (.if_icmp .ge) 528 531 := ⟨6, by decide +kernel, rfl, by decide, rfl⟩
theorem a15_528 : AtJ jdk_2529_method_4_code 528 (.goto) 531 516 := ⟨(-12), by decide +kernel, rfl, by decide, rfl⟩
theorem a15_531 : AtI jdk_2529_method_4_code 531 (.aload_n 1) 1 532 := ⟨by decide +kernel, rfl⟩
theorem a15_532 : AtI jdk_2529_method_4_code 532 (.iinc 15 (-1)) 3 535 := ⟨by decide +kernel, rfl⟩
theorem a15_535 : AtI jdk_2529_method_4_code 535 (.iload 15) 2 537 := ⟨by decide +kernel, rfl⟩
theorem a15_537 : AtI jdk_2529_method_4_code 537 (.iaload) 1 538 := ⟨by decide +kernel, rfl⟩
theorem a15_538 : AtI jdk_2529_method_4_code 538 (.iload 17) 2 540 := ⟨by decide +kernel, rfl⟩
theorem a15_540 : AtJ jdk_2529_method_4_code 540 (.if_icmp .le) 543 546 := ⟨6, by decide +kernel, rfl, by decide, rfl⟩
theorem a15_543 : AtJ jdk_2529_method_4_code 543 (.goto) 546 531 := ⟨(-12), by decide +kernel, rfl, by decide, rfl⟩
theorem a15_546 : AtI jdk_2529_method_4_code 546 (.iinc 14 (-1)) 3 549 := ⟨by decide +kernel, rfl⟩
theorem a15_549 : AtI jdk_2529_method_4_code 549 (.iload 14) 2 551 := ⟨by decide +kernel, rfl⟩
theorem a15_551 : AtI jdk_2529_method_4_code 551 (.istore 18) 2 553 := ⟨by decide +kernel, rfl⟩
theorem a15_553 : AtI jdk_2529_method_4_code 553 (.iinc 15 1) 3 556 := ⟨by decide +kernel, rfl⟩
theorem a15_556 : AtI jdk_2529_method_4_code 556 (.iload 15) 2 558 := ⟨by decide +kernel, rfl⟩
theorem a15_558 : AtI jdk_2529_method_4_code 558 (.istore 19) 2 560 := ⟨by decide +kernel, rfl⟩
theorem a15_560 : AtI jdk_2529_method_4_code 560 (.iinc 19 (-1)) 3 563 := ⟨by decide +kernel, rfl⟩
theorem a15_563 : AtI jdk_2529_method_4_code 563 (.iload 19) 2 565 := ⟨by decide +kernel, rfl⟩
theorem a15_565 : AtI jdk_2529_method_4_code 565 (.iload 14) 2 567 := ⟨by decide +kernel, rfl⟩
theorem a15_567 : AtJ jdk_2529_method_4_code 567 (.if_icmp .le) 570 677 := ⟨110, by decide +kernel, rfl, by decide, rfl⟩
theorem a15_570 : AtI jdk_2529_method_4_code 570 (.aload_n 1) 1 571 := ⟨by decide +kernel, rfl⟩
theorem a15_571 : AtI jdk_2529_method_4_code 571 (.iload 19) 2 573 := ⟨by decide +kernel, rfl⟩
theorem a15_573 : AtI jdk_2529_method_4_code 573 (.iaload) 1 574 := ⟨by decide +kernel, rfl⟩
theorem a15_574 : AtI jdk_2529_method_4_code 574 (.istore 20) 2 576 := ⟨by decide +kernel, rfl⟩
theorem a15_576 : AtI jdk_2529_method_4_code 576 (.iload 20) 2 578 := ⟨by decide +kernel, rfl⟩
theorem a15_578 : AtI jdk_2529_method_4_code 578 (.iload 16) 2 580 := ⟨by decide +kernel, rfl⟩
theorem a15_580 : AtJ jdk_2529_method_4_code 580 (.if_icmp .ge) 583 650 := ⟨70, by decide +kernel, rfl, by decide, rfl⟩
theorem a15_583 : AtI jdk_2529_method_4_code 583 (.iload 14) 2 585 := ⟨by decide +kernel, rfl⟩
theorem a15_585 : AtI jdk_2529_method_4_code 585 (.iload 19) 2 587 := ⟨by decide +kernel, rfl⟩
theorem a15_587 : AtJ jdk_2529_method_4_code 587 (.if_icmp .ge) 590 674 := ⟨87, by decide +kernel, rfl, by decide, rfl⟩
theorem a15_590 : AtI jdk_2529_method_4_code 590 (.aload_n 1) 1 591 := ⟨by decide +kernel, rfl⟩
theorem a15_591 : AtI jdk_2529_method_4_code 591 (.iinc 14 1) 3 594 := ⟨by decide +kernel, rfl⟩
theorem a15_594 : AtI jdk_2529_method_4_code 594 (.iload 14) 2 596 := ⟨by decide +kernel, rfl⟩
theorem a15_596 : AtI jdk_2529_method_4_code 596 (.iaload) 1 597 := ⟨by decide +kernel, rfl⟩
theorem a15_597 : AtI jdk_2529_method_4_code 597 (.iload 16) 2 599 := ⟨by decide +kernel, rfl⟩
theorem a15_599 : AtJ jdk_2529_method_4_code 599 (.if_icmp .lt) 602 583 := ⟨(-16), by decide +kernel, rfl, by decide, rfl⟩
theorem a15_602 : AtI jdk_2529_method_4_code 602 (.aload_n 1) 1 603 := ⟨by decide +kernel, rfl⟩
theorem a15_603 : AtI jdk_2529_method_4_code 603 (.iload 14) 2 605 := ⟨by decide +kernel, rfl⟩
theorem a15_605 : AtI jdk_2529_method_4_code 605 (.iaload) 1 606 := ⟨by decide +kernel, rfl⟩
theorem a15_606 : AtI jdk_2529_method_4_code 606 (.iload 17) 2 608 := ⟨by decide +kernel, rfl⟩
theorem a15_608 : AtJ jdk_2529_method_4_code 608 (.if_icmp .le) 611 633 := ⟨25, by decide +kernel, rfl, by decide, rfl⟩
theorem a15_611 : AtI jdk_2529_method_4_code 611 (.aload_n 1) 1 612 := ⟨by decide +kernel, rfl⟩
theorem a15_612 : AtI jdk_2529_method_4_code 612 (.iload 19) 2 614 := ⟨by decide +kernel, rfl⟩
theorem a15_614 : AtI jdk_2529_method_4_code 614 (.aload_n 1) 1 615 := ⟨by decide +kernel, rfl⟩
theorem a15_615 : AtI jdk_2529_method_4_code 615 (.iinc 15 (-1)) 3 618 := ⟨by decide +kernel, rfl⟩
theorem a15_618 : AtI jdk_2529_method_4_code 618 (.iload 15) 2 620 := ⟨by decide +kernel, rfl⟩
theorem a15_620 : AtI jdk_2529_method_4_code 620 (.iaload) 1 621 := ⟨by decide +kernel, rfl⟩
theorem a15_621 : AtI jdk_2529_method_4_code 621 (.iastore) 1 622 := ⟨by decide +kernel, rfl⟩
theorem a15_622 : AtI jdk_2529_method_4_code 622 (.aload_n 1) 1 623 := ⟨by decide +kernel, rfl⟩
theorem a15_623 : AtI jdk_2529_method_4_code 623 (.iload 15) 2 625 := ⟨by decide +kernel, rfl⟩
theorem a15_625 : AtI jdk_2529_method_4_code 625 (.aload_n 1) 1 626 := ⟨by decide +kernel, rfl⟩
theorem a15_626 : AtI jdk_2529_method_4_code 626 (.iload 14) 2 628 := ⟨by decide +kernel, rfl⟩
theorem a15_628 : AtI jdk_2529_method_4_code 628 (.iaload) 1 629 := ⟨by decide +kernel, rfl⟩
theorem a15_629 : AtI jdk_2529_method_4_code 629 (.iastore) 1 630 := ⟨by decide +kernel, rfl⟩
theorem a15_630 : AtJ jdk_2529_method_4_code 630 (.goto) 633 641 := ⟨11, by decide +kernel, rfl, by decide, rfl⟩
theorem a15_633 : AtI jdk_2529_method_4_code 633 (.aload_n 1) 1 634 := ⟨by decide +kernel, rfl⟩
theorem a15_634 : AtI jdk_2529_method_4_code 634 (.iload 19) 2 636 := ⟨by decide +kernel, rfl⟩
theorem a15_636 : AtI jdk_2529_method_4_code 636 (.aload_n 1) 1 637 := ⟨by decide +kernel, rfl⟩
theorem a15_637 : AtI jdk_2529_method_4_code 637 (.iload 14) 2 639 := ⟨by decide +kernel, rfl⟩
theorem a15_639 : AtI jdk_2529_method_4_code 639 (.iaload) 1 640 := ⟨by decide +kernel, rfl⟩
theorem a15_640 : AtI jdk_2529_method_4_code 640 (.iastore) 1 641 := ⟨by decide +kernel, rfl⟩
theorem a15_641 : AtI jdk_2529_method_4_code 641 (.aload_n 1) 1 642 := ⟨by decide +kernel, rfl⟩
theorem a15_642 : AtI jdk_2529_method_4_code 642 (.iload 14) 2 644 := ⟨by decide +kernel, rfl⟩
theorem a15_644 : AtI jdk_2529_method_4_code 644 (.iload 20) 2 646 := ⟨by decide +kernel, rfl⟩
theorem a15_646 : AtI jdk_2529_method_4_code 646 (.iastore) 1 647 := ⟨by decide +kernel, rfl⟩
theorem a15_647 : AtJ jdk_2529_method_4_code 647 (.goto) 650 674 := ⟨27, by decide +kernel, rfl, by decide, rfl⟩
theorem a15_650 : AtI jdk_2529_method_4_code 650 (.iload 20) 2 652 := ⟨by decide +kernel, rfl⟩
theorem a15_652 : AtI jdk_2529_method_4_code 652 (.iload 17) 2 654 := ⟨by decide +kernel, rfl⟩
theorem a15_654 : AtJ jdk_2529_method_4_code 654 (.if_icmp .le) 657 674 := ⟨20, by decide +kernel, rfl, by decide, rfl⟩
theorem a15_657 : AtI jdk_2529_method_4_code 657 (.aload_n 1) 1 658 := ⟨by decide +kernel, rfl⟩
theorem a15_658 : AtI jdk_2529_method_4_code 658 (.iload 19) 2 660 := ⟨by decide +kernel, rfl⟩
theorem a15_660 : AtI jdk_2529_method_4_code 660 (.aload_n 1) 1 661 := ⟨by decide +kernel, rfl⟩
theorem a15_661 : AtI jdk_2529_method_4_code 661 (.iinc 15 (-1)) 3 664 := ⟨by decide +kernel, rfl⟩
theorem a15_664 : AtI jdk_2529_method_4_code 664 (.iload 15) 2 666 := ⟨by decide +kernel, rfl⟩
theorem a15_666 : AtI jdk_2529_method_4_code 666 (.iaload) 1 667 := ⟨by decide +kernel, rfl⟩
theorem a15_667 : AtI jdk_2529_method_4_code 667 (.iastore) 1 668 := ⟨by decide +kernel, rfl⟩
theorem a15_668 : AtI jdk_2529_method_4_code 668 (.aload_n 1) 1 669 := ⟨by decide +kernel, rfl⟩
theorem a15_669 : AtI jdk_2529_method_4_code 669 (.iload 15) 2 671 := ⟨by decide +kernel, rfl⟩
theorem a15_671 : AtI jdk_2529_method_4_code 671 (.iload 20) 2 673 := ⟨by decide +kernel, rfl⟩
theorem a15_673 : AtI jdk_2529_method_4_code 673 (.iastore) 1 674 := ⟨by decide +kernel, rfl⟩
theorem a15_674 : AtJ jdk_2529_method_4_code 674 (.goto) 677 560 := ⟨(-114), by decide +kernel, rfl, by decide, rfl⟩
theorem a15_677 : AtI jdk_2529_method_4_code 677 (.aload_n 1) 1 678 := ⟨by decide +kernel, rfl⟩
theorem a15_678 : AtI jdk_2529_method_4_code 678 (.iload_n 3) 1 679 := ⟨by decide +kernel, rfl⟩
theorem a15_679 : AtI jdk_2529_method_4_code 679 (.aload_n 1) 1 680 := ⟨by decide +kernel, rfl⟩
theorem a15_680 : AtI jdk_2529_method_4_code 680 (.iload 14) 2 682 := ⟨by decide +kernel, rfl⟩
theorem a15_682 : AtI jdk_2529_method_4_code 682 (.iaload) 1 683 := ⟨by decide +kernel, rfl⟩
theorem a15_683 : AtI jdk_2529_method_4_code 683 (.iastore) 1 684 := ⟨by decide +kernel, rfl⟩
theorem a15_684 : AtI jdk_2529_method_4_code 684 (.aload_n 1) 1 685 := ⟨by decide +kernel, rfl⟩
theorem a15_685 : AtI jdk_2529_method_4_code 685 (.iload 14) 2 687 := ⟨by decide +kernel, rfl⟩
theorem a15_687 : AtI jdk_2529_method_4_code 687 (.iload 16) 2 689 := ⟨by decide +kernel, rfl⟩
theorem a15_689 : AtI jdk_2529_method_4_code 689 (.iastore) 1 690 := ⟨by decide +kernel, rfl⟩
theorem a15_690 : AtI jdk_2529_method_4_code 690 (.aload_n 1) 1 691 := ⟨by decide +kernel, rfl⟩
theorem a15_691 : AtI jdk_2529_method_4_code 691 (.iload 5) 2 693 := ⟨by decide +kernel, rfl⟩
theorem a15_693 : AtI jdk_2529_method_4_code 693 (.aload_n 1) 1 694 := ⟨by decide +kernel, rfl⟩
theorem a15_694 : AtI jdk_2529_method_4_code 694 (.iload 15) 2 696 := ⟨by decide +kernel, rfl⟩
theorem a15_696 : AtI jdk_2529_method_4_code 696 (.iaload) 1 697 := ⟨by decide +kernel, rfl⟩
theorem a15_697 : AtI jdk_2529_method_4_code 697 (.iastore) 1 698 := ⟨by decide +kernel, rfl⟩
theorem a15_698 : AtI jdk_2529_method_4_code 698 (.aload_n 1) 1 699 := ⟨by decide +kernel, rfl⟩
theorem a15_699 : AtI jdk_2529_method_4_code 699 (.iload 15) 2 701 := ⟨by decide +kernel, rfl⟩
theorem a15_701 : AtI jdk_2529_method_4_code 701 (.iload 17) 2 703 := ⟨by decide +kernel, rfl⟩
theorem a15_703 : AtI jdk_2529_method_4_code 703 (.iastore) 1 704 := ⟨by decide +kernel, rfl⟩
theorem a15_704 : AtI jdk_2529_method_4_code 704 (.iload 6) 2 706 := ⟨by decide +kernel, rfl⟩
theorem a15_706 : AtI jdk_2529_method_4_code 706 (.sipush 4096) 3 709 := ⟨by decide +kernel, rfl⟩
theorem a15_709 : AtJ jdk_2529_method_4_code 709 (.if_icmp .le) 712 745 := ⟨36, by decide +kernel, rfl, by decide, rfl⟩
theorem a15_712 : AtI jdk_2529_method_4_code 712 (.aload_n 0) 1 713 := ⟨by decide +kernel, rfl⟩
theorem a15_713 : AtJ jdk_2529_method_4_code 713 (.ifnull) 716 745 := ⟨32, by decide +kernel, rfl, by decide, rfl⟩
theorem a15_716 : AtI jdk_2529_method_4_code 716 (.aload_n 0) 1 717 := ⟨by decide +kernel, rfl⟩
theorem a15_717 : AtI jdk_2529_method_4_code 717 (.iload_n 2) 1 718 := ⟨by decide +kernel, rfl⟩
theorem a15_718 : AtI jdk_2529_method_4_code 718 (.iconst 1) 1 719 := ⟨by decide +kernel, rfl⟩
theorem a15_719 : AtI jdk_2529_method_4_code 719 (.ior) 1 720 := ⟨by decide +kernel, rfl⟩
theorem a15_720 : AtI jdk_2529_method_4_code 720 (.iload 14) 2 722 := ⟨by decide +kernel, rfl⟩
theorem a15_722 : AtI jdk_2529_method_4_code 722 (.iconst 1) 1 723 := ⟨by decide +kernel, rfl⟩
theorem a15_723 : AtI jdk_2529_method_4_code 723 (.iadd) 1 724 := ⟨by decide +kernel, rfl⟩
theorem a15_724 : AtI jdk_2529_method_4_code 724 (.iload 15) 2 726 := ⟨by decide +kernel, rfl⟩
theorem a15_726 : AtI jdk_2529_method_4_code 726 (.invokevirtual 45) 3 729 := ⟨by decide +kernel, rfl⟩
theorem a15_745 : AtI jdk_2529_method_4_code 745 (.aload_n 0) 1 746 := ⟨by decide +kernel, rfl⟩
theorem a15_746 : AtI jdk_2529_method_4_code 746 (.aload_n 1) 1 747 := ⟨by decide +kernel, rfl⟩
theorem a15_747 : AtI jdk_2529_method_4_code 747 (.iload_n 2) 1 748 := ⟨by decide +kernel, rfl⟩
theorem a15_748 : AtI jdk_2529_method_4_code 748 (.iconst 1) 1 749 := ⟨by decide +kernel, rfl⟩
theorem a15_749 : AtI jdk_2529_method_4_code 749 (.ior) 1 750 := ⟨by decide +kernel, rfl⟩
theorem a15_750 : AtI jdk_2529_method_4_code 750 (.iload 14) 2 752 := ⟨by decide +kernel, rfl⟩
theorem a15_752 : AtI jdk_2529_method_4_code 752 (.iconst 1) 1 753 := ⟨by decide +kernel, rfl⟩
theorem a15_753 : AtI jdk_2529_method_4_code 753 (.iadd) 1 754 := ⟨by decide +kernel, rfl⟩
theorem a15_754 : AtI jdk_2529_method_4_code 754 (.iload 15) 2 756 := ⟨by decide +kernel, rfl⟩
theorem a15_756 : AtI jdk_2529_method_4_code 756 (.invokestatic 26) 3 759 := ⟨by decide +kernel, rfl⟩
theorem a15_759 : AtI jdk_2529_method_4_code 759 (.aload_n 0) 1 760 := ⟨by decide +kernel, rfl⟩
theorem a15_760 : AtI jdk_2529_method_4_code 760 (.aload_n 1) 1 761 := ⟨by decide +kernel, rfl⟩
theorem a15_761 : AtI jdk_2529_method_4_code 761 (.iload_n 2) 1 762 := ⟨by decide +kernel, rfl⟩
theorem a15_762 : AtI jdk_2529_method_4_code 762 (.iconst 1) 1 763 := ⟨by decide +kernel, rfl⟩
theorem a15_763 : AtI jdk_2529_method_4_code 763 (.ior) 1 764 := ⟨by decide +kernel, rfl⟩
theorem a15_764 : AtI jdk_2529_method_4_code 764 (.iload 15) 2 766 := ⟨by decide +kernel, rfl⟩
theorem a15_766 : AtI jdk_2529_method_4_code 766 (.iconst 1) 1 767 := ⟨by decide +kernel, rfl⟩
theorem a15_767 : AtI jdk_2529_method_4_code 767 (.iadd) 1 768 := ⟨by decide +kernel, rfl⟩
theorem a15_768 : AtI jdk_2529_method_4_code 768 (.iload 4) 2 770 := ⟨by decide +kernel, rfl⟩
theorem a15_770 : AtI jdk_2529_method_4_code 770 (.invokestatic 26) 3 773 := ⟨by decide +kernel, rfl⟩
theorem a15_773 : AtJ jdk_2529_method_4_code 773 (.goto) 776 940 := ⟨167, by decide +kernel, rfl, by decide, rfl⟩
theorem a15_776 : AtI jdk_2529_method_4_code 776 (.aload_n 1) 1 777 := ⟨by decide +kernel, rfl⟩
theorem a15_777 : AtI jdk_2529_method_4_code 777 (.iload 10) 2 779 := ⟨by decide +kernel, rfl⟩
theorem a15_779 : AtI jdk_2529_method_4_code 779 (.iaload) 1 780 := ⟨by decide +kernel, rfl⟩
theorem a15_780 : AtI jdk_2529_method_4_code 780 (.istore 16) 2 782 := ⟨by decide +kernel, rfl⟩
theorem a15_782 : AtI jdk_2529_method_4_code 782 (.aload_n 1) 1 783 := ⟨by decide +kernel, rfl⟩
theorem a15_783 : AtI jdk_2529_method_4_code 783 (.iload 10) 2 785 := ⟨by decide +kernel, rfl⟩
theorem a15_785 : AtI jdk_2529_method_4_code 785 (.aload_n 1) 1 786 := ⟨by decide +kernel, rfl⟩
theorem a15_786 : AtI jdk_2529_method_4_code 786 (.iload 14) 2 788 := ⟨by decide +kernel, rfl⟩
theorem a15_788 : AtI jdk_2529_method_4_code 788 (.iaload) 1 789 := ⟨by decide +kernel, rfl⟩
theorem a15_789 : AtI jdk_2529_method_4_code 789 (.iastore) 1 790 := ⟨by decide +kernel, rfl⟩
theorem a15_790 : AtI jdk_2529_method_4_code 790 (.iinc 15 1) 3 793 := ⟨by decide +kernel, rfl⟩
theorem a15_793 : AtI jdk_2529_method_4_code 793 (.iload 15) 2 795 := ⟨by decide +kernel, rfl⟩
theorem a15_795 : AtI jdk_2529_method_4_code 795 (.istore 17) 2 797 := ⟨by decide +kernel, rfl⟩
theorem a15_797 : AtI jdk_2529_method_4_code 797 (.iinc 17 (-1)) 3 800 := ⟨by decide +kernel, rfl⟩
theorem a15_800 : AtI jdk_2529_method_4_code 800 (.iload 17) 2 802 := ⟨by decide +kernel, rfl⟩
theorem a15_802 : AtI jdk_2529_method_4_code 802 (.iload 14) 2 804 := ⟨by decide +kernel, rfl⟩
theorem a15_804 : AtJ jdk_2529_method_4_code 804 (.if_icmp .le) 807 889 := ⟨85, by decide +kernel, rfl, by decide, rfl⟩
theorem a15_807 : AtI jdk_2529_method_4_code 807 (.aload_n 1) 1 808 := ⟨by decide +kernel, rfl⟩
theorem a15_808 : AtI jdk_2529_method_4_code 808 (.iload 17) 2 810 := ⟨by decide +kernel, rfl⟩
theorem a15_810 : AtI jdk_2529_method_4_code 810 (.iaload) 1 811 := ⟨by decide +kernel, rfl⟩
theorem a15_811 : AtI jdk_2529_method_4_code 811 (.istore 18) 2 813 := ⟨by decide +kernel, rfl⟩
theorem a15_813 : AtI jdk_2529_method_4_code 813 (.iload 18) 2 815 := ⟨by decide +kernel, rfl⟩
theorem a15_815 : AtI jdk_2529_method_4_code 815 (.iload 16) 2 817 := ⟨by decide +kernel, rfl⟩
theorem a15_817 : AtJ jdk_2529_method_4_code 817 (.if_icmp .eq) 820 886 := ⟨69, by decide +kernel, rfl, by decide, rfl⟩
theorem a15_820 : AtI jdk_2529_method_4_code 820 (.aload_n 1) 1 821 := ⟨by decide +kernel, rfl⟩
theorem a15_821 : AtI jdk_2529_method_4_code 821 (.iload 17) 2 823 := ⟨by decide +kernel, rfl⟩
theorem a15_823 : AtI jdk_2529_method_4_code 823 (.iload 16) 2 825 := ⟨by decide +kernel, rfl⟩
theorem a15_825 : AtI jdk_2529_method_4_code 825 (.iastore) 1 826 := ⟨by decide +kernel, rfl⟩
theorem a15_826 : AtI jdk_2529_method_4_code 826 (.iload 18) 2 828 := ⟨by decide +kernel, rfl⟩
theorem a15_828 : AtI jdk_2529_method_4_code 828 (.iload 16) 2 830 := ⟨by decide +kernel, rfl⟩
theorem a15_830 : AtJ jdk_2529_method_4_code 830 (.if_icmp .ge) 833 877 := ⟨47, by decide +kernel, rfl, by decide, rfl⟩
theorem a15_833 : AtI jdk_2529_method_4_code 833 (.aload_n 1) 1 834 := ⟨by decide +kernel, rfl⟩
theorem a15_834 : AtI jdk_2529_method_4_code 834 (.iinc 14 1) 3 837 := ⟨by decide +kernel, rfl⟩
theorem a15_837 : AtI jdk_2529_method_4_code 837 (.iload 14) 2 839 := ⟨by decide +kernel, rfl⟩
theorem a15_839 : AtI jdk_2529_method_4_code 839 (.iaload) 1 840 := ⟨by decide +kernel, rfl⟩
theorem a15_840 : AtI jdk_2529_method_4_code 840 (.iload 16) 2 842 := ⟨by decide +kernel, rfl⟩
theorem a15_842 : AtJ jdk_2529_method_4_code 842 (.if_icmp .ge) 845 848 := ⟨6, by decide +kernel, rfl, by decide, rfl⟩
theorem a15_845 : AtJ jdk_2529_method_4_code 845 (.goto) 848 833 := ⟨(-12), by decide +kernel, rfl, by decide, rfl⟩
theorem a15_848 : AtI jdk_2529_method_4_code 848 (.aload_n 1) 1 849 := ⟨by decide +kernel, rfl⟩
theorem a15_849 : AtI jdk_2529_method_4_code 849 (.iload 14) 2 851 := ⟨by decide +kernel, rfl⟩
theorem a15_851 : AtI jdk_2529_method_4_code 851 (.iaload) 1 852 := ⟨by decide +kernel, rfl⟩
theorem a15_852 : AtI jdk_2529_method_4_code 852 (.iload 16) 2 854 := ⟨by decide +kernel, rfl⟩
theorem a15_854 : AtJ jdk_2529_method_4_code 854 (.if_icmp .le) 857 868 := ⟨14, by decide +kernel, rfl, by decide, rfl⟩
theorem a15_857 : AtI jdk_2529_method_4_code 857 (.aload_n 1) 1 858 := ⟨by decide +kernel, rfl⟩
theorem a15_858 : AtI jdk_2529_method_4_code 858 (.iinc 15 (-1)) 3 861 := ⟨by decide +kernel, rfl⟩
theorem a15_861 : AtI jdk_2529_method_4_code 861 (.iload 15) 2 863 := ⟨by decide +kernel, rfl⟩
theorem a15_863 : AtI jdk_2529_method_4_code 863 (.aload_n 1) 1 864 := ⟨by decide +kernel, rfl⟩
theorem a15_864 : AtI jdk_2529_method_4_code 864 (.iload 14) 2 866 := ⟨by decide +kernel, rfl⟩
theorem a15_866 : AtI jdk_2529_method_4_code 866 (.iaload) 1 867 := ⟨by decide +kernel, rfl⟩
theorem a15_867 : AtI jdk_2529_method_4_code 867 (.iastore) 1 868 := ⟨by decide +kernel, rfl⟩
theorem a15_868 : AtI jdk_2529_method_4_code 868 (.aload_n 1) 1 869 := ⟨by decide +kernel, rfl⟩
theorem a15_869 : AtI jdk_2529_method_4_code 869 (.iload 14) 2 871 := ⟨by decide +kernel, rfl⟩
theorem a15_871 : AtI jdk_2529_method_4_code 871 (.iload 18) 2 873 := ⟨by decide +kernel, rfl⟩
theorem a15_873 : AtI jdk_2529_method_4_code 873 (.iastore) 1 874 := ⟨by decide +kernel, rfl⟩
theorem a15_874 : AtJ jdk_2529_method_4_code 874 (.goto) 877 886 := ⟨12, by decide +kernel, rfl, by decide, rfl⟩
theorem a15_877 : AtI jdk_2529_method_4_code 877 (.aload_n 1) 1 878 := ⟨by decide +kernel, rfl⟩
theorem a15_878 : AtI jdk_2529_method_4_code 878 (.iinc 15 (-1)) 3 881 := ⟨by decide +kernel, rfl⟩
theorem a15_881 : AtI jdk_2529_method_4_code 881 (.iload 15) 2 883 := ⟨by decide +kernel, rfl⟩
theorem a15_883 : AtI jdk_2529_method_4_code 883 (.iload 18) 2 885 := ⟨by decide +kernel, rfl⟩
theorem a15_885 : AtI jdk_2529_method_4_code 885 (.iastore) 1 886 := ⟨by decide +kernel, rfl⟩
theorem a15_886 : AtJ jdk_2529_method_4_code 886 (.goto) 889 797 := ⟨(-89), by decide +kernel, rfl, by decide, rfl⟩
theorem a15_889 : AtI jdk_2529_method_4_code 889 (.aload_n 1) 1 890 := ⟨by decide +kernel, rfl⟩
theorem a15_890 : AtI jdk_2529_method_4_code 890 (.iload_n 3) 1 891 := ⟨by decide +kernel, rfl⟩
theorem a15_891 : AtI jdk_2529_method_4_code 891 (.aload_n 1) 1 892 := ⟨by decide +kernel, rfl⟩
theorem a15_892 : AtI jdk_2529_method_4_code 892 (.iload 14) 2 894 := ⟨by decide +kernel, rfl⟩
theorem a15_894 : AtI jdk_2529_method_4_code 894 (.iaload) 1 895 := ⟨by decide +kernel, rfl⟩
theorem a15_895 : AtI jdk_2529_method_4_code 895 (.iastore) 1 896 := ⟨by decide +kernel, rfl⟩
theorem a15_896 : AtI jdk_2529_method_4_code 896 (.aload_n 1) 1 897 := ⟨by decide +kernel, rfl⟩
theorem a15_897 : AtI jdk_2529_method_4_code 897 (.iload 14) 2 899 := ⟨by decide +kernel, rfl⟩
theorem a15_899 : AtI jdk_2529_method_4_code 899 (.iload 16) 2 901 := ⟨by decide +kernel, rfl⟩
theorem a15_901 : AtI jdk_2529_method_4_code 901 (.iastore) 1 902 := ⟨by decide +kernel, rfl⟩
theorem a15_902 : AtI jdk_2529_method_4_code 902 (.iload 6) 2 904 := ⟨by decide +kernel, rfl⟩
theorem a15_904 : AtI jdk_2529_method_4_code 904 (.sipush 4096) 3 907 := ⟨by decide +kernel, rfl⟩
theorem a15_907 : AtJ jdk_2529_method_4_code 907 (.if_icmp .le) 910 928 := ⟨21, by decide +kernel, rfl, by decide, rfl⟩
theorem a15_910 : AtI jdk_2529_method_4_code 910 (.aload_n 0) 1 911 := ⟨by decide +kernel, rfl⟩
theorem a15_911 : AtJ jdk_2529_method_4_code 911 (.ifnull) 914 928 := ⟨17, by decide +kernel, rfl, by decide, rfl⟩
theorem a15_914 : AtI jdk_2529_method_4_code 914 (.aload_n 0) 1 915 := ⟨by decide +kernel, rfl⟩
theorem a15_915 : AtI jdk_2529_method_4_code 915 (.iload_n 2) 1 916 := ⟨by decide +kernel, rfl⟩
theorem a15_916 : AtI jdk_2529_method_4_code 916 (.iconst 1) 1 917 := ⟨by decide +kernel, rfl⟩
theorem a15_917 : AtI jdk_2529_method_4_code 917 (.ior) 1 918 := ⟨by decide +kernel, rfl⟩
theorem a15_918 : AtI jdk_2529_method_4_code 918 (.iload 15) 2 920 := ⟨by decide +kernel, rfl⟩
theorem a15_920 : AtI jdk_2529_method_4_code 920 (.iload 4) 2 922 := ⟨by decide +kernel, rfl⟩
theorem a15_922 : AtI jdk_2529_method_4_code 922 (.invokevirtual 45) 3 925 := ⟨by decide +kernel, rfl⟩
theorem a15_928 : AtI jdk_2529_method_4_code 928 (.aload_n 0) 1 929 := ⟨by decide +kernel, rfl⟩
theorem a15_929 : AtI jdk_2529_method_4_code 929 (.aload_n 1) 1 930 := ⟨by decide +kernel, rfl⟩
theorem a15_930 : AtI jdk_2529_method_4_code 930 (.iload_n 2) 1 931 := ⟨by decide +kernel, rfl⟩
theorem a15_931 : AtI jdk_2529_method_4_code 931 (.iconst 1) 1 932 := ⟨by decide +kernel, rfl⟩
theorem a15_932 : AtI jdk_2529_method_4_code 932 (.ior) 1 933 := ⟨by decide +kernel, rfl⟩
theorem a15_933 : AtI jdk_2529_method_4_code 933 (.iload 15) 2 935 := ⟨by decide +kernel, rfl⟩
theorem a15_935 : AtI jdk_2529_method_4_code 935 (.iload 4) 2 937 := ⟨by decide +kernel, rfl⟩
theorem a15_937 : AtI jdk_2529_method_4_code 937 (.invokestatic 26) 3 940 := ⟨by decide +kernel, rfl⟩
theorem a15_940 : AtI jdk_2529_method_4_code 940 (.iload 14) 2 942 := ⟨by decide +kernel, rfl⟩
theorem a15_942 : AtI jdk_2529_method_4_code 942 (.istore 4) 2 944 := ⟨by decide +kernel, rfl⟩
theorem a15_944 : AtJ jdk_2529_method_4_code 944 (.goto) 947 0 := ⟨(-944), by decide +kernel, rfl, by decide, rfl⟩
theorem pd15 : parseMethodDescriptor "(Ljava/util/DualPivotQuicksort$Sorter;[IIII)V" = some ⟨[(.object "java/util/DualPivotQuicksort$Sorter"), (.array .int), .int, .int, .int], none⟩ := by decide +kernel
theorem pl15 : plainFor (⟨"java/util/DualPivotQuicksort", "sort", "(Ljava/util/DualPivotQuicksort$Sorter;[IIII)V"⟩ : MethodName) = true := plainFor_of_name (by first | (simp [plainName, overriddenIn]; done) | decide +kernel)
theorem ok15 {Z : State} {a0 : Array Value} (hw : ∀ d ∈ tables_1, d.before a0 Z = true) (ρ : Nat → Nat) (n0 j0 u0 : Nat) : WCallee Z a0 (⟨"java/util/DualPivotQuicksort", "sort", "(Ljava/util/DualPivotQuicksort$Sorter;[IIII)V"⟩ : MethodName) (g15 Z ρ n0 j0 u0) 5 :=
  ⟨pl15, (by decide), rfl, rfl, rfl, (wd hw 86 rfl), (wd hw 90 rfl), fun sig h => by cases pd15.symm.trans h; rfl⟩
abbrev g14 (Z : State) (ρ : Nat → Nat) (n0 j0 u0 : Nat) : WMC := ((Z, ρ, n0), ("java/util/DualPivotQuicksort", jdk_2529_method_3_code, "sort", none, 7), (j0, u0, 2, 64))
theorem a14_0 : AtI jdk_2529_method_3_code 0 (.iload_n 3) 1 1 := ⟨by decide +kernel, rfl⟩
theorem a14_1 : AtI jdk_2529_method_3_code 1 (.iload_n 2) 1 2 := ⟨by decide +kernel, rfl⟩
theorem a14_2 : AtI jdk_2529_method_3_code 2 (.isub) 1 3 := ⟨by decide +kernel, rfl⟩
theorem a14_3 : AtI jdk_2529_method_3_code 3 (.istore 4) 2 5 := ⟨by decide +kernel, rfl⟩
theorem a14_5 : AtI jdk_2529_method_3_code 5 (.iload_n 1) 1 6 := ⟨by decide +kernel, rfl⟩
theorem a14_6 : AtI jdk_2529_method_3_code 6 (.iconst 1) 1 7 := ⟨by decide +kernel, rfl⟩
theorem a14_7 : AtJ jdk_2529_method_3_code 7 (.if_icmp .le) 10 68 := ⟨61, by decide +kernel, rfl, by decide, rfl⟩
theorem a14_10 : AtI jdk_2529_method_3_code 10 (.iload 4) 2 12 := ⟨by decide +kernel, rfl⟩
theorem a14_12 : AtI jdk_2529_method_3_code 12 (.sipush 4096) 3 15 := ⟨by decide +kernel, rfl⟩
theorem a14_15 : AtJ jdk_2529_method_3_code 15 (.if_icmp .le) 18 68 := ⟨53, by decide +kernel, rfl, by decide, rfl⟩
theorem a14_18 : AtI jdk_2529_method_3_code 18 (.iload_n 1) 1 19 := ⟨by decide +kernel, rfl⟩
theorem a14_19 : AtI jdk_2529_method_3_code 19 (.iload 4) 2 21 := ⟨by decide +kernel, rfl⟩
theorem a14_21 : AtI jdk_2529_method_3_code 21 (.bipush 12) 2 23 := ⟨by decide +kernel, rfl⟩
theorem a14_23 : AtI jdk_2529_method_3_code 23 (.ishr) 1 24 := ⟨by decide +kernel, rfl⟩
theorem a14_24 : AtI jdk_2529_method_3_code 24 (.invokestatic 13) 3 27 := ⟨by decide +kernel, rfl⟩
theorem a14_68 : AtI jdk_2529_method_3_code 68 (.aconst_null) 1 69 := ⟨by decide +kernel, rfl⟩
theorem a14_69 : AtI jdk_2529_method_3_code 69 (.aload_n 0) 1 70 := ⟨by decide +kernel, rfl⟩
theorem a14_70 : AtI jdk_2529_method_3_code 70 (.iconst 0) 1 71 := ⟨by decide +kernel, rfl⟩
theorem a14_71 : AtI jdk_2529_method_3_code 71 (.iload_n 2) 1 72 := ⟨by decide +kernel, rfl⟩
theorem a14_72 : AtI jdk_2529_method_3_code 72 (.iload_n 3) 1 73 := ⟨by decide +kernel, rfl⟩
theorem a14_73 : AtI jdk_2529_method_3_code 73 (.invokestatic 26) 3 76 := ⟨by decide +kernel, rfl⟩
theorem a14_76 : AtI jdk_2529_method_3_code 76 (.return_) 1 77 := ⟨by decide +kernel, rfl⟩
theorem pd14 : parseMethodDescriptor "([IIII)V" = some ⟨[(.array .int), .int, .int, .int], none⟩ := by decide +kernel
theorem pl14 : plainFor (⟨"java/util/DualPivotQuicksort", "sort", "([IIII)V"⟩ : MethodName) = true := plainFor_of_name (by first | (simp [plainName, overriddenIn]; done) | decide +kernel)
theorem ok14 {Z : State} {a0 : Array Value} (hw : ∀ d ∈ tables_1, d.before a0 Z = true) (ρ : Nat → Nat) (n0 j0 u0 : Nat) : WCallee Z a0 (⟨"java/util/DualPivotQuicksort", "sort", "([IIII)V"⟩ : MethodName) (g14 Z ρ n0 j0 u0) 4 :=
  ⟨pl14, (by decide), rfl, rfl, rfl, (wd hw 86 rfl), (wd hw 87 rfl), fun sig h => by cases pd14.symm.trans h; rfl⟩
abbrev g13 (Z : State) (ρ : Nat → Nat) (n0 j0 u0 : Nat) : WMC := ((Z, ρ, n0), ("java/util/Arrays", jdk_65_method_2_code, "sort", none, 1), (j0, u0, 3, 82))
theorem a13_0 : AtI jdk_65_method_2_code 0 (.aload_n 0) 1 1 := ⟨by decide +kernel, rfl⟩
theorem a13_1 : AtI jdk_65_method_2_code 1 (.iconst 0) 1 2 := ⟨by decide +kernel, rfl⟩
theorem a13_2 : AtI jdk_65_method_2_code 2 (.iconst 0) 1 3 := ⟨by decide +kernel, rfl⟩
theorem a13_3 : AtI jdk_65_method_2_code 3 (.aload_n 0) 1 4 := ⟨by decide +kernel, rfl⟩
theorem a13_4 : AtI jdk_65_method_2_code 4 (.arraylength) 1 5 := ⟨by decide +kernel, rfl⟩
theorem a13_5 : AtI jdk_65_method_2_code 5 (.invokestatic 7) 3 8 := ⟨by decide +kernel, rfl⟩
theorem a13_8 : AtI jdk_65_method_2_code 8 (.return_) 1 9 := ⟨by decide +kernel, rfl⟩
theorem pd13 : parseMethodDescriptor "([I)V" = some ⟨[(.array .int)], none⟩ := by decide +kernel
theorem pl13 : plainFor (⟨"java/util/Arrays", "sort", "([I)V"⟩ : MethodName) = true := plainFor_of_name (by first | (simp [plainName, overriddenIn]; done) | decide +kernel)
theorem ok13 {Z : State} {a0 : Array Value} (hw : ∀ d ∈ tables_1, d.before a0 Z = true) (ρ : Nat → Nat) (n0 j0 u0 : Nat) : WCallee Z a0 (⟨"java/util/Arrays", "sort", "([I)V"⟩ : MethodName) (g13 Z ρ n0 j0 u0) 1 :=
  ⟨pl13, (by decide), rfl, rfl, rfl, (wd hw 71 rfl), (wd hw 83 rfl), fun sig h => by cases pd13.symm.trans h; rfl⟩
abbrev g12 (Z : State) (ρ : Nat → Nat) (n0 j0 u0 : Nat) : WMC := ((Z, ρ, n0), ("java/lang/Math", jdk_29_method_69_code, "min", (some .int), 2), (j0, u0, 0, 0))
theorem a12_0 : AtI jdk_29_method_69_code 0 (.iload_n 0) 1 1 := ⟨by decide +kernel, rfl⟩
theorem a12_1 : AtI jdk_29_method_69_code 1 (.iload_n 1) 1 2 := ⟨by decide +kernel, rfl⟩
theorem a12_2 : AtJ jdk_29_method_69_code 2 (.if_icmp .gt) 5 9 := ⟨7, by decide +kernel, rfl, by decide, rfl⟩
theorem a12_5 : AtI jdk_29_method_69_code 5 (.iload_n 0) 1 6 := ⟨by decide +kernel, rfl⟩
theorem a12_6 : AtJ jdk_29_method_69_code 6 (.goto) 9 10 := ⟨4, by decide +kernel, rfl, by decide, rfl⟩
theorem a12_9 : AtI jdk_29_method_69_code 9 (.iload_n 1) 1 10 := ⟨by decide +kernel, rfl⟩
theorem a12_10 : AtI jdk_29_method_69_code 10 (.ireturn) 1 11 := ⟨by decide +kernel, rfl⟩
theorem pd12 : parseMethodDescriptor "(II)I" = some ⟨[.int, .int], some .int⟩ := by decide +kernel
theorem pl12 : plainFor (⟨"java/lang/Math", "min", "(II)I"⟩ : MethodName) = true := Jvm.Free.JP.mathPlain rfl (by decide +kernel)
theorem ok12 {Z : State} {a0 : Array Value} (hw : ∀ d ∈ tables_1, d.before a0 Z = true) (ρ : Nat → Nat) (n0 j0 u0 : Nat) : WCallee Z a0 (⟨"java/lang/Math", "min", "(II)I"⟩ : MethodName) (g12 Z ρ n0 j0 u0) 2 :=
  ⟨pl12, (by decide), rfl, rfl, rfl, (wd hw 75 rfl), (wd hw 76 rfl), fun sig h => by cases pd12.symm.trans h; rfl⟩
abbrev g11 (Z : State) (ρ : Nat → Nat) (n0 j0 u0 : Nat) : WMC := ((Z, ρ, n0), ("java/util/Arrays", jdk_65_method_123_code, "copyOf", (some (.array .int)), 3), (j0, u0, 1, 40))
theorem a11_0 : AtI jdk_65_method_123_code 0 (.iload_n 1) 1 1 := ⟨by decide +kernel, rfl⟩
theorem a11_1 : AtI jdk_65_method_123_code 1 (.aload_n 0) 1 2 := ⟨by decide +kernel, rfl⟩
theorem a11_2 : AtI jdk_65_method_123_code 2 (.arraylength) 1 3 := ⟨by decide +kernel, rfl⟩
theorem a11_3 : AtJ jdk_65_method_123_code 3 (.if_icmp .ne) 6 14 := ⟨11, by decide +kernel, rfl, by decide, rfl⟩
theorem a11_6 : AtI jdk_65_method_123_code 6 (.aload_n 0) 1 7 := ⟨by decide +kernel, rfl⟩
theorem a11_7 : AtI jdk_65_method_123_code 7 (.invokevirtual 316) 3 10 := ⟨by decide +kernel, rfl⟩
theorem a11_14 : AtI jdk_65_method_123_code 14 (.iload_n 1) 1 15 := ⟨by decide +kernel, rfl⟩
theorem a11_15 : AtI jdk_65_method_123_code 15 (.newarray .int) 2 17 := ⟨by decide +kernel, rfl⟩
theorem a11_17 : AtI jdk_65_method_123_code 17 (.astore_n 2) 1 18 := ⟨by decide +kernel, rfl⟩
theorem a11_18 : AtI jdk_65_method_123_code 18 (.aload_n 0) 1 19 := ⟨by decide +kernel, rfl⟩
theorem a11_19 : AtI jdk_65_method_123_code 19 (.iconst 0) 1 20 := ⟨by decide +kernel, rfl⟩
theorem a11_20 : AtI jdk_65_method_123_code 20 (.aload_n 2) 1 21 := ⟨by decide +kernel, rfl⟩
theorem a11_21 : AtI jdk_65_method_123_code 21 (.iconst 0) 1 22 := ⟨by decide +kernel, rfl⟩
theorem a11_22 : AtI jdk_65_method_123_code 22 (.aload_n 0) 1 23 := ⟨by decide +kernel, rfl⟩
theorem a11_23 : AtI jdk_65_method_123_code 23 (.arraylength) 1 24 := ⟨by decide +kernel, rfl⟩
theorem a11_24 : AtI jdk_65_method_123_code 24 (.iload_n 1) 1 25 := ⟨by decide +kernel, rfl⟩
theorem a11_25 : AtI jdk_65_method_123_code 25 (.invokestatic 304) 3 28 := ⟨by decide +kernel, rfl⟩
theorem a11_28 : AtI jdk_65_method_123_code 28 (.invokestatic 150) 3 31 := ⟨by decide +kernel, rfl⟩
theorem a11_31 : AtI jdk_65_method_123_code 31 (.aload_n 2) 1 32 := ⟨by decide +kernel, rfl⟩
theorem a11_32 : AtI jdk_65_method_123_code 32 (.areturn) 1 33 := ⟨by decide +kernel, rfl⟩
theorem pd11 : parseMethodDescriptor "([II)[I" = some ⟨[(.array .int), .int], some (.array .int)⟩ := by decide +kernel
theorem pl11 : plainFor (⟨"java/util/Arrays", "copyOf", "([II)[I"⟩ : MethodName) = true := plainFor_of_name (by first | (simp [plainName, overriddenIn]; done) | decide +kernel)
theorem ok11 {Z : State} {a0 : Array Value} (hw : ∀ d ∈ tables_1, d.before a0 Z = true) (ρ : Nat → Nat) (n0 j0 u0 : Nat) : WCallee Z a0 (⟨"java/util/Arrays", "copyOf", "([II)[I"⟩ : MethodName) (g11 Z ρ n0 j0 u0) 2 :=
  ⟨pl11, (by decide), rfl, rfl, rfl, (wd hw 71 rfl), (wd hw 72 rfl), fun sig h => by cases pd11.symm.trans h; rfl⟩
abbrev g10 (Z : State) (ρ : Nat → Nat) (n0 j0 u0 : Nat) : WMC := ((Z, ρ, n0), ("com/example/firm_handshake/firmhandshake/lts/Graph", prog_91_method_14_code, "first", (some (.array .int)), 1), (j0, u0, 0, 0))
theorem a10_0 : AtI prog_91_method_14_code 0 (.aload_n 0) 1 1 := ⟨by decide +kernel, rfl⟩
theorem a10_1 : AtI prog_91_method_14_code 1 (.getfield 7) 3 4 := ⟨by decide +kernel, rfl⟩
theorem a10_4 : AtI prog_91_method_14_code 4 (.areturn) 1 5 := ⟨by decide +kernel, rfl⟩
theorem pd10 : parseMethodDescriptor "()[I" = some ⟨[], some (.array .int)⟩ := by decide +kernel
theorem pl10 : plainFor (⟨"com/example/firm_handshake/firmhandshake/lts/Graph", "first", "()[I"⟩ : MethodName) = true := plainFor_of_name (by first | (simp [plainName, overriddenIn]; done) | decide +kernel)
theorem ok10 {Z : State} {a0 : Array Value} (hw : ∀ d ∈ tables_1, d.before a0 Z = true) (ρ : Nat → Nat) (n0 j0 u0 : Nat) : WCallee Z a0 (⟨"com/example/firm_handshake/firmhandshake/lts/Graph", "first", "()[I"⟩ : MethodName) (g10 Z ρ n0 j0 u0) 0 :=
  ⟨pl10, (by decide), rfl, rfl, rfl, (wd hw 2 rfl), (wd hw 68 rfl), fun sig h => by cases pd10.symm.trans h; rfl⟩
abbrev g9 (Z : State) (ρ : Nat → Nat) (n0 j0 u0 : Nat) : WMC := ((Z, ρ, n0), ("com/example/firm_handshake/firmhandshake/lts/InternalClosure", prog_94_method_7_code, "spread", none, 4), (j0, u0, 1, 13))
theorem a9_0 : AtI prog_94_method_7_code 0 (.iconst 0) 1 1 := ⟨by decide +kernel, rfl⟩
theorem a9_1 : AtI prog_94_method_7_code 1 (.istore_n 1) 1 2 := ⟨by decide +kernel, rfl⟩
theorem a9_2 : AtI prog_94_method_7_code 2 (.iload_n 1) 1 3 := ⟨by decide +kernel, rfl⟩
theorem a9_3 : AtI prog_94_method_7_code 3 (.aload_n 0) 1 4 := ⟨by decide +kernel, rfl⟩
theorem a9_4 : AtI prog_94_method_7_code 4 (.getfield 44) 3 7 := ⟨by decide +kernel, rfl⟩
theorem a9_7 : AtJ prog_94_method_7_code 7 (.if_icmp .ge) 10 83 := ⟨76, by decide +kernel, rfl, by decide, rfl⟩
theorem a9_10 : AtI prog_94_method_7_code 10 (.aload_n 0) 1 11 := ⟨by decide +kernel, rfl⟩
theorem a9_11 : AtI prog_94_method_7_code 11 (.getfield 27) 3 14 := ⟨by decide +kernel, rfl⟩
theorem a9_14 : AtI prog_94_method_7_code 14 (.iload_n 1) 1 15 := ⟨by decide +kernel, rfl⟩
theorem a9_15 : AtI prog_94_method_7_code 15 (.iaload) 1 16 := ⟨by decide +kernel, rfl⟩
theorem a9_16 : AtI prog_94_method_7_code 16 (.istore_n 2) 1 17 := ⟨by decide +kernel, rfl⟩
theorem a9_17 : AtI prog_94_method_7_code 17 (.aload_n 0) 1 18 := ⟨by decide +kernel, rfl⟩
theorem a9_18 : AtI prog_94_method_7_code 18 (.getfield 7) 3 21 := ⟨by decide +kernel, rfl⟩
theorem a9_21 : AtI prog_94_method_7_code 21 (.invokevirtual 69) 3 24 := ⟨by decide +kernel, rfl⟩
theorem a9_24 : AtI prog_94_method_7_code 24 (.iload_n 2) 1 25 := ⟨by decide +kernel, rfl⟩
theorem a9_25 : AtI prog_94_method_7_code 25 (.iaload) 1 26 := ⟨by decide +kernel, rfl⟩
theorem a9_26 : AtI prog_94_method_7_code 26 (.istore_n 3) 1 27 := ⟨by decide +kernel, rfl⟩
theorem a9_27 : AtI prog_94_method_7_code 27 (.iload_n 3) 1 28 := ⟨by decide +kernel, rfl⟩
theorem a9_28 : AtI prog_94_method_7_code 28 (.aload_n 0) 1 29 := ⟨by decide +kernel, rfl⟩
theorem a9_29 : AtI prog_94_method_7_code 29 (.getfield 7) 3 32 := ⟨by decide +kernel, rfl⟩
theorem a9_32 : AtI prog_94_method_7_code 32 (.invokevirtual 69) 3 35 := ⟨by decide +kernel, rfl⟩
theorem a9_35 : AtI prog_94_method_7_code 35 (.iload_n 2) 1 36 := ⟨by decide +kernel, rfl⟩
theorem a9_36 : AtI prog_94_method_7_code 36 (.iconst 1) 1 37 := ⟨by decide +kernel, rfl⟩
theorem a9_37 : AtI prog_94_method_7_code 37 (.iadd) 1 38 := ⟨by decide +kernel, rfl⟩
theorem a9_38 : AtI prog_94_method_7_code 38 (.iaload) 1 39 := ⟨by decide +kernel, rfl⟩
theorem a9_39 : AtJ prog_94_method_7_code 39 (.if_icmp .ge) 42 77 := ⟨38, by decide +kernel, rfl, by decide, rfl⟩
theorem a9_42 : AtI prog_94_method_7_code 42 (.aload_n 0) 1 43 := ⟨by decide +kernel, rfl⟩
theorem a9_43 : AtI prog_94_method_7_code 43 (.getfield 7) 3 46 := ⟨by decide +kernel, rfl⟩
theorem a9_46 : AtI prog_94_method_7_code 46 (.invokevirtual 72) 3 49 := ⟨by decide +kernel, rfl⟩
theorem a9_77 : AtI prog_94_method_7_code 77 (.iinc 1 1) 3 80 := ⟨by decide +kernel, rfl⟩
theorem a9_80 : AtJ prog_94_method_7_code 80 (.goto) 83 2 := ⟨(-78), by decide +kernel, rfl, by decide, rfl⟩
theorem a9_83 : AtI prog_94_method_7_code 83 (.return_) 1 84 := ⟨by decide +kernel, rfl⟩
theorem pd9 : parseMethodDescriptor "()V" = some ⟨[], none⟩ := by decide +kernel
theorem pl9 : plainFor (⟨"com/example/firm_handshake/firmhandshake/lts/InternalClosure", "spread", "()V"⟩ : MethodName) = true := plainFor_of_name (by first | (simp [plainName, overriddenIn]; done) | decide +kernel)
theorem ok9 {Z : State} {a0 : Array Value} (hw : ∀ d ∈ tables_1, d.before a0 Z = true) (ρ : Nat → Nat) (n0 j0 u0 : Nat) : WCallee Z a0 (⟨"com/example/firm_handshake/firmhandshake/lts/InternalClosure", "spread", "()V"⟩ : MethodName) (g9 Z ρ n0 j0 u0) 0 :=
  ⟨pl9, (by decide), rfl, rfl, rfl, (wd hw 23 rfl), (wd hw 63 rfl), fun sig h => by cases pd9.symm.trans h; rfl⟩
abbrev g8 (Z : State) (ρ : Nat → Nat) (n0 j0 u0 : Nat) : WMC := ((Z, ρ, n0), ("com/example/firm_handshake/firmhandshake/lts/InternalClosure", prog_94_method_5_code, "close", (some (.array .int)), 2), (j0, u0, 4, 94))
theorem a8_0 : AtI prog_94_method_5_code 0 (.aload_n 0) 1 1 := ⟨by decide +kernel, rfl⟩
theorem a8_1 : AtI prog_94_method_5_code 1 (.invokevirtual 47) 3 4 := ⟨by decide +kernel, rfl⟩
theorem a8_4 : AtI prog_94_method_5_code 4 (.aload_n 0) 1 5 := ⟨by decide +kernel, rfl⟩
theorem a8_5 : AtI prog_94_method_5_code 5 (.getfield 27) 3 8 := ⟨by decide +kernel, rfl⟩
theorem a8_8 : AtI prog_94_method_5_code 8 (.aload_n 0) 1 9 := ⟨by decide +kernel, rfl⟩
theorem a8_9 : AtI prog_94_method_5_code 9 (.getfield 44) 3 12 := ⟨by decide +kernel, rfl⟩
theorem a8_12 : AtI prog_94_method_5_code 12 (.invokestatic 50) 3 15 := ⟨by decide +kernel, rfl⟩
theorem a8_15 : AtI prog_94_method_5_code 15 (.astore_n 1) 1 16 := ⟨by decide +kernel, rfl⟩
theorem a8_16 : AtI prog_94_method_5_code 16 (.aload_n 1) 1 17 := ⟨by decide +kernel, rfl⟩
theorem a8_17 : AtI prog_94_method_5_code 17 (.invokestatic 56) 3 20 := ⟨by decide +kernel, rfl⟩
theorem a8_20 : AtI prog_94_method_5_code 20 (.aload_n 1) 1 21 := ⟨by decide +kernel, rfl⟩
theorem a8_21 : AtI prog_94_method_5_code 21 (.areturn) 1 22 := ⟨by decide +kernel, rfl⟩
theorem pd8 : parseMethodDescriptor "()[I" = some ⟨[], some (.array .int)⟩ := by decide +kernel
theorem pl8 : plainFor (⟨"com/example/firm_handshake/firmhandshake/lts/InternalClosure", "close", "()[I"⟩ : MethodName) = true := plainFor_of_name (by first | (simp [plainName, overriddenIn]; done) | decide +kernel)
theorem ok8 {Z : State} {a0 : Array Value} (hw : ∀ d ∈ tables_1, d.before a0 Z = true) (ρ : Nat → Nat) (n0 j0 u0 : Nat) : WCallee Z a0 (⟨"com/example/firm_handshake/firmhandshake/lts/InternalClosure", "close", "()[I"⟩ : MethodName) (g8 Z ρ n0 j0 u0) 0 :=
  ⟨pl8, (by decide), rfl, rfl, rfl, (wd hw 23 rfl), (wd hw 59 rfl), fun sig h => by cases pd8.symm.trans h; rfl⟩
abbrev g7 (Z : State) (ρ : Nat → Nat) (n0 j0 u0 : Nat) : WMC := ((Z, ρ, n0), ("com/example/firm_handshake/firmhandshake/lts/InternalClosure", prog_94_method_4_code, "seed", none, 2), (j0, u0, 0, 0))
theorem a7_0 : AtI prog_94_method_4_code 0 (.aload_n 0) 1 1 := ⟨by decide +kernel, rfl⟩
theorem a7_1 : AtI prog_94_method_4_code 1 (.getfield 23) 3 4 := ⟨by decide +kernel, rfl⟩
theorem a7_4 : AtI prog_94_method_4_code 4 (.iload_n 1) 1 5 := ⟨by decide +kernel, rfl⟩
theorem a7_5 : AtI prog_94_method_4_code 5 (.iaload) 1 6 := ⟨by decide +kernel, rfl⟩
theorem a7_6 : AtI prog_94_method_4_code 6 (.aload_n 0) 1 7 := ⟨by decide +kernel, rfl⟩
theorem a7_7 : AtI prog_94_method_4_code 7 (.getfield 41) 3 10 := ⟨by decide +kernel, rfl⟩
theorem a7_10 : AtJ prog_94_method_4_code 10 (.if_icmp .eq) 13 40 := ⟨30, by decide +kernel, rfl, by decide, rfl⟩
theorem a7_13 : AtI prog_94_method_4_code 13 (.aload_n 0) 1 14 := ⟨by decide +kernel, rfl⟩
theorem a7_14 : AtI prog_94_method_4_code 14 (.getfield 23) 3 17 := ⟨by decide +kernel, rfl⟩
theorem a7_17 : AtI prog_94_method_4_code 17 (.iload_n 1) 1 18 := ⟨by decide +kernel, rfl⟩
theorem a7_18 : AtI prog_94_method_4_code 18 (.aload_n 0) 1 19 := ⟨by decide +kernel, rfl⟩
theorem a7_19 : AtI prog_94_method_4_code 19 (.getfield 41) 3 22 := ⟨by decide +kernel, rfl⟩
theorem a7_22 : AtI prog_94_method_4_code 22 (.iastore) 1 23 := ⟨by decide +kernel, rfl⟩
theorem a7_23 : AtI prog_94_method_4_code 23 (.aload_n 0) 1 24 := ⟨by decide +kernel, rfl⟩
theorem a7_24 : AtI prog_94_method_4_code 24 (.getfield 27) 3 27 := ⟨by decide +kernel, rfl⟩
theorem a7_27 : AtI prog_94_method_4_code 27 (.aload_n 0) 1 28 := ⟨by decide +kernel, rfl⟩
theorem a7_28 : AtI prog_94_method_4_code 28 (.dup) 1 29 := ⟨by decide +kernel, rfl⟩
theorem a7_29 : AtI prog_94_method_4_code 29 (.getfield 44) 3 32 := ⟨by decide +kernel, rfl⟩
theorem a7_32 : AtI prog_94_method_4_code 32 (.dup_x1) 1 33 := ⟨by decide +kernel, rfl⟩
theorem a7_33 : AtI prog_94_method_4_code 33 (.iconst 1) 1 34 := ⟨by decide +kernel, rfl⟩
theorem a7_34 : AtI prog_94_method_4_code 34 (.iadd) 1 35 := ⟨by decide +kernel, rfl⟩
theorem a7_35 : AtI prog_94_method_4_code 35 (.putfield 44) 3 38 := ⟨by decide +kernel, rfl⟩
theorem a7_38 : AtI prog_94_method_4_code 38 (.iload_n 1) 1 39 := ⟨by decide +kernel, rfl⟩
theorem a7_39 : AtI prog_94_method_4_code 39 (.iastore) 1 40 := ⟨by decide +kernel, rfl⟩
theorem a7_40 : AtI prog_94_method_4_code 40 (.return_) 1 41 := ⟨by decide +kernel, rfl⟩
theorem pd7 : parseMethodDescriptor "(I)V" = some ⟨[.int], none⟩ := by decide +kernel
theorem pl7 : plainFor (⟨"com/example/firm_handshake/firmhandshake/lts/InternalClosure", "seed", "(I)V"⟩ : MethodName) = true := plainFor_of_name (by first | (simp [plainName, overriddenIn]; done) | decide +kernel)
theorem ok7 {Z : State} {a0 : Array Value} (hw : ∀ d ∈ tables_1, d.before a0 Z = true) (ρ : Nat → Nat) (n0 j0 u0 : Nat) : WCallee Z a0 (⟨"com/example/firm_handshake/firmhandshake/lts/InternalClosure", "seed", "(I)V"⟩ : MethodName) (g7 Z ρ n0 j0 u0) 1 :=
  ⟨pl7, (by decide), rfl, rfl, rfl, (wd hw 23 rfl), (wd hw 54 rfl), fun sig h => by cases pd7.symm.trans h; rfl⟩
abbrev g6 (Z : State) (ρ : Nat → Nat) (n0 j0 u0 : Nat) : WMC := ((Z, ρ, n0), ("com/example/firm_handshake/firmhandshake/lts/InternalClosure", prog_94_method_3_code, "open", none, 1), (j0, u0, 0, 0))
theorem a6_0 : AtI prog_94_method_3_code 0 (.aload_n 0) 1 1 := ⟨by decide +kernel, rfl⟩
theorem a6_1 : AtI prog_94_method_3_code 1 (.dup) 1 2 := ⟨by decide +kernel, rfl⟩
theorem a6_2 : AtI prog_94_method_3_code 2 (.getfield 41) 3 5 := ⟨by decide +kernel, rfl⟩
theorem a6_5 : AtI prog_94_method_3_code 5 (.iconst 1) 1 6 := ⟨by decide +kernel, rfl⟩
theorem a6_6 : AtI prog_94_method_3_code 6 (.iadd) 1 7 := ⟨by decide +kernel, rfl⟩
theorem a6_7 : AtI prog_94_method_3_code 7 (.putfield 41) 3 10 := ⟨by decide +kernel, rfl⟩
theorem a6_10 : AtI prog_94_method_3_code 10 (.aload_n 0) 1 11 := ⟨by decide +kernel, rfl⟩
theorem a6_11 : AtI prog_94_method_3_code 11 (.iconst 0) 1 12 := ⟨by decide +kernel, rfl⟩
theorem a6_12 : AtI prog_94_method_3_code 12 (.putfield 44) 3 15 := ⟨by decide +kernel, rfl⟩
theorem a6_15 : AtI prog_94_method_3_code 15 (.return_) 1 16 := ⟨by decide +kernel, rfl⟩
theorem pd6 : parseMethodDescriptor "()V" = some ⟨[], none⟩ := by decide +kernel
theorem pl6 : plainFor (⟨"com/example/firm_handshake/firmhandshake/lts/InternalClosure", "open", "()V"⟩ : MethodName) = true := plainFor_of_name (by first | (simp [plainName, overriddenIn]; done) | decide +kernel)
theorem ok6 {Z : State} {a0 : Array Value} (hw : ∀ d ∈ tables_1, d.before a0 Z = true) (ρ : Nat → Nat) (n0 j0 u0 : Nat) : WCallee Z a0 (⟨"com/example/firm_handshake/firmhandshake/lts/InternalClosure", "open", "()V"⟩ : MethodName) (g6 Z ρ n0 j0 u0) 0 :=
  ⟨pl6, (by decide), rfl, rfl, rfl, (wd hw 23 rfl), (wd hw 45 rfl), fun sig h => by cases pd6.symm.trans h; rfl⟩
abbrev g5 (Z : State) (ρ : Nat → Nat) (n0 j0 u0 : Nat) : WMC := ((Z, ρ, n0), ("com/example/firm_handshake/firmhandshake/lts/Graph", prog_91_method_8_code, "nodeCount", (some .int), 1), (j0, u0, 0, 0))
theorem a5_0 : AtI prog_91_method_8_code 0 (.aload_n 0) 1 1 := ⟨by decide +kernel, rfl⟩
theorem a5_1 : AtI prog_91_method_8_code 1 (.getfield 7) 3 4 := ⟨by decide +kernel, rfl⟩
theorem a5_4 : AtI prog_91_method_8_code 4 (.arraylength) 1 5 := ⟨by decide +kernel, rfl⟩
theorem a5_5 : AtI prog_91_method_8_code 5 (.iconst 1) 1 6 := ⟨by decide +kernel, rfl⟩
theorem a5_6 : AtI prog_91_method_8_code 6 (.isub) 1 7 := ⟨by decide +kernel, rfl⟩
theorem a5_7 : AtI prog_91_method_8_code 7 (.ireturn) 1 8 := ⟨by decide +kernel, rfl⟩
theorem pd5 : parseMethodDescriptor "()I" = some ⟨[], some .int⟩ := by decide +kernel
theorem pl5 : plainFor (⟨"com/example/firm_handshake/firmhandshake/lts/Graph", "nodeCount", "()I"⟩ : MethodName) = true := plainFor_of_name (by first | (simp [plainName, overriddenIn]; done) | decide +kernel)
theorem ok5 {Z : State} {a0 : Array Value} (hw : ∀ d ∈ tables_1, d.before a0 Z = true) (ρ : Nat → Nat) (n0 j0 u0 : Nat) : WCallee Z a0 (⟨"com/example/firm_handshake/firmhandshake/lts/Graph", "nodeCount", "()I"⟩ : MethodName) (g5 Z ρ n0 j0 u0) 0 :=
  ⟨pl5, (by decide), rfl, rfl, rfl, (wd hw 2 rfl), (wd hw 36 rfl), fun sig h => by cases pd5.symm.trans h; rfl⟩
abbrev g4 (Z : State) (ρ : Nat → Nat) (n0 j0 u0 : Nat) : WMC := ((Z, ρ, n0), ("com/example/firm_handshake/firmhandshake/lts/InternalClosure", prog_94_method_1_code, "<init>", none, 3), (j0, u0, 1, 13))
theorem a4_0 : AtI prog_94_method_1_code 0 (.aload_n 0) 1 1 := ⟨by decide +kernel, rfl⟩
theorem a4_1 : AtI prog_94_method_1_code 1 (.invokespecial 1) 3 4 := ⟨by decide +kernel, rfl⟩
theorem a4_4 : AtI prog_94_method_1_code 4 (.aload_n 0) 1 5 := ⟨by decide +kernel, rfl⟩
theorem a4_5 : AtI prog_94_method_1_code 5 (.aload_n 1) 1 6 := ⟨by decide +kernel, rfl⟩
theorem a4_6 : AtI prog_94_method_1_code 6 (.putfield 7) 3 9 := ⟨by decide +kernel, rfl⟩
theorem a4_9 : AtI prog_94_method_1_code 9 (.aload_n 0) 1 10 := ⟨by decide +kernel, rfl⟩
theorem a4_10 : AtI prog_94_method_1_code 10 (.iload_n 2) 1 11 := ⟨by decide +kernel, rfl⟩
theorem a4_11 : AtI prog_94_method_1_code 11 (.putfield 13) 3 14 := ⟨by decide +kernel, rfl⟩
theorem a4_14 : AtI prog_94_method_1_code 14 (.aload_n 0) 1 15 := ⟨by decide +kernel, rfl⟩
theorem a4_15 : AtI prog_94_method_1_code 15 (.aload_n 1) 1 16 := ⟨by decide +kernel, rfl⟩
theorem a4_16 : AtI prog_94_method_1_code 16 (.invokevirtual 17) 3 19 := ⟨by decide +kernel, rfl⟩
theorem a4_19 : AtI prog_94_method_1_code 19 (.newarray .int) 2 21 := ⟨by decide +kernel, rfl⟩
theorem a4_21 : AtI prog_94_method_1_code 21 (.putfield 23) 3 24 := ⟨by decide +kernel, rfl⟩
theorem a4_24 : AtI prog_94_method_1_code 24 (.aload_n 0) 1 25 := ⟨by decide +kernel, rfl⟩
theorem a4_25 : AtI prog_94_method_1_code 25 (.aload_n 1) 1 26 := ⟨by decide +kernel, rfl⟩
theorem a4_26 : AtI prog_94_method_1_code 26 (.invokevirtual 17) 3 29 := ⟨by decide +kernel, rfl⟩
theorem a4_29 : AtI prog_94_method_1_code 29 (.newarray .int) 2 31 := ⟨by decide +kernel, rfl⟩
theorem a4_31 : AtI prog_94_method_1_code 31 (.putfield 27) 3 34 := ⟨by decide +kernel, rfl⟩
theorem a4_34 : AtI prog_94_method_1_code 34 (.return_) 1 35 := ⟨by decide +kernel, rfl⟩
theorem pd4 : parseMethodDescriptor "(Lcom/example/firm_handshake/firmhandshake/lts/Graph;I)V" = some ⟨[(.object "com/example/firm_handshake/firmhandshake/lts/Graph"), .int], none⟩ := by decide +kernel
theorem pl4 : plainFor (⟨"com/example/firm_handshake/firmhandshake/lts/InternalClosure", "<init>", "(Lcom/example/firm_handshake/firmhandshake/lts/Graph;I)V"⟩ : MethodName) = true := plainFor_of_name (by first | (simp [plainName, overriddenIn]; done) | decide +kernel)
theorem ok4 {Z : State} {a0 : Array Value} (hw : ∀ d ∈ tables_1, d.before a0 Z = true) (ρ : Nat → Nat) (n0 j0 u0 : Nat) : WCallee Z a0 (⟨"com/example/firm_handshake/firmhandshake/lts/InternalClosure", "<init>", "(Lcom/example/firm_handshake/firmhandshake/lts/Graph;I)V"⟩ : MethodName) (g4 Z ρ n0 j0 u0) 2 :=
  ⟨pl4, (by decide), rfl, rfl, rfl, (wd hw 23 rfl), (wd hw 26 rfl), fun sig h => by cases pd4.symm.trans h; rfl⟩
abbrev g2 (Z : State) (ρ : Nat → Nat) (n0 j0 u0 : Nat) : WMC := ((Z, ρ, n0), ("java/lang/Record", jdk_30_method_1_code, "<init>", none, 1), (j0, u0, 1, 12))
theorem a2_0 : AtI jdk_30_method_1_code 0 (.aload_n 0) 1 1 := ⟨by decide +kernel, rfl⟩
theorem a2_1 : AtI jdk_30_method_1_code 1 (.invokespecial 1) 3 4 := ⟨by decide +kernel, rfl⟩
theorem a2_4 : AtI jdk_30_method_1_code 4 (.return_) 1 5 := ⟨by decide +kernel, rfl⟩
theorem pd2 : parseMethodDescriptor "()V" = some ⟨[], none⟩ := by decide +kernel
theorem pl2 : plainFor (⟨"java/lang/Record", "<init>", "()V"⟩ : MethodName) = true := plainFor_of_name (by first | (simp [plainName, overriddenIn]; done) | decide +kernel)
theorem ok2 {Z : State} {a0 : Array Value} (hw : ∀ d ∈ tables_1, d.before a0 Z = true) (ρ : Nat → Nat) (n0 j0 u0 : Nat) : WCallee Z a0 (⟨"java/lang/Record", "<init>", "()V"⟩ : MethodName) (g2 Z ρ n0 j0 u0) 0 :=
  ⟨pl2, (by decide), rfl, rfl, rfl, (wd hw 10 rfl), (wd hw 11 rfl), fun sig h => by cases pd2.symm.trans h; rfl⟩
abbrev g1 (Z : State) (ρ : Nat → Nat) (n0 j0 u0 : Nat) : WMC := ((Z, ρ, n0), ("com/example/firm_handshake/firmhandshake/lts/Graph", prog_91_method_1_code, "<init>", none, 4), (j0, u0, 2, 24))
theorem a1_0 : AtI prog_91_method_1_code 0 (.aload_n 0) 1 1 := ⟨by decide +kernel, rfl⟩
theorem a1_1 : AtI prog_91_method_1_code 1 (.invokespecial 1) 3 4 := ⟨by decide +kernel, rfl⟩
theorem a1_4 : AtI prog_91_method_1_code 4 (.aload_n 0) 1 5 := ⟨by decide +kernel, rfl⟩
theorem a1_5 : AtI prog_91_method_1_code 5 (.aload_n 1) 1 6 := ⟨by decide +kernel, rfl⟩
theorem a1_6 : AtI prog_91_method_1_code 6 (.putfield 7) 3 9 := ⟨by decide +kernel, rfl⟩
theorem a1_9 : AtI prog_91_method_1_code 9 (.aload_n 0) 1 10 := ⟨by decide +kernel, rfl⟩
theorem a1_10 : AtI prog_91_method_1_code 10 (.aload_n 2) 1 11 := ⟨by decide +kernel, rfl⟩
theorem a1_11 : AtI prog_91_method_1_code 11 (.putfield 13) 3 14 := ⟨by decide +kernel, rfl⟩
theorem a1_14 : AtI prog_91_method_1_code 14 (.aload_n 0) 1 15 := ⟨by decide +kernel, rfl⟩
theorem a1_15 : AtI prog_91_method_1_code 15 (.aload_n 3) 1 16 := ⟨by decide +kernel, rfl⟩
theorem a1_16 : AtI prog_91_method_1_code 16 (.putfield 16) 3 19 := ⟨by decide +kernel, rfl⟩
theorem a1_19 : AtI prog_91_method_1_code 19 (.return_) 1 20 := ⟨by decide +kernel, rfl⟩
theorem pd1 : parseMethodDescriptor "([I[I[I)V" = some ⟨[(.array .int), (.array .int), (.array .int)], none⟩ := by decide +kernel
theorem pl1 : plainFor (⟨"com/example/firm_handshake/firmhandshake/lts/Graph", "<init>", "([I[I[I)V"⟩ : MethodName) = true := plainFor_of_name (by first | (simp [plainName, overriddenIn]; done) | decide +kernel)
theorem ok1 {Z : State} {a0 : Array Value} (hw : ∀ d ∈ tables_1, d.before a0 Z = true) (ρ : Nat → Nat) (n0 j0 u0 : Nat) : WCallee Z a0 (⟨"com/example/firm_handshake/firmhandshake/lts/Graph", "<init>", "([I[I[I)V"⟩ : MethodName) (g1 Z ρ n0 j0 u0) 3 :=
  ⟨pl1, (by decide), rfl, rfl, rfl, (wd hw 2 rfl), (wd hw 6 rfl), fun sig h => by cases pd1.symm.trans h; rfl⟩
abbrev g0 (Z : State) (ρ : Nat → Nat) (n0 j0 u0 : Nat) : WMC := ((Z, ρ, n0), ("com/example/firm_handshake/firmhandshake/lts/InternalClosureSeedPinLaw", code, "law", ret, maxLocals), (j0, u0, 8, 208))
theorem a0_0 : AtI code 0 (.iload_n 0) 1 1 := ⟨by decide +kernel, rfl⟩
theorem a0_1 : AtI code 1 (.iconst 3) 1 2 := ⟨by decide +kernel, rfl⟩
theorem a0_2 : AtI code 2 (.iand) 1 3 := ⟨by decide +kernel, rfl⟩
theorem a0_3 : AtI code 3 (.istore 5) 2 5 := ⟨by decide +kernel, rfl⟩
theorem a0_5 : AtI code 5 (.iload_n 1) 1 6 := ⟨by decide +kernel, rfl⟩
theorem a0_6 : AtI code 6 (.iconst 3) 1 7 := ⟨by decide +kernel, rfl⟩
theorem a0_7 : AtI code 7 (.iand) 1 8 := ⟨by decide +kernel, rfl⟩
theorem a0_8 : AtI code 8 (.istore 6) 2 10 := ⟨by decide +kernel, rfl⟩
theorem a0_10 : AtI code 10 (.iload_n 2) 1 11 := ⟨by decide +kernel, rfl⟩
theorem a0_11 : AtI code 11 (.iconst 3) 1 12 := ⟨by decide +kernel, rfl⟩
theorem a0_12 : AtI code 12 (.iand) 1 13 := ⟨by decide +kernel, rfl⟩
theorem a0_13 : AtI code 13 (.istore 7) 2 15 := ⟨by decide +kernel, rfl⟩
theorem a0_15 : AtI code 15 (.iload_n 3) 1 16 := ⟨by decide +kernel, rfl⟩
theorem a0_16 : AtI code 16 (.iconst 3) 1 17 := ⟨by decide +kernel, rfl⟩
theorem a0_17 : AtI code 17 (.iand) 1 18 := ⟨by decide +kernel, rfl⟩
theorem a0_18 : AtI code 18 (.istore 8) 2 20 := ⟨by decide +kernel, rfl⟩
theorem a0_20 : AtI code 20 (.iload 4) 2 22 := ⟨by decide +kernel, rfl⟩
theorem a0_22 : AtI code 22 (.iconst 3) 1 23 := ⟨by decide +kernel, rfl⟩
theorem a0_23 : AtI code 23 (.iand) 1 24 := ⟨by decide +kernel, rfl⟩
theorem a0_24 : AtI code 24 (.istore 9) 2 26 := ⟨by decide +kernel, rfl⟩
theorem a0_26 : AtI code 26 (.new 7) 3 29 := ⟨by decide +kernel, rfl⟩
theorem a0_29 : AtI code 29 (.dup) 1 30 := ⟨by decide +kernel, rfl⟩
theorem a0_30 : AtI code 30 (.iconst 5) 1 31 := ⟨by decide +kernel, rfl⟩
theorem a0_31 : AtI code 31 (.newarray .int) 2 33 := ⟨by decide +kernel, rfl⟩
theorem a0_33 : AtI code 33 (.iconst 0) 1 34 := ⟨by decide +kernel, rfl⟩
theorem a0_34 : AtI code 34 (.newarray .int) 2 36 := ⟨by decide +kernel, rfl⟩
theorem a0_36 : AtI code 36 (.iconst 0) 1 37 := ⟨by decide +kernel, rfl⟩
theorem a0_37 : AtI code 37 (.newarray .int) 2 39 := ⟨by decide +kernel, rfl⟩
theorem a0_39 : AtI code 39 (.invokespecial 9) 3 42 := ⟨by decide +kernel, rfl⟩
theorem a0_42 : AtI code 42 (.astore 10) 2 44 := ⟨by decide +kernel, rfl⟩
theorem a0_44 : AtI code 44 (.new 12) 3 47 := ⟨by decide +kernel, rfl⟩
theorem a0_47 : AtI code 47 (.dup) 1 48 := ⟨by decide +kernel, rfl⟩
theorem a0_48 : AtI code 48 (.aload 10) 2 50 := ⟨by decide +kernel, rfl⟩
theorem a0_50 : AtI code 50 (.iconst 0) 1 51 := ⟨by decide +kernel, rfl⟩
theorem a0_51 : AtI code 51 (.invokespecial 14) 3 54 := ⟨by decide +kernel, rfl⟩
theorem a0_54 : AtI code 54 (.astore 11) 2 56 := ⟨by decide +kernel, rfl⟩
theorem a0_56 : AtI code 56 (.aload 11) 2 58 := ⟨by decide +kernel, rfl⟩
theorem a0_58 : AtI code 58 (.invokevirtual 17) 3 61 := ⟨by decide +kernel, rfl⟩
theorem a0_61 : AtI code 61 (.aload 11) 2 63 := ⟨by decide +kernel, rfl⟩
theorem a0_63 : AtI code 63 (.iload 5) 2 65 := ⟨by decide +kernel, rfl⟩
theorem a0_65 : AtI code 65 (.invokevirtual 20) 3 68 := ⟨by decide +kernel, rfl⟩
theorem a0_68 : AtI code 68 (.aload 11) 2 70 := ⟨by decide +kernel, rfl⟩
theorem a0_70 : AtI code 70 (.iload 6) 2 72 := ⟨by decide +kernel, rfl⟩
theorem a0_72 : AtI code 72 (.invokevirtual 20) 3 75 := ⟨by decide +kernel, rfl⟩
theorem a0_75 : AtI code 75 (.aload 11) 2 77 := ⟨by decide +kernel, rfl⟩
theorem a0_77 : AtI code 77 (.iload 7) 2 79 := ⟨by decide +kernel, rfl⟩
theorem a0_79 : AtI code 79 (.invokevirtual 20) 3 82 := ⟨by decide +kernel, rfl⟩
theorem a0_82 : AtI code 82 (.aload 11) 2 84 := ⟨by decide +kernel, rfl⟩
theorem a0_84 : AtI code 84 (.invokevirtual 24) 3 87 := ⟨by decide +kernel, rfl⟩
theorem a0_87 : AtI code 87 (.astore 12) 2 89 := ⟨by decide +kernel, rfl⟩
theorem a0_89 : AtI code 89 (.aload 11) 2 91 := ⟨by decide +kernel, rfl⟩
theorem a0_91 : AtI code 91 (.invokevirtual 17) 3 94 := ⟨by decide +kernel, rfl⟩
theorem a0_94 : AtI code 94 (.aload 11) 2 96 := ⟨by decide +kernel, rfl⟩
theorem a0_96 : AtI code 96 (.iload 8) 2 98 := ⟨by decide +kernel, rfl⟩
theorem a0_98 : AtI code 98 (.invokevirtual 20) 3 101 := ⟨by decide +kernel, rfl⟩
theorem a0_101 : AtI code 101 (.aload 11) 2 103 := ⟨by decide +kernel, rfl⟩
theorem a0_103 : AtI code 103 (.iload 9) 2 105 := ⟨by decide +kernel, rfl⟩
theorem a0_105 : AtI code 105 (.invokevirtual 20) 3 108 := ⟨by decide +kernel, rfl⟩
theorem a0_108 : AtI code 108 (.aload 11) 2 110 := ⟨by decide +kernel, rfl⟩
theorem a0_110 : AtI code 110 (.invokevirtual 24) 3 113 := ⟨by decide +kernel, rfl⟩
theorem a0_113 : AtI code 113 (.astore 13) 2 115 := ⟨by decide +kernel, rfl⟩
theorem a0_115 : AtI code 115 (.aload 12) 2 117 := ⟨by decide +kernel, rfl⟩
theorem a0_117 : AtI code 117 (.iload 5) 2 119 := ⟨by decide +kernel, rfl⟩
theorem a0_119 : AtI code 119 (.iload 6) 2 121 := ⟨by decide +kernel, rfl⟩
theorem a0_121 : AtI code 121 (.iload 7) 2 123 := ⟨by decide +kernel, rfl⟩
theorem a0_123 : AtI code 123 (.invokestatic 28) 3 126 := ⟨by decide +kernel, rfl⟩
theorem a0_126 : AtJ code 126 (.ifCond .eq) 129 147 := ⟨21, by decide +kernel, rfl, by decide, rfl⟩
theorem a0_129 : AtI code 129 (.aload 13) 2 131 := ⟨by decide +kernel, rfl⟩
theorem a0_131 : AtI code 131 (.iload 8) 2 133 := ⟨by decide +kernel, rfl⟩
theorem a0_133 : AtI code 133 (.iload 9) 2 135 := ⟨by decide +kernel, rfl⟩
theorem a0_135 : AtI code 135 (.iload 9) 2 137 := ⟨by decide +kernel, rfl⟩
theorem a0_137 : AtI code 137 (.invokestatic 28) 3 140 := ⟨by decide +kernel, rfl⟩
theorem a0_140 : AtJ code 140 (.ifCond .eq) 143 147 := ⟨7, by decide +kernel, rfl, by decide, rfl⟩
theorem a0_143 : AtI code 143 (.iconst 1) 1 144 := ⟨by decide +kernel, rfl⟩
theorem a0_144 : AtJ code 144 (.goto) 147 148 := ⟨4, by decide +kernel, rfl, by decide, rfl⟩
theorem a0_147 : AtI code 147 (.iconst 0) 1 148 := ⟨by decide +kernel, rfl⟩
theorem a0_148 : AtI code 148 (.ireturn) 1 149 := ⟨by decide +kernel, rfl⟩
set_option maxHeartbeats 4000000 in
theorem au10_3 {Z : State} {a0 : Array Value} (hw : ∀ d ∈ tables_1, d.before a0 Z = true) (ρ : Nat → Nat) (n0 : Nat) (x0 : Int32) (x1 : Int32) (x2 : Int32) (x3 : Int32) (o2 : WObj) (o3 : WObj) (o5 : WObj) (hx0 : ix4 x0) (u : Nat) : WGo (g10 Z ρ n0 7 u) (0, [wR 0], [], [(.inr (cn0, [(fk0, .ref 1), (fk1, .ref 2), (fk2, .ref 3)])), (wAI [.int 0, .int 0, .int 0, .int 0, .int 0]), o2, o3, (.inr (cn1, [(fk3, .ref 0), (fk4, .int 0), (fk5, .ref 5), (fk6, .ref 6), (fk7, .int 1), (fk8, .int 1)])), o5, (wAI [(.int x0), (.int x1), (.int x2), (.int x3)])], u) (fun v σ' u' => v = some (.ref 1) ∧ [(.inr (cn0, [(fk0, .ref 1), (fk1, .ref 2), (fk2, .ref 3)])), (wAI [.int 0, .int 0, .int 0, .int 0, .int 0]), o2, o3, (.inr (cn1, [(fk3, .ref 0), (fk4, .int 0), (fk5, .ref 5), (fk6, .ref 6), (fk7, .int 1), (fk8, .int 1)])), o5, (wAI [(.int x0), (.int x1), (.int x2), (.int x3)])] = σ' ∧ u = u') := by
  refine .s (.aloadN a10_0 rfl rfl) <| .s (.getF 0 a10_1 (wd hw 15 rfl) rfl rfl) ?_
  refine .areturn (.array .int) a10_4 rfl rfl rfl ?_
  exact ⟨rfl, rfl, rfl⟩
set_option maxHeartbeats 4000000 in
theorem au9_2 {Z : State} {a0 : Array Value} (hw : ∀ d ∈ tables_1, d.before a0 Z = true) (ρ : Nat → Nat) (n0 : Nat) (x0 : Int32) (x1 : Int32) (x2 : Int32) (x3 : Int32) (o2 : WObj) (o3 : WObj) (o5 : WObj) (hx0 : ix4 x0) (u : Nat) : WGo (g9 Z ρ n0 7 u) (0, [wR 4, wU, wU, wU], [], [(.inr (cn0, [(fk0, .ref 1), (fk1, .ref 2), (fk2, .ref 3)])), (wAI [.int 0, .int 0, .int 0, .int 0, .int 0]), o2, o3, (.inr (cn1, [(fk3, .ref 0), (fk4, .int 0), (fk5, .ref 5), (fk6, .ref 6), (fk7, .int 1), (fk8, .int 1)])), o5, (wAI [(.int x0), (.int x1), (.int x2), (.int x3)])], u) (fun v σ' u' => v = none ∧ [(.inr (cn0, [(fk0, .ref 1), (fk1, .ref 2), (fk2, .ref 3)])), (wAI [.int 0, .int 0, .int 0, .int 0, .int 0]), o2, o3, (.inr (cn1, [(fk3, .ref 0), (fk4, .int 0), (fk5, .ref 5), (fk6, .ref 6), (fk7, .int 1), (fk8, .int 1)])), o5, (wAI [(.int x0), (.int x1), (.int x2), (.int x3)])] = σ' ∧ u = u') := by
  refine .s (.iconst (0 : Int32) a9_0 rfl) <| .s (.istoreN (L' := [wR 4, wI 0, wU, wU]) a9_1 rfl) <| .s (.iloadN a9_2 rfl) <| .s (.aloadN a9_3 rfl rfl) <| .s (.getF 5 a9_4 (wd hw 48 rfl) rfl rfl) <| .s (.icmpF a9_7 (by decide)) <| .s (.aloadN a9_10 rfl rfl) ?_
  refine .s (.getF 3 a9_11 (wd hw 39 rfl) rfl rfl) <| .s (.iloadN a9_14 rfl) <| .s (.iaload 0 a9_15 rfl (by decide) rfl rfl) <| .s (.istoreN (L' := [wR 4, wI 0, wI x0, wU]) a9_16 rfl) <| .s (.aloadN a9_17 rfl rfl) <| .s (.getF 0 a9_18 (wd hw 28 rfl) rfl rfl) ?_
  refine .callV (k := 0) (z := (⟨"com/example/firm_handshake/firmhandshake/lts/Graph", "first", "()[I"⟩ : MethodName)) a9_21 (ok10 hw _ _ _ _) ⟨rfl, by decide⟩ (wd hw 64 rfl) (wd hw 65 rfl) (fun s hZ => notFace_of_selects (args := #[]) (mvT hZ (wd hw 67 rfl))) (wd hw 67 rfl) (wd hw 66 rfl) rfl (argsL := []) (S := []) (au10_3 hw _ _ x0 x1 x2 x3 o2 o3 o5 hx0 _) rfl rfl rfl rfl rfl rfl (Nat.le_of_ble_eq_true rfl) (Nat.le_of_ble_eq_true rfl) ?_
  rintro _ _ _ ⟨rfl, rfl, rfl⟩
  show WGo _ (24, [wR 4, wI 0, wI x0, wU], [.ref 1], [(.inr (cn0, [(fk0, .ref 1), (fk1, .ref 2), (fk2, .ref 3)])), (wAI [.int 0, .int 0, .int 0, .int 0, .int 0]), o2, o3, (.inr (cn1, [(fk3, .ref 0), (fk4, .int 0), (fk5, .ref 5), (fk6, .ref 6), (fk7, .int 1), (fk8, .int 1)])), o5, (wAI [(.int x0), (.int x1), (.int x2), (.int x3)])], u) _
  refine .s (.iloadN a9_24 rfl) <| .s (.iaload (x0.toNatClampNeg) (v := .int 0) a9_25 rfl (nn hx0.1) rfl (zer5 hx0.1 (Int.le_trans hx0.2 (by decide)))) <| .s (.istoreN (L' := [wR 4, wI 0, wI x0, wI 0]) a9_26 rfl) <| .s (.iloadN a9_27 rfl) <| .s (.aloadN a9_28 rfl rfl) <| .s (.getF 0 a9_29 (wd hw 28 rfl) rfl rfl) ?_
  refine .callV (k := 0) (z := (⟨"com/example/firm_handshake/firmhandshake/lts/Graph", "first", "()[I"⟩ : MethodName)) a9_32 (ok10 hw _ _ _ _) ⟨rfl, by decide⟩ (wd hw 64 rfl) (wd hw 65 rfl) (fun s hZ => notFace_of_selects (args := #[]) (mvT hZ (wd hw 67 rfl))) (wd hw 67 rfl) (wd hw 66 rfl) rfl (argsL := []) (S := [.int 0]) (au10_3 hw _ _ x0 x1 x2 x3 o2 o3 o5 hx0 _) rfl rfl rfl rfl rfl rfl (Nat.le_of_ble_eq_true rfl) (Nat.le_of_ble_eq_true rfl) ?_
  rintro _ _ _ ⟨rfl, rfl, rfl⟩
  show WGo _ (35, [wR 4, wI 0, wI x0, wI 0], [.ref 1, .int 0], [(.inr (cn0, [(fk0, .ref 1), (fk1, .ref 2), (fk2, .ref 3)])), (wAI [.int 0, .int 0, .int 0, .int 0, .int 0]), o2, o3, (.inr (cn1, [(fk3, .ref 0), (fk4, .int 0), (fk5, .ref 5), (fk6, .ref 6), (fk7, .int 1), (fk8, .int 1)])), o5, (wAI [(.int x0), (.int x1), (.int x2), (.int x3)])], u) _
  refine .s (.iloadN a9_35 rfl) <| .s (.iconst (1 : Int32) a9_36 rfl) <| .s (.iadd a9_37) <| .s (.iaload ((x0 + (1 : Int32)).toNatClampNeg) (v := .int 0) a9_38 rfl (nn (ix4_succ hx0).1) rfl (zer5 (ix4_succ hx0).1 (ix4_succ hx0).2)) <| .s (.icmpT a9_39 (by decide)) <| .s (.iinc (L' := [wR 4, wI 1, wI x0, wI 0]) a9_77 rfl rfl) <| .s (.goto a9_80) ?_
  refine .s (.iloadN a9_2 rfl) <| .s (.aloadN a9_3 rfl rfl) <| .s (.getF 5 a9_4 (wd hw 48 rfl) rfl rfl) <| .s (.icmpT a9_7 (by decide)) ?_
  refine .vreturn a9_83 rfl ?_
  exact ⟨rfl, rfl, rfl⟩
set_option maxHeartbeats 4000000 in
theorem au12_5 {Z : State} {a0 : Array Value} (hw : ∀ d ∈ tables_1, d.before a0 Z = true) (ρ : Nat → Nat) (n0 : Nat) (x0 : Int32) (x1 : Int32) (x2 : Int32) (x3 : Int32) (o2 : WObj) (o3 : WObj) (o5 : WObj) (hx0 : ix4 x0) (u : Nat) : WGo (g12 Z ρ n0 8 u) (0, [wI 4, wI 1], [], [(.inr (cn0, [(fk0, .ref 1), (fk1, .ref 2), (fk2, .ref 3)])), (wAI [.int 0, .int 0, .int 0, .int 0, .int 0]), o2, o3, (.inr (cn1, [(fk3, .ref 0), (fk4, .int 0), (fk5, .ref 5), (fk6, .ref 6), (fk7, .int 1), (fk8, .int 1)])), o5, (wAI [(.int x0), (.int x1), (.int x2), (.int x3)]), (wAI [.int 0])], u) (fun v σ' u' => v = some (.int 1) ∧ [(.inr (cn0, [(fk0, .ref 1), (fk1, .ref 2), (fk2, .ref 3)])), (wAI [.int 0, .int 0, .int 0, .int 0, .int 0]), o2, o3, (.inr (cn1, [(fk3, .ref 0), (fk4, .int 0), (fk5, .ref 5), (fk6, .ref 6), (fk7, .int 1), (fk8, .int 1)])), o5, (wAI [(.int x0), (.int x1), (.int x2), (.int x3)]), (wAI [.int 0])] = σ' ∧ u = u') := by
  refine .s (.iloadN a12_0 rfl) <| .s (.iloadN a12_1 rfl) <| .s (.icmpT a12_2 (by decide)) <| .s (.iloadN a12_9 rfl) ?_
  refine .ireturn .int a12_10 rfl (by simp) ?_
  exact ⟨rfl, rfl, rfl⟩
set_option maxHeartbeats 4000000 in
theorem au11_4 {Z : State} {a0 : Array Value} (hw : ∀ d ∈ tables_1, d.before a0 Z = true) (ρ : Nat → Nat) (n0 : Nat) (x0 : Int32) (x1 : Int32) (x2 : Int32) (x3 : Int32) (o2 : WObj) (o3 : WObj) (o5 : WObj) (hx0 : ix4 x0) (u : Nat) : WGo (g11 Z ρ n0 7 u) (0, [wR 6, wI 1, wU], [], [(.inr (cn0, [(fk0, .ref 1), (fk1, .ref 2), (fk2, .ref 3)])), (wAI [.int 0, .int 0, .int 0, .int 0, .int 0]), o2, o3, (.inr (cn1, [(fk3, .ref 0), (fk4, .int 0), (fk5, .ref 5), (fk6, .ref 6), (fk7, .int 1), (fk8, .int 1)])), o5, (wAI [(.int x0), (.int x1), (.int x2), (.int x3)])], u) (fun v σ' u' => v = some (.ref 7) ∧ [(.inr (cn0, [(fk0, .ref 1), (fk1, .ref 2), (fk2, .ref 3)])), (wAI [.int 0, .int 0, .int 0, .int 0, .int 0]), o2, o3, (.inr (cn1, [(fk3, .ref 0), (fk4, .int 0), (fk5, .ref 5), (fk6, .ref 6), (fk7, .int 1), (fk8, .int 1)])), o5, (wAI [(.int x0), (.int x1), (.int x2), (.int x3)]), (wAI [(.int x0)])] = σ' ∧ (u + 1) = u') := by
  refine .s (.iloadN a11_0 rfl) <| .s (.aloadN a11_1 rfl rfl) <| .s (.alen (4 : Int32) a11_2 rfl rfl) <| .s (.icmpT a11_3 (by decide)) <| .s (.iloadN a11_14 rfl) <| .s (.newP (k := 7) (1 : Int32) 1 a11_15 (wd hw 3 rfl) (by decide) rfl (by decide) rfl (by decide)) ?_
  show WGo _ (17, [wR 6, wI 1, wU], [.ref 7], [(.inr (cn0, [(fk0, .ref 1), (fk1, .ref 2), (fk2, .ref 3)])), (wAI [.int 0, .int 0, .int 0, .int 0, .int 0]), o2, o3, (.inr (cn1, [(fk3, .ref 0), (fk4, .int 0), (fk5, .ref 5), (fk6, .ref 6), (fk7, .int 1), (fk8, .int 1)])), o5, (wAI [(.int x0), (.int x1), (.int x2), (.int x3)]), (wAI [.int 0])], (u + 1)) _
  refine .s (.astoreN (L' := [wR 6, wI 1, wR 7]) a11_17 rfl rfl) <| .s (.aloadN a11_18 rfl rfl) <| .s (.iconst (0 : Int32) a11_19 rfl) <| .s (.aloadN a11_20 rfl rfl) <| .s (.iconst (0 : Int32) a11_21 rfl) <| .s (.aloadN a11_22 rfl rfl) <| .s (.alen (4 : Int32) a11_23 rfl rfl) ?_
  refine .s (.iloadN a11_24 rfl) ?_
  refine .callS a11_25 (ok12 hw _ _ _ _) (wd hw 73 rfl) (wd hw 74 rfl) (argsL := [.int 4, .int 1]) (S := [.int 0, .ref 7, .int 0, .ref 6]) (au12_5 hw _ _ x0 x1 x2 x3 o2 o3 o5 hx0 _) rfl rfl rfl rfl rfl rfl (Nat.le_of_ble_eq_true rfl) (Nat.le_of_ble_eq_true rfl) ?_
  rintro _ _ _ ⟨rfl, rfl, rfl⟩
  show WGo _ (28, [wR 6, wI 1, wR 7], [.int 1, .int 0, .ref 7, .int 0, .ref 6], [(.inr (cn0, [(fk0, .ref 1), (fk1, .ref 2), (fk2, .ref 3)])), (wAI [.int 0, .int 0, .int 0, .int 0, .int 0]), o2, o3, (.inr (cn1, [(fk3, .ref 0), (fk4, .int 0), (fk5, .ref 5), (fk6, .ref 6), (fk7, .int 1), (fk8, .int 1)])), o5, (wAI [(.int x0), (.int x1), (.int x2), (.int x3)]), (wAI [.int 0])], (u + 1)) _
  refine .s (.copyA (vr := [(.int x0)]) a11_28 (wd hw 77 rfl) (wd hw 80 rfl) (wd hw 78 rfl) (wd hw 79 rfl) rfl rfl rfl (by decide) (by decide) (by decide) (Nat.le_of_ble_eq_true rfl) (Nat.le_of_ble_eq_true rfl) (Nat.le_of_ble_eq_true rfl) (Nat.le_of_ble_eq_true rfl) rfl rfl (Nat.le_of_ble_eq_true rfl) (Nat.le_of_ble_eq_true rfl)) ?_
  show WGo _ (31, [wR 6, wI 1, wR 7], [], [(.inr (cn0, [(fk0, .ref 1), (fk1, .ref 2), (fk2, .ref 3)])), (wAI [.int 0, .int 0, .int 0, .int 0, .int 0]), o2, o3, (.inr (cn1, [(fk3, .ref 0), (fk4, .int 0), (fk5, .ref 5), (fk6, .ref 6), (fk7, .int 1), (fk8, .int 1)])), o5, (wAI [(.int x0), (.int x1), (.int x2), (.int x3)]), (wAI [(.int x0)])], (u + 1)) _
  refine .s (.aloadN a11_31 rfl rfl) ?_
  refine .areturn (.array .int) a11_32 rfl rfl rfl ?_
  exact ⟨rfl, rfl, rfl⟩
set_option maxHeartbeats 4000000 in
theorem au16_9 {Z : State} {a0 : Array Value} (hw : ∀ d ∈ tables_1, d.before a0 Z = true) (ρ : Nat → Nat) (n0 : Nat) (x0 : Int32) (x1 : Int32) (x2 : Int32) (x3 : Int32) (o2 : WObj) (o3 : WObj) (o5 : WObj) (hx0 : ix4 x0) (u : Nat) : WGo (g16 Z ρ n0 8 u) (0, [wR 7, wI 0, wI 1, wU, wU, wU], [], [(.inr (cn0, [(fk0, .ref 1), (fk1, .ref 2), (fk2, .ref 3)])), (wAI [.int 0, .int 0, .int 0, .int 0, .int 0]), o2, o3, (.inr (cn1, [(fk3, .ref 0), (fk4, .int 0), (fk5, .ref 5), (fk6, .ref 6), (fk7, .int 1), (fk8, .int 1)])), o5, (wAI [(.int x0), (.int x1), (.int x2), (.int x3)]), (wAI [(.int x0)])], u) (fun v σ' u' => v = none ∧ [(.inr (cn0, [(fk0, .ref 1), (fk1, .ref 2), (fk2, .ref 3)])), (wAI [.int 0, .int 0, .int 0, .int 0, .int 0]), o2, o3, (.inr (cn1, [(fk3, .ref 0), (fk4, .int 0), (fk5, .ref 5), (fk6, .ref 6), (fk7, .int 1), (fk8, .int 1)])), o5, (wAI [(.int x0), (.int x1), (.int x2), (.int x3)]), (wAI [(.int x0)])] = σ' ∧ u = u') := by
  refine .s (.iloadN a16_0 rfl) <| .s (.istore (L' := [wR 7, wI 0, wI 1, wU, wI 0, wU]) a16_1 rfl) <| .s (.iinc (L' := [wR 7, wI 0, wI 1, wU, wI 1, wU]) a16_3 rfl rfl) <| .s (.iload a16_6 rfl) <| .s (.iloadN a16_8 rfl) <| .s (.icmpT a16_9 (by decide)) ?_
  refine .vreturn a16_67 rfl ?_
  exact ⟨rfl, rfl, rfl⟩
set_option maxHeartbeats 4000000 in
theorem au15_8 {Z : State} {a0 : Array Value} (hw : ∀ d ∈ tables_1, d.before a0 Z = true) (ρ : Nat → Nat) (n0 : Nat) (x0 : Int32) (x1 : Int32) (x2 : Int32) (x3 : Int32) (o2 : WObj) (o3 : WObj) (o5 : WObj) (hx0 : ix4 x0) (u : Nat) : WGo (g15 Z ρ n0 8 u) (0, [wN, wR 7, wI 0, wI 0, wI 1, wU, wU, wU, wU, wU, wU, wU, wU, wU, wU, wU, wU, wU, wU, wU, wU], [], [(.inr (cn0, [(fk0, .ref 1), (fk1, .ref 2), (fk2, .ref 3)])), (wAI [.int 0, .int 0, .int 0, .int 0, .int 0]), o2, o3, (.inr (cn1, [(fk3, .ref 0), (fk4, .int 0), (fk5, .ref 5), (fk6, .ref 6), (fk7, .int 1), (fk8, .int 1)])), o5, (wAI [(.int x0), (.int x1), (.int x2), (.int x3)]), (wAI [(.int x0)])], u) (fun v σ' u' => v = none ∧ [(.inr (cn0, [(fk0, .ref 1), (fk1, .ref 2), (fk2, .ref 3)])), (wAI [.int 0, .int 0, .int 0, .int 0, .int 0]), o2, o3, (.inr (cn1, [(fk3, .ref 0), (fk4, .int 0), (fk5, .ref 5), (fk6, .ref 6), (fk7, .int 1), (fk8, .int 1)])), o5, (wAI [(.int x0), (.int x1), (.int x2), (.int x3)]), (wAI [(.int x0)])] = σ' ∧ u = u') := by
  refine .s (.iload a15_0 rfl) <| .s (.iconst (1 : Int32) a15_2 rfl) <| .s (.isub a15_3) ?_
  show WGo _ (4, [wN, wR 7, wI 0, wI 0, wI 1, wU, wU, wU, wU, wU, wU, wU, wU, wU, wU, wU, wU, wU, wU, wU, wU], [.int 0], [(.inr (cn0, [(fk0, .ref 1), (fk1, .ref 2), (fk2, .ref 3)])), (wAI [.int 0, .int 0, .int 0, .int 0, .int 0]), o2, o3, (.inr (cn1, [(fk3, .ref 0), (fk4, .int 0), (fk5, .ref 5), (fk6, .ref 6), (fk7, .int 1), (fk8, .int 1)])), o5, (wAI [(.int x0), (.int x1), (.int x2), (.int x3)]), (wAI [(.int x0)])], u) _
  refine .s (.istore (L' := [wN, wR 7, wI 0, wI 0, wI 1, wI 0, wU, wU, wU, wU, wU, wU, wU, wU, wU, wU, wU, wU, wU, wU, wU]) a15_4 rfl) <| .s (.iload a15_6 rfl) <| .s (.iloadN a15_8 rfl) <| .s (.isub a15_9) ?_
  show WGo _ (10, [wN, wR 7, wI 0, wI 0, wI 1, wI 0, wU, wU, wU, wU, wU, wU, wU, wU, wU, wU, wU, wU, wU, wU, wU], [.int 1], [(.inr (cn0, [(fk0, .ref 1), (fk1, .ref 2), (fk2, .ref 3)])), (wAI [.int 0, .int 0, .int 0, .int 0, .int 0]), o2, o3, (.inr (cn1, [(fk3, .ref 0), (fk4, .int 0), (fk5, .ref 5), (fk6, .ref 6), (fk7, .int 1), (fk8, .int 1)])), o5, (wAI [(.int x0), (.int x1), (.int x2), (.int x3)]), (wAI [(.int x0)])], u) _
  refine .s (.istore (L' := [wN, wR 7, wI 0, wI 0, wI 1, wI 0, wI 1, wU, wU, wU, wU, wU, wU, wU, wU, wU, wU, wU, wU, wU, wU]) a15_10 rfl) <| .s (.iload a15_12 rfl) <| .s (.bipush (65 : Int32) a15_14 rfl) <| .s (.iloadN a15_16 rfl) <| .s (.iadd a15_17) ?_
  show WGo _ (18, [wN, wR 7, wI 0, wI 0, wI 1, wI 0, wI 1, wU, wU, wU, wU, wU, wU, wU, wU, wU, wU, wU, wU, wU, wU], [.int 65, .int 1], [(.inr (cn0, [(fk0, .ref 1), (fk1, .ref 2), (fk2, .ref 3)])), (wAI [.int 0, .int 0, .int 0, .int 0, .int 0]), o2, o3, (.inr (cn1, [(fk3, .ref 0), (fk4, .int 0), (fk5, .ref 5), (fk6, .ref 6), (fk7, .int 1), (fk8, .int 1)])), o5, (wAI [(.int x0), (.int x1), (.int x2), (.int x3)]), (wAI [(.int x0)])], u) _
  refine .s (.icmpF a15_18 (by decide)) <| .s (.iloadN a15_21 rfl) <| .s (.iconst (1 : Int32) a15_22 rfl) <| .s (.iand a15_23) ?_
  show WGo _ (24, [wN, wR 7, wI 0, wI 0, wI 1, wI 0, wI 1, wU, wU, wU, wU, wU, wU, wU, wU, wU, wU, wU, wU, wU, wU], [.int 0], [(.inr (cn0, [(fk0, .ref 1), (fk1, .ref 2), (fk2, .ref 3)])), (wAI [.int 0, .int 0, .int 0, .int 0, .int 0]), o2, o3, (.inr (cn1, [(fk3, .ref 0), (fk4, .int 0), (fk5, .ref 5), (fk6, .ref 6), (fk7, .int 1), (fk8, .int 1)])), o5, (wAI [(.int x0), (.int x1), (.int x2), (.int x3)]), (wAI [(.int x0)])], u) _
  refine .s (.ifT a15_24 (by decide)) <| .s (.iload a15_46 rfl) <| .s (.bipush (44 : Int32) a15_48 rfl) <| .s (.icmpF a15_50 (by decide)) <| .s (.aloadN a15_53 rfl rfl) <| .s (.iloadN a15_54 rfl) <| .s (.iload a15_55 rfl) ?_
  refine .callS a15_57 (ok16 hw _ _ _ _) (wd hw 91 rfl) (wd hw 92 rfl) (argsL := [.ref 7, .int 0, .int 1]) (S := []) (au16_9 hw _ _ x0 x1 x2 x3 o2 o3 o5 hx0 _) rfl rfl rfl rfl rfl rfl (Nat.le_of_ble_eq_true rfl) (Nat.le_of_ble_eq_true rfl) ?_
  rintro _ _ _ ⟨rfl, rfl, rfl⟩
  show WGo _ (60, [wN, wR 7, wI 0, wI 0, wI 1, wI 0, wI 1, wU, wU, wU, wU, wU, wU, wU, wU, wU, wU, wU, wU, wU, wU], [], [(.inr (cn0, [(fk0, .ref 1), (fk1, .ref 2), (fk2, .ref 3)])), (wAI [.int 0, .int 0, .int 0, .int 0, .int 0]), o2, o3, (.inr (cn1, [(fk3, .ref 0), (fk4, .int 0), (fk5, .ref 5), (fk6, .ref 6), (fk7, .int 1), (fk8, .int 1)])), o5, (wAI [(.int x0), (.int x1), (.int x2), (.int x3)]), (wAI [(.int x0)])], u) _
  refine .vreturn a15_60 rfl ?_
  exact ⟨rfl, rfl, rfl⟩
set_option maxHeartbeats 4000000 in
theorem au14_7 {Z : State} {a0 : Array Value} (hw : ∀ d ∈ tables_1, d.before a0 Z = true) (ρ : Nat → Nat) (n0 : Nat) (x0 : Int32) (x1 : Int32) (x2 : Int32) (x3 : Int32) (o2 : WObj) (o3 : WObj) (o5 : WObj) (hx0 : ix4 x0) (u : Nat) : WGo (g14 Z ρ n0 8 u) (0, [wR 7, wI 0, wI 0, wI 1, wU, wU, wU], [], [(.inr (cn0, [(fk0, .ref 1), (fk1, .ref 2), (fk2, .ref 3)])), (wAI [.int 0, .int 0, .int 0, .int 0, .int 0]), o2, o3, (.inr (cn1, [(fk3, .ref 0), (fk4, .int 0), (fk5, .ref 5), (fk6, .ref 6), (fk7, .int 1), (fk8, .int 1)])), o5, (wAI [(.int x0), (.int x1), (.int x2), (.int x3)]), (wAI [(.int x0)])], u) (fun v σ' u' => v = none ∧ [(.inr (cn0, [(fk0, .ref 1), (fk1, .ref 2), (fk2, .ref 3)])), (wAI [.int 0, .int 0, .int 0, .int 0, .int 0]), o2, o3, (.inr (cn1, [(fk3, .ref 0), (fk4, .int 0), (fk5, .ref 5), (fk6, .ref 6), (fk7, .int 1), (fk8, .int 1)])), o5, (wAI [(.int x0), (.int x1), (.int x2), (.int x3)]), (wAI [(.int x0)])] = σ' ∧ u = u') := by
  refine .s (.iloadN a14_0 rfl) <| .s (.iloadN a14_1 rfl) <| .s (.isub a14_2) ?_
  show WGo _ (3, [wR 7, wI 0, wI 0, wI 1, wU, wU, wU], [.int 1], [(.inr (cn0, [(fk0, .ref 1), (fk1, .ref 2), (fk2, .ref 3)])), (wAI [.int 0, .int 0, .int 0, .int 0, .int 0]), o2, o3, (.inr (cn1, [(fk3, .ref 0), (fk4, .int 0), (fk5, .ref 5), (fk6, .ref 6), (fk7, .int 1), (fk8, .int 1)])), o5, (wAI [(.int x0), (.int x1), (.int x2), (.int x3)]), (wAI [(.int x0)])], u) _
  refine .s (.istore (L' := [wR 7, wI 0, wI 0, wI 1, wI 1, wU, wU]) a14_3 rfl) <| .s (.iloadN a14_5 rfl) <| .s (.iconst (1 : Int32) a14_6 rfl) <| .s (.icmpT a14_7 (by decide)) <| .s (.aconstNull a14_68) <| .s (.aloadN a14_69 rfl rfl) <| .s (.iconst (0 : Int32) a14_70 rfl) ?_
  refine .s (.iloadN a14_71 rfl) <| .s (.iloadN a14_72 rfl) ?_
  refine .callS a14_73 (ok15 hw _ _ _ _) (wd hw 88 rfl) (wd hw 89 rfl) (argsL := [.null, .ref 7, .int 0, .int 0, .int 1]) (S := []) (au15_8 hw _ _ x0 x1 x2 x3 o2 o3 o5 hx0 _) rfl rfl rfl rfl rfl rfl (Nat.le_of_ble_eq_true rfl) (Nat.le_of_ble_eq_true rfl) ?_
  rintro _ _ _ ⟨rfl, rfl, rfl⟩
  show WGo _ (76, [wR 7, wI 0, wI 0, wI 1, wI 1, wU, wU], [], [(.inr (cn0, [(fk0, .ref 1), (fk1, .ref 2), (fk2, .ref 3)])), (wAI [.int 0, .int 0, .int 0, .int 0, .int 0]), o2, o3, (.inr (cn1, [(fk3, .ref 0), (fk4, .int 0), (fk5, .ref 5), (fk6, .ref 6), (fk7, .int 1), (fk8, .int 1)])), o5, (wAI [(.int x0), (.int x1), (.int x2), (.int x3)]), (wAI [(.int x0)])], u) _
  refine .vreturn a14_76 rfl ?_
  exact ⟨rfl, rfl, rfl⟩
set_option maxHeartbeats 4000000 in
theorem au13_6 {Z : State} {a0 : Array Value} (hw : ∀ d ∈ tables_1, d.before a0 Z = true) (ρ : Nat → Nat) (n0 : Nat) (x0 : Int32) (x1 : Int32) (x2 : Int32) (x3 : Int32) (o2 : WObj) (o3 : WObj) (o5 : WObj) (hx0 : ix4 x0) (u : Nat) : WGo (g13 Z ρ n0 8 u) (0, [wR 7], [], [(.inr (cn0, [(fk0, .ref 1), (fk1, .ref 2), (fk2, .ref 3)])), (wAI [.int 0, .int 0, .int 0, .int 0, .int 0]), o2, o3, (.inr (cn1, [(fk3, .ref 0), (fk4, .int 0), (fk5, .ref 5), (fk6, .ref 6), (fk7, .int 1), (fk8, .int 1)])), o5, (wAI [(.int x0), (.int x1), (.int x2), (.int x3)]), (wAI [(.int x0)])], u) (fun v σ' u' => v = none ∧ [(.inr (cn0, [(fk0, .ref 1), (fk1, .ref 2), (fk2, .ref 3)])), (wAI [.int 0, .int 0, .int 0, .int 0, .int 0]), o2, o3, (.inr (cn1, [(fk3, .ref 0), (fk4, .int 0), (fk5, .ref 5), (fk6, .ref 6), (fk7, .int 1), (fk8, .int 1)])), o5, (wAI [(.int x0), (.int x1), (.int x2), (.int x3)]), (wAI [(.int x0)])] = σ' ∧ u = u') := by
  refine .s (.aloadN a13_0 rfl rfl) <| .s (.iconst (0 : Int32) a13_1 rfl) <| .s (.iconst (0 : Int32) a13_2 rfl) <| .s (.aloadN a13_3 rfl rfl) <| .s (.alen (1 : Int32) a13_4 rfl rfl) ?_
  refine .callS a13_5 (ok14 hw _ _ _ _) (wd hw 84 rfl) (wd hw 85 rfl) (argsL := [.ref 7, .int 0, .int 0, .int 1]) (S := []) (au14_7 hw _ _ x0 x1 x2 x3 o2 o3 o5 hx0 _) rfl rfl rfl rfl rfl rfl (Nat.le_of_ble_eq_true rfl) (Nat.le_of_ble_eq_true rfl) ?_
  rintro _ _ _ ⟨rfl, rfl, rfl⟩
  show WGo _ (8, [wR 7], [], [(.inr (cn0, [(fk0, .ref 1), (fk1, .ref 2), (fk2, .ref 3)])), (wAI [.int 0, .int 0, .int 0, .int 0, .int 0]), o2, o3, (.inr (cn1, [(fk3, .ref 0), (fk4, .int 0), (fk5, .ref 5), (fk6, .ref 6), (fk7, .int 1), (fk8, .int 1)])), o5, (wAI [(.int x0), (.int x1), (.int x2), (.int x3)]), (wAI [(.int x0)])], u) _
  refine .vreturn a13_8 rfl ?_
  exact ⟨rfl, rfl, rfl⟩
set_option maxHeartbeats 4000000 in
theorem au8_1 {Z : State} {a0 : Array Value} (hw : ∀ d ∈ tables_1, d.before a0 Z = true) (ρ : Nat → Nat) (n0 : Nat) (x0 : Int32) (x1 : Int32) (x2 : Int32) (x3 : Int32) (o2 : WObj) (o3 : WObj) (o5 : WObj) (hx0 : ix4 x0) (u : Nat) : WGo (g8 Z ρ n0 7 u) (0, [wR 4, wU], [], [(.inr (cn0, [(fk0, .ref 1), (fk1, .ref 2), (fk2, .ref 3)])), (wAI [.int 0, .int 0, .int 0, .int 0, .int 0]), o2, o3, (.inr (cn1, [(fk3, .ref 0), (fk4, .int 0), (fk5, .ref 5), (fk6, .ref 6), (fk7, .int 1), (fk8, .int 1)])), o5, (wAI [(.int x0), (.int x1), (.int x2), (.int x3)])], u) (fun v σ' u' => v = some (.ref 7) ∧ [(.inr (cn0, [(fk0, .ref 1), (fk1, .ref 2), (fk2, .ref 3)])), (wAI [.int 0, .int 0, .int 0, .int 0, .int 0]), o2, o3, (.inr (cn1, [(fk3, .ref 0), (fk4, .int 0), (fk5, .ref 5), (fk6, .ref 6), (fk7, .int 1), (fk8, .int 1)])), o5, (wAI [(.int x0), (.int x1), (.int x2), (.int x3)]), (wAI [(.int x0)])] = σ' ∧ (u + 1) = u') := by
  refine .s (.aloadN a8_0 rfl rfl) ?_
  refine .callP (k := 4) a8_1 (ok9 hw _ _ _ _) (wd hw 60 rfl) (wd hw 61 rfl) (selP (wd hw 22 rfl) (wd hw 61 rfl) (wd hw 62 rfl) (by decide)) (wd hw 62 rfl) rfl (argsL := []) (S := []) (au9_2 hw _ _ x0 x1 x2 x3 o2 o3 o5 hx0 _) rfl rfl rfl rfl rfl rfl (Nat.le_of_ble_eq_true rfl) (Nat.le_of_ble_eq_true rfl) ?_
  rintro _ _ _ ⟨rfl, rfl, rfl⟩
  show WGo _ (4, [wR 4, wU], [], [(.inr (cn0, [(fk0, .ref 1), (fk1, .ref 2), (fk2, .ref 3)])), (wAI [.int 0, .int 0, .int 0, .int 0, .int 0]), o2, o3, (.inr (cn1, [(fk3, .ref 0), (fk4, .int 0), (fk5, .ref 5), (fk6, .ref 6), (fk7, .int 1), (fk8, .int 1)])), o5, (wAI [(.int x0), (.int x1), (.int x2), (.int x3)])], u) _
  refine .s (.aloadN a8_4 rfl rfl) <| .s (.getF 3 a8_5 (wd hw 39 rfl) rfl rfl) <| .s (.aloadN a8_8 rfl rfl) <| .s (.getF 5 a8_9 (wd hw 48 rfl) rfl rfl) ?_
  refine .callS a8_12 (ok11 hw _ _ _ _) (wd hw 69 rfl) (wd hw 70 rfl) (argsL := [.ref 6, .int 1]) (S := []) (au11_4 hw _ _ x0 x1 x2 x3 o2 o3 o5 hx0 _) rfl rfl rfl rfl rfl rfl (Nat.le_of_ble_eq_true rfl) (Nat.le_of_ble_eq_true rfl) ?_
  rintro _ _ _ ⟨rfl, rfl, rfl⟩
  show WGo _ (15, [wR 4, wU], [.ref 7], [(.inr (cn0, [(fk0, .ref 1), (fk1, .ref 2), (fk2, .ref 3)])), (wAI [.int 0, .int 0, .int 0, .int 0, .int 0]), o2, o3, (.inr (cn1, [(fk3, .ref 0), (fk4, .int 0), (fk5, .ref 5), (fk6, .ref 6), (fk7, .int 1), (fk8, .int 1)])), o5, (wAI [(.int x0), (.int x1), (.int x2), (.int x3)]), (wAI [(.int x0)])], (u + 1)) _
  refine .s (.astoreN (L' := [wR 4, wR 7]) a8_15 rfl rfl) <| .s (.aloadN a8_16 rfl rfl) ?_
  refine .callS a8_17 (ok13 hw _ _ _ _) (wd hw 81 rfl) (wd hw 82 rfl) (argsL := [.ref 7]) (S := []) (au13_6 hw _ _ x0 x1 x2 x3 o2 o3 o5 hx0 _) rfl rfl rfl rfl rfl rfl (Nat.le_of_ble_eq_true rfl) (Nat.le_of_ble_eq_true rfl) ?_
  rintro _ _ _ ⟨rfl, rfl, rfl⟩
  show WGo _ (20, [wR 4, wR 7], [], [(.inr (cn0, [(fk0, .ref 1), (fk1, .ref 2), (fk2, .ref 3)])), (wAI [.int 0, .int 0, .int 0, .int 0, .int 0]), o2, o3, (.inr (cn1, [(fk3, .ref 0), (fk4, .int 0), (fk5, .ref 5), (fk6, .ref 6), (fk7, .int 1), (fk8, .int 1)])), o5, (wAI [(.int x0), (.int x1), (.int x2), (.int x3)]), (wAI [(.int x0)])], (u + 1)) _
  refine .s (.aloadN a8_20 rfl rfl) ?_
  refine .areturn (.array .int) a8_21 rfl rfl rfl ?_
  exact ⟨rfl, rfl, rfl⟩
theorem ccl_1_0 {Z : State} {a0 : Array Value} (hw : ∀ d ∈ tables_1, d.before a0 Z = true) (ρ : Nat → Nat) (n0 : Nat) (o2 o3 o5 : WObj) (x0 x1 x2 x3 : Int32) (hx0 : ix4 x0) (u : Nat) : WGo (g8 Z ρ n0 7 u) (0, [wR 4, wU], [], [(.inr (cn0, [(fk0, .ref 1), (fk1, .ref 2), (fk2, .ref 3)])), (wAI [.int 0, .int 0, .int 0, .int 0, .int 0]), o2, o3, (.inr (cn1, [(fk3, .ref 0), (fk4, .int 0), (fk5, .ref 5), (fk6, .ref 6), (fk7, .int 1), (fk8, .int 1)])), o5, (wAI [(.int x0), (.int x1), (.int x2), (.int x3)])], u) (fun v σ' u' => ∃ R : List Int32, Srt1 R x0 ∧ v = some (.ref 7) ∧ [(.inr (cn0, [(fk0, .ref 1), (fk1, .ref 2), (fk2, .ref 3)])), (wAI [.int 0, .int 0, .int 0, .int 0, .int 0]), o2, o3, (.inr (cn1, [(fk3, .ref 0), (fk4, .int 0), (fk5, .ref 5), (fk6, .ref 6), (fk7, .int 1), (fk8, .int 1)])), o5, (wAI [(.int x0), (.int x1), (.int x2), (.int x3)]), (wAI (ia R))] = σ' ∧ u + 1 = u') := by
  refine .mono (au8_1 hw ρ n0 x0 x1 x2 x3 o2 o3 o5 hx0 u) ?_
  rintro _ _ _ ⟨rfl, rfl, rfl⟩
  · exact ⟨[x0], rfl, rfl, rfl, rfl⟩
set_option maxHeartbeats 4000000 in
theorem au10_12 {Z : State} {a0 : Array Value} (hw : ∀ d ∈ tables_1, d.before a0 Z = true) (ρ : Nat → Nat) (n0 : Nat) (x0 : Int32) (x1 : Int32) (x2 : Int32) (x3 : Int32) (o2 : WObj) (o3 : WObj) (o5 : WObj) (hx0 : ix4 x0) (hx1 : ix4 x1) (u : Nat) : WGo (g10 Z ρ n0 7 u) (0, [wR 0], [], [(.inr (cn0, [(fk0, .ref 1), (fk1, .ref 2), (fk2, .ref 3)])), (wAI [.int 0, .int 0, .int 0, .int 0, .int 0]), o2, o3, (.inr (cn1, [(fk3, .ref 0), (fk4, .int 0), (fk5, .ref 5), (fk6, .ref 6), (fk7, .int 1), (fk8, .int 2)])), o5, (wAI [(.int x0), (.int x1), (.int x2), (.int x3)])], u) (fun v σ' u' => v = some (.ref 1) ∧ [(.inr (cn0, [(fk0, .ref 1), (fk1, .ref 2), (fk2, .ref 3)])), (wAI [.int 0, .int 0, .int 0, .int 0, .int 0]), o2, o3, (.inr (cn1, [(fk3, .ref 0), (fk4, .int 0), (fk5, .ref 5), (fk6, .ref 6), (fk7, .int 1), (fk8, .int 2)])), o5, (wAI [(.int x0), (.int x1), (.int x2), (.int x3)])] = σ' ∧ u = u') := by
  refine .s (.aloadN a10_0 rfl rfl) <| .s (.getF 0 a10_1 (wd hw 15 rfl) rfl rfl) ?_
  refine .areturn (.array .int) a10_4 rfl rfl rfl ?_
  exact ⟨rfl, rfl, rfl⟩
set_option maxHeartbeats 4000000 in
theorem au9_11 {Z : State} {a0 : Array Value} (hw : ∀ d ∈ tables_1, d.before a0 Z = true) (ρ : Nat → Nat) (n0 : Nat) (x0 : Int32) (x1 : Int32) (x2 : Int32) (x3 : Int32) (o2 : WObj) (o3 : WObj) (o5 : WObj) (hx0 : ix4 x0) (hx1 : ix4 x1) (u : Nat) : WGo (g9 Z ρ n0 7 u) (0, [wR 4, wU, wU, wU], [], [(.inr (cn0, [(fk0, .ref 1), (fk1, .ref 2), (fk2, .ref 3)])), (wAI [.int 0, .int 0, .int 0, .int 0, .int 0]), o2, o3, (.inr (cn1, [(fk3, .ref 0), (fk4, .int 0), (fk5, .ref 5), (fk6, .ref 6), (fk7, .int 1), (fk8, .int 2)])), o5, (wAI [(.int x0), (.int x1), (.int x2), (.int x3)])], u) (fun v σ' u' => v = none ∧ [(.inr (cn0, [(fk0, .ref 1), (fk1, .ref 2), (fk2, .ref 3)])), (wAI [.int 0, .int 0, .int 0, .int 0, .int 0]), o2, o3, (.inr (cn1, [(fk3, .ref 0), (fk4, .int 0), (fk5, .ref 5), (fk6, .ref 6), (fk7, .int 1), (fk8, .int 2)])), o5, (wAI [(.int x0), (.int x1), (.int x2), (.int x3)])] = σ' ∧ u = u') := by
  refine .s (.iconst (0 : Int32) a9_0 rfl) <| .s (.istoreN (L' := [wR 4, wI 0, wU, wU]) a9_1 rfl) <| .s (.iloadN a9_2 rfl) <| .s (.aloadN a9_3 rfl rfl) <| .s (.getF 5 a9_4 (wd hw 48 rfl) rfl rfl) <| .s (.icmpF a9_7 (by decide)) <| .s (.aloadN a9_10 rfl rfl) ?_
  refine .s (.getF 3 a9_11 (wd hw 39 rfl) rfl rfl) <| .s (.iloadN a9_14 rfl) <| .s (.iaload 0 a9_15 rfl (by decide) rfl rfl) <| .s (.istoreN (L' := [wR 4, wI 0, wI x0, wU]) a9_16 rfl) <| .s (.aloadN a9_17 rfl rfl) <| .s (.getF 0 a9_18 (wd hw 28 rfl) rfl rfl) ?_
  refine .callV (k := 0) (z := (⟨"com/example/firm_handshake/firmhandshake/lts/Graph", "first", "()[I"⟩ : MethodName)) a9_21 (ok10 hw _ _ _ _) ⟨rfl, by decide⟩ (wd hw 64 rfl) (wd hw 65 rfl) (fun s hZ => notFace_of_selects (args := #[]) (mvT hZ (wd hw 67 rfl))) (wd hw 67 rfl) (wd hw 66 rfl) rfl (argsL := []) (S := []) (au10_12 hw _ _ x0 x1 x2 x3 o2 o3 o5 hx0 hx1 _) rfl rfl rfl rfl rfl rfl (Nat.le_of_ble_eq_true rfl) (Nat.le_of_ble_eq_true rfl) ?_
  rintro _ _ _ ⟨rfl, rfl, rfl⟩
  show WGo _ (24, [wR 4, wI 0, wI x0, wU], [.ref 1], [(.inr (cn0, [(fk0, .ref 1), (fk1, .ref 2), (fk2, .ref 3)])), (wAI [.int 0, .int 0, .int 0, .int 0, .int 0]), o2, o3, (.inr (cn1, [(fk3, .ref 0), (fk4, .int 0), (fk5, .ref 5), (fk6, .ref 6), (fk7, .int 1), (fk8, .int 2)])), o5, (wAI [(.int x0), (.int x1), (.int x2), (.int x3)])], u) _
  refine .s (.iloadN a9_24 rfl) <| .s (.iaload (x0.toNatClampNeg) (v := .int 0) a9_25 rfl (nn hx0.1) rfl (zer5 hx0.1 (Int.le_trans hx0.2 (by decide)))) <| .s (.istoreN (L' := [wR 4, wI 0, wI x0, wI 0]) a9_26 rfl) <| .s (.iloadN a9_27 rfl) <| .s (.aloadN a9_28 rfl rfl) <| .s (.getF 0 a9_29 (wd hw 28 rfl) rfl rfl) ?_
  refine .callV (k := 0) (z := (⟨"com/example/firm_handshake/firmhandshake/lts/Graph", "first", "()[I"⟩ : MethodName)) a9_32 (ok10 hw _ _ _ _) ⟨rfl, by decide⟩ (wd hw 64 rfl) (wd hw 65 rfl) (fun s hZ => notFace_of_selects (args := #[]) (mvT hZ (wd hw 67 rfl))) (wd hw 67 rfl) (wd hw 66 rfl) rfl (argsL := []) (S := [.int 0]) (au10_12 hw _ _ x0 x1 x2 x3 o2 o3 o5 hx0 hx1 _) rfl rfl rfl rfl rfl rfl (Nat.le_of_ble_eq_true rfl) (Nat.le_of_ble_eq_true rfl) ?_
  rintro _ _ _ ⟨rfl, rfl, rfl⟩
  show WGo _ (35, [wR 4, wI 0, wI x0, wI 0], [.ref 1, .int 0], [(.inr (cn0, [(fk0, .ref 1), (fk1, .ref 2), (fk2, .ref 3)])), (wAI [.int 0, .int 0, .int 0, .int 0, .int 0]), o2, o3, (.inr (cn1, [(fk3, .ref 0), (fk4, .int 0), (fk5, .ref 5), (fk6, .ref 6), (fk7, .int 1), (fk8, .int 2)])), o5, (wAI [(.int x0), (.int x1), (.int x2), (.int x3)])], u) _
  refine .s (.iloadN a9_35 rfl) <| .s (.iconst (1 : Int32) a9_36 rfl) <| .s (.iadd a9_37) <| .s (.iaload ((x0 + (1 : Int32)).toNatClampNeg) (v := .int 0) a9_38 rfl (nn (ix4_succ hx0).1) rfl (zer5 (ix4_succ hx0).1 (ix4_succ hx0).2)) <| .s (.icmpT a9_39 (by decide)) <| .s (.iinc (L' := [wR 4, wI 1, wI x0, wI 0]) a9_77 rfl rfl) <| .s (.goto a9_80) ?_
  refine .s (.iloadN a9_2 rfl) <| .s (.aloadN a9_3 rfl rfl) <| .s (.getF 5 a9_4 (wd hw 48 rfl) rfl rfl) <| .s (.icmpF a9_7 (by decide)) <| .s (.aloadN a9_10 rfl rfl) <| .s (.getF 3 a9_11 (wd hw 39 rfl) rfl rfl) <| .s (.iloadN a9_14 rfl) ?_
  refine .s (.iaload 1 a9_15 rfl (by decide) rfl rfl) <| .s (.istoreN (L' := [wR 4, wI 1, wI x1, wI 0]) a9_16 rfl) <| .s (.aloadN a9_17 rfl rfl) <| .s (.getF 0 a9_18 (wd hw 28 rfl) rfl rfl) ?_
  refine .callV (k := 0) (z := (⟨"com/example/firm_handshake/firmhandshake/lts/Graph", "first", "()[I"⟩ : MethodName)) a9_21 (ok10 hw _ _ _ _) ⟨rfl, by decide⟩ (wd hw 64 rfl) (wd hw 65 rfl) (fun s hZ => notFace_of_selects (args := #[]) (mvT hZ (wd hw 67 rfl))) (wd hw 67 rfl) (wd hw 66 rfl) rfl (argsL := []) (S := []) (au10_12 hw _ _ x0 x1 x2 x3 o2 o3 o5 hx0 hx1 _) rfl rfl rfl rfl rfl rfl (Nat.le_of_ble_eq_true rfl) (Nat.le_of_ble_eq_true rfl) ?_
  rintro _ _ _ ⟨rfl, rfl, rfl⟩
  show WGo _ (24, [wR 4, wI 1, wI x1, wI 0], [.ref 1], [(.inr (cn0, [(fk0, .ref 1), (fk1, .ref 2), (fk2, .ref 3)])), (wAI [.int 0, .int 0, .int 0, .int 0, .int 0]), o2, o3, (.inr (cn1, [(fk3, .ref 0), (fk4, .int 0), (fk5, .ref 5), (fk6, .ref 6), (fk7, .int 1), (fk8, .int 2)])), o5, (wAI [(.int x0), (.int x1), (.int x2), (.int x3)])], u) _
  refine .s (.iloadN a9_24 rfl) <| .s (.iaload (x1.toNatClampNeg) (v := .int 0) a9_25 rfl (nn hx1.1) rfl (zer5 hx1.1 (Int.le_trans hx1.2 (by decide)))) <| .s (.istoreN (L' := [wR 4, wI 1, wI x1, wI 0]) a9_26 rfl) <| .s (.iloadN a9_27 rfl) <| .s (.aloadN a9_28 rfl rfl) <| .s (.getF 0 a9_29 (wd hw 28 rfl) rfl rfl) ?_
  refine .callV (k := 0) (z := (⟨"com/example/firm_handshake/firmhandshake/lts/Graph", "first", "()[I"⟩ : MethodName)) a9_32 (ok10 hw _ _ _ _) ⟨rfl, by decide⟩ (wd hw 64 rfl) (wd hw 65 rfl) (fun s hZ => notFace_of_selects (args := #[]) (mvT hZ (wd hw 67 rfl))) (wd hw 67 rfl) (wd hw 66 rfl) rfl (argsL := []) (S := [.int 0]) (au10_12 hw _ _ x0 x1 x2 x3 o2 o3 o5 hx0 hx1 _) rfl rfl rfl rfl rfl rfl (Nat.le_of_ble_eq_true rfl) (Nat.le_of_ble_eq_true rfl) ?_
  rintro _ _ _ ⟨rfl, rfl, rfl⟩
  show WGo _ (35, [wR 4, wI 1, wI x1, wI 0], [.ref 1, .int 0], [(.inr (cn0, [(fk0, .ref 1), (fk1, .ref 2), (fk2, .ref 3)])), (wAI [.int 0, .int 0, .int 0, .int 0, .int 0]), o2, o3, (.inr (cn1, [(fk3, .ref 0), (fk4, .int 0), (fk5, .ref 5), (fk6, .ref 6), (fk7, .int 1), (fk8, .int 2)])), o5, (wAI [(.int x0), (.int x1), (.int x2), (.int x3)])], u) _
  refine .s (.iloadN a9_35 rfl) <| .s (.iconst (1 : Int32) a9_36 rfl) <| .s (.iadd a9_37) <| .s (.iaload ((x1 + (1 : Int32)).toNatClampNeg) (v := .int 0) a9_38 rfl (nn (ix4_succ hx1).1) rfl (zer5 (ix4_succ hx1).1 (ix4_succ hx1).2)) <| .s (.icmpT a9_39 (by decide)) <| .s (.iinc (L' := [wR 4, wI 2, wI x1, wI 0]) a9_77 rfl rfl) <| .s (.goto a9_80) ?_
  refine .s (.iloadN a9_2 rfl) <| .s (.aloadN a9_3 rfl rfl) <| .s (.getF 5 a9_4 (wd hw 48 rfl) rfl rfl) <| .s (.icmpT a9_7 (by decide)) ?_
  refine .vreturn a9_83 rfl ?_
  exact ⟨rfl, rfl, rfl⟩
set_option maxHeartbeats 4000000 in
theorem au12_14 {Z : State} {a0 : Array Value} (hw : ∀ d ∈ tables_1, d.before a0 Z = true) (ρ : Nat → Nat) (n0 : Nat) (x0 : Int32) (x1 : Int32) (x2 : Int32) (x3 : Int32) (o2 : WObj) (o3 : WObj) (o5 : WObj) (hx0 : ix4 x0) (hx1 : ix4 x1) (u : Nat) : WGo (g12 Z ρ n0 8 u) (0, [wI 4, wI 2], [], [(.inr (cn0, [(fk0, .ref 1), (fk1, .ref 2), (fk2, .ref 3)])), (wAI [.int 0, .int 0, .int 0, .int 0, .int 0]), o2, o3, (.inr (cn1, [(fk3, .ref 0), (fk4, .int 0), (fk5, .ref 5), (fk6, .ref 6), (fk7, .int 1), (fk8, .int 2)])), o5, (wAI [(.int x0), (.int x1), (.int x2), (.int x3)]), (wAI [.int 0, .int 0])], u) (fun v σ' u' => v = some (.int 2) ∧ [(.inr (cn0, [(fk0, .ref 1), (fk1, .ref 2), (fk2, .ref 3)])), (wAI [.int 0, .int 0, .int 0, .int 0, .int 0]), o2, o3, (.inr (cn1, [(fk3, .ref 0), (fk4, .int 0), (fk5, .ref 5), (fk6, .ref 6), (fk7, .int 1), (fk8, .int 2)])), o5, (wAI [(.int x0), (.int x1), (.int x2), (.int x3)]), (wAI [.int 0, .int 0])] = σ' ∧ u = u') := by
  refine .s (.iloadN a12_0 rfl) <| .s (.iloadN a12_1 rfl) <| .s (.icmpT a12_2 (by decide)) <| .s (.iloadN a12_9 rfl) ?_
  refine .ireturn .int a12_10 rfl (by simp) ?_
  exact ⟨rfl, rfl, rfl⟩
set_option maxHeartbeats 4000000 in
theorem au11_13 {Z : State} {a0 : Array Value} (hw : ∀ d ∈ tables_1, d.before a0 Z = true) (ρ : Nat → Nat) (n0 : Nat) (x0 : Int32) (x1 : Int32) (x2 : Int32) (x3 : Int32) (o2 : WObj) (o3 : WObj) (o5 : WObj) (hx0 : ix4 x0) (hx1 : ix4 x1) (u : Nat) : WGo (g11 Z ρ n0 7 u) (0, [wR 6, wI 2, wU], [], [(.inr (cn0, [(fk0, .ref 1), (fk1, .ref 2), (fk2, .ref 3)])), (wAI [.int 0, .int 0, .int 0, .int 0, .int 0]), o2, o3, (.inr (cn1, [(fk3, .ref 0), (fk4, .int 0), (fk5, .ref 5), (fk6, .ref 6), (fk7, .int 1), (fk8, .int 2)])), o5, (wAI [(.int x0), (.int x1), (.int x2), (.int x3)])], u) (fun v σ' u' => v = some (.ref 7) ∧ [(.inr (cn0, [(fk0, .ref 1), (fk1, .ref 2), (fk2, .ref 3)])), (wAI [.int 0, .int 0, .int 0, .int 0, .int 0]), o2, o3, (.inr (cn1, [(fk3, .ref 0), (fk4, .int 0), (fk5, .ref 5), (fk6, .ref 6), (fk7, .int 1), (fk8, .int 2)])), o5, (wAI [(.int x0), (.int x1), (.int x2), (.int x3)]), (wAI [(.int x0), (.int x1)])] = σ' ∧ (u + 2) = u') := by
  refine .s (.iloadN a11_0 rfl) <| .s (.aloadN a11_1 rfl rfl) <| .s (.alen (4 : Int32) a11_2 rfl rfl) <| .s (.icmpT a11_3 (by decide)) <| .s (.iloadN a11_14 rfl) <| .s (.newP (k := 7) (2 : Int32) 2 a11_15 (wd hw 3 rfl) (by decide) rfl (by decide) rfl (by decide)) ?_
  show WGo _ (17, [wR 6, wI 2, wU], [.ref 7], [(.inr (cn0, [(fk0, .ref 1), (fk1, .ref 2), (fk2, .ref 3)])), (wAI [.int 0, .int 0, .int 0, .int 0, .int 0]), o2, o3, (.inr (cn1, [(fk3, .ref 0), (fk4, .int 0), (fk5, .ref 5), (fk6, .ref 6), (fk7, .int 1), (fk8, .int 2)])), o5, (wAI [(.int x0), (.int x1), (.int x2), (.int x3)]), (wAI [.int 0, .int 0])], (u + 2)) _
  refine .s (.astoreN (L' := [wR 6, wI 2, wR 7]) a11_17 rfl rfl) <| .s (.aloadN a11_18 rfl rfl) <| .s (.iconst (0 : Int32) a11_19 rfl) <| .s (.aloadN a11_20 rfl rfl) <| .s (.iconst (0 : Int32) a11_21 rfl) <| .s (.aloadN a11_22 rfl rfl) <| .s (.alen (4 : Int32) a11_23 rfl rfl) ?_
  refine .s (.iloadN a11_24 rfl) ?_
  refine .callS a11_25 (ok12 hw _ _ _ _) (wd hw 73 rfl) (wd hw 74 rfl) (argsL := [.int 4, .int 2]) (S := [.int 0, .ref 7, .int 0, .ref 6]) (au12_14 hw _ _ x0 x1 x2 x3 o2 o3 o5 hx0 hx1 _) rfl rfl rfl rfl rfl rfl (Nat.le_of_ble_eq_true rfl) (Nat.le_of_ble_eq_true rfl) ?_
  rintro _ _ _ ⟨rfl, rfl, rfl⟩
  show WGo _ (28, [wR 6, wI 2, wR 7], [.int 2, .int 0, .ref 7, .int 0, .ref 6], [(.inr (cn0, [(fk0, .ref 1), (fk1, .ref 2), (fk2, .ref 3)])), (wAI [.int 0, .int 0, .int 0, .int 0, .int 0]), o2, o3, (.inr (cn1, [(fk3, .ref 0), (fk4, .int 0), (fk5, .ref 5), (fk6, .ref 6), (fk7, .int 1), (fk8, .int 2)])), o5, (wAI [(.int x0), (.int x1), (.int x2), (.int x3)]), (wAI [.int 0, .int 0])], (u + 2)) _
  refine .s (.copyA (vr := [(.int x0), (.int x1)]) a11_28 (wd hw 77 rfl) (wd hw 80 rfl) (wd hw 78 rfl) (wd hw 79 rfl) rfl rfl rfl (by decide) (by decide) (by decide) (Nat.le_of_ble_eq_true rfl) (Nat.le_of_ble_eq_true rfl) (Nat.le_of_ble_eq_true rfl) (Nat.le_of_ble_eq_true rfl) rfl rfl (Nat.le_of_ble_eq_true rfl) (Nat.le_of_ble_eq_true rfl)) ?_
  show WGo _ (31, [wR 6, wI 2, wR 7], [], [(.inr (cn0, [(fk0, .ref 1), (fk1, .ref 2), (fk2, .ref 3)])), (wAI [.int 0, .int 0, .int 0, .int 0, .int 0]), o2, o3, (.inr (cn1, [(fk3, .ref 0), (fk4, .int 0), (fk5, .ref 5), (fk6, .ref 6), (fk7, .int 1), (fk8, .int 2)])), o5, (wAI [(.int x0), (.int x1), (.int x2), (.int x3)]), (wAI [(.int x0), (.int x1)])], (u + 2)) _
  refine .s (.aloadN a11_31 rfl rfl) ?_
  refine .areturn (.array .int) a11_32 rfl rfl rfl ?_
  exact ⟨rfl, rfl, rfl⟩
set_option maxHeartbeats 4000000 in
theorem au16_18 {Z : State} {a0 : Array Value} (hw : ∀ d ∈ tables_1, d.before a0 Z = true) (ρ : Nat → Nat) (n0 : Nat) (x0 : Int32) (x1 : Int32) (x2 : Int32) (x3 : Int32) (o2 : WObj) (o3 : WObj) (o5 : WObj) (hx0 : ix4 x0) (hx1 : ix4 x1) (u : Nat) : WGo (g16 Z ρ n0 8 u) (0, [wR 7, wI 0, wI 2, wU, wU, wU], [], [(.inr (cn0, [(fk0, .ref 1), (fk1, .ref 2), (fk2, .ref 3)])), (wAI [.int 0, .int 0, .int 0, .int 0, .int 0]), o2, o3, (.inr (cn1, [(fk3, .ref 0), (fk4, .int 0), (fk5, .ref 5), (fk6, .ref 6), (fk7, .int 1), (fk8, .int 2)])), o5, (wAI [(.int x0), (.int x1), (.int x2), (.int x3)]), (wAI [(.int x0), (.int x1)])], u) (fun v σ' u' => (¬ x1 < x0 ∧ v = none ∧ [(.inr (cn0, [(fk0, .ref 1), (fk1, .ref 2), (fk2, .ref 3)])), (wAI [.int 0, .int 0, .int 0, .int 0, .int 0]), o2, o3, (.inr (cn1, [(fk3, .ref 0), (fk4, .int 0), (fk5, .ref 5), (fk6, .ref 6), (fk7, .int 1), (fk8, .int 2)])), o5, (wAI [(.int x0), (.int x1), (.int x2), (.int x3)]), (wAI [(.int x0), (.int x1)])] = σ' ∧ u = u') ∨ (x1 < x0 ∧ x1 < x0 ∧ v = none ∧ [(.inr (cn0, [(fk0, .ref 1), (fk1, .ref 2), (fk2, .ref 3)])), (wAI [.int 0, .int 0, .int 0, .int 0, .int 0]), o2, o3, (.inr (cn1, [(fk3, .ref 0), (fk4, .int 0), (fk5, .ref 5), (fk6, .ref 6), (fk7, .int 1), (fk8, .int 2)])), o5, (wAI [(.int x0), (.int x1), (.int x2), (.int x3)]), (wAI [(.int x1), (.int x0)])] = σ' ∧ u = u')) := by
  refine .s (.iloadN a16_0 rfl) <| .s (.istore (L' := [wR 7, wI 0, wI 2, wU, wI 0, wU]) a16_1 rfl) <| .s (.iinc (L' := [wR 7, wI 0, wI 2, wU, wI 1, wU]) a16_3 rfl rfl) <| .s (.iload a16_6 rfl) <| .s (.iloadN a16_8 rfl) <| .s (.icmpF a16_9 (by decide)) <| .s (.aloadN a16_12 rfl rfl) ?_
  refine .s (.iload a16_13 rfl) <| .s (.dup a16_15 rfl) <| .s (.istoreN (L' := [wR 7, wI 0, wI 2, wI 1, wI 1, wU]) a16_16 rfl) <| .s (.iaload 1 a16_17 rfl (by decide) rfl rfl) <| .s (.istore (L' := [wR 7, wI 0, wI 2, wI 1, wI 1, wI x1]) a16_18 rfl) <| .s (.iload a16_20 rfl) <| .s (.aloadN a16_22 rfl rfl) ?_
  refine .s (.iloadN a16_23 rfl) <| .s (.iconst (1 : Int32) a16_24 rfl) <| .s (.isub a16_25) ?_
  show WGo _ (26, [wR 7, wI 0, wI 2, wI 1, wI 1, wI x1], [.int 0, .ref 7, (.int x1)], [(.inr (cn0, [(fk0, .ref 1), (fk1, .ref 2), (fk2, .ref 3)])), (wAI [.int 0, .int 0, .int 0, .int 0, .int 0]), o2, o3, (.inr (cn1, [(fk3, .ref 0), (fk4, .int 0), (fk5, .ref 5), (fk6, .ref 6), (fk7, .int 1), (fk8, .int 2)])), o5, (wAI [(.int x0), (.int x1), (.int x2), (.int x3)]), (wAI [(.int x0), (.int x1)])], u) _
  refine .s (.iaload 0 a16_26 rfl (by decide) rfl rfl) ?_
  refine .ge a16_27 (fun h27 => ?_) (fun h27 => ?_)
  · refine .s (.goto a16_64) <| .s (.iinc (L' := [wR 7, wI 0, wI 2, wI 1, wI 2, wI x1]) a16_3 rfl rfl) <| .s (.iload a16_6 rfl) <| .s (.iloadN a16_8 rfl) <| .s (.icmpT a16_9 (by decide)) ?_
    refine .vreturn a16_67 rfl ?_
    exact Or.inl ⟨h27, rfl, rfl, rfl⟩
  · refine .s (.iinc (L' := [wR 7, wI 0, wI 2, wI 0, wI 1, wI x1]) a16_30 rfl rfl) <| .s (.iloadN a16_33 rfl) <| .s (.iloadN a16_34 rfl) <| .s (.icmpF a16_35 (by decide)) <| .s (.iload a16_38 rfl) <| .s (.aloadN a16_40 rfl rfl) <| .s (.iloadN a16_41 rfl) ?_
    refine .s (.iaload 0 a16_42 rfl (by decide) rfl rfl) ?_
    refine .ge a16_43 (fun h43 => ?_) (fun h43 => ?_)
    · exfalso
      simp only [Int32.lt_iff_toInt_lt, Int64.lt_iff_toInt_lt, ← Int32.toInt_inj, ← Int64.toInt_inj, Int32.reduceToInt, Int64.reduceToInt] at *
      omega
    · refine .s (.aloadN a16_46 rfl rfl) <| .s (.iloadN a16_47 rfl) <| .s (.iconst (1 : Int32) a16_48 rfl) <| .s (.iadd a16_49) ?_
      show WGo _ (50, [wR 7, wI 0, wI 2, wI 0, wI 1, wI x1], [.int 1, .ref 7], [(.inr (cn0, [(fk0, .ref 1), (fk1, .ref 2), (fk2, .ref 3)])), (wAI [.int 0, .int 0, .int 0, .int 0, .int 0]), o2, o3, (.inr (cn1, [(fk3, .ref 0), (fk4, .int 0), (fk5, .ref 5), (fk6, .ref 6), (fk7, .int 1), (fk8, .int 2)])), o5, (wAI [(.int x0), (.int x1), (.int x2), (.int x3)]), (wAI [(.int x0), (.int x1)])], u) _
      refine .s (.aloadN a16_50 rfl rfl) <| .s (.iloadN a16_51 rfl) <| .s (.iaload 0 a16_52 rfl (by decide) rfl rfl) <| .s (.iastore 1 a16_53 rfl (by decide) rfl (Nat.le_of_ble_eq_true rfl)) ?_
      show WGo _ (54, [wR 7, wI 0, wI 2, wI 0, wI 1, wI x1], [], [(.inr (cn0, [(fk0, .ref 1), (fk1, .ref 2), (fk2, .ref 3)])), (wAI [.int 0, .int 0, .int 0, .int 0, .int 0]), o2, o3, (.inr (cn1, [(fk3, .ref 0), (fk4, .int 0), (fk5, .ref 5), (fk6, .ref 6), (fk7, .int 1), (fk8, .int 2)])), o5, (wAI [(.int x0), (.int x1), (.int x2), (.int x3)]), (wAI [(.int x0), (.int x0)])], u) _
      refine .s (.goto a16_54) <| .s (.iinc (L' := [wR 7, wI 0, wI 2, wI (-1), wI 1, wI x1]) a16_30 rfl rfl) <| .s (.iloadN a16_33 rfl) <| .s (.iloadN a16_34 rfl) <| .s (.icmpT a16_35 (by decide)) <| .s (.aloadN a16_57 rfl rfl) <| .s (.iloadN a16_58 rfl) ?_
      refine .s (.iconst (1 : Int32) a16_59 rfl) <| .s (.iadd a16_60) ?_
      show WGo _ (61, [wR 7, wI 0, wI 2, wI (-1), wI 1, wI x1], [.int 0, .ref 7], [(.inr (cn0, [(fk0, .ref 1), (fk1, .ref 2), (fk2, .ref 3)])), (wAI [.int 0, .int 0, .int 0, .int 0, .int 0]), o2, o3, (.inr (cn1, [(fk3, .ref 0), (fk4, .int 0), (fk5, .ref 5), (fk6, .ref 6), (fk7, .int 1), (fk8, .int 2)])), o5, (wAI [(.int x0), (.int x1), (.int x2), (.int x3)]), (wAI [(.int x0), (.int x0)])], u) _
      refine .s (.iload a16_61 rfl) <| .s (.iastore 0 a16_63 rfl (by decide) rfl (Nat.le_of_ble_eq_true rfl)) ?_
      show WGo _ (64, [wR 7, wI 0, wI 2, wI (-1), wI 1, wI x1], [], [(.inr (cn0, [(fk0, .ref 1), (fk1, .ref 2), (fk2, .ref 3)])), (wAI [.int 0, .int 0, .int 0, .int 0, .int 0]), o2, o3, (.inr (cn1, [(fk3, .ref 0), (fk4, .int 0), (fk5, .ref 5), (fk6, .ref 6), (fk7, .int 1), (fk8, .int 2)])), o5, (wAI [(.int x0), (.int x1), (.int x2), (.int x3)]), (wAI [(.int x1), (.int x0)])], u) _
      refine .s (.goto a16_64) <| .s (.iinc (L' := [wR 7, wI 0, wI 2, wI (-1), wI 2, wI x1]) a16_3 rfl rfl) <| .s (.iload a16_6 rfl) <| .s (.iloadN a16_8 rfl) <| .s (.icmpT a16_9 (by decide)) ?_
      refine .vreturn a16_67 rfl ?_
      exact Or.inr (⟨h27, h43, rfl, rfl, rfl⟩)
set_option maxHeartbeats 4000000 in
theorem au15_17 {Z : State} {a0 : Array Value} (hw : ∀ d ∈ tables_1, d.before a0 Z = true) (ρ : Nat → Nat) (n0 : Nat) (x0 : Int32) (x1 : Int32) (x2 : Int32) (x3 : Int32) (o2 : WObj) (o3 : WObj) (o5 : WObj) (hx0 : ix4 x0) (hx1 : ix4 x1) (u : Nat) : WGo (g15 Z ρ n0 8 u) (0, [wN, wR 7, wI 0, wI 0, wI 2, wU, wU, wU, wU, wU, wU, wU, wU, wU, wU, wU, wU, wU, wU, wU, wU], [], [(.inr (cn0, [(fk0, .ref 1), (fk1, .ref 2), (fk2, .ref 3)])), (wAI [.int 0, .int 0, .int 0, .int 0, .int 0]), o2, o3, (.inr (cn1, [(fk3, .ref 0), (fk4, .int 0), (fk5, .ref 5), (fk6, .ref 6), (fk7, .int 1), (fk8, .int 2)])), o5, (wAI [(.int x0), (.int x1), (.int x2), (.int x3)]), (wAI [(.int x0), (.int x1)])], u) (fun v σ' u' => (¬ x1 < x0 ∧ v = none ∧ [(.inr (cn0, [(fk0, .ref 1), (fk1, .ref 2), (fk2, .ref 3)])), (wAI [.int 0, .int 0, .int 0, .int 0, .int 0]), o2, o3, (.inr (cn1, [(fk3, .ref 0), (fk4, .int 0), (fk5, .ref 5), (fk6, .ref 6), (fk7, .int 1), (fk8, .int 2)])), o5, (wAI [(.int x0), (.int x1), (.int x2), (.int x3)]), (wAI [(.int x0), (.int x1)])] = σ' ∧ u = u') ∨ (x1 < x0 ∧ x1 < x0 ∧ v = none ∧ [(.inr (cn0, [(fk0, .ref 1), (fk1, .ref 2), (fk2, .ref 3)])), (wAI [.int 0, .int 0, .int 0, .int 0, .int 0]), o2, o3, (.inr (cn1, [(fk3, .ref 0), (fk4, .int 0), (fk5, .ref 5), (fk6, .ref 6), (fk7, .int 1), (fk8, .int 2)])), o5, (wAI [(.int x0), (.int x1), (.int x2), (.int x3)]), (wAI [(.int x1), (.int x0)])] = σ' ∧ u = u')) := by
  refine .s (.iload a15_0 rfl) <| .s (.iconst (1 : Int32) a15_2 rfl) <| .s (.isub a15_3) ?_
  show WGo _ (4, [wN, wR 7, wI 0, wI 0, wI 2, wU, wU, wU, wU, wU, wU, wU, wU, wU, wU, wU, wU, wU, wU, wU, wU], [.int 1], [(.inr (cn0, [(fk0, .ref 1), (fk1, .ref 2), (fk2, .ref 3)])), (wAI [.int 0, .int 0, .int 0, .int 0, .int 0]), o2, o3, (.inr (cn1, [(fk3, .ref 0), (fk4, .int 0), (fk5, .ref 5), (fk6, .ref 6), (fk7, .int 1), (fk8, .int 2)])), o5, (wAI [(.int x0), (.int x1), (.int x2), (.int x3)]), (wAI [(.int x0), (.int x1)])], u) _
  refine .s (.istore (L' := [wN, wR 7, wI 0, wI 0, wI 2, wI 1, wU, wU, wU, wU, wU, wU, wU, wU, wU, wU, wU, wU, wU, wU, wU]) a15_4 rfl) <| .s (.iload a15_6 rfl) <| .s (.iloadN a15_8 rfl) <| .s (.isub a15_9) ?_
  show WGo _ (10, [wN, wR 7, wI 0, wI 0, wI 2, wI 1, wU, wU, wU, wU, wU, wU, wU, wU, wU, wU, wU, wU, wU, wU, wU], [.int 2], [(.inr (cn0, [(fk0, .ref 1), (fk1, .ref 2), (fk2, .ref 3)])), (wAI [.int 0, .int 0, .int 0, .int 0, .int 0]), o2, o3, (.inr (cn1, [(fk3, .ref 0), (fk4, .int 0), (fk5, .ref 5), (fk6, .ref 6), (fk7, .int 1), (fk8, .int 2)])), o5, (wAI [(.int x0), (.int x1), (.int x2), (.int x3)]), (wAI [(.int x0), (.int x1)])], u) _
  refine .s (.istore (L' := [wN, wR 7, wI 0, wI 0, wI 2, wI 1, wI 2, wU, wU, wU, wU, wU, wU, wU, wU, wU, wU, wU, wU, wU, wU]) a15_10 rfl) <| .s (.iload a15_12 rfl) <| .s (.bipush (65 : Int32) a15_14 rfl) <| .s (.iloadN a15_16 rfl) <| .s (.iadd a15_17) ?_
  show WGo _ (18, [wN, wR 7, wI 0, wI 0, wI 2, wI 1, wI 2, wU, wU, wU, wU, wU, wU, wU, wU, wU, wU, wU, wU, wU, wU], [.int 65, .int 2], [(.inr (cn0, [(fk0, .ref 1), (fk1, .ref 2), (fk2, .ref 3)])), (wAI [.int 0, .int 0, .int 0, .int 0, .int 0]), o2, o3, (.inr (cn1, [(fk3, .ref 0), (fk4, .int 0), (fk5, .ref 5), (fk6, .ref 6), (fk7, .int 1), (fk8, .int 2)])), o5, (wAI [(.int x0), (.int x1), (.int x2), (.int x3)]), (wAI [(.int x0), (.int x1)])], u) _
  refine .s (.icmpF a15_18 (by decide)) <| .s (.iloadN a15_21 rfl) <| .s (.iconst (1 : Int32) a15_22 rfl) <| .s (.iand a15_23) ?_
  show WGo _ (24, [wN, wR 7, wI 0, wI 0, wI 2, wI 1, wI 2, wU, wU, wU, wU, wU, wU, wU, wU, wU, wU, wU, wU, wU, wU], [.int 0], [(.inr (cn0, [(fk0, .ref 1), (fk1, .ref 2), (fk2, .ref 3)])), (wAI [.int 0, .int 0, .int 0, .int 0, .int 0]), o2, o3, (.inr (cn1, [(fk3, .ref 0), (fk4, .int 0), (fk5, .ref 5), (fk6, .ref 6), (fk7, .int 1), (fk8, .int 2)])), o5, (wAI [(.int x0), (.int x1), (.int x2), (.int x3)]), (wAI [(.int x0), (.int x1)])], u) _
  refine .s (.ifT a15_24 (by decide)) <| .s (.iload a15_46 rfl) <| .s (.bipush (44 : Int32) a15_48 rfl) <| .s (.icmpF a15_50 (by decide)) <| .s (.aloadN a15_53 rfl rfl) <| .s (.iloadN a15_54 rfl) <| .s (.iload a15_55 rfl) ?_
  refine .callS a15_57 (ok16 hw _ _ _ _) (wd hw 91 rfl) (wd hw 92 rfl) (argsL := [.ref 7, .int 0, .int 2]) (S := []) (au16_18 hw _ _ x0 x1 x2 x3 o2 o3 o5 hx0 hx1 _) rfl rfl rfl rfl rfl rfl (Nat.le_of_ble_eq_true rfl) (Nat.le_of_ble_eq_true rfl) ?_
  rintro _ _ _ (⟨q1, rfl, rfl, rfl⟩ | ⟨q2, q3, rfl, rfl, rfl⟩)
  · skip
    show WGo _ (60, [wN, wR 7, wI 0, wI 0, wI 2, wI 1, wI 2, wU, wU, wU, wU, wU, wU, wU, wU, wU, wU, wU, wU, wU, wU], [], [(.inr (cn0, [(fk0, .ref 1), (fk1, .ref 2), (fk2, .ref 3)])), (wAI [.int 0, .int 0, .int 0, .int 0, .int 0]), o2, o3, (.inr (cn1, [(fk3, .ref 0), (fk4, .int 0), (fk5, .ref 5), (fk6, .ref 6), (fk7, .int 1), (fk8, .int 2)])), o5, (wAI [(.int x0), (.int x1), (.int x2), (.int x3)]), (wAI [(.int x0), (.int x1)])], u) _
    refine .vreturn a15_60 rfl ?_
    exact Or.inl ⟨q1, rfl, rfl, rfl⟩
  · skip
    show WGo _ (60, [wN, wR 7, wI 0, wI 0, wI 2, wI 1, wI 2, wU, wU, wU, wU, wU, wU, wU, wU, wU, wU, wU, wU, wU, wU], [], [(.inr (cn0, [(fk0, .ref 1), (fk1, .ref 2), (fk2, .ref 3)])), (wAI [.int 0, .int 0, .int 0, .int 0, .int 0]), o2, o3, (.inr (cn1, [(fk3, .ref 0), (fk4, .int 0), (fk5, .ref 5), (fk6, .ref 6), (fk7, .int 1), (fk8, .int 2)])), o5, (wAI [(.int x0), (.int x1), (.int x2), (.int x3)]), (wAI [(.int x1), (.int x0)])], u) _
    refine .vreturn a15_60 rfl ?_
    exact Or.inr (⟨q2, q3, rfl, rfl, rfl⟩)
set_option maxHeartbeats 4000000 in
theorem au14_16 {Z : State} {a0 : Array Value} (hw : ∀ d ∈ tables_1, d.before a0 Z = true) (ρ : Nat → Nat) (n0 : Nat) (x0 : Int32) (x1 : Int32) (x2 : Int32) (x3 : Int32) (o2 : WObj) (o3 : WObj) (o5 : WObj) (hx0 : ix4 x0) (hx1 : ix4 x1) (u : Nat) : WGo (g14 Z ρ n0 8 u) (0, [wR 7, wI 0, wI 0, wI 2, wU, wU, wU], [], [(.inr (cn0, [(fk0, .ref 1), (fk1, .ref 2), (fk2, .ref 3)])), (wAI [.int 0, .int 0, .int 0, .int 0, .int 0]), o2, o3, (.inr (cn1, [(fk3, .ref 0), (fk4, .int 0), (fk5, .ref 5), (fk6, .ref 6), (fk7, .int 1), (fk8, .int 2)])), o5, (wAI [(.int x0), (.int x1), (.int x2), (.int x3)]), (wAI [(.int x0), (.int x1)])], u) (fun v σ' u' => (¬ x1 < x0 ∧ v = none ∧ [(.inr (cn0, [(fk0, .ref 1), (fk1, .ref 2), (fk2, .ref 3)])), (wAI [.int 0, .int 0, .int 0, .int 0, .int 0]), o2, o3, (.inr (cn1, [(fk3, .ref 0), (fk4, .int 0), (fk5, .ref 5), (fk6, .ref 6), (fk7, .int 1), (fk8, .int 2)])), o5, (wAI [(.int x0), (.int x1), (.int x2), (.int x3)]), (wAI [(.int x0), (.int x1)])] = σ' ∧ u = u') ∨ (x1 < x0 ∧ x1 < x0 ∧ v = none ∧ [(.inr (cn0, [(fk0, .ref 1), (fk1, .ref 2), (fk2, .ref 3)])), (wAI [.int 0, .int 0, .int 0, .int 0, .int 0]), o2, o3, (.inr (cn1, [(fk3, .ref 0), (fk4, .int 0), (fk5, .ref 5), (fk6, .ref 6), (fk7, .int 1), (fk8, .int 2)])), o5, (wAI [(.int x0), (.int x1), (.int x2), (.int x3)]), (wAI [(.int x1), (.int x0)])] = σ' ∧ u = u')) := by
  refine .s (.iloadN a14_0 rfl) <| .s (.iloadN a14_1 rfl) <| .s (.isub a14_2) ?_
  show WGo _ (3, [wR 7, wI 0, wI 0, wI 2, wU, wU, wU], [.int 2], [(.inr (cn0, [(fk0, .ref 1), (fk1, .ref 2), (fk2, .ref 3)])), (wAI [.int 0, .int 0, .int 0, .int 0, .int 0]), o2, o3, (.inr (cn1, [(fk3, .ref 0), (fk4, .int 0), (fk5, .ref 5), (fk6, .ref 6), (fk7, .int 1), (fk8, .int 2)])), o5, (wAI [(.int x0), (.int x1), (.int x2), (.int x3)]), (wAI [(.int x0), (.int x1)])], u) _
  refine .s (.istore (L' := [wR 7, wI 0, wI 0, wI 2, wI 2, wU, wU]) a14_3 rfl) <| .s (.iloadN a14_5 rfl) <| .s (.iconst (1 : Int32) a14_6 rfl) <| .s (.icmpT a14_7 (by decide)) <| .s (.aconstNull a14_68) <| .s (.aloadN a14_69 rfl rfl) <| .s (.iconst (0 : Int32) a14_70 rfl) ?_
  refine .s (.iloadN a14_71 rfl) <| .s (.iloadN a14_72 rfl) ?_
  refine .callS a14_73 (ok15 hw _ _ _ _) (wd hw 88 rfl) (wd hw 89 rfl) (argsL := [.null, .ref 7, .int 0, .int 0, .int 2]) (S := []) (au15_17 hw _ _ x0 x1 x2 x3 o2 o3 o5 hx0 hx1 _) rfl rfl rfl rfl rfl rfl (Nat.le_of_ble_eq_true rfl) (Nat.le_of_ble_eq_true rfl) ?_
  rintro _ _ _ (⟨q4, rfl, rfl, rfl⟩ | ⟨q5, q6, rfl, rfl, rfl⟩)
  · skip
    show WGo _ (76, [wR 7, wI 0, wI 0, wI 2, wI 2, wU, wU], [], [(.inr (cn0, [(fk0, .ref 1), (fk1, .ref 2), (fk2, .ref 3)])), (wAI [.int 0, .int 0, .int 0, .int 0, .int 0]), o2, o3, (.inr (cn1, [(fk3, .ref 0), (fk4, .int 0), (fk5, .ref 5), (fk6, .ref 6), (fk7, .int 1), (fk8, .int 2)])), o5, (wAI [(.int x0), (.int x1), (.int x2), (.int x3)]), (wAI [(.int x0), (.int x1)])], u) _
    refine .vreturn a14_76 rfl ?_
    exact Or.inl ⟨q4, rfl, rfl, rfl⟩
  · skip
    show WGo _ (76, [wR 7, wI 0, wI 0, wI 2, wI 2, wU, wU], [], [(.inr (cn0, [(fk0, .ref 1), (fk1, .ref 2), (fk2, .ref 3)])), (wAI [.int 0, .int 0, .int 0, .int 0, .int 0]), o2, o3, (.inr (cn1, [(fk3, .ref 0), (fk4, .int 0), (fk5, .ref 5), (fk6, .ref 6), (fk7, .int 1), (fk8, .int 2)])), o5, (wAI [(.int x0), (.int x1), (.int x2), (.int x3)]), (wAI [(.int x1), (.int x0)])], u) _
    refine .vreturn a14_76 rfl ?_
    exact Or.inr (⟨q5, q6, rfl, rfl, rfl⟩)
set_option maxHeartbeats 4000000 in
theorem au13_15 {Z : State} {a0 : Array Value} (hw : ∀ d ∈ tables_1, d.before a0 Z = true) (ρ : Nat → Nat) (n0 : Nat) (x0 : Int32) (x1 : Int32) (x2 : Int32) (x3 : Int32) (o2 : WObj) (o3 : WObj) (o5 : WObj) (hx0 : ix4 x0) (hx1 : ix4 x1) (u : Nat) : WGo (g13 Z ρ n0 8 u) (0, [wR 7], [], [(.inr (cn0, [(fk0, .ref 1), (fk1, .ref 2), (fk2, .ref 3)])), (wAI [.int 0, .int 0, .int 0, .int 0, .int 0]), o2, o3, (.inr (cn1, [(fk3, .ref 0), (fk4, .int 0), (fk5, .ref 5), (fk6, .ref 6), (fk7, .int 1), (fk8, .int 2)])), o5, (wAI [(.int x0), (.int x1), (.int x2), (.int x3)]), (wAI [(.int x0), (.int x1)])], u) (fun v σ' u' => (¬ x1 < x0 ∧ v = none ∧ [(.inr (cn0, [(fk0, .ref 1), (fk1, .ref 2), (fk2, .ref 3)])), (wAI [.int 0, .int 0, .int 0, .int 0, .int 0]), o2, o3, (.inr (cn1, [(fk3, .ref 0), (fk4, .int 0), (fk5, .ref 5), (fk6, .ref 6), (fk7, .int 1), (fk8, .int 2)])), o5, (wAI [(.int x0), (.int x1), (.int x2), (.int x3)]), (wAI [(.int x0), (.int x1)])] = σ' ∧ u = u') ∨ (x1 < x0 ∧ x1 < x0 ∧ v = none ∧ [(.inr (cn0, [(fk0, .ref 1), (fk1, .ref 2), (fk2, .ref 3)])), (wAI [.int 0, .int 0, .int 0, .int 0, .int 0]), o2, o3, (.inr (cn1, [(fk3, .ref 0), (fk4, .int 0), (fk5, .ref 5), (fk6, .ref 6), (fk7, .int 1), (fk8, .int 2)])), o5, (wAI [(.int x0), (.int x1), (.int x2), (.int x3)]), (wAI [(.int x1), (.int x0)])] = σ' ∧ u = u')) := by
  refine .s (.aloadN a13_0 rfl rfl) <| .s (.iconst (0 : Int32) a13_1 rfl) <| .s (.iconst (0 : Int32) a13_2 rfl) <| .s (.aloadN a13_3 rfl rfl) <| .s (.alen (2 : Int32) a13_4 rfl rfl) ?_
  refine .callS a13_5 (ok14 hw _ _ _ _) (wd hw 84 rfl) (wd hw 85 rfl) (argsL := [.ref 7, .int 0, .int 0, .int 2]) (S := []) (au14_16 hw _ _ x0 x1 x2 x3 o2 o3 o5 hx0 hx1 _) rfl rfl rfl rfl rfl rfl (Nat.le_of_ble_eq_true rfl) (Nat.le_of_ble_eq_true rfl) ?_
  rintro _ _ _ (⟨q7, rfl, rfl, rfl⟩ | ⟨q8, q9, rfl, rfl, rfl⟩)
  · skip
    show WGo _ (8, [wR 7], [], [(.inr (cn0, [(fk0, .ref 1), (fk1, .ref 2), (fk2, .ref 3)])), (wAI [.int 0, .int 0, .int 0, .int 0, .int 0]), o2, o3, (.inr (cn1, [(fk3, .ref 0), (fk4, .int 0), (fk5, .ref 5), (fk6, .ref 6), (fk7, .int 1), (fk8, .int 2)])), o5, (wAI [(.int x0), (.int x1), (.int x2), (.int x3)]), (wAI [(.int x0), (.int x1)])], u) _
    refine .vreturn a13_8 rfl ?_
    exact Or.inl ⟨q7, rfl, rfl, rfl⟩
  · skip
    show WGo _ (8, [wR 7], [], [(.inr (cn0, [(fk0, .ref 1), (fk1, .ref 2), (fk2, .ref 3)])), (wAI [.int 0, .int 0, .int 0, .int 0, .int 0]), o2, o3, (.inr (cn1, [(fk3, .ref 0), (fk4, .int 0), (fk5, .ref 5), (fk6, .ref 6), (fk7, .int 1), (fk8, .int 2)])), o5, (wAI [(.int x0), (.int x1), (.int x2), (.int x3)]), (wAI [(.int x1), (.int x0)])], u) _
    refine .vreturn a13_8 rfl ?_
    exact Or.inr (⟨q8, q9, rfl, rfl, rfl⟩)
set_option maxHeartbeats 4000000 in
theorem au8_10 {Z : State} {a0 : Array Value} (hw : ∀ d ∈ tables_1, d.before a0 Z = true) (ρ : Nat → Nat) (n0 : Nat) (x0 : Int32) (x1 : Int32) (x2 : Int32) (x3 : Int32) (o2 : WObj) (o3 : WObj) (o5 : WObj) (hx0 : ix4 x0) (hx1 : ix4 x1) (u : Nat) : WGo (g8 Z ρ n0 7 u) (0, [wR 4, wU], [], [(.inr (cn0, [(fk0, .ref 1), (fk1, .ref 2), (fk2, .ref 3)])), (wAI [.int 0, .int 0, .int 0, .int 0, .int 0]), o2, o3, (.inr (cn1, [(fk3, .ref 0), (fk4, .int 0), (fk5, .ref 5), (fk6, .ref 6), (fk7, .int 1), (fk8, .int 2)])), o5, (wAI [(.int x0), (.int x1), (.int x2), (.int x3)])], u) (fun v σ' u' => (¬ x1 < x0 ∧ v = some (.ref 7) ∧ [(.inr (cn0, [(fk0, .ref 1), (fk1, .ref 2), (fk2, .ref 3)])), (wAI [.int 0, .int 0, .int 0, .int 0, .int 0]), o2, o3, (.inr (cn1, [(fk3, .ref 0), (fk4, .int 0), (fk5, .ref 5), (fk6, .ref 6), (fk7, .int 1), (fk8, .int 2)])), o5, (wAI [(.int x0), (.int x1), (.int x2), (.int x3)]), (wAI [(.int x0), (.int x1)])] = σ' ∧ (u + 2) = u') ∨ (x1 < x0 ∧ x1 < x0 ∧ v = some (.ref 7) ∧ [(.inr (cn0, [(fk0, .ref 1), (fk1, .ref 2), (fk2, .ref 3)])), (wAI [.int 0, .int 0, .int 0, .int 0, .int 0]), o2, o3, (.inr (cn1, [(fk3, .ref 0), (fk4, .int 0), (fk5, .ref 5), (fk6, .ref 6), (fk7, .int 1), (fk8, .int 2)])), o5, (wAI [(.int x0), (.int x1), (.int x2), (.int x3)]), (wAI [(.int x1), (.int x0)])] = σ' ∧ (u + 2) = u')) := by
  refine .s (.aloadN a8_0 rfl rfl) ?_
  refine .callP (k := 4) a8_1 (ok9 hw _ _ _ _) (wd hw 60 rfl) (wd hw 61 rfl) (selP (wd hw 22 rfl) (wd hw 61 rfl) (wd hw 62 rfl) (by decide)) (wd hw 62 rfl) rfl (argsL := []) (S := []) (au9_11 hw _ _ x0 x1 x2 x3 o2 o3 o5 hx0 hx1 _) rfl rfl rfl rfl rfl rfl (Nat.le_of_ble_eq_true rfl) (Nat.le_of_ble_eq_true rfl) ?_
  rintro _ _ _ ⟨rfl, rfl, rfl⟩
  show WGo _ (4, [wR 4, wU], [], [(.inr (cn0, [(fk0, .ref 1), (fk1, .ref 2), (fk2, .ref 3)])), (wAI [.int 0, .int 0, .int 0, .int 0, .int 0]), o2, o3, (.inr (cn1, [(fk3, .ref 0), (fk4, .int 0), (fk5, .ref 5), (fk6, .ref 6), (fk7, .int 1), (fk8, .int 2)])), o5, (wAI [(.int x0), (.int x1), (.int x2), (.int x3)])], u) _
  refine .s (.aloadN a8_4 rfl rfl) <| .s (.getF 3 a8_5 (wd hw 39 rfl) rfl rfl) <| .s (.aloadN a8_8 rfl rfl) <| .s (.getF 5 a8_9 (wd hw 48 rfl) rfl rfl) ?_
  refine .callS a8_12 (ok11 hw _ _ _ _) (wd hw 69 rfl) (wd hw 70 rfl) (argsL := [.ref 6, .int 2]) (S := []) (au11_13 hw _ _ x0 x1 x2 x3 o2 o3 o5 hx0 hx1 _) rfl rfl rfl rfl rfl rfl (Nat.le_of_ble_eq_true rfl) (Nat.le_of_ble_eq_true rfl) ?_
  rintro _ _ _ ⟨rfl, rfl, rfl⟩
  show WGo _ (15, [wR 4, wU], [.ref 7], [(.inr (cn0, [(fk0, .ref 1), (fk1, .ref 2), (fk2, .ref 3)])), (wAI [.int 0, .int 0, .int 0, .int 0, .int 0]), o2, o3, (.inr (cn1, [(fk3, .ref 0), (fk4, .int 0), (fk5, .ref 5), (fk6, .ref 6), (fk7, .int 1), (fk8, .int 2)])), o5, (wAI [(.int x0), (.int x1), (.int x2), (.int x3)]), (wAI [(.int x0), (.int x1)])], (u + 2)) _
  refine .s (.astoreN (L' := [wR 4, wR 7]) a8_15 rfl rfl) <| .s (.aloadN a8_16 rfl rfl) ?_
  refine .callS a8_17 (ok13 hw _ _ _ _) (wd hw 81 rfl) (wd hw 82 rfl) (argsL := [.ref 7]) (S := []) (au13_15 hw _ _ x0 x1 x2 x3 o2 o3 o5 hx0 hx1 _) rfl rfl rfl rfl rfl rfl (Nat.le_of_ble_eq_true rfl) (Nat.le_of_ble_eq_true rfl) ?_
  rintro _ _ _ (⟨q10, rfl, rfl, rfl⟩ | ⟨q11, q12, rfl, rfl, rfl⟩)
  · skip
    show WGo _ (20, [wR 4, wR 7], [], [(.inr (cn0, [(fk0, .ref 1), (fk1, .ref 2), (fk2, .ref 3)])), (wAI [.int 0, .int 0, .int 0, .int 0, .int 0]), o2, o3, (.inr (cn1, [(fk3, .ref 0), (fk4, .int 0), (fk5, .ref 5), (fk6, .ref 6), (fk7, .int 1), (fk8, .int 2)])), o5, (wAI [(.int x0), (.int x1), (.int x2), (.int x3)]), (wAI [(.int x0), (.int x1)])], (u + 2)) _
    refine .s (.aloadN a8_20 rfl rfl) ?_
    refine .areturn (.array .int) a8_21 rfl rfl rfl ?_
    exact Or.inl ⟨q10, rfl, rfl, rfl⟩
  · skip
    show WGo _ (20, [wR 4, wR 7], [], [(.inr (cn0, [(fk0, .ref 1), (fk1, .ref 2), (fk2, .ref 3)])), (wAI [.int 0, .int 0, .int 0, .int 0, .int 0]), o2, o3, (.inr (cn1, [(fk3, .ref 0), (fk4, .int 0), (fk5, .ref 5), (fk6, .ref 6), (fk7, .int 1), (fk8, .int 2)])), o5, (wAI [(.int x0), (.int x1), (.int x2), (.int x3)]), (wAI [(.int x1), (.int x0)])], (u + 2)) _
    refine .s (.aloadN a8_20 rfl rfl) ?_
    refine .areturn (.array .int) a8_21 rfl rfl rfl ?_
    exact Or.inr (⟨q11, q12, rfl, rfl, rfl⟩)
theorem ccl_2_0 {Z : State} {a0 : Array Value} (hw : ∀ d ∈ tables_1, d.before a0 Z = true) (ρ : Nat → Nat) (n0 : Nat) (o2 o3 o5 : WObj) (x0 x1 x2 x3 : Int32) (hx0 : ix4 x0) (hx1 : ix4 x1) (u : Nat) : WGo (g8 Z ρ n0 7 u) (0, [wR 4, wU], [], [(.inr (cn0, [(fk0, .ref 1), (fk1, .ref 2), (fk2, .ref 3)])), (wAI [.int 0, .int 0, .int 0, .int 0, .int 0]), o2, o3, (.inr (cn1, [(fk3, .ref 0), (fk4, .int 0), (fk5, .ref 5), (fk6, .ref 6), (fk7, .int 1), (fk8, .int 2)])), o5, (wAI [(.int x0), (.int x1), (.int x2), (.int x3)])], u) (fun v σ' u' => ∃ R : List Int32, Srt2 R x0 x1 ∧ v = some (.ref 7) ∧ [(.inr (cn0, [(fk0, .ref 1), (fk1, .ref 2), (fk2, .ref 3)])), (wAI [.int 0, .int 0, .int 0, .int 0, .int 0]), o2, o3, (.inr (cn1, [(fk3, .ref 0), (fk4, .int 0), (fk5, .ref 5), (fk6, .ref 6), (fk7, .int 1), (fk8, .int 2)])), o5, (wAI [(.int x0), (.int x1), (.int x2), (.int x3)]), (wAI (ia R))] = σ' ∧ u + 2 = u') := by
  refine .mono (au8_10 hw ρ n0 x0 x1 x2 x3 o2 o3 o5 hx0 hx1 u) ?_
  rintro _ _ _ (⟨p0, rfl, rfl, rfl⟩ | ⟨p0, p1, rfl, rfl, rfl⟩)
  · exact ⟨[x0, x1], ⟨_, _, rfl, (by simp only [Int32.lt_iff_toInt_lt] at *; omega), Or.inl ⟨rfl, rfl⟩⟩, rfl, rfl, rfl⟩
  · exact ⟨[x1, x0], ⟨_, _, rfl, (by simp only [Int32.lt_iff_toInt_lt] at *; omega), Or.inr (⟨rfl, rfl⟩)⟩, rfl, rfl, rfl⟩
set_option maxHeartbeats 4000000 in
theorem au10_21 {Z : State} {a0 : Array Value} (hw : ∀ d ∈ tables_1, d.before a0 Z = true) (ρ : Nat → Nat) (n0 : Nat) (x0 : Int32) (x1 : Int32) (x2 : Int32) (x3 : Int32) (o2 : WObj) (o3 : WObj) (o5 : WObj) (hx0 : ix4 x0) (hx1 : ix4 x1) (hx2 : ix4 x2) (u : Nat) : WGo (g10 Z ρ n0 7 u) (0, [wR 0], [], [(.inr (cn0, [(fk0, .ref 1), (fk1, .ref 2), (fk2, .ref 3)])), (wAI [.int 0, .int 0, .int 0, .int 0, .int 0]), o2, o3, (.inr (cn1, [(fk3, .ref 0), (fk4, .int 0), (fk5, .ref 5), (fk6, .ref 6), (fk7, .int 1), (fk8, .int 3)])), o5, (wAI [(.int x0), (.int x1), (.int x2), (.int x3)])], u) (fun v σ' u' => v = some (.ref 1) ∧ [(.inr (cn0, [(fk0, .ref 1), (fk1, .ref 2), (fk2, .ref 3)])), (wAI [.int 0, .int 0, .int 0, .int 0, .int 0]), o2, o3, (.inr (cn1, [(fk3, .ref 0), (fk4, .int 0), (fk5, .ref 5), (fk6, .ref 6), (fk7, .int 1), (fk8, .int 3)])), o5, (wAI [(.int x0), (.int x1), (.int x2), (.int x3)])] = σ' ∧ u = u') := by
  refine .s (.aloadN a10_0 rfl rfl) <| .s (.getF 0 a10_1 (wd hw 15 rfl) rfl rfl) ?_
  refine .areturn (.array .int) a10_4 rfl rfl rfl ?_
  exact ⟨rfl, rfl, rfl⟩
set_option maxHeartbeats 4000000 in
theorem au9_20 {Z : State} {a0 : Array Value} (hw : ∀ d ∈ tables_1, d.before a0 Z = true) (ρ : Nat → Nat) (n0 : Nat) (x0 : Int32) (x1 : Int32) (x2 : Int32) (x3 : Int32) (o2 : WObj) (o3 : WObj) (o5 : WObj) (hx0 : ix4 x0) (hx1 : ix4 x1) (hx2 : ix4 x2) (u : Nat) : WGo (g9 Z ρ n0 7 u) (0, [wR 4, wU, wU, wU], [], [(.inr (cn0, [(fk0, .ref 1), (fk1, .ref 2), (fk2, .ref 3)])), (wAI [.int 0, .int 0, .int 0, .int 0, .int 0]), o2, o3, (.inr (cn1, [(fk3, .ref 0), (fk4, .int 0), (fk5, .ref 5), (fk6, .ref 6), (fk7, .int 1), (fk8, .int 3)])), o5, (wAI [(.int x0), (.int x1), (.int x2), (.int x3)])], u) (fun v σ' u' => v = none ∧ [(.inr (cn0, [(fk0, .ref 1), (fk1, .ref 2), (fk2, .ref 3)])), (wAI [.int 0, .int 0, .int 0, .int 0, .int 0]), o2, o3, (.inr (cn1, [(fk3, .ref 0), (fk4, .int 0), (fk5, .ref 5), (fk6, .ref 6), (fk7, .int 1), (fk8, .int 3)])), o5, (wAI [(.int x0), (.int x1), (.int x2), (.int x3)])] = σ' ∧ u = u') := by
  refine .s (.iconst (0 : Int32) a9_0 rfl) <| .s (.istoreN (L' := [wR 4, wI 0, wU, wU]) a9_1 rfl) <| .s (.iloadN a9_2 rfl) <| .s (.aloadN a9_3 rfl rfl) <| .s (.getF 5 a9_4 (wd hw 48 rfl) rfl rfl) <| .s (.icmpF a9_7 (by decide)) <| .s (.aloadN a9_10 rfl rfl) ?_
  refine .s (.getF 3 a9_11 (wd hw 39 rfl) rfl rfl) <| .s (.iloadN a9_14 rfl) <| .s (.iaload 0 a9_15 rfl (by decide) rfl rfl) <| .s (.istoreN (L' := [wR 4, wI 0, wI x0, wU]) a9_16 rfl) <| .s (.aloadN a9_17 rfl rfl) <| .s (.getF 0 a9_18 (wd hw 28 rfl) rfl rfl) ?_
  refine .callV (k := 0) (z := (⟨"com/example/firm_handshake/firmhandshake/lts/Graph", "first", "()[I"⟩ : MethodName)) a9_21 (ok10 hw _ _ _ _) ⟨rfl, by decide⟩ (wd hw 64 rfl) (wd hw 65 rfl) (fun s hZ => notFace_of_selects (args := #[]) (mvT hZ (wd hw 67 rfl))) (wd hw 67 rfl) (wd hw 66 rfl) rfl (argsL := []) (S := []) (au10_21 hw _ _ x0 x1 x2 x3 o2 o3 o5 hx0 hx1 hx2 _) rfl rfl rfl rfl rfl rfl (Nat.le_of_ble_eq_true rfl) (Nat.le_of_ble_eq_true rfl) ?_
  rintro _ _ _ ⟨rfl, rfl, rfl⟩
  show WGo _ (24, [wR 4, wI 0, wI x0, wU], [.ref 1], [(.inr (cn0, [(fk0, .ref 1), (fk1, .ref 2), (fk2, .ref 3)])), (wAI [.int 0, .int 0, .int 0, .int 0, .int 0]), o2, o3, (.inr (cn1, [(fk3, .ref 0), (fk4, .int 0), (fk5, .ref 5), (fk6, .ref 6), (fk7, .int 1), (fk8, .int 3)])), o5, (wAI [(.int x0), (.int x1), (.int x2), (.int x3)])], u) _
  refine .s (.iloadN a9_24 rfl) <| .s (.iaload (x0.toNatClampNeg) (v := .int 0) a9_25 rfl (nn hx0.1) rfl (zer5 hx0.1 (Int.le_trans hx0.2 (by decide)))) <| .s (.istoreN (L' := [wR 4, wI 0, wI x0, wI 0]) a9_26 rfl) <| .s (.iloadN a9_27 rfl) <| .s (.aloadN a9_28 rfl rfl) <| .s (.getF 0 a9_29 (wd hw 28 rfl) rfl rfl) ?_
  refine .callV (k := 0) (z := (⟨"com/example/firm_handshake/firmhandshake/lts/Graph", "first", "()[I"⟩ : MethodName)) a9_32 (ok10 hw _ _ _ _) ⟨rfl, by decide⟩ (wd hw 64 rfl) (wd hw 65 rfl) (fun s hZ => notFace_of_selects (args := #[]) (mvT hZ (wd hw 67 rfl))) (wd hw 67 rfl) (wd hw 66 rfl) rfl (argsL := []) (S := [.int 0]) (au10_21 hw _ _ x0 x1 x2 x3 o2 o3 o5 hx0 hx1 hx2 _) rfl rfl rfl rfl rfl rfl (Nat.le_of_ble_eq_true rfl) (Nat.le_of_ble_eq_true rfl) ?_
  rintro _ _ _ ⟨rfl, rfl, rfl⟩
  show WGo _ (35, [wR 4, wI 0, wI x0, wI 0], [.ref 1, .int 0], [(.inr (cn0, [(fk0, .ref 1), (fk1, .ref 2), (fk2, .ref 3)])), (wAI [.int 0, .int 0, .int 0, .int 0, .int 0]), o2, o3, (.inr (cn1, [(fk3, .ref 0), (fk4, .int 0), (fk5, .ref 5), (fk6, .ref 6), (fk7, .int 1), (fk8, .int 3)])), o5, (wAI [(.int x0), (.int x1), (.int x2), (.int x3)])], u) _
  refine .s (.iloadN a9_35 rfl) <| .s (.iconst (1 : Int32) a9_36 rfl) <| .s (.iadd a9_37) <| .s (.iaload ((x0 + (1 : Int32)).toNatClampNeg) (v := .int 0) a9_38 rfl (nn (ix4_succ hx0).1) rfl (zer5 (ix4_succ hx0).1 (ix4_succ hx0).2)) <| .s (.icmpT a9_39 (by decide)) <| .s (.iinc (L' := [wR 4, wI 1, wI x0, wI 0]) a9_77 rfl rfl) <| .s (.goto a9_80) ?_
  refine .s (.iloadN a9_2 rfl) <| .s (.aloadN a9_3 rfl rfl) <| .s (.getF 5 a9_4 (wd hw 48 rfl) rfl rfl) <| .s (.icmpF a9_7 (by decide)) <| .s (.aloadN a9_10 rfl rfl) <| .s (.getF 3 a9_11 (wd hw 39 rfl) rfl rfl) <| .s (.iloadN a9_14 rfl) ?_
  refine .s (.iaload 1 a9_15 rfl (by decide) rfl rfl) <| .s (.istoreN (L' := [wR 4, wI 1, wI x1, wI 0]) a9_16 rfl) <| .s (.aloadN a9_17 rfl rfl) <| .s (.getF 0 a9_18 (wd hw 28 rfl) rfl rfl) ?_
  refine .callV (k := 0) (z := (⟨"com/example/firm_handshake/firmhandshake/lts/Graph", "first", "()[I"⟩ : MethodName)) a9_21 (ok10 hw _ _ _ _) ⟨rfl, by decide⟩ (wd hw 64 rfl) (wd hw 65 rfl) (fun s hZ => notFace_of_selects (args := #[]) (mvT hZ (wd hw 67 rfl))) (wd hw 67 rfl) (wd hw 66 rfl) rfl (argsL := []) (S := []) (au10_21 hw _ _ x0 x1 x2 x3 o2 o3 o5 hx0 hx1 hx2 _) rfl rfl rfl rfl rfl rfl (Nat.le_of_ble_eq_true rfl) (Nat.le_of_ble_eq_true rfl) ?_
  rintro _ _ _ ⟨rfl, rfl, rfl⟩
  show WGo _ (24, [wR 4, wI 1, wI x1, wI 0], [.ref 1], [(.inr (cn0, [(fk0, .ref 1), (fk1, .ref 2), (fk2, .ref 3)])), (wAI [.int 0, .int 0, .int 0, .int 0, .int 0]), o2, o3, (.inr (cn1, [(fk3, .ref 0), (fk4, .int 0), (fk5, .ref 5), (fk6, .ref 6), (fk7, .int 1), (fk8, .int 3)])), o5, (wAI [(.int x0), (.int x1), (.int x2), (.int x3)])], u) _
  refine .s (.iloadN a9_24 rfl) <| .s (.iaload (x1.toNatClampNeg) (v := .int 0) a9_25 rfl (nn hx1.1) rfl (zer5 hx1.1 (Int.le_trans hx1.2 (by decide)))) <| .s (.istoreN (L' := [wR 4, wI 1, wI x1, wI 0]) a9_26 rfl) <| .s (.iloadN a9_27 rfl) <| .s (.aloadN a9_28 rfl rfl) <| .s (.getF 0 a9_29 (wd hw 28 rfl) rfl rfl) ?_
  refine .callV (k := 0) (z := (⟨"com/example/firm_handshake/firmhandshake/lts/Graph", "first", "()[I"⟩ : MethodName)) a9_32 (ok10 hw _ _ _ _) ⟨rfl, by decide⟩ (wd hw 64 rfl) (wd hw 65 rfl) (fun s hZ => notFace_of_selects (args := #[]) (mvT hZ (wd hw 67 rfl))) (wd hw 67 rfl) (wd hw 66 rfl) rfl (argsL := []) (S := [.int 0]) (au10_21 hw _ _ x0 x1 x2 x3 o2 o3 o5 hx0 hx1 hx2 _) rfl rfl rfl rfl rfl rfl (Nat.le_of_ble_eq_true rfl) (Nat.le_of_ble_eq_true rfl) ?_
  rintro _ _ _ ⟨rfl, rfl, rfl⟩
  show WGo _ (35, [wR 4, wI 1, wI x1, wI 0], [.ref 1, .int 0], [(.inr (cn0, [(fk0, .ref 1), (fk1, .ref 2), (fk2, .ref 3)])), (wAI [.int 0, .int 0, .int 0, .int 0, .int 0]), o2, o3, (.inr (cn1, [(fk3, .ref 0), (fk4, .int 0), (fk5, .ref 5), (fk6, .ref 6), (fk7, .int 1), (fk8, .int 3)])), o5, (wAI [(.int x0), (.int x1), (.int x2), (.int x3)])], u) _
  refine .s (.iloadN a9_35 rfl) <| .s (.iconst (1 : Int32) a9_36 rfl) <| .s (.iadd a9_37) <| .s (.iaload ((x1 + (1 : Int32)).toNatClampNeg) (v := .int 0) a9_38 rfl (nn (ix4_succ hx1).1) rfl (zer5 (ix4_succ hx1).1 (ix4_succ hx1).2)) <| .s (.icmpT a9_39 (by decide)) <| .s (.iinc (L' := [wR 4, wI 2, wI x1, wI 0]) a9_77 rfl rfl) <| .s (.goto a9_80) ?_
  refine .s (.iloadN a9_2 rfl) <| .s (.aloadN a9_3 rfl rfl) <| .s (.getF 5 a9_4 (wd hw 48 rfl) rfl rfl) <| .s (.icmpF a9_7 (by decide)) <| .s (.aloadN a9_10 rfl rfl) <| .s (.getF 3 a9_11 (wd hw 39 rfl) rfl rfl) <| .s (.iloadN a9_14 rfl) ?_
  refine .s (.iaload 2 a9_15 rfl (by decide) rfl rfl) <| .s (.istoreN (L' := [wR 4, wI 2, wI x2, wI 0]) a9_16 rfl) <| .s (.aloadN a9_17 rfl rfl) <| .s (.getF 0 a9_18 (wd hw 28 rfl) rfl rfl) ?_
  refine .callV (k := 0) (z := (⟨"com/example/firm_handshake/firmhandshake/lts/Graph", "first", "()[I"⟩ : MethodName)) a9_21 (ok10 hw _ _ _ _) ⟨rfl, by decide⟩ (wd hw 64 rfl) (wd hw 65 rfl) (fun s hZ => notFace_of_selects (args := #[]) (mvT hZ (wd hw 67 rfl))) (wd hw 67 rfl) (wd hw 66 rfl) rfl (argsL := []) (S := []) (au10_21 hw _ _ x0 x1 x2 x3 o2 o3 o5 hx0 hx1 hx2 _) rfl rfl rfl rfl rfl rfl (Nat.le_of_ble_eq_true rfl) (Nat.le_of_ble_eq_true rfl) ?_
  rintro _ _ _ ⟨rfl, rfl, rfl⟩
  show WGo _ (24, [wR 4, wI 2, wI x2, wI 0], [.ref 1], [(.inr (cn0, [(fk0, .ref 1), (fk1, .ref 2), (fk2, .ref 3)])), (wAI [.int 0, .int 0, .int 0, .int 0, .int 0]), o2, o3, (.inr (cn1, [(fk3, .ref 0), (fk4, .int 0), (fk5, .ref 5), (fk6, .ref 6), (fk7, .int 1), (fk8, .int 3)])), o5, (wAI [(.int x0), (.int x1), (.int x2), (.int x3)])], u) _
  refine .s (.iloadN a9_24 rfl) <| .s (.iaload (x2.toNatClampNeg) (v := .int 0) a9_25 rfl (nn hx2.1) rfl (zer5 hx2.1 (Int.le_trans hx2.2 (by decide)))) <| .s (.istoreN (L' := [wR 4, wI 2, wI x2, wI 0]) a9_26 rfl) <| .s (.iloadN a9_27 rfl) <| .s (.aloadN a9_28 rfl rfl) <| .s (.getF 0 a9_29 (wd hw 28 rfl) rfl rfl) ?_
  refine .callV (k := 0) (z := (⟨"com/example/firm_handshake/firmhandshake/lts/Graph", "first", "()[I"⟩ : MethodName)) a9_32 (ok10 hw _ _ _ _) ⟨rfl, by decide⟩ (wd hw 64 rfl) (wd hw 65 rfl) (fun s hZ => notFace_of_selects (args := #[]) (mvT hZ (wd hw 67 rfl))) (wd hw 67 rfl) (wd hw 66 rfl) rfl (argsL := []) (S := [.int 0]) (au10_21 hw _ _ x0 x1 x2 x3 o2 o3 o5 hx0 hx1 hx2 _) rfl rfl rfl rfl rfl rfl (Nat.le_of_ble_eq_true rfl) (Nat.le_of_ble_eq_true rfl) ?_
  rintro _ _ _ ⟨rfl, rfl, rfl⟩
  show WGo _ (35, [wR 4, wI 2, wI x2, wI 0], [.ref 1, .int 0], [(.inr (cn0, [(fk0, .ref 1), (fk1, .ref 2), (fk2, .ref 3)])), (wAI [.int 0, .int 0, .int 0, .int 0, .int 0]), o2, o3, (.inr (cn1, [(fk3, .ref 0), (fk4, .int 0), (fk5, .ref 5), (fk6, .ref 6), (fk7, .int 1), (fk8, .int 3)])), o5, (wAI [(.int x0), (.int x1), (.int x2), (.int x3)])], u) _
  refine .s (.iloadN a9_35 rfl) <| .s (.iconst (1 : Int32) a9_36 rfl) <| .s (.iadd a9_37) <| .s (.iaload ((x2 + (1 : Int32)).toNatClampNeg) (v := .int 0) a9_38 rfl (nn (ix4_succ hx2).1) rfl (zer5 (ix4_succ hx2).1 (ix4_succ hx2).2)) <| .s (.icmpT a9_39 (by decide)) <| .s (.iinc (L' := [wR 4, wI 3, wI x2, wI 0]) a9_77 rfl rfl) <| .s (.goto a9_80) ?_
  refine .s (.iloadN a9_2 rfl) <| .s (.aloadN a9_3 rfl rfl) <| .s (.getF 5 a9_4 (wd hw 48 rfl) rfl rfl) <| .s (.icmpT a9_7 (by decide)) ?_
  refine .vreturn a9_83 rfl ?_
  exact ⟨rfl, rfl, rfl⟩
set_option maxHeartbeats 4000000 in
theorem au12_23 {Z : State} {a0 : Array Value} (hw : ∀ d ∈ tables_1, d.before a0 Z = true) (ρ : Nat → Nat) (n0 : Nat) (x0 : Int32) (x1 : Int32) (x2 : Int32) (x3 : Int32) (o2 : WObj) (o3 : WObj) (o5 : WObj) (hx0 : ix4 x0) (hx1 : ix4 x1) (hx2 : ix4 x2) (u : Nat) : WGo (g12 Z ρ n0 8 u) (0, [wI 4, wI 3], [], [(.inr (cn0, [(fk0, .ref 1), (fk1, .ref 2), (fk2, .ref 3)])), (wAI [.int 0, .int 0, .int 0, .int 0, .int 0]), o2, o3, (.inr (cn1, [(fk3, .ref 0), (fk4, .int 0), (fk5, .ref 5), (fk6, .ref 6), (fk7, .int 1), (fk8, .int 3)])), o5, (wAI [(.int x0), (.int x1), (.int x2), (.int x3)]), (wAI [.int 0, .int 0, .int 0])], u) (fun v σ' u' => v = some (.int 3) ∧ [(.inr (cn0, [(fk0, .ref 1), (fk1, .ref 2), (fk2, .ref 3)])), (wAI [.int 0, .int 0, .int 0, .int 0, .int 0]), o2, o3, (.inr (cn1, [(fk3, .ref 0), (fk4, .int 0), (fk5, .ref 5), (fk6, .ref 6), (fk7, .int 1), (fk8, .int 3)])), o5, (wAI [(.int x0), (.int x1), (.int x2), (.int x3)]), (wAI [.int 0, .int 0, .int 0])] = σ' ∧ u = u') := by
  refine .s (.iloadN a12_0 rfl) <| .s (.iloadN a12_1 rfl) <| .s (.icmpT a12_2 (by decide)) <| .s (.iloadN a12_9 rfl) ?_
  refine .ireturn .int a12_10 rfl (by simp) ?_
  exact ⟨rfl, rfl, rfl⟩
set_option maxHeartbeats 4000000 in
theorem au11_22 {Z : State} {a0 : Array Value} (hw : ∀ d ∈ tables_1, d.before a0 Z = true) (ρ : Nat → Nat) (n0 : Nat) (x0 : Int32) (x1 : Int32) (x2 : Int32) (x3 : Int32) (o2 : WObj) (o3 : WObj) (o5 : WObj) (hx0 : ix4 x0) (hx1 : ix4 x1) (hx2 : ix4 x2) (u : Nat) : WGo (g11 Z ρ n0 7 u) (0, [wR 6, wI 3, wU], [], [(.inr (cn0, [(fk0, .ref 1), (fk1, .ref 2), (fk2, .ref 3)])), (wAI [.int 0, .int 0, .int 0, .int 0, .int 0]), o2, o3, (.inr (cn1, [(fk3, .ref 0), (fk4, .int 0), (fk5, .ref 5), (fk6, .ref 6), (fk7, .int 1), (fk8, .int 3)])), o5, (wAI [(.int x0), (.int x1), (.int x2), (.int x3)])], u) (fun v σ' u' => v = some (.ref 7) ∧ [(.inr (cn0, [(fk0, .ref 1), (fk1, .ref 2), (fk2, .ref 3)])), (wAI [.int 0, .int 0, .int 0, .int 0, .int 0]), o2, o3, (.inr (cn1, [(fk3, .ref 0), (fk4, .int 0), (fk5, .ref 5), (fk6, .ref 6), (fk7, .int 1), (fk8, .int 3)])), o5, (wAI [(.int x0), (.int x1), (.int x2), (.int x3)]), (wAI [(.int x0), (.int x1), (.int x2)])] = σ' ∧ (u + 3) = u') := by
  refine .s (.iloadN a11_0 rfl) <| .s (.aloadN a11_1 rfl rfl) <| .s (.alen (4 : Int32) a11_2 rfl rfl) <| .s (.icmpT a11_3 (by decide)) <| .s (.iloadN a11_14 rfl) <| .s (.newP (k := 7) (3 : Int32) 3 a11_15 (wd hw 3 rfl) (by decide) rfl (by decide) rfl (by decide)) ?_
  show WGo _ (17, [wR 6, wI 3, wU], [.ref 7], [(.inr (cn0, [(fk0, .ref 1), (fk1, .ref 2), (fk2, .ref 3)])), (wAI [.int 0, .int 0, .int 0, .int 0, .int 0]), o2, o3, (.inr (cn1, [(fk3, .ref 0), (fk4, .int 0), (fk5, .ref 5), (fk6, .ref 6), (fk7, .int 1), (fk8, .int 3)])), o5, (wAI [(.int x0), (.int x1), (.int x2), (.int x3)]), (wAI [.int 0, .int 0, .int 0])], (u + 3)) _
  refine .s (.astoreN (L' := [wR 6, wI 3, wR 7]) a11_17 rfl rfl) <| .s (.aloadN a11_18 rfl rfl) <| .s (.iconst (0 : Int32) a11_19 rfl) <| .s (.aloadN a11_20 rfl rfl) <| .s (.iconst (0 : Int32) a11_21 rfl) <| .s (.aloadN a11_22 rfl rfl) <| .s (.alen (4 : Int32) a11_23 rfl rfl) ?_
  refine .s (.iloadN a11_24 rfl) ?_
  refine .callS a11_25 (ok12 hw _ _ _ _) (wd hw 73 rfl) (wd hw 74 rfl) (argsL := [.int 4, .int 3]) (S := [.int 0, .ref 7, .int 0, .ref 6]) (au12_23 hw _ _ x0 x1 x2 x3 o2 o3 o5 hx0 hx1 hx2 _) rfl rfl rfl rfl rfl rfl (Nat.le_of_ble_eq_true rfl) (Nat.le_of_ble_eq_true rfl) ?_
  rintro _ _ _ ⟨rfl, rfl, rfl⟩
  show WGo _ (28, [wR 6, wI 3, wR 7], [.int 3, .int 0, .ref 7, .int 0, .ref 6], [(.inr (cn0, [(fk0, .ref 1), (fk1, .ref 2), (fk2, .ref 3)])), (wAI [.int 0, .int 0, .int 0, .int 0, .int 0]), o2, o3, (.inr (cn1, [(fk3, .ref 0), (fk4, .int 0), (fk5, .ref 5), (fk6, .ref 6), (fk7, .int 1), (fk8, .int 3)])), o5, (wAI [(.int x0), (.int x1), (.int x2), (.int x3)]), (wAI [.int 0, .int 0, .int 0])], (u + 3)) _
  refine .s (.copyA (vr := [(.int x0), (.int x1), (.int x2)]) a11_28 (wd hw 77 rfl) (wd hw 80 rfl) (wd hw 78 rfl) (wd hw 79 rfl) rfl rfl rfl (by decide) (by decide) (by decide) (Nat.le_of_ble_eq_true rfl) (Nat.le_of_ble_eq_true rfl) (Nat.le_of_ble_eq_true rfl) (Nat.le_of_ble_eq_true rfl) rfl rfl (Nat.le_of_ble_eq_true rfl) (Nat.le_of_ble_eq_true rfl)) ?_
  show WGo _ (31, [wR 6, wI 3, wR 7], [], [(.inr (cn0, [(fk0, .ref 1), (fk1, .ref 2), (fk2, .ref 3)])), (wAI [.int 0, .int 0, .int 0, .int 0, .int 0]), o2, o3, (.inr (cn1, [(fk3, .ref 0), (fk4, .int 0), (fk5, .ref 5), (fk6, .ref 6), (fk7, .int 1), (fk8, .int 3)])), o5, (wAI [(.int x0), (.int x1), (.int x2), (.int x3)]), (wAI [(.int x0), (.int x1), (.int x2)])], (u + 3)) _
  refine .s (.aloadN a11_31 rfl rfl) ?_
  refine .areturn (.array .int) a11_32 rfl rfl rfl ?_
  exact ⟨rfl, rfl, rfl⟩
set_option maxHeartbeats 4000000 in
theorem au16_27 {Z : State} {a0 : Array Value} (hw : ∀ d ∈ tables_1, d.before a0 Z = true) (ρ : Nat → Nat) (n0 : Nat) (x0 : Int32) (x1 : Int32) (x2 : Int32) (x3 : Int32) (o2 : WObj) (o3 : WObj) (o5 : WObj) (hx0 : ix4 x0) (hx1 : ix4 x1) (hx2 : ix4 x2) (u : Nat) : WGo (g16 Z ρ n0 8 u) (0, [wR 7, wI 0, wI 3, wU, wU, wU], [], [(.inr (cn0, [(fk0, .ref 1), (fk1, .ref 2), (fk2, .ref 3)])), (wAI [.int 0, .int 0, .int 0, .int 0, .int 0]), o2, o3, (.inr (cn1, [(fk3, .ref 0), (fk4, .int 0), (fk5, .ref 5), (fk6, .ref 6), (fk7, .int 1), (fk8, .int 3)])), o5, (wAI [(.int x0), (.int x1), (.int x2), (.int x3)]), (wAI [(.int x0), (.int x1), (.int x2)])], u) (fun v σ' u' => (¬ x1 < x0 ∧ ¬ x2 < x1 ∧ v = none ∧ [(.inr (cn0, [(fk0, .ref 1), (fk1, .ref 2), (fk2, .ref 3)])), (wAI [.int 0, .int 0, .int 0, .int 0, .int 0]), o2, o3, (.inr (cn1, [(fk3, .ref 0), (fk4, .int 0), (fk5, .ref 5), (fk6, .ref 6), (fk7, .int 1), (fk8, .int 3)])), o5, (wAI [(.int x0), (.int x1), (.int x2), (.int x3)]), (wAI [(.int x0), (.int x1), (.int x2)])] = σ' ∧ u = u') ∨ (¬ x1 < x0 ∧ x2 < x1 ∧ x2 < x1 ∧ ¬ x2 < x0 ∧ v = none ∧ [(.inr (cn0, [(fk0, .ref 1), (fk1, .ref 2), (fk2, .ref 3)])), (wAI [.int 0, .int 0, .int 0, .int 0, .int 0]), o2, o3, (.inr (cn1, [(fk3, .ref 0), (fk4, .int 0), (fk5, .ref 5), (fk6, .ref 6), (fk7, .int 1), (fk8, .int 3)])), o5, (wAI [(.int x0), (.int x1), (.int x2), (.int x3)]), (wAI [(.int x0), (.int x2), (.int x1)])] = σ' ∧ u = u') ∨ (¬ x1 < x0 ∧ x2 < x1 ∧ x2 < x1 ∧ x2 < x0 ∧ v = none ∧ [(.inr (cn0, [(fk0, .ref 1), (fk1, .ref 2), (fk2, .ref 3)])), (wAI [.int 0, .int 0, .int 0, .int 0, .int 0]), o2, o3, (.inr (cn1, [(fk3, .ref 0), (fk4, .int 0), (fk5, .ref 5), (fk6, .ref 6), (fk7, .int 1), (fk8, .int 3)])), o5, (wAI [(.int x0), (.int x1), (.int x2), (.int x3)]), (wAI [(.int x2), (.int x0), (.int x1)])] = σ' ∧ u = u') ∨ (x1 < x0 ∧ x1 < x0 ∧ ¬ x2 < x0 ∧ v = none ∧ [(.inr (cn0, [(fk0, .ref 1), (fk1, .ref 2), (fk2, .ref 3)])), (wAI [.int 0, .int 0, .int 0, .int 0, .int 0]), o2, o3, (.inr (cn1, [(fk3, .ref 0), (fk4, .int 0), (fk5, .ref 5), (fk6, .ref 6), (fk7, .int 1), (fk8, .int 3)])), o5, (wAI [(.int x0), (.int x1), (.int x2), (.int x3)]), (wAI [(.int x1), (.int x0), (.int x2)])] = σ' ∧ u = u') ∨ (x1 < x0 ∧ x1 < x0 ∧ x2 < x0 ∧ x2 < x0 ∧ ¬ x2 < x1 ∧ v = none ∧ [(.inr (cn0, [(fk0, .ref 1), (fk1, .ref 2), (fk2, .ref 3)])), (wAI [.int 0, .int 0, .int 0, .int 0, .int 0]), o2, o3, (.inr (cn1, [(fk3, .ref 0), (fk4, .int 0), (fk5, .ref 5), (fk6, .ref 6), (fk7, .int 1), (fk8, .int 3)])), o5, (wAI [(.int x0), (.int x1), (.int x2), (.int x3)]), (wAI [(.int x1), (.int x2), (.int x0)])] = σ' ∧ u = u') ∨ (x1 < x0 ∧ x1 < x0 ∧ x2 < x0 ∧ x2 < x0 ∧ x2 < x1 ∧ v = none ∧ [(.inr (cn0, [(fk0, .ref 1), (fk1, .ref 2), (fk2, .ref 3)])), (wAI [.int 0, .int 0, .int 0, .int 0, .int 0]), o2, o3, (.inr (cn1, [(fk3, .ref 0), (fk4, .int 0), (fk5, .ref 5), (fk6, .ref 6), (fk7, .int 1), (fk8, .int 3)])), o5, (wAI [(.int x0), (.int x1), (.int x2), (.int x3)]), (wAI [(.int x2), (.int x1), (.int x0)])] = σ' ∧ u = u')) := by
  refine .s (.iloadN a16_0 rfl) <| .s (.istore (L' := [wR 7, wI 0, wI 3, wU, wI 0, wU]) a16_1 rfl) <| .s (.iinc (L' := [wR 7, wI 0, wI 3, wU, wI 1, wU]) a16_3 rfl rfl) <| .s (.iload a16_6 rfl) <| .s (.iloadN a16_8 rfl) <| .s (.icmpF a16_9 (by decide)) <| .s (.aloadN a16_12 rfl rfl) ?_
  refine .s (.iload a16_13 rfl) <| .s (.dup a16_15 rfl) <| .s (.istoreN (L' := [wR 7, wI 0, wI 3, wI 1, wI 1, wU]) a16_16 rfl) <| .s (.iaload 1 a16_17 rfl (by decide) rfl rfl) <| .s (.istore (L' := [wR 7, wI 0, wI 3, wI 1, wI 1, wI x1]) a16_18 rfl) <| .s (.iload a16_20 rfl) <| .s (.aloadN a16_22 rfl rfl) ?_
  refine .s (.iloadN a16_23 rfl) <| .s (.iconst (1 : Int32) a16_24 rfl) <| .s (.isub a16_25) ?_
  show WGo _ (26, [wR 7, wI 0, wI 3, wI 1, wI 1, wI x1], [.int 0, .ref 7, (.int x1)], [(.inr (cn0, [(fk0, .ref 1), (fk1, .ref 2), (fk2, .ref 3)])), (wAI [.int 0, .int 0, .int 0, .int 0, .int 0]), o2, o3, (.inr (cn1, [(fk3, .ref 0), (fk4, .int 0), (fk5, .ref 5), (fk6, .ref 6), (fk7, .int 1), (fk8, .int 3)])), o5, (wAI [(.int x0), (.int x1), (.int x2), (.int x3)]), (wAI [(.int x0), (.int x1), (.int x2)])], u) _
  refine .s (.iaload 0 a16_26 rfl (by decide) rfl rfl) ?_
  refine .ge a16_27 (fun h27 => ?_) (fun h27 => ?_)
  · refine .s (.goto a16_64) <| .s (.iinc (L' := [wR 7, wI 0, wI 3, wI 1, wI 2, wI x1]) a16_3 rfl rfl) <| .s (.iload a16_6 rfl) <| .s (.iloadN a16_8 rfl) <| .s (.icmpF a16_9 (by decide)) <| .s (.aloadN a16_12 rfl rfl) <| .s (.iload a16_13 rfl) ?_
    refine .s (.dup a16_15 rfl) <| .s (.istoreN (L' := [wR 7, wI 0, wI 3, wI 2, wI 2, wI x1]) a16_16 rfl) <| .s (.iaload 2 a16_17 rfl (by decide) rfl rfl) <| .s (.istore (L' := [wR 7, wI 0, wI 3, wI 2, wI 2, wI x2]) a16_18 rfl) <| .s (.iload a16_20 rfl) <| .s (.aloadN a16_22 rfl rfl) <| .s (.iloadN a16_23 rfl) ?_
    refine .s (.iconst (1 : Int32) a16_24 rfl) <| .s (.isub a16_25) ?_
    show WGo _ (26, [wR 7, wI 0, wI 3, wI 2, wI 2, wI x2], [.int 1, .ref 7, (.int x2)], [(.inr (cn0, [(fk0, .ref 1), (fk1, .ref 2), (fk2, .ref 3)])), (wAI [.int 0, .int 0, .int 0, .int 0, .int 0]), o2, o3, (.inr (cn1, [(fk3, .ref 0), (fk4, .int 0), (fk5, .ref 5), (fk6, .ref 6), (fk7, .int 1), (fk8, .int 3)])), o5, (wAI [(.int x0), (.int x1), (.int x2), (.int x3)]), (wAI [(.int x0), (.int x1), (.int x2)])], u) _
    refine .s (.iaload 1 a16_26 rfl (by decide) rfl rfl) ?_
    refine .ge a16_27 (fun h27_1 => ?_) (fun h27_1 => ?_)
    · refine .s (.goto a16_64) <| .s (.iinc (L' := [wR 7, wI 0, wI 3, wI 2, wI 3, wI x2]) a16_3 rfl rfl) <| .s (.iload a16_6 rfl) <| .s (.iloadN a16_8 rfl) <| .s (.icmpT a16_9 (by decide)) ?_
      refine .vreturn a16_67 rfl ?_
      exact Or.inl ⟨h27, h27_1, rfl, rfl, rfl⟩
    · refine .s (.iinc (L' := [wR 7, wI 0, wI 3, wI 1, wI 2, wI x2]) a16_30 rfl rfl) <| .s (.iloadN a16_33 rfl) <| .s (.iloadN a16_34 rfl) <| .s (.icmpF a16_35 (by decide)) <| .s (.iload a16_38 rfl) <| .s (.aloadN a16_40 rfl rfl) <| .s (.iloadN a16_41 rfl) ?_
      refine .s (.iaload 1 a16_42 rfl (by decide) rfl rfl) ?_
      refine .ge a16_43 (fun h43 => ?_) (fun h43 => ?_)
      · exfalso
        simp only [Int32.lt_iff_toInt_lt, Int64.lt_iff_toInt_lt, ← Int32.toInt_inj, ← Int64.toInt_inj, Int32.reduceToInt, Int64.reduceToInt] at *
        omega
      · refine .s (.aloadN a16_46 rfl rfl) <| .s (.iloadN a16_47 rfl) <| .s (.iconst (1 : Int32) a16_48 rfl) <| .s (.iadd a16_49) ?_
        show WGo _ (50, [wR 7, wI 0, wI 3, wI 1, wI 2, wI x2], [.int 2, .ref 7], [(.inr (cn0, [(fk0, .ref 1), (fk1, .ref 2), (fk2, .ref 3)])), (wAI [.int 0, .int 0, .int 0, .int 0, .int 0]), o2, o3, (.inr (cn1, [(fk3, .ref 0), (fk4, .int 0), (fk5, .ref 5), (fk6, .ref 6), (fk7, .int 1), (fk8, .int 3)])), o5, (wAI [(.int x0), (.int x1), (.int x2), (.int x3)]), (wAI [(.int x0), (.int x1), (.int x2)])], u) _
        refine .s (.aloadN a16_50 rfl rfl) <| .s (.iloadN a16_51 rfl) <| .s (.iaload 1 a16_52 rfl (by decide) rfl rfl) <| .s (.iastore 2 a16_53 rfl (by decide) rfl (Nat.le_of_ble_eq_true rfl)) ?_
        show WGo _ (54, [wR 7, wI 0, wI 3, wI 1, wI 2, wI x2], [], [(.inr (cn0, [(fk0, .ref 1), (fk1, .ref 2), (fk2, .ref 3)])), (wAI [.int 0, .int 0, .int 0, .int 0, .int 0]), o2, o3, (.inr (cn1, [(fk3, .ref 0), (fk4, .int 0), (fk5, .ref 5), (fk6, .ref 6), (fk7, .int 1), (fk8, .int 3)])), o5, (wAI [(.int x0), (.int x1), (.int x2), (.int x3)]), (wAI [(.int x0), (.int x1), (.int x1)])], u) _
        refine .s (.goto a16_54) <| .s (.iinc (L' := [wR 7, wI 0, wI 3, wI 0, wI 2, wI x2]) a16_30 rfl rfl) <| .s (.iloadN a16_33 rfl) <| .s (.iloadN a16_34 rfl) <| .s (.icmpF a16_35 (by decide)) <| .s (.iload a16_38 rfl) <| .s (.aloadN a16_40 rfl rfl) ?_
        refine .s (.iloadN a16_41 rfl) <| .s (.iaload 0 a16_42 rfl (by decide) rfl rfl) ?_
        refine .ge a16_43 (fun h43_1 => ?_) (fun h43_1 => ?_)
        · refine .s (.aloadN a16_57 rfl rfl) <| .s (.iloadN a16_58 rfl) <| .s (.iconst (1 : Int32) a16_59 rfl) <| .s (.iadd a16_60) ?_
          show WGo _ (61, [wR 7, wI 0, wI 3, wI 0, wI 2, wI x2], [.int 1, .ref 7], [(.inr (cn0, [(fk0, .ref 1), (fk1, .ref 2), (fk2, .ref 3)])), (wAI [.int 0, .int 0, .int 0, .int 0, .int 0]), o2, o3, (.inr (cn1, [(fk3, .ref 0), (fk4, .int 0), (fk5, .ref 5), (fk6, .ref 6), (fk7, .int 1), (fk8, .int 3)])), o5, (wAI [(.int x0), (.int x1), (.int x2), (.int x3)]), (wAI [(.int x0), (.int x1), (.int x1)])], u) _
          refine .s (.iload a16_61 rfl) <| .s (.iastore 1 a16_63 rfl (by decide) rfl (Nat.le_of_ble_eq_true rfl)) ?_
          show WGo _ (64, [wR 7, wI 0, wI 3, wI 0, wI 2, wI x2], [], [(.inr (cn0, [(fk0, .ref 1), (fk1, .ref 2), (fk2, .ref 3)])), (wAI [.int 0, .int 0, .int 0, .int 0, .int 0]), o2, o3, (.inr (cn1, [(fk3, .ref 0), (fk4, .int 0), (fk5, .ref 5), (fk6, .ref 6), (fk7, .int 1), (fk8, .int 3)])), o5, (wAI [(.int x0), (.int x1), (.int x2), (.int x3)]), (wAI [(.int x0), (.int x2), (.int x1)])], u) _
          refine .s (.goto a16_64) <| .s (.iinc (L' := [wR 7, wI 0, wI 3, wI 0, wI 3, wI x2]) a16_3 rfl rfl) <| .s (.iload a16_6 rfl) <| .s (.iloadN a16_8 rfl) <| .s (.icmpT a16_9 (by decide)) ?_
          refine .vreturn a16_67 rfl ?_
          exact Or.inr (Or.inl ⟨h27, h27_1, h43, h43_1, rfl, rfl, rfl⟩)
        · refine .s (.aloadN a16_46 rfl rfl) <| .s (.iloadN a16_47 rfl) <| .s (.iconst (1 : Int32) a16_48 rfl) <| .s (.iadd a16_49) ?_
          show WGo _ (50, [wR 7, wI 0, wI 3, wI 0, wI 2, wI x2], [.int 1, .ref 7], [(.inr (cn0, [(fk0, .ref 1), (fk1, .ref 2), (fk2, .ref 3)])), (wAI [.int 0, .int 0, .int 0, .int 0, .int 0]), o2, o3, (.inr (cn1, [(fk3, .ref 0), (fk4, .int 0), (fk5, .ref 5), (fk6, .ref 6), (fk7, .int 1), (fk8, .int 3)])), o5, (wAI [(.int x0), (.int x1), (.int x2), (.int x3)]), (wAI [(.int x0), (.int x1), (.int x1)])], u) _
          refine .s (.aloadN a16_50 rfl rfl) <| .s (.iloadN a16_51 rfl) <| .s (.iaload 0 a16_52 rfl (by decide) rfl rfl) <| .s (.iastore 1 a16_53 rfl (by decide) rfl (Nat.le_of_ble_eq_true rfl)) ?_
          show WGo _ (54, [wR 7, wI 0, wI 3, wI 0, wI 2, wI x2], [], [(.inr (cn0, [(fk0, .ref 1), (fk1, .ref 2), (fk2, .ref 3)])), (wAI [.int 0, .int 0, .int 0, .int 0, .int 0]), o2, o3, (.inr (cn1, [(fk3, .ref 0), (fk4, .int 0), (fk5, .ref 5), (fk6, .ref 6), (fk7, .int 1), (fk8, .int 3)])), o5, (wAI [(.int x0), (.int x1), (.int x2), (.int x3)]), (wAI [(.int x0), (.int x0), (.int x1)])], u) _
          refine .s (.goto a16_54) <| .s (.iinc (L' := [wR 7, wI 0, wI 3, wI (-1), wI 2, wI x2]) a16_30 rfl rfl) <| .s (.iloadN a16_33 rfl) <| .s (.iloadN a16_34 rfl) <| .s (.icmpT a16_35 (by decide)) <| .s (.aloadN a16_57 rfl rfl) <| .s (.iloadN a16_58 rfl) ?_
          refine .s (.iconst (1 : Int32) a16_59 rfl) <| .s (.iadd a16_60) ?_
          show WGo _ (61, [wR 7, wI 0, wI 3, wI (-1), wI 2, wI x2], [.int 0, .ref 7], [(.inr (cn0, [(fk0, .ref 1), (fk1, .ref 2), (fk2, .ref 3)])), (wAI [.int 0, .int 0, .int 0, .int 0, .int 0]), o2, o3, (.inr (cn1, [(fk3, .ref 0), (fk4, .int 0), (fk5, .ref 5), (fk6, .ref 6), (fk7, .int 1), (fk8, .int 3)])), o5, (wAI [(.int x0), (.int x1), (.int x2), (.int x3)]), (wAI [(.int x0), (.int x0), (.int x1)])], u) _
          refine .s (.iload a16_61 rfl) <| .s (.iastore 0 a16_63 rfl (by decide) rfl (Nat.le_of_ble_eq_true rfl)) ?_
          show WGo _ (64, [wR 7, wI 0, wI 3, wI (-1), wI 2, wI x2], [], [(.inr (cn0, [(fk0, .ref 1), (fk1, .ref 2), (fk2, .ref 3)])), (wAI [.int 0, .int 0, .int 0, .int 0, .int 0]), o2, o3, (.inr (cn1, [(fk3, .ref 0), (fk4, .int 0), (fk5, .ref 5), (fk6, .ref 6), (fk7, .int 1), (fk8, .int 3)])), o5, (wAI [(.int x0), (.int x1), (.int x2), (.int x3)]), (wAI [(.int x2), (.int x0), (.int x1)])], u) _
          refine .s (.goto a16_64) <| .s (.iinc (L' := [wR 7, wI 0, wI 3, wI (-1), wI 3, wI x2]) a16_3 rfl rfl) <| .s (.iload a16_6 rfl) <| .s (.iloadN a16_8 rfl) <| .s (.icmpT a16_9 (by decide)) ?_
          refine .vreturn a16_67 rfl ?_
          exact Or.inr (Or.inr (Or.inl ⟨h27, h27_1, h43, h43_1, rfl, rfl, rfl⟩))
  · refine .s (.iinc (L' := [wR 7, wI 0, wI 3, wI 0, wI 1, wI x1]) a16_30 rfl rfl) <| .s (.iloadN a16_33 rfl) <| .s (.iloadN a16_34 rfl) <| .s (.icmpF a16_35 (by decide)) <| .s (.iload a16_38 rfl) <| .s (.aloadN a16_40 rfl rfl) <| .s (.iloadN a16_41 rfl) ?_
    refine .s (.iaload 0 a16_42 rfl (by decide) rfl rfl) ?_
    refine .ge a16_43 (fun h43 => ?_) (fun h43 => ?_)
    · exfalso
      simp only [Int32.lt_iff_toInt_lt, Int64.lt_iff_toInt_lt, ← Int32.toInt_inj, ← Int64.toInt_inj, Int32.reduceToInt, Int64.reduceToInt] at *
      omega
    · refine .s (.aloadN a16_46 rfl rfl) <| .s (.iloadN a16_47 rfl) <| .s (.iconst (1 : Int32) a16_48 rfl) <| .s (.iadd a16_49) ?_
      show WGo _ (50, [wR 7, wI 0, wI 3, wI 0, wI 1, wI x1], [.int 1, .ref 7], [(.inr (cn0, [(fk0, .ref 1), (fk1, .ref 2), (fk2, .ref 3)])), (wAI [.int 0, .int 0, .int 0, .int 0, .int 0]), o2, o3, (.inr (cn1, [(fk3, .ref 0), (fk4, .int 0), (fk5, .ref 5), (fk6, .ref 6), (fk7, .int 1), (fk8, .int 3)])), o5, (wAI [(.int x0), (.int x1), (.int x2), (.int x3)]), (wAI [(.int x0), (.int x1), (.int x2)])], u) _
      refine .s (.aloadN a16_50 rfl rfl) <| .s (.iloadN a16_51 rfl) <| .s (.iaload 0 a16_52 rfl (by decide) rfl rfl) <| .s (.iastore 1 a16_53 rfl (by decide) rfl (Nat.le_of_ble_eq_true rfl)) ?_
      show WGo _ (54, [wR 7, wI 0, wI 3, wI 0, wI 1, wI x1], [], [(.inr (cn0, [(fk0, .ref 1), (fk1, .ref 2), (fk2, .ref 3)])), (wAI [.int 0, .int 0, .int 0, .int 0, .int 0]), o2, o3, (.inr (cn1, [(fk3, .ref 0), (fk4, .int 0), (fk5, .ref 5), (fk6, .ref 6), (fk7, .int 1), (fk8, .int 3)])), o5, (wAI [(.int x0), (.int x1), (.int x2), (.int x3)]), (wAI [(.int x0), (.int x0), (.int x2)])], u) _
      refine .s (.goto a16_54) <| .s (.iinc (L' := [wR 7, wI 0, wI 3, wI (-1), wI 1, wI x1]) a16_30 rfl rfl) <| .s (.iloadN a16_33 rfl) <| .s (.iloadN a16_34 rfl) <| .s (.icmpT a16_35 (by decide)) <| .s (.aloadN a16_57 rfl rfl) <| .s (.iloadN a16_58 rfl) ?_
      refine .s (.iconst (1 : Int32) a16_59 rfl) <| .s (.iadd a16_60) ?_
      show WGo _ (61, [wR 7, wI 0, wI 3, wI (-1), wI 1, wI x1], [.int 0, .ref 7], [(.inr (cn0, [(fk0, .ref 1), (fk1, .ref 2), (fk2, .ref 3)])), (wAI [.int 0, .int 0, .int 0, .int 0, .int 0]), o2, o3, (.inr (cn1, [(fk3, .ref 0), (fk4, .int 0), (fk5, .ref 5), (fk6, .ref 6), (fk7, .int 1), (fk8, .int 3)])), o5, (wAI [(.int x0), (.int x1), (.int x2), (.int x3)]), (wAI [(.int x0), (.int x0), (.int x2)])], u) _
      refine .s (.iload a16_61 rfl) <| .s (.iastore 0 a16_63 rfl (by decide) rfl (Nat.le_of_ble_eq_true rfl)) ?_
      show WGo _ (64, [wR 7, wI 0, wI 3, wI (-1), wI 1, wI x1], [], [(.inr (cn0, [(fk0, .ref 1), (fk1, .ref 2), (fk2, .ref 3)])), (wAI [.int 0, .int 0, .int 0, .int 0, .int 0]), o2, o3, (.inr (cn1, [(fk3, .ref 0), (fk4, .int 0), (fk5, .ref 5), (fk6, .ref 6), (fk7, .int 1), (fk8, .int 3)])), o5, (wAI [(.int x0), (.int x1), (.int x2), (.int x3)]), (wAI [(.int x1), (.int x0), (.int x2)])], u) _
      refine .s (.goto a16_64) <| .s (.iinc (L' := [wR 7, wI 0, wI 3, wI (-1), wI 2, wI x1]) a16_3 rfl rfl) <| .s (.iload a16_6 rfl) <| .s (.iloadN a16_8 rfl) <| .s (.icmpF a16_9 (by decide)) <| .s (.aloadN a16_12 rfl rfl) <| .s (.iload a16_13 rfl) ?_
      refine .s (.dup a16_15 rfl) <| .s (.istoreN (L' := [wR 7, wI 0, wI 3, wI 2, wI 2, wI x1]) a16_16 rfl) <| .s (.iaload 2 a16_17 rfl (by decide) rfl rfl) <| .s (.istore (L' := [wR 7, wI 0, wI 3, wI 2, wI 2, wI x2]) a16_18 rfl) <| .s (.iload a16_20 rfl) <| .s (.aloadN a16_22 rfl rfl) <| .s (.iloadN a16_23 rfl) ?_
      refine .s (.iconst (1 : Int32) a16_24 rfl) <| .s (.isub a16_25) ?_
      show WGo _ (26, [wR 7, wI 0, wI 3, wI 2, wI 2, wI x2], [.int 1, .ref 7, (.int x2)], [(.inr (cn0, [(fk0, .ref 1), (fk1, .ref 2), (fk2, .ref 3)])), (wAI [.int 0, .int 0, .int 0, .int 0, .int 0]), o2, o3, (.inr (cn1, [(fk3, .ref 0), (fk4, .int 0), (fk5, .ref 5), (fk6, .ref 6), (fk7, .int 1), (fk8, .int 3)])), o5, (wAI [(.int x0), (.int x1), (.int x2), (.int x3)]), (wAI [(.int x1), (.int x0), (.int x2)])], u) _
      refine .s (.iaload 1 a16_26 rfl (by decide) rfl rfl) ?_
      refine .ge a16_27 (fun h27_1 => ?_) (fun h27_1 => ?_)
      · refine .s (.goto a16_64) <| .s (.iinc (L' := [wR 7, wI 0, wI 3, wI 2, wI 3, wI x2]) a16_3 rfl rfl) <| .s (.iload a16_6 rfl) <| .s (.iloadN a16_8 rfl) <| .s (.icmpT a16_9 (by decide)) ?_
        refine .vreturn a16_67 rfl ?_
        exact Or.inr (Or.inr (Or.inr (Or.inl ⟨h27, h43, h27_1, rfl, rfl, rfl⟩)))
      · refine .s (.iinc (L' := [wR 7, wI 0, wI 3, wI 1, wI 2, wI x2]) a16_30 rfl rfl) <| .s (.iloadN a16_33 rfl) <| .s (.iloadN a16_34 rfl) <| .s (.icmpF a16_35 (by decide)) <| .s (.iload a16_38 rfl) <| .s (.aloadN a16_40 rfl rfl) <| .s (.iloadN a16_41 rfl) ?_
        refine .s (.iaload 1 a16_42 rfl (by decide) rfl rfl) ?_
        refine .ge a16_43 (fun h43_1 => ?_) (fun h43_1 => ?_)
        · exfalso
          simp only [Int32.lt_iff_toInt_lt, Int64.lt_iff_toInt_lt, ← Int32.toInt_inj, ← Int64.toInt_inj, Int32.reduceToInt, Int64.reduceToInt] at *
          omega
        · refine .s (.aloadN a16_46 rfl rfl) <| .s (.iloadN a16_47 rfl) <| .s (.iconst (1 : Int32) a16_48 rfl) <| .s (.iadd a16_49) ?_
          show WGo _ (50, [wR 7, wI 0, wI 3, wI 1, wI 2, wI x2], [.int 2, .ref 7], [(.inr (cn0, [(fk0, .ref 1), (fk1, .ref 2), (fk2, .ref 3)])), (wAI [.int 0, .int 0, .int 0, .int 0, .int 0]), o2, o3, (.inr (cn1, [(fk3, .ref 0), (fk4, .int 0), (fk5, .ref 5), (fk6, .ref 6), (fk7, .int 1), (fk8, .int 3)])), o5, (wAI [(.int x0), (.int x1), (.int x2), (.int x3)]), (wAI [(.int x1), (.int x0), (.int x2)])], u) _
          refine .s (.aloadN a16_50 rfl rfl) <| .s (.iloadN a16_51 rfl) <| .s (.iaload 1 a16_52 rfl (by decide) rfl rfl) <| .s (.iastore 2 a16_53 rfl (by decide) rfl (Nat.le_of_ble_eq_true rfl)) ?_
          show WGo _ (54, [wR 7, wI 0, wI 3, wI 1, wI 2, wI x2], [], [(.inr (cn0, [(fk0, .ref 1), (fk1, .ref 2), (fk2, .ref 3)])), (wAI [.int 0, .int 0, .int 0, .int 0, .int 0]), o2, o3, (.inr (cn1, [(fk3, .ref 0), (fk4, .int 0), (fk5, .ref 5), (fk6, .ref 6), (fk7, .int 1), (fk8, .int 3)])), o5, (wAI [(.int x0), (.int x1), (.int x2), (.int x3)]), (wAI [(.int x1), (.int x0), (.int x0)])], u) _
          refine .s (.goto a16_54) <| .s (.iinc (L' := [wR 7, wI 0, wI 3, wI 0, wI 2, wI x2]) a16_30 rfl rfl) <| .s (.iloadN a16_33 rfl) <| .s (.iloadN a16_34 rfl) <| .s (.icmpF a16_35 (by decide)) <| .s (.iload a16_38 rfl) <| .s (.aloadN a16_40 rfl rfl) ?_
          refine .s (.iloadN a16_41 rfl) <| .s (.iaload 0 a16_42 rfl (by decide) rfl rfl) ?_
          refine .ge a16_43 (fun h43_2 => ?_) (fun h43_2 => ?_)
          · refine .s (.aloadN a16_57 rfl rfl) <| .s (.iloadN a16_58 rfl) <| .s (.iconst (1 : Int32) a16_59 rfl) <| .s (.iadd a16_60) ?_
            show WGo _ (61, [wR 7, wI 0, wI 3, wI 0, wI 2, wI x2], [.int 1, .ref 7], [(.inr (cn0, [(fk0, .ref 1), (fk1, .ref 2), (fk2, .ref 3)])), (wAI [.int 0, .int 0, .int 0, .int 0, .int 0]), o2, o3, (.inr (cn1, [(fk3, .ref 0), (fk4, .int 0), (fk5, .ref 5), (fk6, .ref 6), (fk7, .int 1), (fk8, .int 3)])), o5, (wAI [(.int x0), (.int x1), (.int x2), (.int x3)]), (wAI [(.int x1), (.int x0), (.int x0)])], u) _
            refine .s (.iload a16_61 rfl) <| .s (.iastore 1 a16_63 rfl (by decide) rfl (Nat.le_of_ble_eq_true rfl)) ?_
            show WGo _ (64, [wR 7, wI 0, wI 3, wI 0, wI 2, wI x2], [], [(.inr (cn0, [(fk0, .ref 1), (fk1, .ref 2), (fk2, .ref 3)])), (wAI [.int 0, .int 0, .int 0, .int 0, .int 0]), o2, o3, (.inr (cn1, [(fk3, .ref 0), (fk4, .int 0), (fk5, .ref 5), (fk6, .ref 6), (fk7, .int 1), (fk8, .int 3)])), o5, (wAI [(.int x0), (.int x1), (.int x2), (.int x3)]), (wAI [(.int x1), (.int x2), (.int x0)])], u) _
            refine .s (.goto a16_64) <| .s (.iinc (L' := [wR 7, wI 0, wI 3, wI 0, wI 3, wI x2]) a16_3 rfl rfl) <| .s (.iload a16_6 rfl) <| .s (.iloadN a16_8 rfl) <| .s (.icmpT a16_9 (by decide)) ?_
            refine .vreturn a16_67 rfl ?_
            exact Or.inr (Or.inr (Or.inr (Or.inr (Or.inl ⟨h27, h43, h27_1, h43_1, h43_2, rfl, rfl, rfl⟩))))
          · refine .s (.aloadN a16_46 rfl rfl) <| .s (.iloadN a16_47 rfl) <| .s (.iconst (1 : Int32) a16_48 rfl) <| .s (.iadd a16_49) ?_
            show WGo _ (50, [wR 7, wI 0, wI 3, wI 0, wI 2, wI x2], [.int 1, .ref 7], [(.inr (cn0, [(fk0, .ref 1), (fk1, .ref 2), (fk2, .ref 3)])), (wAI [.int 0, .int 0, .int 0, .int 0, .int 0]), o2, o3, (.inr (cn1, [(fk3, .ref 0), (fk4, .int 0), (fk5, .ref 5), (fk6, .ref 6), (fk7, .int 1), (fk8, .int 3)])), o5, (wAI [(.int x0), (.int x1), (.int x2), (.int x3)]), (wAI [(.int x1), (.int x0), (.int x0)])], u) _
            refine .s (.aloadN a16_50 rfl rfl) <| .s (.iloadN a16_51 rfl) <| .s (.iaload 0 a16_52 rfl (by decide) rfl rfl) <| .s (.iastore 1 a16_53 rfl (by decide) rfl (Nat.le_of_ble_eq_true rfl)) ?_
            show WGo _ (54, [wR 7, wI 0, wI 3, wI 0, wI 2, wI x2], [], [(.inr (cn0, [(fk0, .ref 1), (fk1, .ref 2), (fk2, .ref 3)])), (wAI [.int 0, .int 0, .int 0, .int 0, .int 0]), o2, o3, (.inr (cn1, [(fk3, .ref 0), (fk4, .int 0), (fk5, .ref 5), (fk6, .ref 6), (fk7, .int 1), (fk8, .int 3)])), o5, (wAI [(.int x0), (.int x1), (.int x2), (.int x3)]), (wAI [(.int x1), (.int x1), (.int x0)])], u) _
            refine .s (.goto a16_54) <| .s (.iinc (L' := [wR 7, wI 0, wI 3, wI (-1), wI 2, wI x2]) a16_30 rfl rfl) <| .s (.iloadN a16_33 rfl) <| .s (.iloadN a16_34 rfl) <| .s (.icmpT a16_35 (by decide)) <| .s (.aloadN a16_57 rfl rfl) <| .s (.iloadN a16_58 rfl) ?_
            refine .s (.iconst (1 : Int32) a16_59 rfl) <| .s (.iadd a16_60) ?_
            show WGo _ (61, [wR 7, wI 0, wI 3, wI (-1), wI 2, wI x2], [.int 0, .ref 7], [(.inr (cn0, [(fk0, .ref 1), (fk1, .ref 2), (fk2, .ref 3)])), (wAI [.int 0, .int 0, .int 0, .int 0, .int 0]), o2, o3, (.inr (cn1, [(fk3, .ref 0), (fk4, .int 0), (fk5, .ref 5), (fk6, .ref 6), (fk7, .int 1), (fk8, .int 3)])), o5, (wAI [(.int x0), (.int x1), (.int x2), (.int x3)]), (wAI [(.int x1), (.int x1), (.int x0)])], u) _
            refine .s (.iload a16_61 rfl) <| .s (.iastore 0 a16_63 rfl (by decide) rfl (Nat.le_of_ble_eq_true rfl)) ?_
            show WGo _ (64, [wR 7, wI 0, wI 3, wI (-1), wI 2, wI x2], [], [(.inr (cn0, [(fk0, .ref 1), (fk1, .ref 2), (fk2, .ref 3)])), (wAI [.int 0, .int 0, .int 0, .int 0, .int 0]), o2, o3, (.inr (cn1, [(fk3, .ref 0), (fk4, .int 0), (fk5, .ref 5), (fk6, .ref 6), (fk7, .int 1), (fk8, .int 3)])), o5, (wAI [(.int x0), (.int x1), (.int x2), (.int x3)]), (wAI [(.int x2), (.int x1), (.int x0)])], u) _
            refine .s (.goto a16_64) <| .s (.iinc (L' := [wR 7, wI 0, wI 3, wI (-1), wI 3, wI x2]) a16_3 rfl rfl) <| .s (.iload a16_6 rfl) <| .s (.iloadN a16_8 rfl) <| .s (.icmpT a16_9 (by decide)) ?_
            refine .vreturn a16_67 rfl ?_
            exact Or.inr (Or.inr (Or.inr (Or.inr (Or.inr (⟨h27, h43, h27_1, h43_1, h43_2, rfl, rfl, rfl⟩)))))
set_option maxHeartbeats 4000000 in
theorem au15_26 {Z : State} {a0 : Array Value} (hw : ∀ d ∈ tables_1, d.before a0 Z = true) (ρ : Nat → Nat) (n0 : Nat) (x0 : Int32) (x1 : Int32) (x2 : Int32) (x3 : Int32) (o2 : WObj) (o3 : WObj) (o5 : WObj) (hx0 : ix4 x0) (hx1 : ix4 x1) (hx2 : ix4 x2) (u : Nat) : WGo (g15 Z ρ n0 8 u) (0, [wN, wR 7, wI 0, wI 0, wI 3, wU, wU, wU, wU, wU, wU, wU, wU, wU, wU, wU, wU, wU, wU, wU, wU], [], [(.inr (cn0, [(fk0, .ref 1), (fk1, .ref 2), (fk2, .ref 3)])), (wAI [.int 0, .int 0, .int 0, .int 0, .int 0]), o2, o3, (.inr (cn1, [(fk3, .ref 0), (fk4, .int 0), (fk5, .ref 5), (fk6, .ref 6), (fk7, .int 1), (fk8, .int 3)])), o5, (wAI [(.int x0), (.int x1), (.int x2), (.int x3)]), (wAI [(.int x0), (.int x1), (.int x2)])], u) (fun v σ' u' => (¬ x1 < x0 ∧ ¬ x2 < x1 ∧ v = none ∧ [(.inr (cn0, [(fk0, .ref 1), (fk1, .ref 2), (fk2, .ref 3)])), (wAI [.int 0, .int 0, .int 0, .int 0, .int 0]), o2, o3, (.inr (cn1, [(fk3, .ref 0), (fk4, .int 0), (fk5, .ref 5), (fk6, .ref 6), (fk7, .int 1), (fk8, .int 3)])), o5, (wAI [(.int x0), (.int x1), (.int x2), (.int x3)]), (wAI [(.int x0), (.int x1), (.int x2)])] = σ' ∧ u = u') ∨ (¬ x1 < x0 ∧ x2 < x1 ∧ x2 < x1 ∧ ¬ x2 < x0 ∧ v = none ∧ [(.inr (cn0, [(fk0, .ref 1), (fk1, .ref 2), (fk2, .ref 3)])), (wAI [.int 0, .int 0, .int 0, .int 0, .int 0]), o2, o3, (.inr (cn1, [(fk3, .ref 0), (fk4, .int 0), (fk5, .ref 5), (fk6, .ref 6), (fk7, .int 1), (fk8, .int 3)])), o5, (wAI [(.int x0), (.int x1), (.int x2), (.int x3)]), (wAI [(.int x0), (.int x2), (.int x1)])] = σ' ∧ u = u') ∨ (¬ x1 < x0 ∧ x2 < x1 ∧ x2 < x1 ∧ x2 < x0 ∧ v = none ∧ [(.inr (cn0, [(fk0, .ref 1), (fk1, .ref 2), (fk2, .ref 3)])), (wAI [.int 0, .int 0, .int 0, .int 0, .int 0]), o2, o3, (.inr (cn1, [(fk3, .ref 0), (fk4, .int 0), (fk5, .ref 5), (fk6, .ref 6), (fk7, .int 1), (fk8, .int 3)])), o5, (wAI [(.int x0), (.int x1), (.int x2), (.int x3)]), (wAI [(.int x2), (.int x0), (.int x1)])] = σ' ∧ u = u') ∨ (x1 < x0 ∧ x1 < x0 ∧ ¬ x2 < x0 ∧ v = none ∧ [(.inr (cn0, [(fk0, .ref 1), (fk1, .ref 2), (fk2, .ref 3)])), (wAI [.int 0, .int 0, .int 0, .int 0, .int 0]), o2, o3, (.inr (cn1, [(fk3, .ref 0), (fk4, .int 0), (fk5, .ref 5), (fk6, .ref 6), (fk7, .int 1), (fk8, .int 3)])), o5, (wAI [(.int x0), (.int x1), (.int x2), (.int x3)]), (wAI [(.int x1), (.int x0), (.int x2)])] = σ' ∧ u = u') ∨ (x1 < x0 ∧ x1 < x0 ∧ x2 < x0 ∧ x2 < x0 ∧ ¬ x2 < x1 ∧ v = none ∧ [(.inr (cn0, [(fk0, .ref 1), (fk1, .ref 2), (fk2, .ref 3)])), (wAI [.int 0, .int 0, .int 0, .int 0, .int 0]), o2, o3, (.inr (cn1, [(fk3, .ref 0), (fk4, .int 0), (fk5, .ref 5), (fk6, .ref 6), (fk7, .int 1), (fk8, .int 3)])), o5, (wAI [(.int x0), (.int x1), (.int x2), (.int x3)]), (wAI [(.int x1), (.int x2), (.int x0)])] = σ' ∧ u = u') ∨ (x1 < x0 ∧ x1 < x0 ∧ x2 < x0 ∧ x2 < x0 ∧ x2 < x1 ∧ v = none ∧ [(.inr (cn0, [(fk0, .ref 1), (fk1, .ref 2), (fk2, .ref 3)])), (wAI [.int 0, .int 0, .int 0, .int 0, .int 0]), o2, o3, (.inr (cn1, [(fk3, .ref 0), (fk4, .int 0), (fk5, .ref 5), (fk6, .ref 6), (fk7, .int 1), (fk8, .int 3)])), o5, (wAI [(.int x0), (.int x1), (.int x2), (.int x3)]), (wAI [(.int x2), (.int x1), (.int x0)])] = σ' ∧ u = u')) := by
  refine .s (.iload a15_0 rfl) <| .s (.iconst (1 : Int32) a15_2 rfl) <| .s (.isub a15_3) ?_
  show WGo _ (4, [wN, wR 7, wI 0, wI 0, wI 3, wU, wU, wU, wU, wU, wU, wU, wU, wU, wU, wU, wU, wU, wU, wU, wU], [.int 2], [(.inr (cn0, [(fk0, .ref 1), (fk1, .ref 2), (fk2, .ref 3)])), (wAI [.int 0, .int 0, .int 0, .int 0, .int 0]), o2, o3, (.inr (cn1, [(fk3, .ref 0), (fk4, .int 0), (fk5, .ref 5), (fk6, .ref 6), (fk7, .int 1), (fk8, .int 3)])), o5, (wAI [(.int x0), (.int x1), (.int x2), (.int x3)]), (wAI [(.int x0), (.int x1), (.int x2)])], u) _
  refine .s (.istore (L' := [wN, wR 7, wI 0, wI 0, wI 3, wI 2, wU, wU, wU, wU, wU, wU, wU, wU, wU, wU, wU, wU, wU, wU, wU]) a15_4 rfl) <| .s (.iload a15_6 rfl) <| .s (.iloadN a15_8 rfl) <| .s (.isub a15_9) ?_
  show WGo _ (10, [wN, wR 7, wI 0, wI 0, wI 3, wI 2, wU, wU, wU, wU, wU, wU, wU, wU, wU, wU, wU, wU, wU, wU, wU], [.int 3], [(.inr (cn0, [(fk0, .ref 1), (fk1, .ref 2), (fk2, .ref 3)])), (wAI [.int 0, .int 0, .int 0, .int 0, .int 0]), o2, o3, (.inr (cn1, [(fk3, .ref 0), (fk4, .int 0), (fk5, .ref 5), (fk6, .ref 6), (fk7, .int 1), (fk8, .int 3)])), o5, (wAI [(.int x0), (.int x1), (.int x2), (.int x3)]), (wAI [(.int x0), (.int x1), (.int x2)])], u) _
  refine .s (.istore (L' := [wN, wR 7, wI 0, wI 0, wI 3, wI 2, wI 3, wU, wU, wU, wU, wU, wU, wU, wU, wU, wU, wU, wU, wU, wU]) a15_10 rfl) <| .s (.iload a15_12 rfl) <| .s (.bipush (65 : Int32) a15_14 rfl) <| .s (.iloadN a15_16 rfl) <| .s (.iadd a15_17) ?_
  show WGo _ (18, [wN, wR 7, wI 0, wI 0, wI 3, wI 2, wI 3, wU, wU, wU, wU, wU, wU, wU, wU, wU, wU, wU, wU, wU, wU], [.int 65, .int 3], [(.inr (cn0, [(fk0, .ref 1), (fk1, .ref 2), (fk2, .ref 3)])), (wAI [.int 0, .int 0, .int 0, .int 0, .int 0]), o2, o3, (.inr (cn1, [(fk3, .ref 0), (fk4, .int 0), (fk5, .ref 5), (fk6, .ref 6), (fk7, .int 1), (fk8, .int 3)])), o5, (wAI [(.int x0), (.int x1), (.int x2), (.int x3)]), (wAI [(.int x0), (.int x1), (.int x2)])], u) _
  refine .s (.icmpF a15_18 (by decide)) <| .s (.iloadN a15_21 rfl) <| .s (.iconst (1 : Int32) a15_22 rfl) <| .s (.iand a15_23) ?_
  show WGo _ (24, [wN, wR 7, wI 0, wI 0, wI 3, wI 2, wI 3, wU, wU, wU, wU, wU, wU, wU, wU, wU, wU, wU, wU, wU, wU], [.int 0], [(.inr (cn0, [(fk0, .ref 1), (fk1, .ref 2), (fk2, .ref 3)])), (wAI [.int 0, .int 0, .int 0, .int 0, .int 0]), o2, o3, (.inr (cn1, [(fk3, .ref 0), (fk4, .int 0), (fk5, .ref 5), (fk6, .ref 6), (fk7, .int 1), (fk8, .int 3)])), o5, (wAI [(.int x0), (.int x1), (.int x2), (.int x3)]), (wAI [(.int x0), (.int x1), (.int x2)])], u) _
  refine .s (.ifT a15_24 (by decide)) <| .s (.iload a15_46 rfl) <| .s (.bipush (44 : Int32) a15_48 rfl) <| .s (.icmpF a15_50 (by decide)) <| .s (.aloadN a15_53 rfl rfl) <| .s (.iloadN a15_54 rfl) <| .s (.iload a15_55 rfl) ?_
  refine .callS a15_57 (ok16 hw _ _ _ _) (wd hw 91 rfl) (wd hw 92 rfl) (argsL := [.ref 7, .int 0, .int 3]) (S := []) (au16_27 hw _ _ x0 x1 x2 x3 o2 o3 o5 hx0 hx1 hx2 _) rfl rfl rfl rfl rfl rfl (Nat.le_of_ble_eq_true rfl) (Nat.le_of_ble_eq_true rfl) ?_
  rintro _ _ _ (⟨q13, q14, rfl, rfl, rfl⟩ | ⟨q15, q16, q17, q18, rfl, rfl, rfl⟩ | ⟨q19, q20, q21, q22, rfl, rfl, rfl⟩ | ⟨q23, q24, q25, rfl, rfl, rfl⟩ | ⟨q26, q27, q28, q29, q30, rfl, rfl, rfl⟩ | ⟨q31, q32, q33, q34, q35, rfl, rfl, rfl⟩)
  · skip
    show WGo _ (60, [wN, wR 7, wI 0, wI 0, wI 3, wI 2, wI 3, wU, wU, wU, wU, wU, wU, wU, wU, wU, wU, wU, wU, wU, wU], [], [(.inr (cn0, [(fk0, .ref 1), (fk1, .ref 2), (fk2, .ref 3)])), (wAI [.int 0, .int 0, .int 0, .int 0, .int 0]), o2, o3, (.inr (cn1, [(fk3, .ref 0), (fk4, .int 0), (fk5, .ref 5), (fk6, .ref 6), (fk7, .int 1), (fk8, .int 3)])), o5, (wAI [(.int x0), (.int x1), (.int x2), (.int x3)]), (wAI [(.int x0), (.int x1), (.int x2)])], u) _
    refine .vreturn a15_60 rfl ?_
    exact Or.inl ⟨q13, q14, rfl, rfl, rfl⟩
  · skip
    show WGo _ (60, [wN, wR 7, wI 0, wI 0, wI 3, wI 2, wI 3, wU, wU, wU, wU, wU, wU, wU, wU, wU, wU, wU, wU, wU, wU], [], [(.inr (cn0, [(fk0, .ref 1), (fk1, .ref 2), (fk2, .ref 3)])), (wAI [.int 0, .int 0, .int 0, .int 0, .int 0]), o2, o3, (.inr (cn1, [(fk3, .ref 0), (fk4, .int 0), (fk5, .ref 5), (fk6, .ref 6), (fk7, .int 1), (fk8, .int 3)])), o5, (wAI [(.int x0), (.int x1), (.int x2), (.int x3)]), (wAI [(.int x0), (.int x2), (.int x1)])], u) _
    refine .vreturn a15_60 rfl ?_
    exact Or.inr (Or.inl ⟨q15, q16, q17, q18, rfl, rfl, rfl⟩)
  · skip
    show WGo _ (60, [wN, wR 7, wI 0, wI 0, wI 3, wI 2, wI 3, wU, wU, wU, wU, wU, wU, wU, wU, wU, wU, wU, wU, wU, wU], [], [(.inr (cn0, [(fk0, .ref 1), (fk1, .ref 2), (fk2, .ref 3)])), (wAI [.int 0, .int 0, .int 0, .int 0, .int 0]), o2, o3, (.inr (cn1, [(fk3, .ref 0), (fk4, .int 0), (fk5, .ref 5), (fk6, .ref 6), (fk7, .int 1), (fk8, .int 3)])), o5, (wAI [(.int x0), (.int x1), (.int x2), (.int x3)]), (wAI [(.int x2), (.int x0), (.int x1)])], u) _
    refine .vreturn a15_60 rfl ?_
    exact Or.inr (Or.inr (Or.inl ⟨q19, q20, q21, q22, rfl, rfl, rfl⟩))
  · skip
    show WGo _ (60, [wN, wR 7, wI 0, wI 0, wI 3, wI 2, wI 3, wU, wU, wU, wU, wU, wU, wU, wU, wU, wU, wU, wU, wU, wU], [], [(.inr (cn0, [(fk0, .ref 1), (fk1, .ref 2), (fk2, .ref 3)])), (wAI [.int 0, .int 0, .int 0, .int 0, .int 0]), o2, o3, (.inr (cn1, [(fk3, .ref 0), (fk4, .int 0), (fk5, .ref 5), (fk6, .ref 6), (fk7, .int 1), (fk8, .int 3)])), o5, (wAI [(.int x0), (.int x1), (.int x2), (.int x3)]), (wAI [(.int x1), (.int x0), (.int x2)])], u) _
    refine .vreturn a15_60 rfl ?_
    exact Or.inr (Or.inr (Or.inr (Or.inl ⟨q23, q24, q25, rfl, rfl, rfl⟩)))
  · skip
    show WGo _ (60, [wN, wR 7, wI 0, wI 0, wI 3, wI 2, wI 3, wU, wU, wU, wU, wU, wU, wU, wU, wU, wU, wU, wU, wU, wU], [], [(.inr (cn0, [(fk0, .ref 1), (fk1, .ref 2), (fk2, .ref 3)])), (wAI [.int 0, .int 0, .int 0, .int 0, .int 0]), o2, o3, (.inr (cn1, [(fk3, .ref 0), (fk4, .int 0), (fk5, .ref 5), (fk6, .ref 6), (fk7, .int 1), (fk8, .int 3)])), o5, (wAI [(.int x0), (.int x1), (.int x2), (.int x3)]), (wAI [(.int x1), (.int x2), (.int x0)])], u) _
    refine .vreturn a15_60 rfl ?_
    exact Or.inr (Or.inr (Or.inr (Or.inr (Or.inl ⟨q26, q27, q28, q29, q30, rfl, rfl, rfl⟩))))
  · skip
    show WGo _ (60, [wN, wR 7, wI 0, wI 0, wI 3, wI 2, wI 3, wU, wU, wU, wU, wU, wU, wU, wU, wU, wU, wU, wU, wU, wU], [], [(.inr (cn0, [(fk0, .ref 1), (fk1, .ref 2), (fk2, .ref 3)])), (wAI [.int 0, .int 0, .int 0, .int 0, .int 0]), o2, o3, (.inr (cn1, [(fk3, .ref 0), (fk4, .int 0), (fk5, .ref 5), (fk6, .ref 6), (fk7, .int 1), (fk8, .int 3)])), o5, (wAI [(.int x0), (.int x1), (.int x2), (.int x3)]), (wAI [(.int x2), (.int x1), (.int x0)])], u) _
    refine .vreturn a15_60 rfl ?_
    exact Or.inr (Or.inr (Or.inr (Or.inr (Or.inr (⟨q31, q32, q33, q34, q35, rfl, rfl, rfl⟩)))))
set_option maxHeartbeats 4000000 in
theorem au14_25 {Z : State} {a0 : Array Value} (hw : ∀ d ∈ tables_1, d.before a0 Z = true) (ρ : Nat → Nat) (n0 : Nat) (x0 : Int32) (x1 : Int32) (x2 : Int32) (x3 : Int32) (o2 : WObj) (o3 : WObj) (o5 : WObj) (hx0 : ix4 x0) (hx1 : ix4 x1) (hx2 : ix4 x2) (u : Nat) : WGo (g14 Z ρ n0 8 u) (0, [wR 7, wI 0, wI 0, wI 3, wU, wU, wU], [], [(.inr (cn0, [(fk0, .ref 1), (fk1, .ref 2), (fk2, .ref 3)])), (wAI [.int 0, .int 0, .int 0, .int 0, .int 0]), o2, o3, (.inr (cn1, [(fk3, .ref 0), (fk4, .int 0), (fk5, .ref 5), (fk6, .ref 6), (fk7, .int 1), (fk8, .int 3)])), o5, (wAI [(.int x0), (.int x1), (.int x2), (.int x3)]), (wAI [(.int x0), (.int x1), (.int x2)])], u) (fun v σ' u' => (¬ x1 < x0 ∧ ¬ x2 < x1 ∧ v = none ∧ [(.inr (cn0, [(fk0, .ref 1), (fk1, .ref 2), (fk2, .ref 3)])), (wAI [.int 0, .int 0, .int 0, .int 0, .int 0]), o2, o3, (.inr (cn1, [(fk3, .ref 0), (fk4, .int 0), (fk5, .ref 5), (fk6, .ref 6), (fk7, .int 1), (fk8, .int 3)])), o5, (wAI [(.int x0), (.int x1), (.int x2), (.int x3)]), (wAI [(.int x0), (.int x1), (.int x2)])] = σ' ∧ u = u') ∨ (¬ x1 < x0 ∧ x2 < x1 ∧ x2 < x1 ∧ ¬ x2 < x0 ∧ v = none ∧ [(.inr (cn0, [(fk0, .ref 1), (fk1, .ref 2), (fk2, .ref 3)])), (wAI [.int 0, .int 0, .int 0, .int 0, .int 0]), o2, o3, (.inr (cn1, [(fk3, .ref 0), (fk4, .int 0), (fk5, .ref 5), (fk6, .ref 6), (fk7, .int 1), (fk8, .int 3)])), o5, (wAI [(.int x0), (.int x1), (.int x2), (.int x3)]), (wAI [(.int x0), (.int x2), (.int x1)])] = σ' ∧ u = u') ∨ (¬ x1 < x0 ∧ x2 < x1 ∧ x2 < x1 ∧ x2 < x0 ∧ v = none ∧ [(.inr (cn0, [(fk0, .ref 1), (fk1, .ref 2), (fk2, .ref 3)])), (wAI [.int 0, .int 0, .int 0, .int 0, .int 0]), o2, o3, (.inr (cn1, [(fk3, .ref 0), (fk4, .int 0), (fk5, .ref 5), (fk6, .ref 6), (fk7, .int 1), (fk8, .int 3)])), o5, (wAI [(.int x0), (.int x1), (.int x2), (.int x3)]), (wAI [(.int x2), (.int x0), (.int x1)])] = σ' ∧ u = u') ∨ (x1 < x0 ∧ x1 < x0 ∧ ¬ x2 < x0 ∧ v = none ∧ [(.inr (cn0, [(fk0, .ref 1), (fk1, .ref 2), (fk2, .ref 3)])), (wAI [.int 0, .int 0, .int 0, .int 0, .int 0]), o2, o3, (.inr (cn1, [(fk3, .ref 0), (fk4, .int 0), (fk5, .ref 5), (fk6, .ref 6), (fk7, .int 1), (fk8, .int 3)])), o5, (wAI [(.int x0), (.int x1), (.int x2), (.int x3)]), (wAI [(.int x1), (.int x0), (.int x2)])] = σ' ∧ u = u') ∨ (x1 < x0 ∧ x1 < x0 ∧ x2 < x0 ∧ x2 < x0 ∧ ¬ x2 < x1 ∧ v = none ∧ [(.inr (cn0, [(fk0, .ref 1), (fk1, .ref 2), (fk2, .ref 3)])), (wAI [.int 0, .int 0, .int 0, .int 0, .int 0]), o2, o3, (.inr (cn1, [(fk3, .ref 0), (fk4, .int 0), (fk5, .ref 5), (fk6, .ref 6), (fk7, .int 1), (fk8, .int 3)])), o5, (wAI [(.int x0), (.int x1), (.int x2), (.int x3)]), (wAI [(.int x1), (.int x2), (.int x0)])] = σ' ∧ u = u') ∨ (x1 < x0 ∧ x1 < x0 ∧ x2 < x0 ∧ x2 < x0 ∧ x2 < x1 ∧ v = none ∧ [(.inr (cn0, [(fk0, .ref 1), (fk1, .ref 2), (fk2, .ref 3)])), (wAI [.int 0, .int 0, .int 0, .int 0, .int 0]), o2, o3, (.inr (cn1, [(fk3, .ref 0), (fk4, .int 0), (fk5, .ref 5), (fk6, .ref 6), (fk7, .int 1), (fk8, .int 3)])), o5, (wAI [(.int x0), (.int x1), (.int x2), (.int x3)]), (wAI [(.int x2), (.int x1), (.int x0)])] = σ' ∧ u = u')) := by
  refine .s (.iloadN a14_0 rfl) <| .s (.iloadN a14_1 rfl) <| .s (.isub a14_2) ?_
  show WGo _ (3, [wR 7, wI 0, wI 0, wI 3, wU, wU, wU], [.int 3], [(.inr (cn0, [(fk0, .ref 1), (fk1, .ref 2), (fk2, .ref 3)])), (wAI [.int 0, .int 0, .int 0, .int 0, .int 0]), o2, o3, (.inr (cn1, [(fk3, .ref 0), (fk4, .int 0), (fk5, .ref 5), (fk6, .ref 6), (fk7, .int 1), (fk8, .int 3)])), o5, (wAI [(.int x0), (.int x1), (.int x2), (.int x3)]), (wAI [(.int x0), (.int x1), (.int x2)])], u) _
  refine .s (.istore (L' := [wR 7, wI 0, wI 0, wI 3, wI 3, wU, wU]) a14_3 rfl) <| .s (.iloadN a14_5 rfl) <| .s (.iconst (1 : Int32) a14_6 rfl) <| .s (.icmpT a14_7 (by decide)) <| .s (.aconstNull a14_68) <| .s (.aloadN a14_69 rfl rfl) <| .s (.iconst (0 : Int32) a14_70 rfl) ?_
  refine .s (.iloadN a14_71 rfl) <| .s (.iloadN a14_72 rfl) ?_
  refine .callS a14_73 (ok15 hw _ _ _ _) (wd hw 88 rfl) (wd hw 89 rfl) (argsL := [.null, .ref 7, .int 0, .int 0, .int 3]) (S := []) (au15_26 hw _ _ x0 x1 x2 x3 o2 o3 o5 hx0 hx1 hx2 _) rfl rfl rfl rfl rfl rfl (Nat.le_of_ble_eq_true rfl) (Nat.le_of_ble_eq_true rfl) ?_
  rintro _ _ _ (⟨q36, q37, rfl, rfl, rfl⟩ | ⟨q38, q39, q40, q41, rfl, rfl, rfl⟩ | ⟨q42, q43, q44, q45, rfl, rfl, rfl⟩ | ⟨q46, q47, q48, rfl, rfl, rfl⟩ | ⟨q49, q50, q51, q52, q53, rfl, rfl, rfl⟩ | ⟨q54, q55, q56, q57, q58, rfl, rfl, rfl⟩)
  · skip
    show WGo _ (76, [wR 7, wI 0, wI 0, wI 3, wI 3, wU, wU], [], [(.inr (cn0, [(fk0, .ref 1), (fk1, .ref 2), (fk2, .ref 3)])), (wAI [.int 0, .int 0, .int 0, .int 0, .int 0]), o2, o3, (.inr (cn1, [(fk3, .ref 0), (fk4, .int 0), (fk5, .ref 5), (fk6, .ref 6), (fk7, .int 1), (fk8, .int 3)])), o5, (wAI [(.int x0), (.int x1), (.int x2), (.int x3)]), (wAI [(.int x0), (.int x1), (.int x2)])], u) _
    refine .vreturn a14_76 rfl ?_
    exact Or.inl ⟨q36, q37, rfl, rfl, rfl⟩
  · skip
    show WGo _ (76, [wR 7, wI 0, wI 0, wI 3, wI 3, wU, wU], [], [(.inr (cn0, [(fk0, .ref 1), (fk1, .ref 2), (fk2, .ref 3)])), (wAI [.int 0, .int 0, .int 0, .int 0, .int 0]), o2, o3, (.inr (cn1, [(fk3, .ref 0), (fk4, .int 0), (fk5, .ref 5), (fk6, .ref 6), (fk7, .int 1), (fk8, .int 3)])), o5, (wAI [(.int x0), (.int x1), (.int x2), (.int x3)]), (wAI [(.int x0), (.int x2), (.int x1)])], u) _
    refine .vreturn a14_76 rfl ?_
    exact Or.inr (Or.inl ⟨q38, q39, q40, q41, rfl, rfl, rfl⟩)
  · skip
    show WGo _ (76, [wR 7, wI 0, wI 0, wI 3, wI 3, wU, wU], [], [(.inr (cn0, [(fk0, .ref 1), (fk1, .ref 2), (fk2, .ref 3)])), (wAI [.int 0, .int 0, .int 0, .int 0, .int 0]), o2, o3, (.inr (cn1, [(fk3, .ref 0), (fk4, .int 0), (fk5, .ref 5), (fk6, .ref 6), (fk7, .int 1), (fk8, .int 3)])), o5, (wAI [(.int x0), (.int x1), (.int x2), (.int x3)]), (wAI [(.int x2), (.int x0), (.int x1)])], u) _
    refine .vreturn a14_76 rfl ?_
    exact Or.inr (Or.inr (Or.inl ⟨q42, q43, q44, q45, rfl, rfl, rfl⟩))
  · skip
    show WGo _ (76, [wR 7, wI 0, wI 0, wI 3, wI 3, wU, wU], [], [(.inr (cn0, [(fk0, .ref 1), (fk1, .ref 2), (fk2, .ref 3)])), (wAI [.int 0, .int 0, .int 0, .int 0, .int 0]), o2, o3, (.inr (cn1, [(fk3, .ref 0), (fk4, .int 0), (fk5, .ref 5), (fk6, .ref 6), (fk7, .int 1), (fk8, .int 3)])), o5, (wAI [(.int x0), (.int x1), (.int x2), (.int x3)]), (wAI [(.int x1), (.int x0), (.int x2)])], u) _
    refine .vreturn a14_76 rfl ?_
    exact Or.inr (Or.inr (Or.inr (Or.inl ⟨q46, q47, q48, rfl, rfl, rfl⟩)))
  · skip
    show WGo _ (76, [wR 7, wI 0, wI 0, wI 3, wI 3, wU, wU], [], [(.inr (cn0, [(fk0, .ref 1), (fk1, .ref 2), (fk2, .ref 3)])), (wAI [.int 0, .int 0, .int 0, .int 0, .int 0]), o2, o3, (.inr (cn1, [(fk3, .ref 0), (fk4, .int 0), (fk5, .ref 5), (fk6, .ref 6), (fk7, .int 1), (fk8, .int 3)])), o5, (wAI [(.int x0), (.int x1), (.int x2), (.int x3)]), (wAI [(.int x1), (.int x2), (.int x0)])], u) _
    refine .vreturn a14_76 rfl ?_
    exact Or.inr (Or.inr (Or.inr (Or.inr (Or.inl ⟨q49, q50, q51, q52, q53, rfl, rfl, rfl⟩))))
  · skip
    show WGo _ (76, [wR 7, wI 0, wI 0, wI 3, wI 3, wU, wU], [], [(.inr (cn0, [(fk0, .ref 1), (fk1, .ref 2), (fk2, .ref 3)])), (wAI [.int 0, .int 0, .int 0, .int 0, .int 0]), o2, o3, (.inr (cn1, [(fk3, .ref 0), (fk4, .int 0), (fk5, .ref 5), (fk6, .ref 6), (fk7, .int 1), (fk8, .int 3)])), o5, (wAI [(.int x0), (.int x1), (.int x2), (.int x3)]), (wAI [(.int x2), (.int x1), (.int x0)])], u) _
    refine .vreturn a14_76 rfl ?_
    exact Or.inr (Or.inr (Or.inr (Or.inr (Or.inr (⟨q54, q55, q56, q57, q58, rfl, rfl, rfl⟩)))))
set_option maxHeartbeats 4000000 in
theorem au13_24 {Z : State} {a0 : Array Value} (hw : ∀ d ∈ tables_1, d.before a0 Z = true) (ρ : Nat → Nat) (n0 : Nat) (x0 : Int32) (x1 : Int32) (x2 : Int32) (x3 : Int32) (o2 : WObj) (o3 : WObj) (o5 : WObj) (hx0 : ix4 x0) (hx1 : ix4 x1) (hx2 : ix4 x2) (u : Nat) : WGo (g13 Z ρ n0 8 u) (0, [wR 7], [], [(.inr (cn0, [(fk0, .ref 1), (fk1, .ref 2), (fk2, .ref 3)])), (wAI [.int 0, .int 0, .int 0, .int 0, .int 0]), o2, o3, (.inr (cn1, [(fk3, .ref 0), (fk4, .int 0), (fk5, .ref 5), (fk6, .ref 6), (fk7, .int 1), (fk8, .int 3)])), o5, (wAI [(.int x0), (.int x1), (.int x2), (.int x3)]), (wAI [(.int x0), (.int x1), (.int x2)])], u) (fun v σ' u' => (¬ x1 < x0 ∧ ¬ x2 < x1 ∧ v = none ∧ [(.inr (cn0, [(fk0, .ref 1), (fk1, .ref 2), (fk2, .ref 3)])), (wAI [.int 0, .int 0, .int 0, .int 0, .int 0]), o2, o3, (.inr (cn1, [(fk3, .ref 0), (fk4, .int 0), (fk5, .ref 5), (fk6, .ref 6), (fk7, .int 1), (fk8, .int 3)])), o5, (wAI [(.int x0), (.int x1), (.int x2), (.int x3)]), (wAI [(.int x0), (.int x1), (.int x2)])] = σ' ∧ u = u') ∨ (¬ x1 < x0 ∧ x2 < x1 ∧ x2 < x1 ∧ ¬ x2 < x0 ∧ v = none ∧ [(.inr (cn0, [(fk0, .ref 1), (fk1, .ref 2), (fk2, .ref 3)])), (wAI [.int 0, .int 0, .int 0, .int 0, .int 0]), o2, o3, (.inr (cn1, [(fk3, .ref 0), (fk4, .int 0), (fk5, .ref 5), (fk6, .ref 6), (fk7, .int 1), (fk8, .int 3)])), o5, (wAI [(.int x0), (.int x1), (.int x2), (.int x3)]), (wAI [(.int x0), (.int x2), (.int x1)])] = σ' ∧ u = u') ∨ (¬ x1 < x0 ∧ x2 < x1 ∧ x2 < x1 ∧ x2 < x0 ∧ v = none ∧ [(.inr (cn0, [(fk0, .ref 1), (fk1, .ref 2), (fk2, .ref 3)])), (wAI [.int 0, .int 0, .int 0, .int 0, .int 0]), o2, o3, (.inr (cn1, [(fk3, .ref 0), (fk4, .int 0), (fk5, .ref 5), (fk6, .ref 6), (fk7, .int 1), (fk8, .int 3)])), o5, (wAI [(.int x0), (.int x1), (.int x2), (.int x3)]), (wAI [(.int x2), (.int x0), (.int x1)])] = σ' ∧ u = u') ∨ (x1 < x0 ∧ x1 < x0 ∧ ¬ x2 < x0 ∧ v = none ∧ [(.inr (cn0, [(fk0, .ref 1), (fk1, .ref 2), (fk2, .ref 3)])), (wAI [.int 0, .int 0, .int 0, .int 0, .int 0]), o2, o3, (.inr (cn1, [(fk3, .ref 0), (fk4, .int 0), (fk5, .ref 5), (fk6, .ref 6), (fk7, .int 1), (fk8, .int 3)])), o5, (wAI [(.int x0), (.int x1), (.int x2), (.int x3)]), (wAI [(.int x1), (.int x0), (.int x2)])] = σ' ∧ u = u') ∨ (x1 < x0 ∧ x1 < x0 ∧ x2 < x0 ∧ x2 < x0 ∧ ¬ x2 < x1 ∧ v = none ∧ [(.inr (cn0, [(fk0, .ref 1), (fk1, .ref 2), (fk2, .ref 3)])), (wAI [.int 0, .int 0, .int 0, .int 0, .int 0]), o2, o3, (.inr (cn1, [(fk3, .ref 0), (fk4, .int 0), (fk5, .ref 5), (fk6, .ref 6), (fk7, .int 1), (fk8, .int 3)])), o5, (wAI [(.int x0), (.int x1), (.int x2), (.int x3)]), (wAI [(.int x1), (.int x2), (.int x0)])] = σ' ∧ u = u') ∨ (x1 < x0 ∧ x1 < x0 ∧ x2 < x0 ∧ x2 < x0 ∧ x2 < x1 ∧ v = none ∧ [(.inr (cn0, [(fk0, .ref 1), (fk1, .ref 2), (fk2, .ref 3)])), (wAI [.int 0, .int 0, .int 0, .int 0, .int 0]), o2, o3, (.inr (cn1, [(fk3, .ref 0), (fk4, .int 0), (fk5, .ref 5), (fk6, .ref 6), (fk7, .int 1), (fk8, .int 3)])), o5, (wAI [(.int x0), (.int x1), (.int x2), (.int x3)]), (wAI [(.int x2), (.int x1), (.int x0)])] = σ' ∧ u = u')) := by
  refine .s (.aloadN a13_0 rfl rfl) <| .s (.iconst (0 : Int32) a13_1 rfl) <| .s (.iconst (0 : Int32) a13_2 rfl) <| .s (.aloadN a13_3 rfl rfl) <| .s (.alen (3 : Int32) a13_4 rfl rfl) ?_
  refine .callS a13_5 (ok14 hw _ _ _ _) (wd hw 84 rfl) (wd hw 85 rfl) (argsL := [.ref 7, .int 0, .int 0, .int 3]) (S := []) (au14_25 hw _ _ x0 x1 x2 x3 o2 o3 o5 hx0 hx1 hx2 _) rfl rfl rfl rfl rfl rfl (Nat.le_of_ble_eq_true rfl) (Nat.le_of_ble_eq_true rfl) ?_
  rintro _ _ _ (⟨q59, q60, rfl, rfl, rfl⟩ | ⟨q61, q62, q63, q64, rfl, rfl, rfl⟩ | ⟨q65, q66, q67, q68, rfl, rfl, rfl⟩ | ⟨q69, q70, q71, rfl, rfl, rfl⟩ | ⟨q72, q73, q74, q75, q76, rfl, rfl, rfl⟩ | ⟨q77, q78, q79, q80, q81, rfl, rfl, rfl⟩)
  · skip
    show WGo _ (8, [wR 7], [], [(.inr (cn0, [(fk0, .ref 1), (fk1, .ref 2), (fk2, .ref 3)])), (wAI [.int 0, .int 0, .int 0, .int 0, .int 0]), o2, o3, (.inr (cn1, [(fk3, .ref 0), (fk4, .int 0), (fk5, .ref 5), (fk6, .ref 6), (fk7, .int 1), (fk8, .int 3)])), o5, (wAI [(.int x0), (.int x1), (.int x2), (.int x3)]), (wAI [(.int x0), (.int x1), (.int x2)])], u) _
    refine .vreturn a13_8 rfl ?_
    exact Or.inl ⟨q59, q60, rfl, rfl, rfl⟩
  · skip
    show WGo _ (8, [wR 7], [], [(.inr (cn0, [(fk0, .ref 1), (fk1, .ref 2), (fk2, .ref 3)])), (wAI [.int 0, .int 0, .int 0, .int 0, .int 0]), o2, o3, (.inr (cn1, [(fk3, .ref 0), (fk4, .int 0), (fk5, .ref 5), (fk6, .ref 6), (fk7, .int 1), (fk8, .int 3)])), o5, (wAI [(.int x0), (.int x1), (.int x2), (.int x3)]), (wAI [(.int x0), (.int x2), (.int x1)])], u) _
    refine .vreturn a13_8 rfl ?_
    exact Or.inr (Or.inl ⟨q61, q62, q63, q64, rfl, rfl, rfl⟩)
  · skip
    show WGo _ (8, [wR 7], [], [(.inr (cn0, [(fk0, .ref 1), (fk1, .ref 2), (fk2, .ref 3)])), (wAI [.int 0, .int 0, .int 0, .int 0, .int 0]), o2, o3, (.inr (cn1, [(fk3, .ref 0), (fk4, .int 0), (fk5, .ref 5), (fk6, .ref 6), (fk7, .int 1), (fk8, .int 3)])), o5, (wAI [(.int x0), (.int x1), (.int x2), (.int x3)]), (wAI [(.int x2), (.int x0), (.int x1)])], u) _
    refine .vreturn a13_8 rfl ?_
    exact Or.inr (Or.inr (Or.inl ⟨q65, q66, q67, q68, rfl, rfl, rfl⟩))
  · skip
    show WGo _ (8, [wR 7], [], [(.inr (cn0, [(fk0, .ref 1), (fk1, .ref 2), (fk2, .ref 3)])), (wAI [.int 0, .int 0, .int 0, .int 0, .int 0]), o2, o3, (.inr (cn1, [(fk3, .ref 0), (fk4, .int 0), (fk5, .ref 5), (fk6, .ref 6), (fk7, .int 1), (fk8, .int 3)])), o5, (wAI [(.int x0), (.int x1), (.int x2), (.int x3)]), (wAI [(.int x1), (.int x0), (.int x2)])], u) _
    refine .vreturn a13_8 rfl ?_
    exact Or.inr (Or.inr (Or.inr (Or.inl ⟨q69, q70, q71, rfl, rfl, rfl⟩)))
  · skip
    show WGo _ (8, [wR 7], [], [(.inr (cn0, [(fk0, .ref 1), (fk1, .ref 2), (fk2, .ref 3)])), (wAI [.int 0, .int 0, .int 0, .int 0, .int 0]), o2, o3, (.inr (cn1, [(fk3, .ref 0), (fk4, .int 0), (fk5, .ref 5), (fk6, .ref 6), (fk7, .int 1), (fk8, .int 3)])), o5, (wAI [(.int x0), (.int x1), (.int x2), (.int x3)]), (wAI [(.int x1), (.int x2), (.int x0)])], u) _
    refine .vreturn a13_8 rfl ?_
    exact Or.inr (Or.inr (Or.inr (Or.inr (Or.inl ⟨q72, q73, q74, q75, q76, rfl, rfl, rfl⟩))))
  · skip
    show WGo _ (8, [wR 7], [], [(.inr (cn0, [(fk0, .ref 1), (fk1, .ref 2), (fk2, .ref 3)])), (wAI [.int 0, .int 0, .int 0, .int 0, .int 0]), o2, o3, (.inr (cn1, [(fk3, .ref 0), (fk4, .int 0), (fk5, .ref 5), (fk6, .ref 6), (fk7, .int 1), (fk8, .int 3)])), o5, (wAI [(.int x0), (.int x1), (.int x2), (.int x3)]), (wAI [(.int x2), (.int x1), (.int x0)])], u) _
    refine .vreturn a13_8 rfl ?_
    exact Or.inr (Or.inr (Or.inr (Or.inr (Or.inr (⟨q77, q78, q79, q80, q81, rfl, rfl, rfl⟩)))))
set_option maxHeartbeats 4000000 in
theorem au8_19 {Z : State} {a0 : Array Value} (hw : ∀ d ∈ tables_1, d.before a0 Z = true) (ρ : Nat → Nat) (n0 : Nat) (x0 : Int32) (x1 : Int32) (x2 : Int32) (x3 : Int32) (o2 : WObj) (o3 : WObj) (o5 : WObj) (hx0 : ix4 x0) (hx1 : ix4 x1) (hx2 : ix4 x2) (u : Nat) : WGo (g8 Z ρ n0 7 u) (0, [wR 4, wU], [], [(.inr (cn0, [(fk0, .ref 1), (fk1, .ref 2), (fk2, .ref 3)])), (wAI [.int 0, .int 0, .int 0, .int 0, .int 0]), o2, o3, (.inr (cn1, [(fk3, .ref 0), (fk4, .int 0), (fk5, .ref 5), (fk6, .ref 6), (fk7, .int 1), (fk8, .int 3)])), o5, (wAI [(.int x0), (.int x1), (.int x2), (.int x3)])], u) (fun v σ' u' => (¬ x1 < x0 ∧ ¬ x2 < x1 ∧ v = some (.ref 7) ∧ [(.inr (cn0, [(fk0, .ref 1), (fk1, .ref 2), (fk2, .ref 3)])), (wAI [.int 0, .int 0, .int 0, .int 0, .int 0]), o2, o3, (.inr (cn1, [(fk3, .ref 0), (fk4, .int 0), (fk5, .ref 5), (fk6, .ref 6), (fk7, .int 1), (fk8, .int 3)])), o5, (wAI [(.int x0), (.int x1), (.int x2), (.int x3)]), (wAI [(.int x0), (.int x1), (.int x2)])] = σ' ∧ (u + 3) = u') ∨ (¬ x1 < x0 ∧ x2 < x1 ∧ x2 < x1 ∧ ¬ x2 < x0 ∧ v = some (.ref 7) ∧ [(.inr (cn0, [(fk0, .ref 1), (fk1, .ref 2), (fk2, .ref 3)])), (wAI [.int 0, .int 0, .int 0, .int 0, .int 0]), o2, o3, (.inr (cn1, [(fk3, .ref 0), (fk4, .int 0), (fk5, .ref 5), (fk6, .ref 6), (fk7, .int 1), (fk8, .int 3)])), o5, (wAI [(.int x0), (.int x1), (.int x2), (.int x3)]), (wAI [(.int x0), (.int x2), (.int x1)])] = σ' ∧ (u + 3) = u') ∨ (¬ x1 < x0 ∧ x2 < x1 ∧ x2 < x1 ∧ x2 < x0 ∧ v = some (.ref 7) ∧ [(.inr (cn0, [(fk0, .ref 1), (fk1, .ref 2), (fk2, .ref 3)])), (wAI [.int 0, .int 0, .int 0, .int 0, .int 0]), o2, o3, (.inr (cn1, [(fk3, .ref 0), (fk4, .int 0), (fk5, .ref 5), (fk6, .ref 6), (fk7, .int 1), (fk8, .int 3)])), o5, (wAI [(.int x0), (.int x1), (.int x2), (.int x3)]), (wAI [(.int x2), (.int x0), (.int x1)])] = σ' ∧ (u + 3) = u') ∨ (x1 < x0 ∧ x1 < x0 ∧ ¬ x2 < x0 ∧ v = some (.ref 7) ∧ [(.inr (cn0, [(fk0, .ref 1), (fk1, .ref 2), (fk2, .ref 3)])), (wAI [.int 0, .int 0, .int 0, .int 0, .int 0]), o2, o3, (.inr (cn1, [(fk3, .ref 0), (fk4, .int 0), (fk5, .ref 5), (fk6, .ref 6), (fk7, .int 1), (fk8, .int 3)])), o5, (wAI [(.int x0), (.int x1), (.int x2), (.int x3)]), (wAI [(.int x1), (.int x0), (.int x2)])] = σ' ∧ (u + 3) = u') ∨ (x1 < x0 ∧ x1 < x0 ∧ x2 < x0 ∧ x2 < x0 ∧ ¬ x2 < x1 ∧ v = some (.ref 7) ∧ [(.inr (cn0, [(fk0, .ref 1), (fk1, .ref 2), (fk2, .ref 3)])), (wAI [.int 0, .int 0, .int 0, .int 0, .int 0]), o2, o3, (.inr (cn1, [(fk3, .ref 0), (fk4, .int 0), (fk5, .ref 5), (fk6, .ref 6), (fk7, .int 1), (fk8, .int 3)])), o5, (wAI [(.int x0), (.int x1), (.int x2), (.int x3)]), (wAI [(.int x1), (.int x2), (.int x0)])] = σ' ∧ (u + 3) = u') ∨ (x1 < x0 ∧ x1 < x0 ∧ x2 < x0 ∧ x2 < x0 ∧ x2 < x1 ∧ v = some (.ref 7) ∧ [(.inr (cn0, [(fk0, .ref 1), (fk1, .ref 2), (fk2, .ref 3)])), (wAI [.int 0, .int 0, .int 0, .int 0, .int 0]), o2, o3, (.inr (cn1, [(fk3, .ref 0), (fk4, .int 0), (fk5, .ref 5), (fk6, .ref 6), (fk7, .int 1), (fk8, .int 3)])), o5, (wAI [(.int x0), (.int x1), (.int x2), (.int x3)]), (wAI [(.int x2), (.int x1), (.int x0)])] = σ' ∧ (u + 3) = u')) := by
  refine .s (.aloadN a8_0 rfl rfl) ?_
  refine .callP (k := 4) a8_1 (ok9 hw _ _ _ _) (wd hw 60 rfl) (wd hw 61 rfl) (selP (wd hw 22 rfl) (wd hw 61 rfl) (wd hw 62 rfl) (by decide)) (wd hw 62 rfl) rfl (argsL := []) (S := []) (au9_20 hw _ _ x0 x1 x2 x3 o2 o3 o5 hx0 hx1 hx2 _) rfl rfl rfl rfl rfl rfl (Nat.le_of_ble_eq_true rfl) (Nat.le_of_ble_eq_true rfl) ?_
  rintro _ _ _ ⟨rfl, rfl, rfl⟩
  show WGo _ (4, [wR 4, wU], [], [(.inr (cn0, [(fk0, .ref 1), (fk1, .ref 2), (fk2, .ref 3)])), (wAI [.int 0, .int 0, .int 0, .int 0, .int 0]), o2, o3, (.inr (cn1, [(fk3, .ref 0), (fk4, .int 0), (fk5, .ref 5), (fk6, .ref 6), (fk7, .int 1), (fk8, .int 3)])), o5, (wAI [(.int x0), (.int x1), (.int x2), (.int x3)])], u) _
  refine .s (.aloadN a8_4 rfl rfl) <| .s (.getF 3 a8_5 (wd hw 39 rfl) rfl rfl) <| .s (.aloadN a8_8 rfl rfl) <| .s (.getF 5 a8_9 (wd hw 48 rfl) rfl rfl) ?_
  refine .callS a8_12 (ok11 hw _ _ _ _) (wd hw 69 rfl) (wd hw 70 rfl) (argsL := [.ref 6, .int 3]) (S := []) (au11_22 hw _ _ x0 x1 x2 x3 o2 o3 o5 hx0 hx1 hx2 _) rfl rfl rfl rfl rfl rfl (Nat.le_of_ble_eq_true rfl) (Nat.le_of_ble_eq_true rfl) ?_
  rintro _ _ _ ⟨rfl, rfl, rfl⟩
  show WGo _ (15, [wR 4, wU], [.ref 7], [(.inr (cn0, [(fk0, .ref 1), (fk1, .ref 2), (fk2, .ref 3)])), (wAI [.int 0, .int 0, .int 0, .int 0, .int 0]), o2, o3, (.inr (cn1, [(fk3, .ref 0), (fk4, .int 0), (fk5, .ref 5), (fk6, .ref 6), (fk7, .int 1), (fk8, .int 3)])), o5, (wAI [(.int x0), (.int x1), (.int x2), (.int x3)]), (wAI [(.int x0), (.int x1), (.int x2)])], (u + 3)) _
  refine .s (.astoreN (L' := [wR 4, wR 7]) a8_15 rfl rfl) <| .s (.aloadN a8_16 rfl rfl) ?_
  refine .callS a8_17 (ok13 hw _ _ _ _) (wd hw 81 rfl) (wd hw 82 rfl) (argsL := [.ref 7]) (S := []) (au13_24 hw _ _ x0 x1 x2 x3 o2 o3 o5 hx0 hx1 hx2 _) rfl rfl rfl rfl rfl rfl (Nat.le_of_ble_eq_true rfl) (Nat.le_of_ble_eq_true rfl) ?_
  rintro _ _ _ (⟨q82, q83, rfl, rfl, rfl⟩ | ⟨q84, q85, q86, q87, rfl, rfl, rfl⟩ | ⟨q88, q89, q90, q91, rfl, rfl, rfl⟩ | ⟨q92, q93, q94, rfl, rfl, rfl⟩ | ⟨q95, q96, q97, q98, q99, rfl, rfl, rfl⟩ | ⟨q100, q101, q102, q103, q104, rfl, rfl, rfl⟩)
  · skip
    show WGo _ (20, [wR 4, wR 7], [], [(.inr (cn0, [(fk0, .ref 1), (fk1, .ref 2), (fk2, .ref 3)])), (wAI [.int 0, .int 0, .int 0, .int 0, .int 0]), o2, o3, (.inr (cn1, [(fk3, .ref 0), (fk4, .int 0), (fk5, .ref 5), (fk6, .ref 6), (fk7, .int 1), (fk8, .int 3)])), o5, (wAI [(.int x0), (.int x1), (.int x2), (.int x3)]), (wAI [(.int x0), (.int x1), (.int x2)])], (u + 3)) _
    refine .s (.aloadN a8_20 rfl rfl) ?_
    refine .areturn (.array .int) a8_21 rfl rfl rfl ?_
    exact Or.inl ⟨q82, q83, rfl, rfl, rfl⟩
  · skip
    show WGo _ (20, [wR 4, wR 7], [], [(.inr (cn0, [(fk0, .ref 1), (fk1, .ref 2), (fk2, .ref 3)])), (wAI [.int 0, .int 0, .int 0, .int 0, .int 0]), o2, o3, (.inr (cn1, [(fk3, .ref 0), (fk4, .int 0), (fk5, .ref 5), (fk6, .ref 6), (fk7, .int 1), (fk8, .int 3)])), o5, (wAI [(.int x0), (.int x1), (.int x2), (.int x3)]), (wAI [(.int x0), (.int x2), (.int x1)])], (u + 3)) _
    refine .s (.aloadN a8_20 rfl rfl) ?_
    refine .areturn (.array .int) a8_21 rfl rfl rfl ?_
    exact Or.inr (Or.inl ⟨q84, q85, q86, q87, rfl, rfl, rfl⟩)
  · skip
    show WGo _ (20, [wR 4, wR 7], [], [(.inr (cn0, [(fk0, .ref 1), (fk1, .ref 2), (fk2, .ref 3)])), (wAI [.int 0, .int 0, .int 0, .int 0, .int 0]), o2, o3, (.inr (cn1, [(fk3, .ref 0), (fk4, .int 0), (fk5, .ref 5), (fk6, .ref 6), (fk7, .int 1), (fk8, .int 3)])), o5, (wAI [(.int x0), (.int x1), (.int x2), (.int x3)]), (wAI [(.int x2), (.int x0), (.int x1)])], (u + 3)) _
    refine .s (.aloadN a8_20 rfl rfl) ?_
    refine .areturn (.array .int) a8_21 rfl rfl rfl ?_
    exact Or.inr (Or.inr (Or.inl ⟨q88, q89, q90, q91, rfl, rfl, rfl⟩))
  · skip
    show WGo _ (20, [wR 4, wR 7], [], [(.inr (cn0, [(fk0, .ref 1), (fk1, .ref 2), (fk2, .ref 3)])), (wAI [.int 0, .int 0, .int 0, .int 0, .int 0]), o2, o3, (.inr (cn1, [(fk3, .ref 0), (fk4, .int 0), (fk5, .ref 5), (fk6, .ref 6), (fk7, .int 1), (fk8, .int 3)])), o5, (wAI [(.int x0), (.int x1), (.int x2), (.int x3)]), (wAI [(.int x1), (.int x0), (.int x2)])], (u + 3)) _
    refine .s (.aloadN a8_20 rfl rfl) ?_
    refine .areturn (.array .int) a8_21 rfl rfl rfl ?_
    exact Or.inr (Or.inr (Or.inr (Or.inl ⟨q92, q93, q94, rfl, rfl, rfl⟩)))
  · skip
    show WGo _ (20, [wR 4, wR 7], [], [(.inr (cn0, [(fk0, .ref 1), (fk1, .ref 2), (fk2, .ref 3)])), (wAI [.int 0, .int 0, .int 0, .int 0, .int 0]), o2, o3, (.inr (cn1, [(fk3, .ref 0), (fk4, .int 0), (fk5, .ref 5), (fk6, .ref 6), (fk7, .int 1), (fk8, .int 3)])), o5, (wAI [(.int x0), (.int x1), (.int x2), (.int x3)]), (wAI [(.int x1), (.int x2), (.int x0)])], (u + 3)) _
    refine .s (.aloadN a8_20 rfl rfl) ?_
    refine .areturn (.array .int) a8_21 rfl rfl rfl ?_
    exact Or.inr (Or.inr (Or.inr (Or.inr (Or.inl ⟨q95, q96, q97, q98, q99, rfl, rfl, rfl⟩))))
  · skip
    show WGo _ (20, [wR 4, wR 7], [], [(.inr (cn0, [(fk0, .ref 1), (fk1, .ref 2), (fk2, .ref 3)])), (wAI [.int 0, .int 0, .int 0, .int 0, .int 0]), o2, o3, (.inr (cn1, [(fk3, .ref 0), (fk4, .int 0), (fk5, .ref 5), (fk6, .ref 6), (fk7, .int 1), (fk8, .int 3)])), o5, (wAI [(.int x0), (.int x1), (.int x2), (.int x3)]), (wAI [(.int x2), (.int x1), (.int x0)])], (u + 3)) _
    refine .s (.aloadN a8_20 rfl rfl) ?_
    refine .areturn (.array .int) a8_21 rfl rfl rfl ?_
    exact Or.inr (Or.inr (Or.inr (Or.inr (Or.inr (⟨q100, q101, q102, q103, q104, rfl, rfl, rfl⟩)))))
theorem ccl_3_0 {Z : State} {a0 : Array Value} (hw : ∀ d ∈ tables_1, d.before a0 Z = true) (ρ : Nat → Nat) (n0 : Nat) (o2 o3 o5 : WObj) (x0 x1 x2 x3 : Int32) (hx0 : ix4 x0) (hx1 : ix4 x1) (hx2 : ix4 x2) (u : Nat) : WGo (g8 Z ρ n0 7 u) (0, [wR 4, wU], [], [(.inr (cn0, [(fk0, .ref 1), (fk1, .ref 2), (fk2, .ref 3)])), (wAI [.int 0, .int 0, .int 0, .int 0, .int 0]), o2, o3, (.inr (cn1, [(fk3, .ref 0), (fk4, .int 0), (fk5, .ref 5), (fk6, .ref 6), (fk7, .int 1), (fk8, .int 3)])), o5, (wAI [(.int x0), (.int x1), (.int x2), (.int x3)])], u) (fun v σ' u' => ∃ R : List Int32, Srt3 R x0 x1 x2 ∧ v = some (.ref 7) ∧ [(.inr (cn0, [(fk0, .ref 1), (fk1, .ref 2), (fk2, .ref 3)])), (wAI [.int 0, .int 0, .int 0, .int 0, .int 0]), o2, o3, (.inr (cn1, [(fk3, .ref 0), (fk4, .int 0), (fk5, .ref 5), (fk6, .ref 6), (fk7, .int 1), (fk8, .int 3)])), o5, (wAI [(.int x0), (.int x1), (.int x2), (.int x3)]), (wAI (ia R))] = σ' ∧ u + 3 = u') := by
  refine .mono (au8_19 hw ρ n0 x0 x1 x2 x3 o2 o3 o5 hx0 hx1 hx2 u) ?_
  rintro _ _ _ (⟨p0, p1, rfl, rfl, rfl⟩ | ⟨p0, p1, p2, p3, rfl, rfl, rfl⟩ | ⟨p0, p1, p2, p3, rfl, rfl, rfl⟩ | ⟨p0, p1, p2, rfl, rfl, rfl⟩ | ⟨p0, p1, p2, p3, p4, rfl, rfl, rfl⟩ | ⟨p0, p1, p2, p3, p4, rfl, rfl, rfl⟩)
  · exact ⟨[x0, x1, x2], ⟨_, _, _, rfl, (by simp only [Int32.lt_iff_toInt_lt] at *; omega), (by simp only [Int32.lt_iff_toInt_lt] at *; omega), Or.inl ⟨rfl, rfl, rfl⟩⟩, rfl, rfl, rfl⟩
  · exact ⟨[x0, x2, x1], ⟨_, _, _, rfl, (by simp only [Int32.lt_iff_toInt_lt] at *; omega), (by simp only [Int32.lt_iff_toInt_lt] at *; omega), Or.inr (Or.inl ⟨rfl, rfl, rfl⟩)⟩, rfl, rfl, rfl⟩
  · exact ⟨[x2, x0, x1], ⟨_, _, _, rfl, (by simp only [Int32.lt_iff_toInt_lt] at *; omega), (by simp only [Int32.lt_iff_toInt_lt] at *; omega), Or.inr (Or.inr (Or.inr (Or.inr (Or.inl ⟨rfl, rfl, rfl⟩))))⟩, rfl, rfl, rfl⟩
  · exact ⟨[x1, x0, x2], ⟨_, _, _, rfl, (by simp only [Int32.lt_iff_toInt_lt] at *; omega), (by simp only [Int32.lt_iff_toInt_lt] at *; omega), Or.inr (Or.inr (Or.inl ⟨rfl, rfl, rfl⟩))⟩, rfl, rfl, rfl⟩
  · exact ⟨[x1, x2, x0], ⟨_, _, _, rfl, (by simp only [Int32.lt_iff_toInt_lt] at *; omega), (by simp only [Int32.lt_iff_toInt_lt] at *; omega), Or.inr (Or.inr (Or.inr (Or.inl ⟨rfl, rfl, rfl⟩)))⟩, rfl, rfl, rfl⟩
  · exact ⟨[x2, x1, x0], ⟨_, _, _, rfl, (by simp only [Int32.lt_iff_toInt_lt] at *; omega), (by simp only [Int32.lt_iff_toInt_lt] at *; omega), Or.inr (Or.inr (Or.inr (Or.inr (Or.inr (⟨rfl, rfl, rfl⟩)))))⟩, rfl, rfl, rfl⟩
set_option maxHeartbeats 4000000 in
theorem au10_30 {Z : State} {a0 : Array Value} (hw : ∀ d ∈ tables_1, d.before a0 Z = true) (ρ : Nat → Nat) (n0 : Nat) (x0 : Int32) (x1 : Int32) (x2 : Int32) (x3 : Int32) (o2 : WObj) (o3 : WObj) (o5 : WObj) (o7 : WObj) (hx0 : ix4 x0) (u : Nat) : WGo (g10 Z ρ n0 8 u) (0, [wR 0], [], [(.inr (cn0, [(fk0, .ref 1), (fk1, .ref 2), (fk2, .ref 3)])), (wAI [.int 0, .int 0, .int 0, .int 0, .int 0]), o2, o3, (.inr (cn1, [(fk3, .ref 0), (fk4, .int 0), (fk5, .ref 5), (fk6, .ref 6), (fk7, .int 2), (fk8, .int 1)])), o5, (wAI [(.int x0), (.int x1), (.int x2), (.int x3)]), o7], u) (fun v σ' u' => v = some (.ref 1) ∧ [(.inr (cn0, [(fk0, .ref 1), (fk1, .ref 2), (fk2, .ref 3)])), (wAI [.int 0, .int 0, .int 0, .int 0, .int 0]), o2, o3, (.inr (cn1, [(fk3, .ref 0), (fk4, .int 0), (fk5, .ref 5), (fk6, .ref 6), (fk7, .int 2), (fk8, .int 1)])), o5, (wAI [(.int x0), (.int x1), (.int x2), (.int x3)]), o7] = σ' ∧ u = u') := by
  refine .s (.aloadN a10_0 rfl rfl) <| .s (.getF 0 a10_1 (wd hw 15 rfl) rfl rfl) ?_
  refine .areturn (.array .int) a10_4 rfl rfl rfl ?_
  exact ⟨rfl, rfl, rfl⟩
set_option maxHeartbeats 4000000 in
theorem au9_29 {Z : State} {a0 : Array Value} (hw : ∀ d ∈ tables_1, d.before a0 Z = true) (ρ : Nat → Nat) (n0 : Nat) (x0 : Int32) (x1 : Int32) (x2 : Int32) (x3 : Int32) (o2 : WObj) (o3 : WObj) (o5 : WObj) (o7 : WObj) (hx0 : ix4 x0) (u : Nat) : WGo (g9 Z ρ n0 8 u) (0, [wR 4, wU, wU, wU], [], [(.inr (cn0, [(fk0, .ref 1), (fk1, .ref 2), (fk2, .ref 3)])), (wAI [.int 0, .int 0, .int 0, .int 0, .int 0]), o2, o3, (.inr (cn1, [(fk3, .ref 0), (fk4, .int 0), (fk5, .ref 5), (fk6, .ref 6), (fk7, .int 2), (fk8, .int 1)])), o5, (wAI [(.int x0), (.int x1), (.int x2), (.int x3)]), o7], u) (fun v σ' u' => v = none ∧ [(.inr (cn0, [(fk0, .ref 1), (fk1, .ref 2), (fk2, .ref 3)])), (wAI [.int 0, .int 0, .int 0, .int 0, .int 0]), o2, o3, (.inr (cn1, [(fk3, .ref 0), (fk4, .int 0), (fk5, .ref 5), (fk6, .ref 6), (fk7, .int 2), (fk8, .int 1)])), o5, (wAI [(.int x0), (.int x1), (.int x2), (.int x3)]), o7] = σ' ∧ u = u') := by
  refine .s (.iconst (0 : Int32) a9_0 rfl) <| .s (.istoreN (L' := [wR 4, wI 0, wU, wU]) a9_1 rfl) <| .s (.iloadN a9_2 rfl) <| .s (.aloadN a9_3 rfl rfl) <| .s (.getF 5 a9_4 (wd hw 48 rfl) rfl rfl) <| .s (.icmpF a9_7 (by decide)) <| .s (.aloadN a9_10 rfl rfl) ?_
  refine .s (.getF 3 a9_11 (wd hw 39 rfl) rfl rfl) <| .s (.iloadN a9_14 rfl) <| .s (.iaload 0 a9_15 rfl (by decide) rfl rfl) <| .s (.istoreN (L' := [wR 4, wI 0, wI x0, wU]) a9_16 rfl) <| .s (.aloadN a9_17 rfl rfl) <| .s (.getF 0 a9_18 (wd hw 28 rfl) rfl rfl) ?_
  refine .callV (k := 0) (z := (⟨"com/example/firm_handshake/firmhandshake/lts/Graph", "first", "()[I"⟩ : MethodName)) a9_21 (ok10 hw _ _ _ _) ⟨rfl, by decide⟩ (wd hw 64 rfl) (wd hw 65 rfl) (fun s hZ => notFace_of_selects (args := #[]) (mvT hZ (wd hw 67 rfl))) (wd hw 67 rfl) (wd hw 66 rfl) rfl (argsL := []) (S := []) (au10_30 hw _ _ x0 x1 x2 x3 o2 o3 o5 o7 hx0 _) rfl rfl rfl rfl rfl rfl (Nat.le_of_ble_eq_true rfl) (Nat.le_of_ble_eq_true rfl) ?_
  rintro _ _ _ ⟨rfl, rfl, rfl⟩
  show WGo _ (24, [wR 4, wI 0, wI x0, wU], [.ref 1], [(.inr (cn0, [(fk0, .ref 1), (fk1, .ref 2), (fk2, .ref 3)])), (wAI [.int 0, .int 0, .int 0, .int 0, .int 0]), o2, o3, (.inr (cn1, [(fk3, .ref 0), (fk4, .int 0), (fk5, .ref 5), (fk6, .ref 6), (fk7, .int 2), (fk8, .int 1)])), o5, (wAI [(.int x0), (.int x1), (.int x2), (.int x3)]), o7], u) _
  refine .s (.iloadN a9_24 rfl) <| .s (.iaload (x0.toNatClampNeg) (v := .int 0) a9_25 rfl (nn hx0.1) rfl (zer5 hx0.1 (Int.le_trans hx0.2 (by decide)))) <| .s (.istoreN (L' := [wR 4, wI 0, wI x0, wI 0]) a9_26 rfl) <| .s (.iloadN a9_27 rfl) <| .s (.aloadN a9_28 rfl rfl) <| .s (.getF 0 a9_29 (wd hw 28 rfl) rfl rfl) ?_
  refine .callV (k := 0) (z := (⟨"com/example/firm_handshake/firmhandshake/lts/Graph", "first", "()[I"⟩ : MethodName)) a9_32 (ok10 hw _ _ _ _) ⟨rfl, by decide⟩ (wd hw 64 rfl) (wd hw 65 rfl) (fun s hZ => notFace_of_selects (args := #[]) (mvT hZ (wd hw 67 rfl))) (wd hw 67 rfl) (wd hw 66 rfl) rfl (argsL := []) (S := [.int 0]) (au10_30 hw _ _ x0 x1 x2 x3 o2 o3 o5 o7 hx0 _) rfl rfl rfl rfl rfl rfl (Nat.le_of_ble_eq_true rfl) (Nat.le_of_ble_eq_true rfl) ?_
  rintro _ _ _ ⟨rfl, rfl, rfl⟩
  show WGo _ (35, [wR 4, wI 0, wI x0, wI 0], [.ref 1, .int 0], [(.inr (cn0, [(fk0, .ref 1), (fk1, .ref 2), (fk2, .ref 3)])), (wAI [.int 0, .int 0, .int 0, .int 0, .int 0]), o2, o3, (.inr (cn1, [(fk3, .ref 0), (fk4, .int 0), (fk5, .ref 5), (fk6, .ref 6), (fk7, .int 2), (fk8, .int 1)])), o5, (wAI [(.int x0), (.int x1), (.int x2), (.int x3)]), o7], u) _
  refine .s (.iloadN a9_35 rfl) <| .s (.iconst (1 : Int32) a9_36 rfl) <| .s (.iadd a9_37) <| .s (.iaload ((x0 + (1 : Int32)).toNatClampNeg) (v := .int 0) a9_38 rfl (nn (ix4_succ hx0).1) rfl (zer5 (ix4_succ hx0).1 (ix4_succ hx0).2)) <| .s (.icmpT a9_39 (by decide)) <| .s (.iinc (L' := [wR 4, wI 1, wI x0, wI 0]) a9_77 rfl rfl) <| .s (.goto a9_80) ?_
  refine .s (.iloadN a9_2 rfl) <| .s (.aloadN a9_3 rfl rfl) <| .s (.getF 5 a9_4 (wd hw 48 rfl) rfl rfl) <| .s (.icmpT a9_7 (by decide)) ?_
  refine .vreturn a9_83 rfl ?_
  exact ⟨rfl, rfl, rfl⟩
set_option maxHeartbeats 4000000 in
theorem au12_32 {Z : State} {a0 : Array Value} (hw : ∀ d ∈ tables_1, d.before a0 Z = true) (ρ : Nat → Nat) (n0 : Nat) (x0 : Int32) (x1 : Int32) (x2 : Int32) (x3 : Int32) (o2 : WObj) (o3 : WObj) (o5 : WObj) (o7 : WObj) (hx0 : ix4 x0) (u : Nat) : WGo (g12 Z ρ n0 9 u) (0, [wI 4, wI 1], [], [(.inr (cn0, [(fk0, .ref 1), (fk1, .ref 2), (fk2, .ref 3)])), (wAI [.int 0, .int 0, .int 0, .int 0, .int 0]), o2, o3, (.inr (cn1, [(fk3, .ref 0), (fk4, .int 0), (fk5, .ref 5), (fk6, .ref 6), (fk7, .int 2), (fk8, .int 1)])), o5, (wAI [(.int x0), (.int x1), (.int x2), (.int x3)]), o7, (wAI [.int 0])], u) (fun v σ' u' => v = some (.int 1) ∧ [(.inr (cn0, [(fk0, .ref 1), (fk1, .ref 2), (fk2, .ref 3)])), (wAI [.int 0, .int 0, .int 0, .int 0, .int 0]), o2, o3, (.inr (cn1, [(fk3, .ref 0), (fk4, .int 0), (fk5, .ref 5), (fk6, .ref 6), (fk7, .int 2), (fk8, .int 1)])), o5, (wAI [(.int x0), (.int x1), (.int x2), (.int x3)]), o7, (wAI [.int 0])] = σ' ∧ u = u') := by
  refine .s (.iloadN a12_0 rfl) <| .s (.iloadN a12_1 rfl) <| .s (.icmpT a12_2 (by decide)) <| .s (.iloadN a12_9 rfl) ?_
  refine .ireturn .int a12_10 rfl (by simp) ?_
  exact ⟨rfl, rfl, rfl⟩
set_option maxHeartbeats 4000000 in
theorem au11_31 {Z : State} {a0 : Array Value} (hw : ∀ d ∈ tables_1, d.before a0 Z = true) (ρ : Nat → Nat) (n0 : Nat) (x0 : Int32) (x1 : Int32) (x2 : Int32) (x3 : Int32) (o2 : WObj) (o3 : WObj) (o5 : WObj) (o7 : WObj) (hx0 : ix4 x0) (u : Nat) : WGo (g11 Z ρ n0 8 u) (0, [wR 6, wI 1, wU], [], [(.inr (cn0, [(fk0, .ref 1), (fk1, .ref 2), (fk2, .ref 3)])), (wAI [.int 0, .int 0, .int 0, .int 0, .int 0]), o2, o3, (.inr (cn1, [(fk3, .ref 0), (fk4, .int 0), (fk5, .ref 5), (fk6, .ref 6), (fk7, .int 2), (fk8, .int 1)])), o5, (wAI [(.int x0), (.int x1), (.int x2), (.int x3)]), o7], u) (fun v σ' u' => v = some (.ref 8) ∧ [(.inr (cn0, [(fk0, .ref 1), (fk1, .ref 2), (fk2, .ref 3)])), (wAI [.int 0, .int 0, .int 0, .int 0, .int 0]), o2, o3, (.inr (cn1, [(fk3, .ref 0), (fk4, .int 0), (fk5, .ref 5), (fk6, .ref 6), (fk7, .int 2), (fk8, .int 1)])), o5, (wAI [(.int x0), (.int x1), (.int x2), (.int x3)]), o7, (wAI [(.int x0)])] = σ' ∧ (u + 1) = u') := by
  refine .s (.iloadN a11_0 rfl) <| .s (.aloadN a11_1 rfl rfl) <| .s (.alen (4 : Int32) a11_2 rfl rfl) <| .s (.icmpT a11_3 (by decide)) <| .s (.iloadN a11_14 rfl) <| .s (.newP (k := 8) (1 : Int32) 1 a11_15 (wd hw 3 rfl) (by decide) rfl (by decide) rfl (by decide)) ?_
  show WGo _ (17, [wR 6, wI 1, wU], [.ref 8], [(.inr (cn0, [(fk0, .ref 1), (fk1, .ref 2), (fk2, .ref 3)])), (wAI [.int 0, .int 0, .int 0, .int 0, .int 0]), o2, o3, (.inr (cn1, [(fk3, .ref 0), (fk4, .int 0), (fk5, .ref 5), (fk6, .ref 6), (fk7, .int 2), (fk8, .int 1)])), o5, (wAI [(.int x0), (.int x1), (.int x2), (.int x3)]), o7, (wAI [.int 0])], (u + 1)) _
  refine .s (.astoreN (L' := [wR 6, wI 1, wR 8]) a11_17 rfl rfl) <| .s (.aloadN a11_18 rfl rfl) <| .s (.iconst (0 : Int32) a11_19 rfl) <| .s (.aloadN a11_20 rfl rfl) <| .s (.iconst (0 : Int32) a11_21 rfl) <| .s (.aloadN a11_22 rfl rfl) <| .s (.alen (4 : Int32) a11_23 rfl rfl) ?_
  refine .s (.iloadN a11_24 rfl) ?_
  refine .callS a11_25 (ok12 hw _ _ _ _) (wd hw 73 rfl) (wd hw 74 rfl) (argsL := [.int 4, .int 1]) (S := [.int 0, .ref 8, .int 0, .ref 6]) (au12_32 hw _ _ x0 x1 x2 x3 o2 o3 o5 o7 hx0 _) rfl rfl rfl rfl rfl rfl (Nat.le_of_ble_eq_true rfl) (Nat.le_of_ble_eq_true rfl) ?_
  rintro _ _ _ ⟨rfl, rfl, rfl⟩
  show WGo _ (28, [wR 6, wI 1, wR 8], [.int 1, .int 0, .ref 8, .int 0, .ref 6], [(.inr (cn0, [(fk0, .ref 1), (fk1, .ref 2), (fk2, .ref 3)])), (wAI [.int 0, .int 0, .int 0, .int 0, .int 0]), o2, o3, (.inr (cn1, [(fk3, .ref 0), (fk4, .int 0), (fk5, .ref 5), (fk6, .ref 6), (fk7, .int 2), (fk8, .int 1)])), o5, (wAI [(.int x0), (.int x1), (.int x2), (.int x3)]), o7, (wAI [.int 0])], (u + 1)) _
  refine .s (.copyA (vr := [(.int x0)]) a11_28 (wd hw 77 rfl) (wd hw 80 rfl) (wd hw 78 rfl) (wd hw 79 rfl) rfl rfl rfl (by decide) (by decide) (by decide) (Nat.le_of_ble_eq_true rfl) (Nat.le_of_ble_eq_true rfl) (Nat.le_of_ble_eq_true rfl) (Nat.le_of_ble_eq_true rfl) rfl rfl (Nat.le_of_ble_eq_true rfl) (Nat.le_of_ble_eq_true rfl)) ?_
  show WGo _ (31, [wR 6, wI 1, wR 8], [], [(.inr (cn0, [(fk0, .ref 1), (fk1, .ref 2), (fk2, .ref 3)])), (wAI [.int 0, .int 0, .int 0, .int 0, .int 0]), o2, o3, (.inr (cn1, [(fk3, .ref 0), (fk4, .int 0), (fk5, .ref 5), (fk6, .ref 6), (fk7, .int 2), (fk8, .int 1)])), o5, (wAI [(.int x0), (.int x1), (.int x2), (.int x3)]), o7, (wAI [(.int x0)])], (u + 1)) _
  refine .s (.aloadN a11_31 rfl rfl) ?_
  refine .areturn (.array .int) a11_32 rfl rfl rfl ?_
  exact ⟨rfl, rfl, rfl⟩
set_option maxHeartbeats 4000000 in
theorem au16_36 {Z : State} {a0 : Array Value} (hw : ∀ d ∈ tables_1, d.before a0 Z = true) (ρ : Nat → Nat) (n0 : Nat) (x0 : Int32) (x1 : Int32) (x2 : Int32) (x3 : Int32) (o2 : WObj) (o3 : WObj) (o5 : WObj) (o7 : WObj) (hx0 : ix4 x0) (u : Nat) : WGo (g16 Z ρ n0 9 u) (0, [wR 8, wI 0, wI 1, wU, wU, wU], [], [(.inr (cn0, [(fk0, .ref 1), (fk1, .ref 2), (fk2, .ref 3)])), (wAI [.int 0, .int 0, .int 0, .int 0, .int 0]), o2, o3, (.inr (cn1, [(fk3, .ref 0), (fk4, .int 0), (fk5, .ref 5), (fk6, .ref 6), (fk7, .int 2), (fk8, .int 1)])), o5, (wAI [(.int x0), (.int x1), (.int x2), (.int x3)]), o7, (wAI [(.int x0)])], u) (fun v σ' u' => v = none ∧ [(.inr (cn0, [(fk0, .ref 1), (fk1, .ref 2), (fk2, .ref 3)])), (wAI [.int 0, .int 0, .int 0, .int 0, .int 0]), o2, o3, (.inr (cn1, [(fk3, .ref 0), (fk4, .int 0), (fk5, .ref 5), (fk6, .ref 6), (fk7, .int 2), (fk8, .int 1)])), o5, (wAI [(.int x0), (.int x1), (.int x2), (.int x3)]), o7, (wAI [(.int x0)])] = σ' ∧ u = u') := by
  refine .s (.iloadN a16_0 rfl) <| .s (.istore (L' := [wR 8, wI 0, wI 1, wU, wI 0, wU]) a16_1 rfl) <| .s (.iinc (L' := [wR 8, wI 0, wI 1, wU, wI 1, wU]) a16_3 rfl rfl) <| .s (.iload a16_6 rfl) <| .s (.iloadN a16_8 rfl) <| .s (.icmpT a16_9 (by decide)) ?_
  refine .vreturn a16_67 rfl ?_
  exact ⟨rfl, rfl, rfl⟩
set_option maxHeartbeats 4000000 in
theorem au15_35 {Z : State} {a0 : Array Value} (hw : ∀ d ∈ tables_1, d.before a0 Z = true) (ρ : Nat → Nat) (n0 : Nat) (x0 : Int32) (x1 : Int32) (x2 : Int32) (x3 : Int32) (o2 : WObj) (o3 : WObj) (o5 : WObj) (o7 : WObj) (hx0 : ix4 x0) (u : Nat) : WGo (g15 Z ρ n0 9 u) (0, [wN, wR 8, wI 0, wI 0, wI 1, wU, wU, wU, wU, wU, wU, wU, wU, wU, wU, wU, wU, wU, wU, wU, wU], [], [(.inr (cn0, [(fk0, .ref 1), (fk1, .ref 2), (fk2, .ref 3)])), (wAI [.int 0, .int 0, .int 0, .int 0, .int 0]), o2, o3, (.inr (cn1, [(fk3, .ref 0), (fk4, .int 0), (fk5, .ref 5), (fk6, .ref 6), (fk7, .int 2), (fk8, .int 1)])), o5, (wAI [(.int x0), (.int x1), (.int x2), (.int x3)]), o7, (wAI [(.int x0)])], u) (fun v σ' u' => v = none ∧ [(.inr (cn0, [(fk0, .ref 1), (fk1, .ref 2), (fk2, .ref 3)])), (wAI [.int 0, .int 0, .int 0, .int 0, .int 0]), o2, o3, (.inr (cn1, [(fk3, .ref 0), (fk4, .int 0), (fk5, .ref 5), (fk6, .ref 6), (fk7, .int 2), (fk8, .int 1)])), o5, (wAI [(.int x0), (.int x1), (.int x2), (.int x3)]), o7, (wAI [(.int x0)])] = σ' ∧ u = u') := by
  refine .s (.iload a15_0 rfl) <| .s (.iconst (1 : Int32) a15_2 rfl) <| .s (.isub a15_3) ?_
  show WGo _ (4, [wN, wR 8, wI 0, wI 0, wI 1, wU, wU, wU, wU, wU, wU, wU, wU, wU, wU, wU, wU, wU, wU, wU, wU], [.int 0], [(.inr (cn0, [(fk0, .ref 1), (fk1, .ref 2), (fk2, .ref 3)])), (wAI [.int 0, .int 0, .int 0, .int 0, .int 0]), o2, o3, (.inr (cn1, [(fk3, .ref 0), (fk4, .int 0), (fk5, .ref 5), (fk6, .ref 6), (fk7, .int 2), (fk8, .int 1)])), o5, (wAI [(.int x0), (.int x1), (.int x2), (.int x3)]), o7, (wAI [(.int x0)])], u) _
  refine .s (.istore (L' := [wN, wR 8, wI 0, wI 0, wI 1, wI 0, wU, wU, wU, wU, wU, wU, wU, wU, wU, wU, wU, wU, wU, wU, wU]) a15_4 rfl) <| .s (.iload a15_6 rfl) <| .s (.iloadN a15_8 rfl) <| .s (.isub a15_9) ?_
  show WGo _ (10, [wN, wR 8, wI 0, wI 0, wI 1, wI 0, wU, wU, wU, wU, wU, wU, wU, wU, wU, wU, wU, wU, wU, wU, wU], [.int 1], [(.inr (cn0, [(fk0, .ref 1), (fk1, .ref 2), (fk2, .ref 3)])), (wAI [.int 0, .int 0, .int 0, .int 0, .int 0]), o2, o3, (.inr (cn1, [(fk3, .ref 0), (fk4, .int 0), (fk5, .ref 5), (fk6, .ref 6), (fk7, .int 2), (fk8, .int 1)])), o5, (wAI [(.int x0), (.int x1), (.int x2), (.int x3)]), o7, (wAI [(.int x0)])], u) _
  refine .s (.istore (L' := [wN, wR 8, wI 0, wI 0, wI 1, wI 0, wI 1, wU, wU, wU, wU, wU, wU, wU, wU, wU, wU, wU, wU, wU, wU]) a15_10 rfl) <| .s (.iload a15_12 rfl) <| .s (.bipush (65 : Int32) a15_14 rfl) <| .s (.iloadN a15_16 rfl) <| .s (.iadd a15_17) ?_
  show WGo _ (18, [wN, wR 8, wI 0, wI 0, wI 1, wI 0, wI 1, wU, wU, wU, wU, wU, wU, wU, wU, wU, wU, wU, wU, wU, wU], [.int 65, .int 1], [(.inr (cn0, [(fk0, .ref 1), (fk1, .ref 2), (fk2, .ref 3)])), (wAI [.int 0, .int 0, .int 0, .int 0, .int 0]), o2, o3, (.inr (cn1, [(fk3, .ref 0), (fk4, .int 0), (fk5, .ref 5), (fk6, .ref 6), (fk7, .int 2), (fk8, .int 1)])), o5, (wAI [(.int x0), (.int x1), (.int x2), (.int x3)]), o7, (wAI [(.int x0)])], u) _
  refine .s (.icmpF a15_18 (by decide)) <| .s (.iloadN a15_21 rfl) <| .s (.iconst (1 : Int32) a15_22 rfl) <| .s (.iand a15_23) ?_
  show WGo _ (24, [wN, wR 8, wI 0, wI 0, wI 1, wI 0, wI 1, wU, wU, wU, wU, wU, wU, wU, wU, wU, wU, wU, wU, wU, wU], [.int 0], [(.inr (cn0, [(fk0, .ref 1), (fk1, .ref 2), (fk2, .ref 3)])), (wAI [.int 0, .int 0, .int 0, .int 0, .int 0]), o2, o3, (.inr (cn1, [(fk3, .ref 0), (fk4, .int 0), (fk5, .ref 5), (fk6, .ref 6), (fk7, .int 2), (fk8, .int 1)])), o5, (wAI [(.int x0), (.int x1), (.int x2), (.int x3)]), o7, (wAI [(.int x0)])], u) _
  refine .s (.ifT a15_24 (by decide)) <| .s (.iload a15_46 rfl) <| .s (.bipush (44 : Int32) a15_48 rfl) <| .s (.icmpF a15_50 (by decide)) <| .s (.aloadN a15_53 rfl rfl) <| .s (.iloadN a15_54 rfl) <| .s (.iload a15_55 rfl) ?_
  refine .callS a15_57 (ok16 hw _ _ _ _) (wd hw 91 rfl) (wd hw 92 rfl) (argsL := [.ref 8, .int 0, .int 1]) (S := []) (au16_36 hw _ _ x0 x1 x2 x3 o2 o3 o5 o7 hx0 _) rfl rfl rfl rfl rfl rfl (Nat.le_of_ble_eq_true rfl) (Nat.le_of_ble_eq_true rfl) ?_
  rintro _ _ _ ⟨rfl, rfl, rfl⟩
  show WGo _ (60, [wN, wR 8, wI 0, wI 0, wI 1, wI 0, wI 1, wU, wU, wU, wU, wU, wU, wU, wU, wU, wU, wU, wU, wU, wU], [], [(.inr (cn0, [(fk0, .ref 1), (fk1, .ref 2), (fk2, .ref 3)])), (wAI [.int 0, .int 0, .int 0, .int 0, .int 0]), o2, o3, (.inr (cn1, [(fk3, .ref 0), (fk4, .int 0), (fk5, .ref 5), (fk6, .ref 6), (fk7, .int 2), (fk8, .int 1)])), o5, (wAI [(.int x0), (.int x1), (.int x2), (.int x3)]), o7, (wAI [(.int x0)])], u) _
  refine .vreturn a15_60 rfl ?_
  exact ⟨rfl, rfl, rfl⟩
set_option maxHeartbeats 4000000 in
theorem au14_34 {Z : State} {a0 : Array Value} (hw : ∀ d ∈ tables_1, d.before a0 Z = true) (ρ : Nat → Nat) (n0 : Nat) (x0 : Int32) (x1 : Int32) (x2 : Int32) (x3 : Int32) (o2 : WObj) (o3 : WObj) (o5 : WObj) (o7 : WObj) (hx0 : ix4 x0) (u : Nat) : WGo (g14 Z ρ n0 9 u) (0, [wR 8, wI 0, wI 0, wI 1, wU, wU, wU], [], [(.inr (cn0, [(fk0, .ref 1), (fk1, .ref 2), (fk2, .ref 3)])), (wAI [.int 0, .int 0, .int 0, .int 0, .int 0]), o2, o3, (.inr (cn1, [(fk3, .ref 0), (fk4, .int 0), (fk5, .ref 5), (fk6, .ref 6), (fk7, .int 2), (fk8, .int 1)])), o5, (wAI [(.int x0), (.int x1), (.int x2), (.int x3)]), o7, (wAI [(.int x0)])], u) (fun v σ' u' => v = none ∧ [(.inr (cn0, [(fk0, .ref 1), (fk1, .ref 2), (fk2, .ref 3)])), (wAI [.int 0, .int 0, .int 0, .int 0, .int 0]), o2, o3, (.inr (cn1, [(fk3, .ref 0), (fk4, .int 0), (fk5, .ref 5), (fk6, .ref 6), (fk7, .int 2), (fk8, .int 1)])), o5, (wAI [(.int x0), (.int x1), (.int x2), (.int x3)]), o7, (wAI [(.int x0)])] = σ' ∧ u = u') := by
  refine .s (.iloadN a14_0 rfl) <| .s (.iloadN a14_1 rfl) <| .s (.isub a14_2) ?_
  show WGo _ (3, [wR 8, wI 0, wI 0, wI 1, wU, wU, wU], [.int 1], [(.inr (cn0, [(fk0, .ref 1), (fk1, .ref 2), (fk2, .ref 3)])), (wAI [.int 0, .int 0, .int 0, .int 0, .int 0]), o2, o3, (.inr (cn1, [(fk3, .ref 0), (fk4, .int 0), (fk5, .ref 5), (fk6, .ref 6), (fk7, .int 2), (fk8, .int 1)])), o5, (wAI [(.int x0), (.int x1), (.int x2), (.int x3)]), o7, (wAI [(.int x0)])], u) _
  refine .s (.istore (L' := [wR 8, wI 0, wI 0, wI 1, wI 1, wU, wU]) a14_3 rfl) <| .s (.iloadN a14_5 rfl) <| .s (.iconst (1 : Int32) a14_6 rfl) <| .s (.icmpT a14_7 (by decide)) <| .s (.aconstNull a14_68) <| .s (.aloadN a14_69 rfl rfl) <| .s (.iconst (0 : Int32) a14_70 rfl) ?_
  refine .s (.iloadN a14_71 rfl) <| .s (.iloadN a14_72 rfl) ?_
  refine .callS a14_73 (ok15 hw _ _ _ _) (wd hw 88 rfl) (wd hw 89 rfl) (argsL := [.null, .ref 8, .int 0, .int 0, .int 1]) (S := []) (au15_35 hw _ _ x0 x1 x2 x3 o2 o3 o5 o7 hx0 _) rfl rfl rfl rfl rfl rfl (Nat.le_of_ble_eq_true rfl) (Nat.le_of_ble_eq_true rfl) ?_
  rintro _ _ _ ⟨rfl, rfl, rfl⟩
  show WGo _ (76, [wR 8, wI 0, wI 0, wI 1, wI 1, wU, wU], [], [(.inr (cn0, [(fk0, .ref 1), (fk1, .ref 2), (fk2, .ref 3)])), (wAI [.int 0, .int 0, .int 0, .int 0, .int 0]), o2, o3, (.inr (cn1, [(fk3, .ref 0), (fk4, .int 0), (fk5, .ref 5), (fk6, .ref 6), (fk7, .int 2), (fk8, .int 1)])), o5, (wAI [(.int x0), (.int x1), (.int x2), (.int x3)]), o7, (wAI [(.int x0)])], u) _
  refine .vreturn a14_76 rfl ?_
  exact ⟨rfl, rfl, rfl⟩
set_option maxHeartbeats 4000000 in
theorem au13_33 {Z : State} {a0 : Array Value} (hw : ∀ d ∈ tables_1, d.before a0 Z = true) (ρ : Nat → Nat) (n0 : Nat) (x0 : Int32) (x1 : Int32) (x2 : Int32) (x3 : Int32) (o2 : WObj) (o3 : WObj) (o5 : WObj) (o7 : WObj) (hx0 : ix4 x0) (u : Nat) : WGo (g13 Z ρ n0 9 u) (0, [wR 8], [], [(.inr (cn0, [(fk0, .ref 1), (fk1, .ref 2), (fk2, .ref 3)])), (wAI [.int 0, .int 0, .int 0, .int 0, .int 0]), o2, o3, (.inr (cn1, [(fk3, .ref 0), (fk4, .int 0), (fk5, .ref 5), (fk6, .ref 6), (fk7, .int 2), (fk8, .int 1)])), o5, (wAI [(.int x0), (.int x1), (.int x2), (.int x3)]), o7, (wAI [(.int x0)])], u) (fun v σ' u' => v = none ∧ [(.inr (cn0, [(fk0, .ref 1), (fk1, .ref 2), (fk2, .ref 3)])), (wAI [.int 0, .int 0, .int 0, .int 0, .int 0]), o2, o3, (.inr (cn1, [(fk3, .ref 0), (fk4, .int 0), (fk5, .ref 5), (fk6, .ref 6), (fk7, .int 2), (fk8, .int 1)])), o5, (wAI [(.int x0), (.int x1), (.int x2), (.int x3)]), o7, (wAI [(.int x0)])] = σ' ∧ u = u') := by
  refine .s (.aloadN a13_0 rfl rfl) <| .s (.iconst (0 : Int32) a13_1 rfl) <| .s (.iconst (0 : Int32) a13_2 rfl) <| .s (.aloadN a13_3 rfl rfl) <| .s (.alen (1 : Int32) a13_4 rfl rfl) ?_
  refine .callS a13_5 (ok14 hw _ _ _ _) (wd hw 84 rfl) (wd hw 85 rfl) (argsL := [.ref 8, .int 0, .int 0, .int 1]) (S := []) (au14_34 hw _ _ x0 x1 x2 x3 o2 o3 o5 o7 hx0 _) rfl rfl rfl rfl rfl rfl (Nat.le_of_ble_eq_true rfl) (Nat.le_of_ble_eq_true rfl) ?_
  rintro _ _ _ ⟨rfl, rfl, rfl⟩
  show WGo _ (8, [wR 8], [], [(.inr (cn0, [(fk0, .ref 1), (fk1, .ref 2), (fk2, .ref 3)])), (wAI [.int 0, .int 0, .int 0, .int 0, .int 0]), o2, o3, (.inr (cn1, [(fk3, .ref 0), (fk4, .int 0), (fk5, .ref 5), (fk6, .ref 6), (fk7, .int 2), (fk8, .int 1)])), o5, (wAI [(.int x0), (.int x1), (.int x2), (.int x3)]), o7, (wAI [(.int x0)])], u) _
  refine .vreturn a13_8 rfl ?_
  exact ⟨rfl, rfl, rfl⟩
set_option maxHeartbeats 4000000 in
theorem au8_28 {Z : State} {a0 : Array Value} (hw : ∀ d ∈ tables_1, d.before a0 Z = true) (ρ : Nat → Nat) (n0 : Nat) (x0 : Int32) (x1 : Int32) (x2 : Int32) (x3 : Int32) (o2 : WObj) (o3 : WObj) (o5 : WObj) (o7 : WObj) (hx0 : ix4 x0) (u : Nat) : WGo (g8 Z ρ n0 8 u) (0, [wR 4, wU], [], [(.inr (cn0, [(fk0, .ref 1), (fk1, .ref 2), (fk2, .ref 3)])), (wAI [.int 0, .int 0, .int 0, .int 0, .int 0]), o2, o3, (.inr (cn1, [(fk3, .ref 0), (fk4, .int 0), (fk5, .ref 5), (fk6, .ref 6), (fk7, .int 2), (fk8, .int 1)])), o5, (wAI [(.int x0), (.int x1), (.int x2), (.int x3)]), o7], u) (fun v σ' u' => v = some (.ref 8) ∧ [(.inr (cn0, [(fk0, .ref 1), (fk1, .ref 2), (fk2, .ref 3)])), (wAI [.int 0, .int 0, .int 0, .int 0, .int 0]), o2, o3, (.inr (cn1, [(fk3, .ref 0), (fk4, .int 0), (fk5, .ref 5), (fk6, .ref 6), (fk7, .int 2), (fk8, .int 1)])), o5, (wAI [(.int x0), (.int x1), (.int x2), (.int x3)]), o7, (wAI [(.int x0)])] = σ' ∧ (u + 1) = u') := by
  refine .s (.aloadN a8_0 rfl rfl) ?_
  refine .callP (k := 4) a8_1 (ok9 hw _ _ _ _) (wd hw 60 rfl) (wd hw 61 rfl) (selP (wd hw 22 rfl) (wd hw 61 rfl) (wd hw 62 rfl) (by decide)) (wd hw 62 rfl) rfl (argsL := []) (S := []) (au9_29 hw _ _ x0 x1 x2 x3 o2 o3 o5 o7 hx0 _) rfl rfl rfl rfl rfl rfl (Nat.le_of_ble_eq_true rfl) (Nat.le_of_ble_eq_true rfl) ?_
  rintro _ _ _ ⟨rfl, rfl, rfl⟩
  show WGo _ (4, [wR 4, wU], [], [(.inr (cn0, [(fk0, .ref 1), (fk1, .ref 2), (fk2, .ref 3)])), (wAI [.int 0, .int 0, .int 0, .int 0, .int 0]), o2, o3, (.inr (cn1, [(fk3, .ref 0), (fk4, .int 0), (fk5, .ref 5), (fk6, .ref 6), (fk7, .int 2), (fk8, .int 1)])), o5, (wAI [(.int x0), (.int x1), (.int x2), (.int x3)]), o7], u) _
  refine .s (.aloadN a8_4 rfl rfl) <| .s (.getF 3 a8_5 (wd hw 39 rfl) rfl rfl) <| .s (.aloadN a8_8 rfl rfl) <| .s (.getF 5 a8_9 (wd hw 48 rfl) rfl rfl) ?_
  refine .callS a8_12 (ok11 hw _ _ _ _) (wd hw 69 rfl) (wd hw 70 rfl) (argsL := [.ref 6, .int 1]) (S := []) (au11_31 hw _ _ x0 x1 x2 x3 o2 o3 o5 o7 hx0 _) rfl rfl rfl rfl rfl rfl (Nat.le_of_ble_eq_true rfl) (Nat.le_of_ble_eq_true rfl) ?_
  rintro _ _ _ ⟨rfl, rfl, rfl⟩
  show WGo _ (15, [wR 4, wU], [.ref 8], [(.inr (cn0, [(fk0, .ref 1), (fk1, .ref 2), (fk2, .ref 3)])), (wAI [.int 0, .int 0, .int 0, .int 0, .int 0]), o2, o3, (.inr (cn1, [(fk3, .ref 0), (fk4, .int 0), (fk5, .ref 5), (fk6, .ref 6), (fk7, .int 2), (fk8, .int 1)])), o5, (wAI [(.int x0), (.int x1), (.int x2), (.int x3)]), o7, (wAI [(.int x0)])], (u + 1)) _
  refine .s (.astoreN (L' := [wR 4, wR 8]) a8_15 rfl rfl) <| .s (.aloadN a8_16 rfl rfl) ?_
  refine .callS a8_17 (ok13 hw _ _ _ _) (wd hw 81 rfl) (wd hw 82 rfl) (argsL := [.ref 8]) (S := []) (au13_33 hw _ _ x0 x1 x2 x3 o2 o3 o5 o7 hx0 _) rfl rfl rfl rfl rfl rfl (Nat.le_of_ble_eq_true rfl) (Nat.le_of_ble_eq_true rfl) ?_
  rintro _ _ _ ⟨rfl, rfl, rfl⟩
  show WGo _ (20, [wR 4, wR 8], [], [(.inr (cn0, [(fk0, .ref 1), (fk1, .ref 2), (fk2, .ref 3)])), (wAI [.int 0, .int 0, .int 0, .int 0, .int 0]), o2, o3, (.inr (cn1, [(fk3, .ref 0), (fk4, .int 0), (fk5, .ref 5), (fk6, .ref 6), (fk7, .int 2), (fk8, .int 1)])), o5, (wAI [(.int x0), (.int x1), (.int x2), (.int x3)]), o7, (wAI [(.int x0)])], (u + 1)) _
  refine .s (.aloadN a8_20 rfl rfl) ?_
  refine .areturn (.array .int) a8_21 rfl rfl rfl ?_
  exact ⟨rfl, rfl, rfl⟩
theorem ccl_1_1 {Z : State} {a0 : Array Value} (hw : ∀ d ∈ tables_1, d.before a0 Z = true) (ρ : Nat → Nat) (n0 : Nat) (o2 o3 o5 o7 : WObj) (x0 x1 x2 x3 : Int32) (hx0 : ix4 x0) (u : Nat) : WGo (g8 Z ρ n0 8 u) (0, [wR 4, wU], [], [(.inr (cn0, [(fk0, .ref 1), (fk1, .ref 2), (fk2, .ref 3)])), (wAI [.int 0, .int 0, .int 0, .int 0, .int 0]), o2, o3, (.inr (cn1, [(fk3, .ref 0), (fk4, .int 0), (fk5, .ref 5), (fk6, .ref 6), (fk7, .int 2), (fk8, .int 1)])), o5, (wAI [(.int x0), (.int x1), (.int x2), (.int x3)]), o7], u) (fun v σ' u' => ∃ R : List Int32, Srt1 R x0 ∧ v = some (.ref 8) ∧ [(.inr (cn0, [(fk0, .ref 1), (fk1, .ref 2), (fk2, .ref 3)])), (wAI [.int 0, .int 0, .int 0, .int 0, .int 0]), o2, o3, (.inr (cn1, [(fk3, .ref 0), (fk4, .int 0), (fk5, .ref 5), (fk6, .ref 6), (fk7, .int 2), (fk8, .int 1)])), o5, (wAI [(.int x0), (.int x1), (.int x2), (.int x3)]), o7, (wAI (ia R))] = σ' ∧ u + 1 = u') := by
  refine .mono (au8_28 hw ρ n0 x0 x1 x2 x3 o2 o3 o5 o7 hx0 u) ?_
  rintro _ _ _ ⟨rfl, rfl, rfl⟩
  · exact ⟨[x0], rfl, rfl, rfl, rfl⟩
set_option maxHeartbeats 4000000 in
theorem au10_39 {Z : State} {a0 : Array Value} (hw : ∀ d ∈ tables_1, d.before a0 Z = true) (ρ : Nat → Nat) (n0 : Nat) (x0 : Int32) (x1 : Int32) (x2 : Int32) (x3 : Int32) (o2 : WObj) (o3 : WObj) (o5 : WObj) (o7 : WObj) (hx0 : ix4 x0) (hx1 : ix4 x1) (u : Nat) : WGo (g10 Z ρ n0 8 u) (0, [wR 0], [], [(.inr (cn0, [(fk0, .ref 1), (fk1, .ref 2), (fk2, .ref 3)])), (wAI [.int 0, .int 0, .int 0, .int 0, .int 0]), o2, o3, (.inr (cn1, [(fk3, .ref 0), (fk4, .int 0), (fk5, .ref 5), (fk6, .ref 6), (fk7, .int 2), (fk8, .int 2)])), o5, (wAI [(.int x0), (.int x1), (.int x2), (.int x3)]), o7], u) (fun v σ' u' => v = some (.ref 1) ∧ [(.inr (cn0, [(fk0, .ref 1), (fk1, .ref 2), (fk2, .ref 3)])), (wAI [.int 0, .int 0, .int 0, .int 0, .int 0]), o2, o3, (.inr (cn1, [(fk3, .ref 0), (fk4, .int 0), (fk5, .ref 5), (fk6, .ref 6), (fk7, .int 2), (fk8, .int 2)])), o5, (wAI [(.int x0), (.int x1), (.int x2), (.int x3)]), o7] = σ' ∧ u = u') := by
  refine .s (.aloadN a10_0 rfl rfl) <| .s (.getF 0 a10_1 (wd hw 15 rfl) rfl rfl) ?_
  refine .areturn (.array .int) a10_4 rfl rfl rfl ?_
  exact ⟨rfl, rfl, rfl⟩
set_option maxHeartbeats 4000000 in
theorem au9_38 {Z : State} {a0 : Array Value} (hw : ∀ d ∈ tables_1, d.before a0 Z = true) (ρ : Nat → Nat) (n0 : Nat) (x0 : Int32) (x1 : Int32) (x2 : Int32) (x3 : Int32) (o2 : WObj) (o3 : WObj) (o5 : WObj) (o7 : WObj) (hx0 : ix4 x0) (hx1 : ix4 x1) (u : Nat) : WGo (g9 Z ρ n0 8 u) (0, [wR 4, wU, wU, wU], [], [(.inr (cn0, [(fk0, .ref 1), (fk1, .ref 2), (fk2, .ref 3)])), (wAI [.int 0, .int 0, .int 0, .int 0, .int 0]), o2, o3, (.inr (cn1, [(fk3, .ref 0), (fk4, .int 0), (fk5, .ref 5), (fk6, .ref 6), (fk7, .int 2), (fk8, .int 2)])), o5, (wAI [(.int x0), (.int x1), (.int x2), (.int x3)]), o7], u) (fun v σ' u' => v = none ∧ [(.inr (cn0, [(fk0, .ref 1), (fk1, .ref 2), (fk2, .ref 3)])), (wAI [.int 0, .int 0, .int 0, .int 0, .int 0]), o2, o3, (.inr (cn1, [(fk3, .ref 0), (fk4, .int 0), (fk5, .ref 5), (fk6, .ref 6), (fk7, .int 2), (fk8, .int 2)])), o5, (wAI [(.int x0), (.int x1), (.int x2), (.int x3)]), o7] = σ' ∧ u = u') := by
  refine .s (.iconst (0 : Int32) a9_0 rfl) <| .s (.istoreN (L' := [wR 4, wI 0, wU, wU]) a9_1 rfl) <| .s (.iloadN a9_2 rfl) <| .s (.aloadN a9_3 rfl rfl) <| .s (.getF 5 a9_4 (wd hw 48 rfl) rfl rfl) <| .s (.icmpF a9_7 (by decide)) <| .s (.aloadN a9_10 rfl rfl) ?_
  refine .s (.getF 3 a9_11 (wd hw 39 rfl) rfl rfl) <| .s (.iloadN a9_14 rfl) <| .s (.iaload 0 a9_15 rfl (by decide) rfl rfl) <| .s (.istoreN (L' := [wR 4, wI 0, wI x0, wU]) a9_16 rfl) <| .s (.aloadN a9_17 rfl rfl) <| .s (.getF 0 a9_18 (wd hw 28 rfl) rfl rfl) ?_
  refine .callV (k := 0) (z := (⟨"com/example/firm_handshake/firmhandshake/lts/Graph", "first", "()[I"⟩ : MethodName)) a9_21 (ok10 hw _ _ _ _) ⟨rfl, by decide⟩ (wd hw 64 rfl) (wd hw 65 rfl) (fun s hZ => notFace_of_selects (args := #[]) (mvT hZ (wd hw 67 rfl))) (wd hw 67 rfl) (wd hw 66 rfl) rfl (argsL := []) (S := []) (au10_39 hw _ _ x0 x1 x2 x3 o2 o3 o5 o7 hx0 hx1 _) rfl rfl rfl rfl rfl rfl (Nat.le_of_ble_eq_true rfl) (Nat.le_of_ble_eq_true rfl) ?_
  rintro _ _ _ ⟨rfl, rfl, rfl⟩
  show WGo _ (24, [wR 4, wI 0, wI x0, wU], [.ref 1], [(.inr (cn0, [(fk0, .ref 1), (fk1, .ref 2), (fk2, .ref 3)])), (wAI [.int 0, .int 0, .int 0, .int 0, .int 0]), o2, o3, (.inr (cn1, [(fk3, .ref 0), (fk4, .int 0), (fk5, .ref 5), (fk6, .ref 6), (fk7, .int 2), (fk8, .int 2)])), o5, (wAI [(.int x0), (.int x1), (.int x2), (.int x3)]), o7], u) _
  refine .s (.iloadN a9_24 rfl) <| .s (.iaload (x0.toNatClampNeg) (v := .int 0) a9_25 rfl (nn hx0.1) rfl (zer5 hx0.1 (Int.le_trans hx0.2 (by decide)))) <| .s (.istoreN (L' := [wR 4, wI 0, wI x0, wI 0]) a9_26 rfl) <| .s (.iloadN a9_27 rfl) <| .s (.aloadN a9_28 rfl rfl) <| .s (.getF 0 a9_29 (wd hw 28 rfl) rfl rfl) ?_
  refine .callV (k := 0) (z := (⟨"com/example/firm_handshake/firmhandshake/lts/Graph", "first", "()[I"⟩ : MethodName)) a9_32 (ok10 hw _ _ _ _) ⟨rfl, by decide⟩ (wd hw 64 rfl) (wd hw 65 rfl) (fun s hZ => notFace_of_selects (args := #[]) (mvT hZ (wd hw 67 rfl))) (wd hw 67 rfl) (wd hw 66 rfl) rfl (argsL := []) (S := [.int 0]) (au10_39 hw _ _ x0 x1 x2 x3 o2 o3 o5 o7 hx0 hx1 _) rfl rfl rfl rfl rfl rfl (Nat.le_of_ble_eq_true rfl) (Nat.le_of_ble_eq_true rfl) ?_
  rintro _ _ _ ⟨rfl, rfl, rfl⟩
  show WGo _ (35, [wR 4, wI 0, wI x0, wI 0], [.ref 1, .int 0], [(.inr (cn0, [(fk0, .ref 1), (fk1, .ref 2), (fk2, .ref 3)])), (wAI [.int 0, .int 0, .int 0, .int 0, .int 0]), o2, o3, (.inr (cn1, [(fk3, .ref 0), (fk4, .int 0), (fk5, .ref 5), (fk6, .ref 6), (fk7, .int 2), (fk8, .int 2)])), o5, (wAI [(.int x0), (.int x1), (.int x2), (.int x3)]), o7], u) _
  refine .s (.iloadN a9_35 rfl) <| .s (.iconst (1 : Int32) a9_36 rfl) <| .s (.iadd a9_37) <| .s (.iaload ((x0 + (1 : Int32)).toNatClampNeg) (v := .int 0) a9_38 rfl (nn (ix4_succ hx0).1) rfl (zer5 (ix4_succ hx0).1 (ix4_succ hx0).2)) <| .s (.icmpT a9_39 (by decide)) <| .s (.iinc (L' := [wR 4, wI 1, wI x0, wI 0]) a9_77 rfl rfl) <| .s (.goto a9_80) ?_
  refine .s (.iloadN a9_2 rfl) <| .s (.aloadN a9_3 rfl rfl) <| .s (.getF 5 a9_4 (wd hw 48 rfl) rfl rfl) <| .s (.icmpF a9_7 (by decide)) <| .s (.aloadN a9_10 rfl rfl) <| .s (.getF 3 a9_11 (wd hw 39 rfl) rfl rfl) <| .s (.iloadN a9_14 rfl) ?_
  refine .s (.iaload 1 a9_15 rfl (by decide) rfl rfl) <| .s (.istoreN (L' := [wR 4, wI 1, wI x1, wI 0]) a9_16 rfl) <| .s (.aloadN a9_17 rfl rfl) <| .s (.getF 0 a9_18 (wd hw 28 rfl) rfl rfl) ?_
  refine .callV (k := 0) (z := (⟨"com/example/firm_handshake/firmhandshake/lts/Graph", "first", "()[I"⟩ : MethodName)) a9_21 (ok10 hw _ _ _ _) ⟨rfl, by decide⟩ (wd hw 64 rfl) (wd hw 65 rfl) (fun s hZ => notFace_of_selects (args := #[]) (mvT hZ (wd hw 67 rfl))) (wd hw 67 rfl) (wd hw 66 rfl) rfl (argsL := []) (S := []) (au10_39 hw _ _ x0 x1 x2 x3 o2 o3 o5 o7 hx0 hx1 _) rfl rfl rfl rfl rfl rfl (Nat.le_of_ble_eq_true rfl) (Nat.le_of_ble_eq_true rfl) ?_
  rintro _ _ _ ⟨rfl, rfl, rfl⟩
  show WGo _ (24, [wR 4, wI 1, wI x1, wI 0], [.ref 1], [(.inr (cn0, [(fk0, .ref 1), (fk1, .ref 2), (fk2, .ref 3)])), (wAI [.int 0, .int 0, .int 0, .int 0, .int 0]), o2, o3, (.inr (cn1, [(fk3, .ref 0), (fk4, .int 0), (fk5, .ref 5), (fk6, .ref 6), (fk7, .int 2), (fk8, .int 2)])), o5, (wAI [(.int x0), (.int x1), (.int x2), (.int x3)]), o7], u) _
  refine .s (.iloadN a9_24 rfl) <| .s (.iaload (x1.toNatClampNeg) (v := .int 0) a9_25 rfl (nn hx1.1) rfl (zer5 hx1.1 (Int.le_trans hx1.2 (by decide)))) <| .s (.istoreN (L' := [wR 4, wI 1, wI x1, wI 0]) a9_26 rfl) <| .s (.iloadN a9_27 rfl) <| .s (.aloadN a9_28 rfl rfl) <| .s (.getF 0 a9_29 (wd hw 28 rfl) rfl rfl) ?_
  refine .callV (k := 0) (z := (⟨"com/example/firm_handshake/firmhandshake/lts/Graph", "first", "()[I"⟩ : MethodName)) a9_32 (ok10 hw _ _ _ _) ⟨rfl, by decide⟩ (wd hw 64 rfl) (wd hw 65 rfl) (fun s hZ => notFace_of_selects (args := #[]) (mvT hZ (wd hw 67 rfl))) (wd hw 67 rfl) (wd hw 66 rfl) rfl (argsL := []) (S := [.int 0]) (au10_39 hw _ _ x0 x1 x2 x3 o2 o3 o5 o7 hx0 hx1 _) rfl rfl rfl rfl rfl rfl (Nat.le_of_ble_eq_true rfl) (Nat.le_of_ble_eq_true rfl) ?_
  rintro _ _ _ ⟨rfl, rfl, rfl⟩
  show WGo _ (35, [wR 4, wI 1, wI x1, wI 0], [.ref 1, .int 0], [(.inr (cn0, [(fk0, .ref 1), (fk1, .ref 2), (fk2, .ref 3)])), (wAI [.int 0, .int 0, .int 0, .int 0, .int 0]), o2, o3, (.inr (cn1, [(fk3, .ref 0), (fk4, .int 0), (fk5, .ref 5), (fk6, .ref 6), (fk7, .int 2), (fk8, .int 2)])), o5, (wAI [(.int x0), (.int x1), (.int x2), (.int x3)]), o7], u) _
  refine .s (.iloadN a9_35 rfl) <| .s (.iconst (1 : Int32) a9_36 rfl) <| .s (.iadd a9_37) <| .s (.iaload ((x1 + (1 : Int32)).toNatClampNeg) (v := .int 0) a9_38 rfl (nn (ix4_succ hx1).1) rfl (zer5 (ix4_succ hx1).1 (ix4_succ hx1).2)) <| .s (.icmpT a9_39 (by decide)) <| .s (.iinc (L' := [wR 4, wI 2, wI x1, wI 0]) a9_77 rfl rfl) <| .s (.goto a9_80) ?_
  refine .s (.iloadN a9_2 rfl) <| .s (.aloadN a9_3 rfl rfl) <| .s (.getF 5 a9_4 (wd hw 48 rfl) rfl rfl) <| .s (.icmpT a9_7 (by decide)) ?_
  refine .vreturn a9_83 rfl ?_
  exact ⟨rfl, rfl, rfl⟩
set_option maxHeartbeats 4000000 in
theorem au12_41 {Z : State} {a0 : Array Value} (hw : ∀ d ∈ tables_1, d.before a0 Z = true) (ρ : Nat → Nat) (n0 : Nat) (x0 : Int32) (x1 : Int32) (x2 : Int32) (x3 : Int32) (o2 : WObj) (o3 : WObj) (o5 : WObj) (o7 : WObj) (hx0 : ix4 x0) (hx1 : ix4 x1) (u : Nat) : WGo (g12 Z ρ n0 9 u) (0, [wI 4, wI 2], [], [(.inr (cn0, [(fk0, .ref 1), (fk1, .ref 2), (fk2, .ref 3)])), (wAI [.int 0, .int 0, .int 0, .int 0, .int 0]), o2, o3, (.inr (cn1, [(fk3, .ref 0), (fk4, .int 0), (fk5, .ref 5), (fk6, .ref 6), (fk7, .int 2), (fk8, .int 2)])), o5, (wAI [(.int x0), (.int x1), (.int x2), (.int x3)]), o7, (wAI [.int 0, .int 0])], u) (fun v σ' u' => v = some (.int 2) ∧ [(.inr (cn0, [(fk0, .ref 1), (fk1, .ref 2), (fk2, .ref 3)])), (wAI [.int 0, .int 0, .int 0, .int 0, .int 0]), o2, o3, (.inr (cn1, [(fk3, .ref 0), (fk4, .int 0), (fk5, .ref 5), (fk6, .ref 6), (fk7, .int 2), (fk8, .int 2)])), o5, (wAI [(.int x0), (.int x1), (.int x2), (.int x3)]), o7, (wAI [.int 0, .int 0])] = σ' ∧ u = u') := by
  refine .s (.iloadN a12_0 rfl) <| .s (.iloadN a12_1 rfl) <| .s (.icmpT a12_2 (by decide)) <| .s (.iloadN a12_9 rfl) ?_
  refine .ireturn .int a12_10 rfl (by simp) ?_
  exact ⟨rfl, rfl, rfl⟩
set_option maxHeartbeats 4000000 in
theorem au11_40 {Z : State} {a0 : Array Value} (hw : ∀ d ∈ tables_1, d.before a0 Z = true) (ρ : Nat → Nat) (n0 : Nat) (x0 : Int32) (x1 : Int32) (x2 : Int32) (x3 : Int32) (o2 : WObj) (o3 : WObj) (o5 : WObj) (o7 : WObj) (hx0 : ix4 x0) (hx1 : ix4 x1) (u : Nat) : WGo (g11 Z ρ n0 8 u) (0, [wR 6, wI 2, wU], [], [(.inr (cn0, [(fk0, .ref 1), (fk1, .ref 2), (fk2, .ref 3)])), (wAI [.int 0, .int 0, .int 0, .int 0, .int 0]), o2, o3, (.inr (cn1, [(fk3, .ref 0), (fk4, .int 0), (fk5, .ref 5), (fk6, .ref 6), (fk7, .int 2), (fk8, .int 2)])), o5, (wAI [(.int x0), (.int x1), (.int x2), (.int x3)]), o7], u) (fun v σ' u' => v = some (.ref 8) ∧ [(.inr (cn0, [(fk0, .ref 1), (fk1, .ref 2), (fk2, .ref 3)])), (wAI [.int 0, .int 0, .int 0, .int 0, .int 0]), o2, o3, (.inr (cn1, [(fk3, .ref 0), (fk4, .int 0), (fk5, .ref 5), (fk6, .ref 6), (fk7, .int 2), (fk8, .int 2)])), o5, (wAI [(.int x0), (.int x1), (.int x2), (.int x3)]), o7, (wAI [(.int x0), (.int x1)])] = σ' ∧ (u + 2) = u') := by
  refine .s (.iloadN a11_0 rfl) <| .s (.aloadN a11_1 rfl rfl) <| .s (.alen (4 : Int32) a11_2 rfl rfl) <| .s (.icmpT a11_3 (by decide)) <| .s (.iloadN a11_14 rfl) <| .s (.newP (k := 8) (2 : Int32) 2 a11_15 (wd hw 3 rfl) (by decide) rfl (by decide) rfl (by decide)) ?_
  show WGo _ (17, [wR 6, wI 2, wU], [.ref 8], [(.inr (cn0, [(fk0, .ref 1), (fk1, .ref 2), (fk2, .ref 3)])), (wAI [.int 0, .int 0, .int 0, .int 0, .int 0]), o2, o3, (.inr (cn1, [(fk3, .ref 0), (fk4, .int 0), (fk5, .ref 5), (fk6, .ref 6), (fk7, .int 2), (fk8, .int 2)])), o5, (wAI [(.int x0), (.int x1), (.int x2), (.int x3)]), o7, (wAI [.int 0, .int 0])], (u + 2)) _
  refine .s (.astoreN (L' := [wR 6, wI 2, wR 8]) a11_17 rfl rfl) <| .s (.aloadN a11_18 rfl rfl) <| .s (.iconst (0 : Int32) a11_19 rfl) <| .s (.aloadN a11_20 rfl rfl) <| .s (.iconst (0 : Int32) a11_21 rfl) <| .s (.aloadN a11_22 rfl rfl) <| .s (.alen (4 : Int32) a11_23 rfl rfl) ?_
  refine .s (.iloadN a11_24 rfl) ?_
  refine .callS a11_25 (ok12 hw _ _ _ _) (wd hw 73 rfl) (wd hw 74 rfl) (argsL := [.int 4, .int 2]) (S := [.int 0, .ref 8, .int 0, .ref 6]) (au12_41 hw _ _ x0 x1 x2 x3 o2 o3 o5 o7 hx0 hx1 _) rfl rfl rfl rfl rfl rfl (Nat.le_of_ble_eq_true rfl) (Nat.le_of_ble_eq_true rfl) ?_
  rintro _ _ _ ⟨rfl, rfl, rfl⟩
  show WGo _ (28, [wR 6, wI 2, wR 8], [.int 2, .int 0, .ref 8, .int 0, .ref 6], [(.inr (cn0, [(fk0, .ref 1), (fk1, .ref 2), (fk2, .ref 3)])), (wAI [.int 0, .int 0, .int 0, .int 0, .int 0]), o2, o3, (.inr (cn1, [(fk3, .ref 0), (fk4, .int 0), (fk5, .ref 5), (fk6, .ref 6), (fk7, .int 2), (fk8, .int 2)])), o5, (wAI [(.int x0), (.int x1), (.int x2), (.int x3)]), o7, (wAI [.int 0, .int 0])], (u + 2)) _
  refine .s (.copyA (vr := [(.int x0), (.int x1)]) a11_28 (wd hw 77 rfl) (wd hw 80 rfl) (wd hw 78 rfl) (wd hw 79 rfl) rfl rfl rfl (by decide) (by decide) (by decide) (Nat.le_of_ble_eq_true rfl) (Nat.le_of_ble_eq_true rfl) (Nat.le_of_ble_eq_true rfl) (Nat.le_of_ble_eq_true rfl) rfl rfl (Nat.le_of_ble_eq_true rfl) (Nat.le_of_ble_eq_true rfl)) ?_
  show WGo _ (31, [wR 6, wI 2, wR 8], [], [(.inr (cn0, [(fk0, .ref 1), (fk1, .ref 2), (fk2, .ref 3)])), (wAI [.int 0, .int 0, .int 0, .int 0, .int 0]), o2, o3, (.inr (cn1, [(fk3, .ref 0), (fk4, .int 0), (fk5, .ref 5), (fk6, .ref 6), (fk7, .int 2), (fk8, .int 2)])), o5, (wAI [(.int x0), (.int x1), (.int x2), (.int x3)]), o7, (wAI [(.int x0), (.int x1)])], (u + 2)) _
  refine .s (.aloadN a11_31 rfl rfl) ?_
  refine .areturn (.array .int) a11_32 rfl rfl rfl ?_
  exact ⟨rfl, rfl, rfl⟩
set_option maxHeartbeats 4000000 in
theorem au16_45 {Z : State} {a0 : Array Value} (hw : ∀ d ∈ tables_1, d.before a0 Z = true) (ρ : Nat → Nat) (n0 : Nat) (x0 : Int32) (x1 : Int32) (x2 : Int32) (x3 : Int32) (o2 : WObj) (o3 : WObj) (o5 : WObj) (o7 : WObj) (hx0 : ix4 x0) (hx1 : ix4 x1) (u : Nat) : WGo (g16 Z ρ n0 9 u) (0, [wR 8, wI 0, wI 2, wU, wU, wU], [], [(.inr (cn0, [(fk0, .ref 1), (fk1, .ref 2), (fk2, .ref 3)])), (wAI [.int 0, .int 0, .int 0, .int 0, .int 0]), o2, o3, (.inr (cn1, [(fk3, .ref 0), (fk4, .int 0), (fk5, .ref 5), (fk6, .ref 6), (fk7, .int 2), (fk8, .int 2)])), o5, (wAI [(.int x0), (.int x1), (.int x2), (.int x3)]), o7, (wAI [(.int x0), (.int x1)])], u) (fun v σ' u' => (¬ x1 < x0 ∧ v = none ∧ [(.inr (cn0, [(fk0, .ref 1), (fk1, .ref 2), (fk2, .ref 3)])), (wAI [.int 0, .int 0, .int 0, .int 0, .int 0]), o2, o3, (.inr (cn1, [(fk3, .ref 0), (fk4, .int 0), (fk5, .ref 5), (fk6, .ref 6), (fk7, .int 2), (fk8, .int 2)])), o5, (wAI [(.int x0), (.int x1), (.int x2), (.int x3)]), o7, (wAI [(.int x0), (.int x1)])] = σ' ∧ u = u') ∨ (x1 < x0 ∧ x1 < x0 ∧ v = none ∧ [(.inr (cn0, [(fk0, .ref 1), (fk1, .ref 2), (fk2, .ref 3)])), (wAI [.int 0, .int 0, .int 0, .int 0, .int 0]), o2, o3, (.inr (cn1, [(fk3, .ref 0), (fk4, .int 0), (fk5, .ref 5), (fk6, .ref 6), (fk7, .int 2), (fk8, .int 2)])), o5, (wAI [(.int x0), (.int x1), (.int x2), (.int x3)]), o7, (wAI [(.int x1), (.int x0)])] = σ' ∧ u = u')) := by
  refine .s (.iloadN a16_0 rfl) <| .s (.istore (L' := [wR 8, wI 0, wI 2, wU, wI 0, wU]) a16_1 rfl) <| .s (.iinc (L' := [wR 8, wI 0, wI 2, wU, wI 1, wU]) a16_3 rfl rfl) <| .s (.iload a16_6 rfl) <| .s (.iloadN a16_8 rfl) <| .s (.icmpF a16_9 (by decide)) <| .s (.aloadN a16_12 rfl rfl) ?_
  refine .s (.iload a16_13 rfl) <| .s (.dup a16_15 rfl) <| .s (.istoreN (L' := [wR 8, wI 0, wI 2, wI 1, wI 1, wU]) a16_16 rfl) <| .s (.iaload 1 a16_17 rfl (by decide) rfl rfl) <| .s (.istore (L' := [wR 8, wI 0, wI 2, wI 1, wI 1, wI x1]) a16_18 rfl) <| .s (.iload a16_20 rfl) <| .s (.aloadN a16_22 rfl rfl) ?_
  refine .s (.iloadN a16_23 rfl) <| .s (.iconst (1 : Int32) a16_24 rfl) <| .s (.isub a16_25) ?_
  show WGo _ (26, [wR 8, wI 0, wI 2, wI 1, wI 1, wI x1], [.int 0, .ref 8, (.int x1)], [(.inr (cn0, [(fk0, .ref 1), (fk1, .ref 2), (fk2, .ref 3)])), (wAI [.int 0, .int 0, .int 0, .int 0, .int 0]), o2, o3, (.inr (cn1, [(fk3, .ref 0), (fk4, .int 0), (fk5, .ref 5), (fk6, .ref 6), (fk7, .int 2), (fk8, .int 2)])), o5, (wAI [(.int x0), (.int x1), (.int x2), (.int x3)]), o7, (wAI [(.int x0), (.int x1)])], u) _
  refine .s (.iaload 0 a16_26 rfl (by decide) rfl rfl) ?_
  refine .ge a16_27 (fun h27 => ?_) (fun h27 => ?_)
  · refine .s (.goto a16_64) <| .s (.iinc (L' := [wR 8, wI 0, wI 2, wI 1, wI 2, wI x1]) a16_3 rfl rfl) <| .s (.iload a16_6 rfl) <| .s (.iloadN a16_8 rfl) <| .s (.icmpT a16_9 (by decide)) ?_
    refine .vreturn a16_67 rfl ?_
    exact Or.inl ⟨h27, rfl, rfl, rfl⟩
  · refine .s (.iinc (L' := [wR 8, wI 0, wI 2, wI 0, wI 1, wI x1]) a16_30 rfl rfl) <| .s (.iloadN a16_33 rfl) <| .s (.iloadN a16_34 rfl) <| .s (.icmpF a16_35 (by decide)) <| .s (.iload a16_38 rfl) <| .s (.aloadN a16_40 rfl rfl) <| .s (.iloadN a16_41 rfl) ?_
    refine .s (.iaload 0 a16_42 rfl (by decide) rfl rfl) ?_
    refine .ge a16_43 (fun h43 => ?_) (fun h43 => ?_)
    · exfalso
      simp only [Int32.lt_iff_toInt_lt, Int64.lt_iff_toInt_lt, ← Int32.toInt_inj, ← Int64.toInt_inj, Int32.reduceToInt, Int64.reduceToInt] at *
      omega
    · refine .s (.aloadN a16_46 rfl rfl) <| .s (.iloadN a16_47 rfl) <| .s (.iconst (1 : Int32) a16_48 rfl) <| .s (.iadd a16_49) ?_
      show WGo _ (50, [wR 8, wI 0, wI 2, wI 0, wI 1, wI x1], [.int 1, .ref 8], [(.inr (cn0, [(fk0, .ref 1), (fk1, .ref 2), (fk2, .ref 3)])), (wAI [.int 0, .int 0, .int 0, .int 0, .int 0]), o2, o3, (.inr (cn1, [(fk3, .ref 0), (fk4, .int 0), (fk5, .ref 5), (fk6, .ref 6), (fk7, .int 2), (fk8, .int 2)])), o5, (wAI [(.int x0), (.int x1), (.int x2), (.int x3)]), o7, (wAI [(.int x0), (.int x1)])], u) _
      refine .s (.aloadN a16_50 rfl rfl) <| .s (.iloadN a16_51 rfl) <| .s (.iaload 0 a16_52 rfl (by decide) rfl rfl) <| .s (.iastore 1 a16_53 rfl (by decide) rfl (Nat.le_of_ble_eq_true rfl)) ?_
      show WGo _ (54, [wR 8, wI 0, wI 2, wI 0, wI 1, wI x1], [], [(.inr (cn0, [(fk0, .ref 1), (fk1, .ref 2), (fk2, .ref 3)])), (wAI [.int 0, .int 0, .int 0, .int 0, .int 0]), o2, o3, (.inr (cn1, [(fk3, .ref 0), (fk4, .int 0), (fk5, .ref 5), (fk6, .ref 6), (fk7, .int 2), (fk8, .int 2)])), o5, (wAI [(.int x0), (.int x1), (.int x2), (.int x3)]), o7, (wAI [(.int x0), (.int x0)])], u) _
      refine .s (.goto a16_54) <| .s (.iinc (L' := [wR 8, wI 0, wI 2, wI (-1), wI 1, wI x1]) a16_30 rfl rfl) <| .s (.iloadN a16_33 rfl) <| .s (.iloadN a16_34 rfl) <| .s (.icmpT a16_35 (by decide)) <| .s (.aloadN a16_57 rfl rfl) <| .s (.iloadN a16_58 rfl) ?_
      refine .s (.iconst (1 : Int32) a16_59 rfl) <| .s (.iadd a16_60) ?_
      show WGo _ (61, [wR 8, wI 0, wI 2, wI (-1), wI 1, wI x1], [.int 0, .ref 8], [(.inr (cn0, [(fk0, .ref 1), (fk1, .ref 2), (fk2, .ref 3)])), (wAI [.int 0, .int 0, .int 0, .int 0, .int 0]), o2, o3, (.inr (cn1, [(fk3, .ref 0), (fk4, .int 0), (fk5, .ref 5), (fk6, .ref 6), (fk7, .int 2), (fk8, .int 2)])), o5, (wAI [(.int x0), (.int x1), (.int x2), (.int x3)]), o7, (wAI [(.int x0), (.int x0)])], u) _
      refine .s (.iload a16_61 rfl) <| .s (.iastore 0 a16_63 rfl (by decide) rfl (Nat.le_of_ble_eq_true rfl)) ?_
      show WGo _ (64, [wR 8, wI 0, wI 2, wI (-1), wI 1, wI x1], [], [(.inr (cn0, [(fk0, .ref 1), (fk1, .ref 2), (fk2, .ref 3)])), (wAI [.int 0, .int 0, .int 0, .int 0, .int 0]), o2, o3, (.inr (cn1, [(fk3, .ref 0), (fk4, .int 0), (fk5, .ref 5), (fk6, .ref 6), (fk7, .int 2), (fk8, .int 2)])), o5, (wAI [(.int x0), (.int x1), (.int x2), (.int x3)]), o7, (wAI [(.int x1), (.int x0)])], u) _
      refine .s (.goto a16_64) <| .s (.iinc (L' := [wR 8, wI 0, wI 2, wI (-1), wI 2, wI x1]) a16_3 rfl rfl) <| .s (.iload a16_6 rfl) <| .s (.iloadN a16_8 rfl) <| .s (.icmpT a16_9 (by decide)) ?_
      refine .vreturn a16_67 rfl ?_
      exact Or.inr (⟨h27, h43, rfl, rfl, rfl⟩)
set_option maxHeartbeats 4000000 in
theorem au15_44 {Z : State} {a0 : Array Value} (hw : ∀ d ∈ tables_1, d.before a0 Z = true) (ρ : Nat → Nat) (n0 : Nat) (x0 : Int32) (x1 : Int32) (x2 : Int32) (x3 : Int32) (o2 : WObj) (o3 : WObj) (o5 : WObj) (o7 : WObj) (hx0 : ix4 x0) (hx1 : ix4 x1) (u : Nat) : WGo (g15 Z ρ n0 9 u) (0, [wN, wR 8, wI 0, wI 0, wI 2, wU, wU, wU, wU, wU, wU, wU, wU, wU, wU, wU, wU, wU, wU, wU, wU], [], [(.inr (cn0, [(fk0, .ref 1), (fk1, .ref 2), (fk2, .ref 3)])), (wAI [.int 0, .int 0, .int 0, .int 0, .int 0]), o2, o3, (.inr (cn1, [(fk3, .ref 0), (fk4, .int 0), (fk5, .ref 5), (fk6, .ref 6), (fk7, .int 2), (fk8, .int 2)])), o5, (wAI [(.int x0), (.int x1), (.int x2), (.int x3)]), o7, (wAI [(.int x0), (.int x1)])], u) (fun v σ' u' => (¬ x1 < x0 ∧ v = none ∧ [(.inr (cn0, [(fk0, .ref 1), (fk1, .ref 2), (fk2, .ref 3)])), (wAI [.int 0, .int 0, .int 0, .int 0, .int 0]), o2, o3, (.inr (cn1, [(fk3, .ref 0), (fk4, .int 0), (fk5, .ref 5), (fk6, .ref 6), (fk7, .int 2), (fk8, .int 2)])), o5, (wAI [(.int x0), (.int x1), (.int x2), (.int x3)]), o7, (wAI [(.int x0), (.int x1)])] = σ' ∧ u = u') ∨ (x1 < x0 ∧ x1 < x0 ∧ v = none ∧ [(.inr (cn0, [(fk0, .ref 1), (fk1, .ref 2), (fk2, .ref 3)])), (wAI [.int 0, .int 0, .int 0, .int 0, .int 0]), o2, o3, (.inr (cn1, [(fk3, .ref 0), (fk4, .int 0), (fk5, .ref 5), (fk6, .ref 6), (fk7, .int 2), (fk8, .int 2)])), o5, (wAI [(.int x0), (.int x1), (.int x2), (.int x3)]), o7, (wAI [(.int x1), (.int x0)])] = σ' ∧ u = u')) := by
  refine .s (.iload a15_0 rfl) <| .s (.iconst (1 : Int32) a15_2 rfl) <| .s (.isub a15_3) ?_
  show WGo _ (4, [wN, wR 8, wI 0, wI 0, wI 2, wU, wU, wU, wU, wU, wU, wU, wU, wU, wU, wU, wU, wU, wU, wU, wU], [.int 1], [(.inr (cn0, [(fk0, .ref 1), (fk1, .ref 2), (fk2, .ref 3)])), (wAI [.int 0, .int 0, .int 0, .int 0, .int 0]), o2, o3, (.inr (cn1, [(fk3, .ref 0), (fk4, .int 0), (fk5, .ref 5), (fk6, .ref 6), (fk7, .int 2), (fk8, .int 2)])), o5, (wAI [(.int x0), (.int x1), (.int x2), (.int x3)]), o7, (wAI [(.int x0), (.int x1)])], u) _
  refine .s (.istore (L' := [wN, wR 8, wI 0, wI 0, wI 2, wI 1, wU, wU, wU, wU, wU, wU, wU, wU, wU, wU, wU, wU, wU, wU, wU]) a15_4 rfl) <| .s (.iload a15_6 rfl) <| .s (.iloadN a15_8 rfl) <| .s (.isub a15_9) ?_
  show WGo _ (10, [wN, wR 8, wI 0, wI 0, wI 2, wI 1, wU, wU, wU, wU, wU, wU, wU, wU, wU, wU, wU, wU, wU, wU, wU], [.int 2], [(.inr (cn0, [(fk0, .ref 1), (fk1, .ref 2), (fk2, .ref 3)])), (wAI [.int 0, .int 0, .int 0, .int 0, .int 0]), o2, o3, (.inr (cn1, [(fk3, .ref 0), (fk4, .int 0), (fk5, .ref 5), (fk6, .ref 6), (fk7, .int 2), (fk8, .int 2)])), o5, (wAI [(.int x0), (.int x1), (.int x2), (.int x3)]), o7, (wAI [(.int x0), (.int x1)])], u) _
  refine .s (.istore (L' := [wN, wR 8, wI 0, wI 0, wI 2, wI 1, wI 2, wU, wU, wU, wU, wU, wU, wU, wU, wU, wU, wU, wU, wU, wU]) a15_10 rfl) <| .s (.iload a15_12 rfl) <| .s (.bipush (65 : Int32) a15_14 rfl) <| .s (.iloadN a15_16 rfl) <| .s (.iadd a15_17) ?_
  show WGo _ (18, [wN, wR 8, wI 0, wI 0, wI 2, wI 1, wI 2, wU, wU, wU, wU, wU, wU, wU, wU, wU, wU, wU, wU, wU, wU], [.int 65, .int 2], [(.inr (cn0, [(fk0, .ref 1), (fk1, .ref 2), (fk2, .ref 3)])), (wAI [.int 0, .int 0, .int 0, .int 0, .int 0]), o2, o3, (.inr (cn1, [(fk3, .ref 0), (fk4, .int 0), (fk5, .ref 5), (fk6, .ref 6), (fk7, .int 2), (fk8, .int 2)])), o5, (wAI [(.int x0), (.int x1), (.int x2), (.int x3)]), o7, (wAI [(.int x0), (.int x1)])], u) _
  refine .s (.icmpF a15_18 (by decide)) <| .s (.iloadN a15_21 rfl) <| .s (.iconst (1 : Int32) a15_22 rfl) <| .s (.iand a15_23) ?_
  show WGo _ (24, [wN, wR 8, wI 0, wI 0, wI 2, wI 1, wI 2, wU, wU, wU, wU, wU, wU, wU, wU, wU, wU, wU, wU, wU, wU], [.int 0], [(.inr (cn0, [(fk0, .ref 1), (fk1, .ref 2), (fk2, .ref 3)])), (wAI [.int 0, .int 0, .int 0, .int 0, .int 0]), o2, o3, (.inr (cn1, [(fk3, .ref 0), (fk4, .int 0), (fk5, .ref 5), (fk6, .ref 6), (fk7, .int 2), (fk8, .int 2)])), o5, (wAI [(.int x0), (.int x1), (.int x2), (.int x3)]), o7, (wAI [(.int x0), (.int x1)])], u) _
  refine .s (.ifT a15_24 (by decide)) <| .s (.iload a15_46 rfl) <| .s (.bipush (44 : Int32) a15_48 rfl) <| .s (.icmpF a15_50 (by decide)) <| .s (.aloadN a15_53 rfl rfl) <| .s (.iloadN a15_54 rfl) <| .s (.iload a15_55 rfl) ?_
  refine .callS a15_57 (ok16 hw _ _ _ _) (wd hw 91 rfl) (wd hw 92 rfl) (argsL := [.ref 8, .int 0, .int 2]) (S := []) (au16_45 hw _ _ x0 x1 x2 x3 o2 o3 o5 o7 hx0 hx1 _) rfl rfl rfl rfl rfl rfl (Nat.le_of_ble_eq_true rfl) (Nat.le_of_ble_eq_true rfl) ?_
  rintro _ _ _ (⟨q105, rfl, rfl, rfl⟩ | ⟨q106, q107, rfl, rfl, rfl⟩)
  · skip
    show WGo _ (60, [wN, wR 8, wI 0, wI 0, wI 2, wI 1, wI 2, wU, wU, wU, wU, wU, wU, wU, wU, wU, wU, wU, wU, wU, wU], [], [(.inr (cn0, [(fk0, .ref 1), (fk1, .ref 2), (fk2, .ref 3)])), (wAI [.int 0, .int 0, .int 0, .int 0, .int 0]), o2, o3, (.inr (cn1, [(fk3, .ref 0), (fk4, .int 0), (fk5, .ref 5), (fk6, .ref 6), (fk7, .int 2), (fk8, .int 2)])), o5, (wAI [(.int x0), (.int x1), (.int x2), (.int x3)]), o7, (wAI [(.int x0), (.int x1)])], u) _
    refine .vreturn a15_60 rfl ?_
    exact Or.inl ⟨q105, rfl, rfl, rfl⟩
  · skip
    show WGo _ (60, [wN, wR 8, wI 0, wI 0, wI 2, wI 1, wI 2, wU, wU, wU, wU, wU, wU, wU, wU, wU, wU, wU, wU, wU, wU], [], [(.inr (cn0, [(fk0, .ref 1), (fk1, .ref 2), (fk2, .ref 3)])), (wAI [.int 0, .int 0, .int 0, .int 0, .int 0]), o2, o3, (.inr (cn1, [(fk3, .ref 0), (fk4, .int 0), (fk5, .ref 5), (fk6, .ref 6), (fk7, .int 2), (fk8, .int 2)])), o5, (wAI [(.int x0), (.int x1), (.int x2), (.int x3)]), o7, (wAI [(.int x1), (.int x0)])], u) _
    refine .vreturn a15_60 rfl ?_
    exact Or.inr (⟨q106, q107, rfl, rfl, rfl⟩)
set_option maxHeartbeats 4000000 in
theorem au14_43 {Z : State} {a0 : Array Value} (hw : ∀ d ∈ tables_1, d.before a0 Z = true) (ρ : Nat → Nat) (n0 : Nat) (x0 : Int32) (x1 : Int32) (x2 : Int32) (x3 : Int32) (o2 : WObj) (o3 : WObj) (o5 : WObj) (o7 : WObj) (hx0 : ix4 x0) (hx1 : ix4 x1) (u : Nat) : WGo (g14 Z ρ n0 9 u) (0, [wR 8, wI 0, wI 0, wI 2, wU, wU, wU], [], [(.inr (cn0, [(fk0, .ref 1), (fk1, .ref 2), (fk2, .ref 3)])), (wAI [.int 0, .int 0, .int 0, .int 0, .int 0]), o2, o3, (.inr (cn1, [(fk3, .ref 0), (fk4, .int 0), (fk5, .ref 5), (fk6, .ref 6), (fk7, .int 2), (fk8, .int 2)])), o5, (wAI [(.int x0), (.int x1), (.int x2), (.int x3)]), o7, (wAI [(.int x0), (.int x1)])], u) (fun v σ' u' => (¬ x1 < x0 ∧ v = none ∧ [(.inr (cn0, [(fk0, .ref 1), (fk1, .ref 2), (fk2, .ref 3)])), (wAI [.int 0, .int 0, .int 0, .int 0, .int 0]), o2, o3, (.inr (cn1, [(fk3, .ref 0), (fk4, .int 0), (fk5, .ref 5), (fk6, .ref 6), (fk7, .int 2), (fk8, .int 2)])), o5, (wAI [(.int x0), (.int x1), (.int x2), (.int x3)]), o7, (wAI [(.int x0), (.int x1)])] = σ' ∧ u = u') ∨ (x1 < x0 ∧ x1 < x0 ∧ v = none ∧ [(.inr (cn0, [(fk0, .ref 1), (fk1, .ref 2), (fk2, .ref 3)])), (wAI [.int 0, .int 0, .int 0, .int 0, .int 0]), o2, o3, (.inr (cn1, [(fk3, .ref 0), (fk4, .int 0), (fk5, .ref 5), (fk6, .ref 6), (fk7, .int 2), (fk8, .int 2)])), o5, (wAI [(.int x0), (.int x1), (.int x2), (.int x3)]), o7, (wAI [(.int x1), (.int x0)])] = σ' ∧ u = u')) := by
  refine .s (.iloadN a14_0 rfl) <| .s (.iloadN a14_1 rfl) <| .s (.isub a14_2) ?_
  show WGo _ (3, [wR 8, wI 0, wI 0, wI 2, wU, wU, wU], [.int 2], [(.inr (cn0, [(fk0, .ref 1), (fk1, .ref 2), (fk2, .ref 3)])), (wAI [.int 0, .int 0, .int 0, .int 0, .int 0]), o2, o3, (.inr (cn1, [(fk3, .ref 0), (fk4, .int 0), (fk5, .ref 5), (fk6, .ref 6), (fk7, .int 2), (fk8, .int 2)])), o5, (wAI [(.int x0), (.int x1), (.int x2), (.int x3)]), o7, (wAI [(.int x0), (.int x1)])], u) _
  refine .s (.istore (L' := [wR 8, wI 0, wI 0, wI 2, wI 2, wU, wU]) a14_3 rfl) <| .s (.iloadN a14_5 rfl) <| .s (.iconst (1 : Int32) a14_6 rfl) <| .s (.icmpT a14_7 (by decide)) <| .s (.aconstNull a14_68) <| .s (.aloadN a14_69 rfl rfl) <| .s (.iconst (0 : Int32) a14_70 rfl) ?_
  refine .s (.iloadN a14_71 rfl) <| .s (.iloadN a14_72 rfl) ?_
  refine .callS a14_73 (ok15 hw _ _ _ _) (wd hw 88 rfl) (wd hw 89 rfl) (argsL := [.null, .ref 8, .int 0, .int 0, .int 2]) (S := []) (au15_44 hw _ _ x0 x1 x2 x3 o2 o3 o5 o7 hx0 hx1 _) rfl rfl rfl rfl rfl rfl (Nat.le_of_ble_eq_true rfl) (Nat.le_of_ble_eq_true rfl) ?_
  rintro _ _ _ (⟨q108, rfl, rfl, rfl⟩ | ⟨q109, q110, rfl, rfl, rfl⟩)
  · skip
    show WGo _ (76, [wR 8, wI 0, wI 0, wI 2, wI 2, wU, wU], [], [(.inr (cn0, [(fk0, .ref 1), (fk1, .ref 2), (fk2, .ref 3)])), (wAI [.int 0, .int 0, .int 0, .int 0, .int 0]), o2, o3, (.inr (cn1, [(fk3, .ref 0), (fk4, .int 0), (fk5, .ref 5), (fk6, .ref 6), (fk7, .int 2), (fk8, .int 2)])), o5, (wAI [(.int x0), (.int x1), (.int x2), (.int x3)]), o7, (wAI [(.int x0), (.int x1)])], u) _
    refine .vreturn a14_76 rfl ?_
    exact Or.inl ⟨q108, rfl, rfl, rfl⟩
  · skip
    show WGo _ (76, [wR 8, wI 0, wI 0, wI 2, wI 2, wU, wU], [], [(.inr (cn0, [(fk0, .ref 1), (fk1, .ref 2), (fk2, .ref 3)])), (wAI [.int 0, .int 0, .int 0, .int 0, .int 0]), o2, o3, (.inr (cn1, [(fk3, .ref 0), (fk4, .int 0), (fk5, .ref 5), (fk6, .ref 6), (fk7, .int 2), (fk8, .int 2)])), o5, (wAI [(.int x0), (.int x1), (.int x2), (.int x3)]), o7, (wAI [(.int x1), (.int x0)])], u) _
    refine .vreturn a14_76 rfl ?_
    exact Or.inr (⟨q109, q110, rfl, rfl, rfl⟩)
set_option maxHeartbeats 4000000 in
theorem au13_42 {Z : State} {a0 : Array Value} (hw : ∀ d ∈ tables_1, d.before a0 Z = true) (ρ : Nat → Nat) (n0 : Nat) (x0 : Int32) (x1 : Int32) (x2 : Int32) (x3 : Int32) (o2 : WObj) (o3 : WObj) (o5 : WObj) (o7 : WObj) (hx0 : ix4 x0) (hx1 : ix4 x1) (u : Nat) : WGo (g13 Z ρ n0 9 u) (0, [wR 8], [], [(.inr (cn0, [(fk0, .ref 1), (fk1, .ref 2), (fk2, .ref 3)])), (wAI [.int 0, .int 0, .int 0, .int 0, .int 0]), o2, o3, (.inr (cn1, [(fk3, .ref 0), (fk4, .int 0), (fk5, .ref 5), (fk6, .ref 6), (fk7, .int 2), (fk8, .int 2)])), o5, (wAI [(.int x0), (.int x1), (.int x2), (.int x3)]), o7, (wAI [(.int x0), (.int x1)])], u) (fun v σ' u' => (¬ x1 < x0 ∧ v = none ∧ [(.inr (cn0, [(fk0, .ref 1), (fk1, .ref 2), (fk2, .ref 3)])), (wAI [.int 0, .int 0, .int 0, .int 0, .int 0]), o2, o3, (.inr (cn1, [(fk3, .ref 0), (fk4, .int 0), (fk5, .ref 5), (fk6, .ref 6), (fk7, .int 2), (fk8, .int 2)])), o5, (wAI [(.int x0), (.int x1), (.int x2), (.int x3)]), o7, (wAI [(.int x0), (.int x1)])] = σ' ∧ u = u') ∨ (x1 < x0 ∧ x1 < x0 ∧ v = none ∧ [(.inr (cn0, [(fk0, .ref 1), (fk1, .ref 2), (fk2, .ref 3)])), (wAI [.int 0, .int 0, .int 0, .int 0, .int 0]), o2, o3, (.inr (cn1, [(fk3, .ref 0), (fk4, .int 0), (fk5, .ref 5), (fk6, .ref 6), (fk7, .int 2), (fk8, .int 2)])), o5, (wAI [(.int x0), (.int x1), (.int x2), (.int x3)]), o7, (wAI [(.int x1), (.int x0)])] = σ' ∧ u = u')) := by
  refine .s (.aloadN a13_0 rfl rfl) <| .s (.iconst (0 : Int32) a13_1 rfl) <| .s (.iconst (0 : Int32) a13_2 rfl) <| .s (.aloadN a13_3 rfl rfl) <| .s (.alen (2 : Int32) a13_4 rfl rfl) ?_
  refine .callS a13_5 (ok14 hw _ _ _ _) (wd hw 84 rfl) (wd hw 85 rfl) (argsL := [.ref 8, .int 0, .int 0, .int 2]) (S := []) (au14_43 hw _ _ x0 x1 x2 x3 o2 o3 o5 o7 hx0 hx1 _) rfl rfl rfl rfl rfl rfl (Nat.le_of_ble_eq_true rfl) (Nat.le_of_ble_eq_true rfl) ?_
  rintro _ _ _ (⟨q111, rfl, rfl, rfl⟩ | ⟨q112, q113, rfl, rfl, rfl⟩)
  · skip
    show WGo _ (8, [wR 8], [], [(.inr (cn0, [(fk0, .ref 1), (fk1, .ref 2), (fk2, .ref 3)])), (wAI [.int 0, .int 0, .int 0, .int 0, .int 0]), o2, o3, (.inr (cn1, [(fk3, .ref 0), (fk4, .int 0), (fk5, .ref 5), (fk6, .ref 6), (fk7, .int 2), (fk8, .int 2)])), o5, (wAI [(.int x0), (.int x1), (.int x2), (.int x3)]), o7, (wAI [(.int x0), (.int x1)])], u) _
    refine .vreturn a13_8 rfl ?_
    exact Or.inl ⟨q111, rfl, rfl, rfl⟩
  · skip
    show WGo _ (8, [wR 8], [], [(.inr (cn0, [(fk0, .ref 1), (fk1, .ref 2), (fk2, .ref 3)])), (wAI [.int 0, .int 0, .int 0, .int 0, .int 0]), o2, o3, (.inr (cn1, [(fk3, .ref 0), (fk4, .int 0), (fk5, .ref 5), (fk6, .ref 6), (fk7, .int 2), (fk8, .int 2)])), o5, (wAI [(.int x0), (.int x1), (.int x2), (.int x3)]), o7, (wAI [(.int x1), (.int x0)])], u) _
    refine .vreturn a13_8 rfl ?_
    exact Or.inr (⟨q112, q113, rfl, rfl, rfl⟩)
set_option maxHeartbeats 4000000 in
theorem au8_37 {Z : State} {a0 : Array Value} (hw : ∀ d ∈ tables_1, d.before a0 Z = true) (ρ : Nat → Nat) (n0 : Nat) (x0 : Int32) (x1 : Int32) (x2 : Int32) (x3 : Int32) (o2 : WObj) (o3 : WObj) (o5 : WObj) (o7 : WObj) (hx0 : ix4 x0) (hx1 : ix4 x1) (u : Nat) : WGo (g8 Z ρ n0 8 u) (0, [wR 4, wU], [], [(.inr (cn0, [(fk0, .ref 1), (fk1, .ref 2), (fk2, .ref 3)])), (wAI [.int 0, .int 0, .int 0, .int 0, .int 0]), o2, o3, (.inr (cn1, [(fk3, .ref 0), (fk4, .int 0), (fk5, .ref 5), (fk6, .ref 6), (fk7, .int 2), (fk8, .int 2)])), o5, (wAI [(.int x0), (.int x1), (.int x2), (.int x3)]), o7], u) (fun v σ' u' => (¬ x1 < x0 ∧ v = some (.ref 8) ∧ [(.inr (cn0, [(fk0, .ref 1), (fk1, .ref 2), (fk2, .ref 3)])), (wAI [.int 0, .int 0, .int 0, .int 0, .int 0]), o2, o3, (.inr (cn1, [(fk3, .ref 0), (fk4, .int 0), (fk5, .ref 5), (fk6, .ref 6), (fk7, .int 2), (fk8, .int 2)])), o5, (wAI [(.int x0), (.int x1), (.int x2), (.int x3)]), o7, (wAI [(.int x0), (.int x1)])] = σ' ∧ (u + 2) = u') ∨ (x1 < x0 ∧ x1 < x0 ∧ v = some (.ref 8) ∧ [(.inr (cn0, [(fk0, .ref 1), (fk1, .ref 2), (fk2, .ref 3)])), (wAI [.int 0, .int 0, .int 0, .int 0, .int 0]), o2, o3, (.inr (cn1, [(fk3, .ref 0), (fk4, .int 0), (fk5, .ref 5), (fk6, .ref 6), (fk7, .int 2), (fk8, .int 2)])), o5, (wAI [(.int x0), (.int x1), (.int x2), (.int x3)]), o7, (wAI [(.int x1), (.int x0)])] = σ' ∧ (u + 2) = u')) := by
  refine .s (.aloadN a8_0 rfl rfl) ?_
  refine .callP (k := 4) a8_1 (ok9 hw _ _ _ _) (wd hw 60 rfl) (wd hw 61 rfl) (selP (wd hw 22 rfl) (wd hw 61 rfl) (wd hw 62 rfl) (by decide)) (wd hw 62 rfl) rfl (argsL := []) (S := []) (au9_38 hw _ _ x0 x1 x2 x3 o2 o3 o5 o7 hx0 hx1 _) rfl rfl rfl rfl rfl rfl (Nat.le_of_ble_eq_true rfl) (Nat.le_of_ble_eq_true rfl) ?_
  rintro _ _ _ ⟨rfl, rfl, rfl⟩
  show WGo _ (4, [wR 4, wU], [], [(.inr (cn0, [(fk0, .ref 1), (fk1, .ref 2), (fk2, .ref 3)])), (wAI [.int 0, .int 0, .int 0, .int 0, .int 0]), o2, o3, (.inr (cn1, [(fk3, .ref 0), (fk4, .int 0), (fk5, .ref 5), (fk6, .ref 6), (fk7, .int 2), (fk8, .int 2)])), o5, (wAI [(.int x0), (.int x1), (.int x2), (.int x3)]), o7], u) _
  refine .s (.aloadN a8_4 rfl rfl) <| .s (.getF 3 a8_5 (wd hw 39 rfl) rfl rfl) <| .s (.aloadN a8_8 rfl rfl) <| .s (.getF 5 a8_9 (wd hw 48 rfl) rfl rfl) ?_
  refine .callS a8_12 (ok11 hw _ _ _ _) (wd hw 69 rfl) (wd hw 70 rfl) (argsL := [.ref 6, .int 2]) (S := []) (au11_40 hw _ _ x0 x1 x2 x3 o2 o3 o5 o7 hx0 hx1 _) rfl rfl rfl rfl rfl rfl (Nat.le_of_ble_eq_true rfl) (Nat.le_of_ble_eq_true rfl) ?_
  rintro _ _ _ ⟨rfl, rfl, rfl⟩
  show WGo _ (15, [wR 4, wU], [.ref 8], [(.inr (cn0, [(fk0, .ref 1), (fk1, .ref 2), (fk2, .ref 3)])), (wAI [.int 0, .int 0, .int 0, .int 0, .int 0]), o2, o3, (.inr (cn1, [(fk3, .ref 0), (fk4, .int 0), (fk5, .ref 5), (fk6, .ref 6), (fk7, .int 2), (fk8, .int 2)])), o5, (wAI [(.int x0), (.int x1), (.int x2), (.int x3)]), o7, (wAI [(.int x0), (.int x1)])], (u + 2)) _
  refine .s (.astoreN (L' := [wR 4, wR 8]) a8_15 rfl rfl) <| .s (.aloadN a8_16 rfl rfl) ?_
  refine .callS a8_17 (ok13 hw _ _ _ _) (wd hw 81 rfl) (wd hw 82 rfl) (argsL := [.ref 8]) (S := []) (au13_42 hw _ _ x0 x1 x2 x3 o2 o3 o5 o7 hx0 hx1 _) rfl rfl rfl rfl rfl rfl (Nat.le_of_ble_eq_true rfl) (Nat.le_of_ble_eq_true rfl) ?_
  rintro _ _ _ (⟨q114, rfl, rfl, rfl⟩ | ⟨q115, q116, rfl, rfl, rfl⟩)
  · skip
    show WGo _ (20, [wR 4, wR 8], [], [(.inr (cn0, [(fk0, .ref 1), (fk1, .ref 2), (fk2, .ref 3)])), (wAI [.int 0, .int 0, .int 0, .int 0, .int 0]), o2, o3, (.inr (cn1, [(fk3, .ref 0), (fk4, .int 0), (fk5, .ref 5), (fk6, .ref 6), (fk7, .int 2), (fk8, .int 2)])), o5, (wAI [(.int x0), (.int x1), (.int x2), (.int x3)]), o7, (wAI [(.int x0), (.int x1)])], (u + 2)) _
    refine .s (.aloadN a8_20 rfl rfl) ?_
    refine .areturn (.array .int) a8_21 rfl rfl rfl ?_
    exact Or.inl ⟨q114, rfl, rfl, rfl⟩
  · skip
    show WGo _ (20, [wR 4, wR 8], [], [(.inr (cn0, [(fk0, .ref 1), (fk1, .ref 2), (fk2, .ref 3)])), (wAI [.int 0, .int 0, .int 0, .int 0, .int 0]), o2, o3, (.inr (cn1, [(fk3, .ref 0), (fk4, .int 0), (fk5, .ref 5), (fk6, .ref 6), (fk7, .int 2), (fk8, .int 2)])), o5, (wAI [(.int x0), (.int x1), (.int x2), (.int x3)]), o7, (wAI [(.int x1), (.int x0)])], (u + 2)) _
    refine .s (.aloadN a8_20 rfl rfl) ?_
    refine .areturn (.array .int) a8_21 rfl rfl rfl ?_
    exact Or.inr (⟨q115, q116, rfl, rfl, rfl⟩)
theorem ccl_2_1 {Z : State} {a0 : Array Value} (hw : ∀ d ∈ tables_1, d.before a0 Z = true) (ρ : Nat → Nat) (n0 : Nat) (o2 o3 o5 o7 : WObj) (x0 x1 x2 x3 : Int32) (hx0 : ix4 x0) (hx1 : ix4 x1) (u : Nat) : WGo (g8 Z ρ n0 8 u) (0, [wR 4, wU], [], [(.inr (cn0, [(fk0, .ref 1), (fk1, .ref 2), (fk2, .ref 3)])), (wAI [.int 0, .int 0, .int 0, .int 0, .int 0]), o2, o3, (.inr (cn1, [(fk3, .ref 0), (fk4, .int 0), (fk5, .ref 5), (fk6, .ref 6), (fk7, .int 2), (fk8, .int 2)])), o5, (wAI [(.int x0), (.int x1), (.int x2), (.int x3)]), o7], u) (fun v σ' u' => ∃ R : List Int32, Srt2 R x0 x1 ∧ v = some (.ref 8) ∧ [(.inr (cn0, [(fk0, .ref 1), (fk1, .ref 2), (fk2, .ref 3)])), (wAI [.int 0, .int 0, .int 0, .int 0, .int 0]), o2, o3, (.inr (cn1, [(fk3, .ref 0), (fk4, .int 0), (fk5, .ref 5), (fk6, .ref 6), (fk7, .int 2), (fk8, .int 2)])), o5, (wAI [(.int x0), (.int x1), (.int x2), (.int x3)]), o7, (wAI (ia R))] = σ' ∧ u + 2 = u') := by
  refine .mono (au8_37 hw ρ n0 x0 x1 x2 x3 o2 o3 o5 o7 hx0 hx1 u) ?_
  rintro _ _ _ (⟨p0, rfl, rfl, rfl⟩ | ⟨p0, p1, rfl, rfl, rfl⟩)
  · exact ⟨[x0, x1], ⟨_, _, rfl, (by simp only [Int32.lt_iff_toInt_lt] at *; omega), Or.inl ⟨rfl, rfl⟩⟩, rfl, rfl, rfl⟩
  · exact ⟨[x1, x0], ⟨_, _, rfl, (by simp only [Int32.lt_iff_toInt_lt] at *; omega), Or.inr (⟨rfl, rfl⟩)⟩, rfl, rfl, rfl⟩
theorem cseed_1_0 {Z : State} {a0 : Array Value} (hw : ∀ d ∈ tables_1, d.before a0 Z = true) (ρ : Nat → Nat) (n0 : Nat) (o0 o1 o2 o3 : WObj) (M : List Int32) (hM : M.length = 4) (x0 x1 x2 x3 x : Int32) (hx : ix4 x) (u : Nat) : WGo (g7 Z ρ n0 7 u) (0, [wR 4, wI x], [], [o0, o1, o2, o3, (.inr (cn1, [(fk3, .ref 0), (fk4, .int 0), (fk5, .ref 5), (fk6, .ref 6), (fk7, .int 1), (fk8, .int 0)])), (wAI (ia M)), (wAI [(.int x0), (.int x1), (.int x2), (.int x3)])], u) (fun v σ' u' => (mkk M x = 1 ∧ v = none ∧ [o0, o1, o2, o3, (.inr (cn1, [(fk3, .ref 0), (fk4, .int 0), (fk5, .ref 5), (fk6, .ref 6), (fk7, .int 1), (fk8, .int 0)])), (wAI (ia M)), (wAI [(.int x0), (.int x1), (.int x2), (.int x3)])] = σ' ∧ u = u') ∨ (¬ mkk M x = 1 ∧ v = none ∧ [o0, o1, o2, o3, (.inr (cn1, [(fk3, .ref 0), (fk4, .int 0), (fk5, .ref 5), (fk6, .ref 6), (fk7, .int 1), (fk8, .int 1)])), (wAI (ia (M.set x.toNatClampNeg 1))), (wAI [(.int x), (.int x1), (.int x2), (.int x3)])] = σ' ∧ u = u')) := by
  refine .s (.aloadN a7_0 rfl rfl) <| .s (.getF 2 a7_1 (wd hw 37 rfl) rfl rfl) <| .s (.iloadN a7_4 rfl) <| .s (.iaload (x.toNatClampNeg) (v := (.int (mkk M x))) a7_5 rfl (nn hx.1) rfl (ia_get (mkk_get hM hx))) <| .s (.aloadN a7_6 rfl rfl) <| .s (.getF 4 a7_7 (wd hw 46 rfl) rfl rfl) ?_
  refine .eq a7_10 (fun h10 => ?_) (fun h10 => ?_)
  · refine .vreturn a7_40 rfl ?_
    exact Or.inl ⟨h10, rfl, rfl, rfl⟩
  · refine .s (.aloadN a7_13 rfl rfl) <| .s (.getF 2 a7_14 (wd hw 37 rfl) rfl rfl) <| .s (.iloadN a7_17 rfl) <| .s (.aloadN a7_18 rfl rfl) <| .s (.getF 4 a7_19 (wd hw 46 rfl) rfl rfl) <| .s (.iastore (x.toNatClampNeg) a7_22 rfl (nn hx.1) rfl (by rw [ia_len, hM]; exact ix4_lt hx)) ?_
    rw [ia_set]
    show WGo _ (23, [wR 4, wI x], [], [o0, o1, o2, o3, (.inr (cn1, [(fk3, .ref 0), (fk4, .int 0), (fk5, .ref 5), (fk6, .ref 6), (fk7, .int 1), (fk8, .int 0)])), (wAI (ia (M.set x.toNatClampNeg 1))), (wAI [(.int x0), (.int x1), (.int x2), (.int x3)])], u) _
    refine .s (.aloadN a7_23 rfl rfl) <| .s (.getF 3 a7_24 (wd hw 39 rfl) rfl rfl) <| .s (.aloadN a7_27 rfl rfl) <| .s (.dup a7_28 rfl) <| .s (.getF 5 a7_29 (wd hw 48 rfl) rfl rfl) <| .s (.dupX1 a7_32 rfl rfl) <| .s (.iconst (1 : Int32) a7_33 rfl) ?_
    refine .s (.iadd a7_34) ?_
    show WGo _ (35, [wR 4, wI x], [.int 1, .ref 4, .int 0, .ref 6], [o0, o1, o2, o3, (.inr (cn1, [(fk3, .ref 0), (fk4, .int 0), (fk5, .ref 5), (fk6, .ref 6), (fk7, .int 1), (fk8, .int 0)])), (wAI (ia (M.set x.toNatClampNeg 1))), (wAI [(.int x0), (.int x1), (.int x2), (.int x3)])], u) _
    refine .s (.putF (ty := .int) 5 (.int 1) a7_35 (wd hw 48 rfl) rfl rfl (Or.inl (wd hw 49 rfl)) (wd hw 22 rfl) (by decide) rfl rfl) ?_
    show WGo _ (38, [wR 4, wI x], [.int 0, .ref 6], [o0, o1, o2, o3, (.inr (cn1, [(fk3, .ref 0), (fk4, .int 0), (fk5, .ref 5), (fk6, .ref 6), (fk7, .int 1), (fk8, .int 1)])), (wAI (ia (M.set x.toNatClampNeg 1))), (wAI [(.int x0), (.int x1), (.int x2), (.int x3)])], u) _
    refine .s (.iloadN a7_38 rfl) <| .s (.iastore 0 a7_39 rfl (by decide) rfl (Nat.le_of_ble_eq_true rfl)) ?_
    show WGo _ (40, [wR 4, wI x], [], [o0, o1, o2, o3, (.inr (cn1, [(fk3, .ref 0), (fk4, .int 0), (fk5, .ref 5), (fk6, .ref 6), (fk7, .int 1), (fk8, .int 1)])), (wAI (ia (M.set x.toNatClampNeg 1))), (wAI [(.int x), (.int x1), (.int x2), (.int x3)])], u) _
    refine .vreturn a7_40 rfl ?_
    exact Or.inr ⟨h10, rfl, rfl, rfl⟩
theorem cseed_1_1 {Z : State} {a0 : Array Value} (hw : ∀ d ∈ tables_1, d.before a0 Z = true) (ρ : Nat → Nat) (n0 : Nat) (o0 o1 o2 o3 : WObj) (M : List Int32) (hM : M.length = 4) (x0 x1 x2 x3 x : Int32) (hx : ix4 x) (u : Nat) : WGo (g7 Z ρ n0 7 u) (0, [wR 4, wI x], [], [o0, o1, o2, o3, (.inr (cn1, [(fk3, .ref 0), (fk4, .int 0), (fk5, .ref 5), (fk6, .ref 6), (fk7, .int 1), (fk8, .int 1)])), (wAI (ia M)), (wAI [(.int x0), (.int x1), (.int x2), (.int x3)])], u) (fun v σ' u' => (mkk M x = 1 ∧ v = none ∧ [o0, o1, o2, o3, (.inr (cn1, [(fk3, .ref 0), (fk4, .int 0), (fk5, .ref 5), (fk6, .ref 6), (fk7, .int 1), (fk8, .int 1)])), (wAI (ia M)), (wAI [(.int x0), (.int x1), (.int x2), (.int x3)])] = σ' ∧ u = u') ∨ (¬ mkk M x = 1 ∧ v = none ∧ [o0, o1, o2, o3, (.inr (cn1, [(fk3, .ref 0), (fk4, .int 0), (fk5, .ref 5), (fk6, .ref 6), (fk7, .int 1), (fk8, .int 2)])), (wAI (ia (M.set x.toNatClampNeg 1))), (wAI [(.int x0), (.int x), (.int x2), (.int x3)])] = σ' ∧ u = u')) := by
  refine .s (.aloadN a7_0 rfl rfl) <| .s (.getF 2 a7_1 (wd hw 37 rfl) rfl rfl) <| .s (.iloadN a7_4 rfl) <| .s (.iaload (x.toNatClampNeg) (v := (.int (mkk M x))) a7_5 rfl (nn hx.1) rfl (ia_get (mkk_get hM hx))) <| .s (.aloadN a7_6 rfl rfl) <| .s (.getF 4 a7_7 (wd hw 46 rfl) rfl rfl) ?_
  refine .eq a7_10 (fun h10 => ?_) (fun h10 => ?_)
  · refine .vreturn a7_40 rfl ?_
    exact Or.inl ⟨h10, rfl, rfl, rfl⟩
  · refine .s (.aloadN a7_13 rfl rfl) <| .s (.getF 2 a7_14 (wd hw 37 rfl) rfl rfl) <| .s (.iloadN a7_17 rfl) <| .s (.aloadN a7_18 rfl rfl) <| .s (.getF 4 a7_19 (wd hw 46 rfl) rfl rfl) <| .s (.iastore (x.toNatClampNeg) a7_22 rfl (nn hx.1) rfl (by rw [ia_len, hM]; exact ix4_lt hx)) ?_
    rw [ia_set]
    show WGo _ (23, [wR 4, wI x], [], [o0, o1, o2, o3, (.inr (cn1, [(fk3, .ref 0), (fk4, .int 0), (fk5, .ref 5), (fk6, .ref 6), (fk7, .int 1), (fk8, .int 1)])), (wAI (ia (M.set x.toNatClampNeg 1))), (wAI [(.int x0), (.int x1), (.int x2), (.int x3)])], u) _
    refine .s (.aloadN a7_23 rfl rfl) <| .s (.getF 3 a7_24 (wd hw 39 rfl) rfl rfl) <| .s (.aloadN a7_27 rfl rfl) <| .s (.dup a7_28 rfl) <| .s (.getF 5 a7_29 (wd hw 48 rfl) rfl rfl) <| .s (.dupX1 a7_32 rfl rfl) <| .s (.iconst (1 : Int32) a7_33 rfl) ?_
    refine .s (.iadd a7_34) ?_
    show WGo _ (35, [wR 4, wI x], [.int 2, .ref 4, .int 1, .ref 6], [o0, o1, o2, o3, (.inr (cn1, [(fk3, .ref 0), (fk4, .int 0), (fk5, .ref 5), (fk6, .ref 6), (fk7, .int 1), (fk8, .int 1)])), (wAI (ia (M.set x.toNatClampNeg 1))), (wAI [(.int x0), (.int x1), (.int x2), (.int x3)])], u) _
    refine .s (.putF (ty := .int) 5 (.int 2) a7_35 (wd hw 48 rfl) rfl rfl (Or.inl (wd hw 49 rfl)) (wd hw 22 rfl) (by decide) rfl rfl) ?_
    show WGo _ (38, [wR 4, wI x], [.int 1, .ref 6], [o0, o1, o2, o3, (.inr (cn1, [(fk3, .ref 0), (fk4, .int 0), (fk5, .ref 5), (fk6, .ref 6), (fk7, .int 1), (fk8, .int 2)])), (wAI (ia (M.set x.toNatClampNeg 1))), (wAI [(.int x0), (.int x1), (.int x2), (.int x3)])], u) _
    refine .s (.iloadN a7_38 rfl) <| .s (.iastore 1 a7_39 rfl (by decide) rfl (Nat.le_of_ble_eq_true rfl)) ?_
    show WGo _ (40, [wR 4, wI x], [], [o0, o1, o2, o3, (.inr (cn1, [(fk3, .ref 0), (fk4, .int 0), (fk5, .ref 5), (fk6, .ref 6), (fk7, .int 1), (fk8, .int 2)])), (wAI (ia (M.set x.toNatClampNeg 1))), (wAI [(.int x0), (.int x), (.int x2), (.int x3)])], u) _
    refine .vreturn a7_40 rfl ?_
    exact Or.inr ⟨h10, rfl, rfl, rfl⟩
theorem cseed_1_2 {Z : State} {a0 : Array Value} (hw : ∀ d ∈ tables_1, d.before a0 Z = true) (ρ : Nat → Nat) (n0 : Nat) (o0 o1 o2 o3 : WObj) (M : List Int32) (hM : M.length = 4) (x0 x1 x2 x3 x : Int32) (hx : ix4 x) (u : Nat) : WGo (g7 Z ρ n0 7 u) (0, [wR 4, wI x], [], [o0, o1, o2, o3, (.inr (cn1, [(fk3, .ref 0), (fk4, .int 0), (fk5, .ref 5), (fk6, .ref 6), (fk7, .int 1), (fk8, .int 2)])), (wAI (ia M)), (wAI [(.int x0), (.int x1), (.int x2), (.int x3)])], u) (fun v σ' u' => (mkk M x = 1 ∧ v = none ∧ [o0, o1, o2, o3, (.inr (cn1, [(fk3, .ref 0), (fk4, .int 0), (fk5, .ref 5), (fk6, .ref 6), (fk7, .int 1), (fk8, .int 2)])), (wAI (ia M)), (wAI [(.int x0), (.int x1), (.int x2), (.int x3)])] = σ' ∧ u = u') ∨ (¬ mkk M x = 1 ∧ v = none ∧ [o0, o1, o2, o3, (.inr (cn1, [(fk3, .ref 0), (fk4, .int 0), (fk5, .ref 5), (fk6, .ref 6), (fk7, .int 1), (fk8, .int 3)])), (wAI (ia (M.set x.toNatClampNeg 1))), (wAI [(.int x0), (.int x1), (.int x), (.int x3)])] = σ' ∧ u = u')) := by
  refine .s (.aloadN a7_0 rfl rfl) <| .s (.getF 2 a7_1 (wd hw 37 rfl) rfl rfl) <| .s (.iloadN a7_4 rfl) <| .s (.iaload (x.toNatClampNeg) (v := (.int (mkk M x))) a7_5 rfl (nn hx.1) rfl (ia_get (mkk_get hM hx))) <| .s (.aloadN a7_6 rfl rfl) <| .s (.getF 4 a7_7 (wd hw 46 rfl) rfl rfl) ?_
  refine .eq a7_10 (fun h10 => ?_) (fun h10 => ?_)
  · refine .vreturn a7_40 rfl ?_
    exact Or.inl ⟨h10, rfl, rfl, rfl⟩
  · refine .s (.aloadN a7_13 rfl rfl) <| .s (.getF 2 a7_14 (wd hw 37 rfl) rfl rfl) <| .s (.iloadN a7_17 rfl) <| .s (.aloadN a7_18 rfl rfl) <| .s (.getF 4 a7_19 (wd hw 46 rfl) rfl rfl) <| .s (.iastore (x.toNatClampNeg) a7_22 rfl (nn hx.1) rfl (by rw [ia_len, hM]; exact ix4_lt hx)) ?_
    rw [ia_set]
    show WGo _ (23, [wR 4, wI x], [], [o0, o1, o2, o3, (.inr (cn1, [(fk3, .ref 0), (fk4, .int 0), (fk5, .ref 5), (fk6, .ref 6), (fk7, .int 1), (fk8, .int 2)])), (wAI (ia (M.set x.toNatClampNeg 1))), (wAI [(.int x0), (.int x1), (.int x2), (.int x3)])], u) _
    refine .s (.aloadN a7_23 rfl rfl) <| .s (.getF 3 a7_24 (wd hw 39 rfl) rfl rfl) <| .s (.aloadN a7_27 rfl rfl) <| .s (.dup a7_28 rfl) <| .s (.getF 5 a7_29 (wd hw 48 rfl) rfl rfl) <| .s (.dupX1 a7_32 rfl rfl) <| .s (.iconst (1 : Int32) a7_33 rfl) ?_
    refine .s (.iadd a7_34) ?_
    show WGo _ (35, [wR 4, wI x], [.int 3, .ref 4, .int 2, .ref 6], [o0, o1, o2, o3, (.inr (cn1, [(fk3, .ref 0), (fk4, .int 0), (fk5, .ref 5), (fk6, .ref 6), (fk7, .int 1), (fk8, .int 2)])), (wAI (ia (M.set x.toNatClampNeg 1))), (wAI [(.int x0), (.int x1), (.int x2), (.int x3)])], u) _
    refine .s (.putF (ty := .int) 5 (.int 3) a7_35 (wd hw 48 rfl) rfl rfl (Or.inl (wd hw 49 rfl)) (wd hw 22 rfl) (by decide) rfl rfl) ?_
    show WGo _ (38, [wR 4, wI x], [.int 2, .ref 6], [o0, o1, o2, o3, (.inr (cn1, [(fk3, .ref 0), (fk4, .int 0), (fk5, .ref 5), (fk6, .ref 6), (fk7, .int 1), (fk8, .int 3)])), (wAI (ia (M.set x.toNatClampNeg 1))), (wAI [(.int x0), (.int x1), (.int x2), (.int x3)])], u) _
    refine .s (.iloadN a7_38 rfl) <| .s (.iastore 2 a7_39 rfl (by decide) rfl (Nat.le_of_ble_eq_true rfl)) ?_
    show WGo _ (40, [wR 4, wI x], [], [o0, o1, o2, o3, (.inr (cn1, [(fk3, .ref 0), (fk4, .int 0), (fk5, .ref 5), (fk6, .ref 6), (fk7, .int 1), (fk8, .int 3)])), (wAI (ia (M.set x.toNatClampNeg 1))), (wAI [(.int x0), (.int x1), (.int x), (.int x3)])], u) _
    refine .vreturn a7_40 rfl ?_
    exact Or.inr ⟨h10, rfl, rfl, rfl⟩
theorem cseed_2_0 {Z : State} {a0 : Array Value} (hw : ∀ d ∈ tables_1, d.before a0 Z = true) (ρ : Nat → Nat) (n0 : Nat) (o0 o1 o2 o3 o7 : WObj) (M : List Int32) (hM : M.length = 4) (x0 x1 x2 x3 x : Int32) (hx : ix4 x) (u : Nat) : WGo (g7 Z ρ n0 8 u) (0, [wR 4, wI x], [], [o0, o1, o2, o3, (.inr (cn1, [(fk3, .ref 0), (fk4, .int 0), (fk5, .ref 5), (fk6, .ref 6), (fk7, .int 2), (fk8, .int 0)])), (wAI (ia M)), (wAI [(.int x0), (.int x1), (.int x2), (.int x3)]), o7], u) (fun v σ' u' => (mkk M x = 2 ∧ v = none ∧ [o0, o1, o2, o3, (.inr (cn1, [(fk3, .ref 0), (fk4, .int 0), (fk5, .ref 5), (fk6, .ref 6), (fk7, .int 2), (fk8, .int 0)])), (wAI (ia M)), (wAI [(.int x0), (.int x1), (.int x2), (.int x3)]), o7] = σ' ∧ u = u') ∨ (¬ mkk M x = 2 ∧ v = none ∧ [o0, o1, o2, o3, (.inr (cn1, [(fk3, .ref 0), (fk4, .int 0), (fk5, .ref 5), (fk6, .ref 6), (fk7, .int 2), (fk8, .int 1)])), (wAI (ia (M.set x.toNatClampNeg 2))), (wAI [(.int x), (.int x1), (.int x2), (.int x3)]), o7] = σ' ∧ u = u')) := by
  refine .s (.aloadN a7_0 rfl rfl) <| .s (.getF 2 a7_1 (wd hw 37 rfl) rfl rfl) <| .s (.iloadN a7_4 rfl) <| .s (.iaload (x.toNatClampNeg) (v := (.int (mkk M x))) a7_5 rfl (nn hx.1) rfl (ia_get (mkk_get hM hx))) <| .s (.aloadN a7_6 rfl rfl) <| .s (.getF 4 a7_7 (wd hw 46 rfl) rfl rfl) ?_
  refine .eq a7_10 (fun h10 => ?_) (fun h10 => ?_)
  · refine .vreturn a7_40 rfl ?_
    exact Or.inl ⟨h10, rfl, rfl, rfl⟩
  · refine .s (.aloadN a7_13 rfl rfl) <| .s (.getF 2 a7_14 (wd hw 37 rfl) rfl rfl) <| .s (.iloadN a7_17 rfl) <| .s (.aloadN a7_18 rfl rfl) <| .s (.getF 4 a7_19 (wd hw 46 rfl) rfl rfl) <| .s (.iastore (x.toNatClampNeg) a7_22 rfl (nn hx.1) rfl (by rw [ia_len, hM]; exact ix4_lt hx)) ?_
    rw [ia_set]
    show WGo _ (23, [wR 4, wI x], [], [o0, o1, o2, o3, (.inr (cn1, [(fk3, .ref 0), (fk4, .int 0), (fk5, .ref 5), (fk6, .ref 6), (fk7, .int 2), (fk8, .int 0)])), (wAI (ia (M.set x.toNatClampNeg 2))), (wAI [(.int x0), (.int x1), (.int x2), (.int x3)]), o7], u) _
    refine .s (.aloadN a7_23 rfl rfl) <| .s (.getF 3 a7_24 (wd hw 39 rfl) rfl rfl) <| .s (.aloadN a7_27 rfl rfl) <| .s (.dup a7_28 rfl) <| .s (.getF 5 a7_29 (wd hw 48 rfl) rfl rfl) <| .s (.dupX1 a7_32 rfl rfl) <| .s (.iconst (1 : Int32) a7_33 rfl) ?_
    refine .s (.iadd a7_34) ?_
    show WGo _ (35, [wR 4, wI x], [.int 1, .ref 4, .int 0, .ref 6], [o0, o1, o2, o3, (.inr (cn1, [(fk3, .ref 0), (fk4, .int 0), (fk5, .ref 5), (fk6, .ref 6), (fk7, .int 2), (fk8, .int 0)])), (wAI (ia (M.set x.toNatClampNeg 2))), (wAI [(.int x0), (.int x1), (.int x2), (.int x3)]), o7], u) _
    refine .s (.putF (ty := .int) 5 (.int 1) a7_35 (wd hw 48 rfl) rfl rfl (Or.inl (wd hw 49 rfl)) (wd hw 22 rfl) (by decide) rfl rfl) ?_
    show WGo _ (38, [wR 4, wI x], [.int 0, .ref 6], [o0, o1, o2, o3, (.inr (cn1, [(fk3, .ref 0), (fk4, .int 0), (fk5, .ref 5), (fk6, .ref 6), (fk7, .int 2), (fk8, .int 1)])), (wAI (ia (M.set x.toNatClampNeg 2))), (wAI [(.int x0), (.int x1), (.int x2), (.int x3)]), o7], u) _
    refine .s (.iloadN a7_38 rfl) <| .s (.iastore 0 a7_39 rfl (by decide) rfl (Nat.le_of_ble_eq_true rfl)) ?_
    show WGo _ (40, [wR 4, wI x], [], [o0, o1, o2, o3, (.inr (cn1, [(fk3, .ref 0), (fk4, .int 0), (fk5, .ref 5), (fk6, .ref 6), (fk7, .int 2), (fk8, .int 1)])), (wAI (ia (M.set x.toNatClampNeg 2))), (wAI [(.int x), (.int x1), (.int x2), (.int x3)]), o7], u) _
    refine .vreturn a7_40 rfl ?_
    exact Or.inr ⟨h10, rfl, rfl, rfl⟩
theorem cseed_2_1 {Z : State} {a0 : Array Value} (hw : ∀ d ∈ tables_1, d.before a0 Z = true) (ρ : Nat → Nat) (n0 : Nat) (o0 o1 o2 o3 o7 : WObj) (M : List Int32) (hM : M.length = 4) (x0 x1 x2 x3 x : Int32) (hx : ix4 x) (u : Nat) : WGo (g7 Z ρ n0 8 u) (0, [wR 4, wI x], [], [o0, o1, o2, o3, (.inr (cn1, [(fk3, .ref 0), (fk4, .int 0), (fk5, .ref 5), (fk6, .ref 6), (fk7, .int 2), (fk8, .int 1)])), (wAI (ia M)), (wAI [(.int x0), (.int x1), (.int x2), (.int x3)]), o7], u) (fun v σ' u' => (mkk M x = 2 ∧ v = none ∧ [o0, o1, o2, o3, (.inr (cn1, [(fk3, .ref 0), (fk4, .int 0), (fk5, .ref 5), (fk6, .ref 6), (fk7, .int 2), (fk8, .int 1)])), (wAI (ia M)), (wAI [(.int x0), (.int x1), (.int x2), (.int x3)]), o7] = σ' ∧ u = u') ∨ (¬ mkk M x = 2 ∧ v = none ∧ [o0, o1, o2, o3, (.inr (cn1, [(fk3, .ref 0), (fk4, .int 0), (fk5, .ref 5), (fk6, .ref 6), (fk7, .int 2), (fk8, .int 2)])), (wAI (ia (M.set x.toNatClampNeg 2))), (wAI [(.int x0), (.int x), (.int x2), (.int x3)]), o7] = σ' ∧ u = u')) := by
  refine .s (.aloadN a7_0 rfl rfl) <| .s (.getF 2 a7_1 (wd hw 37 rfl) rfl rfl) <| .s (.iloadN a7_4 rfl) <| .s (.iaload (x.toNatClampNeg) (v := (.int (mkk M x))) a7_5 rfl (nn hx.1) rfl (ia_get (mkk_get hM hx))) <| .s (.aloadN a7_6 rfl rfl) <| .s (.getF 4 a7_7 (wd hw 46 rfl) rfl rfl) ?_
  refine .eq a7_10 (fun h10 => ?_) (fun h10 => ?_)
  · refine .vreturn a7_40 rfl ?_
    exact Or.inl ⟨h10, rfl, rfl, rfl⟩
  · refine .s (.aloadN a7_13 rfl rfl) <| .s (.getF 2 a7_14 (wd hw 37 rfl) rfl rfl) <| .s (.iloadN a7_17 rfl) <| .s (.aloadN a7_18 rfl rfl) <| .s (.getF 4 a7_19 (wd hw 46 rfl) rfl rfl) <| .s (.iastore (x.toNatClampNeg) a7_22 rfl (nn hx.1) rfl (by rw [ia_len, hM]; exact ix4_lt hx)) ?_
    rw [ia_set]
    show WGo _ (23, [wR 4, wI x], [], [o0, o1, o2, o3, (.inr (cn1, [(fk3, .ref 0), (fk4, .int 0), (fk5, .ref 5), (fk6, .ref 6), (fk7, .int 2), (fk8, .int 1)])), (wAI (ia (M.set x.toNatClampNeg 2))), (wAI [(.int x0), (.int x1), (.int x2), (.int x3)]), o7], u) _
    refine .s (.aloadN a7_23 rfl rfl) <| .s (.getF 3 a7_24 (wd hw 39 rfl) rfl rfl) <| .s (.aloadN a7_27 rfl rfl) <| .s (.dup a7_28 rfl) <| .s (.getF 5 a7_29 (wd hw 48 rfl) rfl rfl) <| .s (.dupX1 a7_32 rfl rfl) <| .s (.iconst (1 : Int32) a7_33 rfl) ?_
    refine .s (.iadd a7_34) ?_
    show WGo _ (35, [wR 4, wI x], [.int 2, .ref 4, .int 1, .ref 6], [o0, o1, o2, o3, (.inr (cn1, [(fk3, .ref 0), (fk4, .int 0), (fk5, .ref 5), (fk6, .ref 6), (fk7, .int 2), (fk8, .int 1)])), (wAI (ia (M.set x.toNatClampNeg 2))), (wAI [(.int x0), (.int x1), (.int x2), (.int x3)]), o7], u) _
    refine .s (.putF (ty := .int) 5 (.int 2) a7_35 (wd hw 48 rfl) rfl rfl (Or.inl (wd hw 49 rfl)) (wd hw 22 rfl) (by decide) rfl rfl) ?_
    show WGo _ (38, [wR 4, wI x], [.int 1, .ref 6], [o0, o1, o2, o3, (.inr (cn1, [(fk3, .ref 0), (fk4, .int 0), (fk5, .ref 5), (fk6, .ref 6), (fk7, .int 2), (fk8, .int 2)])), (wAI (ia (M.set x.toNatClampNeg 2))), (wAI [(.int x0), (.int x1), (.int x2), (.int x3)]), o7], u) _
    refine .s (.iloadN a7_38 rfl) <| .s (.iastore 1 a7_39 rfl (by decide) rfl (Nat.le_of_ble_eq_true rfl)) ?_
    show WGo _ (40, [wR 4, wI x], [], [o0, o1, o2, o3, (.inr (cn1, [(fk3, .ref 0), (fk4, .int 0), (fk5, .ref 5), (fk6, .ref 6), (fk7, .int 2), (fk8, .int 2)])), (wAI (ia (M.set x.toNatClampNeg 2))), (wAI [(.int x0), (.int x), (.int x2), (.int x3)]), o7], u) _
    refine .vreturn a7_40 rfl ?_
    exact Or.inr ⟨h10, rfl, rfl, rfl⟩
theorem cdst {Z : State} {a0 : Array Value} (hw : ∀ d ∈ tables_1, d.before a0 Z = true) (ρ : Nat → Nat) (n0 : Nat) (x y z : Int32) (σ : WHp) (u : Nat) : WGo (g18 Z ρ n0 σ.length u) (0, [wI x, wI y, wI z, wU], [], σ, u) (fun v σ' u' => v = some (.int (dst x y z)) ∧ σ = σ' ∧ u = u') := by
  refine .s (.iconst (1 : Int32) a18_0 rfl) <| .s (.istoreN (L' := [wI x, wI y, wI z, wI 1]) a18_1 rfl) <| .s (.iloadN a18_2 rfl) <| .s (.iloadN a18_3 rfl) ?_
  refine .eq a18_4 (fun h4 => ?_) (fun h4 => ?_)
  · refine .s (.iloadN a18_10 rfl) <| .s (.iloadN a18_11 rfl) ?_
    refine .eq a18_12 (fun h12 => ?_) (fun h12 => ?_)
    · refine .s (.iloadN a18_23 rfl) ?_
      refine .ireturn .int a18_24 rfl (by simp) ?_
      exact ⟨by rw [show dst x y z = 1 from by simp [dst, h4, h12]]; rfl, rfl, rfl⟩
    · refine .s (.iloadN a18_15 rfl) <| .s (.iloadN a18_16 rfl) ?_
      refine .eq a18_17 (fun h17 => ?_) (fun h17 => ?_)
      · refine .s (.iloadN a18_23 rfl) ?_
        refine .ireturn .int a18_24 rfl (by simp) ?_
        exact ⟨by rw [show dst x y z = 1 from by simp [dst, h4, h12, h17]]; rfl, rfl, rfl⟩
      · refine .s (.iinc (L' := [wI x, wI y, wI z, wI 2]) a18_20 rfl rfl) <| .s (.iloadN a18_23 rfl) ?_
        refine .ireturn .int a18_24 rfl (by simp) ?_
        exact ⟨by rw [show dst x y z = 2 from by simp [dst, h4, h12, h17]]; rfl, rfl, rfl⟩
  · refine .s (.iinc (L' := [wI x, wI y, wI z, wI 2]) a18_7 rfl rfl) <| .s (.iloadN a18_10 rfl) <| .s (.iloadN a18_11 rfl) ?_
    refine .eq a18_12 (fun h12 => ?_) (fun h12 => ?_)
    · refine .s (.iloadN a18_23 rfl) ?_
      refine .ireturn .int a18_24 rfl (by simp) ?_
      exact ⟨by rw [show dst x y z = 2 from by simp [dst, h4, h12]]; rfl, rfl, rfl⟩
    · refine .s (.iloadN a18_15 rfl) <| .s (.iloadN a18_16 rfl) ?_
      refine .eq a18_17 (fun h17 => ?_) (fun h17 => ?_)
      · refine .s (.iloadN a18_23 rfl) ?_
        refine .ireturn .int a18_24 rfl (by simp) ?_
        exact ⟨by rw [show dst x y z = 2 from by simp [dst, h4, h12, h17]]; rfl, rfl, rfl⟩
      · refine .s (.iinc (L' := [wI x, wI y, wI z, wI 3]) a18_20 rfl rfl) <| .s (.iloadN a18_23 rfl) ?_
        refine .ireturn .int a18_24 rfl (by simp) ?_
        exact ⟨by rw [show dst x y z = 3 from by simp [dst, h4, h12, h17]]; rfl, rfl, rfl⟩
theorem ccon1 {Z : State} {a0 : Array Value} (hw : ∀ d ∈ tables_1, d.before a0 Z = true) (ρ : Nat → Nat) (n0 : Nat) (r0 x : Int32) (h : r0 = x) (σ : WHp) (k : Nat) (hk : σ[k]? = some (wAI [(.int r0)])) (u : Nat) : WGo (g19 Z ρ n0 σ.length u) (0, [wR k, wI x], [], σ, u) (fun v σ' u' => v = some (.int 1) ∧ σ = σ' ∧ u = u') := by
  refine .s (.aloadN a19_0 rfl rfl) <| .s (.alen (1 : Int32) a19_1 hk rfl) <| .s (.ifF a19_2 (by decide)) <| .s (.aloadN a19_5 rfl rfl) <| .s (.iconst (0 : Int32) a19_6 rfl) <| .s (.iaload 0 a19_7 hk (by decide) rfl rfl) <| .s (.iloadN a19_8 rfl) ?_
  refine .eq a19_9 (fun h9 => ?_) (fun h9 => ?_)
  · refine .s (.iconst (1 : Int32) a19_38 rfl) <| .s (.goto a19_39) ?_
    refine .ireturn .boolean a19_43 rfl (by simp) ?_
    exact ⟨rfl, rfl, rfl⟩
  · refine .s (.aloadN a19_12 rfl rfl) <| .s (.alen (1 : Int32) a19_13 hk rfl) <| .s (.iconst (1 : Int32) a19_14 rfl) <| .s (.icmpT a19_15 (by decide)) <| .s (.aloadN a19_25 rfl rfl) <| .s (.alen (1 : Int32) a19_26 hk rfl) <| .s (.iconst (2 : Int32) a19_27 rfl) ?_
    refine .s (.icmpT a19_28 (by decide)) <| .s (.iconst (0 : Int32) a19_42 rfl) ?_
    refine .ireturn .boolean a19_43 rfl (by simp) ?_
    contradiction
theorem cset1 {Z : State} {a0 : Array Value} (hw : ∀ d ∈ tables_1, d.before a0 Z = true) (ρ : Nat → Nat) (n0 : Nat) (r0 x y z : Int32) (h : IsS1 r0 x y z) (σ : WHp) (k : Nat) (hk : σ[k]? = some (wAI [(.int r0)])) (u : Nat) : WGo (g17 Z ρ n0 σ.length u) (0, [wR k, wI x, wI y, wI z], [], σ, u) (fun v σ' u' => v = some (.int 1) ∧ σ = σ' ∧ u = u') := by
  refine .s (.aloadN a17_0 rfl rfl) <| .s (.alen (1 : Int32) a17_1 hk rfl) <| .s (.iloadN a17_2 rfl) <| .s (.iloadN a17_3 rfl) <| .s (.iloadN a17_4 rfl) ?_
  refine .callS a17_5 (ok18 hw _ _ _ _) (wd hw 98 rfl) (wd hw 99 rfl) (argsL := [(.int x), (.int y), (.int z)]) (S := [.int 1]) (cdst hw _ _ x y z _ _) rfl rfl rfl rfl rfl rfl (Nat.le_of_ble_eq_true rfl) (Nat.le_of_ble_eq_true rfl) ?_
  rintro _ _ _ ⟨rfl, rfl, rfl⟩
  show WGo _ (8, [wR k, wI x, wI y, wI z], [(.int (dst x y z)), .int 1], σ, u) _
  refine .s (.icmpT a17_8 (teq h.1.symm).1) <| .s (.aloadN a17_13 rfl rfl) <| .s (.alen (1 : Int32) a17_14 hk rfl) <| .s (.iconst (1 : Int32) a17_15 rfl) <| .s (.icmpT a17_16 (by decide)) <| .s (.aloadN a17_30 rfl rfl) <| .s (.alen (1 : Int32) a17_31 hk rfl) ?_
  refine .s (.iconst (2 : Int32) a17_32 rfl) <| .s (.icmpT a17_33 (by decide)) <| .s (.aloadN a17_47 rfl rfl) <| .s (.iloadN a17_48 rfl) ?_
  refine .callS a17_49 (ok19 hw _ _ _ _) (wd hw 101 rfl) (wd hw 102 rfl) (argsL := [.ref k, (.int x)]) (S := []) (ccon1 hw _ _ r0 x h.2.1 _ _ hk _) rfl rfl rfl rfl rfl rfl (Nat.le_of_ble_eq_true rfl) (Nat.le_of_ble_eq_true rfl) ?_
  rintro _ _ _ ⟨rfl, rfl, rfl⟩
  show WGo _ (52, [wR k, wI x, wI y, wI z], [.int 1], σ, u) _
  refine .s (.ifF a17_52 (by decide)) <| .s (.aloadN a17_55 rfl rfl) <| .s (.iloadN a17_56 rfl) ?_
  refine .callS a17_57 (ok19 hw _ _ _ _) (wd hw 101 rfl) (wd hw 102 rfl) (argsL := [.ref k, (.int y)]) (S := []) (ccon1 hw _ _ r0 y h.2.2.1 _ _ hk _) rfl rfl rfl rfl rfl rfl (Nat.le_of_ble_eq_true rfl) (Nat.le_of_ble_eq_true rfl) ?_
  rintro _ _ _ ⟨rfl, rfl, rfl⟩
  show WGo _ (60, [wR k, wI x, wI y, wI z], [.int 1], σ, u) _
  refine .s (.ifF a17_60 (by decide)) <| .s (.aloadN a17_63 rfl rfl) <| .s (.iloadN a17_64 rfl) ?_
  refine .callS a17_65 (ok19 hw _ _ _ _) (wd hw 101 rfl) (wd hw 102 rfl) (argsL := [.ref k, (.int z)]) (S := []) (ccon1 hw _ _ r0 z h.2.2.2 _ _ hk _) rfl rfl rfl rfl rfl rfl (Nat.le_of_ble_eq_true rfl) (Nat.le_of_ble_eq_true rfl) ?_
  rintro _ _ _ ⟨rfl, rfl, rfl⟩
  show WGo _ (68, [wR k, wI x, wI y, wI z], [.int 1], σ, u) _
  refine .s (.ifF a17_68 (by decide)) <| .s (.iconst (1 : Int32) a17_71 rfl) <| .s (.goto a17_72) ?_
  refine .ireturn .boolean a17_76 rfl (by simp) ?_
  exact ⟨rfl, rfl, rfl⟩
theorem ccon2 {Z : State} {a0 : Array Value} (hw : ∀ d ∈ tables_1, d.before a0 Z = true) (ρ : Nat → Nat) (n0 : Nat) (r0 r1 x : Int32) (h : r0 = x ∨ r1 = x) (σ : WHp) (k : Nat) (hk : σ[k]? = some (wAI [(.int r0), (.int r1)])) (u : Nat) : WGo (g19 Z ρ n0 σ.length u) (0, [wR k, wI x], [], σ, u) (fun v σ' u' => v = some (.int 1) ∧ σ = σ' ∧ u = u') := by
  refine .s (.aloadN a19_0 rfl rfl) <| .s (.alen (2 : Int32) a19_1 hk rfl) <| .s (.ifF a19_2 (by decide)) <| .s (.aloadN a19_5 rfl rfl) <| .s (.iconst (0 : Int32) a19_6 rfl) <| .s (.iaload 0 a19_7 hk (by decide) rfl rfl) <| .s (.iloadN a19_8 rfl) ?_
  refine .eq a19_9 (fun h9 => ?_) (fun h9 => ?_)
  · refine .s (.iconst (1 : Int32) a19_38 rfl) <| .s (.goto a19_39) ?_
    refine .ireturn .boolean a19_43 rfl (by simp) ?_
    exact ⟨rfl, rfl, rfl⟩
  · refine .s (.aloadN a19_12 rfl rfl) <| .s (.alen (2 : Int32) a19_13 hk rfl) <| .s (.iconst (1 : Int32) a19_14 rfl) <| .s (.icmpF a19_15 (by decide)) <| .s (.aloadN a19_18 rfl rfl) <| .s (.iconst (1 : Int32) a19_19 rfl) <| .s (.iaload 1 a19_20 hk (by decide) rfl rfl) ?_
    refine .s (.iloadN a19_21 rfl) ?_
    refine .eq a19_22 (fun h22 => ?_) (fun h22 => ?_)
    · refine .s (.iconst (1 : Int32) a19_38 rfl) <| .s (.goto a19_39) ?_
      refine .ireturn .boolean a19_43 rfl (by simp) ?_
      exact ⟨rfl, rfl, rfl⟩
    · refine .s (.aloadN a19_25 rfl rfl) <| .s (.alen (2 : Int32) a19_26 hk rfl) <| .s (.iconst (2 : Int32) a19_27 rfl) <| .s (.icmpT a19_28 (by decide)) <| .s (.iconst (0 : Int32) a19_42 rfl) ?_
      refine .ireturn .boolean a19_43 rfl (by simp) ?_
      rcases h with h | h <;> contradiction
theorem cset2 {Z : State} {a0 : Array Value} (hw : ∀ d ∈ tables_1, d.before a0 Z = true) (ρ : Nat → Nat) (n0 : Nat) (r0 r1 x y z : Int32) (h : IsS2 r0 r1 x y z) (σ : WHp) (k : Nat) (hk : σ[k]? = some (wAI [(.int r0), (.int r1)])) (u : Nat) : WGo (g17 Z ρ n0 σ.length u) (0, [wR k, wI x, wI y, wI z], [], σ, u) (fun v σ' u' => v = some (.int 1) ∧ σ = σ' ∧ u = u') := by
  refine .s (.aloadN a17_0 rfl rfl) <| .s (.alen (2 : Int32) a17_1 hk rfl) <| .s (.iloadN a17_2 rfl) <| .s (.iloadN a17_3 rfl) <| .s (.iloadN a17_4 rfl) ?_
  refine .callS a17_5 (ok18 hw _ _ _ _) (wd hw 98 rfl) (wd hw 99 rfl) (argsL := [(.int x), (.int y), (.int z)]) (S := [.int 2]) (cdst hw _ _ x y z _ _) rfl rfl rfl rfl rfl rfl (Nat.le_of_ble_eq_true rfl) (Nat.le_of_ble_eq_true rfl) ?_
  rintro _ _ _ ⟨rfl, rfl, rfl⟩
  show WGo _ (8, [wR k, wI x, wI y, wI z], [(.int (dst x y z)), .int 2], σ, u) _
  refine .s (.icmpT a17_8 (teq h.1.symm).1) <| .s (.aloadN a17_13 rfl rfl) <| .s (.alen (2 : Int32) a17_14 hk rfl) <| .s (.iconst (1 : Int32) a17_15 rfl) <| .s (.icmpF a17_16 (by decide)) <| .s (.aloadN a17_19 rfl rfl) <| .s (.iconst (0 : Int32) a17_20 rfl) ?_
  refine .s (.iaload 0 a17_21 hk (by decide) rfl rfl) <| .s (.aloadN a17_22 rfl rfl) <| .s (.iconst (1 : Int32) a17_23 rfl) <| .s (.iaload 1 a17_24 hk (by decide) rfl rfl) <| .s (.icmpT a17_25 (tlt h.2.1).1) <| .s (.aloadN a17_30 rfl rfl) <| .s (.alen (2 : Int32) a17_31 hk rfl) ?_
  refine .s (.iconst (2 : Int32) a17_32 rfl) <| .s (.icmpT a17_33 (by decide)) <| .s (.aloadN a17_47 rfl rfl) <| .s (.iloadN a17_48 rfl) ?_
  refine .callS a17_49 (ok19 hw _ _ _ _) (wd hw 101 rfl) (wd hw 102 rfl) (argsL := [.ref k, (.int x)]) (S := []) (ccon2 hw _ _ r0 r1 x h.2.2.1 _ _ hk _) rfl rfl rfl rfl rfl rfl (Nat.le_of_ble_eq_true rfl) (Nat.le_of_ble_eq_true rfl) ?_
  rintro _ _ _ ⟨rfl, rfl, rfl⟩
  show WGo _ (52, [wR k, wI x, wI y, wI z], [.int 1], σ, u) _
  refine .s (.ifF a17_52 (by decide)) <| .s (.aloadN a17_55 rfl rfl) <| .s (.iloadN a17_56 rfl) ?_
  refine .callS a17_57 (ok19 hw _ _ _ _) (wd hw 101 rfl) (wd hw 102 rfl) (argsL := [.ref k, (.int y)]) (S := []) (ccon2 hw _ _ r0 r1 y h.2.2.2.1 _ _ hk _) rfl rfl rfl rfl rfl rfl (Nat.le_of_ble_eq_true rfl) (Nat.le_of_ble_eq_true rfl) ?_
  rintro _ _ _ ⟨rfl, rfl, rfl⟩
  show WGo _ (60, [wR k, wI x, wI y, wI z], [.int 1], σ, u) _
  refine .s (.ifF a17_60 (by decide)) <| .s (.aloadN a17_63 rfl rfl) <| .s (.iloadN a17_64 rfl) ?_
  refine .callS a17_65 (ok19 hw _ _ _ _) (wd hw 101 rfl) (wd hw 102 rfl) (argsL := [.ref k, (.int z)]) (S := []) (ccon2 hw _ _ r0 r1 z h.2.2.2.2 _ _ hk _) rfl rfl rfl rfl rfl rfl (Nat.le_of_ble_eq_true rfl) (Nat.le_of_ble_eq_true rfl) ?_
  rintro _ _ _ ⟨rfl, rfl, rfl⟩
  show WGo _ (68, [wR k, wI x, wI y, wI z], [.int 1], σ, u) _
  refine .s (.ifF a17_68 (by decide)) <| .s (.iconst (1 : Int32) a17_71 rfl) <| .s (.goto a17_72) ?_
  refine .ireturn .boolean a17_76 rfl (by simp) ?_
  exact ⟨rfl, rfl, rfl⟩
theorem ccon3 {Z : State} {a0 : Array Value} (hw : ∀ d ∈ tables_1, d.before a0 Z = true) (ρ : Nat → Nat) (n0 : Nat) (r0 r1 r2 x : Int32) (h : r0 = x ∨ r1 = x ∨ r2 = x) (σ : WHp) (k : Nat) (hk : σ[k]? = some (wAI [(.int r0), (.int r1), (.int r2)])) (u : Nat) : WGo (g19 Z ρ n0 σ.length u) (0, [wR k, wI x], [], σ, u) (fun v σ' u' => v = some (.int 1) ∧ σ = σ' ∧ u = u') := by
  refine .s (.aloadN a19_0 rfl rfl) <| .s (.alen (3 : Int32) a19_1 hk rfl) <| .s (.ifF a19_2 (by decide)) <| .s (.aloadN a19_5 rfl rfl) <| .s (.iconst (0 : Int32) a19_6 rfl) <| .s (.iaload 0 a19_7 hk (by decide) rfl rfl) <| .s (.iloadN a19_8 rfl) ?_
  refine .eq a19_9 (fun h9 => ?_) (fun h9 => ?_)
  · refine .s (.iconst (1 : Int32) a19_38 rfl) <| .s (.goto a19_39) ?_
    refine .ireturn .boolean a19_43 rfl (by simp) ?_
    exact ⟨rfl, rfl, rfl⟩
  · refine .s (.aloadN a19_12 rfl rfl) <| .s (.alen (3 : Int32) a19_13 hk rfl) <| .s (.iconst (1 : Int32) a19_14 rfl) <| .s (.icmpF a19_15 (by decide)) <| .s (.aloadN a19_18 rfl rfl) <| .s (.iconst (1 : Int32) a19_19 rfl) <| .s (.iaload 1 a19_20 hk (by decide) rfl rfl) ?_
    refine .s (.iloadN a19_21 rfl) ?_
    refine .eq a19_22 (fun h22 => ?_) (fun h22 => ?_)
    · refine .s (.iconst (1 : Int32) a19_38 rfl) <| .s (.goto a19_39) ?_
      refine .ireturn .boolean a19_43 rfl (by simp) ?_
      exact ⟨rfl, rfl, rfl⟩
    · refine .s (.aloadN a19_25 rfl rfl) <| .s (.alen (3 : Int32) a19_26 hk rfl) <| .s (.iconst (2 : Int32) a19_27 rfl) <| .s (.icmpF a19_28 (by decide)) <| .s (.aloadN a19_31 rfl rfl) <| .s (.iconst (2 : Int32) a19_32 rfl) <| .s (.iaload 2 a19_33 hk (by decide) rfl rfl) ?_
      refine .s (.iloadN a19_34 rfl) ?_
      refine .ne a19_35 (fun h35 => ?_) (fun h35 => ?_)
      · refine .s (.iconst (0 : Int32) a19_42 rfl) ?_
        refine .ireturn .boolean a19_43 rfl (by simp) ?_
        rcases h with h | h | h <;> contradiction
      · refine .s (.iconst (1 : Int32) a19_38 rfl) <| .s (.goto a19_39) ?_
        refine .ireturn .boolean a19_43 rfl (by simp) ?_
        exact ⟨rfl, rfl, rfl⟩
theorem cset3 {Z : State} {a0 : Array Value} (hw : ∀ d ∈ tables_1, d.before a0 Z = true) (ρ : Nat → Nat) (n0 : Nat) (r0 r1 r2 x y z : Int32) (h : IsS3 r0 r1 r2 x y z) (σ : WHp) (k : Nat) (hk : σ[k]? = some (wAI [(.int r0), (.int r1), (.int r2)])) (u : Nat) : WGo (g17 Z ρ n0 σ.length u) (0, [wR k, wI x, wI y, wI z], [], σ, u) (fun v σ' u' => v = some (.int 1) ∧ σ = σ' ∧ u = u') := by
  refine .s (.aloadN a17_0 rfl rfl) <| .s (.alen (3 : Int32) a17_1 hk rfl) <| .s (.iloadN a17_2 rfl) <| .s (.iloadN a17_3 rfl) <| .s (.iloadN a17_4 rfl) ?_
  refine .callS a17_5 (ok18 hw _ _ _ _) (wd hw 98 rfl) (wd hw 99 rfl) (argsL := [(.int x), (.int y), (.int z)]) (S := [.int 3]) (cdst hw _ _ x y z _ _) rfl rfl rfl rfl rfl rfl (Nat.le_of_ble_eq_true rfl) (Nat.le_of_ble_eq_true rfl) ?_
  rintro _ _ _ ⟨rfl, rfl, rfl⟩
  show WGo _ (8, [wR k, wI x, wI y, wI z], [(.int (dst x y z)), .int 3], σ, u) _
  refine .s (.icmpT a17_8 (teq h.1.symm).1) <| .s (.aloadN a17_13 rfl rfl) <| .s (.alen (3 : Int32) a17_14 hk rfl) <| .s (.iconst (1 : Int32) a17_15 rfl) <| .s (.icmpF a17_16 (by decide)) <| .s (.aloadN a17_19 rfl rfl) <| .s (.iconst (0 : Int32) a17_20 rfl) ?_
  refine .s (.iaload 0 a17_21 hk (by decide) rfl rfl) <| .s (.aloadN a17_22 rfl rfl) <| .s (.iconst (1 : Int32) a17_23 rfl) <| .s (.iaload 1 a17_24 hk (by decide) rfl rfl) <| .s (.icmpT a17_25 (tlt h.2.1).1) <| .s (.aloadN a17_30 rfl rfl) <| .s (.alen (3 : Int32) a17_31 hk rfl) ?_
  refine .s (.iconst (2 : Int32) a17_32 rfl) <| .s (.icmpF a17_33 (by decide)) <| .s (.aloadN a17_36 rfl rfl) <| .s (.iconst (1 : Int32) a17_37 rfl) <| .s (.iaload 1 a17_38 hk (by decide) rfl rfl) <| .s (.aloadN a17_39 rfl rfl) <| .s (.iconst (2 : Int32) a17_40 rfl) ?_
  refine .s (.iaload 2 a17_41 hk (by decide) rfl rfl) <| .s (.icmpT a17_42 (tlt h.2.2.1).1) <| .s (.aloadN a17_47 rfl rfl) <| .s (.iloadN a17_48 rfl) ?_
  refine .callS a17_49 (ok19 hw _ _ _ _) (wd hw 101 rfl) (wd hw 102 rfl) (argsL := [.ref k, (.int x)]) (S := []) (ccon3 hw _ _ r0 r1 r2 x h.2.2.2.1 _ _ hk _) rfl rfl rfl rfl rfl rfl (Nat.le_of_ble_eq_true rfl) (Nat.le_of_ble_eq_true rfl) ?_
  rintro _ _ _ ⟨rfl, rfl, rfl⟩
  show WGo _ (52, [wR k, wI x, wI y, wI z], [.int 1], σ, u) _
  refine .s (.ifF a17_52 (by decide)) <| .s (.aloadN a17_55 rfl rfl) <| .s (.iloadN a17_56 rfl) ?_
  refine .callS a17_57 (ok19 hw _ _ _ _) (wd hw 101 rfl) (wd hw 102 rfl) (argsL := [.ref k, (.int y)]) (S := []) (ccon3 hw _ _ r0 r1 r2 y h.2.2.2.2.1 _ _ hk _) rfl rfl rfl rfl rfl rfl (Nat.le_of_ble_eq_true rfl) (Nat.le_of_ble_eq_true rfl) ?_
  rintro _ _ _ ⟨rfl, rfl, rfl⟩
  show WGo _ (60, [wR k, wI x, wI y, wI z], [.int 1], σ, u) _
  refine .s (.ifF a17_60 (by decide)) <| .s (.aloadN a17_63 rfl rfl) <| .s (.iloadN a17_64 rfl) ?_
  refine .callS a17_65 (ok19 hw _ _ _ _) (wd hw 101 rfl) (wd hw 102 rfl) (argsL := [.ref k, (.int z)]) (S := []) (ccon3 hw _ _ r0 r1 r2 z h.2.2.2.2.2 _ _ hk _) rfl rfl rfl rfl rfl rfl (Nat.le_of_ble_eq_true rfl) (Nat.le_of_ble_eq_true rfl) ?_
  rintro _ _ _ ⟨rfl, rfl, rfl⟩
  show WGo _ (68, [wR k, wI x, wI y, wI z], [.int 1], σ, u) _
  refine .s (.ifF a17_68 (by decide)) <| .s (.iconst (1 : Int32) a17_71 rfl) <| .s (.goto a17_72) ?_
  refine .ireturn .boolean a17_76 rfl (by simp) ?_
  exact ⟨rfl, rfl, rfl⟩
theorem cset {Z : State} {a0 : Array Value} (hw : ∀ d ∈ tables_1, d.before a0 Z = true) (ρ : Nat → Nat) (n0 : Nat) (R : List Int32) (x y z : Int32) (h : IsS R x y z) (σ : WHp) (k : Nat) (hk : σ[k]? = some (wAI (ia R))) (u : Nat) : WGo (g17 Z ρ n0 σ.length u) (0, [wR k, wI x, wI y, wI z], [], σ, u) (fun v σ' u' => v = some (.int 1) ∧ σ = σ' ∧ u = u') := by
  rcases h with ⟨r0, rfl, h⟩ | ⟨r0, r1, rfl, h⟩ | ⟨r0, r1, r2, rfl, h⟩
  · exact cset1 hw ρ n0 r0 x y z h σ k hk u
  · exact cset2 hw ρ n0 r0 r1 x y z h σ k hk u
  · exact cset3 hw ρ n0 r0 r1 r2 x y z h σ k hk u
set_option maxHeartbeats 4000000 in
theorem au6_46 {Z : State} {a0 : Array Value} (hw : ∀ d ∈ tables_1, d.before a0 Z = true) (ρ : Nat → Nat) (n0 : Nat) (x0 : Int32) (x1 : Int32) (x2 : Int32) (x3 : Int32) (M : List Int32) (R : List Int32) (sz : Int32) (u : Nat) : WGo (g6 Z ρ n0 8 u) (0, [wR 4], [], [(.inr (cn0, [(fk0, .ref 1), (fk1, .ref 2), (fk2, .ref 3)])), (wAI [.int 0, .int 0, .int 0, .int 0, .int 0]), (wAI []), (wAI []), (.inr (cn1, [(fk3, .ref 0), (fk4, .int 0), (fk5, .ref 5), (fk6, .ref 6), (fk7, .int 1), (fk8, (.int sz))])), (wAI (ia M)), (wAI [(.int x0), (.int x1), (.int x2), (.int x3)]), (wAI (ia R))], u) (fun v σ' u' => v = none ∧ [(.inr (cn0, [(fk0, .ref 1), (fk1, .ref 2), (fk2, .ref 3)])), (wAI [.int 0, .int 0, .int 0, .int 0, .int 0]), (wAI []), (wAI []), (.inr (cn1, [(fk3, .ref 0), (fk4, .int 0), (fk5, .ref 5), (fk6, .ref 6), (fk7, .int 2), (fk8, .int 0)])), (wAI (ia M)), (wAI [(.int x0), (.int x1), (.int x2), (.int x3)]), (wAI (ia R))] = σ' ∧ u = u') := by
  refine .s (.aloadN a6_0 rfl rfl) <| .s (.dup a6_1 rfl) <| .s (.getF 4 a6_2 (wd hw 46 rfl) rfl rfl) <| .s (.iconst (1 : Int32) a6_5 rfl) <| .s (.iadd a6_6) ?_
  show WGo _ (7, [wR 4], [.int 2, .ref 4], [(.inr (cn0, [(fk0, .ref 1), (fk1, .ref 2), (fk2, .ref 3)])), (wAI [.int 0, .int 0, .int 0, .int 0, .int 0]), (wAI []), (wAI []), (.inr (cn1, [(fk3, .ref 0), (fk4, .int 0), (fk5, .ref 5), (fk6, .ref 6), (fk7, .int 1), (fk8, (.int sz))])), (wAI (ia M)), (wAI [(.int x0), (.int x1), (.int x2), (.int x3)]), (wAI (ia R))], u) _
  refine .s (.putF (ty := .int) 4 (.int 2) a6_7 (wd hw 46 rfl) rfl rfl (Or.inl (wd hw 47 rfl)) (wd hw 22 rfl) (by decide) rfl rfl) ?_
  show WGo _ (10, [wR 4], [], [(.inr (cn0, [(fk0, .ref 1), (fk1, .ref 2), (fk2, .ref 3)])), (wAI [.int 0, .int 0, .int 0, .int 0, .int 0]), (wAI []), (wAI []), (.inr (cn1, [(fk3, .ref 0), (fk4, .int 0), (fk5, .ref 5), (fk6, .ref 6), (fk7, .int 2), (fk8, (.int sz))])), (wAI (ia M)), (wAI [(.int x0), (.int x1), (.int x2), (.int x3)]), (wAI (ia R))], u) _
  refine .s (.aloadN a6_10 rfl rfl) <| .s (.iconst (0 : Int32) a6_11 rfl) <| .s (.putF (ty := .int) 5 (.int 0) a6_12 (wd hw 48 rfl) rfl rfl (Or.inl (wd hw 49 rfl)) (wd hw 22 rfl) (by decide) rfl rfl) ?_
  show WGo _ (15, [wR 4], [], [(.inr (cn0, [(fk0, .ref 1), (fk1, .ref 2), (fk2, .ref 3)])), (wAI [.int 0, .int 0, .int 0, .int 0, .int 0]), (wAI []), (wAI []), (.inr (cn1, [(fk3, .ref 0), (fk4, .int 0), (fk5, .ref 5), (fk6, .ref 6), (fk7, .int 2), (fk8, .int 0)])), (wAI (ia M)), (wAI [(.int x0), (.int x1), (.int x2), (.int x3)]), (wAI (ia R))], u) _
  refine .vreturn a6_15 rfl ?_
  exact ⟨rfl, rfl, rfl⟩
set_option maxHeartbeats 40000000 in
theorem half2 (Z : State) (a0 : Array Value) (hw : ∀ d ∈ tables_1, d.before a0 Z = true) (n0 : Nat) (i0 i1 i2 i3 i4 na nb nc nd nf : Int32) (hnd : ix4 nd) (hnf : ix4 nf) (M : List Int32) (hM : M.length = 4) (h2 : No2 M) (x0 x1 x2 x3 sz : Int32) (R : List Int32) (hR : IsS R na nb nc) (u : Nat) (hu : u ≤ 100) : WGo (g0 Z (fun k => n0 + k) n0 0 0) (87, [wI i0, wI i1, wI i2, wI i3, wI i4, wI na, wI nb, wI nc, wI nd, wI nf, wR 0, wR 4, wU, wU], [.ref 7], [(.inr (cn0, [(fk0, .ref 1), (fk1, .ref 2), (fk2, .ref 3)])), (wAI [.int 0, .int 0, .int 0, .int 0, .int 0]), (wAI []), (wAI []), (.inr (cn1, [(fk3, .ref 0), (fk4, .int 0), (fk5, .ref 5), (fk6, .ref 6), (fk7, .int 1), (fk8, (.int sz))])), (wAI (ia M)), (wAI [(.int x0), (.int x1), (.int x2), (.int x3)]), (wAI (ia R))], u) (fun v σ' u' => v = some (.int 1) ∧ σ'.length ≤ 32 ∧ u' ≤ 128) := by
  refine .s (.astore (L' := [wI i0, wI i1, wI i2, wI i3, wI i4, wI na, wI nb, wI nc, wI nd, wI nf, wR 0, wR 4, wR 7, wU]) a0_87 rfl rfl) <| .s (.aload a0_89 rfl rfl) ?_
  refine .callV (k := 4) (z := (⟨"com/example/firm_handshake/firmhandshake/lts/InternalClosure", "open", "()V"⟩ : MethodName)) a0_91 (ok6 hw _ _ _ _) ⟨rfl, by decide⟩ (wd hw 41 rfl) (wd hw 42 rfl) (fun s hZ => notFace_of_selects (args := #[]) (mvT hZ (wd hw 44 rfl))) (wd hw 44 rfl) (wd hw 43 rfl) rfl (argsL := []) (S := []) (au6_46 hw _ _ x0 x1 x2 x3 M R sz _) rfl rfl rfl rfl rfl rfl (Nat.le_of_ble_eq_true rfl) (Nat.le_of_ble_eq_true rfl) ?_
  rintro _ _ _ ⟨rfl, rfl, rfl⟩
  show WGo _ (94, [wI i0, wI i1, wI i2, wI i3, wI i4, wI na, wI nb, wI nc, wI nd, wI nf, wR 0, wR 4, wR 7, wU], [], [(.inr (cn0, [(fk0, .ref 1), (fk1, .ref 2), (fk2, .ref 3)])), (wAI [.int 0, .int 0, .int 0, .int 0, .int 0]), (wAI []), (wAI []), (.inr (cn1, [(fk3, .ref 0), (fk4, .int 0), (fk5, .ref 5), (fk6, .ref 6), (fk7, .int 2), (fk8, .int 0)])), (wAI (ia M)), (wAI [(.int x0), (.int x1), (.int x2), (.int x3)]), (wAI (ia R))], u) _
  refine .s (.aload a0_94 rfl rfl) <| .s (.iload a0_96 rfl) ?_
  refine .callV (k := 4) (z := (⟨"com/example/firm_handshake/firmhandshake/lts/InternalClosure", "seed", "(I)V"⟩ : MethodName)) a0_98 (ok7 hw _ _ _ _) ⟨rfl, by decide⟩ (wd hw 50 rfl) (wd hw 51 rfl) (fun s hZ => notFace_of_selects (args := #[]) (mvT hZ (wd hw 53 rfl))) (wd hw 53 rfl) (wd hw 52 rfl) rfl (argsL := [(.int nd)]) (S := []) (cseed_2_0 hw _ _ (.inr (cn0, [(fk0, .ref 1), (fk1, .ref 2), (fk2, .ref 3)])) (wAI [.int 0, .int 0, .int 0, .int 0, .int 0]) (wAI []) (wAI []) (wAI (ia R)) M (by simpa using hM) x0 x1 x2 x3 nd hnd _) rfl rfl rfl rfl rfl rfl (Nat.le_of_ble_eq_true rfl) (Nat.le_of_ble_eq_true rfl) ?_
  rintro _ _ _ (⟨s1, rfl, rfl, rfl⟩ | ⟨s1, rfl, rfl, rfl⟩)
  · exact absurd s1 (h2 _ hnd)
  · skip
    show WGo _ (101, [wI i0, wI i1, wI i2, wI i3, wI i4, wI na, wI nb, wI nc, wI nd, wI nf, wR 0, wR 4, wR 7, wU], [], [(.inr (cn0, [(fk0, .ref 1), (fk1, .ref 2), (fk2, .ref 3)])), (wAI [.int 0, .int 0, .int 0, .int 0, .int 0]), (wAI []), (wAI []), (.inr (cn1, [(fk3, .ref 0), (fk4, .int 0), (fk5, .ref 5), (fk6, .ref 6), (fk7, .int 2), (fk8, .int 1)])), (wAI (ia (M.set nd.toNatClampNeg 2))), (wAI [(.int nd), (.int x1), (.int x2), (.int x3)]), (wAI (ia R))], u) _
    refine .s (.aload a0_101 rfl rfl) <| .s (.iload a0_103 rfl) ?_
    refine .callV (k := 4) (z := (⟨"com/example/firm_handshake/firmhandshake/lts/InternalClosure", "seed", "(I)V"⟩ : MethodName)) a0_105 (ok7 hw _ _ _ _) ⟨rfl, by decide⟩ (wd hw 50 rfl) (wd hw 51 rfl) (fun s hZ => notFace_of_selects (args := #[]) (mvT hZ (wd hw 53 rfl))) (wd hw 53 rfl) (wd hw 52 rfl) rfl (argsL := [(.int nf)]) (S := []) (cseed_2_1 hw _ _ (.inr (cn0, [(fk0, .ref 1), (fk1, .ref 2), (fk2, .ref 3)])) (wAI [.int 0, .int 0, .int 0, .int 0, .int 0]) (wAI []) (wAI []) (wAI (ia R)) (M.set nd.toNatClampNeg 2) (by simpa using hM) nd x1 x2 x3 nf hnf _) rfl rfl rfl rfl rfl rfl (Nat.le_of_ble_eq_true rfl) (Nat.le_of_ble_eq_true rfl) ?_
    rintro _ _ _ (⟨s2, rfl, rfl, rfl⟩ | ⟨s2, rfl, rfl, rfl⟩)
    · have e2 : nf = nd := Classical.byContradiction fun q => by rw [mkk_other _ hnd hnf q] at s2; exact h2 _ hnf s2
      show WGo _ (108, [wI i0, wI i1, wI i2, wI i3, wI i4, wI na, wI nb, wI nc, wI nd, wI nf, wR 0, wR 4, wR 7, wU], [], [(.inr (cn0, [(fk0, .ref 1), (fk1, .ref 2), (fk2, .ref 3)])), (wAI [.int 0, .int 0, .int 0, .int 0, .int 0]), (wAI []), (wAI []), (.inr (cn1, [(fk3, .ref 0), (fk4, .int 0), (fk5, .ref 5), (fk6, .ref 6), (fk7, .int 2), (fk8, .int 1)])), (wAI (ia (M.set nd.toNatClampNeg 2))), (wAI [(.int nd), (.int x1), (.int x2), (.int x3)]), (wAI (ia R))], u) _
      refine .s (.aload a0_108 rfl rfl) ?_
      refine .callV (k := 4) (z := (⟨"com/example/firm_handshake/firmhandshake/lts/InternalClosure", "close", "()[I"⟩ : MethodName)) a0_110 (ok8 hw _ _ _ _) ⟨rfl, by decide⟩ (wd hw 55 rfl) (wd hw 56 rfl) (fun s hZ => notFace_of_selects (args := #[]) (mvT hZ (wd hw 58 rfl))) (wd hw 58 rfl) (wd hw 57 rfl) rfl (argsL := []) (S := []) (ccl_1_1 hw _ _ (wAI []) (wAI []) (wAI (ia (M.set nd.toNatClampNeg 2))) (wAI (ia R)) nd x1 x2 x3 hnd _) rfl rfl rfl rfl rfl rfl (Nat.le_of_ble_eq_true rfl) (Nat.le_of_ble_eq_true rfl) ?_
      rintro _ _ _ ⟨R2, hR2, rfl, rfl, rfl⟩
      show WGo _ (113, [wI i0, wI i1, wI i2, wI i3, wI i4, wI na, wI nb, wI nc, wI nd, wI nf, wR 0, wR 4, wR 7, wU], [.ref 8], [(.inr (cn0, [(fk0, .ref 1), (fk1, .ref 2), (fk2, .ref 3)])), (wAI [.int 0, .int 0, .int 0, .int 0, .int 0]), (wAI []), (wAI []), (.inr (cn1, [(fk3, .ref 0), (fk4, .int 0), (fk5, .ref 5), (fk6, .ref 6), (fk7, .int 2), (fk8, .int 1)])), (wAI (ia (M.set nd.toNatClampNeg 2))), (wAI [(.int nd), (.int x1), (.int x2), (.int x3)]), (wAI (ia R)), (wAI (ia R2))], (u + 1)) _
      refine .s (.astore (L' := [wI i0, wI i1, wI i2, wI i3, wI i4, wI na, wI nb, wI nc, wI nd, wI nf, wR 0, wR 4, wR 7, wR 8]) a0_113 rfl rfl) <| .s (.aload a0_115 rfl rfl) <| .s (.iload a0_117 rfl) <| .s (.iload a0_119 rfl) <| .s (.iload a0_121 rfl) ?_
      refine .callS a0_123 (ok17 hw _ _ _ _) (wd hw 94 rfl) (wd hw 95 rfl) (argsL := [.ref 7, (.int na), (.int nb), (.int nc)]) (S := []) (cset hw _ _ R na nb nc hR ([(.inr (cn0, [(fk0, .ref 1), (fk1, .ref 2), (fk2, .ref 3)])), (wAI [.int 0, .int 0, .int 0, .int 0, .int 0]), (wAI []), (wAI []), (.inr (cn1, [(fk3, .ref 0), (fk4, .int 0), (fk5, .ref 5), (fk6, .ref 6), (fk7, .int 2), (fk8, .int 1)])), (wAI (ia (M.set nd.toNatClampNeg 2))), (wAI [(.int nd), (.int x1), (.int x2), (.int x3)]), (wAI (ia R)), (wAI (ia R2))] : WHp) 7 rfl _) rfl rfl rfl rfl rfl rfl (Nat.le_of_ble_eq_true rfl) (Nat.le_of_ble_eq_true rfl) ?_
      rintro _ _ _ ⟨rfl, rfl, rfl⟩
      show WGo _ (126, [wI i0, wI i1, wI i2, wI i3, wI i4, wI na, wI nb, wI nc, wI nd, wI nf, wR 0, wR 4, wR 7, wR 8], [.int 1], [(.inr (cn0, [(fk0, .ref 1), (fk1, .ref 2), (fk2, .ref 3)])), (wAI [.int 0, .int 0, .int 0, .int 0, .int 0]), (wAI []), (wAI []), (.inr (cn1, [(fk3, .ref 0), (fk4, .int 0), (fk5, .ref 5), (fk6, .ref 6), (fk7, .int 2), (fk8, .int 1)])), (wAI (ia (M.set nd.toNatClampNeg 2))), (wAI [(.int nd), (.int x1), (.int x2), (.int x3)]), (wAI (ia R)), (wAI (ia R2))], (u + 1)) _
      refine .s (.ifF a0_126 (by decide)) <| .s (.aload a0_129 rfl rfl) <| .s (.iload a0_131 rfl) <| .s (.iload a0_133 rfl) <| .s (.iload a0_135 rfl) ?_
      refine .callS a0_137 (ok17 hw _ _ _ _) (wd hw 94 rfl) (wd hw 95 rfl) (argsL := [.ref 8, (.int nd), (.int nf), (.int nf)]) (S := []) (cset hw _ _ R2 nd nf nf (is1 hR2 rfl e2 e2) ([(.inr (cn0, [(fk0, .ref 1), (fk1, .ref 2), (fk2, .ref 3)])), (wAI [.int 0, .int 0, .int 0, .int 0, .int 0]), (wAI []), (wAI []), (.inr (cn1, [(fk3, .ref 0), (fk4, .int 0), (fk5, .ref 5), (fk6, .ref 6), (fk7, .int 2), (fk8, .int 1)])), (wAI (ia (M.set nd.toNatClampNeg 2))), (wAI [(.int nd), (.int x1), (.int x2), (.int x3)]), (wAI (ia R)), (wAI (ia R2))] : WHp) 8 rfl _) rfl rfl rfl rfl rfl rfl (Nat.le_of_ble_eq_true rfl) (Nat.le_of_ble_eq_true rfl) ?_
      rintro _ _ _ ⟨rfl, rfl, rfl⟩
      show WGo _ (140, [wI i0, wI i1, wI i2, wI i3, wI i4, wI na, wI nb, wI nc, wI nd, wI nf, wR 0, wR 4, wR 7, wR 8], [.int 1], [(.inr (cn0, [(fk0, .ref 1), (fk1, .ref 2), (fk2, .ref 3)])), (wAI [.int 0, .int 0, .int 0, .int 0, .int 0]), (wAI []), (wAI []), (.inr (cn1, [(fk3, .ref 0), (fk4, .int 0), (fk5, .ref 5), (fk6, .ref 6), (fk7, .int 2), (fk8, .int 1)])), (wAI (ia (M.set nd.toNatClampNeg 2))), (wAI [(.int nd), (.int x1), (.int x2), (.int x3)]), (wAI (ia R)), (wAI (ia R2))], (u + 1)) _
      refine .s (.ifF a0_140 (by decide)) <| .s (.iconst (1 : Int32) a0_143 rfl) <| .s (.goto a0_144) ?_
      refine .ireturn .boolean a0_148 rfl (by simp) ?_
      exact ⟨rfl, Nat.le_of_ble_eq_true rfl, by omega⟩
    · have e2 : ¬ nf = nd := fun q => s2 (by rw [q]; exact mkk_same _ hM hnd)
      show WGo _ (108, [wI i0, wI i1, wI i2, wI i3, wI i4, wI na, wI nb, wI nc, wI nd, wI nf, wR 0, wR 4, wR 7, wU], [], [(.inr (cn0, [(fk0, .ref 1), (fk1, .ref 2), (fk2, .ref 3)])), (wAI [.int 0, .int 0, .int 0, .int 0, .int 0]), (wAI []), (wAI []), (.inr (cn1, [(fk3, .ref 0), (fk4, .int 0), (fk5, .ref 5), (fk6, .ref 6), (fk7, .int 2), (fk8, .int 2)])), (wAI (ia ((M.set nd.toNatClampNeg 2).set nf.toNatClampNeg 2))), (wAI [(.int nd), (.int nf), (.int x2), (.int x3)]), (wAI (ia R))], u) _
      refine .s (.aload a0_108 rfl rfl) ?_
      refine .callV (k := 4) (z := (⟨"com/example/firm_handshake/firmhandshake/lts/InternalClosure", "close", "()[I"⟩ : MethodName)) a0_110 (ok8 hw _ _ _ _) ⟨rfl, by decide⟩ (wd hw 55 rfl) (wd hw 56 rfl) (fun s hZ => notFace_of_selects (args := #[]) (mvT hZ (wd hw 58 rfl))) (wd hw 58 rfl) (wd hw 57 rfl) rfl (argsL := []) (S := []) (ccl_2_1 hw _ _ (wAI []) (wAI []) (wAI (ia ((M.set nd.toNatClampNeg 2).set nf.toNatClampNeg 2))) (wAI (ia R)) nd nf x2 x3 hnd hnf _) rfl rfl rfl rfl rfl rfl (Nat.le_of_ble_eq_true rfl) (Nat.le_of_ble_eq_true rfl) ?_
      rintro _ _ _ ⟨R2, hR2, rfl, rfl, rfl⟩
      show WGo _ (113, [wI i0, wI i1, wI i2, wI i3, wI i4, wI na, wI nb, wI nc, wI nd, wI nf, wR 0, wR 4, wR 7, wU], [.ref 8], [(.inr (cn0, [(fk0, .ref 1), (fk1, .ref 2), (fk2, .ref 3)])), (wAI [.int 0, .int 0, .int 0, .int 0, .int 0]), (wAI []), (wAI []), (.inr (cn1, [(fk3, .ref 0), (fk4, .int 0), (fk5, .ref 5), (fk6, .ref 6), (fk7, .int 2), (fk8, .int 2)])), (wAI (ia ((M.set nd.toNatClampNeg 2).set nf.toNatClampNeg 2))), (wAI [(.int nd), (.int nf), (.int x2), (.int x3)]), (wAI (ia R)), (wAI (ia R2))], (u + 2)) _
      refine .s (.astore (L' := [wI i0, wI i1, wI i2, wI i3, wI i4, wI na, wI nb, wI nc, wI nd, wI nf, wR 0, wR 4, wR 7, wR 8]) a0_113 rfl rfl) <| .s (.aload a0_115 rfl rfl) <| .s (.iload a0_117 rfl) <| .s (.iload a0_119 rfl) <| .s (.iload a0_121 rfl) ?_
      refine .callS a0_123 (ok17 hw _ _ _ _) (wd hw 94 rfl) (wd hw 95 rfl) (argsL := [.ref 7, (.int na), (.int nb), (.int nc)]) (S := []) (cset hw _ _ R na nb nc hR ([(.inr (cn0, [(fk0, .ref 1), (fk1, .ref 2), (fk2, .ref 3)])), (wAI [.int 0, .int 0, .int 0, .int 0, .int 0]), (wAI []), (wAI []), (.inr (cn1, [(fk3, .ref 0), (fk4, .int 0), (fk5, .ref 5), (fk6, .ref 6), (fk7, .int 2), (fk8, .int 2)])), (wAI (ia ((M.set nd.toNatClampNeg 2).set nf.toNatClampNeg 2))), (wAI [(.int nd), (.int nf), (.int x2), (.int x3)]), (wAI (ia R)), (wAI (ia R2))] : WHp) 7 rfl _) rfl rfl rfl rfl rfl rfl (Nat.le_of_ble_eq_true rfl) (Nat.le_of_ble_eq_true rfl) ?_
      rintro _ _ _ ⟨rfl, rfl, rfl⟩
      show WGo _ (126, [wI i0, wI i1, wI i2, wI i3, wI i4, wI na, wI nb, wI nc, wI nd, wI nf, wR 0, wR 4, wR 7, wR 8], [.int 1], [(.inr (cn0, [(fk0, .ref 1), (fk1, .ref 2), (fk2, .ref 3)])), (wAI [.int 0, .int 0, .int 0, .int 0, .int 0]), (wAI []), (wAI []), (.inr (cn1, [(fk3, .ref 0), (fk4, .int 0), (fk5, .ref 5), (fk6, .ref 6), (fk7, .int 2), (fk8, .int 2)])), (wAI (ia ((M.set nd.toNatClampNeg 2).set nf.toNatClampNeg 2))), (wAI [(.int nd), (.int nf), (.int x2), (.int x3)]), (wAI (ia R)), (wAI (ia R2))], (u + 2)) _
      refine .s (.ifF a0_126 (by decide)) <| .s (.aload a0_129 rfl rfl) <| .s (.iload a0_131 rfl) <| .s (.iload a0_133 rfl) <| .s (.iload a0_135 rfl) ?_
      refine .callS a0_137 (ok17 hw _ _ _ _) (wd hw 94 rfl) (wd hw 95 rfl) (argsL := [.ref 8, (.int nd), (.int nf), (.int nf)]) (S := []) (cset hw _ _ R2 nd nf nf (is2 hR2 e2 (by simp [dst, e2]) (Or.inl rfl) (Or.inr rfl) (Or.inr rfl)) ([(.inr (cn0, [(fk0, .ref 1), (fk1, .ref 2), (fk2, .ref 3)])), (wAI [.int 0, .int 0, .int 0, .int 0, .int 0]), (wAI []), (wAI []), (.inr (cn1, [(fk3, .ref 0), (fk4, .int 0), (fk5, .ref 5), (fk6, .ref 6), (fk7, .int 2), (fk8, .int 2)])), (wAI (ia ((M.set nd.toNatClampNeg 2).set nf.toNatClampNeg 2))), (wAI [(.int nd), (.int nf), (.int x2), (.int x3)]), (wAI (ia R)), (wAI (ia R2))] : WHp) 8 rfl _) rfl rfl rfl rfl rfl rfl (Nat.le_of_ble_eq_true rfl) (Nat.le_of_ble_eq_true rfl) ?_
      rintro _ _ _ ⟨rfl, rfl, rfl⟩
      show WGo _ (140, [wI i0, wI i1, wI i2, wI i3, wI i4, wI na, wI nb, wI nc, wI nd, wI nf, wR 0, wR 4, wR 7, wR 8], [.int 1], [(.inr (cn0, [(fk0, .ref 1), (fk1, .ref 2), (fk2, .ref 3)])), (wAI [.int 0, .int 0, .int 0, .int 0, .int 0]), (wAI []), (wAI []), (.inr (cn1, [(fk3, .ref 0), (fk4, .int 0), (fk5, .ref 5), (fk6, .ref 6), (fk7, .int 2), (fk8, .int 2)])), (wAI (ia ((M.set nd.toNatClampNeg 2).set nf.toNatClampNeg 2))), (wAI [(.int nd), (.int nf), (.int x2), (.int x3)]), (wAI (ia R)), (wAI (ia R2))], (u + 2)) _
      refine .s (.ifF a0_140 (by decide)) <| .s (.iconst (1 : Int32) a0_143 rfl) <| .s (.goto a0_144) ?_
      refine .ireturn .boolean a0_148 rfl (by simp) ?_
      exact ⟨rfl, Nat.le_of_ble_eq_true rfl, by omega⟩
set_option maxHeartbeats 4000000 in
theorem au2_48 {Z : State} {a0 : Array Value} (hw : ∀ d ∈ tables_1, d.before a0 Z = true) (ρ : Nat → Nat) (n0 : Nat) (u : Nat) : WGo (g2 Z ρ n0 4 u) (0, [wR 0], [], [(.inr (cn0, [(fk0, .null), (fk1, .null), (fk2, .null)])), (wAI [.int 0, .int 0, .int 0, .int 0, .int 0]), (wAI []), (wAI [])], u) (fun v σ' u' => v = none ∧ [(.inr (cn0, [(fk0, .null), (fk1, .null), (fk2, .null)])), (wAI [.int 0, .int 0, .int 0, .int 0, .int 0]), (wAI []), (wAI [])] = σ' ∧ u = u') := by
  refine .s (.aloadN a2_0 rfl rfl) <| .s (.initO a2_1 (wd hw 12 rfl) (wd hw 13 rfl) (wd hw 14 rfl) rfl (Nat.le_of_ble_eq_true rfl) (Nat.le_of_ble_eq_true rfl)) ?_
  refine .vreturn a2_4 rfl ?_
  exact ⟨rfl, rfl, rfl⟩
set_option maxHeartbeats 4000000 in
theorem au1_47 {Z : State} {a0 : Array Value} (hw : ∀ d ∈ tables_1, d.before a0 Z = true) (ρ : Nat → Nat) (n0 : Nat) (u : Nat) : WGo (g1 Z ρ n0 4 u) (0, [wR 0, wR 1, wR 2, wR 3], [], [(.inr (cn0, [(fk0, .null), (fk1, .null), (fk2, .null)])), (wAI [.int 0, .int 0, .int 0, .int 0, .int 0]), (wAI []), (wAI [])], u) (fun v σ' u' => v = none ∧ [(.inr (cn0, [(fk0, .ref 1), (fk1, .ref 2), (fk2, .ref 3)])), (wAI [.int 0, .int 0, .int 0, .int 0, .int 0]), (wAI []), (wAI [])] = σ' ∧ u = u') := by
  refine .s (.aloadN a1_0 rfl rfl) ?_
  refine .callI (k := 0) a1_1 (ok2 hw _ _ _ _) rfl rfl (wd hw 7 rfl) (wd hw 8 rfl) (by decide) (argsL := []) (S := []) (au2_48 hw _ _ _) rfl rfl rfl rfl rfl rfl (Nat.le_of_ble_eq_true rfl) (Nat.le_of_ble_eq_true rfl) ?_
  rintro _ _ _ ⟨rfl, rfl, rfl⟩
  show WGo _ (4, [wR 0, wR 1, wR 2, wR 3], [], [(.inr (cn0, [(fk0, .null), (fk1, .null), (fk2, .null)])), (wAI [.int 0, .int 0, .int 0, .int 0, .int 0]), (wAI []), (wAI [])], u) _
  refine .s (.aloadN a1_4 rfl rfl) <| .s (.aloadN a1_5 rfl rfl) <| .s (.putF (ty := (.array .int)) 0 (.ref 1) a1_6 (wd hw 15 rfl) rfl rfl (Or.inr ⟨(wd hw 16 rfl), rfl, rfl⟩) (wd hw 1 rfl) (by decide) rfl rfl) ?_
  show WGo _ (9, [wR 0, wR 1, wR 2, wR 3], [], [(.inr (cn0, [(fk0, .ref 1), (fk1, .null), (fk2, .null)])), (wAI [.int 0, .int 0, .int 0, .int 0, .int 0]), (wAI []), (wAI [])], u) _
  refine .s (.aloadN a1_9 rfl rfl) <| .s (.aloadN a1_10 rfl rfl) <| .s (.putF (ty := (.array .int)) 1 (.ref 2) a1_11 (wd hw 17 rfl) rfl rfl (Or.inr ⟨(wd hw 18 rfl), rfl, rfl⟩) (wd hw 1 rfl) (by decide) rfl rfl) ?_
  show WGo _ (14, [wR 0, wR 1, wR 2, wR 3], [], [(.inr (cn0, [(fk0, .ref 1), (fk1, .ref 2), (fk2, .null)])), (wAI [.int 0, .int 0, .int 0, .int 0, .int 0]), (wAI []), (wAI [])], u) _
  refine .s (.aloadN a1_14 rfl rfl) <| .s (.aloadN a1_15 rfl rfl) <| .s (.putF (ty := (.array .int)) 2 (.ref 3) a1_16 (wd hw 19 rfl) rfl rfl (Or.inr ⟨(wd hw 20 rfl), rfl, rfl⟩) (wd hw 1 rfl) (by decide) rfl rfl) ?_
  show WGo _ (19, [wR 0, wR 1, wR 2, wR 3], [], [(.inr (cn0, [(fk0, .ref 1), (fk1, .ref 2), (fk2, .ref 3)])), (wAI [.int 0, .int 0, .int 0, .int 0, .int 0]), (wAI []), (wAI [])], u) _
  refine .vreturn a1_19 rfl ?_
  exact ⟨rfl, rfl, rfl⟩
set_option maxHeartbeats 4000000 in
theorem au5_50 {Z : State} {a0 : Array Value} (hw : ∀ d ∈ tables_1, d.before a0 Z = true) (ρ : Nat → Nat) (n0 : Nat) (u : Nat) : WGo (g5 Z ρ n0 5 u) (0, [wR 0], [], [(.inr (cn0, [(fk0, .ref 1), (fk1, .ref 2), (fk2, .ref 3)])), (wAI [.int 0, .int 0, .int 0, .int 0, .int 0]), (wAI []), (wAI []), (.inr (cn1, [(fk3, .ref 0), (fk4, .int 0), (fk5, .null), (fk6, .null), (fk7, .int 0), (fk8, .int 0)]))], u) (fun v σ' u' => v = some (.int 4) ∧ [(.inr (cn0, [(fk0, .ref 1), (fk1, .ref 2), (fk2, .ref 3)])), (wAI [.int 0, .int 0, .int 0, .int 0, .int 0]), (wAI []), (wAI []), (.inr (cn1, [(fk3, .ref 0), (fk4, .int 0), (fk5, .null), (fk6, .null), (fk7, .int 0), (fk8, .int 0)]))] = σ' ∧ u = u') := by
  refine .s (.aloadN a5_0 rfl rfl) <| .s (.getF 0 a5_1 (wd hw 15 rfl) rfl rfl) <| .s (.alen (5 : Int32) a5_4 rfl rfl) <| .s (.iconst (1 : Int32) a5_5 rfl) <| .s (.isub a5_6) ?_
  show WGo _ (7, [wR 0], [.int 4], [(.inr (cn0, [(fk0, .ref 1), (fk1, .ref 2), (fk2, .ref 3)])), (wAI [.int 0, .int 0, .int 0, .int 0, .int 0]), (wAI []), (wAI []), (.inr (cn1, [(fk3, .ref 0), (fk4, .int 0), (fk5, .null), (fk6, .null), (fk7, .int 0), (fk8, .int 0)]))], u) _
  refine .ireturn .int a5_7 rfl (by simp) ?_
  exact ⟨rfl, rfl, rfl⟩
set_option maxHeartbeats 4000000 in
theorem au5_51 {Z : State} {a0 : Array Value} (hw : ∀ d ∈ tables_1, d.before a0 Z = true) (ρ : Nat → Nat) (n0 : Nat) (u : Nat) : WGo (g5 Z ρ n0 6 u) (0, [wR 0], [], [(.inr (cn0, [(fk0, .ref 1), (fk1, .ref 2), (fk2, .ref 3)])), (wAI [.int 0, .int 0, .int 0, .int 0, .int 0]), (wAI []), (wAI []), (.inr (cn1, [(fk3, .ref 0), (fk4, .int 0), (fk5, .ref 5), (fk6, .null), (fk7, .int 0), (fk8, .int 0)])), (wAI [.int 0, .int 0, .int 0, .int 0])], u) (fun v σ' u' => v = some (.int 4) ∧ [(.inr (cn0, [(fk0, .ref 1), (fk1, .ref 2), (fk2, .ref 3)])), (wAI [.int 0, .int 0, .int 0, .int 0, .int 0]), (wAI []), (wAI []), (.inr (cn1, [(fk3, .ref 0), (fk4, .int 0), (fk5, .ref 5), (fk6, .null), (fk7, .int 0), (fk8, .int 0)])), (wAI [.int 0, .int 0, .int 0, .int 0])] = σ' ∧ u = u') := by
  refine .s (.aloadN a5_0 rfl rfl) <| .s (.getF 0 a5_1 (wd hw 15 rfl) rfl rfl) <| .s (.alen (5 : Int32) a5_4 rfl rfl) <| .s (.iconst (1 : Int32) a5_5 rfl) <| .s (.isub a5_6) ?_
  show WGo _ (7, [wR 0], [.int 4], [(.inr (cn0, [(fk0, .ref 1), (fk1, .ref 2), (fk2, .ref 3)])), (wAI [.int 0, .int 0, .int 0, .int 0, .int 0]), (wAI []), (wAI []), (.inr (cn1, [(fk3, .ref 0), (fk4, .int 0), (fk5, .ref 5), (fk6, .null), (fk7, .int 0), (fk8, .int 0)])), (wAI [.int 0, .int 0, .int 0, .int 0])], u) _
  refine .ireturn .int a5_7 rfl (by simp) ?_
  exact ⟨rfl, rfl, rfl⟩
set_option maxHeartbeats 4000000 in
theorem au4_49 {Z : State} {a0 : Array Value} (hw : ∀ d ∈ tables_1, d.before a0 Z = true) (ρ : Nat → Nat) (n0 : Nat) (u : Nat) : WGo (g4 Z ρ n0 5 u) (0, [wR 4, wR 0, wI 0], [], [(.inr (cn0, [(fk0, .ref 1), (fk1, .ref 2), (fk2, .ref 3)])), (wAI [.int 0, .int 0, .int 0, .int 0, .int 0]), (wAI []), (wAI []), (.inr (cn1, [(fk3, .null), (fk4, .int 0), (fk5, .null), (fk6, .null), (fk7, .int 0), (fk8, .int 0)]))], u) (fun v σ' u' => v = none ∧ [(.inr (cn0, [(fk0, .ref 1), (fk1, .ref 2), (fk2, .ref 3)])), (wAI [.int 0, .int 0, .int 0, .int 0, .int 0]), (wAI []), (wAI []), (.inr (cn1, [(fk3, .ref 0), (fk4, .int 0), (fk5, .ref 5), (fk6, .ref 6), (fk7, .int 0), (fk8, .int 0)])), (wAI [.int 0, .int 0, .int 0, .int 0]), (wAI [.int 0, .int 0, .int 0, .int 0])] = σ' ∧ ((u + 4) + 4) = u') := by
  refine .s (.aloadN a4_0 rfl rfl) <| .s (.initO a4_1 (wd hw 27 rfl) (wd hw 13 rfl) (wd hw 14 rfl) rfl (Nat.le_of_ble_eq_true rfl) (Nat.le_of_ble_eq_true rfl)) <| .s (.aloadN a4_4 rfl rfl) <| .s (.aloadN a4_5 rfl rfl) <| .s (.putF (ty := (.object "com/example/firm_handshake/firmhandshake/lts/Graph")) 0 (.ref 0) a4_6 (wd hw 28 rfl) rfl rfl (Or.inr ⟨(wd hw 29 rfl), rfl, rfl⟩) (wd hw 22 rfl) (by decide) rfl rfl) ?_
  show WGo _ (9, [wR 4, wR 0, wI 0], [], [(.inr (cn0, [(fk0, .ref 1), (fk1, .ref 2), (fk2, .ref 3)])), (wAI [.int 0, .int 0, .int 0, .int 0, .int 0]), (wAI []), (wAI []), (.inr (cn1, [(fk3, .ref 0), (fk4, .int 0), (fk5, .null), (fk6, .null), (fk7, .int 0), (fk8, .int 0)]))], u) _
  refine .s (.aloadN a4_9 rfl rfl) <| .s (.iloadN a4_10 rfl) <| .s (.putF (ty := .int) 1 (.int 0) a4_11 (wd hw 30 rfl) rfl rfl (Or.inr ⟨(wd hw 31 rfl), rfl, rfl⟩) (wd hw 22 rfl) (by decide) rfl rfl) ?_
  show WGo _ (14, [wR 4, wR 0, wI 0], [], [(.inr (cn0, [(fk0, .ref 1), (fk1, .ref 2), (fk2, .ref 3)])), (wAI [.int 0, .int 0, .int 0, .int 0, .int 0]), (wAI []), (wAI []), (.inr (cn1, [(fk3, .ref 0), (fk4, .int 0), (fk5, .null), (fk6, .null), (fk7, .int 0), (fk8, .int 0)]))], u) _
  refine .s (.aloadN a4_14 rfl rfl) <| .s (.aloadN a4_15 rfl rfl) ?_
  refine .callV (k := 0) (z := (⟨"com/example/firm_handshake/firmhandshake/lts/Graph", "nodeCount", "()I"⟩ : MethodName)) a4_16 (ok5 hw _ _ _ _) ⟨rfl, by decide⟩ (wd hw 32 rfl) (wd hw 33 rfl) (fun s hZ => notFace_of_selects (args := #[]) (mvT hZ (wd hw 35 rfl))) (wd hw 35 rfl) (wd hw 34 rfl) rfl (argsL := []) (S := [.ref 4]) (au5_50 hw _ _ _) rfl rfl rfl rfl rfl rfl (Nat.le_of_ble_eq_true rfl) (Nat.le_of_ble_eq_true rfl) ?_
  rintro _ _ _ ⟨rfl, rfl, rfl⟩
  show WGo _ (19, [wR 4, wR 0, wI 0], [.int 4, .ref 4], [(.inr (cn0, [(fk0, .ref 1), (fk1, .ref 2), (fk2, .ref 3)])), (wAI [.int 0, .int 0, .int 0, .int 0, .int 0]), (wAI []), (wAI []), (.inr (cn1, [(fk3, .ref 0), (fk4, .int 0), (fk5, .null), (fk6, .null), (fk7, .int 0), (fk8, .int 0)]))], u) _
  refine .s (.newP (k := 5) (4 : Int32) 4 a4_19 (wd hw 3 rfl) (by decide) rfl (by decide) rfl (by decide)) ?_
  show WGo _ (21, [wR 4, wR 0, wI 0], [.ref 5, .ref 4], [(.inr (cn0, [(fk0, .ref 1), (fk1, .ref 2), (fk2, .ref 3)])), (wAI [.int 0, .int 0, .int 0, .int 0, .int 0]), (wAI []), (wAI []), (.inr (cn1, [(fk3, .ref 0), (fk4, .int 0), (fk5, .null), (fk6, .null), (fk7, .int 0), (fk8, .int 0)])), (wAI [.int 0, .int 0, .int 0, .int 0])], (u + 4)) _
  refine .s (.putF (ty := (.array .int)) 2 (.ref 5) a4_21 (wd hw 37 rfl) rfl rfl (Or.inr ⟨(wd hw 38 rfl), rfl, rfl⟩) (wd hw 22 rfl) (by decide) rfl rfl) ?_
  show WGo _ (24, [wR 4, wR 0, wI 0], [], [(.inr (cn0, [(fk0, .ref 1), (fk1, .ref 2), (fk2, .ref 3)])), (wAI [.int 0, .int 0, .int 0, .int 0, .int 0]), (wAI []), (wAI []), (.inr (cn1, [(fk3, .ref 0), (fk4, .int 0), (fk5, .ref 5), (fk6, .null), (fk7, .int 0), (fk8, .int 0)])), (wAI [.int 0, .int 0, .int 0, .int 0])], (u + 4)) _
  refine .s (.aloadN a4_24 rfl rfl) <| .s (.aloadN a4_25 rfl rfl) ?_
  refine .callV (k := 0) (z := (⟨"com/example/firm_handshake/firmhandshake/lts/Graph", "nodeCount", "()I"⟩ : MethodName)) a4_26 (ok5 hw _ _ _ _) ⟨rfl, by decide⟩ (wd hw 32 rfl) (wd hw 33 rfl) (fun s hZ => notFace_of_selects (args := #[]) (mvT hZ (wd hw 35 rfl))) (wd hw 35 rfl) (wd hw 34 rfl) rfl (argsL := []) (S := [.ref 4]) (au5_51 hw _ _ _) rfl rfl rfl rfl rfl rfl (Nat.le_of_ble_eq_true rfl) (Nat.le_of_ble_eq_true rfl) ?_
  rintro _ _ _ ⟨rfl, rfl, rfl⟩
  show WGo _ (29, [wR 4, wR 0, wI 0], [.int 4, .ref 4], [(.inr (cn0, [(fk0, .ref 1), (fk1, .ref 2), (fk2, .ref 3)])), (wAI [.int 0, .int 0, .int 0, .int 0, .int 0]), (wAI []), (wAI []), (.inr (cn1, [(fk3, .ref 0), (fk4, .int 0), (fk5, .ref 5), (fk6, .null), (fk7, .int 0), (fk8, .int 0)])), (wAI [.int 0, .int 0, .int 0, .int 0])], (u + 4)) _
  refine .s (.newP (k := 6) (4 : Int32) 4 a4_29 (wd hw 3 rfl) (by decide) rfl (by decide) rfl (by decide)) ?_
  show WGo _ (31, [wR 4, wR 0, wI 0], [.ref 6, .ref 4], [(.inr (cn0, [(fk0, .ref 1), (fk1, .ref 2), (fk2, .ref 3)])), (wAI [.int 0, .int 0, .int 0, .int 0, .int 0]), (wAI []), (wAI []), (.inr (cn1, [(fk3, .ref 0), (fk4, .int 0), (fk5, .ref 5), (fk6, .null), (fk7, .int 0), (fk8, .int 0)])), (wAI [.int 0, .int 0, .int 0, .int 0]), (wAI [.int 0, .int 0, .int 0, .int 0])], ((u + 4) + 4)) _
  refine .s (.putF (ty := (.array .int)) 3 (.ref 6) a4_31 (wd hw 39 rfl) rfl rfl (Or.inr ⟨(wd hw 40 rfl), rfl, rfl⟩) (wd hw 22 rfl) (by decide) rfl rfl) ?_
  show WGo _ (34, [wR 4, wR 0, wI 0], [], [(.inr (cn0, [(fk0, .ref 1), (fk1, .ref 2), (fk2, .ref 3)])), (wAI [.int 0, .int 0, .int 0, .int 0, .int 0]), (wAI []), (wAI []), (.inr (cn1, [(fk3, .ref 0), (fk4, .int 0), (fk5, .ref 5), (fk6, .ref 6), (fk7, .int 0), (fk8, .int 0)])), (wAI [.int 0, .int 0, .int 0, .int 0]), (wAI [.int 0, .int 0, .int 0, .int 0])], ((u + 4) + 4)) _
  refine .vreturn a4_34 rfl ?_
  exact ⟨rfl, rfl, rfl⟩
set_option maxHeartbeats 4000000 in
theorem au6_52 {Z : State} {a0 : Array Value} (hw : ∀ d ∈ tables_1, d.before a0 Z = true) (ρ : Nat → Nat) (n0 : Nat) (u : Nat) : WGo (g6 Z ρ n0 7 u) (0, [wR 4], [], [(.inr (cn0, [(fk0, .ref 1), (fk1, .ref 2), (fk2, .ref 3)])), (wAI [.int 0, .int 0, .int 0, .int 0, .int 0]), (wAI []), (wAI []), (.inr (cn1, [(fk3, .ref 0), (fk4, .int 0), (fk5, .ref 5), (fk6, .ref 6), (fk7, .int 0), (fk8, .int 0)])), (wAI [.int 0, .int 0, .int 0, .int 0]), (wAI [.int 0, .int 0, .int 0, .int 0])], u) (fun v σ' u' => v = none ∧ [(.inr (cn0, [(fk0, .ref 1), (fk1, .ref 2), (fk2, .ref 3)])), (wAI [.int 0, .int 0, .int 0, .int 0, .int 0]), (wAI []), (wAI []), (.inr (cn1, [(fk3, .ref 0), (fk4, .int 0), (fk5, .ref 5), (fk6, .ref 6), (fk7, .int 1), (fk8, .int 0)])), (wAI [.int 0, .int 0, .int 0, .int 0]), (wAI [.int 0, .int 0, .int 0, .int 0])] = σ' ∧ u = u') := by
  refine .s (.aloadN a6_0 rfl rfl) <| .s (.dup a6_1 rfl) <| .s (.getF 4 a6_2 (wd hw 46 rfl) rfl rfl) <| .s (.iconst (1 : Int32) a6_5 rfl) <| .s (.iadd a6_6) ?_
  show WGo _ (7, [wR 4], [.int 1, .ref 4], [(.inr (cn0, [(fk0, .ref 1), (fk1, .ref 2), (fk2, .ref 3)])), (wAI [.int 0, .int 0, .int 0, .int 0, .int 0]), (wAI []), (wAI []), (.inr (cn1, [(fk3, .ref 0), (fk4, .int 0), (fk5, .ref 5), (fk6, .ref 6), (fk7, .int 0), (fk8, .int 0)])), (wAI [.int 0, .int 0, .int 0, .int 0]), (wAI [.int 0, .int 0, .int 0, .int 0])], u) _
  refine .s (.putF (ty := .int) 4 (.int 1) a6_7 (wd hw 46 rfl) rfl rfl (Or.inl (wd hw 47 rfl)) (wd hw 22 rfl) (by decide) rfl rfl) ?_
  show WGo _ (10, [wR 4], [], [(.inr (cn0, [(fk0, .ref 1), (fk1, .ref 2), (fk2, .ref 3)])), (wAI [.int 0, .int 0, .int 0, .int 0, .int 0]), (wAI []), (wAI []), (.inr (cn1, [(fk3, .ref 0), (fk4, .int 0), (fk5, .ref 5), (fk6, .ref 6), (fk7, .int 1), (fk8, .int 0)])), (wAI [.int 0, .int 0, .int 0, .int 0]), (wAI [.int 0, .int 0, .int 0, .int 0])], u) _
  refine .s (.aloadN a6_10 rfl rfl) <| .s (.iconst (0 : Int32) a6_11 rfl) <| .s (.putF (ty := .int) 5 (.int 0) a6_12 (wd hw 48 rfl) rfl rfl (Or.inl (wd hw 49 rfl)) (wd hw 22 rfl) (by decide) rfl rfl) ?_
  show WGo _ (15, [wR 4], [], [(.inr (cn0, [(fk0, .ref 1), (fk1, .ref 2), (fk2, .ref 3)])), (wAI [.int 0, .int 0, .int 0, .int 0, .int 0]), (wAI []), (wAI []), (.inr (cn1, [(fk3, .ref 0), (fk4, .int 0), (fk5, .ref 5), (fk6, .ref 6), (fk7, .int 1), (fk8, .int 0)])), (wAI [.int 0, .int 0, .int 0, .int 0]), (wAI [.int 0, .int 0, .int 0, .int 0])], u) _
  refine .vreturn a6_15 rfl ?_
  exact ⟨rfl, rfl, rfl⟩
set_option maxHeartbeats 40000000 in
theorem law_go (Z : State) (a0 : Array Value) (hw : ∀ d ∈ tables_1, d.before a0 Z = true) (n0 : Nat) (i0 i1 i2 i3 i4 : Int32) : WGo (g0 Z (fun k => n0 + k) n0 0 0) (0, [wI i0, wI i1, wI i2, wI i3, wI i4, wU, wU, wU, wU, wU, wU, wU, wU, wU], [], [], 0) (fun v σ' u' => v = some (.int 1) ∧ σ'.length ≤ 32 ∧ u' ≤ 128) := by
  refine .s (.iloadN a0_0 rfl) <| .s (.iconst (3 : Int32) a0_1 rfl) <| .s (.iand a0_2) ?_
  generalize hg_na : (i0 &&& (3 : Int32)) = na
  have hna := ix4_mask i0
  rw [hg_na] at hna
  refine .s (.istore (L' := [wI i0, wI i1, wI i2, wI i3, wI i4, wI na, wU, wU, wU, wU, wU, wU, wU, wU]) a0_3 rfl) <| .s (.iloadN a0_5 rfl) <| .s (.iconst (3 : Int32) a0_6 rfl) <| .s (.iand a0_7) ?_
  generalize hg_nb : (i1 &&& (3 : Int32)) = nb
  have hnb := ix4_mask i1
  rw [hg_nb] at hnb
  refine .s (.istore (L' := [wI i0, wI i1, wI i2, wI i3, wI i4, wI na, wI nb, wU, wU, wU, wU, wU, wU, wU]) a0_8 rfl) <| .s (.iloadN a0_10 rfl) <| .s (.iconst (3 : Int32) a0_11 rfl) <| .s (.iand a0_12) ?_
  generalize hg_nc : (i2 &&& (3 : Int32)) = nc
  have hnc := ix4_mask i2
  rw [hg_nc] at hnc
  refine .s (.istore (L' := [wI i0, wI i1, wI i2, wI i3, wI i4, wI na, wI nb, wI nc, wU, wU, wU, wU, wU, wU]) a0_13 rfl) <| .s (.iloadN a0_15 rfl) <| .s (.iconst (3 : Int32) a0_16 rfl) <| .s (.iand a0_17) ?_
  generalize hg_nd : (i3 &&& (3 : Int32)) = nd
  have hnd := ix4_mask i3
  rw [hg_nd] at hnd
  refine .s (.istore (L' := [wI i0, wI i1, wI i2, wI i3, wI i4, wI na, wI nb, wI nc, wI nd, wU, wU, wU, wU, wU]) a0_18 rfl) <| .s (.iload a0_20 rfl) <| .s (.iconst (3 : Int32) a0_22 rfl) <| .s (.iand a0_23) ?_
  generalize hg_nf : (i4 &&& (3 : Int32)) = nf
  have hnf := ix4_mask i4
  rw [hg_nf] at hnf
  refine .s (.istore (L' := [wI i0, wI i1, wI i2, wI i3, wI i4, wI na, wI nb, wI nc, wI nd, wI nf, wU, wU, wU, wU]) a0_24 rfl) <| .s (.newO (k := 0) [(fk0, .null), (fk1, .null), (fk2, .null)] a0_26 (wd hw 0 rfl) (wd hw 1 rfl) (wd hw 2 rfl) ⟨⟨Or.inr (wd hw 16 rfl), (.array .int), by decide, rfl⟩, ⟨Or.inr (wd hw 18 rfl), (.array .int), by decide, rfl⟩, ⟨Or.inr (wd hw 20 rfl), (.array .int), by decide, rfl⟩, trivial⟩ (by decide) rfl (by decide)) ?_
  show WGo _ (29, [wI i0, wI i1, wI i2, wI i3, wI i4, wI na, wI nb, wI nc, wI nd, wI nf, wU, wU, wU, wU], [.ref 0], [(.inr (cn0, [(fk0, .null), (fk1, .null), (fk2, .null)]))], 3) _
  refine .s (.dup a0_29 rfl) <| .s (.iconst (5 : Int32) a0_30 rfl) <| .s (.newP (k := 1) (5 : Int32) 5 a0_31 (wd hw 3 rfl) (by decide) rfl (by decide) rfl (by decide)) ?_
  show WGo _ (33, [wI i0, wI i1, wI i2, wI i3, wI i4, wI na, wI nb, wI nc, wI nd, wI nf, wU, wU, wU, wU], [.ref 1, .ref 0, .ref 0], [(.inr (cn0, [(fk0, .null), (fk1, .null), (fk2, .null)])), (wAI [.int 0, .int 0, .int 0, .int 0, .int 0])], 8) _
  refine .s (.iconst (0 : Int32) a0_33 rfl) <| .s (.newP (k := 2) (0 : Int32) 0 a0_34 (wd hw 3 rfl) (by decide) rfl (by decide) rfl (by decide)) ?_
  show WGo _ (36, [wI i0, wI i1, wI i2, wI i3, wI i4, wI na, wI nb, wI nc, wI nd, wI nf, wU, wU, wU, wU], [.ref 2, .ref 1, .ref 0, .ref 0], [(.inr (cn0, [(fk0, .null), (fk1, .null), (fk2, .null)])), (wAI [.int 0, .int 0, .int 0, .int 0, .int 0]), (wAI [])], 8) _
  refine .s (.iconst (0 : Int32) a0_36 rfl) <| .s (.newP (k := 3) (0 : Int32) 0 a0_37 (wd hw 3 rfl) (by decide) rfl (by decide) rfl (by decide)) ?_
  show WGo _ (39, [wI i0, wI i1, wI i2, wI i3, wI i4, wI na, wI nb, wI nc, wI nd, wI nf, wU, wU, wU, wU], [.ref 3, .ref 2, .ref 1, .ref 0, .ref 0], [(.inr (cn0, [(fk0, .null), (fk1, .null), (fk2, .null)])), (wAI [.int 0, .int 0, .int 0, .int 0, .int 0]), (wAI []), (wAI [])], 8) _
  refine .callI (k := 0) a0_39 (ok1 hw _ _ _ _) rfl rfl (wd hw 4 rfl) (wd hw 5 rfl) (by decide) (argsL := [.ref 1, .ref 2, .ref 3]) (S := [.ref 0]) (au1_47 hw _ _ _) rfl rfl rfl rfl rfl rfl (Nat.le_of_ble_eq_true rfl) (Nat.le_of_ble_eq_true rfl) ?_
  rintro _ _ _ ⟨rfl, rfl, rfl⟩
  show WGo _ (42, [wI i0, wI i1, wI i2, wI i3, wI i4, wI na, wI nb, wI nc, wI nd, wI nf, wU, wU, wU, wU], [.ref 0], [(.inr (cn0, [(fk0, .ref 1), (fk1, .ref 2), (fk2, .ref 3)])), (wAI [.int 0, .int 0, .int 0, .int 0, .int 0]), (wAI []), (wAI [])], 8) _
  refine .s (.astore (L' := [wI i0, wI i1, wI i2, wI i3, wI i4, wI na, wI nb, wI nc, wI nd, wI nf, wR 0, wU, wU, wU]) a0_42 rfl rfl) <| .s (.newO (k := 4) [(fk3, .null), (fk4, .int 0), (fk5, .null), (fk6, .null), (fk7, .int 0), (fk8, .int 0)] a0_44 (wd hw 21 rfl) (wd hw 22 rfl) (wd hw 23 rfl) ⟨⟨Or.inr (wd hw 29 rfl), (.object "com/example/firm_handshake/firmhandshake/lts/Graph"), by decide, rfl⟩, ⟨Or.inr (wd hw 31 rfl), .int, by decide, rfl⟩, ⟨Or.inr (wd hw 38 rfl), (.array .int), by decide, rfl⟩, ⟨Or.inr (wd hw 40 rfl), (.array .int), by decide, rfl⟩, ⟨Or.inl (wd hw 47 rfl), .int, by decide, rfl⟩, ⟨Or.inl (wd hw 49 rfl), .int, by decide, rfl⟩, trivial⟩ (by decide) rfl (by decide)) ?_
  show WGo _ (47, [wI i0, wI i1, wI i2, wI i3, wI i4, wI na, wI nb, wI nc, wI nd, wI nf, wR 0, wU, wU, wU], [.ref 4], [(.inr (cn0, [(fk0, .ref 1), (fk1, .ref 2), (fk2, .ref 3)])), (wAI [.int 0, .int 0, .int 0, .int 0, .int 0]), (wAI []), (wAI []), (.inr (cn1, [(fk3, .null), (fk4, .int 0), (fk5, .null), (fk6, .null), (fk7, .int 0), (fk8, .int 0)]))], 14) _
  refine .s (.dup a0_47 rfl) <| .s (.aload a0_48 rfl rfl) <| .s (.iconst (0 : Int32) a0_50 rfl) ?_
  refine .callI (k := 4) a0_51 (ok4 hw _ _ _ _) rfl rfl (wd hw 24 rfl) (wd hw 25 rfl) (by decide) (argsL := [.ref 0, .int 0]) (S := [.ref 4]) (au4_49 hw _ _ _) rfl rfl rfl rfl rfl rfl (Nat.le_of_ble_eq_true rfl) (Nat.le_of_ble_eq_true rfl) ?_
  rintro _ _ _ ⟨rfl, rfl, rfl⟩
  show WGo _ (54, [wI i0, wI i1, wI i2, wI i3, wI i4, wI na, wI nb, wI nc, wI nd, wI nf, wR 0, wU, wU, wU], [.ref 4], [(.inr (cn0, [(fk0, .ref 1), (fk1, .ref 2), (fk2, .ref 3)])), (wAI [.int 0, .int 0, .int 0, .int 0, .int 0]), (wAI []), (wAI []), (.inr (cn1, [(fk3, .ref 0), (fk4, .int 0), (fk5, .ref 5), (fk6, .ref 6), (fk7, .int 0), (fk8, .int 0)])), (wAI [.int 0, .int 0, .int 0, .int 0]), (wAI [.int 0, .int 0, .int 0, .int 0])], 22) _
  refine .s (.astore (L' := [wI i0, wI i1, wI i2, wI i3, wI i4, wI na, wI nb, wI nc, wI nd, wI nf, wR 0, wR 4, wU, wU]) a0_54 rfl rfl) <| .s (.aload a0_56 rfl rfl) ?_
  refine .callV (k := 4) (z := (⟨"com/example/firm_handshake/firmhandshake/lts/InternalClosure", "open", "()V"⟩ : MethodName)) a0_58 (ok6 hw _ _ _ _) ⟨rfl, by decide⟩ (wd hw 41 rfl) (wd hw 42 rfl) (fun s hZ => notFace_of_selects (args := #[]) (mvT hZ (wd hw 44 rfl))) (wd hw 44 rfl) (wd hw 43 rfl) rfl (argsL := []) (S := []) (au6_52 hw _ _ _) rfl rfl rfl rfl rfl rfl (Nat.le_of_ble_eq_true rfl) (Nat.le_of_ble_eq_true rfl) ?_
  rintro _ _ _ ⟨rfl, rfl, rfl⟩
  show WGo _ (61, [wI i0, wI i1, wI i2, wI i3, wI i4, wI na, wI nb, wI nc, wI nd, wI nf, wR 0, wR 4, wU, wU], [], [(.inr (cn0, [(fk0, .ref 1), (fk1, .ref 2), (fk2, .ref 3)])), (wAI [.int 0, .int 0, .int 0, .int 0, .int 0]), (wAI []), (wAI []), (.inr (cn1, [(fk3, .ref 0), (fk4, .int 0), (fk5, .ref 5), (fk6, .ref 6), (fk7, .int 1), (fk8, .int 0)])), (wAI [.int 0, .int 0, .int 0, .int 0]), (wAI [.int 0, .int 0, .int 0, .int 0])], 22) _
  refine .s (.aload a0_61 rfl rfl) <| .s (.iload a0_63 rfl) ?_
  refine .callV (k := 4) (z := (⟨"com/example/firm_handshake/firmhandshake/lts/InternalClosure", "seed", "(I)V"⟩ : MethodName)) a0_65 (ok7 hw _ _ _ _) ⟨rfl, by decide⟩ (wd hw 50 rfl) (wd hw 51 rfl) (fun s hZ => notFace_of_selects (args := #[]) (mvT hZ (wd hw 53 rfl))) (wd hw 53 rfl) (wd hw 52 rfl) rfl (argsL := [(.int na)]) (S := []) (cseed_1_0 hw _ _ (.inr (cn0, [(fk0, .ref 1), (fk1, .ref 2), (fk2, .ref 3)])) (wAI [.int 0, .int 0, .int 0, .int 0, .int 0]) (wAI []) (wAI []) [0, 0, 0, 0] (by simp) (0 : Int32) (0 : Int32) (0 : Int32) (0 : Int32) na hna _) rfl rfl rfl rfl rfl rfl (Nat.le_of_ble_eq_true rfl) (Nat.le_of_ble_eq_true rfl) ?_
  rintro _ _ _ (⟨s1, rfl, rfl, rfl⟩ | ⟨s1, rfl, rfl, rfl⟩)
  · exact absurd (s1.symm.trans (mkk_zero hna)) (by decide)
  · skip
    show WGo _ (68, [wI i0, wI i1, wI i2, wI i3, wI i4, wI na, wI nb, wI nc, wI nd, wI nf, wR 0, wR 4, wU, wU], [], [(.inr (cn0, [(fk0, .ref 1), (fk1, .ref 2), (fk2, .ref 3)])), (wAI [.int 0, .int 0, .int 0, .int 0, .int 0]), (wAI []), (wAI []), (.inr (cn1, [(fk3, .ref 0), (fk4, .int 0), (fk5, .ref 5), (fk6, .ref 6), (fk7, .int 1), (fk8, .int 1)])), (wAI (ia ([0, 0, 0, 0].set na.toNatClampNeg 1))), (wAI [(.int na), .int 0, .int 0, .int 0])], 22) _
    refine .s (.aload a0_68 rfl rfl) <| .s (.iload a0_70 rfl) ?_
    refine .callV (k := 4) (z := (⟨"com/example/firm_handshake/firmhandshake/lts/InternalClosure", "seed", "(I)V"⟩ : MethodName)) a0_72 (ok7 hw _ _ _ _) ⟨rfl, by decide⟩ (wd hw 50 rfl) (wd hw 51 rfl) (fun s hZ => notFace_of_selects (args := #[]) (mvT hZ (wd hw 53 rfl))) (wd hw 53 rfl) (wd hw 52 rfl) rfl (argsL := [(.int nb)]) (S := []) (cseed_1_1 hw _ _ (.inr (cn0, [(fk0, .ref 1), (fk1, .ref 2), (fk2, .ref 3)])) (wAI [.int 0, .int 0, .int 0, .int 0, .int 0]) (wAI []) (wAI []) ([0, 0, 0, 0].set na.toNatClampNeg 1) (by simp) na (0 : Int32) (0 : Int32) (0 : Int32) nb hnb _) rfl rfl rfl rfl rfl rfl (Nat.le_of_ble_eq_true rfl) (Nat.le_of_ble_eq_true rfl) ?_
    rintro _ _ _ (⟨s2, rfl, rfl, rfl⟩ | ⟨s2, rfl, rfl, rfl⟩)
    · have e2 : nb = na := Classical.byContradiction fun q => by rw [mkk_other _ hna hnb q] at s2; rw [mkk_zero hnb] at s2; exact absurd s2 (by decide)
      show WGo _ (75, [wI i0, wI i1, wI i2, wI i3, wI i4, wI na, wI nb, wI nc, wI nd, wI nf, wR 0, wR 4, wU, wU], [], [(.inr (cn0, [(fk0, .ref 1), (fk1, .ref 2), (fk2, .ref 3)])), (wAI [.int 0, .int 0, .int 0, .int 0, .int 0]), (wAI []), (wAI []), (.inr (cn1, [(fk3, .ref 0), (fk4, .int 0), (fk5, .ref 5), (fk6, .ref 6), (fk7, .int 1), (fk8, .int 1)])), (wAI (ia ([0, 0, 0, 0].set na.toNatClampNeg 1))), (wAI [(.int na), .int 0, .int 0, .int 0])], 22) _
      refine .s (.aload a0_75 rfl rfl) <| .s (.iload a0_77 rfl) ?_
      refine .callV (k := 4) (z := (⟨"com/example/firm_handshake/firmhandshake/lts/InternalClosure", "seed", "(I)V"⟩ : MethodName)) a0_79 (ok7 hw _ _ _ _) ⟨rfl, by decide⟩ (wd hw 50 rfl) (wd hw 51 rfl) (fun s hZ => notFace_of_selects (args := #[]) (mvT hZ (wd hw 53 rfl))) (wd hw 53 rfl) (wd hw 52 rfl) rfl (argsL := [(.int nc)]) (S := []) (cseed_1_1 hw _ _ (.inr (cn0, [(fk0, .ref 1), (fk1, .ref 2), (fk2, .ref 3)])) (wAI [.int 0, .int 0, .int 0, .int 0, .int 0]) (wAI []) (wAI []) ([0, 0, 0, 0].set na.toNatClampNeg 1) (by simp) na (0 : Int32) (0 : Int32) (0 : Int32) nc hnc _) rfl rfl rfl rfl rfl rfl (Nat.le_of_ble_eq_true rfl) (Nat.le_of_ble_eq_true rfl) ?_
      rintro _ _ _ (⟨s3, rfl, rfl, rfl⟩ | ⟨s3, rfl, rfl, rfl⟩)
      · have e3 : nc = na := Classical.byContradiction fun q => by rw [mkk_other _ hna hnc q] at s3; rw [mkk_zero hnc] at s3; exact absurd s3 (by decide)
        show WGo _ (82, [wI i0, wI i1, wI i2, wI i3, wI i4, wI na, wI nb, wI nc, wI nd, wI nf, wR 0, wR 4, wU, wU], [], [(.inr (cn0, [(fk0, .ref 1), (fk1, .ref 2), (fk2, .ref 3)])), (wAI [.int 0, .int 0, .int 0, .int 0, .int 0]), (wAI []), (wAI []), (.inr (cn1, [(fk3, .ref 0), (fk4, .int 0), (fk5, .ref 5), (fk6, .ref 6), (fk7, .int 1), (fk8, .int 1)])), (wAI (ia ([0, 0, 0, 0].set na.toNatClampNeg 1))), (wAI [(.int na), .int 0, .int 0, .int 0])], 22) _
        refine .s (.aload a0_82 rfl rfl) ?_
        refine .callV (k := 4) (z := (⟨"com/example/firm_handshake/firmhandshake/lts/InternalClosure", "close", "()[I"⟩ : MethodName)) a0_84 (ok8 hw _ _ _ _) ⟨rfl, by decide⟩ (wd hw 55 rfl) (wd hw 56 rfl) (fun s hZ => notFace_of_selects (args := #[]) (mvT hZ (wd hw 58 rfl))) (wd hw 58 rfl) (wd hw 57 rfl) rfl (argsL := []) (S := []) (ccl_1_0 hw _ _ (wAI []) (wAI []) (wAI (ia ([0, 0, 0, 0].set na.toNatClampNeg 1))) na (0 : Int32) (0 : Int32) (0 : Int32) hna _) rfl rfl rfl rfl rfl rfl (Nat.le_of_ble_eq_true rfl) (Nat.le_of_ble_eq_true rfl) ?_
        rintro _ _ _ ⟨R1, hR1, rfl, rfl, rfl⟩
        show WGo _ (87, [wI i0, wI i1, wI i2, wI i3, wI i4, wI na, wI nb, wI nc, wI nd, wI nf, wR 0, wR 4, wU, wU], [.ref 7], [(.inr (cn0, [(fk0, .ref 1), (fk1, .ref 2), (fk2, .ref 3)])), (wAI [.int 0, .int 0, .int 0, .int 0, .int 0]), (wAI []), (wAI []), (.inr (cn1, [(fk3, .ref 0), (fk4, .int 0), (fk5, .ref 5), (fk6, .ref 6), (fk7, .int 1), (fk8, .int 1)])), (wAI (ia ([0, 0, 0, 0].set na.toNatClampNeg 1))), (wAI [(.int na), .int 0, .int 0, .int 0]), (wAI (ia R1))], 23) _
        exact half2 Z a0 hw n0 i0 i1 i2 i3 i4 na nb nc nd nf hnd hnf ([0, 0, 0, 0].set na.toNatClampNeg 1) (by simp) (no2_set (by simp) hna no2_zero) na (0 : Int32) (0 : Int32) (0 : Int32) (1 : Int32) R1 (is1 hR1 rfl e2 e3) _ (by decide)
      · have e3 : ¬ nc = na := fun q => s3 (by rw [q]; exact mkk_same _ rfl hna)
        show WGo _ (82, [wI i0, wI i1, wI i2, wI i3, wI i4, wI na, wI nb, wI nc, wI nd, wI nf, wR 0, wR 4, wU, wU], [], [(.inr (cn0, [(fk0, .ref 1), (fk1, .ref 2), (fk2, .ref 3)])), (wAI [.int 0, .int 0, .int 0, .int 0, .int 0]), (wAI []), (wAI []), (.inr (cn1, [(fk3, .ref 0), (fk4, .int 0), (fk5, .ref 5), (fk6, .ref 6), (fk7, .int 1), (fk8, .int 2)])), (wAI (ia (([0, 0, 0, 0].set na.toNatClampNeg 1).set nc.toNatClampNeg 1))), (wAI [(.int na), (.int nc), .int 0, .int 0])], 22) _
        refine .s (.aload a0_82 rfl rfl) ?_
        refine .callV (k := 4) (z := (⟨"com/example/firm_handshake/firmhandshake/lts/InternalClosure", "close", "()[I"⟩ : MethodName)) a0_84 (ok8 hw _ _ _ _) ⟨rfl, by decide⟩ (wd hw 55 rfl) (wd hw 56 rfl) (fun s hZ => notFace_of_selects (args := #[]) (mvT hZ (wd hw 58 rfl))) (wd hw 58 rfl) (wd hw 57 rfl) rfl (argsL := []) (S := []) (ccl_2_0 hw _ _ (wAI []) (wAI []) (wAI (ia (([0, 0, 0, 0].set na.toNatClampNeg 1).set nc.toNatClampNeg 1))) na nc (0 : Int32) (0 : Int32) hna hnc _) rfl rfl rfl rfl rfl rfl (Nat.le_of_ble_eq_true rfl) (Nat.le_of_ble_eq_true rfl) ?_
        rintro _ _ _ ⟨R1, hR1, rfl, rfl, rfl⟩
        show WGo _ (87, [wI i0, wI i1, wI i2, wI i3, wI i4, wI na, wI nb, wI nc, wI nd, wI nf, wR 0, wR 4, wU, wU], [.ref 7], [(.inr (cn0, [(fk0, .ref 1), (fk1, .ref 2), (fk2, .ref 3)])), (wAI [.int 0, .int 0, .int 0, .int 0, .int 0]), (wAI []), (wAI []), (.inr (cn1, [(fk3, .ref 0), (fk4, .int 0), (fk5, .ref 5), (fk6, .ref 6), (fk7, .int 1), (fk8, .int 2)])), (wAI (ia (([0, 0, 0, 0].set na.toNatClampNeg 1).set nc.toNatClampNeg 1))), (wAI [(.int na), (.int nc), .int 0, .int 0]), (wAI (ia R1))], 24) _
        exact half2 Z a0 hw n0 i0 i1 i2 i3 i4 na nb nc nd nf hnd hnf (([0, 0, 0, 0].set na.toNatClampNeg 1).set nc.toNatClampNeg 1) (by simp) (no2_set (by simp) hnc (no2_set (by simp) hna no2_zero)) na nc (0 : Int32) (0 : Int32) (2 : Int32) R1 (is2 hR1 e3 (by simp [dst, e2, e3]) (Or.inl rfl) (Or.inl e2.symm) (Or.inr rfl)) _ (by decide)
    · have e2 : ¬ nb = na := fun q => s2 (by rw [q]; exact mkk_same _ rfl hna)
      show WGo _ (75, [wI i0, wI i1, wI i2, wI i3, wI i4, wI na, wI nb, wI nc, wI nd, wI nf, wR 0, wR 4, wU, wU], [], [(.inr (cn0, [(fk0, .ref 1), (fk1, .ref 2), (fk2, .ref 3)])), (wAI [.int 0, .int 0, .int 0, .int 0, .int 0]), (wAI []), (wAI []), (.inr (cn1, [(fk3, .ref 0), (fk4, .int 0), (fk5, .ref 5), (fk6, .ref 6), (fk7, .int 1), (fk8, .int 2)])), (wAI (ia (([0, 0, 0, 0].set na.toNatClampNeg 1).set nb.toNatClampNeg 1))), (wAI [(.int na), (.int nb), .int 0, .int 0])], 22) _
      refine .s (.aload a0_75 rfl rfl) <| .s (.iload a0_77 rfl) ?_
      refine .callV (k := 4) (z := (⟨"com/example/firm_handshake/firmhandshake/lts/InternalClosure", "seed", "(I)V"⟩ : MethodName)) a0_79 (ok7 hw _ _ _ _) ⟨rfl, by decide⟩ (wd hw 50 rfl) (wd hw 51 rfl) (fun s hZ => notFace_of_selects (args := #[]) (mvT hZ (wd hw 53 rfl))) (wd hw 53 rfl) (wd hw 52 rfl) rfl (argsL := [(.int nc)]) (S := []) (cseed_1_2 hw _ _ (.inr (cn0, [(fk0, .ref 1), (fk1, .ref 2), (fk2, .ref 3)])) (wAI [.int 0, .int 0, .int 0, .int 0, .int 0]) (wAI []) (wAI []) (([0, 0, 0, 0].set na.toNatClampNeg 1).set nb.toNatClampNeg 1) (by simp) na nb (0 : Int32) (0 : Int32) nc hnc _) rfl rfl rfl rfl rfl rfl (Nat.le_of_ble_eq_true rfl) (Nat.le_of_ble_eq_true rfl) ?_
      rintro _ _ _ (⟨s3, rfl, rfl, rfl⟩ | ⟨s3, rfl, rfl, rfl⟩)
      · have e3 : nc = na ∨ nc = nb := Classical.byContradiction fun q => by rw [mkk_other _ hnb hnc (fun z => q (Or.inr z)), mkk_other _ hna hnc (fun z => q (Or.inl z)), mkk_zero hnc] at s3; exact absurd s3 (by decide)
        show WGo _ (82, [wI i0, wI i1, wI i2, wI i3, wI i4, wI na, wI nb, wI nc, wI nd, wI nf, wR 0, wR 4, wU, wU], [], [(.inr (cn0, [(fk0, .ref 1), (fk1, .ref 2), (fk2, .ref 3)])), (wAI [.int 0, .int 0, .int 0, .int 0, .int 0]), (wAI []), (wAI []), (.inr (cn1, [(fk3, .ref 0), (fk4, .int 0), (fk5, .ref 5), (fk6, .ref 6), (fk7, .int 1), (fk8, .int 2)])), (wAI (ia (([0, 0, 0, 0].set na.toNatClampNeg 1).set nb.toNatClampNeg 1))), (wAI [(.int na), (.int nb), .int 0, .int 0])], 22) _
        refine .s (.aload a0_82 rfl rfl) ?_
        refine .callV (k := 4) (z := (⟨"com/example/firm_handshake/firmhandshake/lts/InternalClosure", "close", "()[I"⟩ : MethodName)) a0_84 (ok8 hw _ _ _ _) ⟨rfl, by decide⟩ (wd hw 55 rfl) (wd hw 56 rfl) (fun s hZ => notFace_of_selects (args := #[]) (mvT hZ (wd hw 58 rfl))) (wd hw 58 rfl) (wd hw 57 rfl) rfl (argsL := []) (S := []) (ccl_2_0 hw _ _ (wAI []) (wAI []) (wAI (ia (([0, 0, 0, 0].set na.toNatClampNeg 1).set nb.toNatClampNeg 1))) na nb (0 : Int32) (0 : Int32) hna hnb _) rfl rfl rfl rfl rfl rfl (Nat.le_of_ble_eq_true rfl) (Nat.le_of_ble_eq_true rfl) ?_
        rintro _ _ _ ⟨R1, hR1, rfl, rfl, rfl⟩
        show WGo _ (87, [wI i0, wI i1, wI i2, wI i3, wI i4, wI na, wI nb, wI nc, wI nd, wI nf, wR 0, wR 4, wU, wU], [.ref 7], [(.inr (cn0, [(fk0, .ref 1), (fk1, .ref 2), (fk2, .ref 3)])), (wAI [.int 0, .int 0, .int 0, .int 0, .int 0]), (wAI []), (wAI []), (.inr (cn1, [(fk3, .ref 0), (fk4, .int 0), (fk5, .ref 5), (fk6, .ref 6), (fk7, .int 1), (fk8, .int 2)])), (wAI (ia (([0, 0, 0, 0].set na.toNatClampNeg 1).set nb.toNatClampNeg 1))), (wAI [(.int na), (.int nb), .int 0, .int 0]), (wAI (ia R1))], 24) _
        exact half2 Z a0 hw n0 i0 i1 i2 i3 i4 na nb nc nd nf hnd hnf (([0, 0, 0, 0].set na.toNatClampNeg 1).set nb.toNatClampNeg 1) (by simp) (no2_set (by simp) hnb (no2_set (by simp) hna no2_zero)) na nb (0 : Int32) (0 : Int32) (2 : Int32) R1 (is2 hR1 e2 (by rcases e3 with q | q <;> simp [dst, e2, q]) (Or.inl rfl) (Or.inr rfl) (e3.imp Eq.symm Eq.symm)) _ (by decide)
      · have e3a : ¬ nc = nb := fun q => s3 (by rw [q]; exact mkk_same _ (by simp) hnb)
        have e3b : ¬ nc = na := fun q => s3 (by rw [q, mkk_other _ hnb hna (fun z => e2 z.symm)]; exact mkk_same _ rfl hna)
        show WGo _ (82, [wI i0, wI i1, wI i2, wI i3, wI i4, wI na, wI nb, wI nc, wI nd, wI nf, wR 0, wR 4, wU, wU], [], [(.inr (cn0, [(fk0, .ref 1), (fk1, .ref 2), (fk2, .ref 3)])), (wAI [.int 0, .int 0, .int 0, .int 0, .int 0]), (wAI []), (wAI []), (.inr (cn1, [(fk3, .ref 0), (fk4, .int 0), (fk5, .ref 5), (fk6, .ref 6), (fk7, .int 1), (fk8, .int 3)])), (wAI (ia ((([0, 0, 0, 0].set na.toNatClampNeg 1).set nb.toNatClampNeg 1).set nc.toNatClampNeg 1))), (wAI [(.int na), (.int nb), (.int nc), .int 0])], 22) _
        refine .s (.aload a0_82 rfl rfl) ?_
        refine .callV (k := 4) (z := (⟨"com/example/firm_handshake/firmhandshake/lts/InternalClosure", "close", "()[I"⟩ : MethodName)) a0_84 (ok8 hw _ _ _ _) ⟨rfl, by decide⟩ (wd hw 55 rfl) (wd hw 56 rfl) (fun s hZ => notFace_of_selects (args := #[]) (mvT hZ (wd hw 58 rfl))) (wd hw 58 rfl) (wd hw 57 rfl) rfl (argsL := []) (S := []) (ccl_3_0 hw _ _ (wAI []) (wAI []) (wAI (ia ((([0, 0, 0, 0].set na.toNatClampNeg 1).set nb.toNatClampNeg 1).set nc.toNatClampNeg 1))) na nb nc (0 : Int32) hna hnb hnc _) rfl rfl rfl rfl rfl rfl (Nat.le_of_ble_eq_true rfl) (Nat.le_of_ble_eq_true rfl) ?_
        rintro _ _ _ ⟨R1, hR1, rfl, rfl, rfl⟩
        show WGo _ (87, [wI i0, wI i1, wI i2, wI i3, wI i4, wI na, wI nb, wI nc, wI nd, wI nf, wR 0, wR 4, wU, wU], [.ref 7], [(.inr (cn0, [(fk0, .ref 1), (fk1, .ref 2), (fk2, .ref 3)])), (wAI [.int 0, .int 0, .int 0, .int 0, .int 0]), (wAI []), (wAI []), (.inr (cn1, [(fk3, .ref 0), (fk4, .int 0), (fk5, .ref 5), (fk6, .ref 6), (fk7, .int 1), (fk8, .int 3)])), (wAI (ia ((([0, 0, 0, 0].set na.toNatClampNeg 1).set nb.toNatClampNeg 1).set nc.toNatClampNeg 1))), (wAI [(.int na), (.int nb), (.int nc), .int 0]), (wAI (ia R1))], 25) _
        exact half2 Z a0 hw n0 i0 i1 i2 i3 i4 na nb nc nd nf hnd hnf ((([0, 0, 0, 0].set na.toNatClampNeg 1).set nb.toNatClampNeg 1).set nc.toNatClampNeg 1) (by simp) (no2_set (by simp) hnc (no2_set (by simp) hnb (no2_set (by simp) hna no2_zero))) na nb nc (0 : Int32) (3 : Int32) R1 (is3 hR1 e2 e3b e3a) _ (by decide)
theorem plx : plainFor x = true := plainFor_of_name (by first | (simp [plainName, overriddenIn, x]; done) | decide +kernel)
set_option maxRecDepth 65536 in
set_option maxHeartbeats 40000000 in
theorem comes_1 {Post : Tables → Env → Array Value → State → Outcome → State → Prop} (hpost : ∀ tb e args s v u, (limb_1_1.after args s (.returned v) u = true ∧ limb_1_2.after args s (.returned v) u = true ∧ True) → FrameEnd s (.returned v) u (Jvm.fieldLocs frame_1_writes args s ++ Jvm.arrayLocs frame_1_arrays args s ++ Jvm.staticLocs frame_1_statics s) 32 128 → Post tb e args s (.returned v) u) :
    ArmFor flags0 classFile x code maxLocals ret World_1 tables_1 room_1 Calls_1 rest_1 Pre_1 Post := by
  intro l hfl _ _ p e ha hc hk s m args below hf hA hF happ hP
  obtain ⟨hcalls, hrest, hpre⟩ := hP
  obtain ⟨-, -, -, hnamed, -, -, -, hat⟩ := (Spec.applies_iff hf).mp happ
  obtain ⟨hg, hn⟩ := and_e (Cond.before_iff.mp (show (Jvm.Cond.and given_1 narrow_1).before args s = true from hpre))
  obtain ⟨gg1, gg2⟩ := and_e hg
  obtain ⟨gg3, gg4⟩ := and_e gg2
  obtain ⟨gg5, gg6⟩ := and_e gg4
  obtain ⟨gg7, gg8⟩ := and_e gg6
  obtain ⟨gg9, gg10⟩ := and_e gg8
  obtain ⟨w0, w1, w2, w3, w4, rfl⟩ : ∃ w0 w1 w2 w3 w4 : Value, args = #[w0, w1, w2, w3, w4] := by
    have hs : args.size = 5 := by simpa [Cond.value, given_1] using gg1
    obtain ⟨L⟩ := args
    match L, hs with
    | [w0, w1, w2, w3, w4], _ => exact ⟨w0, w1, w2, w3, w4, rfl⟩
  have hw := fun d (hd : d ∈ tables_1) => atoms_spec (ws := Jvm.Cond.code x code maxLocals ret :: tables_1) hat d (List.mem_cons_of_mem _ hd)
  obtain ⟨i0, ei0⟩ := is_v gg3
  obtain rfl : w0 = (.int i0) := Option.some.inj ei0
  obtain ⟨i1, ei1⟩ := is_v gg5
  obtain rfl : w1 = (.int i1) := Option.some.inj ei1
  obtain ⟨i2, ei2⟩ := is_v gg7
  obtain rfl : w2 = (.int i2) := Option.some.inj ei2
  obtain ⟨i3, ei3⟩ := is_v gg9
  obtain rfl : w3 = (.int i3) := Option.some.inj ei3
  obtain ⟨i4, ei4⟩ := is_v gg10
  obtain rfl : w4 = (.int i4) := Option.some.inj ei4
  obtain ⟨v, σ', u', ⟨rfl, hc1, hu1⟩, r⟩ := law_go s _ hw s.heap.size i0 i1 i2 i3 i4
  have D0 : WDen s (fun k => s.heap.size + k) s.heap.size [] s.heap := ⟨rfl, ⟨Nat.zero_le _, fun _ _ _ h => h⟩, fun k o h => by cases h⟩
  obtain ⟨n, o, h1, h2, h3, _, L, rfl, ⟨rfl, N, -⟩, hq⟩ := met_of (l := l) (y := x) (ws := tables_1) (argsL := [(.int i0), (.int i1), (.int i2), (.int i3), (.int i4)]) (h := s.heap) rfl rfl rfl rfl plx (fun k _ => rfl) (fun i j h => Nat.add_left_cancel h) r D0 room_1 (Nat.le_of_ble_eq_true rfl) (Nat.le_trans (Nat.sub_le _ _) (Nat.le_trans hc1 (by decide))) (Nat.le_trans (Nat.sub_le _ _) (Nat.le_trans hu1 (by decide))) (Nat.le_of_ble_eq_true rfl) p e ha hc hk s m _ below hf ((Spec.applies_iff_loose hf).mp happ).1 ⟨rfl, State.Warmed39.refl s, rfl⟩ trivial
  refine ⟨n, _, h1, h2, h3, hpost _ _ _ _ _ _ ⟨Cond.after_iff.mpr rfl, Cond.after_iff.mpr (eq_i res_at (Term.int_eval (1)) rfl), trivial⟩ ⟨hq.1, hq.2.1, (hq.2.2.sift fun y hy => Or.inr (N y hy)).mono (Nat.le_trans (Nat.sub_le _ _) (Nat.le_trans hc1 (by decide))) (Nat.le_trans (Nat.sub_le _ _) (Nat.le_trans hu1 (by decide)))⟩⟩
theorem main_1_1 : Claimed_1_1 := comes_1 fun _ _ _ _ _ _ h hF => ⟨h.1, hF⟩
theorem main_1_2 : Claimed_1_2 := comes_1 fun _ _ _ _ _ _ h hF => ⟨h.2.1, hF⟩
end Jvm.Pilot.@@N@@
namespace Jvm.Pilot.@@N@@
open Jvm Jvm.ClassFile Sem Op Lib Jvm.Free Jvm.Stand Jvm.Pilot.@@N@@.Jvm.D
/-! MADE BY PROGRAM (witnessworld.py) out of the Statement's table words and the real class files: 15 classes; the members and pool entries that the words name. The judged class is class 1, her method 1. -/
namespace start1
open Jvm.ClassFile
def u (s : String) : CpInfo := .utf8 (stringToUtf16 s)
/-- a pool by its gaps: so many unusable entries, then the entry; so many at the end -/
def gap : Nat → List CpInfo → List CpInfo
  | 0, r => r
  | n + 1, r => .unusable :: gap n r
def poolList (es : List (Nat × CpInfo)) (last : Nat) : List CpInfo := es.foldr (fun e r => gap e.1 (e.2 :: r)) (gap last [])
def pool (es : List (Nat × CpInfo)) (last : Nat) : Array CpInfo := ⟨poolList es last⟩
def fileOf (pool : Array CpInfo) (this : Nat) (attrs : Array Attribute := #[]) (ms : Array MethodInfo := #[]) (fl : Nat := 33) (sup : Nat := 0) (ifs : Array Nat := #[]) (fds : Array FieldInfo := #[]) : ClassFile where
  minorVersion := 0
  majorVersion := 65
  constantPool := pool
  accessFlags := fl
  thisClass := this
  superClass := sup
  interfaces := ifs
  fields := fds
  methods := ms
  attributes := attrs
def plain (name : String) (sup : Option ClassId) : Class where
  name := name
  kind := .ordinary
  loader := none
  accessFlags := 33
  super := sup
  interfaces := #[]
  cf := none
  fields := #[]
  methods := #[]
  instanceTypes := #[]
  staticTypes := #[]
  resolved := #[]
  callSites := []
  init := .initialized
  statics := none
  mirror := none

def pool0 : Array CpInfo := pool [(5, u "<init>"), (0, u "()V"), (1, .class_ 10), (1, u "java/lang/Object")] 113

def k0c0 : Code := { maxStack := 0, maxLocals := 1, code := object_method_1_code, exceptionTable := #[], attributes := #[] }
def k0m0 : Method := { name := "<init>", desc := "()V", sig := { parameters := [], returnType := none }, accessFlags := 1, code := some k0c0 }
/-- java/lang/Object -/
def k0 : Class := { plain "java/lang/Object" none with
  accessFlags := 33
  interfaces := #[]
  cf := some (fileOf pool0 8 #[] #[{ accessFlags := 1, nameIndex := 5, descriptorIndex := 6, attributes := #[] }] 33 0 #[] #[])
  fields := #[]
  methods := #[k0m0]
  instanceTypes := #[]
  staticTypes := #[]
  resolved := Array.replicate 124 none
  statics := none }

def pool1 : Array CpInfo := pool [(2, .class_ 4), (1, u "java/lang/Object"), (0, u "<init>"), (0, u "()V"), (0, .class_ 8), (0, u "com/example/firm_handshake/firmhandshake/lts/Graph"), (0, .methodref 7 10), (0, .nameAndType 5 11), (0, u "([I[I[I)V"), (0, .class_ 13), (0, u "com/example/firm_handshake/firmhandshake/lts/InternalClosure"), (0, .methodref 12 15), (0, .nameAndType 5 16), (0, u "(Lcom/example/firm_handshake/firmhandshake/lts/Graph;I)V"), (0, .methodref 12 18), (0, .nameAndType 19 6), (0, u "open"), (0, .methodref 12 21), (0, .nameAndType 22 23), (0, u "seed"), (0, u "(I)V"), (0, .methodref 12 25), (0, .nameAndType 26 27), (0, u "close"), (0, u "()[I"), (0, .methodref 29 30), (0, .class_ 31), (0, .nameAndType 32 33), (0, u "com/example/firm_handshake/firmhandshake/lts/InternalClosureSeedPinLaw"), (0, u "isSet"), (0, u "([IIII)Z"), (0, .methodref 29 35), (0, .nameAndType 36 37), (0, u "distinct"), (0, u "(III)I"), (0, .methodref 29 39), (0, .nameAndType 40 41), (0, u "contains"), (0, u "([II)Z"), (2, u "law"), (0, u "(IIIII)Z")] 5

def k1m0 : Method := { name := "<init>", desc := "()V", sig := { parameters := [], returnType := none }, accessFlags := 1, code := none }
def k1c1 : Code := { maxStack := 5, maxLocals := 14, code := code, exceptionTable := #[], attributes := #[] }
def k1m1 : Method := { name := "law", desc := "(IIIII)Z", sig := { parameters := [.int, .int, .int, .int, .int], returnType := some .boolean }, accessFlags := 9, code := some k1c1 }
def k1c2 : Code := { maxStack := 2, maxLocals := 4, code := method_3_code, exceptionTable := #[], attributes := #[] }
def k1m2 : Method := { name := "distinct", desc := "(III)I", sig := { parameters := [.int, .int, .int], returnType := some .int }, accessFlags := 10, code := some k1c2 }
def k1c3 : Code := { maxStack := 2, maxLocals := 2, code := method_4_code, exceptionTable := #[], attributes := #[] }
def k1m3 : Method := { name := "contains", desc := "([II)Z", sig := { parameters := [(.array .int), .int], returnType := some .boolean }, accessFlags := 10, code := some k1c3 }
def k1c4 : Code := { maxStack := 4, maxLocals := 4, code := method_5_code, exceptionTable := #[], attributes := #[] }
def k1m4 : Method := { name := "isSet", desc := "([IIII)Z", sig := { parameters := [(.array .int), .int, .int, .int], returnType := some .boolean }, accessFlags := 10, code := some k1c4 }
/-- com/example/firm_handshake/firmhandshake/lts/InternalClosureSeedPinLaw -/
def k1 : Class := { plain "com/example/firm_handshake/firmhandshake/lts/InternalClosureSeedPinLaw" (some 0) with
  accessFlags := 49
  interfaces := #[]
  cf := some (fileOf pool1 29 #[] #[{ accessFlags := 1, nameIndex := 5, descriptorIndex := 6, attributes := #[] }, { accessFlags := 9, nameIndex := 44, descriptorIndex := 45, attributes := #[] }, { accessFlags := 10, nameIndex := 36, descriptorIndex := 37, attributes := #[] }, { accessFlags := 10, nameIndex := 40, descriptorIndex := 41, attributes := #[] }, { accessFlags := 10, nameIndex := 32, descriptorIndex := 33, attributes := #[] }] 49 2 #[] #[])
  fields := #[]
  methods := #[k1m0, k1m1, k1m2, k1m3, k1m4]
  instanceTypes := #[]
  staticTypes := #[]
  resolved := Array.replicate 51 none
  statics := none }

def pool2 : Array CpInfo := pool [(1, .methodref 2 3), (0, .class_ 4), (0, .nameAndType 5 6), (0, u "java/lang/Object"), (0, u "<init>"), (0, u "()V"), (0, .class_ 8), (0, u "java/lang/Record")] 13

def k2c0 : Code := { maxStack := 1, maxLocals := 1, code := jdk_30_method_1_code, exceptionTable := #[], attributes := #[] }
def k2m0 : Method := { name := "<init>", desc := "()V", sig := { parameters := [], returnType := none }, accessFlags := 4, code := some k2c0 }
/-- java/lang/Record -/
def k2 : Class := { plain "java/lang/Record" (some 0) with
  accessFlags := 1057
  interfaces := #[]
  cf := some (fileOf pool2 7 #[] #[{ accessFlags := 4, nameIndex := 5, descriptorIndex := 6, attributes := #[] }] 1057 2 #[] #[])
  fields := #[]
  methods := #[k2m0]
  instanceTypes := #[]
  staticTypes := #[]
  resolved := Array.replicate 22 none
  statics := none }

def pool3 : Array CpInfo := pool [(1, .methodref 2 3), (0, .class_ 4), (0, .nameAndType 5 6), (0, u "java/lang/Record"), (0, u "<init>"), (0, u "()V"), (0, .fieldref 8 9), (0, .class_ 10), (0, .nameAndType 11 12), (0, u "com/example/firm_handshake/firmhandshake/lts/Graph"), (0, u "first"), (0, u "[I"), (0, .fieldref 8 14), (0, .nameAndType 15 12), (0, u "labels"), (0, .fieldref 8 17), (0, .nameAndType 18 12), (0, u "targets"), (5, u "()I"), (35, u "([I[I[I)V"), (33, u "nodeCount"), (16, u "FEW_STEPS"), (0, u "I"), (11, u "()[I")] 36

def k3c0 : Code := { maxStack := 2, maxLocals := 4, code := prog_91_method_1_code, exceptionTable := #[], attributes := #[] }
def k3m0 : Method := { name := "<init>", desc := "([I[I[I)V", sig := { parameters := [(.array .int), (.array .int), (.array .int)], returnType := none }, accessFlags := 0, code := some k3c0 }
def k3c1 : Code := { maxStack := 2, maxLocals := 1, code := prog_91_method_8_code, exceptionTable := #[], attributes := #[] }
def k3m1 : Method := { name := "nodeCount", desc := "()I", sig := { parameters := [], returnType := some .int }, accessFlags := 0, code := some k3c1 }
def k3c2 : Code := { maxStack := 1, maxLocals := 1, code := prog_91_method_14_code, exceptionTable := #[], attributes := #[] }
def k3m2 : Method := { name := "first", desc := "()[I", sig := { parameters := [], returnType := some (.array .int) }, accessFlags := 1, code := some k3c2 }
/-- com/example/firm_handshake/firmhandshake/lts/Graph -/
def k3 : Class := { plain "com/example/firm_handshake/firmhandshake/lts/Graph" (some 2) with
  accessFlags := 48
  interfaces := #[]
  cf := some (fileOf pool3 8 #[] #[{ accessFlags := 0, nameIndex := 5, descriptorIndex := 60, attributes := #[] }, { accessFlags := 0, nameIndex := 94, descriptorIndex := 24, attributes := #[] }, { accessFlags := 1, nameIndex := 11, descriptorIndex := 124, attributes := #[] }] 48 2 #[] #[{ accessFlags := 18, nameIndex := 11, descriptorIndex := 12, attributes := #[] }, { accessFlags := 18, nameIndex := 15, descriptorIndex := 12, attributes := #[] }, { accessFlags := 18, nameIndex := 18, descriptorIndex := 12, attributes := #[] }, { accessFlags := 26, nameIndex := 111, descriptorIndex := 112, attributes := #[] }])
  fields := #[{ name := "first", type := (.array .int), accessFlags := 18, slot := 0, constantValue := 0 }, { name := "labels", type := (.array .int), accessFlags := 18, slot := 1, constantValue := 0 }, { name := "targets", type := (.array .int), accessFlags := 18, slot := 2, constantValue := 0 }, { name := "FEW_STEPS", type := .int, accessFlags := 26, slot := 0, constantValue := 0 }]
  methods := #[k3m0, k3m1, k3m2]
  instanceTypes := #[(.array .int), (.array .int), (.array .int)]
  staticTypes := #[.int]
  resolved := Array.replicate 161 none
  statics := none }

def pool4 : Array CpInfo := pool [(1, .methodref 2 3), (0, .class_ 4), (0, .nameAndType 5 6), (0, u "java/lang/Object"), (0, u "<init>"), (0, u "()V"), (0, .fieldref 8 9), (0, .class_ 10), (0, .nameAndType 11 12), (0, u "com/example/firm_handshake/firmhandshake/lts/InternalClosure"), (0, u "graph"), (0, u "Lcom/example/firm_handshake/firmhandshake/lts/Graph;"), (0, .fieldref 8 14), (0, .nameAndType 15 16), (0, u "internal"), (0, u "I"), (0, .methodref 18 19), (0, .class_ 20), (0, .nameAndType 21 22), (0, u "com/example/firm_handshake/firmhandshake/lts/Graph"), (0, u "nodeCount"), (0, u "()I"), (0, .fieldref 8 24), (0, .nameAndType 25 26), (0, u "mark"), (0, u "[I"), (0, .fieldref 8 28), (0, .nameAndType 29 26), (0, u "queue"), (2, u "open"), (0, .methodref 8 34), (0, .nameAndType 35 36), (0, u "seed"), (0, u "(I)V"), (2, u "close"), (0, u "()[I"), (0, .fieldref 8 42), (0, .nameAndType 43 16), (0, u "stamp"), (0, .fieldref 8 45), (0, .nameAndType 46 16), (0, u "size"), (0, .methodref 8 48), (0, .nameAndType 49 6), (0, u "spread"), (0, .methodref 51 52), (0, .class_ 53), (0, .nameAndType 54 55), (0, u "java/util/Arrays"), (0, u "copyOf"), (0, u "([II)[I"), (0, .methodref 51 57), (0, .nameAndType 58 59), (0, u "sort"), (0, u "([I)V"), (9, .methodref 18 70), (0, .nameAndType 71 40), (0, u "first"), (6, u "(Lcom/example/firm_handshake/firmhandshake/lts/Graph;I)V")] 8

def k4c0 : Code := { maxStack := 2, maxLocals := 3, code := prog_94_method_1_code, exceptionTable := #[], attributes := #[] }
def k4m0 : Method := { name := "<init>", desc := "(Lcom/example/firm_handshake/firmhandshake/lts/Graph;I)V", sig := { parameters := [(.object "com/example/firm_handshake/firmhandshake/lts/Graph"), .int], returnType := none }, accessFlags := 0, code := some k4c0 }
def k4c1 : Code := { maxStack := 3, maxLocals := 1, code := prog_94_method_3_code, exceptionTable := #[], attributes := #[] }
def k4m1 : Method := { name := "open", desc := "()V", sig := { parameters := [], returnType := none }, accessFlags := 0, code := some k4c1 }
def k4c2 : Code := { maxStack := 5, maxLocals := 2, code := prog_94_method_4_code, exceptionTable := #[], attributes := #[] }
def k4m2 : Method := { name := "seed", desc := "(I)V", sig := { parameters := [.int], returnType := none }, accessFlags := 0, code := some k4c2 }
def k4c3 : Code := { maxStack := 2, maxLocals := 2, code := prog_94_method_5_code, exceptionTable := #[], attributes := #[] }
def k4m3 : Method := { name := "close", desc := "()[I", sig := { parameters := [], returnType := some (.array .int) }, accessFlags := 0, code := some k4c3 }
def k4c4 : Code := { maxStack := 4, maxLocals := 4, code := prog_94_method_7_code, exceptionTable := #[], attributes := #[] }
def k4m4 : Method := { name := "spread", desc := "()V", sig := { parameters := [], returnType := none }, accessFlags := 2, code := some k4c4 }
/-- com/example/firm_handshake/firmhandshake/lts/InternalClosure -/
def k4 : Class := { plain "com/example/firm_handshake/firmhandshake/lts/InternalClosure" (some 0) with
  accessFlags := 48
  interfaces := #[]
  cf := some (fileOf pool4 8 #[] #[{ accessFlags := 0, nameIndex := 5, descriptorIndex := 78, attributes := #[] }, { accessFlags := 0, nameIndex := 32, descriptorIndex := 6, attributes := #[] }, { accessFlags := 0, nameIndex := 35, descriptorIndex := 36, attributes := #[] }, { accessFlags := 0, nameIndex := 39, descriptorIndex := 40, attributes := #[] }, { accessFlags := 2, nameIndex := 49, descriptorIndex := 6, attributes := #[] }] 48 2 #[] #[{ accessFlags := 18, nameIndex := 11, descriptorIndex := 12, attributes := #[] }, { accessFlags := 18, nameIndex := 15, descriptorIndex := 16, attributes := #[] }, { accessFlags := 18, nameIndex := 25, descriptorIndex := 26, attributes := #[] }, { accessFlags := 18, nameIndex := 29, descriptorIndex := 26, attributes := #[] }, { accessFlags := 2, nameIndex := 43, descriptorIndex := 16, attributes := #[] }, { accessFlags := 2, nameIndex := 46, descriptorIndex := 16, attributes := #[] }])
  fields := #[{ name := "graph", type := (.object "com/example/firm_handshake/firmhandshake/lts/Graph"), accessFlags := 18, slot := 0, constantValue := 0 }, { name := "internal", type := .int, accessFlags := 18, slot := 1, constantValue := 0 }, { name := "mark", type := (.array .int), accessFlags := 18, slot := 2, constantValue := 0 }, { name := "queue", type := (.array .int), accessFlags := 18, slot := 3, constantValue := 0 }, { name := "stamp", type := .int, accessFlags := 2, slot := 4, constantValue := 0 }, { name := "size", type := .int, accessFlags := 2, slot := 5, constantValue := 0 }]
  methods := #[k4m0, k4m1, k4m2, k4m3, k4m4]
  instanceTypes := #[(.object "com/example/firm_handshake/firmhandshake/lts/Graph"), .int, (.array .int), (.array .int), .int, .int]
  staticTypes := #[]
  resolved := Array.replicate 87 none
  statics := none }

def pool5 : Array CpInfo := pool [(2, .class_ 4), (1, u "java/lang/Object"), (0, u "<init>"), (0, u "()V"), (0, .methodref 8 9), (0, .class_ 10), (0, .nameAndType 11 12), (0, u "java/util/DualPivotQuicksort"), (0, u "sort"), (0, u "([IIII)V"), (1, .class_ 16), (1, u "java/util/Arrays"), (57, .class_ 76), (1, u "java/util/Arrays$NaturalOrder"), (36, .class_ 115), (1, u "java/util/Arrays$LegacyMergeSort"), (1, u "Z"), (32, .methodref 151 152), (0, .class_ 153), (0, .nameAndType 154 155), (0, u "java/lang/System"), (0, u "arraycopy"), (0, u "(Ljava/lang/Object;ILjava/lang/Object;II)V"), (146, u "copyOf"), (1, .methodref 305 306), (0, .class_ 307), (0, .nameAndType 308 309), (0, u "java/lang/Math"), (0, u "min"), (0, u "(II)I"), (65, .class_ 376), (0, u "java/util/Arrays$ArrayList"), (68, u "$assertionsDisabled"), (269, u "MIN_ARRAY_SORT_GRAN"), (0, u "I"), (2, u "INSERTIONSORT_THRESHOLD"), (6, u "([I)V"), (144, u "([II)[I"), (103, .class_ 976), (0, u "java/util/Arrays$ArrayItr")] 52

def k5m0 : Method := { name := "<init>", desc := "()V", sig := { parameters := [], returnType := none }, accessFlags := 2, code := none }
def k5c1 : Code := { maxStack := 4, maxLocals := 1, code := jdk_65_method_2_code, exceptionTable := #[], attributes := #[] }
def k5m1 : Method := { name := "sort", desc := "([I)V", sig := { parameters := [(.array .int)], returnType := none }, accessFlags := 9, code := some k5c1 }
def k5c2 : Code := { maxStack := 6, maxLocals := 3, code := jdk_65_method_123_code, exceptionTable := #[], attributes := #[] }
def k5m2 : Method := { name := "copyOf", desc := "([II)[I", sig := { parameters := [(.array .int), .int], returnType := some (.array .int) }, accessFlags := 9, code := some k5c2 }
/-- java/util/Arrays -/
def k5 : Class := { plain "java/util/Arrays" (some 0) with
  accessFlags := 49
  interfaces := #[]
  cf := some (fileOf pool5 14 #[.nestMembers #[975, 375, 113, 74]] #[{ accessFlags := 2, nameIndex := 5, descriptorIndex := 6, attributes := #[] }, { accessFlags := 9, nameIndex := 11, descriptorIndex := 726, attributes := #[] }, { accessFlags := 9, nameIndex := 302, descriptorIndex := 871, attributes := #[] }] 49 2 #[] #[{ accessFlags := 26, nameIndex := 715, descriptorIndex := 716, attributes := #[] }, { accessFlags := 26, nameIndex := 719, descriptorIndex := 716, attributes := #[] }, { accessFlags := 4120, nameIndex := 445, descriptorIndex := 117, attributes := #[] }])
  fields := #[{ name := "MIN_ARRAY_SORT_GRAN", type := .int, accessFlags := 26, slot := 0, constantValue := 0 }, { name := "INSERTIONSORT_THRESHOLD", type := .int, accessFlags := 26, slot := 1, constantValue := 0 }, { name := "$assertionsDisabled", type := .boolean, accessFlags := 4120, slot := 2, constantValue := 0 }]
  methods := #[k5m0, k5m1, k5m2]
  instanceTypes := #[]
  staticTypes := #[.int, .int, .boolean]
  resolved := Array.replicate 1029 none
  statics := none }

def pool6 : Array CpInfo := pool [(1, .class_ 2), (0, u "java/lang/Math"), (1, .class_ 6), (1, u "java/lang/Object"), (0, u "<init>"), (0, u "()V"), (89, .class_ 100), (1, u "java/lang/Math$RandomNumberGeneratorHolder"), (71, u "negativeZeroFloatBits"), (0, u "J"), (2, u "negativeZeroDoubleBits"), (24, u "min"), (43, u "$assertionsDisabled"), (0, u "Z"), (88, u "(II)I"), (2, u "twoToTheDoubleScaleDown"), (0, u "D"), (4, u "twoToTheDoubleScaleUp"), (9, u "E"), (3, u "PI"), (2, u "TAU"), (2, u "DEGREES_TO_RADIANS"), (0, u "RADIANS_TO_DEGREES")] 94

def k6m0 : Method := { name := "<init>", desc := "()V", sig := { parameters := [], returnType := none }, accessFlags := 2, code := none }
def k6c1 : Code := { maxStack := 2, maxLocals := 2, code := jdk_29_method_69_code, exceptionTable := #[], attributes := #[] }
def k6m1 : Method := { name := "min", desc := "(II)I", sig := { parameters := [.int, .int], returnType := some .int }, accessFlags := 9, code := some k6c1 }
/-- java/lang/Math -/
def k6 : Class := { plain "java/lang/Math" (some 0) with
  accessFlags := 49
  interfaces := #[]
  cf := some (fileOf pool6 1 #[.nestMembers #[98]] #[{ accessFlags := 2, nameIndex := 7, descriptorIndex := 8, attributes := #[] }, { accessFlags := 9, nameIndex := 201, descriptorIndex := 335, attributes := #[] }] 49 4 #[] #[{ accessFlags := 25, nameIndex := 354, descriptorIndex := 339, attributes := #[] }, { accessFlags := 25, nameIndex := 358, descriptorIndex := 339, attributes := #[] }, { accessFlags := 25, nameIndex := 361, descriptorIndex := 339, attributes := #[] }, { accessFlags := 26, nameIndex := 364, descriptorIndex := 339, attributes := #[] }, { accessFlags := 26, nameIndex := 365, descriptorIndex := 339, attributes := #[] }, { accessFlags := 26, nameIndex := 172, descriptorIndex := 173, attributes := #[] }, { accessFlags := 26, nameIndex := 176, descriptorIndex := 173, attributes := #[] }, { accessFlags := 8, nameIndex := 344, descriptorIndex := 339, attributes := #[] }, { accessFlags := 8, nameIndex := 338, descriptorIndex := 339, attributes := #[] }, { accessFlags := 4120, nameIndex := 245, descriptorIndex := 246, attributes := #[] }])
  fields := #[{ name := "E", type := .double, accessFlags := 25, slot := 0, constantValue := 0 }, { name := "PI", type := .double, accessFlags := 25, slot := 1, constantValue := 0 }, { name := "TAU", type := .double, accessFlags := 25, slot := 2, constantValue := 0 }, { name := "DEGREES_TO_RADIANS", type := .double, accessFlags := 26, slot := 3, constantValue := 0 }, { name := "RADIANS_TO_DEGREES", type := .double, accessFlags := 26, slot := 4, constantValue := 0 }, { name := "negativeZeroFloatBits", type := .long, accessFlags := 26, slot := 5, constantValue := 0 }, { name := "negativeZeroDoubleBits", type := .long, accessFlags := 26, slot := 6, constantValue := 0 }, { name := "twoToTheDoubleScaleUp", type := .double, accessFlags := 8, slot := 7, constantValue := 0 }, { name := "twoToTheDoubleScaleDown", type := .double, accessFlags := 8, slot := 8, constantValue := 0 }, { name := "$assertionsDisabled", type := .boolean, accessFlags := 4120, slot := 9, constantValue := 0 }]
  methods := #[k6m0, k6m1]
  instanceTypes := #[]
  staticTypes := #[.double, .double, .double, .double, .double, .long, .long, .double, .double, .boolean]
  resolved := Array.replicate 460 none
  statics := none }

def pool7 : Array CpInfo := pool [(2, .class_ 4), (1, u "java/lang/Object"), (0, u "<init>"), (0, u "()V"), (1, .class_ 10), (1, u "java/lang/System"), (0, u "allowSecurityManager"), (0, u "I"), (16, u "cons"), (0, u "Ljava/io/Console;"), (77, .class_ 110), (1, u "java/lang/System$CallersHolder"), (43, u "initialErrStream"), (0, u "Ljava/io/PrintStream;"), (19, u "security"), (0, u "Ljava/lang/SecurityManager;"), (31, .class_ 209), (0, u "java/lang/System$1"), (7, u "props"), (0, u "Ljava/util/Properties;"), (2, u "lineSeparator"), (0, u "Ljava/lang/String;"), (96, .class_ 321), (1, u "java/lang/System$LoggerFinder"), (5, .class_ 328), (0, u "java/lang/System$Logger"), (67, u "err"), (2, u "out"), (91, u "notSupportedJnuEncoding"), (15, u "in"), (17, u "initialIn"), (0, u "Ljava/io/InputStream;"), (35, u "bootLayer"), (0, u "Ljava/lang/ModuleLayer;"), (99, .class_ 664), (0, u "java/lang/System$2"), (9, u "NEVER"), (2, u "MAYBE"), (49, u "arraycopy"), (0, u "(Ljava/lang/Object;ILjava/lang/Object;II)V"), (72, .class_ 802), (0, u "java/lang/System$Logger$Level")] 31

def k7m0 : Method := { name := "<init>", desc := "()V", sig := { parameters := [], returnType := none }, accessFlags := 2, code := none }
def k7m1 : Method := { name := "arraycopy", desc := "(Ljava/lang/Object;ILjava/lang/Object;II)V", sig := { parameters := [(.object "java/lang/Object"), .int, (.object "java/lang/Object"), .int, .int], returnType := none }, accessFlags := 265, code := none }
/-- java/lang/System -/
def k7 : Class := { plain "java/lang/System" (some 0) with
  accessFlags := 49
  interfaces := #[]
  cf := some (fileOf pool7 8 #[.nestMembers #[319, 327, 801, 108, 663, 208]] #[{ accessFlags := 2, nameIndex := 5, descriptorIndex := 6, attributes := #[] }, { accessFlags := 265, nameIndex := 727, descriptorIndex := 728, attributes := #[] }] 49 2 #[] #[{ accessFlags := 25, nameIndex := 507, descriptorIndex := 526, attributes := #[] }, { accessFlags := 25, nameIndex := 399, descriptorIndex := 155, attributes := #[] }, { accessFlags := 25, nameIndex := 396, descriptorIndex := 155, attributes := #[] }, { accessFlags := 10, nameIndex := 525, descriptorIndex := 526, attributes := #[] }, { accessFlags := 26, nameIndex := 674, descriptorIndex := 12, attributes := #[] }, { accessFlags := 26, nameIndex := 677, descriptorIndex := 12, attributes := #[] }, { accessFlags := 10, nameIndex := 11, descriptorIndex := 12, attributes := #[] }, { accessFlags := 74, nameIndex := 175, descriptorIndex := 176, attributes := #[] }, { accessFlags := 10, nameIndex := 491, descriptorIndex := 222, attributes := #[] }, { accessFlags := 74, nameIndex := 29, descriptorIndex := 30, attributes := #[] }, { accessFlags := 74, nameIndex := 154, descriptorIndex := 155, attributes := #[] }, { accessFlags := 10, nameIndex := 217, descriptorIndex := 218, attributes := #[] }, { accessFlags := 10, nameIndex := 221, descriptorIndex := 222, attributes := #[] }, { accessFlags := 8, nameIndex := 562, descriptorIndex := 563, attributes := #[] }])
  fields := #[{ name := "in", type := (.object "java/io/InputStream"), accessFlags := 25, slot := 0, constantValue := 0 }, { name := "out", type := (.object "java/io/PrintStream"), accessFlags := 25, slot := 1, constantValue := 0 }, { name := "err", type := (.object "java/io/PrintStream"), accessFlags := 25, slot := 2, constantValue := 0 }, { name := "initialIn", type := (.object "java/io/InputStream"), accessFlags := 10, slot := 3, constantValue := 0 }, { name := "NEVER", type := .int, accessFlags := 26, slot := 4, constantValue := 0 }, { name := "MAYBE", type := .int, accessFlags := 26, slot := 5, constantValue := 0 }, { name := "allowSecurityManager", type := .int, accessFlags := 10, slot := 6, constantValue := 0 }, { name := "security", type := (.object "java/lang/SecurityManager"), accessFlags := 74, slot := 7, constantValue := 0 }, { name := "notSupportedJnuEncoding", type := (.object "java/lang/String"), accessFlags := 10, slot := 8, constantValue := 0 }, { name := "cons", type := (.object "java/io/Console"), accessFlags := 74, slot := 9, constantValue := 0 }, { name := "initialErrStream", type := (.object "java/io/PrintStream"), accessFlags := 74, slot := 10, constantValue := 0 }, { name := "props", type := (.object "java/util/Properties"), accessFlags := 10, slot := 11, constantValue := 0 }, { name := "lineSeparator", type := (.object "java/lang/String"), accessFlags := 10, slot := 12, constantValue := 0 }, { name := "bootLayer", type := (.object "java/lang/ModuleLayer"), accessFlags := 8, slot := 13, constantValue := 0 }]
  methods := #[k7m0, k7m1]
  instanceTypes := #[]
  staticTypes := #[(.object "java/io/InputStream"), (.object "java/io/PrintStream"), (.object "java/io/PrintStream"), (.object "java/io/InputStream"), .int, .int, .int, (.object "java/lang/SecurityManager"), (.object "java/lang/String"), (.object "java/io/Console"), (.object "java/io/PrintStream"), (.object "java/util/Properties"), (.object "java/lang/String"), (.object "java/lang/ModuleLayer")]
  resolved := Array.replicate 834 none
  statics := none }

def pool8 : Array CpInfo := pool [(1, .class_ 2), (0, u "java/util/DualPivotQuicksort"), (5, .class_ 10), (1, u "java/lang/Object"), (0, u "<init>"), (0, u "()V"), (4, .class_ 18), (0, u "java/util/DualPivotQuicksort$Sorter"), (7, .methodref 1 27), (0, .nameAndType 28 29), (0, u "sort"), (0, u "(Ljava/util/DualPivotQuicksort$Sorter;[IIII)V"), (3, u "([IIII)V"), (0, .methodref 1 35), (0, .nameAndType 36 37), (0, u "insertionSort"), (0, u "([III)V"), (30, u "I"), (4, .class_ 74), (0, u "java/util/DualPivotQuicksort$RunMerger"), (10, .class_ 86), (0, u "java/util/DualPivotQuicksort$Merger"), (127, u "MAX_MIXED_INSERTION_SORT_SIZE"), (2, u "MAX_INSERTION_SORT_SIZE"), (1, u "MIN_PARALLEL_SORT_SIZE"), (1, u "MIN_TRY_MERGE_SIZE"), (0, u "MIN_FIRST_RUN_SIZE"), (1, u "MIN_FIRST_RUNS_FACTOR"), (1, u "MAX_RUN_CAPACITY"), (1, u "MIN_RUN_COUNT"), (1, u "MIN_PARALLEL_MERGE_PARTS_SIZE"), (0, u "MIN_BYTE_COUNTING_SORT_SIZE"), (1, u "MIN_SHORT_OR_CHAR_COUNTING_SORT_SIZE"), (1, u "DELTA"), (1, u "MAX_RECURSION_DEPTH"), (1, u "NUM_BYTE_VALUES"), (1, u "MAX_BYTE_INDEX"), (0, u "NUM_CHAR_VALUES"), (0, u "NUM_SHORT_VALUES"), (0, u "MAX_SHORT_INDEX")] 86

def k8m0 : Method := { name := "<init>", desc := "()V", sig := { parameters := [], returnType := none }, accessFlags := 2, code := none }
def k8c1 : Code := { maxStack := 9, maxLocals := 7, code := jdk_2529_method_3_code, exceptionTable := #[], attributes := #[] }
def k8m1 : Method := { name := "sort", desc := "([IIII)V", sig := { parameters := [(.array .int), .int, .int, .int], returnType := none }, accessFlags := 8, code := some k8c1 }
def k8c2 : Code := { maxStack := 6, maxLocals := 21, code := jdk_2529_method_4_code, exceptionTable := #[], attributes := #[] }
def k8m2 : Method := { name := "sort", desc := "(Ljava/util/DualPivotQuicksort$Sorter;[IIII)V", sig := { parameters := [(.object "java/util/DualPivotQuicksort$Sorter"), (.array .int), .int, .int, .int], returnType := none }, accessFlags := 8, code := some k8c2 }
def k8c3 : Code := { maxStack := 4, maxLocals := 6, code := jdk_2529_method_6_code, exceptionTable := #[], attributes := #[] }
def k8m3 : Method := { name := "insertionSort", desc := "([III)V", sig := { parameters := [(.array .int), .int, .int], returnType := none }, accessFlags := 10, code := some k8c3 }
/-- java/util/DualPivotQuicksort -/
def k8 : Class := { plain "java/util/DualPivotQuicksort" (some 0) with
  accessFlags := 48
  interfaces := #[]
  cf := some (fileOf pool8 1 #[.nestMembers #[73, 85, 17]] #[{ accessFlags := 2, nameIndex := 11, descriptorIndex := 12, attributes := #[] }, { accessFlags := 8, nameIndex := 28, descriptorIndex := 33, attributes := #[] }, { accessFlags := 8, nameIndex := 28, descriptorIndex := 29, attributes := #[] }, { accessFlags := 10, nameIndex := 36, descriptorIndex := 37, attributes := #[] }] 48 8 #[] #[{ accessFlags := 26, nameIndex := 214, descriptorIndex := 68, attributes := #[] }, { accessFlags := 26, nameIndex := 217, descriptorIndex := 68, attributes := #[] }, { accessFlags := 26, nameIndex := 219, descriptorIndex := 68, attributes := #[] }, { accessFlags := 26, nameIndex := 221, descriptorIndex := 68, attributes := #[] }, { accessFlags := 26, nameIndex := 222, descriptorIndex := 68, attributes := #[] }, { accessFlags := 26, nameIndex := 224, descriptorIndex := 68, attributes := #[] }, { accessFlags := 26, nameIndex := 226, descriptorIndex := 68, attributes := #[] }, { accessFlags := 26, nameIndex := 228, descriptorIndex := 68, attributes := #[] }, { accessFlags := 26, nameIndex := 230, descriptorIndex := 68, attributes := #[] }, { accessFlags := 26, nameIndex := 231, descriptorIndex := 68, attributes := #[] }, { accessFlags := 26, nameIndex := 233, descriptorIndex := 68, attributes := #[] }, { accessFlags := 26, nameIndex := 235, descriptorIndex := 68, attributes := #[] }, { accessFlags := 26, nameIndex := 237, descriptorIndex := 68, attributes := #[] }, { accessFlags := 26, nameIndex := 239, descriptorIndex := 68, attributes := #[] }, { accessFlags := 26, nameIndex := 241, descriptorIndex := 68, attributes := #[] }, { accessFlags := 26, nameIndex := 242, descriptorIndex := 68, attributes := #[] }, { accessFlags := 26, nameIndex := 243, descriptorIndex := 68, attributes := #[] }, { accessFlags := 26, nameIndex := 244, descriptorIndex := 68, attributes := #[] }])
  fields := #[{ name := "MAX_MIXED_INSERTION_SORT_SIZE", type := .int, accessFlags := 26, slot := 0, constantValue := 0 }, { name := "MAX_INSERTION_SORT_SIZE", type := .int, accessFlags := 26, slot := 1, constantValue := 0 }, { name := "MIN_PARALLEL_SORT_SIZE", type := .int, accessFlags := 26, slot := 2, constantValue := 0 }, { name := "MIN_TRY_MERGE_SIZE", type := .int, accessFlags := 26, slot := 3, constantValue := 0 }, { name := "MIN_FIRST_RUN_SIZE", type := .int, accessFlags := 26, slot := 4, constantValue := 0 }, { name := "MIN_FIRST_RUNS_FACTOR", type := .int, accessFlags := 26, slot := 5, constantValue := 0 }, { name := "MAX_RUN_CAPACITY", type := .int, accessFlags := 26, slot := 6, constantValue := 0 }, { name := "MIN_RUN_COUNT", type := .int, accessFlags := 26, slot := 7, constantValue := 0 }, { name := "MIN_PARALLEL_MERGE_PARTS_SIZE", type := .int, accessFlags := 26, slot := 8, constantValue := 0 }, { name := "MIN_BYTE_COUNTING_SORT_SIZE", type := .int, accessFlags := 26, slot := 9, constantValue := 0 }, { name := "MIN_SHORT_OR_CHAR_COUNTING_SORT_SIZE", type := .int, accessFlags := 26, slot := 10, constantValue := 0 }, { name := "DELTA", type := .int, accessFlags := 26, slot := 11, constantValue := 0 }, { name := "MAX_RECURSION_DEPTH", type := .int, accessFlags := 26, slot := 12, constantValue := 0 }, { name := "NUM_BYTE_VALUES", type := .int, accessFlags := 26, slot := 13, constantValue := 0 }, { name := "MAX_BYTE_INDEX", type := .int, accessFlags := 26, slot := 14, constantValue := 0 }, { name := "NUM_CHAR_VALUES", type := .int, accessFlags := 26, slot := 15, constantValue := 0 }, { name := "NUM_SHORT_VALUES", type := .int, accessFlags := 26, slot := 16, constantValue := 0 }, { name := "MAX_SHORT_INDEX", type := .int, accessFlags := 26, slot := 17, constantValue := 0 }]
  methods := #[k8m0, k8m1, k8m2, k8m3]
  instanceTypes := #[]
  staticTypes := #[.int, .int, .int, .int, .int, .int, .int, .int, .int, .int, .int, .int, .int, .int, .int, .int, .int, .int]
  resolved := Array.replicate 331 none
  statics := none }

def pool9 : Array CpInfo := pool [(1, u "java/lang/Cloneable"), (0, .class_ 1), (0, u "java/lang/Object"), (0, .class_ 3)] 3

/-- java/lang/Cloneable -/
def k9 : Class := { plain "java/lang/Cloneable" (some 0) with
  accessFlags := 1537
  interfaces := #[]
  cf := some (fileOf pool9 2 #[] #[] 1537 4 #[] #[])
  fields := #[]
  methods := #[]
  instanceTypes := #[]
  staticTypes := #[]
  resolved := Array.replicate 8 none
  statics := none }

def pool10 : Array CpInfo := pool [(1, u "java/io/Serializable"), (0, .class_ 1), (0, u "java/lang/Object"), (0, .class_ 3)] 3

/-- java/io/Serializable -/
def k10 : Class := { plain "java/io/Serializable" (some 0) with
  accessFlags := 1537
  interfaces := #[]
  cf := some (fileOf pool10 2 #[] #[] 1537 4 #[] #[])
  fields := #[]
  methods := #[]
  instanceTypes := #[]
  staticTypes := #[]
  resolved := Array.replicate 8 none
  statics := none }

/-- the primitive byte -/
def k11 : Class := { plain "byte" none with kind := .primitive 'B', accessFlags := 0x411 }
/-- [B -/
def k12 : Class := { plain "[B" (some 0) with kind := .array 11 .byte, interfaces := #[9, 10], accessFlags := 1041 }

/-- the primitive int -/
def k13 : Class := { plain "int" none with kind := .primitive 'I', accessFlags := 0x411 }
/-- [I -/
def k14 : Class := { plain "[I" (some 0) with kind := .array 13 .int, interfaces := #[9, 10], accessFlags := 1041 }

def heap : Heap := #[]
def classes : Array Class := #[k0, k1, k2, k3, k4, k5, k6, k7, k8, k9, k10, k11, k12, k13, k14]
def interned : List (Array UInt16 × Addr) := []
def slotsUsed : Nat := 0
def theMethod : MethodId := ⟨1, 1⟩
def args0 : Array Value := #[.int 1, .int 2, .int 1, .int 3, .int 0]
def aboutOver (below : List Frame) : State where
  vm := { classes := classes, interned := interned.toArray }
  heap := heap
  slotsUsed := slotsUsed
  threads := #[{ frames := .invoking theMethod args0 :: below }]
def below0 : List Frame := [.native { method := ⟨0, 0⟩, args := #[] }]
def about1 : State := aboutOver below0
def p0 : Program := .bare "" "" ""
def e0 : Env := launch0.env 0 0 0
theorem w_frames : about1.frames = Frame.invoking theMethod args0 :: below0 := rfl
set_option maxRecDepth 65536 in
theorem w_args : argsFit about1.vm theMethod args0 = true := by decide +kernel
set_option maxRecDepth 65536 in
theorem w_heap : heapFits about1 = true := by decide +kernel
set_option maxRecDepth 65536 in
theorem w_runnable : about1.curStatus? = some .runnable := by decide +kernel
set_option maxRecDepth 65536 in
theorem w_alone : about1.alone = true := by decide +kernel
set_option maxRecDepth 65536 in
theorem w_named : about1.methodNamed? x = some theMethod := by decide +kernel
set_option maxRecDepth 65536 in
theorem w_hears : about1.hears theMethod below0 = true := by decide +kernel
set_option maxRecDepth 65536 in
theorem w_ripe : about1.ripe theMethod args0 below0 = true := by decide +kernel
theorem w_running : about1.status = .running := rfl
set_option maxRecDepth 65536 in
theorem w_room : about1.hasRoom e0.platform room_1 = true :=
  launch0.hasRoom_least _ room_1 (by decide +kernel) (by decide +kernel) (by decide +kernel) (by decide +kernel) (by decide +kernel) (by decide +kernel)
theorem allAtoms_all (ts : List Jvm.Cond) (a : Array Jvm.Value) (st : Jvm.State) : (allAtoms ts).before a st = ts.all (fun c => c.before a st) := by
  induction ts with
  | nil => rfl
  | cons c t ih =>
    show (Jvm.Cond.and c (allAtoms t)).before a st = _
    rw [Jvm.Cond.before_and, ih, List.all_cons]
def words1 : List Jvm.Cond := Jvm.Cond.code x code maxLocals ret :: tables_1
/-- a 'code' word, met by the world's own term for the bytes: nothing is compared byte by byte -/
theorem code_word {y : MethodName} {bytes : ByteArray} {mx : Nat} {rt : Option FieldType} {a : Array Value} {s : State} {m : MethodId} {meth : Method} {c : Code} (h1 : s.methodNamed? y = some m) (h2 : s.vm.method? m = some meth) (h3 : meth.code = some c) (h4 : c.code = bytes)
    (h5 : (c.maxLocals == mx && c.exceptionTable.isEmpty && decide (c.maxStack ≤ mostOperands) && decide (meth.sig.returnType = rt) && !meth.locks && decide (parseMethodDescriptor y.desc = some meth.sig)) = true) : (Jvm.Cond.code y bytes mx rt).before a s = true := by
  simp only [Bool.and_eq_true, beq_iff_eq, Bool.not_eq_true', decide_eq_true_eq] at h5
  obtain ⟨⟨⟨⟨⟨g1, g2⟩, g3⟩, g4⟩, g5⟩, g6⟩ := h5
  simp [Cond.before, Cond.holds, Cond.value, h1, h2, h3, h4, g1, g2, g3, g4, g5, g6]
def isCode : Jvm.Cond → Bool
  | .code _ _ _ _ => true
  | _ => false
theorem all_split {L : List Jvm.Cond} {P : Jvm.Cond → Bool} (h1 : L.all (fun c => isCode c || P c) = true) (h2 : ∀ c ∈ L.filter isCode, P c = true) : L.all P = true := by
  refine List.all_eq_true.mpr fun c hc => ?_
  have h := List.all_eq_true.mp h1 c hc
  rcases Bool.eq_false_or_eq_true (isCode c) with hi | hi
  · exact h2 c (List.mem_filter.mpr ⟨hc, hi⟩)
  · simpa [hi] using h
set_option maxRecDepth 65536 in
theorem w_c0 : (Jvm.Cond.code x code maxLocals ret).before args0 about1 = true := code_word (m := ⟨1, 1⟩) (meth := k1m1) (c := k1c1) (by decide +kernel) rfl rfl rfl (by decide +kernel)
set_option maxRecDepth 65536 in
theorem w_c1 : (Jvm.Cond.code ({ cls := "com/example/firm_handshake/firmhandshake/lts/Graph", name := "<init>", desc := "([I[I[I)V" } : Jvm.MethodName) prog_91_method_1_code (4 : Nat) (Option.none : Option Jvm.ClassFile.FieldType)).before args0 about1 = true := code_word (m := ⟨3, 0⟩) (meth := k3m0) (c := k3c0) (by decide +kernel) rfl rfl rfl (by decide +kernel)
set_option maxRecDepth 65536 in
theorem w_c2 : (Jvm.Cond.code ({ cls := "java/lang/Record", name := "<init>", desc := "()V" } : Jvm.MethodName) jdk_30_method_1_code (1 : Nat) (Option.none : Option Jvm.ClassFile.FieldType)).before args0 about1 = true := code_word (m := ⟨2, 0⟩) (meth := k2m0) (c := k2c0) (by decide +kernel) rfl rfl rfl (by decide +kernel)
set_option maxRecDepth 65536 in
theorem w_c3 : (Jvm.Cond.code ({ cls := "java/lang/Object", name := "<init>", desc := "()V" } : Jvm.MethodName) object_method_1_code (1 : Nat) (Option.none : Option Jvm.ClassFile.FieldType)).before args0 about1 = true := code_word (m := ⟨0, 0⟩) (meth := k0m0) (c := k0c0) (by decide +kernel) rfl rfl rfl (by decide +kernel)
set_option maxRecDepth 65536 in
theorem w_c4 : (Jvm.Cond.code ({ cls := "com/example/firm_handshake/firmhandshake/lts/InternalClosure", name := "<init>", desc := "(Lcom/example/firm_handshake/firmhandshake/lts/Graph;I)V" } : Jvm.MethodName) prog_94_method_1_code (3 : Nat) (Option.none : Option Jvm.ClassFile.FieldType)).before args0 about1 = true := code_word (m := ⟨4, 0⟩) (meth := k4m0) (c := k4c0) (by decide +kernel) rfl rfl rfl (by decide +kernel)
set_option maxRecDepth 65536 in
theorem w_c5 : (Jvm.Cond.code ({ cls := "com/example/firm_handshake/firmhandshake/lts/Graph", name := "nodeCount", desc := "()I" } : Jvm.MethodName) prog_91_method_8_code (1 : Nat) (Option.some Jvm.ClassFile.FieldType.int)).before args0 about1 = true := code_word (m := ⟨3, 1⟩) (meth := k3m1) (c := k3c1) (by decide +kernel) rfl rfl rfl (by decide +kernel)
set_option maxRecDepth 65536 in
theorem w_c6 : (Jvm.Cond.code ({ cls := "com/example/firm_handshake/firmhandshake/lts/InternalClosure", name := "open", desc := "()V" } : Jvm.MethodName) prog_94_method_3_code (1 : Nat) (Option.none : Option Jvm.ClassFile.FieldType)).before args0 about1 = true := code_word (m := ⟨4, 1⟩) (meth := k4m1) (c := k4c1) (by decide +kernel) rfl rfl rfl (by decide +kernel)
set_option maxRecDepth 65536 in
theorem w_c7 : (Jvm.Cond.code ({ cls := "com/example/firm_handshake/firmhandshake/lts/InternalClosure", name := "seed", desc := "(I)V" } : Jvm.MethodName) prog_94_method_4_code (2 : Nat) (Option.none : Option Jvm.ClassFile.FieldType)).before args0 about1 = true := code_word (m := ⟨4, 2⟩) (meth := k4m2) (c := k4c2) (by decide +kernel) rfl rfl rfl (by decide +kernel)
set_option maxRecDepth 65536 in
theorem w_c8 : (Jvm.Cond.code ({ cls := "com/example/firm_handshake/firmhandshake/lts/InternalClosure", name := "close", desc := "()[I" } : Jvm.MethodName) prog_94_method_5_code (2 : Nat) (Option.some (Jvm.ClassFile.FieldType.array Jvm.ClassFile.FieldType.int))).before args0 about1 = true := code_word (m := ⟨4, 3⟩) (meth := k4m3) (c := k4c3) (by decide +kernel) rfl rfl rfl (by decide +kernel)
set_option maxRecDepth 65536 in
theorem w_c9 : (Jvm.Cond.code ({ cls := "com/example/firm_handshake/firmhandshake/lts/InternalClosure", name := "spread", desc := "()V" } : Jvm.MethodName) prog_94_method_7_code (4 : Nat) (Option.none : Option Jvm.ClassFile.FieldType)).before args0 about1 = true := code_word (m := ⟨4, 4⟩) (meth := k4m4) (c := k4c4) (by decide +kernel) rfl rfl rfl (by decide +kernel)
set_option maxRecDepth 65536 in
theorem w_c10 : (Jvm.Cond.code ({ cls := "com/example/firm_handshake/firmhandshake/lts/Graph", name := "first", desc := "()[I" } : Jvm.MethodName) prog_91_method_14_code (1 : Nat) (Option.some (Jvm.ClassFile.FieldType.array Jvm.ClassFile.FieldType.int))).before args0 about1 = true := code_word (m := ⟨3, 2⟩) (meth := k3m2) (c := k3c2) (by decide +kernel) rfl rfl rfl (by decide +kernel)
set_option maxRecDepth 65536 in
theorem w_c11 : (Jvm.Cond.code ({ cls := "java/util/Arrays", name := "copyOf", desc := "([II)[I" } : Jvm.MethodName) jdk_65_method_123_code (3 : Nat) (Option.some (Jvm.ClassFile.FieldType.array Jvm.ClassFile.FieldType.int))).before args0 about1 = true := code_word (m := ⟨5, 2⟩) (meth := k5m2) (c := k5c2) (by decide +kernel) rfl rfl rfl (by decide +kernel)
set_option maxRecDepth 65536 in
theorem w_c12 : (Jvm.Cond.code ({ cls := "java/lang/Math", name := "min", desc := "(II)I" } : Jvm.MethodName) jdk_29_method_69_code (2 : Nat) (Option.some Jvm.ClassFile.FieldType.int)).before args0 about1 = true := code_word (m := ⟨6, 1⟩) (meth := k6m1) (c := k6c1) (by decide +kernel) rfl rfl rfl (by decide +kernel)
set_option maxRecDepth 65536 in
theorem w_c13 : (Jvm.Cond.code ({ cls := "java/util/Arrays", name := "sort", desc := "([I)V" } : Jvm.MethodName) jdk_65_method_2_code (1 : Nat) (Option.none : Option Jvm.ClassFile.FieldType)).before args0 about1 = true := code_word (m := ⟨5, 1⟩) (meth := k5m1) (c := k5c1) (by decide +kernel) rfl rfl rfl (by decide +kernel)
set_option maxRecDepth 65536 in
theorem w_c14 : (Jvm.Cond.code ({ cls := "java/util/DualPivotQuicksort", name := "sort", desc := "([IIII)V" } : Jvm.MethodName) jdk_2529_method_3_code (7 : Nat) (Option.none : Option Jvm.ClassFile.FieldType)).before args0 about1 = true := code_word (m := ⟨8, 1⟩) (meth := k8m1) (c := k8c1) (by decide +kernel) rfl rfl rfl (by decide +kernel)
set_option maxRecDepth 65536 in
theorem w_c15 : (Jvm.Cond.code ({ cls := "java/util/DualPivotQuicksort", name := "sort", desc := "(Ljava/util/DualPivotQuicksort$Sorter;[IIII)V" } : Jvm.MethodName) jdk_2529_method_4_code (21 : Nat) (Option.none : Option Jvm.ClassFile.FieldType)).before args0 about1 = true := code_word (m := ⟨8, 2⟩) (meth := k8m2) (c := k8c2) (by decide +kernel) rfl rfl rfl (by decide +kernel)
set_option maxRecDepth 65536 in
theorem w_c16 : (Jvm.Cond.code ({ cls := "java/util/DualPivotQuicksort", name := "insertionSort", desc := "([III)V" } : Jvm.MethodName) jdk_2529_method_6_code (6 : Nat) (Option.none : Option Jvm.ClassFile.FieldType)).before args0 about1 = true := code_word (m := ⟨8, 3⟩) (meth := k8m3) (c := k8c3) (by decide +kernel) rfl rfl rfl (by decide +kernel)
set_option maxRecDepth 65536 in
theorem w_c17 : (Jvm.Cond.code ({ cls := "com/example/firm_handshake/firmhandshake/lts/InternalClosureSeedPinLaw", name := "isSet", desc := "([IIII)Z" } : Jvm.MethodName) method_5_code (4 : Nat) (Option.some Jvm.ClassFile.FieldType.boolean)).before args0 about1 = true := code_word (m := ⟨1, 4⟩) (meth := k1m4) (c := k1c4) (by decide +kernel) rfl rfl rfl (by decide +kernel)
set_option maxRecDepth 65536 in
theorem w_c18 : (Jvm.Cond.code ({ cls := "com/example/firm_handshake/firmhandshake/lts/InternalClosureSeedPinLaw", name := "distinct", desc := "(III)I" } : Jvm.MethodName) method_3_code (4 : Nat) (Option.some Jvm.ClassFile.FieldType.int)).before args0 about1 = true := code_word (m := ⟨1, 2⟩) (meth := k1m2) (c := k1c2) (by decide +kernel) rfl rfl rfl (by decide +kernel)
set_option maxRecDepth 65536 in
theorem w_c19 : (Jvm.Cond.code ({ cls := "com/example/firm_handshake/firmhandshake/lts/InternalClosureSeedPinLaw", name := "contains", desc := "([II)Z" } : Jvm.MethodName) method_4_code (2 : Nat) (Option.some Jvm.ClassFile.FieldType.boolean)).before args0 about1 = true := code_word (m := ⟨1, 3⟩) (meth := k1m3) (c := k1c3) (by decide +kernel) rfl rfl rfl (by decide +kernel)
def codes1 : List Jvm.Cond := [Jvm.Cond.code x code maxLocals ret, Jvm.Cond.code ({ cls := "com/example/firm_handshake/firmhandshake/lts/Graph", name := "<init>", desc := "([I[I[I)V" } : Jvm.MethodName) prog_91_method_1_code (4 : Nat) (Option.none : Option Jvm.ClassFile.FieldType), Jvm.Cond.code ({ cls := "java/lang/Record", name := "<init>", desc := "()V" } : Jvm.MethodName) jdk_30_method_1_code (1 : Nat) (Option.none : Option Jvm.ClassFile.FieldType), Jvm.Cond.code ({ cls := "java/lang/Object", name := "<init>", desc := "()V" } : Jvm.MethodName) object_method_1_code (1 : Nat) (Option.none : Option Jvm.ClassFile.FieldType), Jvm.Cond.code ({ cls := "com/example/firm_handshake/firmhandshake/lts/InternalClosure", name := "<init>", desc := "(Lcom/example/firm_handshake/firmhandshake/lts/Graph;I)V" } : Jvm.MethodName) prog_94_method_1_code (3 : Nat) (Option.none : Option Jvm.ClassFile.FieldType), Jvm.Cond.code ({ cls := "com/example/firm_handshake/firmhandshake/lts/Graph", name := "nodeCount", desc := "()I" } : Jvm.MethodName) prog_91_method_8_code (1 : Nat) (Option.some Jvm.ClassFile.FieldType.int), Jvm.Cond.code ({ cls := "com/example/firm_handshake/firmhandshake/lts/InternalClosure", name := "open", desc := "()V" } : Jvm.MethodName) prog_94_method_3_code (1 : Nat) (Option.none : Option Jvm.ClassFile.FieldType), Jvm.Cond.code ({ cls := "com/example/firm_handshake/firmhandshake/lts/InternalClosure", name := "seed", desc := "(I)V" } : Jvm.MethodName) prog_94_method_4_code (2 : Nat) (Option.none : Option Jvm.ClassFile.FieldType), Jvm.Cond.code ({ cls := "com/example/firm_handshake/firmhandshake/lts/InternalClosure", name := "close", desc := "()[I" } : Jvm.MethodName) prog_94_method_5_code (2 : Nat) (Option.some (Jvm.ClassFile.FieldType.array Jvm.ClassFile.FieldType.int)), Jvm.Cond.code ({ cls := "com/example/firm_handshake/firmhandshake/lts/InternalClosure", name := "spread", desc := "()V" } : Jvm.MethodName) prog_94_method_7_code (4 : Nat) (Option.none : Option Jvm.ClassFile.FieldType), Jvm.Cond.code ({ cls := "com/example/firm_handshake/firmhandshake/lts/Graph", name := "first", desc := "()[I" } : Jvm.MethodName) prog_91_method_14_code (1 : Nat) (Option.some (Jvm.ClassFile.FieldType.array Jvm.ClassFile.FieldType.int)), Jvm.Cond.code ({ cls := "java/util/Arrays", name := "copyOf", desc := "([II)[I" } : Jvm.MethodName) jdk_65_method_123_code (3 : Nat) (Option.some (Jvm.ClassFile.FieldType.array Jvm.ClassFile.FieldType.int)), Jvm.Cond.code ({ cls := "java/lang/Math", name := "min", desc := "(II)I" } : Jvm.MethodName) jdk_29_method_69_code (2 : Nat) (Option.some Jvm.ClassFile.FieldType.int), Jvm.Cond.code ({ cls := "java/util/Arrays", name := "sort", desc := "([I)V" } : Jvm.MethodName) jdk_65_method_2_code (1 : Nat) (Option.none : Option Jvm.ClassFile.FieldType), Jvm.Cond.code ({ cls := "java/util/DualPivotQuicksort", name := "sort", desc := "([IIII)V" } : Jvm.MethodName) jdk_2529_method_3_code (7 : Nat) (Option.none : Option Jvm.ClassFile.FieldType), Jvm.Cond.code ({ cls := "java/util/DualPivotQuicksort", name := "sort", desc := "(Ljava/util/DualPivotQuicksort$Sorter;[IIII)V" } : Jvm.MethodName) jdk_2529_method_4_code (21 : Nat) (Option.none : Option Jvm.ClassFile.FieldType), Jvm.Cond.code ({ cls := "java/util/DualPivotQuicksort", name := "insertionSort", desc := "([III)V" } : Jvm.MethodName) jdk_2529_method_6_code (6 : Nat) (Option.none : Option Jvm.ClassFile.FieldType), Jvm.Cond.code ({ cls := "com/example/firm_handshake/firmhandshake/lts/InternalClosureSeedPinLaw", name := "isSet", desc := "([IIII)Z" } : Jvm.MethodName) method_5_code (4 : Nat) (Option.some Jvm.ClassFile.FieldType.boolean), Jvm.Cond.code ({ cls := "com/example/firm_handshake/firmhandshake/lts/InternalClosureSeedPinLaw", name := "distinct", desc := "(III)I" } : Jvm.MethodName) method_3_code (4 : Nat) (Option.some Jvm.ClassFile.FieldType.int), Jvm.Cond.code ({ cls := "com/example/firm_handshake/firmhandshake/lts/InternalClosureSeedPinLaw", name := "contains", desc := "([II)Z" } : Jvm.MethodName) method_4_code (2 : Nat) (Option.some Jvm.ClassFile.FieldType.boolean)]
set_option maxRecDepth 65536 in
theorem codes_eq : words1.filter isCode = codes1 := rfl
theorem w_codes : ∀ c ∈ words1.filter isCode, c.before args0 about1 = true := by
  rw [codes_eq]
  intro c hc
  simp only [codes1, List.mem_cons, List.not_mem_nil, or_false] at hc
  rcases hc with rfl | rfl | rfl | rfl | rfl | rfl | rfl | rfl | rfl | rfl | rfl | rfl | rfl | rfl | rfl | rfl | rfl | rfl | rfl | rfl
  · exact w_c0
  · exact w_c1
  · exact w_c2
  · exact w_c3
  · exact w_c4
  · exact w_c5
  · exact w_c6
  · exact w_c7
  · exact w_c8
  · exact w_c9
  · exact w_c10
  · exact w_c11
  · exact w_c12
  · exact w_c13
  · exact w_c14
  · exact w_c15
  · exact w_c16
  · exact w_c17
  · exact w_c18
  · exact w_c19
set_option maxRecDepth 65536 in
theorem w_t1 : (words1.take 24).all (fun c => isCode c || c.before args0 about1) = true := by decide +kernel
set_option maxRecDepth 65536 in
theorem w_t2 : ((words1.drop 24).take 24).all (fun c => isCode c || c.before args0 about1) = true := by decide +kernel
set_option maxRecDepth 65536 in
theorem w_t3 : (((words1.drop 24).drop 24).take 24).all (fun c => isCode c || c.before args0 about1) = true := by decide +kernel
set_option maxRecDepth 65536 in
theorem w_t4 : ((((words1.drop 24).drop 24).drop 24).take 24).all (fun c => isCode c || c.before args0 about1) = true := by decide +kernel
set_option maxRecDepth 65536 in
theorem w_t5 : ((((words1.drop 24).drop 24).drop 24).drop 24).all (fun c => isCode c || c.before args0 about1) = true := by decide +kernel
theorem w_tables : (allAtoms (Jvm.Cond.code x code maxLocals ret :: tables_1)).before args0 about1 = true := by
  rw [allAtoms_all]
  show words1.all (fun c => c.before args0 about1) = true
  refine all_split ?_ w_codes
  rw [← List.take_append_drop 24 words1, List.all_append, w_t1, ← List.take_append_drop 24 (words1.drop 24), List.all_append, w_t2, ← List.take_append_drop 24 ((words1.drop 24).drop 24), List.all_append, w_t3, ← List.take_append_drop 24 (((words1.drop 24).drop 24).drop 24), List.all_append, w_t4, w_t5]
  rfl
set_option maxRecDepth 65536 in
theorem w_case : (Jvm.Cond.and given_1 narrow_1).before args0 about1 = true := by decide +kernel
theorem w_applies : (headSpec (Jvm.Cond.code x code maxLocals ret :: tables_1) room_1).applies x e0.platform about1 = true :=
  (Spec.applies_iff w_frames).mpr ⟨w_running, w_runnable, w_alone, w_named, w_hears, w_ripe, w_room, w_tables⟩
theorem atStart : AtStart classFile x code maxLocals ret World_1 tables_1 room_1 Calls_1 rest_1 Pre_1 launch0 p0 e0 about1 theMethod args0 below0 :=
  ⟨lists_1, trivial, launch0.admits_env _ _ _, launch0.least_env, fairChoices_fair.cas, fairChoices_fair.clock, w_frames, w_args, w_heap, w_applies, trivial, trivial, w_case⟩
end start1
theorem witness_1 : WitnessClaimed_1 := ⟨start1.p0, start1.e0, start1.about1, start1.theMethod, start1.args0, start1.below0, start1.atStart⟩
end Jvm.Pilot.@@N@@
