import JvmDerived
import JvmDerived.Pilot.@@N@@Statement
import JvmDerived.Pilot.@@N@@Code
set_option linter.unusedVariables false
set_option linter.unusedSimpArgs false

namespace Jvm.Sy
open Jvm Jvm.ClassFile Sem Op Lib Jvm.Free Jvm.Stand Jvm.LawKit Jvm.RoadKit Bundle

abbrev WKey := String × String × String
abbrev WObj := (FieldType × List Value) ⊕ (String × List (WKey × Value))
abbrev WHp := List WObj
def gv (ρ : Nat → Nat) : Value → Value
  | .ref a => .ref (ρ a)
  | .int x => .int x
  | .long x => .long x
  | .float x => .float x
  | .double x => .double x
  | .null => .null
  | .retAddr q => .retAddr q
def gs (ρ : Nat → Nat) : Slot → Slot
  | .val v => .val (gv ρ v)
  | .unset => .unset
  | .second => .second
def gS (ρ : Nat → Nat) (S : List Value) : List Value := S.map (gv ρ)
def gL (ρ : Nat → Nat) (L : List Slot) : Array Slot := (L.map (gs ρ)).toArray
section Vals
variable {ρ : Nat → Nat} {v : Value} {ty : FieldType}
theorem cat_gv : (gv ρ v).category = v.category := by cases v <;> rfl
theorem isRef_gv : (gv ρ v).isRef = v.isRef := by cases v <;> rfl
theorem fits_gv : fits ty (gv ρ v) = fits ty v := by cases ty <;> cases v <;> rfl
theorem narrow_gv : narrow ty (gv ρ v) = gv ρ (narrow ty v) := by cases ty <;> cases v <;> rfl
theorem dv_gv : gv ρ (defaultValue ty) = defaultValue ty := by cases ty <;> rfl
theorem sum_gS (S : List Value) : ((gS ρ S).map fun v => v.category).sum = (S.map Value.category).sum := by
  induction S with
  | nil => rfl
  | cons a t ih => simp only [gS, List.map_cons, List.sum_cons, cat_gv] at ih ⊢; rw [ih]
theorem gL_get (L : List Slot) (k : Nat) : (gL ρ L)[k]? = (L[k]?).map (gs ρ) := by simp [gL]
theorem gL_val {L : List Slot} {k : Nat} (h : L[k]? = some (.val v)) : (gL ρ L)[k]? = some (.val (gv ρ v)) := by rw [gL_get, h]; rfl
theorem gL_size (L : List Slot) : (gL ρ L).size = L.length := by simp [gL]
end Vals
def ArrOk (Z : State) (ρ : Nat → Nat) (h : Heap) (a : Addr) (ty : FieldType) (vs : List Value) : Prop :=
  ∃ cl : Cell, Arr Z h a cl ty ∧ cl.slots.toList = vs.map (gv ρ) ∧ (∀ C, ty = .object C → Ovr Z cl.cls C) ∧ ∀ v ∈ vs, fits ty v = true
def ObjOk (Z : State) (ρ : Nat → Nat) (h : Heap) (a : Addr) (C : String) (fs : List (WKey × Value)) : Prop :=
  Exa Z h a C ∧ (∀ (i : Nat) (O n d : String) (v : Value), fs[i]? = some ((O, n, d), v) → Fld Z h a O n d (gv ρ v)) ∧
    ∀ (i j : Nat) (k1 k2 : WKey) (v1 v2 : Value), i ≠ j → fs[i]? = some (k1, v1) → fs[j]? = some (k2, v2) → RoadKit.slotOf Z k1.1 k1.2.1 k1.2.2 ≠ RoadKit.slotOf Z k2.1 k2.2.1 k2.2.2
def CellOk (Z : State) (ρ : Nat → Nat) (h : Heap) (a : Addr) : WObj → Prop
  | .inl q => ArrOk Z ρ h a q.1 q.2
  | .inr q => ObjOk Z ρ h a q.1 q.2
def WDen (Z : State) (ρ : Nat → Nat) (n0 : Nat) (σ : WHp) (h : Heap) : Prop :=
  h.size = n0 + σ.length ∧ (σ.length ≤ 1000 ∧ ∀ (a : Addr) (c : Cell), a < n0 → Z.heap[a]? = some c → h[a]? = some c) ∧ ∀ (k : Nat) (o : WObj), σ[k]? = some o → CellOk Z ρ h (n0 + k) o
section Heaps
variable {Z : State} {ρ : Nat → Nat} {h h' : Heap} {a b : Addr} {o : WObj} {n0 k sl : Nat} {σ : WHp} {v : Value}
theorem CellOk.ext (F : CellOk Z ρ h a o) (E : Ext h h') : CellOk Z ρ h' a o := by
  rcases o with ⟨ty, vs⟩ | ⟨C, fs⟩
  · obtain ⟨cl, A, r⟩ := F; exact ⟨cl, A.ext E, r⟩
  · obtain ⟨F1, F2, F3⟩ := F; exact ⟨F1.ext E, fun i O n d v q => (F2 i O n d v q).ext E, F3⟩
theorem CellOk.other (F : CellOk Z ρ h b o) (W : Wr h h' a sl v) (q : b ≠ a) : CellOk Z ρ h' b o := by
  rcases o with ⟨ty, vs⟩ | ⟨C, fs⟩
  · obtain ⟨cl, A, r⟩ := F; exact ⟨cl, A.other W q, r⟩
  · obtain ⟨F1, F2, F3⟩ := F; exact ⟨F1.wr W, fun i O n d v y => (F2 i O n d v y).other W (Or.inl q), F3⟩
theorem WDen.push (D : WDen Z ρ n0 σ h) (E : Ext h h') (hs : h'.size = h.size + 1) (hl : σ.length < 1000) (F : CellOk Z ρ h' (n0 + σ.length) o) : WDen Z ρ n0 (σ ++ [o]) h' := by
  obtain ⟨D1, D2, D3⟩ := D
  refine ⟨by rw [hs, D1]; simp [Nat.add_assoc], ⟨by simp; omega, fun a c h1 h2 => E.2 _ _ (D2.2 a c h1 h2)⟩, fun k o' hk => ?_⟩
  by_cases q : k < σ.length
  · rw [List.getElem?_append_left q] at hk; exact (D3 k o' hk).ext E
  · rw [List.getElem?_append_right (by omega)] at hk
    have e : k - σ.length = 0 := by
      rcases Nat.eq_zero_or_pos (k - σ.length) with z | z
      · exact z
      · rw [List.getElem?_eq_none (by simp; omega)] at hk; cases hk
    rw [e] at hk
    cases hk
    have e2 : k = σ.length := by omega
    rw [e2]; exact F
theorem WDen.put (D : WDen Z ρ n0 σ h) (W : Wr h h' (n0 + k) sl v) (F : CellOk Z ρ h' (n0 + k) o) : WDen Z ρ n0 (σ.set k o) h' := by
  obtain ⟨D1, D2, D3⟩ := D
  refine ⟨by rw [W.size, D1]; simp, ⟨by simp; exact D2.1, fun a c h1 h2 => ?_⟩, fun j o' hj => ?_⟩
  · obtain ⟨c', q1, -, -, -, q5, -⟩ := wr_at W (D2.2 a c h1 h2)
    rw [q1, q5 (fun e => by rw [e] at h1; exact absurd h1 (Nat.not_lt.mpr (Nat.le_add_right _ _)))]
  by_cases q : j = k
  · subst q
    rw [List.getElem?_set] at hj
    simp only [if_true] at hj
    split at hj
    · cases hj; exact F
    · cases hj
  · rw [List.getElem?_set_ne (Ne.symm q)] at hj
    exact (D3 j o' hj).other W fun e => q (Nat.add_left_cancel e)
theorem WDen.lt (D : WDen Z ρ n0 σ h) (hk : σ[k]? = some o) : k < 1000 := by
  have := (List.getElem?_eq_some_iff.mp hk).1
  have := D.2.1.1
  omega
theorem ArrOk.size {ty : FieldType} {vs : List Value} {cl : Cell} (e : cl.slots.toList = vs.map (gv ρ)) : cl.slots.size = vs.length := by
  have := congrArg List.length e
  simpa using this
theorem ArrOk.at {vs : List Value} {cl : Cell} (e : cl.slots.toList = vs.map (gv ρ)) {i : Nat} {w : Value} (hw : vs[i]? = some w) : cl.slots[i]? = some (gv ρ w) := by
  rw [← Array.getElem?_toList, e, List.getElem?_map, hw]; rfl
theorem ArrOk.set {ty : FieldType} {vs : List Value} {cl : Cell} (A : Arr Z h a cl ty) (e : cl.slots.toList = vs.map (gv ρ)) (hO : ∀ C, ty = .object C → Ovr Z cl.cls C) (hf : ∀ v ∈ vs, fits ty v = true) {i : Nat} {w : Value} (W : Wr h h' a i (gv ρ w)) (hw : fits ty w = true) : ArrOk Z ρ h' a ty (vs.set i w) := by
  refine ⟨cl.setSlot i (gv ρ w), A.same W, ?_, hO, fun y hy => ?_⟩
  · show (cl.slots.setIfInBounds i (gv ρ w)).toList = _
    rw [Array.toList_setIfInBounds, e, List.map_set]
  · rcases List.mem_or_eq_of_mem_set hy with q | q
    · exact hf y q
    · rw [q]; exact hw
end Heaps
abbrev WMC := (State × (Nat → Nat) × Nat) × (String × ByteArray × String × Option FieldType × Nat) × (Nat × Nat × Nat × Nat)
abbrev WMC.Z (G : WMC) : State := G.1.1
abbrev WMC.ρ (G : WMC) : Nat → Nat := G.1.2.1
abbrev WMC.n0 (G : WMC) : Nat := G.1.2.2
abbrev WMC.own (G : WMC) : String := G.2.1.1
abbrev WMC.bytes (G : WMC) : ByteArray := G.2.1.2.1
abbrev WMC.nm (G : WMC) : String := G.2.1.2.2.1
abbrev WMC.ret (G : WMC) : Option FieldType := G.2.1.2.2.2.1
abbrev WMC.ml (G : WMC) : Nat := G.2.1.2.2.2.2
abbrev WMC.j0 (G : WMC) : Nat := G.2.2.1
abbrev WMC.u0 (G : WMC) : Nat := G.2.2.2.1
abbrev WMC.fr (G : WMC) : Nat := G.2.2.2.2.1
abbrev WMC.lo (G : WMC) : Nat := G.2.2.2.2.2
abbrev WCfg := Nat × List Slot × List Value × WHp × Nat
def frm (G : WMC) (m : MethodId) (A : WCfg) : JFrame := mkF m A.1 (gL G.ρ A.2.1) (gS G.ρ A.2.2.1)
def WCtx (G : WMC) (p : Program) (R : Room) (s : State) (m : MethodId) (meth : Method) (c : Code) : Prop :=
  p.tables.exec = Jvm.exec ∧ c.code = G.bytes ∧ G.Z.Warmed39 s.vm ∧ s.vm.findClass G.own = some m.cls ∧ meth.name = G.nm ∧ meth.sig.returnType = G.ret ∧ c.maxLocals = G.ml ∧ s.heap.size = G.n0 + G.j0 ∧ (∀ k, k < 1000 → G.ρ k = G.n0 + k) ∧ (∀ i j, G.ρ i = G.ρ j → i = j) ∧ G.fr ≤ R.frames ∧ G.lo ≤ R.locals
def WHere (G : WMC) (p : Program) (l : Launch) (e : Env) (R : Room) (s : State) (m : MethodId) (args : Array Value) (below : List Frame) (meth : Method) (c : Code) (σ : WHp) (u : Nat) (T : State) : Prop :=
  ∃ locs ce sl, σ.length = G.j0 + ce ∧ u = G.u0 + sl ∧ Stand p l e R s m args below meth c T locs ce sl ∧ WDen G.Z G.ρ G.n0 σ T.heap ∧ Fr G.n0 locs
def WStep (G : WMC) (A B : WCfg) : Prop :=
  A.2.2.2.1.length ≤ B.2.2.2.1.length ∧ A.2.2.2.2 ≤ B.2.2.2.2 ∧
  ∀ (p : Program) (l : Launch) (e : Env) (R : Room) (s : State) (m : MethodId) (args : Array Value) (below : List Frame) (meth : Method) (c : Code),
    WCtx G p R s m meth c → B.2.2.2.1.length ≤ G.j0 + R.cells → B.2.2.2.2 ≤ G.u0 + R.slots →
    ∀ T, WHere G p l e R s m args below meth c A.2.2.2.1 A.2.2.2.2 T →
      ∃ T', WHere G p l e R s m args below meth c B.2.2.2.1 B.2.2.2.2 T' ∧
        ∀ target, Steps p.tables e below (T'.setTop (frm G m B)) target → Steps p.tables e below (T.setTop (frm G m A)) target
def WRun (G : WMC) (A : WCfg) (v : Option Value) (σ' : WHp) (u' : Nat) : Prop :=
  A.2.2.2.1.length ≤ σ'.length ∧ A.2.2.2.2 ≤ u' ∧ (G.ret = none → v = none) ∧
  ∀ (p : Program) (l : Launch) (e : Env) (R : Room) (s : State) (m : MethodId) (args : Array Value) (below : List Frame) (meth : Method) (c : Code),
    WCtx G p R s m meth c → σ'.length ≤ G.j0 + R.cells → u' ≤ G.u0 + R.slots →
    ∀ T, WHere G p l e R s m args below meth c A.2.2.2.1 A.2.2.2.2 T →
      ∃ T', WHere G p l e R s m args below meth c σ' u' T' ∧
        ∀ fs, (∀ (f : JFrame) (acts : List Action), f.method = m → f.locked = none → f.entered = [] → (doReturn e (T'.setTop f) acts (v.map (gv G.ρ))).1 = T'.setFrames fs) →
          Steps p.tables e below (T.setTop (frm G m A)) (T'.setFrames fs)
def WGo (G : WMC) (A : WCfg) (Q : Option Value → WHp → Nat → Prop) : Prop := ∃ v σ' u', Q v σ' u' ∧ WRun G A v σ' u'
def AtI (bytes : ByteArray) (pc : Nat) (i : Instr) (len nx : Nat) : Prop := decode bytes pc = .ok (i, len) ∧ pc + len = nx
def AtJ (bytes : ByteArray) (pc : Nat) (f : Int → Instr) (nx tgt : Nat) : Prop := ∃ o : Int, decode bytes pc = .ok (f o, 3) ∧ pc + 3 = nx ∧ 0 ≤ (pc : Int) + o ∧ ((pc : Int) + o).toNat = tgt
section Walk
variable {G : WMC} {A B C : WCfg} {Q Q' : Option Value → WHp → Nat → Prop}
theorem WStep.refl (A : WCfg) : WStep G A A := ⟨Nat.le_refl _, Nat.le_refl _, fun _ _ _ _ _ _ _ _ _ _ _ _ _ T hT => ⟨T, hT, fun _ k => k⟩⟩
theorem WStep.trans (h1 : WStep G A B) (h2 : WStep G B C) : WStep G A C := by
  obtain ⟨a1, a2, a3⟩ := h1
  obtain ⟨b1, b2, b3⟩ := h2
  refine ⟨Nat.le_trans a1 b1, Nat.le_trans a2 b2, fun p l e R s m args below meth c hC hc hs T hT => ?_⟩
  obtain ⟨T1, hT1, k1⟩ := a3 p l e R s m args below meth c hC (Nat.le_trans b1 hc) (Nat.le_trans b2 hs) T hT
  obtain ⟨T2, hT2, k2⟩ := b3 p l e R s m args below meth c hC hc hs T1 hT1
  exact ⟨T2, hT2, fun t k => k1 t (k2 t k)⟩
theorem WRun.s {v : Option Value} {σ' : WHp} {u' : Nat} (h1 : WStep G A B) (h2 : WRun G B v σ' u') : WRun G A v σ' u' := by
  obtain ⟨a1, a2, a3⟩ := h1
  obtain ⟨b1, b2, b0, b3⟩ := h2
  refine ⟨Nat.le_trans a1 b1, Nat.le_trans a2 b2, b0, fun p l e R s m args below meth c hC hc hs T hT => ?_⟩
  obtain ⟨T1, hT1, k1⟩ := a3 p l e R s m args below meth c hC (Nat.le_trans b1 hc) (Nat.le_trans b2 hs) T hT
  obtain ⟨T2, hT2, k2⟩ := b3 p l e R s m args below meth c hC hc hs T1 hT1
  exact ⟨T2, hT2, fun fs h => k1 _ (k2 fs h)⟩
theorem WGo.s (h1 : WStep G A B) (h2 : WGo G B Q) : WGo G A Q := by
  obtain ⟨v, σ', u', q, r⟩ := h2
  exact ⟨v, σ', u', q, r.s h1⟩
theorem WGo.mono (h1 : WGo G A Q) (h : ∀ v σ' u', Q v σ' u' → Q' v σ' u') : WGo G A Q' := by
  obtain ⟨v, σ', u', q, r⟩ := h1
  exact ⟨v, σ', u', h _ _ _ q, r⟩
theorem WStep.pure {pc nx : Nat} {L L' : List Slot} {S S' : List Value} {σ : WHp} {u : Nat}
    (h : ∀ {p : Program} {e : Env} {below : List Frame} {T target : State} {m : MethodId} {c : Code}, At T m c below → p.tables.exec = Jvm.exec → c.code = G.bytes → (∀ i j, G.ρ i = G.ρ j → i = j) →
      Steps p.tables e below (T.setTop (mkF m nx (gL G.ρ L') (gS G.ρ S'))) target → Steps p.tables e below (T.setTop (mkF m pc (gL G.ρ L) (gS G.ρ S))) target) :
    WStep G (pc, L, S, σ, u) (nx, L', S', σ, u) := by
  refine ⟨Nat.le_refl _, Nat.le_refl _, fun p l e R s m args below meth c hC hc hs T hT => ⟨T, hT, fun target k => ?_⟩⟩
  obtain ⟨locs, ce, sl, h1, h2, X, D, N⟩ := hT
  exact h X.here hC.1 hC.2.1 hC.2.2.2.2.2.2.2.2.2.1 k
end Walk
end Jvm.Sy
namespace Jvm.Sy
open Jvm Jvm.ClassFile Sem Op Lib Jvm.Free Jvm.Stand Jvm.LawKit Jvm.RoadKit Bundle
section Pure
variable {G : WMC} {pc nx tgt u : Nat} {L L' : List Slot} {S : List Value} {σ : WHp}
theorem WStep.iload {k : Nat} {x : Int32} (d : AtI G.bytes pc (.iload k) 2 nx) (hl : L[k]? = some (.val (.int x))) : WStep G (pc, L, S, σ, u) (nx, L, .int x :: S, σ, u) := by
  obtain ⟨d, rfl⟩ := d
  exact WStep.pure fun hA hx hby _ k => XS.iload hA hx rfl (hb hby d) (gL_val hl) k
theorem WStep.iloadN {k : Fin 4} {x : Int32} (d : AtI G.bytes pc (.iload_n k) 1 nx) (hl : L[k.val]? = some (.val (.int x))) : WStep G (pc, L, S, σ, u) (nx, L, .int x :: S, σ, u) := by
  obtain ⟨d, rfl⟩ := d
  exact WStep.pure fun hA hx hby _ k => XS.iloadN hA hx rfl (hb hby d) (gL_val hl) k
theorem WStep.lload {k : Nat} {x : Int64} (d : AtI G.bytes pc (.lload k) 2 nx) (hl : L[k]? = some (.val (.long x))) : WStep G (pc, L, S, σ, u) (nx, L, .long x :: S, σ, u) := by
  obtain ⟨d, rfl⟩ := d
  exact WStep.pure fun hA hx hby _ k => XS.lload hA hx rfl (hb hby d) (gL_val hl) k
theorem WStep.lloadN {k : Fin 4} {x : Int64} (d : AtI G.bytes pc (.lload_n k) 1 nx) (hl : L[k.val]? = some (.val (.long x))) : WStep G (pc, L, S, σ, u) (nx, L, .long x :: S, σ, u) := by
  obtain ⟨d, rfl⟩ := d
  exact WStep.pure fun hA hx hby _ k => XS.lloadN hA hx rfl (hb hby d) (gL_val hl) k
theorem WStep.aload {k : Nat} {x : Value} (d : AtI G.bytes pc (.aload k) 2 nx) (hl : L[k]? = some (.val x)) (hr : x.isRef = true) : WStep G (pc, L, S, σ, u) (nx, L, x :: S, σ, u) := by
  obtain ⟨d, rfl⟩ := d
  exact WStep.pure fun hA hx hby _ k => XS.aload hA hx rfl (hb hby d) (gL_val hl) (isRef_gv.trans hr) k
theorem WStep.aloadN {k : Fin 4} {x : Value} (d : AtI G.bytes pc (.aload_n k) 1 nx) (hl : L[k.val]? = some (.val x)) (hr : x.isRef = true) : WStep G (pc, L, S, σ, u) (nx, L, x :: S, σ, u) := by
  obtain ⟨d, rfl⟩ := d
  exact WStep.pure fun hA hx hby _ k => XS.aloadN hA hx rfl (hb hby d) (gL_val hl) (isRef_gv.trans hr) k
theorem WStep.istore {k : Nat} {x : Int32} (d : AtI G.bytes pc (.istore k) 2 nx) (hl : storeLocals (gL G.ρ L) k (.int x) = some (gL G.ρ L')) : WStep G (pc, L, .int x :: S, σ, u) (nx, L', S, σ, u) := by
  obtain ⟨d, rfl⟩ := d
  exact WStep.pure fun hA hx hby _ k => XS.istore hA hx rfl (hb hby d) rfl hl k
theorem WStep.lstore {k : Nat} {x : Int64} (d : AtI G.bytes pc (.lstore k) 2 nx) (hl : storeLocals (gL G.ρ L) k (.long x) = some (gL G.ρ L')) : WStep G (pc, L, .long x :: S, σ, u) (nx, L', S, σ, u) := by
  obtain ⟨d, rfl⟩ := d
  exact WStep.pure fun hA hx hby _ k => XS.lstore hA hx rfl (hb hby d) rfl hl k
theorem WStep.astore {k : Nat} {x : Value} (d : AtI G.bytes pc (.astore k) 2 nx) (hr : x.isRef = true) (hl : storeLocals (gL G.ρ L) k (gv G.ρ x) = some (gL G.ρ L')) : WStep G (pc, L, x :: S, σ, u) (nx, L', S, σ, u) := by
  obtain ⟨d, rfl⟩ := d
  exact WStep.pure fun hA hx hby _ k => XS.astore hA hx rfl (hb hby d) rfl (isRef_gv.trans hr) hl k
theorem WStep.astoreN {k : Fin 4} {x : Value} (d : AtI G.bytes pc (.astore_n k) 1 nx) (hr : x.isRef = true) (hl : storeLocals (gL G.ρ L) k.val (gv G.ρ x) = some (gL G.ρ L')) : WStep G (pc, L, x :: S, σ, u) (nx, L', S, σ, u) := by
  obtain ⟨d, rfl⟩ := d
  exact WStep.pure fun hA hx hby _ k => XS.astoreN hA hx rfl (hb hby d) rfl (isRef_gv.trans hr) hl k
theorem WStep.iinc {k : Nat} {cst : Int} {x : Int32} (d : AtI G.bytes pc (.iinc k cst) 3 nx) (hl : L[k]? = some (.val (.int x))) (hl' : storeLocals (gL G.ρ L) k (.int (x + Int32.ofInt cst)) = some (gL G.ρ L')) : WStep G (pc, L, S, σ, u) (nx, L', S, σ, u) := by
  obtain ⟨d, rfl⟩ := d
  exact WStep.pure fun hA hx hby _ k => XS.iinc hA hx rfl (hb hby d) (gL_val hl) hl' k
theorem WStep.iconst {i : Int} (z : Int32) (d : AtI G.bytes pc (.iconst i) 1 nx) (hz : Int32.ofInt i = z) : WStep G (pc, L, S, σ, u) (nx, L, .int z :: S, σ, u) := by
  obtain ⟨d, rfl⟩ := d
  exact WStep.pure fun hA hx hby _ k => by subst hz; exact XS.iconst hA hx rfl (hb hby d) k
theorem WStep.bipush {i : Int} (z : Int32) (d : AtI G.bytes pc (.bipush i) 2 nx) (hz : (Int8.ofInt i).toInt32 = z) : WStep G (pc, L, S, σ, u) (nx, L, .int z :: S, σ, u) := by
  obtain ⟨d, rfl⟩ := d
  exact WStep.pure fun hA hx hby _ k => by subst hz; exact XS.bipush hA hx rfl (hb hby d) k
theorem WStep.lconst {i : Fin 2} (z : Int64) (d : AtI G.bytes pc (.lconst i) 1 nx) (hz : Int64.ofNat i = z) : WStep G (pc, L, S, σ, u) (nx, L, .long z :: S, σ, u) := by
  obtain ⟨d, rfl⟩ := d
  exact WStep.pure fun hA hx hby _ k => by subst hz; exact XS.lconst hA hx rfl (hb hby d) k
theorem WStep.iadd {x y : Int32} (d : AtI G.bytes pc .iadd 1 nx) : WStep G (pc, L, .int y :: .int x :: S, σ, u) (nx, L, .int (x + y) :: S, σ, u) := by
  obtain ⟨d, rfl⟩ := d
  exact WStep.pure fun hA hx hby _ k => XS.iadd hA hx rfl (hb hby d) rfl k
theorem WStep.imul {x y : Int32} (d : AtI G.bytes pc .imul 1 nx) : WStep G (pc, L, .int y :: .int x :: S, σ, u) (nx, L, .int (x * y) :: S, σ, u) := by
  obtain ⟨d, rfl⟩ := d
  exact WStep.pure fun hA hx hby _ k => XS.imul hA hx rfl (hb hby d) rfl k
theorem WStep.ladd {x y : Int64} (d : AtI G.bytes pc .ladd 1 nx) : WStep G (pc, L, .long y :: .long x :: S, σ, u) (nx, L, .long (x + y) :: S, σ, u) := by
  obtain ⟨d, rfl⟩ := d
  exact WStep.pure fun hA hx hby _ k => XS.ladd hA hx rfl (hb hby d) rfl k
theorem WStep.lsub {x y : Int64} (d : AtI G.bytes pc .lsub 1 nx) : WStep G (pc, L, .long y :: .long x :: S, σ, u) (nx, L, .long (x - y) :: S, σ, u) := by
  obtain ⟨d, rfl⟩ := d
  exact WStep.pure fun hA hx hby _ k => XS.lsub hA hx rfl (hb hby d) rfl k
theorem WStep.lmul {x y : Int64} (d : AtI G.bytes pc .lmul 1 nx) : WStep G (pc, L, .long y :: .long x :: S, σ, u) (nx, L, .long (x * y) :: S, σ, u) := by
  obtain ⟨d, rfl⟩ := d
  exact WStep.pure fun hA hx hby _ k => XS.lmul hA hx rfl (hb hby d) rfl k
theorem WStep.land {x y : Int64} (d : AtI G.bytes pc .land 1 nx) : WStep G (pc, L, .long y :: .long x :: S, σ, u) (nx, L, .long (x &&& y) :: S, σ, u) := by
  obtain ⟨d, rfl⟩ := d
  exact WStep.pure fun hA hx hby _ k => XS.land hA hx rfl (hb hby d) rfl k
theorem WStep.lushr {x : Int64} {y : Int32} (d : AtI G.bytes pc .lushr 1 nx) : WStep G (pc, L, .int y :: .long x :: S, σ, u) (nx, L, .long ((x.toUInt64 >>> (y &&& 0x3f).toInt64.toUInt64).toInt64) :: S, σ, u) := by
  obtain ⟨d, rfl⟩ := d
  exact WStep.pure fun hA hx hby _ k => XS.lushr hA hx rfl (hb hby d) rfl k
theorem WStep.i2l {x : Int32} (d : AtI G.bytes pc .i2l 1 nx) : WStep G (pc, L, .int x :: S, σ, u) (nx, L, .long (x.toInt64) :: S, σ, u) := by
  obtain ⟨d, rfl⟩ := d
  exact WStep.pure fun hA hx hby _ k => XS.i2l hA hx rfl (hb hby d) rfl k
theorem WStep.l2i {x : Int64} (d : AtI G.bytes pc .l2i 1 nx) : WStep G (pc, L, .long x :: S, σ, u) (nx, L, .int (x.toInt32) :: S, σ, u) := by
  obtain ⟨d, rfl⟩ := d
  exact WStep.pure fun hA hx hby _ k => XS.l2i hA hx rfl (hb hby d) rfl k
theorem WStep.lcmp {x y : Int64} (d : AtI G.bytes pc .lcmp 1 nx) : WStep G (pc, L, .long y :: .long x :: S, σ, u) (nx, L, .int (lcmpW x y) :: S, σ, u) := by
  obtain ⟨d, rfl⟩ := d
  exact WStep.pure fun hA hx hby _ k => XS.lcmp hA hx rfl (hb hby d) rfl k
theorem WStep.dup {x : Value} (d : AtI G.bytes pc .dup 1 nx) (hc : x.category = 1) : WStep G (pc, L, x :: S, σ, u) (nx, L, x :: x :: S, σ, u) := by
  obtain ⟨d, rfl⟩ := d
  exact WStep.pure fun hA hx hby _ k => XS.dup hA hx rfl (hb hby d) rfl (cat_gv.trans hc) k
theorem WStep.dupX1 {x y : Value} (d : AtI G.bytes pc .dup_x1 1 nx) (hc : x.category = 1) (hc' : y.category = 1) : WStep G (pc, L, x :: y :: S, σ, u) (nx, L, x :: y :: x :: S, σ, u) := by
  obtain ⟨d, rfl⟩ := d
  exact WStep.pure fun hA hx hby _ k => XS.dupX1 hA hx rfl (hb hby d) rfl (cat_gv.trans hc) (cat_gv.trans hc') k
theorem WStep.goto (d : AtJ G.bytes pc .goto nx tgt) : WStep G (pc, L, S, σ, u) (tgt, L, S, σ, u) := by
  obtain ⟨o, d, rfl, h0, h1⟩ := d
  exact WStep.pure fun hA hx hby _ k => XS.goto hA hx rfl (pc0 := pc) (pc' := tgt) rfl (hb hby d) h0 h1 k
theorem WStep.icmpT {cd : ClassFile.Cond} {x y : Int32} (d : AtJ G.bytes pc (.if_icmp cd) nx tgt) (h : if_icmp.holds cd x y = true) : WStep G (pc, L, .int y :: .int x :: S, σ, u) (tgt, L, S, σ, u) := by
  obtain ⟨o, d, rfl, h0, h1⟩ := d
  exact WStep.pure fun hA hx hby _ k => XS.icmpYes hA hx rfl (pc0 := pc) (pc' := tgt) rfl (hb hby d) rfl h h0 h1 k
theorem WStep.icmpF {cd : ClassFile.Cond} {x y : Int32} (d : AtJ G.bytes pc (.if_icmp cd) nx tgt) (h : if_icmp.holds cd x y = false) : WStep G (pc, L, .int y :: .int x :: S, σ, u) (nx, L, S, σ, u) := by
  obtain ⟨o, d, rfl, h0, h1⟩ := d
  exact WStep.pure fun hA hx hby _ k => XS.icmpNo hA hx rfl (hb hby d) rfl h k
theorem WStep.ifT {cd : ClassFile.Cond} {x : Int32} (d : AtJ G.bytes pc (.ifCond cd) nx tgt) (h : if_icmp.holds cd x 0 = true) : WStep G (pc, L, .int x :: S, σ, u) (tgt, L, S, σ, u) := by
  obtain ⟨o, d, rfl, h0, h1⟩ := d
  exact WStep.pure fun hA hx hby _ k => XS.ifYes hA hx rfl (pc0 := pc) (pc' := tgt) rfl (hb hby d) rfl ((if0 _ _).trans h) h0 h1 k
theorem WStep.ifF {cd : ClassFile.Cond} {x : Int32} (d : AtJ G.bytes pc (.ifCond cd) nx tgt) (h : if_icmp.holds cd x 0 = false) : WStep G (pc, L, .int x :: S, σ, u) (nx, L, S, σ, u) := by
  obtain ⟨o, d, rfl, h0, h1⟩ := d
  exact WStep.pure fun hA hx hby _ k => XS.ifNo hA hx rfl (hb hby d) rfl ((if0 _ _).trans h) k
end Pure
section Forks
variable {G : WMC} {pc nx tgt u : Nat} {L : List Slot} {S : List Value} {σ : WHp} {Q : Option Value → WHp → Nat → Prop}
theorem WGo.lt {x y : Int32} (d : AtJ G.bytes pc (.if_icmp .lt) nx tgt) (h1 : x < y → WGo G (tgt, L, S, σ, u) Q) (h2 : ¬ x < y → WGo G (nx, L, S, σ, u) Q) : WGo G (pc, L, .int y :: .int x :: S, σ, u) Q := by
  by_cases h : x < y
  · exact (h1 h).s (WStep.icmpT d (tlt h).1)
  · exact (h2 h).s (WStep.icmpF d (flt h).1)
theorem WGo.ge {x y : Int32} (d : AtJ G.bytes pc (.if_icmp .ge) nx tgt) (h1 : ¬ x < y → WGo G (tgt, L, S, σ, u) Q) (h2 : x < y → WGo G (nx, L, S, σ, u) Q) : WGo G (pc, L, .int y :: .int x :: S, σ, u) Q := by
  by_cases h : x < y
  · exact (h2 h).s (WStep.icmpF d (tlt h).2.1)
  · exact (h1 h).s (WStep.icmpT d (flt h).2.1)
theorem WGo.ge0 {x : Int32} (d : AtJ G.bytes pc (.ifCond .ge) nx tgt) (h1 : ¬ x < 0 → WGo G (tgt, L, S, σ, u) Q) (h2 : x < 0 → WGo G (nx, L, S, σ, u) Q) : WGo G (pc, L, .int x :: S, σ, u) Q := by
  by_cases h : x < 0
  · exact (h2 h).s (WStep.ifF d (tlt h).2.1)
  · exact (h1 h).s (WStep.ifT d (flt h).2.1)
theorem WGo.geL {x y : Int64} (d : AtJ G.bytes pc (.ifCond .ge) nx tgt) (h1 : ¬ x < y → WGo G (tgt, L, S, σ, u) Q) (h2 : x < y → WGo G (nx, L, S, σ, u) Q) : WGo G (pc, L, .int (lcmpW x y) :: S, σ, u) Q := by
  exact WGo.ge0 d (fun h => h1 fun q => h ((lw_lt x y).mpr q)) (fun h => h2 ((lw_lt x y).mp h))
theorem WGo.gt {x y : Int32} (d : AtJ G.bytes pc (.if_icmp .gt) nx tgt) (h1 : y < x → WGo G (tgt, L, S, σ, u) Q) (h2 : ¬ y < x → WGo G (nx, L, S, σ, u) Q) : WGo G (pc, L, .int y :: .int x :: S, σ, u) Q := by
  by_cases h : y < x
  · exact (h1 h).s (WStep.icmpT d (tlt h).2.2.1)
  · exact (h2 h).s (WStep.icmpF d (flt h).2.2.1)
theorem WGo.gt0 {x : Int32} (d : AtJ G.bytes pc (.ifCond .gt) nx tgt) (h1 : 0 < x → WGo G (tgt, L, S, σ, u) Q) (h2 : ¬ 0 < x → WGo G (nx, L, S, σ, u) Q) : WGo G (pc, L, .int x :: S, σ, u) Q := by
  by_cases h : 0 < x
  · exact (h1 h).s (WStep.ifT d (tlt h).2.2.1)
  · exact (h2 h).s (WStep.ifF d (flt h).2.2.1)
theorem WGo.gtL {x y : Int64} (d : AtJ G.bytes pc (.ifCond .gt) nx tgt) (h1 : y < x → WGo G (tgt, L, S, σ, u) Q) (h2 : ¬ y < x → WGo G (nx, L, S, σ, u) Q) : WGo G (pc, L, .int (lcmpW x y) :: S, σ, u) Q := by
  exact WGo.gt0 d (fun h => h1 ((lw_gt x y).mp h)) (fun h => h2 fun q => h ((lw_gt x y).mpr q))
theorem WGo.eq {x y : Int32} (d : AtJ G.bytes pc (.if_icmp .eq) nx tgt) (h1 : x = y → WGo G (tgt, L, S, σ, u) Q) (h2 : ¬ x = y → WGo G (nx, L, S, σ, u) Q) : WGo G (pc, L, .int y :: .int x :: S, σ, u) Q := by
  by_cases h : x = y
  · exact (h1 h).s (WStep.icmpT d (teq h).1)
  · exact (h2 h).s (WStep.icmpF d (feq h).1)
theorem WGo.ne {x y : Int32} (d : AtJ G.bytes pc (.if_icmp .ne) nx tgt) (h1 : ¬ x = y → WGo G (tgt, L, S, σ, u) Q) (h2 : x = y → WGo G (nx, L, S, σ, u) Q) : WGo G (pc, L, .int y :: .int x :: S, σ, u) Q := by
  by_cases h : x = y
  · exact (h2 h).s (WStep.icmpF d (teq h).2)
  · exact (h1 h).s (WStep.icmpT d (feq h).2)
end Forks
end Jvm.Sy
namespace Jvm.Sy
open Jvm Jvm.ClassFile Sem Op Lib Jvm.Free Jvm.Stand Jvm.LawKit Jvm.RoadKit Bundle
def entL : List Value → List Slot
  | [] => []
  | v :: r => if v.category = 2 then .val v :: .second :: entL r else .val v :: entL r
def entryL (args : List Value) (maxL : Nat) : List Slot := entL args ++ List.replicate (maxL - (entL args).length) .unset
theorem fill_eq {ρ : Nat → Nat} : ∀ (args : List Value) (acc : Array Slot), (gS ρ args).foldl (fun acc v => if v.category = 2 then (acc.push (.val v)).push .second else acc.push (.val v)) acc = acc ++ ((entL args).map (gs ρ)).toArray
  | [], acc => by simp [gS, entL]
  | v :: r, acc => by
    have ih := fill_eq (ρ := ρ) r
    simp only [gS, List.map_cons, List.foldl_cons, cat_gv] at ih ⊢
    rw [ih]
    by_cases q : v.category = 2
    · simp [entL, q, gs]
    · simp [entL, q, gs]
theorem entry_eq {ρ : Nat → Nat} (args : List Value) (maxL : Nat) : argsToLocals (gS ρ args).toArray maxL = gL ρ (entryL args maxL) := by
  have h := fill_eq (ρ := ρ) args #[]
  simp only [argsToLocals, List.foldl_toArray', List.size_toArray] at *
  rw [h]
  simp [gL, entryL, gs]
theorem entryF_eq {ρ : Nat → Nat} (m : MethodId) (args : List Value) (maxL : Nat) : entryFrame m (gS ρ args).toArray maxL = mkF m 0 (gL ρ (entryL args maxL)) [] := by
  show ({ method := m, pc := 0, locals := argsToLocals _ maxL, stack := [], locked := none } : JFrame) = _
  rw [entry_eq]
section Ret
variable {G : WMC} {pc nx u : Nat} {L : List Slot} {S : List Value} {σ : WHp} {Q : Option Value → WHp → Nat → Prop}
theorem WRun.of {v : Option Value} {A : WCfg} (h0 : G.ret = none → v = none)
    (h : ∀ {p : Program} {l : Launch} {e : Env} {R : Room} {s : State} {m : MethodId} {args : Array Value} {below : List Frame} {meth : Method} {c : Code} {T : State} {locs : List Loc} {ce sl : Nat}, WCtx G p R s m meth c → Stand p l e R s m args below meth c T locs ce sl →
      ∀ fs, (∀ (f : JFrame) (acts : List Action), f.method = m → f.locked = none → f.entered = [] → (doReturn e (T.setTop f) acts (v.map (gv G.ρ))).1 = T.setFrames fs) → Steps p.tables e below (T.setTop (frm G m A)) (T.setFrames fs)) :
    WRun G A v A.2.2.2.1 A.2.2.2.2 := by
  refine ⟨Nat.le_refl _, Nat.le_refl _, h0, fun p l e R s m args below meth c hC hc hs T hT => ⟨T, hT, fun fs hr => ?_⟩⟩
  obtain ⟨locs, ce, sl, h1, h2, X, D, N⟩ := hT
  exact h hC X fs hr
theorem WGo.ireturn (t : FieldType) {z : Int32} (d : AtI G.bytes pc .ireturn 1 nx) (hret : G.ret = some t) (ht : t = .int ∨ t = .boolean ∨ t = .byte ∨ t = .char ∨ t = .short) (q : Q (some (narrow t (.int z))) σ u) : WGo G (pc, L, .int z :: S, σ, u) Q := by
  refine ⟨_, _, _, q, WRun.of (A := (pc, L, .int z :: S, σ, u)) (fun h => by rw [hret] at h; cases h) fun hC X fs hr => ?_⟩
  have hm := hC.2.2.2.2.2.1.trans hret
  rcases ht with rfl | ht
  · exact retOut X hC.1 hm rfl (Or.inl ⟨rfl, Or.inl rfl, _, rfl⟩) (hb hC.2.1 d.1) hr
  · have hn : narrow t (.int z) = .int (nar t z) := by rcases ht with rfl | rfl | rfl | rfl <;> rfl
    rw [hn] at hr
    exact retN X hC.1 hm ht (hb hC.2.1 d.1) hr
theorem WGo.lreturn {z : Int64} (d : AtI G.bytes pc .lreturn 1 nx) (hret : G.ret = some .long) (q : Q (some (.long z)) σ u) : WGo G (pc, L, .long z :: S, σ, u) Q := by
  refine ⟨_, _, _, q, WRun.of (A := (pc, L, .long z :: S, σ, u)) (fun h => by rw [hret] at h; cases h) fun hC X fs hr => ?_⟩
  exact retOut X hC.1 (hC.2.2.2.2.2.1.trans hret) rfl (Or.inr (Or.inl ⟨rfl, rfl, _, rfl⟩)) (hb hC.2.1 d.1) hr
theorem WGo.areturn (t : FieldType) {z : Value} (d : AtI G.bytes pc .areturn 1 nx) (hret : G.ret = some t) (ht : t.isReference = true) (hz : z.isRef = true) (q : Q (some z) σ u) : WGo G (pc, L, z :: S, σ, u) Q := by
  refine ⟨_, _, _, q, WRun.of (A := (pc, L, z :: S, σ, u)) (fun h => by rw [hret] at h; cases h) fun hC X fs hr => ?_⟩
  refine retOut X hC.1 (hC.2.2.2.2.2.1.trans hret) ?_ (Or.inr (Or.inr (Or.inr (Or.inr ⟨rfl, ht, isRef_gv.trans hz⟩)))) (hb hC.2.1 d.1) hr
  cases t <;> first | rfl | cases ht
theorem WGo.vreturn (d : AtI G.bytes pc .return_ 1 nx) (hret : G.ret = none) (q : Q none σ u) : WGo G (pc, L, [], σ, u) Q := by
  refine ⟨_, _, _, q, WRun.of (A := (pc, L, [], σ, u)) (fun _ => rfl) fun hC X fs hr => ?_⟩
  exact X.returnOut hC.1 (hC.2.2.2.2.2.1.trans hret) (hb hC.2.1 d.1) hr
end Ret
theorem met_of {l : Launch} {G : WMC} {y : MethodName} {argsL : List Value} {σ σ' : WHp} {u u' : Nat} {v : Option Value} {ws : List Jvm.Cond} {h : Heap}
    (hy1 : G.own = y.cls) (hy2 : G.nm = y.name) (hj : G.j0 = σ.length) (hu : G.u0 = u) (hpl : plainFor y = true) (hρ : ∀ k, k < 1000 → G.ρ k = G.n0 + k) (hinj : ∀ i j, G.ρ i = G.ρ j → i = j)
    (H : WRun G (0, entryL argsL G.ml, [], σ, u) v σ' u') (D : WDen G.Z G.ρ G.n0 σ h) (RM : Room) (hR1 : G.fr ≤ RM.frames) (hR2 : σ'.length - σ.length ≤ RM.cells) (hR3 : u' - u ≤ RM.slots) (hR4 : G.lo ≤ RM.locals) :
    MetFree l y (head1 (Jvm.Cond.code y G.bytes G.ml G.ret :: ws) RM) (fun a U => a = (gS G.ρ argsL).toArray ∧ G.Z.Warmed39 U.vm ∧ U.heap = h) (fun _ _ _ _ _ => True)
      (fun _ U o U' => ∃ w L, o = .returned w ∧ (w = v.map (gv G.ρ) ∧ Fr G.n0 L ∧ WDen G.Z G.ρ G.n0 σ' U'.heap) ∧ FrameEnd U o U' L (σ'.length - σ.length) (u' - u)) := by
  refine MetFree.of_bodySF hpl hisR ?_
  intro p e s m args below meth c s₁ Bd hml0 hP hK
  obtain ⟨rfl, hZ, hh⟩ := hP
  have X0 : Stand p l e RM s m (gS G.ρ argsL).toArray below meth c s₁ [] 0 0 := Stand.of_body Bd
  have e0 : s₁.heap = h := by rw [← hh, Bd.state]; rfl
  obtain ⟨a1, a2, a0, a3⟩ := H
  have a1' : σ.length ≤ σ'.length := a1
  have a2' : u ≤ u' := a2
  obtain ⟨T', ⟨locs, ce, sl, q1, q2, X, D', N⟩, st⟩ := a3 p l e RM s m _ below meth c ⟨Bd.exec, Bd.bytes, hZ, by rw [hy1]; exact findClass_of_methodNamed Bd.named, (name_of_methodNamed Bd.named Bd.method).1.trans hy2.symm, Bd.returns, hml0, by rw [hh, hj]; exact D.1, hρ, hinj, hR1, hR4⟩ (by omega) (by omega) s₁ ⟨[], 0, 0, hj.symm, hu.symm, X0, by rw [e0]; exact D, Fr.nil _⟩
  obtain ⟨fs, hr, hrun, hended, hW, hsame⟩ := X.leave (v := v.map (gv G.ρ)) (fun hn => by rw [a0 (Bd.returns ▸ hn)]; rfl)
  refine ⟨_, _, ?_, hrun, hended, _, _, rfl, ⟨rfl, N, D'⟩, ⟨_, rfl⟩, hW, hsame.mono (by omega) (by omega)⟩
  rw [entryF_eq]
  exact st fs hr
def WCallee (Z : State) (a0 : Array Value) (y : MethodName) (Gc : WMC) (n : Nat) : Prop :=
  plainFor y = true ∧ (y.cls ≠ "java/lang/invoke/MethodHandle" ∧ y.cls ≠ "java/lang/invoke/VarHandle") ∧ Gc.own = y.cls ∧ Gc.nm = y.name ∧ Gc.Z = Z ∧ (Jvm.Cond.initialized y.cls).before a0 Z = true ∧ (Jvm.Cond.code y Gc.bytes Gc.ml Gc.ret).before a0 Z = true ∧ (∀ sig, parseMethodDescriptor y.desc = some sig → n = sig.parameters.length)
theorem backFor {p : Program} {l : Launch} {e : Env} {R : Room} {s : State} {args : Array Value} {below : List Frame} {Gc : WMC} {y : MethodName} {a0 : Array Value} {argsL : List Value} {σ σ' : WHp} {u u' W n : Nat} {v : Option Value} {h : Heap}
    (C : WCallee Gc.Z a0 y Gc n) (hj : Gc.j0 = σ.length) (hu : Gc.u0 = u) (hρ : ∀ k, k < 1000 → Gc.ρ k = Gc.n0 + k) (hinj : ∀ i j, Gc.ρ i = Gc.ρ j → i = j)
    (H : WRun Gc (0, entryL argsL Gc.ml, [], σ, u) v σ' u') (D : WDen Gc.Z Gc.ρ Gc.n0 σ h) (hZ : Gc.Z.Warmed39 s.vm) (hf : Gc.fr + 1 ≤ R.frames) (hl : W + (Gc.ml + 11) + Gc.lo ≤ R.locals) :
    Back l R p e below s args y 3 W (fun A a => a = (gS Gc.ρ argsL).toArray ∧ A.U.heap = h ∧ A.cells + (σ'.length - σ.length) ≤ R.cells ∧ A.slots + (u' - u) ≤ R.slots)
      (fun A _ w B => ∃ L, (w = v.map (gv Gc.ρ) ∧ Fr Gc.n0 L ∧ WDen Gc.Z Gc.ρ Gc.n0 σ' B.U.heap) ∧ B.locs = A.locs ++ L ∧ B.cells = A.cells + (σ'.length - σ.length) ∧ B.slots = A.slots + (u' - u)) :=
  backOf (rm := { frames := Gc.fr, cells := σ'.length - σ.length, slots := u' - u, locals := Gc.lo }) (Q := fun w h' L => w = v.map (gv Gc.ρ) ∧ Fr Gc.n0 L ∧ WDen Gc.Z Gc.ρ Gc.n0 σ' h') (met_of C.2.2.1 C.2.2.2.1 hj hu C.1 hρ hinj H D _ (Nat.le_refl _) (Nat.le_refl _) (Nat.le_refl _) (Nat.le_refl _)) hZ C.2.2.2.2.2.2.1 C.2.2.2.2.2.1 hf hl
theorem toL {ρ : Nat → Nat} (v : Option Value) (S : List Value) : gS ρ (v.toList ++ S) = (v.map (gv ρ)).toList ++ gS ρ S := by cases v <;> rfl
section Calls
variable {G Gc : WMC} {pc nx u idx n : Nat} {L : List Slot} {S Sf argsL : List Value} {σ : WHp} {Q Qc : Option Value → WHp → Nat → Prop} {y : MethodName} {a0 : Array Value}
theorem WGo.callS (d : AtI G.bytes pc (.invokestatic idx) 3 nx) (C : WCallee G.Z a0 y Gc n) (wl : (Jvm.Cond.methodLink G.own idx y).before a0 G.Z = true) (ws : (Jvm.Cond.static y).before a0 G.Z = true)
    (H : WGo Gc (0, entryL argsL Gc.ml, [], σ, u) Qc) (hG : Gc.1 = G.1) (hj : Gc.j0 = σ.length) (hu : Gc.u0 = u) (hn : argsL.length = n) (hS : Sf = argsL.reverse ++ S) (hL : L.length = G.ml) (hf : Gc.fr + 1 ≤ G.fr) (hl : (S.map Value.category).sum + (Gc.ml + 11) + Gc.lo ≤ G.lo)
    (K : ∀ v σ' u', Qc v σ' u' → WGo G (nx, L, v.toList ++ S, σ', u') Q) : WGo G (pc, L, Sf, σ, u) Q := by
  obtain ⟨v, σ', u', q, r⟩ := H
  refine (K v σ' u' q).s ?_
  have m1 : σ.length ≤ σ'.length := r.1
  have m2 : u ≤ u' := r.2.1
  refine ⟨m1, m2, fun p l e R s m args below meth c hC hc hs T hT => ?_⟩
  obtain ⟨hx, hby, hZ, hown, hnm, hret, hml, hs0, hρ, hinj, hfr, hlo⟩ := hC
  obtain ⟨locs, ce, sl, h1, h2, X, D, N⟩ := hT
  have eZ : Gc.Z = G.Z := congrArg (·.1) hG
  have eρ : Gc.ρ = G.ρ := congrArg (·.2.1) hG
  have en : Gc.n0 = G.n0 := congrArg (·.2.2) hG
  have h1' : σ.length = G.j0 + ce := h1
  have h2' : u = G.u0 + sl := h2
  have hc' : σ'.length ≤ G.j0 + R.cells := hc
  have hs' : u' ≤ G.u0 + R.slots := hs
  have Bk := backFor (p := p) (l := l) (e := e) (R := R) (s := s) (args := args) (below := below) (W := (S.map Value.category).sum) (eZ ▸ C) hj hu (by rw [eρ, en]; exact hρ) (by rw [eρ]; exact hinj) r (by rw [eZ, eρ, en]; exact D) (by rw [eZ]; exact hZ) (Nat.le_trans hf hfr) (Nat.le_trans hl hlo)
  obtain ⟨C1, C2, C3, C4, C5, C6, C7, C8⟩ := C
  rw [eρ, en, eZ] at Bk
  obtain ⟨w, vm1, ⟨T', L', k', n'⟩, -, X', ⟨Lc, ⟨hw', N', D'⟩, l', y', z'⟩, st⟩ := Jvm.LawKit.callS X hx (y := y) hown (mvT hZ wl) (mvT hZ ws) (mvT hZ C6) (mvT hZ C7) C2 Bk (g := frm G m (pc, L, Sf, σ, u)) rfl (by show (gL _ L).size = _; rw [gL_size, hL, hml]) (argsL := gS G.ρ argsL) (rest := gS G.ρ S)
    (fun sig hsig => by rw [← C8 sig hsig, ← hn]; simp [gS]) (by show gS _ Sf = _; rw [hS]; simp [gS]) (by rw [sum_gS]; show 2 * 0 + _ ≤ _; omega) (hb hby d.1) (fun _ _ => ⟨rfl, rfl, by show ce + _ ≤ _; omega, by show sl + _ ≤ _; omega⟩)
  dsimp only [Pt.U, Pt.locs, Pt.cells, Pt.slots] at X' l' y' z' st D'
  subst l' y' z' hw'
  refine ⟨T', ⟨_, _, _, ?_, ?_, X', D', N.app N'⟩, fun t k => st t ?_⟩
  · show σ'.length = _; omega
  · show u' = _; omega
  · rw [← toL]
    have := d.2
    subst this
    exact k
theorem WGo.callI {k : Nat} (d : AtI G.bytes pc (.invokespecial idx) 3 nx) (C : WCallee G.Z a0 y Gc n) (hi : y.name = "<init>") (hr : Gc.ret = none) (wl : (Jvm.Cond.methodLink G.own idx y).before a0 G.Z = true) (ws : (Jvm.Cond.instanceMethod y).before a0 G.Z = true) (hk : k < 1000)
    (H : WGo Gc (0, entryL (.ref k :: argsL) Gc.ml, [], σ, u) Qc) (hG : Gc.1 = G.1) (hj : Gc.j0 = σ.length) (hu : Gc.u0 = u) (hn : argsL.length = n) (hS : Sf = argsL.reverse ++ .ref k :: S) (hL : L.length = G.ml) (hf : Gc.fr + 1 ≤ G.fr) (hl : (S.map Value.category).sum + (Gc.ml + 11) + Gc.lo ≤ G.lo)
    (K : ∀ v σ' u', Qc v σ' u' → WGo G (nx, L, v.toList ++ S, σ', u') Q) : WGo G (pc, L, Sf, σ, u) Q := by
  obtain ⟨v, σ', u', q, r⟩ := H
  refine (K v σ' u' q).s ?_
  have m1 : σ.length ≤ σ'.length := r.1
  have m2 : u ≤ u' := r.2.1
  refine ⟨m1, m2, fun p l e R s m args below meth c hC hc hs T hT => ?_⟩
  obtain ⟨hx, hby, hZ, hown, hnm, hret, hml, hs0, hρ, hinj, hfr, hlo⟩ := hC
  obtain ⟨locs, ce, sl, h1, h2, X, D, N⟩ := hT
  have eZ : Gc.Z = G.Z := congrArg (·.1) hG
  have eρ : Gc.ρ = G.ρ := congrArg (·.2.1) hG
  have en : Gc.n0 = G.n0 := congrArg (·.2.2) hG
  have h1' : σ.length = G.j0 + ce := h1
  have h2' : u = G.u0 + sl := h2
  have hc' : σ'.length ≤ G.j0 + R.cells := hc
  have hs' : u' ≤ G.u0 + R.slots := hs
  have Bk := backFor (p := p) (l := l) (e := e) (R := R) (s := s) (args := args) (below := below) (W := (S.map Value.category).sum) (eZ ▸ C) hj hu (by rw [eρ, en]; exact hρ) (by rw [eρ]; exact hinj) r (by rw [eZ, eρ, en]; exact D) (by rw [eZ]; exact hZ) (Nat.le_trans hf hfr) (Nat.le_trans hl hlo)
  obtain ⟨C1, C2, C3, C4, C5, C6, C7, C8⟩ := C
  rw [hr] at C7
  rw [eρ, en, eZ] at Bk
  obtain ⟨w, vm1, ⟨T', L', k', n'⟩, -, X', ⟨Lc, ⟨hw', N', D'⟩, l', y', z'⟩, st⟩ := X.specialBack hx (y := y) hi hown (mvT hZ wl) (mvT hZ ws) (mvT hZ C7) C2 Bk (g := frm G m (pc, L, Sf, σ, u)) rfl (by show (gL _ L).size = _; rw [gL_size, hL, hml]) (Steps.refl _) (a := G.ρ k) (argsL := gS G.ρ argsL) (rest := gS G.ρ S)
    (fun sig hsig => by rw [← C8 sig hsig, ← hn]; simp [gS]) (by show gS _ Sf = _; rw [hS]; simp [gS, gv]) (by rw [sum_gS]; show 2 * 0 + _ ≤ _; omega) (hb hby d.1) (fun _ _ => ⟨rfl, rfl, by show ce + _ ≤ _; omega, by show sl + _ ≤ _; omega⟩)
  dsimp only [Pt.U, Pt.locs, Pt.cells, Pt.slots] at X' l' y' z' st D'
  subst l' y' z' hw'
  refine ⟨T', ⟨_, _, _, ?_, ?_, X', D', N.app N'⟩, fun t k => st.trans ?_⟩
  · show σ'.length = _; omega
  · show u' = _; omega
  · rw [← toL]
    have := d.2
    subst this
    exact k
theorem WGo.callV {k : Nat} {Cn : String} {fs : List (WKey × Value)} {z : MethodName} (d : AtI G.bytes pc (.invokevirtual idx) 3 nx) (C : WCallee G.Z a0 y Gc n) (hz : z.desc = y.desc ∧ (z.cls ≠ "java/lang/invoke/MethodHandle" ∧ z.cls ≠ "java/lang/invoke/VarHandle")) (wl : (Jvm.Cond.methodLink G.own idx z).before a0 G.Z = true) (wd : (Jvm.Cond.declares z).before a0 G.Z = true) (hnf : ∀ s, G.Z.Warmed39 s.vm → NotFace s z) (wsel : (Jvm.Cond.selects Cn z y).before a0 G.Z = true) (ws : (Jvm.Cond.instanceMethod y).before a0 G.Z = true) (hk : σ[k]? = some (.inr (Cn, fs)))
    (H : WGo Gc (0, entryL (.ref k :: argsL) Gc.ml, [], σ, u) Qc) (hG : Gc.1 = G.1) (hj : Gc.j0 = σ.length) (hu : Gc.u0 = u) (hn : argsL.length = n) (hS : Sf = argsL.reverse ++ .ref k :: S) (hL : L.length = G.ml) (hf : Gc.fr + 1 ≤ G.fr) (hl : (S.map Value.category).sum + (Gc.ml + 11) + Gc.lo ≤ G.lo)
    (K : ∀ v σ' u', Qc v σ' u' → WGo G (nx, L, v.toList ++ S, σ', u') Q) : WGo G (pc, L, Sf, σ, u) Q := by
  obtain ⟨v, σ', u', q, r⟩ := H
  refine (K v σ' u' q).s ?_
  have m1 : σ.length ≤ σ'.length := r.1
  have m2 : u ≤ u' := r.2.1
  refine ⟨m1, m2, fun p l e R s m args below meth c hC hc hs T hT => ?_⟩
  obtain ⟨hx, hby, hZ, hown, hnm, hret, hml, hs0, hρ, hinj, hfr, hlo⟩ := hC
  obtain ⟨locs, ce, sl, h1, h2, X, D, N⟩ := hT
  have eZ : Gc.Z = G.Z := congrArg (·.1) hG
  have eρ : Gc.ρ = G.ρ := congrArg (·.2.1) hG
  have en : Gc.n0 = G.n0 := congrArg (·.2.2) hG
  have h1' : σ.length = G.j0 + ce := h1
  have h2' : u = G.u0 + sl := h2
  have hc' : σ'.length ≤ G.j0 + R.cells := hc
  have hs' : u' ≤ G.u0 + R.slots := hs
  have Bk := backFor (p := p) (l := l) (e := e) (R := R) (s := s) (args := args) (below := below) (W := (S.map Value.category).sum) (eZ ▸ C) hj hu (by rw [eρ, en]; exact hρ) (by rw [eρ]; exact hinj) r (by rw [eZ, eρ, en]; exact D) (by rw [eZ]; exact hZ) (Nat.le_trans hf hfr) (Nat.le_trans hl hlo)
  obtain ⟨C1, C2, C3, C4, C5, C6, C7, C8⟩ := C
  rw [eρ, en, eZ] at Bk
  have hE : Exa G.Z T.heap (G.n0 + k) Cn := (D.2.2 k _ hk).1
  rw [← hρ k (D.lt hk)] at hE
  obtain ⟨cq, kq, qa, qb, qc⟩ := isOf hZ rfl hE
  obtain ⟨w, vm1, ⟨T', L', k', n'⟩, -, X', ⟨Lc, ⟨hw', N', D'⟩, l', y', z'⟩, st⟩ := X.virtualBack hx (y := z) (z := y) hown (mvT hZ wl) (mvT hZ wd) (hnf s hZ) (mvT hZ wsel) (mvT hZ ws) hz.2 Bk qa qc (g := frm G m (pc, L, Sf, σ, u)) rfl (by show (gL _ L).size = _; rw [gL_size, hL, hml]) (Steps.refl _) (argsL := gS G.ρ argsL) (rest := gS G.ρ S)
    (fun sig hsig => by rw [hz.1] at hsig; rw [← C8 sig hsig, ← hn]; simp [gS]) (by show gS _ Sf = _; rw [hS]; simp [gS, gv]) (by rw [sum_gS]; show 2 * 0 + _ ≤ _; omega) (hb hby d.1) (fun _ _ => ⟨rfl, rfl, by show ce + _ ≤ _; omega, by show sl + _ ≤ _; omega⟩)
  dsimp only [Pt.U, Pt.locs, Pt.cells, Pt.slots] at X' l' y' z' st D'
  subst l' y' z' hw'
  refine ⟨T', ⟨_, _, _, ?_, ?_, X', D', N.app N'⟩, fun t k => st.trans ?_⟩
  · show σ'.length = _; omega
  · show u' = _; omega
  · rw [← toL]
    have := d.2
    subst this
    exact k
end Calls
end Jvm.Sy
namespace Jvm.Sy
open Jvm Jvm.ClassFile Sem Op Lib Jvm.Free Jvm.Stand Jvm.LawKit Jvm.RoadKit Bundle
def LaidAll (Z : State) (a0 : Array Value) (C : String) : List (WKey × Value) → Prop
  | [] => True
  | f :: r => (Laid Z a0 C f.1.1 f.1.2.1 f.1.2.2 ∧ ∃ ty, parseFieldDescriptor f.1.2.2 = some ty ∧ f.2 = defaultValue ty) ∧ LaidAll Z a0 C r
theorem LaidAll.at {Z : State} {a0 : Array Value} {C : String} : ∀ {fs : List (WKey × Value)}, LaidAll Z a0 C fs → ∀ {i : Nat} {f : WKey × Value}, fs[i]? = some f → Laid Z a0 C f.1.1 f.1.2.1 f.1.2.2 ∧ ∃ ty, parseFieldDescriptor f.1.2.2 = some ty ∧ f.2 = defaultValue ty
  | [], _, i, f, h => by simp at h
  | g :: r, H, 0, f, h => by simp at h; subst h; exact H.1
  | g :: r, H, i + 1, f, h => LaidAll.at H.2 (i := i) (by simpa using h)
section HeapOps
variable {G : WMC} {pc nx tgt u idx k i n : Nat} {L : List Slot} {S : List Value} {σ : WHp} {a0 : Array Value} {v w : Value} {j : Int32} {vs : List Value} {ty : FieldType} {fs : List (WKey × Value)} {C O nm dd K : String}
theorem WStep.ldc2 {z : Int64} (d : AtI G.bytes pc (.ldc2_w idx) 3 nx) (wd : (Jvm.Cond.constantLong G.own idx z).before a0 G.Z = true) : WStep G (pc, L, S, σ, u) (nx, L, .long z :: S, σ, u) := by
  refine ⟨Nat.le_refl _, Nat.le_refl _, fun p l e R s m args below meth c hC hc hs T hT => ?_⟩
  obtain ⟨hx, hby, hZ, hown, hnm, hret, hml, hs0, hρ, hinj, hfr, hlo⟩ := hC
  obtain ⟨locs, ce, sl, h1, h2, X, D, N⟩ := hT
  obtain ⟨d, rfl⟩ := d
  exact ⟨T, ⟨locs, ce, sl, h1, h2, X, D, N⟩, X.ldc2Long hx hown (mvT hZ wd) (g := frm G m (pc, L, S, σ, u)) rfl (hb hby d)⟩
theorem WStep.initO (d : AtI G.bytes pc (.invokespecial idx) 3 nx) (w1 : (Jvm.Cond.methodLink G.own idx Lib.objectInit).before a0 G.Z = true) (w2 : (Jvm.Cond.instanceMethod Lib.objectInit).before a0 G.Z = true) (w3 : (Jvm.Cond.code Lib.objectInit ⟨#[0xb1]⟩ 1 none).before a0 G.Z = true)
    (hL : L.length = G.ml) (hf : 1 ≤ G.fr) (hl : (S.map Value.category).sum + 12 ≤ G.lo) : WStep G (pc, L, .ref k :: S, σ, u) (nx, L, S, σ, u) := by
  refine ⟨Nat.le_refl _, Nat.le_refl _, fun p l e R s m args below meth c hC hc hs T hT => ?_⟩
  obtain ⟨hx, hby, hZ, hown, hnm, hret, hml, hs0, hρ, hinj, hfr, hlo⟩ := hC
  obtain ⟨locs, ce, sl, h1, h2, X, D, N⟩ := hT
  obtain ⟨d, rfl⟩ := d
  obtain ⟨T', X', e', st⟩ := RoadKit.initO X hx hZ hown w1 w2 w3 rfl (g := frm G m (pc, L, .ref k :: S, σ, u)) rfl (by show (gL _ L).size = _; rw [gL_size, hL, hml]) rfl (hb hby d) (Nat.le_trans hf hfr) (W := (S.map Value.category).sum) (by have := sum_gS (ρ := G.ρ) S; unfold gS at this; rw [this]; show 2 * 0 + _ ≤ _; omega) (Nat.le_trans hl hlo)
  exact ⟨T', ⟨locs, ce, sl, h1, h2, X', by rw [e']; exact D, N⟩, st⟩
theorem WStep.getF (i : Nat) (d : AtI G.bytes pc (.getfield idx) 3 nx) (wd : (Jvm.Cond.fieldLink G.own idx O nm dd).before a0 G.Z = true) (hk : σ[k]? = some (.inr (C, fs))) (hi : fs[i]? = some ((O, nm, dd), v)) : WStep G (pc, L, .ref k :: S, σ, u) (nx, L, v :: S, σ, u) := by
  refine ⟨Nat.le_refl _, Nat.le_refl _, fun p l e R s m args below meth c hC hc hs T hT => ?_⟩
  obtain ⟨hx, hby, hZ, hown, hnm, hret, hml, hs0, hρ, hinj, hfr, hlo⟩ := hC
  obtain ⟨locs, ce, sl, h1, h2, X, D, N⟩ := hT
  obtain ⟨d, rfl⟩ := d
  have hko : ObjOk G.Z G.ρ T.heap (G.n0 + k) C fs := D.2.2 k _ hk
  have F := hko.2.1 i _ _ _ _ hi
  rw [← hρ k (D.lt hk)] at F
  obtain ⟨T', X', e', st⟩ := RoadKit.getF X hx hZ hown (host := "") (Or.inl wd) Via.refl rfl F (g := frm G m (pc, L, .ref k :: S, σ, u)) rfl rfl (hb hby d)
  exact ⟨T', ⟨locs, ce, sl, h1, h2, X', by rw [e']; exact D, N⟩, st⟩
theorem WStep.putF (i : Nat) (v' : Value) (d : AtI G.bytes pc (.putfield idx) 3 nx) (wd : (Jvm.Cond.fieldLink G.own idx O nm dd).before a0 G.Z = true) (hk : σ[k]? = some (.inr (C, fs))) (hi : fs[i]? = some ((O, nm, dd), w))
    (hlay : (Jvm.Cond.lays C O nm dd).before a0 G.Z = true ∨ ((Jvm.Cond.laysFinal C O nm dd).before a0 G.Z = true ∧ G.own = O ∧ G.nm = "<init>")) (wi : (Jvm.Cond.instantiable C n).before a0 G.Z = true) (hty : parseFieldDescriptor dd = some ty) (hn : narrow ty v = v') (hf : fits ty v' = true) :
    WStep G (pc, L, v :: .ref k :: S, σ, u) (nx, L, S, σ.set k (.inr (C, fs.set i ((O, nm, dd), v'))), u) := by
  refine ⟨by simp, Nat.le_refl _, fun p l e R s m args below meth c hC hc hs T hT => ?_⟩
  obtain ⟨hx, hby, hZ, hown, hnm, hret, hml, hs0, hρ, hinj, hfr, hlo⟩ := hC
  obtain ⟨locs, ce, sl, h1, h2, X, D, N⟩ := hT
  obtain ⟨d, rfl⟩ := d
  have hko : ObjOk G.Z G.ρ T.heap (G.n0 + k) C fs := D.2.2 k _ hk
  obtain ⟨E, Fs, hNe⟩ := hko
  have F := Fs i _ _ _ _ hi
  have hρk := hρ k (D.lt hk)
  obtain ⟨T', h', X', e', W, st⟩ := putFN X hx hZ hown (v := gv G.ρ v) (v' := gv G.ρ v') wd Via.refl rfl F E (hlay.imp id fun q => ⟨q.1, q.2.1, hnm.trans q.2.2⟩) wi hty (by rw [narrow_gv, hn]) (by rw [fits_gv, hf]) (g := frm G m (pc, L, v :: .ref k :: S, σ, u)) rfl (by show gv _ v :: Value.ref (G.ρ k) :: _ = _; rw [hρk]) (hb hby d)
  subst e'
  refine ⟨T', ⟨_, ce, sl, by simpa using h1, h2, X', D.put W ?_, N.app fun y hy => by cases List.mem_singleton.mp hy; exact Nat.le_add_right _ _⟩, st⟩
  have hlt := (List.getElem?_eq_some_iff.mp hi).1
  refine ⟨E.wr W, fun i' O' n' d' y hy => ?_, fun i1 i2 k1 k2 v1 v2 ne q1 q2 => ?_⟩
  · by_cases q : i' = i
    · subst q
      rw [List.getElem?_set_self hlt] at hy
      cases hy
      exact F.same W
    · rw [List.getElem?_set_ne (Ne.symm q)] at hy
      have hne : RoadKit.slotOf G.Z O' n' d' ≠ RoadKit.slotOf G.Z O nm dd := hNe i' i (O', n', d') (O, nm, dd) y w q hy hi
      exact (Fs i' O' n' d' y hy).other W (Or.inr hne)
  · have key : ∀ {i' : Nat} {k' : WKey} {v' : Value}, (fs.set i ((O, nm, dd), v'))[i']? = some (k', v1) → ∃ v'', fs[i']? = some (k', v'') := by
      intro i' k' v' hh
      by_cases q : i' = i
      · subst q
        rw [List.getElem?_set_self hlt] at hh
        cases hh
        exact ⟨_, hi⟩
      · rw [List.getElem?_set_ne (fun z => q z.symm)] at hh
        exact ⟨_, hh⟩
    have key2 : ∀ {i' : Nat} {k' : WKey} {v' : Value}, (fs.set i ((O, nm, dd), v'))[i']? = some (k', v2) → ∃ v'', fs[i']? = some (k', v'') := by
      intro i' k' v' hh
      by_cases q : i' = i
      · subst q
        rw [List.getElem?_set_self hlt] at hh
        cases hh
        exact ⟨_, hi⟩
      · rw [List.getElem?_set_ne (fun z => q z.symm)] at hh
        exact ⟨_, hh⟩
    obtain ⟨_, r1⟩ := key q1
    obtain ⟨_, r2⟩ := key2 q2
    exact hNe i1 i2 _ _ _ _ ne r1 r2
theorem WStep.newO (fs : List (WKey × Value)) (d : AtI G.bytes pc (.new idx) 3 nx) (w1 : (Jvm.Cond.classLink G.own idx C).before a0 G.Z = true) (w2 : (Jvm.Cond.instantiable C n).before a0 G.Z = true) (w3 : (Jvm.Cond.initialized C).before a0 G.Z = true)
    (hfs : LaidAll G.Z a0 C fs) (hnd : (fs.map fun f => f.1.2.1).Nodup) (hlen : σ.length = k) (hk : k < 1000) : WStep G (pc, L, S, σ, u) (nx, L, .ref k :: S, σ ++ [.inr (C, fs)], u + n) := by
  refine ⟨by simp, Nat.le_add_right _ _, fun p l e R s m args below meth c hC hc hs T hT => ?_⟩
  obtain ⟨hx, hby, hZ, hown, hnm, hret, hml, hs0, hρ, hinj, hfr, hlo⟩ := hC
  obtain ⟨locs, ce, sl, h1, h2, X, D, N⟩ := hT
  obtain ⟨d, rfl⟩ := d
  subst hlen
  have h1' : σ.length = G.j0 + ce := h1
  have h2' : u = G.u0 + sl := h2
  have hc' : σ.length + 1 ≤ G.j0 + R.cells := by simpa using hc
  have hs' : u + n ≤ G.u0 + R.slots := hs
  have eS : T.heap.size = G.n0 + σ.length := D.1
  obtain ⟨T', h', X', e', E, A, Dv, -, st⟩ := RoadKit.newO X hx hZ hown w1 w2 w3 rfl (g := frm G m (pc, L, S, σ, u)) rfl (hb hby d) (by omega) (by omega)
  subst e'
  have hsz : T'.heap.size = T.heap.size + 1 := by
    have a1 := X'.heapSize
    have a2 : T.heap.size < T'.heap.size := A.lt
    have a3 : s.heap.size = G.n0 + G.j0 := hs0
    omega
  rw [eS] at A Dv
  have eρ : G.ρ σ.length = T.heap.size := by rw [hρ _ hk, eS]
  refine ⟨T', ⟨locs, ce + 1, sl + n, by simp; omega, by show u + n = _; omega, X', D.push E hsz hk ⟨A, fun i O' n' d' y hy => ?_, fun i1 i2 k1 k2 v1 v2 ne q1 q2 => ?_⟩, N⟩, fun t kt => st t ?_⟩
  · obtain ⟨LL, ty, p1, p2⟩ := hfs.at hy
    have := Dv LL p1
    dsimp only at p2
    rw [p2, dv_gv]
    exact this
  · obtain ⟨LL, ty, p1, p2⟩ := hfs.at q1
    obtain ⟨LL', ty', p1', p2'⟩ := hfs.at q2
    refine slot_ne LL LL' (fun e => ne ?_) p1 p1'
    have b1 := (List.getElem?_eq_some_iff.mp q1).1
    have b2 := (List.getElem?_eq_some_iff.mp q2).1
    refine (List.getElem?_inj (l := fs.map fun f => f.1.2.1) (i := i1) (j := i2) (by simpa using b1) hnd).mp ?_
    rw [List.getElem?_map, List.getElem?_map, q1, q2]
    exact congrArg some e
  · rw [← eρ]; exact kt
theorem WStep.newP {aty : ArrayType} (n : Int32) (m : Nat) (d : AtI G.bytes pc (.newarray aty) 2 nx) (w1 : (Jvm.Cond.arrayClass (newarray.typeOf aty)).before a0 G.Z = true) (hn : ¬ n < 0) (hm : n.toNatClampNeg = m) (hb8 : m * 8 ≤ 536870912) (hlen : σ.length = k) (hk : k < 1000) :
    WStep G (pc, L, .int n :: S, σ, u) (nx, L, .ref k :: S, σ ++ [.inl (newarray.typeOf aty, List.replicate m (defaultValue (newarray.typeOf aty)))], u + m) := by
  refine ⟨by simp, Nat.le_add_right _ _, fun p l e R s me args below meth c hC hc hs T hT => ?_⟩
  obtain ⟨hx, hby, hZ, hown, hnm, hret, hml, hs0, hρ, hinj, hfr, hlo⟩ := hC
  obtain ⟨locs, ce, sl, h1, h2, X, D, N⟩ := hT
  obtain ⟨d, rfl⟩ := d
  subst hlen
  have h1' : σ.length = G.j0 + ce := h1
  have h2' : u = G.u0 + sl := h2
  have hc' : σ.length + 1 ≤ G.j0 + R.cells := by simpa using hc
  have hs' : u + m ≤ G.u0 + R.slots := hs
  have eS : T.heap.size = G.n0 + σ.length := D.1
  obtain ⟨T', h', cA, X', e', E, A, st⟩ := RoadKit.newP X hx hZ w1 rfl (g := frm G me (pc, L, .int n :: S, σ, u)) rfl (hb hby d) rfl hn (cap := m) (by omega) hb8 (by omega) (by omega)
  subst e'
  have hsz : T'.heap.size = T.heap.size + 1 := by
    have a1 := X'.heapSize
    have a2 : T.heap.size < T'.heap.size := A.lt
    have a3 : s.heap.size = G.n0 + G.j0 := hs0
    omega
  rw [eS] at A
  have eρ : G.ρ σ.length = T.heap.size := by rw [hρ _ hk, eS]
  refine ⟨T', ⟨locs, ce + 1, sl + m, by simp; omega, by show u + m = _; omega, X', D.push E hsz hk ⟨_, A, ?_, ?_, ?_⟩, N⟩, fun t kt => st t ?_⟩
  · simp [newA, hm, dv_gv]
  · intro C hC; cases aty <;> cases hC
  · intro y hy
    rw [List.eq_of_mem_replicate hy]
    cases aty <;> rfl
  · rw [← eρ]; exact kt
theorem WStep.alen (z : Int32) (d : AtI G.bytes pc .arraylength 1 nx) (hk : σ[k]? = some (.inl (ty, vs))) (hz : vs.length.toInt32 = z) : WStep G (pc, L, .ref k :: S, σ, u) (nx, L, .int z :: S, σ, u) := by
  refine ⟨Nat.le_refl _, Nat.le_refl _, fun p l e R s m args below meth c hC hc hs T hT => ?_⟩
  obtain ⟨hx, hby, hZ, hown, hnm, hret, hml, hs0, hρ, hinj, hfr, hlo⟩ := hC
  obtain ⟨locs, ce, sl, h1, h2, X, D, N⟩ := hT
  obtain ⟨d, rfl⟩ := d
  obtain ⟨cl, A, eC, -⟩ : ArrOk G.Z G.ρ T.heap (G.n0 + k) ty vs := D.2.2 k _ hk
  rw [← hρ k (D.lt hk)] at A
  refine ⟨T, ⟨locs, ce, sl, h1, h2, X, D, N⟩, fun t kt => X.arraylength hx A.1 (State.isArrayOf_alike hZ.alike A.2.1) (g := frm G m (pc, L, .ref k :: S, σ, u)) rfl rfl (hb hby d) t ?_⟩
  rw [ArrOk.size (ty := ty) eC, hz]
  exact kt
theorem WStep.iaload (i : Nat) (d : AtI G.bytes pc .iaload 1 nx) (hk : σ[k]? = some (.inl (.int, vs))) (hj : ¬ j < 0) (hi : j.toNatClampNeg = i) (hv : vs[i]? = some v) : WStep G (pc, L, .int j :: .ref k :: S, σ, u) (nx, L, v :: S, σ, u) := by
  refine ⟨Nat.le_refl _, Nat.le_refl _, fun p l e R s m args below meth c hC hc hs T hT => ?_⟩
  obtain ⟨hx, hby, hZ, hown, hnm, hret, hml, hs0, hρ, hinj, hfr, hlo⟩ := hC
  obtain ⟨locs, ce, sl, h1, h2, X, D, N⟩ := hT
  obtain ⟨d, rfl⟩ := d
  obtain ⟨cl, A, eC, -⟩ : ArrOk G.Z G.ρ T.heap (G.n0 + k) .int vs := D.2.2 k _ hk
  rw [← hρ k (D.lt hk)] at A
  have hlt := (List.getElem?_eq_some_iff.mp hv).1
  exact ⟨T, ⟨locs, ce, sl, h1, h2, X, D, N⟩, fun t kt => X.iaload hx (j := j) (v := gv G.ρ v) A.1 (State.isArrayOf_alike hZ.alike A.2.1) A.2.2 (fun q => q.elim hj fun q => by rw [ArrOk.size (ty := .int) eC, hi] at q; omega) (by rw [hi]; exact ArrOk.at eC hv) (g := frm G m (pc, L, .int j :: .ref k :: S, σ, u)) rfl rfl (hb hby d) t kt⟩
theorem WStep.laload (i : Nat) (d : AtI G.bytes pc .laload 1 nx) (hk : σ[k]? = some (.inl (.long, vs))) (hj : ¬ j < 0) (hi : j.toNatClampNeg = i) (hv : vs[i]? = some v) : WStep G (pc, L, .int j :: .ref k :: S, σ, u) (nx, L, v :: S, σ, u) := by
  refine ⟨Nat.le_refl _, Nat.le_refl _, fun p l e R s m args below meth c hC hc hs T hT => ?_⟩
  obtain ⟨hx, hby, hZ, hown, hnm, hret, hml, hs0, hρ, hinj, hfr, hlo⟩ := hC
  obtain ⟨locs, ce, sl, h1, h2, X, D, N⟩ := hT
  obtain ⟨d, rfl⟩ := d
  obtain ⟨cl, A, eC, -⟩ : ArrOk G.Z G.ρ T.heap (G.n0 + k) .long vs := D.2.2 k _ hk
  rw [← hρ k (D.lt hk)] at A
  have hlt := (List.getElem?_eq_some_iff.mp hv).1
  exact ⟨T, ⟨locs, ce, sl, h1, h2, X, D, N⟩, fun t kt => X.laload hx (j := j) (v := gv G.ρ v) A.1 (State.isArrayOf_alike hZ.alike A.2.1) A.2.2 (fun q => q.elim hj fun q => by rw [ArrOk.size (ty := .long) eC, hi] at q; omega) (by rw [hi]; exact ArrOk.at eC hv) (g := frm G m (pc, L, .int j :: .ref k :: S, σ, u)) rfl rfl (hb hby d) t kt⟩
theorem WStep.iastore {z : Int32} (i : Nat) (d : AtI G.bytes pc .iastore 1 nx) (hk : σ[k]? = some (.inl (.int, vs))) (hj : ¬ j < 0) (hi : j.toNatClampNeg = i) (hlt : i < vs.length) : WStep G (pc, L, .int z :: .int j :: .ref k :: S, σ, u) (nx, L, S, σ.set k (.inl (.int, vs.set i (.int z))), u) := by
  refine ⟨by simp, Nat.le_refl _, fun p l e R s m args below meth c hC hc hs T hT => ?_⟩
  obtain ⟨hx, hby, hZ, hown, hnm, hret, hml, hs0, hρ, hinj, hfr, hlo⟩ := hC
  obtain ⟨locs, ce, sl, h1, h2, X, D, N⟩ := hT
  obtain ⟨d, rfl⟩ := d
  obtain ⟨cl, A, eC, hO, hF⟩ : ArrOk G.Z G.ρ T.heap (G.n0 + k) .int vs := D.2.2 k _ hk
  have hρk := hρ k (D.lt hk)
  obtain ⟨T', h', X', e', W, st⟩ := stI X hx hZ rfl A (j := j) (x := z) (fun q => q.elim hj fun q => by rw [ArrOk.size (ty := .int) eC, hi] at q; omega) (g := frm G m (pc, L, .int z :: .int j :: .ref k :: S, σ, u)) rfl (by show _ :: _ :: Value.ref (G.ρ k) :: _ = _; rw [hρk]; rfl) (hb hby d)
  subst e'
  rw [hi] at W
  exact ⟨T', ⟨_, ce, sl, by simpa using h1, h2, X', D.put W (ArrOk.set (w := .int z) A eC hO hF W (rfl)), N.app fun y hy => by cases List.mem_singleton.mp hy; exact Nat.le_add_right _ _⟩, st⟩
theorem WStep.lastore {z : Int64} (i : Nat) (d : AtI G.bytes pc .lastore 1 nx) (hk : σ[k]? = some (.inl (.long, vs))) (hj : ¬ j < 0) (hi : j.toNatClampNeg = i) (hlt : i < vs.length) : WStep G (pc, L, .long z :: .int j :: .ref k :: S, σ, u) (nx, L, S, σ.set k (.inl (.long, vs.set i (.long z))), u) := by
  refine ⟨by simp, Nat.le_refl _, fun p l e R s m args below meth c hC hc hs T hT => ?_⟩
  obtain ⟨hx, hby, hZ, hown, hnm, hret, hml, hs0, hρ, hinj, hfr, hlo⟩ := hC
  obtain ⟨locs, ce, sl, h1, h2, X, D, N⟩ := hT
  obtain ⟨d, rfl⟩ := d
  obtain ⟨cl, A, eC, hO, hF⟩ : ArrOk G.Z G.ρ T.heap (G.n0 + k) .long vs := D.2.2 k _ hk
  have hρk := hρ k (D.lt hk)
  obtain ⟨T', h', X', e', W, st⟩ := stJ X hx hZ rfl A (j := j) (x := z) (fun q => q.elim hj fun q => by rw [ArrOk.size (ty := .long) eC, hi] at q; omega) (g := frm G m (pc, L, .long z :: .int j :: .ref k :: S, σ, u)) rfl (by show _ :: _ :: Value.ref (G.ρ k) :: _ = _; rw [hρk]; rfl) (hb hby d)
  subst e'
  rw [hi] at W
  exact ⟨T', ⟨_, ce, sl, by simpa using h1, h2, X', D.put W (ArrOk.set (w := .long z) A eC hO hF W (rfl)), N.app fun y hy => by cases List.mem_singleton.mp hy; exact Nat.le_add_right _ _⟩, st⟩
end HeapOps
end Jvm.Sy

namespace Jvm.Sy
open Jvm Jvm.RoadKit
abbrev wI (x : Int32) : Slot := .val (.int x)
abbrev wJ (x : Int64) : Slot := .val (.long x)
abbrev wR (k : Nat) : Slot := .val (.ref k)
abbrev wAI (l : List Value) : WObj := .inl (.int, l)
abbrev wAJ (l : List Value) : WObj := .inl (.long, l)
abbrev wU : Slot := .unset
abbrev wS : Slot := .second
theorem nn {j : Int32} (h0 : 0 ≤ j.toInt) : ¬ j < 0 := by rw [Int32.lt_iff_toInt_lt]; have : (0 : Int32).toInt = 0 := rfl; omega
end Jvm.Sy

namespace Jvm.Sy
open Jvm Jvm.ClassFile Sem Op Lib Jvm.Free Jvm.Stand Jvm.LawKit Jvm.RoadKit Bundle
section Copy
variable {Z : State} {ρ : Nat → Nat} {h h' : Heap} {a b : Addr} {o : WObj} {ws : List Addr} {ty : FieldType} {vs : List Value}
theorem CellOk.keep (F : CellOk Z ρ h a o) (K : Keep h h' ws) (q : a ∉ ws) : CellOk Z ρ h' a o := by
  rcases o with ⟨ty, vs⟩ | ⟨C, fs⟩
  · obtain ⟨cl, A, r⟩ := F; exact ⟨cl, ⟨K.2.1 _ _ A.1 q, A.2⟩, r⟩
  · obtain ⟨F1, F2, F3⟩ := F; exact ⟨F1.keep K, fun i O n d v y => (F2 i O n d v y).keep K q, F3⟩
theorem nat_back {n : Nat} (hn : n < 2 ^ 31) : (Int32.ofNat n).toNatClampNeg = n ∧ ¬ (Int32.ofNat n) < 0 := by
  have e : (Int32.ofNat n).toInt = n := Int32.toInt_ofNat_small hn
  refine ⟨by simp only [Int32.toNatClampNeg]; omega, ?_⟩
  rw [Int32.lt_iff_toInt_lt]
  have e0 : (0 : Int32).toInt = 0 := rfl
  omega
theorem ArrOk.arv (F : ArrOk Z ρ h a ty vs) (hl : vs.length < 2 ^ 31) : ∃ k, Arv Z h a k ty (Int32.ofNat vs.length) (vs.map (gv ρ)) (defaultValue ty) := by
  obtain ⟨cl, A, e, -, hf⟩ := F
  have hs : cl.slots.size = vs.length := ArrOk.size (ty := ty) e
  refine ⟨cl.cls, cl, A, rfl, by rw [hs]; exact (nat_back hl).1.symm, (nat_back hl).2, fun k hk => ?_, fun i hi => ?_⟩
  · rw [← Array.getElem?_toList, e]
    rw [List.getD_eq_getElem?_getD, List.getElem?_eq_getElem (by rw [List.length_map]; omega)]
    rfl
  · rw [List.getD_eq_getElem?_getD, List.getElem?_eq_getElem (by rw [List.length_map]; omega)]
    simp only [Option.getD_some, List.getElem_map]
    rw [fits_gv]
    exact hf _ (List.getElem_mem _)
theorem ArrOk.of_arv {k : ClassId} {z : Int32} {ws : List Value} {d : Value} (hr : refKind ty = false) (F : Arv Z h a k ty z ws d) (hz : z.toNatClampNeg = vs.length) (e : ws = vs.map (gv ρ)) : ArrOk Z ρ h a ty vs := by
  obtain ⟨c, A, -, S, -, H, G⟩ := F
  have hs : c.slots.size = vs.length := S.trans hz
  have ht : c.slots.toList = vs.map (gv ρ) := by
    apply List.ext_getElem?
    intro i
    rcases Nat.lt_or_ge i vs.length with q | q
    · rw [Array.getElem?_toList, H i (by omega), e, List.getD_eq_getElem?_getD, List.getElem?_eq_getElem (by rw [List.length_map]; omega)]
      rfl
    · rw [List.getElem?_eq_none (by simpa [hs] using q), List.getElem?_eq_none (by simpa using q)]
  refine ⟨c, A, ht, fun C hC => (by rw [hC] at hr; cases hr), fun v hv => ?_⟩
  obtain ⟨i, hi, rfl⟩ := List.getElem_of_mem hv
  have g := G i (by omega)
  rw [e, List.getD_eq_getElem?_getD, List.getElem?_eq_getElem (by rw [List.length_map]; omega)] at g
  simp only [Option.getD_some, List.getElem_map] at g
  rwa [fits_gv] at g
end Copy
theorem WStep.copyA {G : WMC} {pc nx u idx k k2 : Nat} {L : List Slot} {S va vb vr : List Value} {σ : WHp} {a0 : Array Value} {ty : FieldType} {sp dp nn : Int32}
    (d : AtI G.bytes pc (.invokestatic idx) 3 nx) (w1 : (Jvm.Cond.methodLink G.own idx Jvm.Stand.acN).before a0 G.Z = true) (w2 : (Jvm.Cond.native Jvm.Stand.acN).before a0 G.Z = true) (w3 : (Jvm.Cond.static Jvm.Stand.acN).before a0 G.Z = true) (w4 : (Jvm.Cond.initialized "java/lang/System").before a0 G.Z = true)
    (hk : σ[k]? = some (.inl (ty, va))) (hk2 : σ[k2]? = some (.inl (ty, vb))) (hty : refKind ty = false) (h1 : ¬ sp < 0) (h2 : ¬ dp < 0) (h3 : ¬ nn < 0) (h4 : sp.toNatClampNeg + nn.toNatClampNeg ≤ va.length) (h5 : dp.toNatClampNeg + nn.toNatClampNeg ≤ vb.length) (hla : va.length < 2 ^ 31) (hlb : vb.length < 2 ^ 31)
    (hr : vb.take dp.toNatClampNeg ++ ((List.range nn.toNatClampNeg).map fun i => va.getD (sp.toNatClampNeg + i) (defaultValue ty)) ++ vb.drop (dp.toNatClampNeg + nn.toNatClampNeg) = vr)
    (hL : L.length = G.ml) (hf : 1 ≤ G.fr) (hl : (S.map Value.category).sum + (nativeFrameWords "java/lang/System" "arraycopy" 5 + 11) ≤ G.lo) :
    WStep G (pc, L, .int nn :: .int dp :: .ref k2 :: .int sp :: .ref k :: S, σ, u) (nx, L, S, σ.set k2 (.inl (ty, vr)), u) := by
  refine ⟨by simp, Nat.le_refl _, fun p l e R s m args below meth c hC hc hs T hT => ?_⟩
  obtain ⟨hx, hby, hZ, hown, hnm, hret, hml, hs0, hρ, hinj, hfr, hlo⟩ := hC
  obtain ⟨locs, ce, sl, q1, q2, X, D, N⟩ := hT
  obtain ⟨d, rfl⟩ := d
  have FA : ArrOk G.Z G.ρ T.heap (G.n0 + k) ty va := D.2.2 k _ hk
  have FB : ArrOk G.Z G.ρ T.heap (G.n0 + k2) ty vb := D.2.2 k2 _ hk2
  obtain ⟨ka, VA⟩ := FA.arv hla
  obtain ⟨kb, VB⟩ := FB.arv hlb
  have hρk := hρ k (D.lt hk)
  have hρk2 := hρ k2 (D.lt hk2)
  obtain ⟨T', h', L', X', e', N', K, B', st⟩ := cpA X hx hZ hown w1 w2 w3 w4 rfl VA VB (Or.inl ⟨rfl, hty⟩) h1 h2 h3 (by rw [(nat_back hla).1]; exact h4) (by rw [(nat_back hlb).1]; exact h5) rfl (by rw [List.length_map]; exact h5) N (Nat.le_add_right _ _) (g := frm G m (pc, L, .int nn :: .int dp :: .ref k2 :: .int sp :: .ref k :: S, σ, u)) rfl (by show (gL _ L).size = _; rw [gL_size, hL, hml]) (rest := gS G.ρ S) (by show _ :: _ :: Value.ref (G.ρ k2) :: _ :: Value.ref (G.ρ k) :: _ = _; rw [hρk, hρk2]; rfl) (hb hby d) (Nat.le_trans hf hfr) (W := (S.map Value.category).sum) (by rw [sum_gS]; show 2 * 0 + _ ≤ _; omega) (Nat.le_trans hl hlo)
  subst e'
  have hlen : vr.length = vb.length := by
    rw [← hr]; simp only [List.length_append, List.length_take, List.length_map, List.length_range, List.length_drop]; omega
  have hsz : T'.heap.size = T.heap.size := by
    have a1 := X'.heapSize
    have a2 : T.heap.size ≤ T'.heap.size := K.1
    have a3 : s.heap.size = G.n0 + G.j0 := hs0
    have a4 : T.heap.size = G.n0 + σ.length := D.1
    have a5 : σ.length = G.j0 + ce := q1
    omega
  have FB' : ArrOk G.Z G.ρ T'.heap (G.n0 + k2) ty vr := by
    refine ArrOk.of_arv hty B' (by rw [(nat_back hlb).1]; exact hlen.symm) ?_
    rw [← hr]
    simp only [List.map_append, List.map_take, List.map_drop, List.map_map]
    congr 2
    apply List.map_congr_left
    intro i _
    simp only [Function.comp_apply, List.getD_eq_getElem?_getD, List.getElem?_map]
    cases va[sp.toNatClampNeg + i]? with
    | none => simp [dv_gv]
    | some v => rfl
  refine ⟨T', ⟨_, ce, sl, by simpa using q1, q2, X', ⟨by rw [hsz]; simpa using D.1, ⟨by simpa using D.2.1.1, fun a c h1 h2 => K.2.1 a c (D.2.1.2 a c h1 h2) fun q => ?_⟩, fun j o' hj => ?_⟩, N'⟩, st⟩
  · cases List.mem_singleton.mp q
    exact absurd h1 (Nat.not_lt.mpr (Nat.le_add_right _ _))
  · by_cases q : j = k2
    · subst q
      rw [List.getElem?_set] at hj
      simp only [if_true] at hj
      split at hj
      · cases hj; exact FB'
      · cases hj
    · rw [List.getElem?_set_ne (Ne.symm q)] at hj
      exact (D.2.2 j o' hj).keep K fun z => q (Nat.add_left_cancel (List.mem_singleton.mp z))
end Jvm.Sy
namespace Jvm.Sy
open Jvm Jvm.RoadKit
def ja (ks : List Int64) : List Value := ks.map Value.long
theorem ja_len (ks : List Int64) : (ja ks).length = ks.length := by simp [ja]
theorem ja_get {ks : List Int64} {i : Nat} {e : Int64} (h : ks[i]? = some e) : (ja ks)[i]? = some (.long e) := by simp [ja, h]
theorem ja_set (ks : List Int64) (i : Nat) (x : Int64) : (ja ks).set i (.long x) = ja (ks.set i x) := by simp [ja, List.map_set]
abbrev Pr := Int64 × Int64
def fil (b : Int64) (K : List Pr) : List Pr := K.filter fun p => decide (b < p.2)
def cn (b n : Int64) : List Pr → Int64
  | [] => 0
  | p :: r => (if b < p.2 ∧ p.1 < b ∧ n < p.2 then 1 else 0) + cn b n r
theorem cn_nil (b n : Int64) : cn b n [] = 0 := rfl
theorem cn_cons (b n : Int64) (x : Pr) (R : List Pr) : cn b n (x :: R) = (if b < x.2 ∧ x.1 < b ∧ n < x.2 then 1 else 0) + cn b n R := rfl
def Hold (EN NT : List Int64) (i : Nat) (K : List Pr) : Prop := ∀ (j : Nat) (p : Pr), K[j]? = some p → EN[i + j]? = some p.1 ∧ NT[i + j]? = some p.2
theorem fil_yes {b : Int64} {P : List Pr} {x : Pr} (h : b < x.2) : fil b (P ++ [x]) = fil b P ++ [x] := by simp [fil, List.filter_append, h]
theorem fil_no {b : Int64} {P : List Pr} {x : Pr} (h : ¬ b < x.2) : fil b (P ++ [x]) = fil b P := by simp [fil, List.filter_append, h]
theorem fil_len (b : Int64) (P : List Pr) : (fil b P).length ≤ P.length := List.length_filter_le _ _
theorem cn_app (b n : Int64) : ∀ (K L : List Pr), cn b n (K ++ L) = cn b n K + cn b n L
  | [], L => by show cn b n L = 0 + cn b n L; rw [Int64.zero_add]
  | p :: r, L => by
    show _ + cn b n (r ++ L) = _ + cn b n r + cn b n L
    rw [cn_app b n r L, Int64.add_assoc]
theorem cn_fil {b b' n : Int64} (h : ¬ b' < b) : ∀ K : List Pr, cn b' n (fil b K) = cn b' n K
  | [] => rfl
  | p :: r => by
    have ih := cn_fil (n := n) h r
    by_cases q : b < p.2
    · have e : fil b (p :: r) = p :: fil b r := by simp [fil, q]
      rw [e]
      show _ + cn b' n (fil b r) = _ + cn b' n r
      rw [ih]
    · have e : fil b (p :: r) = fil b r := by simp [fil, q]
      have z : ¬ (b' < p.2 ∧ p.1 < b' ∧ n < p.2) := fun y => by
        have y1 := y.1
        simp only [Int64.lt_iff_toInt_lt] at *
        omega
      rw [e, ih]
      show _ = (if _ then _ else _) + cn b' n r
      rw [if_neg z, Int64.zero_add]
theorem ofNat_succ {n : Nat} (h : n < 1000) : Int32.ofNat n + 1 = Int32.ofNat (n + 1) := by
  apply Int32.toInt_inj.mp
  have e := c_iadd (Int32.ofNat n) 1
  have r := rng32 (Int32.ofNat n + 1)
  have e1 : (Int32.ofNat n).toInt = n := Int32.toInt_ofNat_small (by omega)
  have e2 : (Int32.ofNat (n + 1)).toInt = (n + 1 : Nat) := Int32.toInt_ofNat_small (by omega)
  have e3 : (1 : Int32).toInt = 1 := rfl
  omega
theorem ofNat_lt {a b : Nat} (ha : a < 1000) (hb : b < 1000) : Int32.ofNat a < Int32.ofNat b ↔ a < b := by
  rw [Int32.lt_iff_toInt_lt, Int32.toInt_ofNat_small (by omega), Int32.toInt_ofNat_small (by omega)]
  omega
theorem ofNat_idx {s : Nat} (h : s < 1000) : ¬ (Int32.ofNat s) < 0 ∧ (Int32.ofNat s).toNatClampNeg = s := by
  have e : (Int32.ofNat s).toInt = s := Int32.toInt_ofNat_small (by omega)
  exact ⟨nn (by omega), by simp only [Int32.toNatClampNeg]; omega⟩
theorem Hold.nil (EN NT : List Int64) (i : Nat) : Hold EN NT i [] := fun j p h => by simp at h
theorem Hold.head {EN NT : List Int64} {i : Nat} {x : Pr} {R : List Pr} (h : Hold EN NT i (x :: R)) : EN[i]? = some x.1 ∧ NT[i]? = some x.2 := h 0 x rfl
theorem Hold.tail {EN NT : List Int64} {i : Nat} {x : Pr} {R : List Pr} (h : Hold EN NT i (x :: R)) : Hold EN NT (i + 1) R := fun j p hj => by
  have := h (j + 1) p (by simpa using hj)
  rwa [show i + (j + 1) = i + 1 + j by omega] at this
theorem Hold.set_lo {EN NT : List Int64} {i a : Nat} {R : List Pr} {x y : Int64} (h : Hold EN NT i R) (ha : a < i) : Hold (EN.set a x) (NT.set a y) i R := fun j p hj => by
  obtain ⟨h1, h2⟩ := h j p hj
  exact ⟨by rw [List.getElem?_set_ne (by omega)]; exact h1, by rw [List.getElem?_set_ne (by omega)]; exact h2⟩
theorem Hold.snoc {EN NT : List Int64} {F : List Pr} {x : Pr} (h : Hold EN NT 0 F) (h1 : F.length < EN.length) (h2 : F.length < NT.length) : Hold (EN.set F.length x.1) (NT.set F.length x.2) 0 (F ++ [x]) := fun j p hj => by
  rw [Nat.zero_add]
  rcases Nat.lt_or_ge j F.length with q | q
  · rw [List.getElem?_append_left q] at hj
    obtain ⟨g1, g2⟩ := h j p hj
    rw [Nat.zero_add] at g1 g2
    exact ⟨by rw [List.getElem?_set_ne (by omega)]; exact g1, by rw [List.getElem?_set_ne (by omega)]; exact g2⟩
  · rw [List.getElem?_append_right q] at hj
    have e : j - F.length = 0 := by
      rcases Nat.eq_zero_or_pos (j - F.length) with z | z
      · exact z
      · rw [List.getElem?_eq_none (by simp; omega)] at hj; cases hj
    rw [e] at hj
    cases hj
    have e2 : j = F.length := by omega
    rw [e2]
    exact ⟨List.getElem?_set_self h1, List.getElem?_set_self h2⟩
end Jvm.Sy
namespace Jvm.Sy
open Jvm Jvm.RoadKit
def tv (base u : Int64) (x : Int32) : Int64 := base + (u * x.toInt64)
def ovv (ei bj nj ni : Int32) : Int32 := if ei < bj ∧ nj < ni then 1 else 0
theorem ovv_rng (a b c d : Int32) : 0 ≤ (ovv a b c d).toInt ∧ (ovv a b c d).toInt ≤ 1 := by
  unfold ovv; split <;> decide
def Room42 (base w : Int64) : Prop := 1 ≤ w.toInt ∧ w.toInt ≤ 72057594037927936 ∧ base.toInt + 42 * w.toInt ≤ 9223372036854775807
theorem tv_at {base w : Int64} {x : Int32} (h : Room42 base w) (h0 : 0 ≤ x.toInt) (h1 : x.toInt ≤ 42) : (tv base w x).toInt = base.toInt + w.toInt * x.toInt := by
  obtain ⟨w1, w2, w3⟩ := h
  have e1 := c_lmul w x.toInt64
  have e2 := c_ladd base (w * x.toInt64)
  have e3 := c_i2l x
  rw [e3] at e1
  have p1 : 0 ≤ w.toInt * x.toInt := Int.mul_nonneg (by omega) h0
  have p2 : w.toInt * x.toInt ≤ w.toInt * 42 := Int.mul_le_mul_of_nonneg_left h1 (by omega)
  have r1 := rng64 (w * x.toInt64)
  have r2 := rng64 (base + w * x.toInt64)
  have r3 := rng64 base
  unfold tv
  generalize w.toInt * x.toInt = z at *
  omega
theorem tv_lt {base w : Int64} {x y : Int32} (h : Room42 base w) (h0 : 0 ≤ x.toInt) (h1 : x.toInt ≤ 42) (g0 : 0 ≤ y.toInt) (g1 : y.toInt ≤ 42) : tv base w x < tv base w y ↔ x.toInt < y.toInt := by
  rw [Int64.lt_iff_toInt_lt, tv_at h h0 h1, tv_at h g0 g1]
  have := h.1
  constructor
  · intro q
    have q' : w.toInt * x.toInt < w.toInt * y.toInt := by omega
    exact Int.lt_of_mul_lt_mul_left q' (by omega)
  · intro q
    have := Int.mul_lt_mul_of_pos_left q (show 0 < w.toInt by omega)
    omega
theorem ind_eq {base w : Int64} {ei bj nj ni : Int32} (h : Room42 base w) (a0 : 0 ≤ ei.toInt) (a1 : ei.toInt ≤ 42) (b0 : 0 ≤ bj.toInt) (b1 : bj.toInt ≤ nj.toInt) (c1 : nj.toInt ≤ 42) (d0 : 0 ≤ ni.toInt) (d1 : ni.toInt ≤ 42) :
    (if tv base w bj < tv base w ni ∧ tv base w ei < tv base w bj ∧ tv base w nj < tv base w ni then (1 : Int64) else 0) = (ovv ei bj nj ni).toInt64 := by
  have t1 := tv_lt (x := bj) (y := ni) h b0 (by omega) d0 d1
  have t2 := tv_lt (x := ei) (y := bj) h a0 a1 b0 (by omega)
  have t3 := tv_lt (x := nj) (y := ni) h (by omega) c1 d0 d1
  unfold ovv
  by_cases q : ei.toInt < bj.toInt ∧ nj.toInt < ni.toInt
  · rw [if_pos ⟨t1.mpr (by omega), t2.mpr q.1, t3.mpr q.2⟩, if_pos ⟨Int32.lt_iff_toInt_lt.mpr q.1, Int32.lt_iff_toInt_lt.mpr q.2⟩]; rfl
  · rw [if_neg (fun z => q ⟨t2.mp z.2.1, t3.mp z.2.2⟩), if_neg (fun z => q ⟨Int32.lt_iff_toInt_lt.mp z.1, Int32.lt_iff_toInt_lt.mp z.2⟩)]; rfl
theorem add_small {a b m : Int32} (h : a + b = m) (h0 : 0 ≤ a.toInt + b.toInt) (h1 : a.toInt + b.toInt < 1000) : m.toInt = a.toInt + b.toInt := by
  have e := c_iadd a b
  rw [h] at e
  have := rng32 m
  omega
theorem lushr_le (x : Int64) (q : Int32) (h : 0 ≤ x.toInt) : 0 ≤ ((x.toUInt64 >>> (q &&& 0x3f).toInt64.toUInt64).toInt64).toInt ∧ ((x.toUInt64 >>> (q &&& 0x3f).toInt64.toUInt64).toInt64).toInt ≤ x.toInt := by
  rcases Nat.eq_zero_or_pos (q.toBitVec.toNat % 64) with z | z
  · have e : ((x.toUInt64 >>> (q &&& 0x3f).toInt64.toUInt64).toInt64) = x := by
      have s := sm64 q 0 z
      apply Int64.toBitVec_inj.mp
      show x.toBitVec >>> ((q &&& 0x3f).toInt64.toBitVec % 64#64) = x.toBitVec
      rw [s.1]
      simp
    rw [e]; omega
  · rw [c_lushr x q _ rfl z]
    have : x.toInt % 18446744073709551616 = x.toInt := Int.emod_eq_of_lt h (by have := rng64 x; omega)
    rw [this]
    exact ⟨Int.ediv_nonneg h (Int.natCast_nonneg _), Int.ediv_le_self _ h⟩
end Jvm.Sy


namespace Jvm.Pilot.@@N@@
open Jvm Jvm.ClassFile Sem Op Lib Jvm.Free Jvm.Stand Jvm.LawKit Jvm.RoadKit Bundle Jvm.Sy Jvm.Pilot.@@N@@.Jvm.D
theorem wd {Z : State} {a0 : Array Value} (hw : ∀ d ∈ tables_1, d.before a0 Z = true) (i : Nat) {d : Jvm.Cond} (h : tables_1[i]? = some d) : d.before a0 Z = true := hw d (List.mem_of_getElem? h)
abbrev fk0 : WKey := ("antecede/judges/Overtakings", "ended", "[J")
abbrev fk1 : WKey := ("antecede/judges/Overtakings", "entered", "[J")
abbrev fk2 : WKey := ("antecede/judges/Overtakings", "lastBegan", "J")
abbrev fk3 : WKey := ("antecede/judges/Overtakings", "kept", "I")
abbrev fk4 : WKey := ("antecede/judges/Overtakings", "count", "J")
abbrev cn0 : String := "antecede/judges/Overtakings"

abbrev g10 (Z : State) (ρ : Nat → Nat) (n0 j0 u0 : Nat) : WMC := ((Z, ρ, n0), ("java/lang/Math", jdk_29_method_69_code, "min", (some .int), 2), (j0, u0, 0, 0))
theorem a10_0 : AtI jdk_29_method_69_code 0 (.iload_n 0) 1 1 := ⟨by decide +kernel, rfl⟩
theorem a10_1 : AtI jdk_29_method_69_code 1 (.iload_n 1) 1 2 := ⟨by decide +kernel, rfl⟩
theorem a10_2 : AtJ jdk_29_method_69_code 2 (.if_icmp .gt) 5 9 := ⟨7, by decide +kernel, rfl, by decide, rfl⟩
theorem a10_5 : AtI jdk_29_method_69_code 5 (.iload_n 0) 1 6 := ⟨by decide +kernel, rfl⟩
theorem a10_6 : AtJ jdk_29_method_69_code 6 (.goto) 9 10 := ⟨4, by decide +kernel, rfl, by decide, rfl⟩
theorem a10_9 : AtI jdk_29_method_69_code 9 (.iload_n 1) 1 10 := ⟨by decide +kernel, rfl⟩
theorem a10_10 : AtI jdk_29_method_69_code 10 (.ireturn) 1 11 := ⟨by decide +kernel, rfl⟩
theorem pd10 : parseMethodDescriptor "(II)I" = some ⟨[.int, .int], some .int⟩ := by decide +kernel
theorem pl10 : plainFor (⟨"java/lang/Math", "min", "(II)I"⟩ : MethodName) = true := Jvm.Free.JP.mathPlain rfl (by decide +kernel)
theorem ok10 {Z : State} {a0 : Array Value} (hw : ∀ d ∈ tables_1, d.before a0 Z = true) (ρ : Nat → Nat) (n0 j0 u0 : Nat) : WCallee Z a0 (⟨"java/lang/Math", "min", "(II)I"⟩ : MethodName) (g10 Z ρ n0 j0 u0) 2 :=
  ⟨pl10, (by decide), rfl, rfl, rfl, (wd hw 11 rfl), (wd hw 56 rfl), fun sig h => by cases pd10.symm.trans h; rfl⟩
abbrev g9 (Z : State) (ρ : Nat → Nat) (n0 j0 u0 : Nat) : WMC := ((Z, ρ, n0), ("java/util/Arrays", jdk_65_method_124_code, "copyOf", (some (.array .long)), 3), (j0, u0, 1, 40))
theorem a9_0 : AtI jdk_65_method_124_code 0 (.iload_n 1) 1 1 := ⟨by decide +kernel, rfl⟩
theorem a9_1 : AtI jdk_65_method_124_code 1 (.aload_n 0) 1 2 := ⟨by decide +kernel, rfl⟩
theorem a9_2 : AtI jdk_65_method_124_code 2 (.arraylength) 1 3 := ⟨by decide +kernel, rfl⟩
theorem a9_3 : AtJ jdk_65_method_124_code 3 (.if_icmp .ne) 6 14 := ⟨11, by decide +kernel, rfl, by decide, rfl⟩
theorem a9_6 : AtI jdk_65_method_124_code 6 (.aload_n 0) 1 7 := ⟨by decide +kernel, rfl⟩
theorem a9_7 : AtI jdk_65_method_124_code 7 (.invokevirtual 319) 3 10 := ⟨by decide +kernel, rfl⟩
theorem a9_14 : AtI jdk_65_method_124_code 14 (.iload_n 1) 1 15 := ⟨by decide +kernel, rfl⟩
theorem a9_15 : AtI jdk_65_method_124_code 15 (.newarray .long) 2 17 := ⟨by decide +kernel, rfl⟩
theorem a9_17 : AtI jdk_65_method_124_code 17 (.astore_n 2) 1 18 := ⟨by decide +kernel, rfl⟩
theorem a9_18 : AtI jdk_65_method_124_code 18 (.aload_n 0) 1 19 := ⟨by decide +kernel, rfl⟩
theorem a9_19 : AtI jdk_65_method_124_code 19 (.iconst 0) 1 20 := ⟨by decide +kernel, rfl⟩
theorem a9_20 : AtI jdk_65_method_124_code 20 (.aload_n 2) 1 21 := ⟨by decide +kernel, rfl⟩
theorem a9_21 : AtI jdk_65_method_124_code 21 (.iconst 0) 1 22 := ⟨by decide +kernel, rfl⟩
theorem a9_22 : AtI jdk_65_method_124_code 22 (.aload_n 0) 1 23 := ⟨by decide +kernel, rfl⟩
theorem a9_23 : AtI jdk_65_method_124_code 23 (.arraylength) 1 24 := ⟨by decide +kernel, rfl⟩
theorem a9_24 : AtI jdk_65_method_124_code 24 (.iload_n 1) 1 25 := ⟨by decide +kernel, rfl⟩
theorem a9_25 : AtI jdk_65_method_124_code 25 (.invokestatic 304) 3 28 := ⟨by decide +kernel, rfl⟩
theorem a9_28 : AtI jdk_65_method_124_code 28 (.invokestatic 150) 3 31 := ⟨by decide +kernel, rfl⟩
theorem a9_31 : AtI jdk_65_method_124_code 31 (.aload_n 2) 1 32 := ⟨by decide +kernel, rfl⟩
theorem a9_32 : AtI jdk_65_method_124_code 32 (.areturn) 1 33 := ⟨by decide +kernel, rfl⟩
theorem pd9 : parseMethodDescriptor "([JI)[J" = some ⟨[(.array .long), .int], some (.array .long)⟩ := by decide +kernel
theorem pl9 : plainFor (⟨"java/util/Arrays", "copyOf", "([JI)[J"⟩ : MethodName) = true := plainFor_of_name (by first | (simp [plainName, overriddenIn]; done) | decide +kernel)
theorem ok9 {Z : State} {a0 : Array Value} (hw : ∀ d ∈ tables_1, d.before a0 Z = true) (ρ : Nat → Nat) (n0 j0 u0 : Nat) : WCallee Z a0 (⟨"java/util/Arrays", "copyOf", "([JI)[J"⟩ : MethodName) (g9 Z ρ n0 j0 u0) 2 :=
  ⟨pl9, (by decide), rfl, rfl, rfl, (wd hw 52 rfl), (wd hw 53 rfl), fun sig h => by cases pd9.symm.trans h; rfl⟩
abbrev g8 (Z : State) (ρ : Nat → Nat) (n0 j0 u0 : Nat) : WMC := ((Z, ρ, n0), ("antecede/judges/Overtakings", prog_49_method_3_code, "count", (some .long), 1), (j0, u0, 0, 0))
theorem a8_0 : AtI prog_49_method_3_code 0 (.aload_n 0) 1 1 := ⟨by decide +kernel, rfl⟩
theorem a8_1 : AtI prog_49_method_3_code 1 (.getfield 40) 3 4 := ⟨by decide +kernel, rfl⟩
theorem a8_4 : AtI prog_49_method_3_code 4 (.lreturn) 1 5 := ⟨by decide +kernel, rfl⟩
theorem pd8 : parseMethodDescriptor "()J" = some ⟨[], some .long⟩ := by decide +kernel
theorem pl8 : plainFor (⟨"antecede/judges/Overtakings", "count", "()J"⟩ : MethodName) = true := plainFor_of_name (by first | (simp [plainName, overriddenIn]; done) | decide +kernel)
theorem ok8 {Z : State} {a0 : Array Value} (hw : ∀ d ∈ tables_1, d.before a0 Z = true) (ρ : Nat → Nat) (n0 j0 u0 : Nat) : WCallee Z a0 (⟨"antecede/judges/Overtakings", "count", "()J"⟩ : MethodName) (g8 Z ρ n0 j0 u0) 0 :=
  ⟨pl8, (by decide), rfl, rfl, rfl, (wd hw 18 rfl), (wd hw 47 rfl), fun sig h => by cases pd8.symm.trans h; rfl⟩
abbrev g7 (Z : State) (ρ : Nat → Nat) (n0 j0 u0 : Nat) : WMC := ((Z, ρ, n0), ("antecede/judges/Overtakings", prog_49_method_2_code, "add", none, 9), (j0, u0, 2, 55))
theorem a7_0 : AtI prog_49_method_2_code 0 (.lload_n 3) 1 1 := ⟨by decide +kernel, rfl⟩
theorem a7_1 : AtI prog_49_method_2_code 1 (.lload_n 1) 1 2 := ⟨by decide +kernel, rfl⟩
theorem a7_2 : AtI prog_49_method_2_code 2 (.lcmp) 1 3 := ⟨by decide +kernel, rfl⟩
theorem a7_3 : AtJ prog_49_method_2_code 3 (.ifCond .lt) 6 13 := ⟨10, by decide +kernel, rfl, by decide, rfl⟩
theorem a7_6 : AtI prog_49_method_2_code 6 (.lload 5) 2 8 := ⟨by decide +kernel, rfl⟩
theorem a7_8 : AtI prog_49_method_2_code 8 (.lload_n 3) 1 9 := ⟨by decide +kernel, rfl⟩
theorem a7_9 : AtI prog_49_method_2_code 9 (.lcmp) 1 10 := ⟨by decide +kernel, rfl⟩
theorem a7_10 : AtJ prog_49_method_2_code 10 (.ifCond .ge) 13 30 := ⟨20, by decide +kernel, rfl, by decide, rfl⟩
theorem a7_13 : AtI prog_49_method_2_code 13 (.new 24) 3 16 := ⟨by decide +kernel, rfl⟩
theorem a7_16 : AtI prog_49_method_2_code 16 (.dup) 1 17 := ⟨by decide +kernel, rfl⟩
theorem a7_17 : AtI prog_49_method_2_code 17 (.lload_n 1) 1 18 := ⟨by decide +kernel, rfl⟩
theorem a7_18 : AtI prog_49_method_2_code 18 (.lload_n 3) 1 19 := ⟨by decide +kernel, rfl⟩
theorem a7_19 : AtI prog_49_method_2_code 19 (.lload 5) 2 21 := ⟨by decide +kernel, rfl⟩
theorem a7_30 : AtI prog_49_method_2_code 30 (.lload_n 1) 1 31 := ⟨by decide +kernel, rfl⟩
theorem a7_31 : AtI prog_49_method_2_code 31 (.aload_n 0) 1 32 := ⟨by decide +kernel, rfl⟩
theorem a7_32 : AtI prog_49_method_2_code 32 (.getfield 20) 3 35 := ⟨by decide +kernel, rfl⟩
theorem a7_35 : AtI prog_49_method_2_code 35 (.lcmp) 1 36 := ⟨by decide +kernel, rfl⟩
theorem a7_36 : AtJ prog_49_method_2_code 36 (.ifCond .ge) 39 57 := ⟨21, by decide +kernel, rfl, by decide, rfl⟩
theorem a7_39 : AtI prog_49_method_2_code 39 (.new 24) 3 42 := ⟨by decide +kernel, rfl⟩
theorem a7_42 : AtI prog_49_method_2_code 42 (.dup) 1 43 := ⟨by decide +kernel, rfl⟩
theorem a7_43 : AtI prog_49_method_2_code 43 (.lload_n 1) 1 44 := ⟨by decide +kernel, rfl⟩
theorem a7_44 : AtI prog_49_method_2_code 44 (.aload_n 0) 1 45 := ⟨by decide +kernel, rfl⟩
theorem a7_45 : AtI prog_49_method_2_code 45 (.getfield 20) 3 48 := ⟨by decide +kernel, rfl⟩
theorem a7_57 : AtI prog_49_method_2_code 57 (.aload_n 0) 1 58 := ⟨by decide +kernel, rfl⟩
theorem a7_58 : AtI prog_49_method_2_code 58 (.lload_n 1) 1 59 := ⟨by decide +kernel, rfl⟩
theorem a7_59 : AtI prog_49_method_2_code 59 (.putfield 20) 3 62 := ⟨by decide +kernel, rfl⟩
theorem a7_62 : AtI prog_49_method_2_code 62 (.iconst 0) 1 63 := ⟨by decide +kernel, rfl⟩
theorem a7_63 : AtI prog_49_method_2_code 63 (.istore 7) 2 65 := ⟨by decide +kernel, rfl⟩
theorem a7_65 : AtI prog_49_method_2_code 65 (.iconst 0) 1 66 := ⟨by decide +kernel, rfl⟩
theorem a7_66 : AtI prog_49_method_2_code 66 (.istore 8) 2 68 := ⟨by decide +kernel, rfl⟩
theorem a7_68 : AtI prog_49_method_2_code 68 (.iload 8) 2 70 := ⟨by decide +kernel, rfl⟩
theorem a7_70 : AtI prog_49_method_2_code 70 (.aload_n 0) 1 71 := ⟨by decide +kernel, rfl⟩
theorem a7_71 : AtI prog_49_method_2_code 71 (.getfield 36) 3 74 := ⟨by decide +kernel, rfl⟩
theorem a7_74 : AtJ prog_49_method_2_code 74 (.if_icmp .ge) 77 164 := ⟨90, by decide +kernel, rfl, by decide, rfl⟩
theorem a7_77 : AtI prog_49_method_2_code 77 (.aload_n 0) 1 78 := ⟨by decide +kernel, rfl⟩
theorem a7_78 : AtI prog_49_method_2_code 78 (.getfield 13) 3 81 := ⟨by decide +kernel, rfl⟩
theorem a7_81 : AtI prog_49_method_2_code 81 (.iload 8) 2 83 := ⟨by decide +kernel, rfl⟩
theorem a7_83 : AtI prog_49_method_2_code 83 (.laload) 1 84 := ⟨by decide +kernel, rfl⟩
theorem a7_84 : AtI prog_49_method_2_code 84 (.lload_n 1) 1 85 := ⟨by decide +kernel, rfl⟩
theorem a7_85 : AtI prog_49_method_2_code 85 (.lcmp) 1 86 := ⟨by decide +kernel, rfl⟩
theorem a7_86 : AtJ prog_49_method_2_code 86 (.ifCond .gt) 89 92 := ⟨6, by decide +kernel, rfl, by decide, rfl⟩
theorem a7_89 : AtJ prog_49_method_2_code 89 (.goto) 92 158 := ⟨69, by decide +kernel, rfl, by decide, rfl⟩
theorem a7_92 : AtI prog_49_method_2_code 92 (.aload_n 0) 1 93 := ⟨by decide +kernel, rfl⟩
theorem a7_93 : AtI prog_49_method_2_code 93 (.getfield 7) 3 96 := ⟨by decide +kernel, rfl⟩
theorem a7_96 : AtI prog_49_method_2_code 96 (.iload 8) 2 98 := ⟨by decide +kernel, rfl⟩
theorem a7_98 : AtI prog_49_method_2_code 98 (.laload) 1 99 := ⟨by decide +kernel, rfl⟩
theorem a7_99 : AtI prog_49_method_2_code 99 (.lload_n 1) 1 100 := ⟨by decide +kernel, rfl⟩
theorem a7_100 : AtI prog_49_method_2_code 100 (.lcmp) 1 101 := ⟨by decide +kernel, rfl⟩
theorem a7_101 : AtJ prog_49_method_2_code 101 (.ifCond .ge) 104 127 := ⟨26, by decide +kernel, rfl, by decide, rfl⟩
theorem a7_104 : AtI prog_49_method_2_code 104 (.lload 5) 2 106 := ⟨by decide +kernel, rfl⟩
theorem a7_106 : AtI prog_49_method_2_code 106 (.aload_n 0) 1 107 := ⟨by decide +kernel, rfl⟩
theorem a7_107 : AtI prog_49_method_2_code 107 (.getfield 13) 3 110 := ⟨by decide +kernel, rfl⟩
theorem a7_110 : AtI prog_49_method_2_code 110 (.iload 8) 2 112 := ⟨by decide +kernel, rfl⟩
theorem a7_112 : AtI prog_49_method_2_code 112 (.laload) 1 113 := ⟨by decide +kernel, rfl⟩
theorem a7_113 : AtI prog_49_method_2_code 113 (.lcmp) 1 114 := ⟨by decide +kernel, rfl⟩
theorem a7_114 : AtJ prog_49_method_2_code 114 (.ifCond .ge) 117 127 := ⟨13, by decide +kernel, rfl, by decide, rfl⟩
theorem a7_117 : AtI prog_49_method_2_code 117 (.aload_n 0) 1 118 := ⟨by decide +kernel, rfl⟩
theorem a7_118 : AtI prog_49_method_2_code 118 (.dup) 1 119 := ⟨by decide +kernel, rfl⟩
theorem a7_119 : AtI prog_49_method_2_code 119 (.getfield 40) 3 122 := ⟨by decide +kernel, rfl⟩
theorem a7_122 : AtI prog_49_method_2_code 122 (.lconst 1) 1 123 := ⟨by decide +kernel, rfl⟩
theorem a7_123 : AtI prog_49_method_2_code 123 (.ladd) 1 124 := ⟨by decide +kernel, rfl⟩
theorem a7_124 : AtI prog_49_method_2_code 124 (.putfield 40) 3 127 := ⟨by decide +kernel, rfl⟩
theorem a7_127 : AtI prog_49_method_2_code 127 (.aload_n 0) 1 128 := ⟨by decide +kernel, rfl⟩
theorem a7_128 : AtI prog_49_method_2_code 128 (.getfield 7) 3 131 := ⟨by decide +kernel, rfl⟩
theorem a7_131 : AtI prog_49_method_2_code 131 (.iload 7) 2 133 := ⟨by decide +kernel, rfl⟩
theorem a7_133 : AtI prog_49_method_2_code 133 (.aload_n 0) 1 134 := ⟨by decide +kernel, rfl⟩
theorem a7_134 : AtI prog_49_method_2_code 134 (.getfield 7) 3 137 := ⟨by decide +kernel, rfl⟩
theorem a7_137 : AtI prog_49_method_2_code 137 (.iload 8) 2 139 := ⟨by decide +kernel, rfl⟩
theorem a7_139 : AtI prog_49_method_2_code 139 (.laload) 1 140 := ⟨by decide +kernel, rfl⟩
theorem a7_140 : AtI prog_49_method_2_code 140 (.lastore) 1 141 := ⟨by decide +kernel, rfl⟩
theorem a7_141 : AtI prog_49_method_2_code 141 (.aload_n 0) 1 142 := ⟨by decide +kernel, rfl⟩
theorem a7_142 : AtI prog_49_method_2_code 142 (.getfield 13) 3 145 := ⟨by decide +kernel, rfl⟩
theorem a7_145 : AtI prog_49_method_2_code 145 (.iload 7) 2 147 := ⟨by decide +kernel, rfl⟩
theorem a7_147 : AtI prog_49_method_2_code 147 (.iinc 7 1) 3 150 := ⟨by decide +kernel, rfl⟩
theorem a7_150 : AtI prog_49_method_2_code 150 (.aload_n 0) 1 151 := ⟨by decide +kernel, rfl⟩
theorem a7_151 : AtI prog_49_method_2_code 151 (.getfield 13) 3 154 := ⟨by decide +kernel, rfl⟩
theorem a7_154 : AtI prog_49_method_2_code 154 (.iload 8) 2 156 := ⟨by decide +kernel, rfl⟩
theorem a7_156 : AtI prog_49_method_2_code 156 (.laload) 1 157 := ⟨by decide +kernel, rfl⟩
theorem a7_157 : AtI prog_49_method_2_code 157 (.lastore) 1 158 := ⟨by decide +kernel, rfl⟩
theorem a7_158 : AtI prog_49_method_2_code 158 (.iinc 8 1) 3 161 := ⟨by decide +kernel, rfl⟩
theorem a7_161 : AtJ prog_49_method_2_code 161 (.goto) 164 68 := ⟨(-93), by decide +kernel, rfl, by decide, rfl⟩
theorem a7_164 : AtI prog_49_method_2_code 164 (.aload_n 0) 1 165 := ⟨by decide +kernel, rfl⟩
theorem a7_165 : AtI prog_49_method_2_code 165 (.iload 7) 2 167 := ⟨by decide +kernel, rfl⟩
theorem a7_167 : AtI prog_49_method_2_code 167 (.putfield 36) 3 170 := ⟨by decide +kernel, rfl⟩
theorem a7_170 : AtI prog_49_method_2_code 170 (.aload_n 0) 1 171 := ⟨by decide +kernel, rfl⟩
theorem a7_171 : AtI prog_49_method_2_code 171 (.getfield 36) 3 174 := ⟨by decide +kernel, rfl⟩
theorem a7_174 : AtI prog_49_method_2_code 174 (.aload_n 0) 1 175 := ⟨by decide +kernel, rfl⟩
theorem a7_175 : AtI prog_49_method_2_code 175 (.getfield 7) 3 178 := ⟨by decide +kernel, rfl⟩
theorem a7_178 : AtI prog_49_method_2_code 178 (.arraylength) 1 179 := ⟨by decide +kernel, rfl⟩
theorem a7_179 : AtJ prog_49_method_2_code 179 (.if_icmp .ne) 182 216 := ⟨37, by decide +kernel, rfl, by decide, rfl⟩
theorem a7_182 : AtI prog_49_method_2_code 182 (.aload_n 0) 1 183 := ⟨by decide +kernel, rfl⟩
theorem a7_183 : AtI prog_49_method_2_code 183 (.aload_n 0) 1 184 := ⟨by decide +kernel, rfl⟩
theorem a7_184 : AtI prog_49_method_2_code 184 (.getfield 7) 3 187 := ⟨by decide +kernel, rfl⟩
theorem a7_187 : AtI prog_49_method_2_code 187 (.iconst 2) 1 188 := ⟨by decide +kernel, rfl⟩
theorem a7_188 : AtI prog_49_method_2_code 188 (.aload_n 0) 1 189 := ⟨by decide +kernel, rfl⟩
theorem a7_189 : AtI prog_49_method_2_code 189 (.getfield 36) 3 192 := ⟨by decide +kernel, rfl⟩
theorem a7_192 : AtI prog_49_method_2_code 192 (.imul) 1 193 := ⟨by decide +kernel, rfl⟩
theorem a7_193 : AtI prog_49_method_2_code 193 (.invokestatic 43) 3 196 := ⟨by decide +kernel, rfl⟩
theorem a7_196 : AtI prog_49_method_2_code 196 (.putfield 7) 3 199 := ⟨by decide +kernel, rfl⟩
theorem a7_199 : AtI prog_49_method_2_code 199 (.aload_n 0) 1 200 := ⟨by decide +kernel, rfl⟩
theorem a7_200 : AtI prog_49_method_2_code 200 (.aload_n 0) 1 201 := ⟨by decide +kernel, rfl⟩
theorem a7_201 : AtI prog_49_method_2_code 201 (.getfield 13) 3 204 := ⟨by decide +kernel, rfl⟩
theorem a7_204 : AtI prog_49_method_2_code 204 (.iconst 2) 1 205 := ⟨by decide +kernel, rfl⟩
theorem a7_205 : AtI prog_49_method_2_code 205 (.aload_n 0) 1 206 := ⟨by decide +kernel, rfl⟩
theorem a7_206 : AtI prog_49_method_2_code 206 (.getfield 36) 3 209 := ⟨by decide +kernel, rfl⟩
theorem a7_209 : AtI prog_49_method_2_code 209 (.imul) 1 210 := ⟨by decide +kernel, rfl⟩
theorem a7_210 : AtI prog_49_method_2_code 210 (.invokestatic 43) 3 213 := ⟨by decide +kernel, rfl⟩
theorem a7_213 : AtI prog_49_method_2_code 213 (.putfield 13) 3 216 := ⟨by decide +kernel, rfl⟩
theorem a7_216 : AtI prog_49_method_2_code 216 (.aload_n 0) 1 217 := ⟨by decide +kernel, rfl⟩
theorem a7_217 : AtI prog_49_method_2_code 217 (.getfield 7) 3 220 := ⟨by decide +kernel, rfl⟩
theorem a7_220 : AtI prog_49_method_2_code 220 (.aload_n 0) 1 221 := ⟨by decide +kernel, rfl⟩
theorem a7_221 : AtI prog_49_method_2_code 221 (.getfield 36) 3 224 := ⟨by decide +kernel, rfl⟩
theorem a7_224 : AtI prog_49_method_2_code 224 (.lload_n 3) 1 225 := ⟨by decide +kernel, rfl⟩
theorem a7_225 : AtI prog_49_method_2_code 225 (.lastore) 1 226 := ⟨by decide +kernel, rfl⟩
theorem a7_226 : AtI prog_49_method_2_code 226 (.aload_n 0) 1 227 := ⟨by decide +kernel, rfl⟩
theorem a7_227 : AtI prog_49_method_2_code 227 (.getfield 13) 3 230 := ⟨by decide +kernel, rfl⟩
theorem a7_230 : AtI prog_49_method_2_code 230 (.aload_n 0) 1 231 := ⟨by decide +kernel, rfl⟩
theorem a7_231 : AtI prog_49_method_2_code 231 (.dup) 1 232 := ⟨by decide +kernel, rfl⟩
theorem a7_232 : AtI prog_49_method_2_code 232 (.getfield 36) 3 235 := ⟨by decide +kernel, rfl⟩
theorem a7_235 : AtI prog_49_method_2_code 235 (.dup_x1) 1 236 := ⟨by decide +kernel, rfl⟩
theorem a7_236 : AtI prog_49_method_2_code 236 (.iconst 1) 1 237 := ⟨by decide +kernel, rfl⟩
theorem a7_237 : AtI prog_49_method_2_code 237 (.iadd) 1 238 := ⟨by decide +kernel, rfl⟩
theorem a7_238 : AtI prog_49_method_2_code 238 (.putfield 36) 3 241 := ⟨by decide +kernel, rfl⟩
theorem a7_241 : AtI prog_49_method_2_code 241 (.lload 5) 2 243 := ⟨by decide +kernel, rfl⟩
theorem a7_243 : AtI prog_49_method_2_code 243 (.lastore) 1 244 := ⟨by decide +kernel, rfl⟩
theorem a7_244 : AtI prog_49_method_2_code 244 (.return_) 1 245 := ⟨by decide +kernel, rfl⟩
theorem pd7 : parseMethodDescriptor "(JJJ)V" = some ⟨[.long, .long, .long], none⟩ := by decide +kernel
theorem pl7 : plainFor (⟨"antecede/judges/Overtakings", "add", "(JJJ)V"⟩ : MethodName) = true := plainFor_of_name (by first | (simp [plainName, overriddenIn]; done) | decide +kernel)
theorem ok7 {Z : State} {a0 : Array Value} (hw : ∀ d ∈ tables_1, d.before a0 Z = true) (ρ : Nat → Nat) (n0 j0 u0 : Nat) : WCallee Z a0 (⟨"antecede/judges/Overtakings", "add", "(JJJ)V"⟩ : MethodName) (g7 Z ρ n0 j0 u0) 3 :=
  ⟨pl7, (by decide), rfl, rfl, rfl, (wd hw 18 rfl), (wd hw 40 rfl), fun sig h => by cases pd7.symm.trans h; rfl⟩
abbrev g6 (Z : State) (ρ : Nat → Nat) (n0 j0 u0 : Nat) : WMC := ((Z, ρ, n0), ("antecede/judges/OvertakingsAddPinLaw", method_3_code, "t", (some .long), 5), (j0, u0, 0, 0))
theorem a6_0 : AtI method_3_code 0 (.lload_n 0) 1 1 := ⟨by decide +kernel, rfl⟩
theorem a6_1 : AtI method_3_code 1 (.lload_n 2) 1 2 := ⟨by decide +kernel, rfl⟩
theorem a6_2 : AtI method_3_code 2 (.iload 4) 2 4 := ⟨by decide +kernel, rfl⟩
theorem a6_4 : AtI method_3_code 4 (.i2l) 1 5 := ⟨by decide +kernel, rfl⟩
theorem a6_5 : AtI method_3_code 5 (.lmul) 1 6 := ⟨by decide +kernel, rfl⟩
theorem a6_6 : AtI method_3_code 6 (.ladd) 1 7 := ⟨by decide +kernel, rfl⟩
theorem a6_7 : AtI method_3_code 7 (.lreturn) 1 8 := ⟨by decide +kernel, rfl⟩
theorem pd6 : parseMethodDescriptor "(JJI)J" = some ⟨[.long, .long, .int], some .long⟩ := by decide +kernel
theorem pl6 : plainFor (⟨"antecede/judges/OvertakingsAddPinLaw", "t", "(JJI)J"⟩ : MethodName) = true := plainFor_of_name (by first | (simp [plainName, overriddenIn]; done) | decide +kernel)
theorem ok6 {Z : State} {a0 : Array Value} (hw : ∀ d ∈ tables_1, d.before a0 Z = true) (ρ : Nat → Nat) (n0 j0 u0 : Nat) : WCallee Z a0 (⟨"antecede/judges/OvertakingsAddPinLaw", "t", "(JJI)J"⟩ : MethodName) (g6 Z ρ n0 j0 u0) 3 :=
  ⟨pl6, (by decide), rfl, rfl, rfl, (wd hw 3 rfl), (wd hw 35 rfl), fun sig h => by cases pd6.symm.trans h; rfl⟩
abbrev g4 (Z : State) (ρ : Nat → Nat) (n0 j0 u0 : Nat) : WMC := ((Z, ρ, n0), ("antecede/judges/Overtakings", prog_49_method_1_code, "<init>", none, 1), (j0, u0, 1, 12))
theorem a4_0 : AtI prog_49_method_1_code 0 (.aload_n 0) 1 1 := ⟨by decide +kernel, rfl⟩
theorem a4_1 : AtI prog_49_method_1_code 1 (.invokespecial 1) 3 4 := ⟨by decide +kernel, rfl⟩
theorem a4_4 : AtI prog_49_method_1_code 4 (.aload_n 0) 1 5 := ⟨by decide +kernel, rfl⟩
theorem a4_5 : AtI prog_49_method_1_code 5 (.iconst 4) 1 6 := ⟨by decide +kernel, rfl⟩
theorem a4_6 : AtI prog_49_method_1_code 6 (.newarray .long) 2 8 := ⟨by decide +kernel, rfl⟩
theorem a4_8 : AtI prog_49_method_1_code 8 (.putfield 7) 3 11 := ⟨by decide +kernel, rfl⟩
theorem a4_11 : AtI prog_49_method_1_code 11 (.aload_n 0) 1 12 := ⟨by decide +kernel, rfl⟩
theorem a4_12 : AtI prog_49_method_1_code 12 (.iconst 4) 1 13 := ⟨by decide +kernel, rfl⟩
theorem a4_13 : AtI prog_49_method_1_code 13 (.newarray .long) 2 15 := ⟨by decide +kernel, rfl⟩
theorem a4_15 : AtI prog_49_method_1_code 15 (.putfield 13) 3 18 := ⟨by decide +kernel, rfl⟩
theorem a4_18 : AtI prog_49_method_1_code 18 (.aload_n 0) 1 19 := ⟨by decide +kernel, rfl⟩
theorem a4_19 : AtI prog_49_method_1_code 19 (.ldc2_w 18) 3 22 := ⟨by decide +kernel, rfl⟩
theorem a4_22 : AtI prog_49_method_1_code 22 (.putfield 20) 3 25 := ⟨by decide +kernel, rfl⟩
theorem a4_25 : AtI prog_49_method_1_code 25 (.return_) 1 26 := ⟨by decide +kernel, rfl⟩
theorem pd4 : parseMethodDescriptor "()V" = some ⟨[], none⟩ := by decide +kernel
theorem pl4 : plainFor (⟨"antecede/judges/Overtakings", "<init>", "()V"⟩ : MethodName) = true := plainFor_of_name (by first | (simp [plainName, overriddenIn]; done) | decide +kernel)
theorem ok4 {Z : State} {a0 : Array Value} (hw : ∀ d ∈ tables_1, d.before a0 Z = true) (ρ : Nat → Nat) (n0 j0 u0 : Nat) : WCallee Z a0 (⟨"antecede/judges/Overtakings", "<init>", "()V"⟩ : MethodName) (g4 Z ρ n0 j0 u0) 0 :=
  ⟨pl4, (by decide), rfl, rfl, rfl, (wd hw 18 rfl), (wd hw 21 rfl), fun sig h => by cases pd4.symm.trans h; rfl⟩
abbrev g3 (Z : State) (ρ : Nat → Nat) (n0 j0 u0 : Nat) : WMC := ((Z, ρ, n0), ("antecede/judges/OvertakingsAddPinLaw", method_4_code, "ov", (some .int), 5), (j0, u0, 0, 0))
theorem a3_0 : AtI method_4_code 0 (.aload_n 1) 1 1 := ⟨by decide +kernel, rfl⟩
theorem a3_1 : AtI method_4_code 1 (.iload_n 3) 1 2 := ⟨by decide +kernel, rfl⟩
theorem a3_2 : AtI method_4_code 2 (.iaload) 1 3 := ⟨by decide +kernel, rfl⟩
theorem a3_3 : AtI method_4_code 3 (.aload_n 0) 1 4 := ⟨by decide +kernel, rfl⟩
theorem a3_4 : AtI method_4_code 4 (.iload 4) 2 6 := ⟨by decide +kernel, rfl⟩
theorem a3_6 : AtI method_4_code 6 (.iaload) 1 7 := ⟨by decide +kernel, rfl⟩
theorem a3_7 : AtJ method_4_code 7 (.if_icmp .ge) 10 24 := ⟨17, by decide +kernel, rfl, by decide, rfl⟩
theorem a3_10 : AtI method_4_code 10 (.aload_n 2) 1 11 := ⟨by decide +kernel, rfl⟩
theorem a3_11 : AtI method_4_code 11 (.iload 4) 2 13 := ⟨by decide +kernel, rfl⟩
theorem a3_13 : AtI method_4_code 13 (.iaload) 1 14 := ⟨by decide +kernel, rfl⟩
theorem a3_14 : AtI method_4_code 14 (.aload_n 2) 1 15 := ⟨by decide +kernel, rfl⟩
theorem a3_15 : AtI method_4_code 15 (.iload_n 3) 1 16 := ⟨by decide +kernel, rfl⟩
theorem a3_16 : AtI method_4_code 16 (.iaload) 1 17 := ⟨by decide +kernel, rfl⟩
theorem a3_17 : AtJ method_4_code 17 (.if_icmp .ge) 20 24 := ⟨7, by decide +kernel, rfl, by decide, rfl⟩
theorem a3_20 : AtI method_4_code 20 (.iconst 1) 1 21 := ⟨by decide +kernel, rfl⟩
theorem a3_21 : AtJ method_4_code 21 (.goto) 24 25 := ⟨4, by decide +kernel, rfl, by decide, rfl⟩
theorem a3_24 : AtI method_4_code 24 (.iconst 0) 1 25 := ⟨by decide +kernel, rfl⟩
theorem a3_25 : AtI method_4_code 25 (.ireturn) 1 26 := ⟨by decide +kernel, rfl⟩
theorem pd3 : parseMethodDescriptor "([I[I[III)I" = some ⟨[(.array .int), (.array .int), (.array .int), .int, .int], some .int⟩ := by decide +kernel
theorem pl3 : plainFor (⟨"antecede/judges/OvertakingsAddPinLaw", "ov", "([I[I[III)I"⟩ : MethodName) = true := plainFor_of_name (by first | (simp [plainName, overriddenIn]; done) | decide +kernel)
theorem ok3 {Z : State} {a0 : Array Value} (hw : ∀ d ∈ tables_1, d.before a0 Z = true) (ρ : Nat → Nat) (n0 j0 u0 : Nat) : WCallee Z a0 (⟨"antecede/judges/OvertakingsAddPinLaw", "ov", "([I[I[III)I"⟩ : MethodName) (g3 Z ρ n0 j0 u0) 5 :=
  ⟨pl3, (by decide), rfl, rfl, rfl, (wd hw 3 rfl), (wd hw 15 rfl), fun sig h => by cases pd3.symm.trans h; rfl⟩
abbrev g2 (Z : State) (ρ : Nat → Nat) (n0 j0 u0 : Nat) : WMC := ((Z, ρ, n0), ("java/lang/Math", jdk_29_method_70_code, "min", (some .long), 4), (j0, u0, 0, 0))
theorem a2_0 : AtI jdk_29_method_70_code 0 (.lload_n 0) 1 1 := ⟨by decide +kernel, rfl⟩
theorem a2_1 : AtI jdk_29_method_70_code 1 (.lload_n 2) 1 2 := ⟨by decide +kernel, rfl⟩
theorem a2_2 : AtI jdk_29_method_70_code 2 (.lcmp) 1 3 := ⟨by decide +kernel, rfl⟩
theorem a2_3 : AtJ jdk_29_method_70_code 3 (.ifCond .gt) 6 10 := ⟨7, by decide +kernel, rfl, by decide, rfl⟩
theorem a2_6 : AtI jdk_29_method_70_code 6 (.lload_n 0) 1 7 := ⟨by decide +kernel, rfl⟩
theorem a2_7 : AtJ jdk_29_method_70_code 7 (.goto) 10 11 := ⟨4, by decide +kernel, rfl, by decide, rfl⟩
theorem a2_10 : AtI jdk_29_method_70_code 10 (.lload_n 2) 1 11 := ⟨by decide +kernel, rfl⟩
theorem a2_11 : AtI jdk_29_method_70_code 11 (.lreturn) 1 12 := ⟨by decide +kernel, rfl⟩
theorem pd2 : parseMethodDescriptor "(JJ)J" = some ⟨[.long, .long], some .long⟩ := by decide +kernel
theorem pl2 : plainFor (⟨"java/lang/Math", "min", "(JJ)J"⟩ : MethodName) = true := Jvm.Free.JP.mathPlain rfl (by decide +kernel)
theorem ok2 {Z : State} {a0 : Array Value} (hw : ∀ d ∈ tables_1, d.before a0 Z = true) (ρ : Nat → Nat) (n0 j0 u0 : Nat) : WCallee Z a0 (⟨"java/lang/Math", "min", "(JJ)J"⟩ : MethodName) (g2 Z ρ n0 j0 u0) 2 :=
  ⟨pl2, (by decide), rfl, rfl, rfl, (wd hw 11 rfl), (wd hw 12 rfl), fun sig h => by cases pd2.symm.trans h; rfl⟩
abbrev g1 (Z : State) (ρ : Nat → Nat) (n0 j0 u0 : Nat) : WMC := ((Z, ρ, n0), ("antecede/judges/OvertakingsAddPinLaw", method_2_code, "bits", (some .int), 3), (j0, u0, 0, 0))
theorem a1_0 : AtI method_2_code 0 (.lload_n 0) 1 1 := ⟨by decide +kernel, rfl⟩
theorem a1_1 : AtI method_2_code 1 (.iload_n 2) 1 2 := ⟨by decide +kernel, rfl⟩
theorem a1_2 : AtI method_2_code 2 (.lushr) 1 3 := ⟨by decide +kernel, rfl⟩
theorem a1_3 : AtI method_2_code 3 (.ldc2_w 7) 3 6 := ⟨by decide +kernel, rfl⟩
theorem a1_6 : AtI method_2_code 6 (.land) 1 7 := ⟨by decide +kernel, rfl⟩
theorem a1_7 : AtI method_2_code 7 (.l2i) 1 8 := ⟨by decide +kernel, rfl⟩
theorem a1_8 : AtI method_2_code 8 (.ireturn) 1 9 := ⟨by decide +kernel, rfl⟩
theorem pd1 : parseMethodDescriptor "(JI)I" = some ⟨[.long, .int], some .int⟩ := by decide +kernel
theorem pl1 : plainFor (⟨"antecede/judges/OvertakingsAddPinLaw", "bits", "(JI)I"⟩ : MethodName) = true := plainFor_of_name (by first | (simp [plainName, overriddenIn]; done) | decide +kernel)
theorem ok1 {Z : State} {a0 : Array Value} (hw : ∀ d ∈ tables_1, d.before a0 Z = true) (ρ : Nat → Nat) (n0 j0 u0 : Nat) : WCallee Z a0 (⟨"antecede/judges/OvertakingsAddPinLaw", "bits", "(JI)I"⟩ : MethodName) (g1 Z ρ n0 j0 u0) 2 :=
  ⟨pl1, (by decide), rfl, rfl, rfl, (wd hw 3 rfl), (wd hw 4 rfl), fun sig h => by cases pd1.symm.trans h; rfl⟩
abbrev g0 (Z : State) (ρ : Nat → Nat) (n0 j0 u0 : Nat) : WMC := ((Z, ρ, n0), ("antecede/judges/OvertakingsAddPinLaw", code, "law", ret, maxLocals), (j0, u0, 6, 160))
theorem a0_0 : AtI code 0 (.iconst 5) 1 1 := ⟨by decide +kernel, rfl⟩
theorem a0_1 : AtI code 1 (.newarray .int) 2 3 := ⟨by decide +kernel, rfl⟩
theorem a0_3 : AtI code 3 (.astore 6) 2 5 := ⟨by decide +kernel, rfl⟩
theorem a0_5 : AtI code 5 (.iconst 5) 1 6 := ⟨by decide +kernel, rfl⟩
theorem a0_6 : AtI code 6 (.newarray .int) 2 8 := ⟨by decide +kernel, rfl⟩
theorem a0_8 : AtI code 8 (.astore 7) 2 10 := ⟨by decide +kernel, rfl⟩
theorem a0_10 : AtI code 10 (.iconst 5) 1 11 := ⟨by decide +kernel, rfl⟩
theorem a0_11 : AtI code 11 (.newarray .int) 2 13 := ⟨by decide +kernel, rfl⟩
theorem a0_13 : AtI code 13 (.astore 8) 2 15 := ⟨by decide +kernel, rfl⟩
theorem a0_15 : AtI code 15 (.aload 6) 2 17 := ⟨by decide +kernel, rfl⟩
theorem a0_17 : AtI code 17 (.iconst 0) 1 18 := ⟨by decide +kernel, rfl⟩
theorem a0_18 : AtI code 18 (.iconst 0) 1 19 := ⟨by decide +kernel, rfl⟩
theorem a0_19 : AtI code 19 (.iastore) 1 20 := ⟨by decide +kernel, rfl⟩
theorem a0_20 : AtI code 20 (.aload 6) 2 22 := ⟨by decide +kernel, rfl⟩
theorem a0_22 : AtI code 22 (.iconst 1) 1 23 := ⟨by decide +kernel, rfl⟩
theorem a0_23 : AtI code 23 (.aload 6) 2 25 := ⟨by decide +kernel, rfl⟩
theorem a0_25 : AtI code 25 (.iconst 0) 1 26 := ⟨by decide +kernel, rfl⟩
theorem a0_26 : AtI code 26 (.iaload) 1 27 := ⟨by decide +kernel, rfl⟩
theorem a0_27 : AtI code 27 (.lload 4) 2 29 := ⟨by decide +kernel, rfl⟩
theorem a0_29 : AtI code 29 (.iconst 0) 1 30 := ⟨by decide +kernel, rfl⟩
theorem a0_30 : AtI code 30 (.invokestatic 9) 3 33 := ⟨by decide +kernel, rfl⟩
theorem a0_33 : AtI code 33 (.iadd) 1 34 := ⟨by decide +kernel, rfl⟩
theorem a0_34 : AtI code 34 (.iastore) 1 35 := ⟨by decide +kernel, rfl⟩
theorem a0_35 : AtI code 35 (.aload 6) 2 37 := ⟨by decide +kernel, rfl⟩
theorem a0_37 : AtI code 37 (.iconst 2) 1 38 := ⟨by decide +kernel, rfl⟩
theorem a0_38 : AtI code 38 (.aload 6) 2 40 := ⟨by decide +kernel, rfl⟩
theorem a0_40 : AtI code 40 (.iconst 1) 1 41 := ⟨by decide +kernel, rfl⟩
theorem a0_41 : AtI code 41 (.iaload) 1 42 := ⟨by decide +kernel, rfl⟩
theorem a0_42 : AtI code 42 (.lload 4) 2 44 := ⟨by decide +kernel, rfl⟩
theorem a0_44 : AtI code 44 (.iconst 3) 1 45 := ⟨by decide +kernel, rfl⟩
theorem a0_45 : AtI code 45 (.invokestatic 9) 3 48 := ⟨by decide +kernel, rfl⟩
theorem a0_48 : AtI code 48 (.iadd) 1 49 := ⟨by decide +kernel, rfl⟩
theorem a0_49 : AtI code 49 (.iastore) 1 50 := ⟨by decide +kernel, rfl⟩
theorem a0_50 : AtI code 50 (.aload 6) 2 52 := ⟨by decide +kernel, rfl⟩
theorem a0_52 : AtI code 52 (.iconst 3) 1 53 := ⟨by decide +kernel, rfl⟩
theorem a0_53 : AtI code 53 (.aload 6) 2 55 := ⟨by decide +kernel, rfl⟩
theorem a0_55 : AtI code 55 (.iconst 2) 1 56 := ⟨by decide +kernel, rfl⟩
theorem a0_56 : AtI code 56 (.iaload) 1 57 := ⟨by decide +kernel, rfl⟩
theorem a0_57 : AtI code 57 (.lload 4) 2 59 := ⟨by decide +kernel, rfl⟩
theorem a0_59 : AtI code 59 (.bipush 6) 2 61 := ⟨by decide +kernel, rfl⟩
theorem a0_61 : AtI code 61 (.invokestatic 9) 3 64 := ⟨by decide +kernel, rfl⟩
theorem a0_64 : AtI code 64 (.iadd) 1 65 := ⟨by decide +kernel, rfl⟩
theorem a0_65 : AtI code 65 (.iastore) 1 66 := ⟨by decide +kernel, rfl⟩
theorem a0_66 : AtI code 66 (.aload 6) 2 68 := ⟨by decide +kernel, rfl⟩
theorem a0_68 : AtI code 68 (.iconst 4) 1 69 := ⟨by decide +kernel, rfl⟩
theorem a0_69 : AtI code 69 (.aload 6) 2 71 := ⟨by decide +kernel, rfl⟩
theorem a0_71 : AtI code 71 (.iconst 3) 1 72 := ⟨by decide +kernel, rfl⟩
theorem a0_72 : AtI code 72 (.iaload) 1 73 := ⟨by decide +kernel, rfl⟩
theorem a0_73 : AtI code 73 (.lload 4) 2 75 := ⟨by decide +kernel, rfl⟩
theorem a0_75 : AtI code 75 (.bipush 9) 2 77 := ⟨by decide +kernel, rfl⟩
theorem a0_77 : AtI code 77 (.invokestatic 9) 3 80 := ⟨by decide +kernel, rfl⟩
theorem a0_80 : AtI code 80 (.iadd) 1 81 := ⟨by decide +kernel, rfl⟩
theorem a0_81 : AtI code 81 (.iastore) 1 82 := ⟨by decide +kernel, rfl⟩
theorem a0_82 : AtI code 82 (.aload 7) 2 84 := ⟨by decide +kernel, rfl⟩
theorem a0_84 : AtI code 84 (.iconst 0) 1 85 := ⟨by decide +kernel, rfl⟩
theorem a0_85 : AtI code 85 (.aload 6) 2 87 := ⟨by decide +kernel, rfl⟩
theorem a0_87 : AtI code 87 (.iconst 0) 1 88 := ⟨by decide +kernel, rfl⟩
theorem a0_88 : AtI code 88 (.iaload) 1 89 := ⟨by decide +kernel, rfl⟩
theorem a0_89 : AtI code 89 (.lload 4) 2 91 := ⟨by decide +kernel, rfl⟩
theorem a0_91 : AtI code 91 (.bipush 12) 2 93 := ⟨by decide +kernel, rfl⟩
theorem a0_93 : AtI code 93 (.invokestatic 9) 3 96 := ⟨by decide +kernel, rfl⟩
theorem a0_96 : AtI code 96 (.iadd) 1 97 := ⟨by decide +kernel, rfl⟩
theorem a0_97 : AtI code 97 (.iastore) 1 98 := ⟨by decide +kernel, rfl⟩
theorem a0_98 : AtI code 98 (.aload 7) 2 100 := ⟨by decide +kernel, rfl⟩
theorem a0_100 : AtI code 100 (.iconst 1) 1 101 := ⟨by decide +kernel, rfl⟩
theorem a0_101 : AtI code 101 (.aload 6) 2 103 := ⟨by decide +kernel, rfl⟩
theorem a0_103 : AtI code 103 (.iconst 1) 1 104 := ⟨by decide +kernel, rfl⟩
theorem a0_104 : AtI code 104 (.iaload) 1 105 := ⟨by decide +kernel, rfl⟩
theorem a0_105 : AtI code 105 (.lload 4) 2 107 := ⟨by decide +kernel, rfl⟩
theorem a0_107 : AtI code 107 (.bipush 15) 2 109 := ⟨by decide +kernel, rfl⟩
theorem a0_109 : AtI code 109 (.invokestatic 9) 3 112 := ⟨by decide +kernel, rfl⟩
theorem a0_112 : AtI code 112 (.iadd) 1 113 := ⟨by decide +kernel, rfl⟩
theorem a0_113 : AtI code 113 (.iastore) 1 114 := ⟨by decide +kernel, rfl⟩
theorem a0_114 : AtI code 114 (.aload 7) 2 116 := ⟨by decide +kernel, rfl⟩
theorem a0_116 : AtI code 116 (.iconst 2) 1 117 := ⟨by decide +kernel, rfl⟩
theorem a0_117 : AtI code 117 (.aload 6) 2 119 := ⟨by decide +kernel, rfl⟩
theorem a0_119 : AtI code 119 (.iconst 2) 1 120 := ⟨by decide +kernel, rfl⟩
theorem a0_120 : AtI code 120 (.iaload) 1 121 := ⟨by decide +kernel, rfl⟩
theorem a0_121 : AtI code 121 (.lload 4) 2 123 := ⟨by decide +kernel, rfl⟩
theorem a0_123 : AtI code 123 (.bipush 18) 2 125 := ⟨by decide +kernel, rfl⟩
theorem a0_125 : AtI code 125 (.invokestatic 9) 3 128 := ⟨by decide +kernel, rfl⟩
theorem a0_128 : AtI code 128 (.iadd) 1 129 := ⟨by decide +kernel, rfl⟩
theorem a0_129 : AtI code 129 (.iastore) 1 130 := ⟨by decide +kernel, rfl⟩
theorem a0_130 : AtI code 130 (.aload 7) 2 132 := ⟨by decide +kernel, rfl⟩
theorem a0_132 : AtI code 132 (.iconst 3) 1 133 := ⟨by decide +kernel, rfl⟩
theorem a0_133 : AtI code 133 (.aload 6) 2 135 := ⟨by decide +kernel, rfl⟩
theorem a0_135 : AtI code 135 (.iconst 3) 1 136 := ⟨by decide +kernel, rfl⟩
theorem a0_136 : AtI code 136 (.iaload) 1 137 := ⟨by decide +kernel, rfl⟩
theorem a0_137 : AtI code 137 (.lload 4) 2 139 := ⟨by decide +kernel, rfl⟩
theorem a0_139 : AtI code 139 (.bipush 21) 2 141 := ⟨by decide +kernel, rfl⟩
theorem a0_141 : AtI code 141 (.invokestatic 9) 3 144 := ⟨by decide +kernel, rfl⟩
theorem a0_144 : AtI code 144 (.iadd) 1 145 := ⟨by decide +kernel, rfl⟩
theorem a0_145 : AtI code 145 (.iastore) 1 146 := ⟨by decide +kernel, rfl⟩
theorem a0_146 : AtI code 146 (.aload 7) 2 148 := ⟨by decide +kernel, rfl⟩
theorem a0_148 : AtI code 148 (.iconst 4) 1 149 := ⟨by decide +kernel, rfl⟩
theorem a0_149 : AtI code 149 (.aload 6) 2 151 := ⟨by decide +kernel, rfl⟩
theorem a0_151 : AtI code 151 (.iconst 4) 1 152 := ⟨by decide +kernel, rfl⟩
theorem a0_152 : AtI code 152 (.iaload) 1 153 := ⟨by decide +kernel, rfl⟩
theorem a0_153 : AtI code 153 (.lload 4) 2 155 := ⟨by decide +kernel, rfl⟩
theorem a0_155 : AtI code 155 (.bipush 24) 2 157 := ⟨by decide +kernel, rfl⟩
theorem a0_157 : AtI code 157 (.invokestatic 9) 3 160 := ⟨by decide +kernel, rfl⟩
theorem a0_160 : AtI code 160 (.iadd) 1 161 := ⟨by decide +kernel, rfl⟩
theorem a0_161 : AtI code 161 (.iastore) 1 162 := ⟨by decide +kernel, rfl⟩
theorem a0_162 : AtI code 162 (.aload 8) 2 164 := ⟨by decide +kernel, rfl⟩
theorem a0_164 : AtI code 164 (.iconst 0) 1 165 := ⟨by decide +kernel, rfl⟩
theorem a0_165 : AtI code 165 (.aload 7) 2 167 := ⟨by decide +kernel, rfl⟩
theorem a0_167 : AtI code 167 (.iconst 0) 1 168 := ⟨by decide +kernel, rfl⟩
theorem a0_168 : AtI code 168 (.iaload) 1 169 := ⟨by decide +kernel, rfl⟩
theorem a0_169 : AtI code 169 (.lload 4) 2 171 := ⟨by decide +kernel, rfl⟩
theorem a0_171 : AtI code 171 (.bipush 27) 2 173 := ⟨by decide +kernel, rfl⟩
theorem a0_173 : AtI code 173 (.invokestatic 9) 3 176 := ⟨by decide +kernel, rfl⟩
theorem a0_176 : AtI code 176 (.iadd) 1 177 := ⟨by decide +kernel, rfl⟩
theorem a0_177 : AtI code 177 (.iastore) 1 178 := ⟨by decide +kernel, rfl⟩
theorem a0_178 : AtI code 178 (.aload 8) 2 180 := ⟨by decide +kernel, rfl⟩
theorem a0_180 : AtI code 180 (.iconst 1) 1 181 := ⟨by decide +kernel, rfl⟩
theorem a0_181 : AtI code 181 (.aload 7) 2 183 := ⟨by decide +kernel, rfl⟩
theorem a0_183 : AtI code 183 (.iconst 1) 1 184 := ⟨by decide +kernel, rfl⟩
theorem a0_184 : AtI code 184 (.iaload) 1 185 := ⟨by decide +kernel, rfl⟩
theorem a0_185 : AtI code 185 (.lload 4) 2 187 := ⟨by decide +kernel, rfl⟩
theorem a0_187 : AtI code 187 (.bipush 30) 2 189 := ⟨by decide +kernel, rfl⟩
theorem a0_189 : AtI code 189 (.invokestatic 9) 3 192 := ⟨by decide +kernel, rfl⟩
theorem a0_192 : AtI code 192 (.iadd) 1 193 := ⟨by decide +kernel, rfl⟩
theorem a0_193 : AtI code 193 (.iastore) 1 194 := ⟨by decide +kernel, rfl⟩
theorem a0_194 : AtI code 194 (.aload 8) 2 196 := ⟨by decide +kernel, rfl⟩
theorem a0_196 : AtI code 196 (.iconst 2) 1 197 := ⟨by decide +kernel, rfl⟩
theorem a0_197 : AtI code 197 (.aload 7) 2 199 := ⟨by decide +kernel, rfl⟩
theorem a0_199 : AtI code 199 (.iconst 2) 1 200 := ⟨by decide +kernel, rfl⟩
theorem a0_200 : AtI code 200 (.iaload) 1 201 := ⟨by decide +kernel, rfl⟩
theorem a0_201 : AtI code 201 (.lload 4) 2 203 := ⟨by decide +kernel, rfl⟩
theorem a0_203 : AtI code 203 (.bipush 33) 2 205 := ⟨by decide +kernel, rfl⟩
theorem a0_205 : AtI code 205 (.invokestatic 9) 3 208 := ⟨by decide +kernel, rfl⟩
theorem a0_208 : AtI code 208 (.iadd) 1 209 := ⟨by decide +kernel, rfl⟩
theorem a0_209 : AtI code 209 (.iastore) 1 210 := ⟨by decide +kernel, rfl⟩
theorem a0_210 : AtI code 210 (.aload 8) 2 212 := ⟨by decide +kernel, rfl⟩
theorem a0_212 : AtI code 212 (.iconst 3) 1 213 := ⟨by decide +kernel, rfl⟩
theorem a0_213 : AtI code 213 (.aload 7) 2 215 := ⟨by decide +kernel, rfl⟩
theorem a0_215 : AtI code 215 (.iconst 3) 1 216 := ⟨by decide +kernel, rfl⟩
theorem a0_216 : AtI code 216 (.iaload) 1 217 := ⟨by decide +kernel, rfl⟩
theorem a0_217 : AtI code 217 (.lload 4) 2 219 := ⟨by decide +kernel, rfl⟩
theorem a0_219 : AtI code 219 (.bipush 36) 2 221 := ⟨by decide +kernel, rfl⟩
theorem a0_221 : AtI code 221 (.invokestatic 9) 3 224 := ⟨by decide +kernel, rfl⟩
theorem a0_224 : AtI code 224 (.iadd) 1 225 := ⟨by decide +kernel, rfl⟩
theorem a0_225 : AtI code 225 (.iastore) 1 226 := ⟨by decide +kernel, rfl⟩
theorem a0_226 : AtI code 226 (.aload 8) 2 228 := ⟨by decide +kernel, rfl⟩
theorem a0_228 : AtI code 228 (.iconst 4) 1 229 := ⟨by decide +kernel, rfl⟩
theorem a0_229 : AtI code 229 (.aload 7) 2 231 := ⟨by decide +kernel, rfl⟩
theorem a0_231 : AtI code 231 (.iconst 4) 1 232 := ⟨by decide +kernel, rfl⟩
theorem a0_232 : AtI code 232 (.iaload) 1 233 := ⟨by decide +kernel, rfl⟩
theorem a0_233 : AtI code 233 (.lload 4) 2 235 := ⟨by decide +kernel, rfl⟩
theorem a0_235 : AtI code 235 (.bipush 39) 2 237 := ⟨by decide +kernel, rfl⟩
theorem a0_237 : AtI code 237 (.invokestatic 9) 3 240 := ⟨by decide +kernel, rfl⟩
theorem a0_240 : AtI code 240 (.iadd) 1 241 := ⟨by decide +kernel, rfl⟩
theorem a0_241 : AtI code 241 (.iastore) 1 242 := ⟨by decide +kernel, rfl⟩
theorem a0_242 : AtI code 242 (.lconst 1) 1 243 := ⟨by decide +kernel, rfl⟩
theorem a0_243 : AtI code 243 (.lload_n 2) 1 244 := ⟨by decide +kernel, rfl⟩
theorem a0_244 : AtI code 244 (.bipush 8) 2 246 := ⟨by decide +kernel, rfl⟩
theorem a0_246 : AtI code 246 (.lushr) 1 247 := ⟨by decide +kernel, rfl⟩
theorem a0_247 : AtI code 247 (.lload_n 2) 1 248 := ⟨by decide +kernel, rfl⟩
theorem a0_248 : AtI code 248 (.ldc2_w 15) 3 251 := ⟨by decide +kernel, rfl⟩
theorem a0_251 : AtI code 251 (.land) 1 252 := ⟨by decide +kernel, rfl⟩
theorem a0_252 : AtI code 252 (.l2i) 1 253 := ⟨by decide +kernel, rfl⟩
theorem a0_253 : AtI code 253 (.lushr) 1 254 := ⟨by decide +kernel, rfl⟩
theorem a0_254 : AtI code 254 (.ladd) 1 255 := ⟨by decide +kernel, rfl⟩
theorem a0_255 : AtI code 255 (.lstore 9) 2 257 := ⟨by decide +kernel, rfl⟩
theorem a0_257 : AtI code 257 (.lload_n 0) 1 258 := ⟨by decide +kernel, rfl⟩
theorem a0_258 : AtI code 258 (.ldc2_w 19) 3 261 := ⟨by decide +kernel, rfl⟩
theorem a0_261 : AtI code 261 (.ldc2_w 21) 3 264 := ⟨by decide +kernel, rfl⟩
theorem a0_264 : AtI code 264 (.lload 9) 2 266 := ⟨by decide +kernel, rfl⟩
theorem a0_266 : AtI code 266 (.lmul) 1 267 := ⟨by decide +kernel, rfl⟩
theorem a0_267 : AtI code 267 (.lsub) 1 268 := ⟨by decide +kernel, rfl⟩
theorem a0_268 : AtI code 268 (.invokestatic 23) 3 271 := ⟨by decide +kernel, rfl⟩
theorem a0_271 : AtI code 271 (.lstore 11) 2 273 := ⟨by decide +kernel, rfl⟩
theorem a0_273 : AtI code 273 (.aload 6) 2 275 := ⟨by decide +kernel, rfl⟩
theorem a0_275 : AtI code 275 (.aload 7) 2 277 := ⟨by decide +kernel, rfl⟩
theorem a0_277 : AtI code 277 (.aload 8) 2 279 := ⟨by decide +kernel, rfl⟩
theorem a0_279 : AtI code 279 (.iconst 0) 1 280 := ⟨by decide +kernel, rfl⟩
theorem a0_280 : AtI code 280 (.iconst 1) 1 281 := ⟨by decide +kernel, rfl⟩
theorem a0_281 : AtI code 281 (.invokestatic 29) 3 284 := ⟨by decide +kernel, rfl⟩
theorem a0_284 : AtI code 284 (.istore 13) 2 286 := ⟨by decide +kernel, rfl⟩
theorem a0_286 : AtI code 286 (.iload 13) 2 288 := ⟨by decide +kernel, rfl⟩
theorem a0_288 : AtI code 288 (.aload 6) 2 290 := ⟨by decide +kernel, rfl⟩
theorem a0_290 : AtI code 290 (.aload 7) 2 292 := ⟨by decide +kernel, rfl⟩
theorem a0_292 : AtI code 292 (.aload 8) 2 294 := ⟨by decide +kernel, rfl⟩
theorem a0_294 : AtI code 294 (.iconst 0) 1 295 := ⟨by decide +kernel, rfl⟩
theorem a0_295 : AtI code 295 (.iconst 2) 1 296 := ⟨by decide +kernel, rfl⟩
theorem a0_296 : AtI code 296 (.invokestatic 29) 3 299 := ⟨by decide +kernel, rfl⟩
theorem a0_299 : AtI code 299 (.iadd) 1 300 := ⟨by decide +kernel, rfl⟩
theorem a0_300 : AtI code 300 (.aload 6) 2 302 := ⟨by decide +kernel, rfl⟩
theorem a0_302 : AtI code 302 (.aload 7) 2 304 := ⟨by decide +kernel, rfl⟩
theorem a0_304 : AtI code 304 (.aload 8) 2 306 := ⟨by decide +kernel, rfl⟩
theorem a0_306 : AtI code 306 (.iconst 1) 1 307 := ⟨by decide +kernel, rfl⟩
theorem a0_307 : AtI code 307 (.iconst 2) 1 308 := ⟨by decide +kernel, rfl⟩
theorem a0_308 : AtI code 308 (.invokestatic 29) 3 311 := ⟨by decide +kernel, rfl⟩
theorem a0_311 : AtI code 311 (.iadd) 1 312 := ⟨by decide +kernel, rfl⟩
theorem a0_312 : AtI code 312 (.istore 14) 2 314 := ⟨by decide +kernel, rfl⟩
theorem a0_314 : AtI code 314 (.iload 14) 2 316 := ⟨by decide +kernel, rfl⟩
theorem a0_316 : AtI code 316 (.aload 6) 2 318 := ⟨by decide +kernel, rfl⟩
theorem a0_318 : AtI code 318 (.aload 7) 2 320 := ⟨by decide +kernel, rfl⟩
theorem a0_320 : AtI code 320 (.aload 8) 2 322 := ⟨by decide +kernel, rfl⟩
theorem a0_322 : AtI code 322 (.iconst 0) 1 323 := ⟨by decide +kernel, rfl⟩
theorem a0_323 : AtI code 323 (.iconst 3) 1 324 := ⟨by decide +kernel, rfl⟩
theorem a0_324 : AtI code 324 (.invokestatic 29) 3 327 := ⟨by decide +kernel, rfl⟩
theorem a0_327 : AtI code 327 (.iadd) 1 328 := ⟨by decide +kernel, rfl⟩
theorem a0_328 : AtI code 328 (.aload 6) 2 330 := ⟨by decide +kernel, rfl⟩
theorem a0_330 : AtI code 330 (.aload 7) 2 332 := ⟨by decide +kernel, rfl⟩
theorem a0_332 : AtI code 332 (.aload 8) 2 334 := ⟨by decide +kernel, rfl⟩
theorem a0_334 : AtI code 334 (.iconst 1) 1 335 := ⟨by decide +kernel, rfl⟩
theorem a0_335 : AtI code 335 (.iconst 3) 1 336 := ⟨by decide +kernel, rfl⟩
theorem a0_336 : AtI code 336 (.invokestatic 29) 3 339 := ⟨by decide +kernel, rfl⟩
theorem a0_339 : AtI code 339 (.iadd) 1 340 := ⟨by decide +kernel, rfl⟩
theorem a0_340 : AtI code 340 (.aload 6) 2 342 := ⟨by decide +kernel, rfl⟩
theorem a0_342 : AtI code 342 (.aload 7) 2 344 := ⟨by decide +kernel, rfl⟩
theorem a0_344 : AtI code 344 (.aload 8) 2 346 := ⟨by decide +kernel, rfl⟩
theorem a0_346 : AtI code 346 (.iconst 2) 1 347 := ⟨by decide +kernel, rfl⟩
theorem a0_347 : AtI code 347 (.iconst 3) 1 348 := ⟨by decide +kernel, rfl⟩
theorem a0_348 : AtI code 348 (.invokestatic 29) 3 351 := ⟨by decide +kernel, rfl⟩
theorem a0_351 : AtI code 351 (.iadd) 1 352 := ⟨by decide +kernel, rfl⟩
theorem a0_352 : AtI code 352 (.istore 15) 2 354 := ⟨by decide +kernel, rfl⟩
theorem a0_354 : AtI code 354 (.iload 15) 2 356 := ⟨by decide +kernel, rfl⟩
theorem a0_356 : AtI code 356 (.aload 6) 2 358 := ⟨by decide +kernel, rfl⟩
theorem a0_358 : AtI code 358 (.aload 7) 2 360 := ⟨by decide +kernel, rfl⟩
theorem a0_360 : AtI code 360 (.aload 8) 2 362 := ⟨by decide +kernel, rfl⟩
theorem a0_362 : AtI code 362 (.iconst 0) 1 363 := ⟨by decide +kernel, rfl⟩
theorem a0_363 : AtI code 363 (.iconst 4) 1 364 := ⟨by decide +kernel, rfl⟩
theorem a0_364 : AtI code 364 (.invokestatic 29) 3 367 := ⟨by decide +kernel, rfl⟩
theorem a0_367 : AtI code 367 (.iadd) 1 368 := ⟨by decide +kernel, rfl⟩
theorem a0_368 : AtI code 368 (.aload 6) 2 370 := ⟨by decide +kernel, rfl⟩
theorem a0_370 : AtI code 370 (.aload 7) 2 372 := ⟨by decide +kernel, rfl⟩
theorem a0_372 : AtI code 372 (.aload 8) 2 374 := ⟨by decide +kernel, rfl⟩
theorem a0_374 : AtI code 374 (.iconst 1) 1 375 := ⟨by decide +kernel, rfl⟩
theorem a0_375 : AtI code 375 (.iconst 4) 1 376 := ⟨by decide +kernel, rfl⟩
theorem a0_376 : AtI code 376 (.invokestatic 29) 3 379 := ⟨by decide +kernel, rfl⟩
theorem a0_379 : AtI code 379 (.iadd) 1 380 := ⟨by decide +kernel, rfl⟩
theorem a0_380 : AtI code 380 (.aload 6) 2 382 := ⟨by decide +kernel, rfl⟩
theorem a0_382 : AtI code 382 (.aload 7) 2 384 := ⟨by decide +kernel, rfl⟩
theorem a0_384 : AtI code 384 (.aload 8) 2 386 := ⟨by decide +kernel, rfl⟩
theorem a0_386 : AtI code 386 (.iconst 2) 1 387 := ⟨by decide +kernel, rfl⟩
theorem a0_387 : AtI code 387 (.iconst 4) 1 388 := ⟨by decide +kernel, rfl⟩
theorem a0_388 : AtI code 388 (.invokestatic 29) 3 391 := ⟨by decide +kernel, rfl⟩
theorem a0_391 : AtI code 391 (.iadd) 1 392 := ⟨by decide +kernel, rfl⟩
theorem a0_392 : AtI code 392 (.aload 6) 2 394 := ⟨by decide +kernel, rfl⟩
theorem a0_394 : AtI code 394 (.aload 7) 2 396 := ⟨by decide +kernel, rfl⟩
theorem a0_396 : AtI code 396 (.aload 8) 2 398 := ⟨by decide +kernel, rfl⟩
theorem a0_398 : AtI code 398 (.iconst 3) 1 399 := ⟨by decide +kernel, rfl⟩
theorem a0_399 : AtI code 399 (.iconst 4) 1 400 := ⟨by decide +kernel, rfl⟩
theorem a0_400 : AtI code 400 (.invokestatic 29) 3 403 := ⟨by decide +kernel, rfl⟩
theorem a0_403 : AtI code 403 (.iadd) 1 404 := ⟨by decide +kernel, rfl⟩
theorem a0_404 : AtI code 404 (.istore 16) 2 406 := ⟨by decide +kernel, rfl⟩
theorem a0_406 : AtI code 406 (.new 33) 3 409 := ⟨by decide +kernel, rfl⟩
theorem a0_409 : AtI code 409 (.dup) 1 410 := ⟨by decide +kernel, rfl⟩
theorem a0_410 : AtI code 410 (.invokespecial 35) 3 413 := ⟨by decide +kernel, rfl⟩
theorem a0_413 : AtI code 413 (.astore 17) 2 415 := ⟨by decide +kernel, rfl⟩
theorem a0_415 : AtI code 415 (.aload 17) 2 417 := ⟨by decide +kernel, rfl⟩
theorem a0_417 : AtI code 417 (.lload 11) 2 419 := ⟨by decide +kernel, rfl⟩
theorem a0_419 : AtI code 419 (.lload 9) 2 421 := ⟨by decide +kernel, rfl⟩
theorem a0_421 : AtI code 421 (.aload 6) 2 423 := ⟨by decide +kernel, rfl⟩
theorem a0_423 : AtI code 423 (.iconst 0) 1 424 := ⟨by decide +kernel, rfl⟩
theorem a0_424 : AtI code 424 (.iaload) 1 425 := ⟨by decide +kernel, rfl⟩
theorem a0_425 : AtI code 425 (.invokestatic 36) 3 428 := ⟨by decide +kernel, rfl⟩
theorem a0_428 : AtI code 428 (.lload 11) 2 430 := ⟨by decide +kernel, rfl⟩
theorem a0_430 : AtI code 430 (.lload 9) 2 432 := ⟨by decide +kernel, rfl⟩
theorem a0_432 : AtI code 432 (.aload 7) 2 434 := ⟨by decide +kernel, rfl⟩
theorem a0_434 : AtI code 434 (.iconst 0) 1 435 := ⟨by decide +kernel, rfl⟩
theorem a0_435 : AtI code 435 (.iaload) 1 436 := ⟨by decide +kernel, rfl⟩
theorem a0_436 : AtI code 436 (.invokestatic 36) 3 439 := ⟨by decide +kernel, rfl⟩
theorem a0_439 : AtI code 439 (.lload 11) 2 441 := ⟨by decide +kernel, rfl⟩
theorem a0_441 : AtI code 441 (.lload 9) 2 443 := ⟨by decide +kernel, rfl⟩
theorem a0_443 : AtI code 443 (.aload 8) 2 445 := ⟨by decide +kernel, rfl⟩
theorem a0_445 : AtI code 445 (.iconst 0) 1 446 := ⟨by decide +kernel, rfl⟩
theorem a0_446 : AtI code 446 (.iaload) 1 447 := ⟨by decide +kernel, rfl⟩
theorem a0_447 : AtI code 447 (.invokestatic 36) 3 450 := ⟨by decide +kernel, rfl⟩
theorem a0_450 : AtI code 450 (.invokevirtual 40) 3 453 := ⟨by decide +kernel, rfl⟩
theorem a0_453 : AtI code 453 (.aload 17) 2 455 := ⟨by decide +kernel, rfl⟩
theorem a0_455 : AtI code 455 (.lload 11) 2 457 := ⟨by decide +kernel, rfl⟩
theorem a0_457 : AtI code 457 (.lload 9) 2 459 := ⟨by decide +kernel, rfl⟩
theorem a0_459 : AtI code 459 (.aload 6) 2 461 := ⟨by decide +kernel, rfl⟩
theorem a0_461 : AtI code 461 (.iconst 1) 1 462 := ⟨by decide +kernel, rfl⟩
theorem a0_462 : AtI code 462 (.iaload) 1 463 := ⟨by decide +kernel, rfl⟩
theorem a0_463 : AtI code 463 (.invokestatic 36) 3 466 := ⟨by decide +kernel, rfl⟩
theorem a0_466 : AtI code 466 (.lload 11) 2 468 := ⟨by decide +kernel, rfl⟩
theorem a0_468 : AtI code 468 (.lload 9) 2 470 := ⟨by decide +kernel, rfl⟩
theorem a0_470 : AtI code 470 (.aload 7) 2 472 := ⟨by decide +kernel, rfl⟩
theorem a0_472 : AtI code 472 (.iconst 1) 1 473 := ⟨by decide +kernel, rfl⟩
theorem a0_473 : AtI code 473 (.iaload) 1 474 := ⟨by decide +kernel, rfl⟩
theorem a0_474 : AtI code 474 (.invokestatic 36) 3 477 := ⟨by decide +kernel, rfl⟩
theorem a0_477 : AtI code 477 (.lload 11) 2 479 := ⟨by decide +kernel, rfl⟩
theorem a0_479 : AtI code 479 (.lload 9) 2 481 := ⟨by decide +kernel, rfl⟩
theorem a0_481 : AtI code 481 (.aload 8) 2 483 := ⟨by decide +kernel, rfl⟩
theorem a0_483 : AtI code 483 (.iconst 1) 1 484 := ⟨by decide +kernel, rfl⟩
theorem a0_484 : AtI code 484 (.iaload) 1 485 := ⟨by decide +kernel, rfl⟩
theorem a0_485 : AtI code 485 (.invokestatic 36) 3 488 := ⟨by decide +kernel, rfl⟩
theorem a0_488 : AtI code 488 (.invokevirtual 40) 3 491 := ⟨by decide +kernel, rfl⟩
theorem a0_491 : AtI code 491 (.aload 17) 2 493 := ⟨by decide +kernel, rfl⟩
theorem a0_493 : AtI code 493 (.invokevirtual 44) 3 496 := ⟨by decide +kernel, rfl⟩
theorem a0_496 : AtI code 496 (.iload 13) 2 498 := ⟨by decide +kernel, rfl⟩
theorem a0_498 : AtI code 498 (.i2l) 1 499 := ⟨by decide +kernel, rfl⟩
theorem a0_499 : AtI code 499 (.lcmp) 1 500 := ⟨by decide +kernel, rfl⟩
theorem a0_500 : AtJ code 500 (.ifCond .ne) 503 507 := ⟨7, by decide +kernel, rfl, by decide, rfl⟩
theorem a0_503 : AtI code 503 (.iconst 1) 1 504 := ⟨by decide +kernel, rfl⟩
theorem a0_504 : AtJ code 504 (.goto) 507 508 := ⟨4, by decide +kernel, rfl, by decide, rfl⟩
theorem a0_507 : AtI code 507 (.iconst 0) 1 508 := ⟨by decide +kernel, rfl⟩
theorem a0_508 : AtI code 508 (.istore 18) 2 510 := ⟨by decide +kernel, rfl⟩
theorem a0_510 : AtI code 510 (.aload 17) 2 512 := ⟨by decide +kernel, rfl⟩
theorem a0_512 : AtI code 512 (.lload 11) 2 514 := ⟨by decide +kernel, rfl⟩
theorem a0_514 : AtI code 514 (.lload 9) 2 516 := ⟨by decide +kernel, rfl⟩
theorem a0_516 : AtI code 516 (.aload 6) 2 518 := ⟨by decide +kernel, rfl⟩
theorem a0_518 : AtI code 518 (.iconst 2) 1 519 := ⟨by decide +kernel, rfl⟩
theorem a0_519 : AtI code 519 (.iaload) 1 520 := ⟨by decide +kernel, rfl⟩
theorem a0_520 : AtI code 520 (.invokestatic 36) 3 523 := ⟨by decide +kernel, rfl⟩
theorem a0_523 : AtI code 523 (.lload 11) 2 525 := ⟨by decide +kernel, rfl⟩
theorem a0_525 : AtI code 525 (.lload 9) 2 527 := ⟨by decide +kernel, rfl⟩
theorem a0_527 : AtI code 527 (.aload 7) 2 529 := ⟨by decide +kernel, rfl⟩
theorem a0_529 : AtI code 529 (.iconst 2) 1 530 := ⟨by decide +kernel, rfl⟩
theorem a0_530 : AtI code 530 (.iaload) 1 531 := ⟨by decide +kernel, rfl⟩
theorem a0_531 : AtI code 531 (.invokestatic 36) 3 534 := ⟨by decide +kernel, rfl⟩
theorem a0_534 : AtI code 534 (.lload 11) 2 536 := ⟨by decide +kernel, rfl⟩
theorem a0_536 : AtI code 536 (.lload 9) 2 538 := ⟨by decide +kernel, rfl⟩
theorem a0_538 : AtI code 538 (.aload 8) 2 540 := ⟨by decide +kernel, rfl⟩
theorem a0_540 : AtI code 540 (.iconst 2) 1 541 := ⟨by decide +kernel, rfl⟩
theorem a0_541 : AtI code 541 (.iaload) 1 542 := ⟨by decide +kernel, rfl⟩
theorem a0_542 : AtI code 542 (.invokestatic 36) 3 545 := ⟨by decide +kernel, rfl⟩
theorem a0_545 : AtI code 545 (.invokevirtual 40) 3 548 := ⟨by decide +kernel, rfl⟩
theorem a0_548 : AtI code 548 (.iload 18) 2 550 := ⟨by decide +kernel, rfl⟩
theorem a0_550 : AtJ code 550 (.ifCond .eq) 553 569 := ⟨19, by decide +kernel, rfl, by decide, rfl⟩
theorem a0_553 : AtI code 553 (.aload 17) 2 555 := ⟨by decide +kernel, rfl⟩
theorem a0_555 : AtI code 555 (.invokevirtual 44) 3 558 := ⟨by decide +kernel, rfl⟩
theorem a0_558 : AtI code 558 (.iload 14) 2 560 := ⟨by decide +kernel, rfl⟩
theorem a0_560 : AtI code 560 (.i2l) 1 561 := ⟨by decide +kernel, rfl⟩
theorem a0_561 : AtI code 561 (.lcmp) 1 562 := ⟨by decide +kernel, rfl⟩
theorem a0_562 : AtJ code 562 (.ifCond .ne) 565 569 := ⟨7, by decide +kernel, rfl, by decide, rfl⟩
theorem a0_565 : AtI code 565 (.iconst 1) 1 566 := ⟨by decide +kernel, rfl⟩
theorem a0_566 : AtJ code 566 (.goto) 569 570 := ⟨4, by decide +kernel, rfl, by decide, rfl⟩
theorem a0_569 : AtI code 569 (.iconst 0) 1 570 := ⟨by decide +kernel, rfl⟩
theorem a0_570 : AtI code 570 (.istore 18) 2 572 := ⟨by decide +kernel, rfl⟩
theorem a0_572 : AtI code 572 (.aload 17) 2 574 := ⟨by decide +kernel, rfl⟩
theorem a0_574 : AtI code 574 (.lload 11) 2 576 := ⟨by decide +kernel, rfl⟩
theorem a0_576 : AtI code 576 (.lload 9) 2 578 := ⟨by decide +kernel, rfl⟩
theorem a0_578 : AtI code 578 (.aload 6) 2 580 := ⟨by decide +kernel, rfl⟩
theorem a0_580 : AtI code 580 (.iconst 3) 1 581 := ⟨by decide +kernel, rfl⟩
theorem a0_581 : AtI code 581 (.iaload) 1 582 := ⟨by decide +kernel, rfl⟩
theorem a0_582 : AtI code 582 (.invokestatic 36) 3 585 := ⟨by decide +kernel, rfl⟩
theorem a0_585 : AtI code 585 (.lload 11) 2 587 := ⟨by decide +kernel, rfl⟩
theorem a0_587 : AtI code 587 (.lload 9) 2 589 := ⟨by decide +kernel, rfl⟩
theorem a0_589 : AtI code 589 (.aload 7) 2 591 := ⟨by decide +kernel, rfl⟩
theorem a0_591 : AtI code 591 (.iconst 3) 1 592 := ⟨by decide +kernel, rfl⟩
theorem a0_592 : AtI code 592 (.iaload) 1 593 := ⟨by decide +kernel, rfl⟩
theorem a0_593 : AtI code 593 (.invokestatic 36) 3 596 := ⟨by decide +kernel, rfl⟩
theorem a0_596 : AtI code 596 (.lload 11) 2 598 := ⟨by decide +kernel, rfl⟩
theorem a0_598 : AtI code 598 (.lload 9) 2 600 := ⟨by decide +kernel, rfl⟩
theorem a0_600 : AtI code 600 (.aload 8) 2 602 := ⟨by decide +kernel, rfl⟩
theorem a0_602 : AtI code 602 (.iconst 3) 1 603 := ⟨by decide +kernel, rfl⟩
theorem a0_603 : AtI code 603 (.iaload) 1 604 := ⟨by decide +kernel, rfl⟩
theorem a0_604 : AtI code 604 (.invokestatic 36) 3 607 := ⟨by decide +kernel, rfl⟩
theorem a0_607 : AtI code 607 (.invokevirtual 40) 3 610 := ⟨by decide +kernel, rfl⟩
theorem a0_610 : AtI code 610 (.iload 18) 2 612 := ⟨by decide +kernel, rfl⟩
theorem a0_612 : AtJ code 612 (.ifCond .eq) 615 631 := ⟨19, by decide +kernel, rfl, by decide, rfl⟩
theorem a0_615 : AtI code 615 (.aload 17) 2 617 := ⟨by decide +kernel, rfl⟩
theorem a0_617 : AtI code 617 (.invokevirtual 44) 3 620 := ⟨by decide +kernel, rfl⟩
theorem a0_620 : AtI code 620 (.iload 15) 2 622 := ⟨by decide +kernel, rfl⟩
theorem a0_622 : AtI code 622 (.i2l) 1 623 := ⟨by decide +kernel, rfl⟩
theorem a0_623 : AtI code 623 (.lcmp) 1 624 := ⟨by decide +kernel, rfl⟩
theorem a0_624 : AtJ code 624 (.ifCond .ne) 627 631 := ⟨7, by decide +kernel, rfl, by decide, rfl⟩
theorem a0_627 : AtI code 627 (.iconst 1) 1 628 := ⟨by decide +kernel, rfl⟩
theorem a0_628 : AtJ code 628 (.goto) 631 632 := ⟨4, by decide +kernel, rfl, by decide, rfl⟩
theorem a0_631 : AtI code 631 (.iconst 0) 1 632 := ⟨by decide +kernel, rfl⟩
theorem a0_632 : AtI code 632 (.istore 18) 2 634 := ⟨by decide +kernel, rfl⟩
theorem a0_634 : AtI code 634 (.aload 17) 2 636 := ⟨by decide +kernel, rfl⟩
theorem a0_636 : AtI code 636 (.lload 11) 2 638 := ⟨by decide +kernel, rfl⟩
theorem a0_638 : AtI code 638 (.lload 9) 2 640 := ⟨by decide +kernel, rfl⟩
theorem a0_640 : AtI code 640 (.aload 6) 2 642 := ⟨by decide +kernel, rfl⟩
theorem a0_642 : AtI code 642 (.iconst 4) 1 643 := ⟨by decide +kernel, rfl⟩
theorem a0_643 : AtI code 643 (.iaload) 1 644 := ⟨by decide +kernel, rfl⟩
theorem a0_644 : AtI code 644 (.invokestatic 36) 3 647 := ⟨by decide +kernel, rfl⟩
theorem a0_647 : AtI code 647 (.lload 11) 2 649 := ⟨by decide +kernel, rfl⟩
theorem a0_649 : AtI code 649 (.lload 9) 2 651 := ⟨by decide +kernel, rfl⟩
theorem a0_651 : AtI code 651 (.aload 7) 2 653 := ⟨by decide +kernel, rfl⟩
theorem a0_653 : AtI code 653 (.iconst 4) 1 654 := ⟨by decide +kernel, rfl⟩
theorem a0_654 : AtI code 654 (.iaload) 1 655 := ⟨by decide +kernel, rfl⟩
theorem a0_655 : AtI code 655 (.invokestatic 36) 3 658 := ⟨by decide +kernel, rfl⟩
theorem a0_658 : AtI code 658 (.lload 11) 2 660 := ⟨by decide +kernel, rfl⟩
theorem a0_660 : AtI code 660 (.lload 9) 2 662 := ⟨by decide +kernel, rfl⟩
theorem a0_662 : AtI code 662 (.aload 8) 2 664 := ⟨by decide +kernel, rfl⟩
theorem a0_664 : AtI code 664 (.iconst 4) 1 665 := ⟨by decide +kernel, rfl⟩
theorem a0_665 : AtI code 665 (.iaload) 1 666 := ⟨by decide +kernel, rfl⟩
theorem a0_666 : AtI code 666 (.invokestatic 36) 3 669 := ⟨by decide +kernel, rfl⟩
theorem a0_669 : AtI code 669 (.invokevirtual 40) 3 672 := ⟨by decide +kernel, rfl⟩
theorem a0_672 : AtI code 672 (.iload 18) 2 674 := ⟨by decide +kernel, rfl⟩
theorem a0_674 : AtJ code 674 (.ifCond .eq) 677 693 := ⟨19, by decide +kernel, rfl, by decide, rfl⟩
theorem a0_677 : AtI code 677 (.aload 17) 2 679 := ⟨by decide +kernel, rfl⟩
theorem a0_679 : AtI code 679 (.invokevirtual 44) 3 682 := ⟨by decide +kernel, rfl⟩
theorem a0_682 : AtI code 682 (.iload 16) 2 684 := ⟨by decide +kernel, rfl⟩
theorem a0_684 : AtI code 684 (.i2l) 1 685 := ⟨by decide +kernel, rfl⟩
theorem a0_685 : AtI code 685 (.lcmp) 1 686 := ⟨by decide +kernel, rfl⟩
theorem a0_686 : AtJ code 686 (.ifCond .ne) 689 693 := ⟨7, by decide +kernel, rfl, by decide, rfl⟩
theorem a0_689 : AtI code 689 (.iconst 1) 1 690 := ⟨by decide +kernel, rfl⟩
theorem a0_690 : AtJ code 690 (.goto) 693 694 := ⟨4, by decide +kernel, rfl, by decide, rfl⟩
theorem a0_693 : AtI code 693 (.iconst 0) 1 694 := ⟨by decide +kernel, rfl⟩
theorem a0_694 : AtI code 694 (.istore 18) 2 696 := ⟨by decide +kernel, rfl⟩
theorem a0_696 : AtI code 696 (.iload 18) 2 698 := ⟨by decide +kernel, rfl⟩
theorem a0_698 : AtI code 698 (.ireturn) 1 699 := ⟨by decide +kernel, rfl⟩
set_option maxHeartbeats 4000000 in
theorem addloop {Z : State} {a0 : Array Value} (hw : ∀ d ∈ tables_1, d.before a0 Z = true) (ρ : Nat → Nat) (n0 : Nat) (Q : Option Value → WHp → Nat → Prop) (o0 o1 o2 : WObj) (b e n : Int64) (cap k : Nat) (hk : k ≤ cap) (hc8 : cap ≤ 8) (u : Nat) : ∀ (R P : List Pr) (EN NT : List Int64) (c : Int64), EN.length = cap → NT.length = cap → P.length + R.length = k → Hold EN NT 0 (fil b P) → Hold EN NT P.length R →
    (∀ EN' NT' : List Int64, EN'.length = cap → NT'.length = cap → Hold EN' NT' 0 (fil b (P ++ R)) → WGo (g7 Z ρ n0 6 u) (164, [wR 3, wJ b, wS, wJ e, wS, wJ n, wS, wI (Int32.ofNat (fil b (P ++ R)).length), wI (Int32.ofNat k)], [], [o0, o1, o2, (.inr (cn0, [(fk0, .ref 4), (fk1, .ref 5), (fk2, (.long b)), (fk3, (.int (Int32.ofNat k))), (fk4, (.long (c + cn b n R)))])), (wAJ (ja EN')), (wAJ (ja NT'))], u) Q) →
    WGo (g7 Z ρ n0 6 u) (68, [wR 3, wJ b, wS, wJ e, wS, wJ n, wS, wI (Int32.ofNat (fil b P).length), wI (Int32.ofNat P.length)], [], [o0, o1, o2, (.inr (cn0, [(fk0, .ref 4), (fk1, .ref 5), (fk2, (.long b)), (fk3, (.int (Int32.ofNat k))), (fk4, (.long c))])), (wAJ (ja EN)), (wAJ (ja NT))], u) Q := by
  intro R
  induction R with
  | nil =>
    intro P EN NT c h1 h2 h3 h4 h5 exit
    have e3 : P.length = k := by simpa using h3
    have ex := exit EN NT h1 h2 (by simpa using h4)
    rw [List.append_nil, cn_nil, Int64.add_zero] at ex
    refine .s (.iload a7_68 rfl) <| .s (.aloadN a7_70 rfl rfl) <| .s (.getF 3 a7_71 (wd hw 41 rfl) rfl rfl) <| .s (.icmpT a7_74 (flt (by rw [e3]; exact Int32.lt_irrefl)).2.1) ?_
    rw [e3]
    exact ex
  | cons x R ih =>
    intro P EN NT c h1 h2 h3 h4 h5 exit
    have hl : P.length + (R.length + 1) = k := by simpa using h3
    have hfl := fil_len b P
    have hx := Hold.head h5
    have e2 : (P ++ [x]).length = P.length + 1 := by simp
    have ea : P ++ [x] ++ R = P ++ x :: R := by simp
    have hi := ofNat_idx (s := P.length) (by omega)
    have hat := ofNat_idx (s := (fil b P).length) (by omega)
    refine .s (.iload a7_68 rfl) <| .s (.aloadN a7_70 rfl rfl) <| .s (.getF 3 a7_71 (wd hw 41 rfl) rfl rfl) <| .s (.icmpF a7_74 (tlt ((ofNat_lt (by omega) (by omega)).mpr (by omega))).2.1) <| .s (.aloadN a7_77 rfl rfl) <| .s (.getF 1 a7_78 (wd hw 28 rfl) rfl rfl) <| .s (.iload a7_81 rfl) ?_
    refine .s (.laload (P.length) (v := (.long x.2)) a7_83 rfl hi.1 hi.2 (ja_get hx.2)) <| .s (.lloadN a7_84 rfl) <| .s (.lcmp a7_85) ?_
    refine .gtL a7_86 (fun h86 => ?_) (fun h86 => ?_)
    · refine .s (.aloadN a7_92 rfl rfl) <| .s (.getF 0 a7_93 (wd hw 26 rfl) rfl rfl) <| .s (.iload a7_96 rfl) <| .s (.laload (P.length) (v := (.long x.1)) a7_98 rfl hi.1 hi.2 (ja_get hx.1)) <| .s (.lloadN a7_99 rfl) <| .s (.lcmp a7_100) ?_
      refine .geL a7_101 (fun h101 => ?_) (fun h101 => ?_)
      · refine .s (.aloadN a7_127 rfl rfl) <| .s (.getF 0 a7_128 (wd hw 26 rfl) rfl rfl) <| .s (.iload a7_131 rfl) <| .s (.aloadN a7_133 rfl rfl) <| .s (.getF 0 a7_134 (wd hw 26 rfl) rfl rfl) <| .s (.iload a7_137 rfl) <| .s (.laload (P.length) (v := (.long x.1)) a7_139 rfl hi.1 hi.2 (ja_get hx.1)) ?_
        refine .s (.lastore ((fil b P).length) a7_140 rfl hat.1 hat.2 (by rw [ja_len]; omega)) ?_
        rw [ja_set]
        show WGo _ (141, [wR 3, wJ b, wS, wJ e, wS, wJ n, wS, wI (Int32.ofNat (fil b P).length), wI (Int32.ofNat P.length)], [], [o0, o1, o2, (.inr (cn0, [(fk0, .ref 4), (fk1, .ref 5), (fk2, (.long b)), (fk3, (.int (Int32.ofNat k))), (fk4, (.long c))])), (wAJ (ja (EN.set (fil b P).length x.1))), (wAJ (ja NT))], u) _
        refine .s (.aloadN a7_141 rfl rfl) <| .s (.getF 1 a7_142 (wd hw 28 rfl) rfl rfl) <| .s (.iload a7_145 rfl) <| .s (.iinc (L' := [wR 3, wJ b, wS, wJ e, wS, wJ n, wS, wI ((Int32.ofNat (fil b P).length) + (1 : Int32)), wI (Int32.ofNat P.length)]) a7_147 rfl rfl) <| .s (.aloadN a7_150 rfl rfl) <| .s (.getF 1 a7_151 (wd hw 28 rfl) rfl rfl) <| .s (.iload a7_154 rfl) ?_
        refine .s (.laload (P.length) (v := (.long x.2)) a7_156 rfl hi.1 hi.2 (ja_get hx.2)) <| .s (.lastore ((fil b P).length) a7_157 rfl hat.1 hat.2 (by rw [ja_len]; omega)) ?_
        rw [ja_set]
        show WGo _ (158, [wR 3, wJ b, wS, wJ e, wS, wJ n, wS, wI ((Int32.ofNat (fil b P).length) + (1 : Int32)), wI (Int32.ofNat P.length)], [], [o0, o1, o2, (.inr (cn0, [(fk0, .ref 4), (fk1, .ref 5), (fk2, (.long b)), (fk3, (.int (Int32.ofNat k))), (fk4, (.long c))])), (wAJ (ja (EN.set (fil b P).length x.1))), (wAJ (ja (NT.set (fil b P).length x.2)))], u) _
        refine .s (.iinc (L' := [wR 3, wJ b, wS, wJ e, wS, wJ n, wS, wI ((Int32.ofNat (fil b P).length) + (1 : Int32)), wI ((Int32.ofNat P.length) + (1 : Int32))]) a7_158 rfl rfl) <| .s (.goto a7_161) ?_
        have ec : c + cn b n R = c + cn b n (x :: R) := by
          rw [cn_cons, if_neg (fun q => h101 q.2.1), Int64.zero_add]
        have e1 : (fil b (P ++ [x])).length = (fil b P).length + 1 := by rw [fil_yes h86]; simp
        have ih' := ih (P ++ [x]) (EN.set (fil b P).length x.1) (NT.set (fil b P).length x.2) c (by simpa using h1) (by simpa using h2) (by rw [e2]; omega) (by rw [fil_yes h86]; exact Hold.snoc h4 (by omega) (by omega)) (by rw [e2]; exact (Hold.tail h5).set_lo (by omega)) (fun EN' NT' l1 l2 hh => by rw [ea, ec]; exact exit EN' NT' l1 l2 (by rw [← ea]; exact hh))
        rw [ofNat_succ (by omega), ofNat_succ (by omega), ← e1, ← e2]
        exact ih'
      · refine .s (.lload a7_104 rfl) <| .s (.aloadN a7_106 rfl rfl) <| .s (.getF 1 a7_107 (wd hw 28 rfl) rfl rfl) <| .s (.iload a7_110 rfl) <| .s (.laload (P.length) (v := (.long x.2)) a7_112 rfl hi.1 hi.2 (ja_get hx.2)) <| .s (.lcmp a7_113) ?_
        refine .geL a7_114 (fun h114 => ?_) (fun h114 => ?_)
        · refine .s (.aloadN a7_127 rfl rfl) <| .s (.getF 0 a7_128 (wd hw 26 rfl) rfl rfl) <| .s (.iload a7_131 rfl) <| .s (.aloadN a7_133 rfl rfl) <| .s (.getF 0 a7_134 (wd hw 26 rfl) rfl rfl) <| .s (.iload a7_137 rfl) <| .s (.laload (P.length) (v := (.long x.1)) a7_139 rfl hi.1 hi.2 (ja_get hx.1)) ?_
          refine .s (.lastore ((fil b P).length) a7_140 rfl hat.1 hat.2 (by rw [ja_len]; omega)) ?_
          rw [ja_set]
          show WGo _ (141, [wR 3, wJ b, wS, wJ e, wS, wJ n, wS, wI (Int32.ofNat (fil b P).length), wI (Int32.ofNat P.length)], [], [o0, o1, o2, (.inr (cn0, [(fk0, .ref 4), (fk1, .ref 5), (fk2, (.long b)), (fk3, (.int (Int32.ofNat k))), (fk4, (.long c))])), (wAJ (ja (EN.set (fil b P).length x.1))), (wAJ (ja NT))], u) _
          refine .s (.aloadN a7_141 rfl rfl) <| .s (.getF 1 a7_142 (wd hw 28 rfl) rfl rfl) <| .s (.iload a7_145 rfl) <| .s (.iinc (L' := [wR 3, wJ b, wS, wJ e, wS, wJ n, wS, wI ((Int32.ofNat (fil b P).length) + (1 : Int32)), wI (Int32.ofNat P.length)]) a7_147 rfl rfl) <| .s (.aloadN a7_150 rfl rfl) <| .s (.getF 1 a7_151 (wd hw 28 rfl) rfl rfl) <| .s (.iload a7_154 rfl) ?_
          refine .s (.laload (P.length) (v := (.long x.2)) a7_156 rfl hi.1 hi.2 (ja_get hx.2)) <| .s (.lastore ((fil b P).length) a7_157 rfl hat.1 hat.2 (by rw [ja_len]; omega)) ?_
          rw [ja_set]
          show WGo _ (158, [wR 3, wJ b, wS, wJ e, wS, wJ n, wS, wI ((Int32.ofNat (fil b P).length) + (1 : Int32)), wI (Int32.ofNat P.length)], [], [o0, o1, o2, (.inr (cn0, [(fk0, .ref 4), (fk1, .ref 5), (fk2, (.long b)), (fk3, (.int (Int32.ofNat k))), (fk4, (.long c))])), (wAJ (ja (EN.set (fil b P).length x.1))), (wAJ (ja (NT.set (fil b P).length x.2)))], u) _
          refine .s (.iinc (L' := [wR 3, wJ b, wS, wJ e, wS, wJ n, wS, wI ((Int32.ofNat (fil b P).length) + (1 : Int32)), wI ((Int32.ofNat P.length) + (1 : Int32))]) a7_158 rfl rfl) <| .s (.goto a7_161) ?_
          have ec : c + cn b n R = c + cn b n (x :: R) := by
            rw [cn_cons, if_neg (fun q => h114 q.2.2), Int64.zero_add]
          have e1 : (fil b (P ++ [x])).length = (fil b P).length + 1 := by rw [fil_yes h86]; simp
          have ih' := ih (P ++ [x]) (EN.set (fil b P).length x.1) (NT.set (fil b P).length x.2) c (by simpa using h1) (by simpa using h2) (by rw [e2]; omega) (by rw [fil_yes h86]; exact Hold.snoc h4 (by omega) (by omega)) (by rw [e2]; exact (Hold.tail h5).set_lo (by omega)) (fun EN' NT' l1 l2 hh => by rw [ea, ec]; exact exit EN' NT' l1 l2 (by rw [← ea]; exact hh))
          rw [ofNat_succ (by omega), ofNat_succ (by omega), ← e1, ← e2]
          exact ih'
        · refine .s (.aloadN a7_117 rfl rfl) <| .s (.dup a7_118 rfl) <| .s (.getF 4 a7_119 (wd hw 48 rfl) rfl rfl) <| .s (.lconst (1 : Int64) a7_122 rfl) <| .s (.ladd a7_123) <| .s (.putF (ty := .long) 4 ((.long (c + (1 : Int64)))) a7_124 (wd hw 48 rfl) rfl rfl (Or.inl (wd hw 49 rfl)) (wd hw 17 rfl) (by decide) rfl rfl) ?_
          show WGo _ (127, [wR 3, wJ b, wS, wJ e, wS, wJ n, wS, wI (Int32.ofNat (fil b P).length), wI (Int32.ofNat P.length)], [], [o0, o1, o2, (.inr (cn0, [(fk0, .ref 4), (fk1, .ref 5), (fk2, (.long b)), (fk3, (.int (Int32.ofNat k))), (fk4, (.long (c + (1 : Int64))))])), (wAJ (ja EN)), (wAJ (ja NT))], u) _
          refine .s (.aloadN a7_127 rfl rfl) <| .s (.getF 0 a7_128 (wd hw 26 rfl) rfl rfl) <| .s (.iload a7_131 rfl) <| .s (.aloadN a7_133 rfl rfl) <| .s (.getF 0 a7_134 (wd hw 26 rfl) rfl rfl) <| .s (.iload a7_137 rfl) <| .s (.laload (P.length) (v := (.long x.1)) a7_139 rfl hi.1 hi.2 (ja_get hx.1)) ?_
          refine .s (.lastore ((fil b P).length) a7_140 rfl hat.1 hat.2 (by rw [ja_len]; omega)) ?_
          rw [ja_set]
          show WGo _ (141, [wR 3, wJ b, wS, wJ e, wS, wJ n, wS, wI (Int32.ofNat (fil b P).length), wI (Int32.ofNat P.length)], [], [o0, o1, o2, (.inr (cn0, [(fk0, .ref 4), (fk1, .ref 5), (fk2, (.long b)), (fk3, (.int (Int32.ofNat k))), (fk4, (.long (c + (1 : Int64))))])), (wAJ (ja (EN.set (fil b P).length x.1))), (wAJ (ja NT))], u) _
          refine .s (.aloadN a7_141 rfl rfl) <| .s (.getF 1 a7_142 (wd hw 28 rfl) rfl rfl) <| .s (.iload a7_145 rfl) <| .s (.iinc (L' := [wR 3, wJ b, wS, wJ e, wS, wJ n, wS, wI ((Int32.ofNat (fil b P).length) + (1 : Int32)), wI (Int32.ofNat P.length)]) a7_147 rfl rfl) <| .s (.aloadN a7_150 rfl rfl) <| .s (.getF 1 a7_151 (wd hw 28 rfl) rfl rfl) <| .s (.iload a7_154 rfl) ?_
          refine .s (.laload (P.length) (v := (.long x.2)) a7_156 rfl hi.1 hi.2 (ja_get hx.2)) <| .s (.lastore ((fil b P).length) a7_157 rfl hat.1 hat.2 (by rw [ja_len]; omega)) ?_
          rw [ja_set]
          show WGo _ (158, [wR 3, wJ b, wS, wJ e, wS, wJ n, wS, wI ((Int32.ofNat (fil b P).length) + (1 : Int32)), wI (Int32.ofNat P.length)], [], [o0, o1, o2, (.inr (cn0, [(fk0, .ref 4), (fk1, .ref 5), (fk2, (.long b)), (fk3, (.int (Int32.ofNat k))), (fk4, (.long (c + (1 : Int64))))])), (wAJ (ja (EN.set (fil b P).length x.1))), (wAJ (ja (NT.set (fil b P).length x.2)))], u) _
          refine .s (.iinc (L' := [wR 3, wJ b, wS, wJ e, wS, wJ n, wS, wI ((Int32.ofNat (fil b P).length) + (1 : Int32)), wI ((Int32.ofNat P.length) + (1 : Int32))]) a7_158 rfl rfl) <| .s (.goto a7_161) ?_
          have ec : (c + (1 : Int64)) + cn b n R = c + cn b n (x :: R) := by
            rw [cn_cons, if_pos ⟨h86, h101, h114⟩, ← Int64.add_assoc]
          have e1 : (fil b (P ++ [x])).length = (fil b P).length + 1 := by rw [fil_yes h86]; simp
          have ih' := ih (P ++ [x]) (EN.set (fil b P).length x.1) (NT.set (fil b P).length x.2) (c + (1 : Int64)) (by simpa using h1) (by simpa using h2) (by rw [e2]; omega) (by rw [fil_yes h86]; exact Hold.snoc h4 (by omega) (by omega)) (by rw [e2]; exact (Hold.tail h5).set_lo (by omega)) (fun EN' NT' l1 l2 hh => by rw [ea, ec]; exact exit EN' NT' l1 l2 (by rw [← ea]; exact hh))
          rw [ofNat_succ (by omega), ofNat_succ (by omega), ← e1, ← e2]
          exact ih'
    · refine .s (.goto a7_89) <| .s (.iinc (L' := [wR 3, wJ b, wS, wJ e, wS, wJ n, wS, wI (Int32.ofNat (fil b P).length), wI ((Int32.ofNat P.length) + (1 : Int32))]) a7_158 rfl rfl) <| .s (.goto a7_161) ?_
      have ec : c + cn b n R = c + cn b n (x :: R) := by
        rw [cn_cons, if_neg (fun q => h86 q.1), Int64.zero_add]
      have e1 : fil b (P ++ [x]) = fil b P := fil_no h86
      have ih' := ih (P ++ [x]) EN NT c h1 h2 (by rw [e2]; omega) (by rw [e1]; exact h4) (by rw [e2]; exact Hold.tail h5) (fun EN' NT' l1 l2 hh => by rw [ea, ec]; exact exit EN' NT' l1 l2 (by rw [← ea]; exact hh))
      rw [e1] at ih'
      rw [ofNat_succ (by omega), ← e2]
      exact ih'
set_option maxHeartbeats 4000000 in
theorem cadd {Z : State} {a0 : Array Value} (hw : ∀ d ∈ tables_1, d.before a0 Z = true) (ρ : Nat → Nat) (n0 : Nat) (o0 o1 o2 : WObj) (b e n last c : Int64) (K : List Pr) (EN NT : List Int64) (he : ¬ e < b) (hn : ¬ n < e) (hb : ¬ b < last) (hE : EN.length = 4) (hN : NT.length = 4) (hold : Hold EN NT 0 K) (hK : K.length ≤ 3) (u : Nat) : WGo (g7 Z ρ n0 6 u) (0, [wR 3, wJ b, wS, wJ e, wS, wJ n, wS, wU, wU], [], [o0, o1, o2, (.inr (cn0, [(fk0, .ref 4), (fk1, .ref 5), (fk2, (.long last)), (fk3, (.int (Int32.ofNat K.length))), (fk4, (.long c))])), (wAJ (ja EN)), (wAJ (ja NT))], u) (fun v σ' u' => ∃ EN' NT' : List Int64, EN'.length = 4 ∧ NT'.length = 4 ∧ Hold EN' NT' 0 (fil b K ++ [(e, n)]) ∧ v = none ∧ [o0, o1, o2, (.inr (cn0, [(fk0, .ref 4), (fk1, .ref 5), (fk2, (.long b)), (fk3, (.int (Int32.ofNat (fil b K ++ [(e, n)]).length))), (fk4, (.long (c + cn b n K)))])), (wAJ (ja EN')), (wAJ (ja NT'))] = σ' ∧ u = u') := by
  have hfl := fil_len b K
  have hat := ofNat_idx (s := (fil b K).length) (by omega)
  have hF4 : ¬ Int32.ofNat (fil b K).length = 4 := fun q => by
    have q2 := congrArg Int32.toInt q
    rw [Int32.toInt_ofNat_small (by omega)] at q2
    have e4 : (4 : Int32).toInt = 4 := rfl
    omega
  refine .s (.lloadN a7_0 rfl) <| .s (.lloadN a7_1 rfl) <| .s (.lcmp a7_2) <| .s (.ifF a7_3 (flt (fun q => he ((lw_lt _ _).mp q))).1) <| .s (.lload a7_6 rfl) <| .s (.lloadN a7_8 rfl) <| .s (.lcmp a7_9) ?_
  refine .s (.ifT a7_10 (flt (fun q => hn ((lw_lt _ _).mp q))).2.1) <| .s (.lloadN a7_30 rfl) <| .s (.aloadN a7_31 rfl rfl) <| .s (.getF 2 a7_32 (wd hw 31 rfl) rfl rfl) <| .s (.lcmp a7_35) <| .s (.ifT a7_36 (flt (fun q => hb ((lw_lt _ _).mp q))).2.1) <| .s (.aloadN a7_57 rfl rfl) ?_
  refine .s (.lloadN a7_58 rfl) <| .s (.putF (ty := .long) 2 ((.long b)) a7_59 (wd hw 31 rfl) rfl rfl (Or.inl (wd hw 32 rfl)) (wd hw 17 rfl) (by decide) rfl rfl) ?_
  show WGo _ (62, [wR 3, wJ b, wS, wJ e, wS, wJ n, wS, wU, wU], [], [o0, o1, o2, (.inr (cn0, [(fk0, .ref 4), (fk1, .ref 5), (fk2, (.long b)), (fk3, (.int (Int32.ofNat K.length))), (fk4, (.long c))])), (wAJ (ja EN)), (wAJ (ja NT))], u) _
  refine .s (.iconst (0 : Int32) a7_62 rfl) <| .s (.istore (L' := [wR 3, wJ b, wS, wJ e, wS, wJ n, wS, wI 0, wU]) a7_63 rfl) <| .s (.iconst (0 : Int32) a7_65 rfl) <| .s (.istore (L' := [wR 3, wJ b, wS, wJ e, wS, wJ n, wS, wI 0, wI 0]) a7_66 rfl) ?_
  refine addloop hw ρ n0 _ o0 o1 o2 b e n 4 K.length (by omega) (by decide) u K [] EN NT c hE hN (by simp) (Hold.nil _ _ _) hold ?_
  intro EN' NT' l1 l2 hh
  show WGo _ (164, [wR 3, wJ b, wS, wJ e, wS, wJ n, wS, wI (Int32.ofNat (fil b K).length), wI (Int32.ofNat K.length)], [], [o0, o1, o2, (.inr (cn0, [(fk0, .ref 4), (fk1, .ref 5), (fk2, (.long b)), (fk3, (.int (Int32.ofNat K.length))), (fk4, (.long (c + cn b n K)))])), (wAJ (ja EN')), (wAJ (ja NT'))], u) _
  refine .s (.aloadN a7_164 rfl rfl) <| .s (.iload a7_165 rfl) <| .s (.putF (ty := .int) 3 ((.int (Int32.ofNat (fil b K).length))) a7_167 (wd hw 41 rfl) rfl rfl (Or.inl (wd hw 42 rfl)) (wd hw 17 rfl) (by decide) rfl rfl) ?_
  show WGo _ (170, [wR 3, wJ b, wS, wJ e, wS, wJ n, wS, wI (Int32.ofNat (fil b K).length), wI (Int32.ofNat K.length)], [], [o0, o1, o2, (.inr (cn0, [(fk0, .ref 4), (fk1, .ref 5), (fk2, (.long b)), (fk3, (.int (Int32.ofNat (fil b K).length))), (fk4, (.long (c + cn b n K)))])), (wAJ (ja EN')), (wAJ (ja NT'))], u) _
  refine .s (.aloadN a7_170 rfl rfl) <| .s (.getF 3 a7_171 (wd hw 41 rfl) rfl rfl) <| .s (.aloadN a7_174 rfl rfl) <| .s (.getF 0 a7_175 (wd hw 26 rfl) rfl rfl) <| .s (.alen (4 : Int32) a7_178 rfl (by rw [ja_len, l1]; rfl)) <| .s (.icmpT a7_179 (feq hF4).2) <| .s (.aloadN a7_216 rfl rfl) ?_
  refine .s (.getF 0 a7_217 (wd hw 26 rfl) rfl rfl) <| .s (.aloadN a7_220 rfl rfl) <| .s (.getF 3 a7_221 (wd hw 41 rfl) rfl rfl) <| .s (.lloadN a7_224 rfl) <| .s (.lastore ((fil b K).length) a7_225 rfl hat.1 hat.2 (by rw [ja_len]; omega)) ?_
  rw [ja_set]
  show WGo _ (226, [wR 3, wJ b, wS, wJ e, wS, wJ n, wS, wI (Int32.ofNat (fil b K).length), wI (Int32.ofNat K.length)], [], [o0, o1, o2, (.inr (cn0, [(fk0, .ref 4), (fk1, .ref 5), (fk2, (.long b)), (fk3, (.int (Int32.ofNat (fil b K).length))), (fk4, (.long (c + cn b n K)))])), (wAJ (ja (EN'.set (fil b K).length e))), (wAJ (ja NT'))], u) _
  refine .s (.aloadN a7_226 rfl rfl) <| .s (.getF 1 a7_227 (wd hw 28 rfl) rfl rfl) <| .s (.aloadN a7_230 rfl rfl) <| .s (.dup a7_231 rfl) <| .s (.getF 3 a7_232 (wd hw 41 rfl) rfl rfl) <| .s (.dupX1 a7_235 rfl rfl) <| .s (.iconst (1 : Int32) a7_236 rfl) ?_
  refine .s (.iadd a7_237) <| .s (.putF (ty := .int) 3 ((.int ((Int32.ofNat (fil b K).length) + (1 : Int32)))) a7_238 (wd hw 41 rfl) rfl rfl (Or.inl (wd hw 42 rfl)) (wd hw 17 rfl) (by decide) rfl rfl) ?_
  show WGo _ (241, [wR 3, wJ b, wS, wJ e, wS, wJ n, wS, wI (Int32.ofNat (fil b K).length), wI (Int32.ofNat K.length)], [(.int (Int32.ofNat (fil b K).length)), .ref 5], [o0, o1, o2, (.inr (cn0, [(fk0, .ref 4), (fk1, .ref 5), (fk2, (.long b)), (fk3, (.int ((Int32.ofNat (fil b K).length) + (1 : Int32)))), (fk4, (.long (c + cn b n K)))])), (wAJ (ja (EN'.set (fil b K).length e))), (wAJ (ja NT'))], u) _
  refine .s (.lload a7_241 rfl) <| .s (.lastore ((fil b K).length) a7_243 rfl hat.1 hat.2 (by rw [ja_len]; omega)) ?_
  rw [ja_set]
  show WGo _ (244, [wR 3, wJ b, wS, wJ e, wS, wJ n, wS, wI (Int32.ofNat (fil b K).length), wI (Int32.ofNat K.length)], [], [o0, o1, o2, (.inr (cn0, [(fk0, .ref 4), (fk1, .ref 5), (fk2, (.long b)), (fk3, (.int ((Int32.ofNat (fil b K).length) + (1 : Int32)))), (fk4, (.long (c + cn b n K)))])), (wAJ (ja (EN'.set (fil b K).length e))), (wAJ (ja (NT'.set (fil b K).length n)))], u) _
  refine .vreturn a7_244 rfl ?_
  refine ⟨EN'.set (fil b K).length e, NT'.set (fil b K).length n, by simpa using l1, by simpa using l2, Hold.snoc (x := (e, n)) hh (by omega) (by omega), rfl, ?_, rfl⟩
  rw [show (fil b K ++ [(e, n)]).length = (fil b K).length + 1 by simp, ← ofNat_succ (by omega)]
set_option maxHeartbeats 4000000 in
theorem au10_2 {Z : State} {a0 : Array Value} (hw : ∀ d ∈ tables_1, d.before a0 Z = true) (ρ : Nat → Nat) (n0 : Nat) (x0 : Int64) (x1 : Int64) (x2 : Int64) (x3 : Int64) (y0 : Int64) (y1 : Int64) (y2 : Int64) (y3 : Int64) (b : Int64) (c' : Int64) (o0 : WObj) (o1 : WObj) (o2 : WObj) (u : Nat) : WGo (g10 Z ρ n0 7 u) (0, [wI 4, wI 8], [], [o0, o1, o2, (.inr (cn0, [(fk0, .ref 4), (fk1, .ref 5), (fk2, (.long b)), (fk3, .int 4), (fk4, (.long c'))])), (wAJ [(.long x0), (.long x1), (.long x2), (.long x3)]), (wAJ [(.long y0), (.long y1), (.long y2), (.long y3)]), (wAJ [.long 0, .long 0, .long 0, .long 0, .long 0, .long 0, .long 0, .long 0])], u) (fun v σ' u' => v = some (.int 4) ∧ [o0, o1, o2, (.inr (cn0, [(fk0, .ref 4), (fk1, .ref 5), (fk2, (.long b)), (fk3, .int 4), (fk4, (.long c'))])), (wAJ [(.long x0), (.long x1), (.long x2), (.long x3)]), (wAJ [(.long y0), (.long y1), (.long y2), (.long y3)]), (wAJ [.long 0, .long 0, .long 0, .long 0, .long 0, .long 0, .long 0, .long 0])] = σ' ∧ u = u') := by
  refine .s (.iloadN a10_0 rfl) <| .s (.iloadN a10_1 rfl) <| .s (.icmpF a10_2 (by decide)) <| .s (.iloadN a10_5 rfl) <| .s (.goto a10_6) ?_
  refine .ireturn .int a10_10 rfl (by simp) ?_
  exact ⟨rfl, rfl, rfl⟩
set_option maxHeartbeats 4000000 in
theorem au9_1 {Z : State} {a0 : Array Value} (hw : ∀ d ∈ tables_1, d.before a0 Z = true) (ρ : Nat → Nat) (n0 : Nat) (x0 : Int64) (x1 : Int64) (x2 : Int64) (x3 : Int64) (y0 : Int64) (y1 : Int64) (y2 : Int64) (y3 : Int64) (b : Int64) (c' : Int64) (o0 : WObj) (o1 : WObj) (o2 : WObj) (u : Nat) : WGo (g9 Z ρ n0 6 u) (0, [wR 4, wI 8, wU], [], [o0, o1, o2, (.inr (cn0, [(fk0, .ref 4), (fk1, .ref 5), (fk2, (.long b)), (fk3, .int 4), (fk4, (.long c'))])), (wAJ [(.long x0), (.long x1), (.long x2), (.long x3)]), (wAJ [(.long y0), (.long y1), (.long y2), (.long y3)])], u) (fun v σ' u' => v = some (.ref 6) ∧ [o0, o1, o2, (.inr (cn0, [(fk0, .ref 4), (fk1, .ref 5), (fk2, (.long b)), (fk3, .int 4), (fk4, (.long c'))])), (wAJ [(.long x0), (.long x1), (.long x2), (.long x3)]), (wAJ [(.long y0), (.long y1), (.long y2), (.long y3)]), (wAJ [(.long x0), (.long x1), (.long x2), (.long x3), .long 0, .long 0, .long 0, .long 0])] = σ' ∧ (u + 8) = u') := by
  refine .s (.iloadN a9_0 rfl) <| .s (.aloadN a9_1 rfl rfl) <| .s (.alen (4 : Int32) a9_2 rfl rfl) <| .s (.icmpT a9_3 (by decide)) <| .s (.iloadN a9_14 rfl) <| .s (.newP (k := 6) (8 : Int32) 8 a9_15 (wd hw 25 rfl) (by decide) rfl (by decide) rfl (by decide)) ?_
  show WGo _ (17, [wR 4, wI 8, wU], [.ref 6], [o0, o1, o2, (.inr (cn0, [(fk0, .ref 4), (fk1, .ref 5), (fk2, (.long b)), (fk3, .int 4), (fk4, (.long c'))])), (wAJ [(.long x0), (.long x1), (.long x2), (.long x3)]), (wAJ [(.long y0), (.long y1), (.long y2), (.long y3)]), (wAJ [.long 0, .long 0, .long 0, .long 0, .long 0, .long 0, .long 0, .long 0])], (u + 8)) _
  refine .s (.astoreN (L' := [wR 4, wI 8, wR 6]) a9_17 rfl rfl) <| .s (.aloadN a9_18 rfl rfl) <| .s (.iconst (0 : Int32) a9_19 rfl) <| .s (.aloadN a9_20 rfl rfl) <| .s (.iconst (0 : Int32) a9_21 rfl) <| .s (.aloadN a9_22 rfl rfl) <| .s (.alen (4 : Int32) a9_23 rfl rfl) ?_
  refine .s (.iloadN a9_24 rfl) ?_
  refine .callS a9_25 (ok10 hw _ _ _ _) (wd hw 54 rfl) (wd hw 55 rfl) (argsL := [.int 4, .int 8]) (S := [.int 0, .ref 6, .int 0, .ref 4]) (au10_2 hw _ _ x0 x1 x2 x3 y0 y1 y2 y3 b c' o0 o1 o2 _) rfl rfl rfl rfl rfl rfl (Nat.le_of_ble_eq_true rfl) (Nat.le_of_ble_eq_true rfl) ?_
  rintro _ _ _ ⟨rfl, rfl, rfl⟩
  show WGo _ (28, [wR 4, wI 8, wR 6], [.int 4, .int 0, .ref 6, .int 0, .ref 4], [o0, o1, o2, (.inr (cn0, [(fk0, .ref 4), (fk1, .ref 5), (fk2, (.long b)), (fk3, .int 4), (fk4, (.long c'))])), (wAJ [(.long x0), (.long x1), (.long x2), (.long x3)]), (wAJ [(.long y0), (.long y1), (.long y2), (.long y3)]), (wAJ [.long 0, .long 0, .long 0, .long 0, .long 0, .long 0, .long 0, .long 0])], (u + 8)) _
  refine .s (.copyA (vr := [(.long x0), (.long x1), (.long x2), (.long x3), .long 0, .long 0, .long 0, .long 0]) a9_28 (wd hw 57 rfl) (wd hw 60 rfl) (wd hw 58 rfl) (wd hw 59 rfl) rfl rfl rfl (by decide) (by decide) (by decide) (Nat.le_of_ble_eq_true rfl) (Nat.le_of_ble_eq_true rfl) (Nat.le_of_ble_eq_true rfl) (Nat.le_of_ble_eq_true rfl) rfl rfl (Nat.le_of_ble_eq_true rfl) (Nat.le_of_ble_eq_true rfl)) ?_
  show WGo _ (31, [wR 4, wI 8, wR 6], [], [o0, o1, o2, (.inr (cn0, [(fk0, .ref 4), (fk1, .ref 5), (fk2, (.long b)), (fk3, .int 4), (fk4, (.long c'))])), (wAJ [(.long x0), (.long x1), (.long x2), (.long x3)]), (wAJ [(.long y0), (.long y1), (.long y2), (.long y3)]), (wAJ [(.long x0), (.long x1), (.long x2), (.long x3), .long 0, .long 0, .long 0, .long 0])], (u + 8)) _
  refine .s (.aloadN a9_31 rfl rfl) ?_
  refine .areturn (.array .long) a9_32 rfl rfl rfl ?_
  exact ⟨rfl, rfl, rfl⟩
set_option maxHeartbeats 4000000 in
theorem au10_4 {Z : State} {a0 : Array Value} (hw : ∀ d ∈ tables_1, d.before a0 Z = true) (ρ : Nat → Nat) (n0 : Nat) (x0 : Int64) (x1 : Int64) (x2 : Int64) (x3 : Int64) (y0 : Int64) (y1 : Int64) (y2 : Int64) (y3 : Int64) (b : Int64) (c' : Int64) (o0 : WObj) (o1 : WObj) (o2 : WObj) (u : Nat) : WGo (g10 Z ρ n0 8 u) (0, [wI 4, wI 8], [], [o0, o1, o2, (.inr (cn0, [(fk0, .ref 6), (fk1, .ref 5), (fk2, (.long b)), (fk3, .int 4), (fk4, (.long c'))])), (wAJ [(.long x0), (.long x1), (.long x2), (.long x3)]), (wAJ [(.long y0), (.long y1), (.long y2), (.long y3)]), (wAJ [(.long x0), (.long x1), (.long x2), (.long x3), .long 0, .long 0, .long 0, .long 0]), (wAJ [.long 0, .long 0, .long 0, .long 0, .long 0, .long 0, .long 0, .long 0])], u) (fun v σ' u' => v = some (.int 4) ∧ [o0, o1, o2, (.inr (cn0, [(fk0, .ref 6), (fk1, .ref 5), (fk2, (.long b)), (fk3, .int 4), (fk4, (.long c'))])), (wAJ [(.long x0), (.long x1), (.long x2), (.long x3)]), (wAJ [(.long y0), (.long y1), (.long y2), (.long y3)]), (wAJ [(.long x0), (.long x1), (.long x2), (.long x3), .long 0, .long 0, .long 0, .long 0]), (wAJ [.long 0, .long 0, .long 0, .long 0, .long 0, .long 0, .long 0, .long 0])] = σ' ∧ u = u') := by
  refine .s (.iloadN a10_0 rfl) <| .s (.iloadN a10_1 rfl) <| .s (.icmpF a10_2 (by decide)) <| .s (.iloadN a10_5 rfl) <| .s (.goto a10_6) ?_
  refine .ireturn .int a10_10 rfl (by simp) ?_
  exact ⟨rfl, rfl, rfl⟩
set_option maxHeartbeats 4000000 in
theorem au9_3 {Z : State} {a0 : Array Value} (hw : ∀ d ∈ tables_1, d.before a0 Z = true) (ρ : Nat → Nat) (n0 : Nat) (x0 : Int64) (x1 : Int64) (x2 : Int64) (x3 : Int64) (y0 : Int64) (y1 : Int64) (y2 : Int64) (y3 : Int64) (b : Int64) (c' : Int64) (o0 : WObj) (o1 : WObj) (o2 : WObj) (u : Nat) : WGo (g9 Z ρ n0 7 u) (0, [wR 5, wI 8, wU], [], [o0, o1, o2, (.inr (cn0, [(fk0, .ref 6), (fk1, .ref 5), (fk2, (.long b)), (fk3, .int 4), (fk4, (.long c'))])), (wAJ [(.long x0), (.long x1), (.long x2), (.long x3)]), (wAJ [(.long y0), (.long y1), (.long y2), (.long y3)]), (wAJ [(.long x0), (.long x1), (.long x2), (.long x3), .long 0, .long 0, .long 0, .long 0])], u) (fun v σ' u' => v = some (.ref 7) ∧ [o0, o1, o2, (.inr (cn0, [(fk0, .ref 6), (fk1, .ref 5), (fk2, (.long b)), (fk3, .int 4), (fk4, (.long c'))])), (wAJ [(.long x0), (.long x1), (.long x2), (.long x3)]), (wAJ [(.long y0), (.long y1), (.long y2), (.long y3)]), (wAJ [(.long x0), (.long x1), (.long x2), (.long x3), .long 0, .long 0, .long 0, .long 0]), (wAJ [(.long y0), (.long y1), (.long y2), (.long y3), .long 0, .long 0, .long 0, .long 0])] = σ' ∧ (u + 8) = u') := by
  refine .s (.iloadN a9_0 rfl) <| .s (.aloadN a9_1 rfl rfl) <| .s (.alen (4 : Int32) a9_2 rfl rfl) <| .s (.icmpT a9_3 (by decide)) <| .s (.iloadN a9_14 rfl) <| .s (.newP (k := 7) (8 : Int32) 8 a9_15 (wd hw 25 rfl) (by decide) rfl (by decide) rfl (by decide)) ?_
  show WGo _ (17, [wR 5, wI 8, wU], [.ref 7], [o0, o1, o2, (.inr (cn0, [(fk0, .ref 6), (fk1, .ref 5), (fk2, (.long b)), (fk3, .int 4), (fk4, (.long c'))])), (wAJ [(.long x0), (.long x1), (.long x2), (.long x3)]), (wAJ [(.long y0), (.long y1), (.long y2), (.long y3)]), (wAJ [(.long x0), (.long x1), (.long x2), (.long x3), .long 0, .long 0, .long 0, .long 0]), (wAJ [.long 0, .long 0, .long 0, .long 0, .long 0, .long 0, .long 0, .long 0])], (u + 8)) _
  refine .s (.astoreN (L' := [wR 5, wI 8, wR 7]) a9_17 rfl rfl) <| .s (.aloadN a9_18 rfl rfl) <| .s (.iconst (0 : Int32) a9_19 rfl) <| .s (.aloadN a9_20 rfl rfl) <| .s (.iconst (0 : Int32) a9_21 rfl) <| .s (.aloadN a9_22 rfl rfl) <| .s (.alen (4 : Int32) a9_23 rfl rfl) ?_
  refine .s (.iloadN a9_24 rfl) ?_
  refine .callS a9_25 (ok10 hw _ _ _ _) (wd hw 54 rfl) (wd hw 55 rfl) (argsL := [.int 4, .int 8]) (S := [.int 0, .ref 7, .int 0, .ref 5]) (au10_4 hw _ _ x0 x1 x2 x3 y0 y1 y2 y3 b c' o0 o1 o2 _) rfl rfl rfl rfl rfl rfl (Nat.le_of_ble_eq_true rfl) (Nat.le_of_ble_eq_true rfl) ?_
  rintro _ _ _ ⟨rfl, rfl, rfl⟩
  show WGo _ (28, [wR 5, wI 8, wR 7], [.int 4, .int 0, .ref 7, .int 0, .ref 5], [o0, o1, o2, (.inr (cn0, [(fk0, .ref 6), (fk1, .ref 5), (fk2, (.long b)), (fk3, .int 4), (fk4, (.long c'))])), (wAJ [(.long x0), (.long x1), (.long x2), (.long x3)]), (wAJ [(.long y0), (.long y1), (.long y2), (.long y3)]), (wAJ [(.long x0), (.long x1), (.long x2), (.long x3), .long 0, .long 0, .long 0, .long 0]), (wAJ [.long 0, .long 0, .long 0, .long 0, .long 0, .long 0, .long 0, .long 0])], (u + 8)) _
  refine .s (.copyA (vr := [(.long y0), (.long y1), (.long y2), (.long y3), .long 0, .long 0, .long 0, .long 0]) a9_28 (wd hw 57 rfl) (wd hw 60 rfl) (wd hw 58 rfl) (wd hw 59 rfl) rfl rfl rfl (by decide) (by decide) (by decide) (Nat.le_of_ble_eq_true rfl) (Nat.le_of_ble_eq_true rfl) (Nat.le_of_ble_eq_true rfl) (Nat.le_of_ble_eq_true rfl) rfl rfl (Nat.le_of_ble_eq_true rfl) (Nat.le_of_ble_eq_true rfl)) ?_
  show WGo _ (31, [wR 5, wI 8, wR 7], [], [o0, o1, o2, (.inr (cn0, [(fk0, .ref 6), (fk1, .ref 5), (fk2, (.long b)), (fk3, .int 4), (fk4, (.long c'))])), (wAJ [(.long x0), (.long x1), (.long x2), (.long x3)]), (wAJ [(.long y0), (.long y1), (.long y2), (.long y3)]), (wAJ [(.long x0), (.long x1), (.long x2), (.long x3), .long 0, .long 0, .long 0, .long 0]), (wAJ [(.long y0), (.long y1), (.long y2), (.long y3), .long 0, .long 0, .long 0, .long 0])], (u + 8)) _
  refine .s (.aloadN a9_31 rfl rfl) ?_
  refine .areturn (.array .long) a9_32 rfl rfl rfl ?_
  exact ⟨rfl, rfl, rfl⟩
set_option maxHeartbeats 4000000 in
theorem addgrow {Z : State} {a0 : Array Value} (hw : ∀ d ∈ tables_1, d.before a0 Z = true) (ρ : Nat → Nat) (n0 : Nat) (o0 o1 o2 : WObj) (b e n c' x0 x1 x2 x3 y0 y1 y2 y3 : Int64) (kk : Int32) (u : Nat) : WGo (g7 Z ρ n0 6 u) (164, [wR 3, wJ b, wS, wJ e, wS, wJ n, wS, wI 4, wI kk], [], [o0, o1, o2, (.inr (cn0, [(fk0, .ref 4), (fk1, .ref 5), (fk2, (.long b)), (fk3, .int 4), (fk4, (.long c'))])), (wAJ [(.long x0), (.long x1), (.long x2), (.long x3)]), (wAJ [(.long y0), (.long y1), (.long y2), (.long y3)])], u) (fun v σ' u' => ∃ (f0 f1 f2 f3 : Value), v = none ∧ σ'[3]? = some (.inr (cn0, [(fk0, f0), (fk1, f1), (fk2, f3), (fk3, f2), (fk4, (.long c'))])) ∧ σ'.length ≤ 8 ∧ u' ≤ u + 16) := by
  refine .s (.aloadN a7_164 rfl rfl) <| .s (.iload a7_165 rfl) <| .s (.putF (ty := .int) 3 (.int 4) a7_167 (wd hw 41 rfl) rfl rfl (Or.inl (wd hw 42 rfl)) (wd hw 17 rfl) (by decide) rfl rfl) ?_
  show WGo _ (170, [wR 3, wJ b, wS, wJ e, wS, wJ n, wS, wI 4, wI kk], [], [o0, o1, o2, (.inr (cn0, [(fk0, .ref 4), (fk1, .ref 5), (fk2, (.long b)), (fk3, .int 4), (fk4, (.long c'))])), (wAJ [(.long x0), (.long x1), (.long x2), (.long x3)]), (wAJ [(.long y0), (.long y1), (.long y2), (.long y3)])], u) _
  refine .s (.aloadN a7_170 rfl rfl) <| .s (.getF 3 a7_171 (wd hw 41 rfl) rfl rfl) <| .s (.aloadN a7_174 rfl rfl) <| .s (.getF 0 a7_175 (wd hw 26 rfl) rfl rfl) <| .s (.alen (4 : Int32) a7_178 rfl rfl) <| .s (.icmpF a7_179 (by decide)) <| .s (.aloadN a7_182 rfl rfl) ?_
  refine .s (.aloadN a7_183 rfl rfl) <| .s (.getF 0 a7_184 (wd hw 26 rfl) rfl rfl) <| .s (.iconst (2 : Int32) a7_187 rfl) <| .s (.aloadN a7_188 rfl rfl) <| .s (.getF 3 a7_189 (wd hw 41 rfl) rfl rfl) <| .s (.imul a7_192) ?_
  show WGo _ (193, [wR 3, wJ b, wS, wJ e, wS, wJ n, wS, wI 4, wI kk], [.int 8, .ref 4, .ref 3], [o0, o1, o2, (.inr (cn0, [(fk0, .ref 4), (fk1, .ref 5), (fk2, (.long b)), (fk3, .int 4), (fk4, (.long c'))])), (wAJ [(.long x0), (.long x1), (.long x2), (.long x3)]), (wAJ [(.long y0), (.long y1), (.long y2), (.long y3)])], u) _
  refine .callS a7_193 (ok9 hw _ _ _ _) (wd hw 50 rfl) (wd hw 51 rfl) (argsL := [.ref 4, .int 8]) (S := [.ref 3]) (au9_1 hw _ _ x0 x1 x2 x3 y0 y1 y2 y3 b c' o0 o1 o2 _) rfl rfl rfl rfl rfl rfl (Nat.le_of_ble_eq_true rfl) (Nat.le_of_ble_eq_true rfl) ?_
  rintro _ _ _ ⟨rfl, rfl, rfl⟩
  show WGo _ (196, [wR 3, wJ b, wS, wJ e, wS, wJ n, wS, wI 4, wI kk], [.ref 6, .ref 3], [o0, o1, o2, (.inr (cn0, [(fk0, .ref 4), (fk1, .ref 5), (fk2, (.long b)), (fk3, .int 4), (fk4, (.long c'))])), (wAJ [(.long x0), (.long x1), (.long x2), (.long x3)]), (wAJ [(.long y0), (.long y1), (.long y2), (.long y3)]), (wAJ [(.long x0), (.long x1), (.long x2), (.long x3), .long 0, .long 0, .long 0, .long 0])], (u + 8)) _
  refine .s (.putF (ty := (.array .long)) 0 (.ref 6) a7_196 (wd hw 26 rfl) rfl rfl (Or.inl (wd hw 27 rfl)) (wd hw 17 rfl) (by decide) rfl rfl) ?_
  show WGo _ (199, [wR 3, wJ b, wS, wJ e, wS, wJ n, wS, wI 4, wI kk], [], [o0, o1, o2, (.inr (cn0, [(fk0, .ref 6), (fk1, .ref 5), (fk2, (.long b)), (fk3, .int 4), (fk4, (.long c'))])), (wAJ [(.long x0), (.long x1), (.long x2), (.long x3)]), (wAJ [(.long y0), (.long y1), (.long y2), (.long y3)]), (wAJ [(.long x0), (.long x1), (.long x2), (.long x3), .long 0, .long 0, .long 0, .long 0])], (u + 8)) _
  refine .s (.aloadN a7_199 rfl rfl) <| .s (.aloadN a7_200 rfl rfl) <| .s (.getF 1 a7_201 (wd hw 28 rfl) rfl rfl) <| .s (.iconst (2 : Int32) a7_204 rfl) <| .s (.aloadN a7_205 rfl rfl) <| .s (.getF 3 a7_206 (wd hw 41 rfl) rfl rfl) <| .s (.imul a7_209) ?_
  show WGo _ (210, [wR 3, wJ b, wS, wJ e, wS, wJ n, wS, wI 4, wI kk], [.int 8, .ref 5, .ref 3], [o0, o1, o2, (.inr (cn0, [(fk0, .ref 6), (fk1, .ref 5), (fk2, (.long b)), (fk3, .int 4), (fk4, (.long c'))])), (wAJ [(.long x0), (.long x1), (.long x2), (.long x3)]), (wAJ [(.long y0), (.long y1), (.long y2), (.long y3)]), (wAJ [(.long x0), (.long x1), (.long x2), (.long x3), .long 0, .long 0, .long 0, .long 0])], (u + 8)) _
  refine .callS a7_210 (ok9 hw _ _ _ _) (wd hw 50 rfl) (wd hw 51 rfl) (argsL := [.ref 5, .int 8]) (S := [.ref 3]) (au9_3 hw _ _ x0 x1 x2 x3 y0 y1 y2 y3 b c' o0 o1 o2 _) rfl rfl rfl rfl rfl rfl (Nat.le_of_ble_eq_true rfl) (Nat.le_of_ble_eq_true rfl) ?_
  rintro _ _ _ ⟨rfl, rfl, rfl⟩
  show WGo _ (213, [wR 3, wJ b, wS, wJ e, wS, wJ n, wS, wI 4, wI kk], [.ref 7, .ref 3], [o0, o1, o2, (.inr (cn0, [(fk0, .ref 6), (fk1, .ref 5), (fk2, (.long b)), (fk3, .int 4), (fk4, (.long c'))])), (wAJ [(.long x0), (.long x1), (.long x2), (.long x3)]), (wAJ [(.long y0), (.long y1), (.long y2), (.long y3)]), (wAJ [(.long x0), (.long x1), (.long x2), (.long x3), .long 0, .long 0, .long 0, .long 0]), (wAJ [(.long y0), (.long y1), (.long y2), (.long y3), .long 0, .long 0, .long 0, .long 0])], ((u + 8) + 8)) _
  refine .s (.putF (ty := (.array .long)) 1 (.ref 7) a7_213 (wd hw 28 rfl) rfl rfl (Or.inl (wd hw 29 rfl)) (wd hw 17 rfl) (by decide) rfl rfl) ?_
  show WGo _ (216, [wR 3, wJ b, wS, wJ e, wS, wJ n, wS, wI 4, wI kk], [], [o0, o1, o2, (.inr (cn0, [(fk0, .ref 6), (fk1, .ref 7), (fk2, (.long b)), (fk3, .int 4), (fk4, (.long c'))])), (wAJ [(.long x0), (.long x1), (.long x2), (.long x3)]), (wAJ [(.long y0), (.long y1), (.long y2), (.long y3)]), (wAJ [(.long x0), (.long x1), (.long x2), (.long x3), .long 0, .long 0, .long 0, .long 0]), (wAJ [(.long y0), (.long y1), (.long y2), (.long y3), .long 0, .long 0, .long 0, .long 0])], ((u + 8) + 8)) _
  refine .s (.aloadN a7_216 rfl rfl) <| .s (.getF 0 a7_217 (wd hw 26 rfl) rfl rfl) <| .s (.aloadN a7_220 rfl rfl) <| .s (.getF 3 a7_221 (wd hw 41 rfl) rfl rfl) <| .s (.lloadN a7_224 rfl) <| .s (.lastore 4 a7_225 rfl (by decide) rfl (Nat.le_of_ble_eq_true rfl)) ?_
  show WGo _ (226, [wR 3, wJ b, wS, wJ e, wS, wJ n, wS, wI 4, wI kk], [], [o0, o1, o2, (.inr (cn0, [(fk0, .ref 6), (fk1, .ref 7), (fk2, (.long b)), (fk3, .int 4), (fk4, (.long c'))])), (wAJ [(.long x0), (.long x1), (.long x2), (.long x3)]), (wAJ [(.long y0), (.long y1), (.long y2), (.long y3)]), (wAJ [(.long x0), (.long x1), (.long x2), (.long x3), (.long e), .long 0, .long 0, .long 0]), (wAJ [(.long y0), (.long y1), (.long y2), (.long y3), .long 0, .long 0, .long 0, .long 0])], ((u + 8) + 8)) _
  refine .s (.aloadN a7_226 rfl rfl) <| .s (.getF 1 a7_227 (wd hw 28 rfl) rfl rfl) <| .s (.aloadN a7_230 rfl rfl) <| .s (.dup a7_231 rfl) <| .s (.getF 3 a7_232 (wd hw 41 rfl) rfl rfl) <| .s (.dupX1 a7_235 rfl rfl) <| .s (.iconst (1 : Int32) a7_236 rfl) ?_
  refine .s (.iadd a7_237) ?_
  show WGo _ (238, [wR 3, wJ b, wS, wJ e, wS, wJ n, wS, wI 4, wI kk], [.int 5, .ref 3, .int 4, .ref 7], [o0, o1, o2, (.inr (cn0, [(fk0, .ref 6), (fk1, .ref 7), (fk2, (.long b)), (fk3, .int 4), (fk4, (.long c'))])), (wAJ [(.long x0), (.long x1), (.long x2), (.long x3)]), (wAJ [(.long y0), (.long y1), (.long y2), (.long y3)]), (wAJ [(.long x0), (.long x1), (.long x2), (.long x3), (.long e), .long 0, .long 0, .long 0]), (wAJ [(.long y0), (.long y1), (.long y2), (.long y3), .long 0, .long 0, .long 0, .long 0])], ((u + 8) + 8)) _
  refine .s (.putF (ty := .int) 3 (.int 5) a7_238 (wd hw 41 rfl) rfl rfl (Or.inl (wd hw 42 rfl)) (wd hw 17 rfl) (by decide) rfl rfl) ?_
  show WGo _ (241, [wR 3, wJ b, wS, wJ e, wS, wJ n, wS, wI 4, wI kk], [.int 4, .ref 7], [o0, o1, o2, (.inr (cn0, [(fk0, .ref 6), (fk1, .ref 7), (fk2, (.long b)), (fk3, .int 5), (fk4, (.long c'))])), (wAJ [(.long x0), (.long x1), (.long x2), (.long x3)]), (wAJ [(.long y0), (.long y1), (.long y2), (.long y3)]), (wAJ [(.long x0), (.long x1), (.long x2), (.long x3), (.long e), .long 0, .long 0, .long 0]), (wAJ [(.long y0), (.long y1), (.long y2), (.long y3), .long 0, .long 0, .long 0, .long 0])], ((u + 8) + 8)) _
  refine .s (.lload a7_241 rfl) <| .s (.lastore 4 a7_243 rfl (by decide) rfl (Nat.le_of_ble_eq_true rfl)) ?_
  show WGo _ (244, [wR 3, wJ b, wS, wJ e, wS, wJ n, wS, wI 4, wI kk], [], [o0, o1, o2, (.inr (cn0, [(fk0, .ref 6), (fk1, .ref 7), (fk2, (.long b)), (fk3, .int 5), (fk4, (.long c'))])), (wAJ [(.long x0), (.long x1), (.long x2), (.long x3)]), (wAJ [(.long y0), (.long y1), (.long y2), (.long y3)]), (wAJ [(.long x0), (.long x1), (.long x2), (.long x3), (.long e), .long 0, .long 0, .long 0]), (wAJ [(.long y0), (.long y1), (.long y2), (.long y3), (.long n), .long 0, .long 0, .long 0])], ((u + 8) + 8)) _
  refine .vreturn a7_244 rfl ?_
  exact ⟨_, _, _, _, rfl, rfl, Nat.le_of_ble_eq_true rfl, Nat.le_refl _⟩
theorem four_of {l : List Int64} (h : l.length = 4) : ∃ a b c d, l = [a, b, c, d] := by
  match l, h with
  | [a, b, c, d], _ => exact ⟨a, b, c, d, rfl⟩
set_option maxHeartbeats 4000000 in
theorem cadd5 {Z : State} {a0 : Array Value} (hw : ∀ d ∈ tables_1, d.before a0 Z = true) (ρ : Nat → Nat) (n0 : Nat) (o0 o1 o2 : WObj) (b e n last c : Int64) (K : List Pr) (EN NT : List Int64) (he : ¬ e < b) (hn : ¬ n < e) (hb : ¬ b < last) (hE : EN.length = 4) (hN : NT.length = 4) (hold : Hold EN NT 0 K) (hK : K.length ≤ 4) (u : Nat) : WGo (g7 Z ρ n0 6 u) (0, [wR 3, wJ b, wS, wJ e, wS, wJ n, wS, wU, wU], [], [o0, o1, o2, (.inr (cn0, [(fk0, .ref 4), (fk1, .ref 5), (fk2, (.long last)), (fk3, (.int (Int32.ofNat K.length))), (fk4, (.long c))])), (wAJ (ja EN)), (wAJ (ja NT))], u) (fun v σ' u' => ∃ (f0 f1 f2 f3 : Value), v = none ∧ σ'[3]? = some (.inr (cn0, [(fk0, f0), (fk1, f1), (fk2, f3), (fk3, f2), (fk4, (.long (c + cn b n K)))])) ∧ σ'.length ≤ 8 ∧ u' ≤ u + 16) := by
  have hfl := fil_len b K
  have hat := ofNat_idx (s := (fil b K).length) (by omega)
  refine .s (.lloadN a7_0 rfl) <| .s (.lloadN a7_1 rfl) <| .s (.lcmp a7_2) <| .s (.ifF a7_3 (flt (fun q => he ((lw_lt _ _).mp q))).1) <| .s (.lload a7_6 rfl) <| .s (.lloadN a7_8 rfl) <| .s (.lcmp a7_9) ?_
  refine .s (.ifT a7_10 (flt (fun q => hn ((lw_lt _ _).mp q))).2.1) <| .s (.lloadN a7_30 rfl) <| .s (.aloadN a7_31 rfl rfl) <| .s (.getF 2 a7_32 (wd hw 31 rfl) rfl rfl) <| .s (.lcmp a7_35) <| .s (.ifT a7_36 (flt (fun q => hb ((lw_lt _ _).mp q))).2.1) <| .s (.aloadN a7_57 rfl rfl) ?_
  refine .s (.lloadN a7_58 rfl) <| .s (.putF (ty := .long) 2 ((.long b)) a7_59 (wd hw 31 rfl) rfl rfl (Or.inl (wd hw 32 rfl)) (wd hw 17 rfl) (by decide) rfl rfl) ?_
  show WGo _ (62, [wR 3, wJ b, wS, wJ e, wS, wJ n, wS, wU, wU], [], [o0, o1, o2, (.inr (cn0, [(fk0, .ref 4), (fk1, .ref 5), (fk2, (.long b)), (fk3, (.int (Int32.ofNat K.length))), (fk4, (.long c))])), (wAJ (ja EN)), (wAJ (ja NT))], u) _
  refine .s (.iconst (0 : Int32) a7_62 rfl) <| .s (.istore (L' := [wR 3, wJ b, wS, wJ e, wS, wJ n, wS, wI 0, wU]) a7_63 rfl) <| .s (.iconst (0 : Int32) a7_65 rfl) <| .s (.istore (L' := [wR 3, wJ b, wS, wJ e, wS, wJ n, wS, wI 0, wI 0]) a7_66 rfl) ?_
  refine addloop hw ρ n0 _ o0 o1 o2 b e n 4 K.length (by omega) (by decide) u K [] EN NT c hE hN (by simp) (Hold.nil _ _ _) hold ?_
  intro EN' NT' l1 l2 hh
  show WGo _ (164, [wR 3, wJ b, wS, wJ e, wS, wJ n, wS, wI (Int32.ofNat (fil b K).length), wI (Int32.ofNat K.length)], [], [o0, o1, o2, (.inr (cn0, [(fk0, .ref 4), (fk1, .ref 5), (fk2, (.long b)), (fk3, (.int (Int32.ofNat K.length))), (fk4, (.long (c + cn b n K)))])), (wAJ (ja EN')), (wAJ (ja NT'))], u) _
  by_cases hF : (fil b K).length = 4
  · have hKl : K.length = 4 := by omega
    obtain ⟨x0, x1, x2, x3, rfl⟩ := four_of l1
    obtain ⟨y0, y1, y2, y3, rfl⟩ := four_of l2
    rw [hF, hKl]
    exact addgrow hw ρ n0 o0 o1 o2 b e n (c + cn b n K) x0 x1 x2 x3 y0 y1 y2 y3 _ u
  have hF4 : ¬ Int32.ofNat (fil b K).length = 4 := fun q => by
    have q2 := congrArg Int32.toInt q
    rw [Int32.toInt_ofNat_small (by omega)] at q2
    have e4 : (4 : Int32).toInt = 4 := rfl
    omega
  refine .s (.aloadN a7_164 rfl rfl) <| .s (.iload a7_165 rfl) <| .s (.putF (ty := .int) 3 ((.int (Int32.ofNat (fil b K).length))) a7_167 (wd hw 41 rfl) rfl rfl (Or.inl (wd hw 42 rfl)) (wd hw 17 rfl) (by decide) rfl rfl) ?_
  show WGo _ (170, [wR 3, wJ b, wS, wJ e, wS, wJ n, wS, wI (Int32.ofNat (fil b K).length), wI (Int32.ofNat K.length)], [], [o0, o1, o2, (.inr (cn0, [(fk0, .ref 4), (fk1, .ref 5), (fk2, (.long b)), (fk3, (.int (Int32.ofNat (fil b K).length))), (fk4, (.long (c + cn b n K)))])), (wAJ (ja EN')), (wAJ (ja NT'))], u) _
  refine .s (.aloadN a7_170 rfl rfl) <| .s (.getF 3 a7_171 (wd hw 41 rfl) rfl rfl) <| .s (.aloadN a7_174 rfl rfl) <| .s (.getF 0 a7_175 (wd hw 26 rfl) rfl rfl) <| .s (.alen (4 : Int32) a7_178 rfl (by rw [ja_len, l1]; rfl)) <| .s (.icmpT a7_179 (feq hF4).2) <| .s (.aloadN a7_216 rfl rfl) ?_
  refine .s (.getF 0 a7_217 (wd hw 26 rfl) rfl rfl) <| .s (.aloadN a7_220 rfl rfl) <| .s (.getF 3 a7_221 (wd hw 41 rfl) rfl rfl) <| .s (.lloadN a7_224 rfl) <| .s (.lastore ((fil b K).length) a7_225 rfl hat.1 hat.2 (by rw [ja_len]; omega)) ?_
  rw [ja_set]
  show WGo _ (226, [wR 3, wJ b, wS, wJ e, wS, wJ n, wS, wI (Int32.ofNat (fil b K).length), wI (Int32.ofNat K.length)], [], [o0, o1, o2, (.inr (cn0, [(fk0, .ref 4), (fk1, .ref 5), (fk2, (.long b)), (fk3, (.int (Int32.ofNat (fil b K).length))), (fk4, (.long (c + cn b n K)))])), (wAJ (ja (EN'.set (fil b K).length e))), (wAJ (ja NT'))], u) _
  refine .s (.aloadN a7_226 rfl rfl) <| .s (.getF 1 a7_227 (wd hw 28 rfl) rfl rfl) <| .s (.aloadN a7_230 rfl rfl) <| .s (.dup a7_231 rfl) <| .s (.getF 3 a7_232 (wd hw 41 rfl) rfl rfl) <| .s (.dupX1 a7_235 rfl rfl) <| .s (.iconst (1 : Int32) a7_236 rfl) ?_
  refine .s (.iadd a7_237) <| .s (.putF (ty := .int) 3 ((.int ((Int32.ofNat (fil b K).length) + (1 : Int32)))) a7_238 (wd hw 41 rfl) rfl rfl (Or.inl (wd hw 42 rfl)) (wd hw 17 rfl) (by decide) rfl rfl) ?_
  show WGo _ (241, [wR 3, wJ b, wS, wJ e, wS, wJ n, wS, wI (Int32.ofNat (fil b K).length), wI (Int32.ofNat K.length)], [(.int (Int32.ofNat (fil b K).length)), .ref 5], [o0, o1, o2, (.inr (cn0, [(fk0, .ref 4), (fk1, .ref 5), (fk2, (.long b)), (fk3, (.int ((Int32.ofNat (fil b K).length) + (1 : Int32)))), (fk4, (.long (c + cn b n K)))])), (wAJ (ja (EN'.set (fil b K).length e))), (wAJ (ja NT'))], u) _
  refine .s (.lload a7_241 rfl) <| .s (.lastore ((fil b K).length) a7_243 rfl hat.1 hat.2 (by rw [ja_len]; omega)) ?_
  rw [ja_set]
  show WGo _ (244, [wR 3, wJ b, wS, wJ e, wS, wJ n, wS, wI (Int32.ofNat (fil b K).length), wI (Int32.ofNat K.length)], [], [o0, o1, o2, (.inr (cn0, [(fk0, .ref 4), (fk1, .ref 5), (fk2, (.long b)), (fk3, (.int ((Int32.ofNat (fil b K).length) + (1 : Int32)))), (fk4, (.long (c + cn b n K)))])), (wAJ (ja (EN'.set (fil b K).length e))), (wAJ (ja (NT'.set (fil b K).length n)))], u) _
  refine .vreturn a7_244 rfl ?_
  exact ⟨_, _, _, _, rfl, rfl, Nat.le_of_ble_eq_true rfl, Nat.le_add_right _ _⟩
theorem ccount {Z : State} {a0 : Array Value} (hw : ∀ d ∈ tables_1, d.before a0 Z = true) (ρ : Nat → Nat) (n0 : Nat) (f0 f1 f2 f3 : Value) (c' : Int64) (σ : WHp) (h3 : σ[3]? = some (.inr (cn0, [(fk0, f0), (fk1, f1), (fk2, f3), (fk3, f2), (fk4, (.long c'))]))) (u : Nat) : WGo (g8 Z ρ n0 σ.length u) (0, [wR 3], [], σ, u) (fun v σ' u' => v = some (.long c') ∧ σ = σ' ∧ u = u') := by
  refine .s (.aloadN a8_0 rfl rfl) <| .s (.getF 4 a8_1 (wd hw 48 rfl) h3 rfl) ?_
  refine .lreturn a8_4 rfl ?_
  exact ⟨rfl, rfl, rfl⟩
theorem bit_rng (p : Int64) (k : Int32) : 0 ≤ ((((p.toUInt64 >>> (k &&& 0x3f).toInt64.toUInt64).toInt64 &&& (7 : Int64))).toInt32).toInt ∧ ((((p.toUInt64 >>> (k &&& 0x3f).toInt64.toUInt64).toInt64 &&& (7 : Int64))).toInt32).toInt ≤ 7 := by
  have h1 := c_maskL ((p.toUInt64 >>> (k &&& 0x3f).toInt64.toUInt64).toInt64) 7 3 (by decide) (by decide)
  have h2 := c_l2i (((p.toUInt64 >>> (k &&& 0x3f).toInt64.toUInt64).toInt64 &&& (7 : Int64)))
  have h3 := rng32 ((((p.toUInt64 >>> (k &&& 0x3f).toInt64.toUInt64).toInt64 &&& (7 : Int64))).toInt32)
  omega
theorem tv_nlt {base w : Int64} {x y : Int32} (h : Room42 base w) (h0 : 0 ≤ y.toInt) (h1 : y.toInt ≤ x.toInt) (h2 : x.toInt ≤ 42) : ¬ tv base w x < tv base w y := fun q => by
  have := (tv_lt h (by omega) h2 h0 (by omega)).mp q
  omega
theorem nlt_min (x : Int64) : ¬ x < (-9223372036854775808 : Int64) := fun q => by
  rw [Int64.lt_iff_toInt_lt] at q
  have := rng64 x
  have e : (-9223372036854775808 : Int64).toInt = -9223372036854775808 := rfl
  omega
theorem i2l_add {a b : Int32} (h0 : 0 ≤ a.toInt) (h1 : a.toInt ≤ 100) (g0 : 0 ≤ b.toInt) (g1 : b.toInt ≤ 100) : (a + b).toInt64 = a.toInt64 + b.toInt64 := by
  apply Int64.toInt_inj.mp
  have e1 := c_iadd a b
  have e2 := c_ladd a.toInt64 b.toInt64
  rw [c_i2l, c_i2l] at e2
  rw [c_i2l]
  have r1 := rng32 (a + b)
  have r2 := rng64 (a.toInt64 + b.toInt64)
  omega
theorem cbits {Z : State} {a0 : Array Value} (hw : ∀ d ∈ tables_1, d.before a0 Z = true) (ρ : Nat → Nat) (n0 : Nat) (p : Int64) (k : Int32) (σ : WHp) (u : Nat) : WGo (g1 Z ρ n0 σ.length u) (0, [wJ p, wS, wI k], [], σ, u) (fun v σ' u' => (∃ z : Int32, v = some (.int z) ∧ 0 ≤ z.toInt ∧ z.toInt ≤ 7) ∧ σ = σ' ∧ u = u') := by
  refine .s (.lloadN a1_0 rfl) <| .s (.iloadN a1_1 rfl) <| .s (.lushr a1_2) <| .s (.ldc2 a1_3 (wd hw 5 rfl)) <| .s (.land a1_6) <| .s (.l2i a1_7) ?_
  refine .ireturn .int a1_8 rfl (by simp) ?_
  exact ⟨⟨_, rfl, bit_rng p k⟩, rfl, rfl⟩
theorem ct {Z : State} {a0 : Array Value} (hw : ∀ d ∈ tables_1, d.before a0 Z = true) (ρ : Nat → Nat) (n0 : Nat) (base w : Int64) (x : Int32) (σ : WHp) (u : Nat) : WGo (g6 Z ρ n0 σ.length u) (0, [wJ base, wS, wJ w, wS, wI x], [], σ, u) (fun v σ' u' => v = some (.long (tv base w x)) ∧ σ = σ' ∧ u = u') := by
  refine .s (.lloadN a6_0 rfl) <| .s (.lloadN a6_1 rfl) <| .s (.iload a6_2 rfl) <| .s (.i2l a6_4) <| .s (.lmul a6_5) <| .s (.ladd a6_6) ?_
  refine .lreturn a6_7 rfl ?_
  exact ⟨rfl, rfl, rfl⟩
theorem cmin {Z : State} {a0 : Array Value} (hw : ∀ d ∈ tables_1, d.before a0 Z = true) (ρ : Nat → Nat) (n0 : Nat) (x y : Int64) (σ : WHp) (u : Nat) : WGo (g2 Z ρ n0 σ.length u) (0, [wJ x, wS, wJ y, wS], [], σ, u) (fun v σ' u' => (∃ z, v = some (.long z) ∧ ¬ y < z) ∧ σ = σ' ∧ u = u') := by
  refine .s (.lloadN a2_0 rfl) <| .s (.lloadN a2_1 rfl) <| .s (.lcmp a2_2) ?_
  refine .gtL a2_3 (fun h3 => ?_) (fun h3 => ?_)
  · refine .s (.lloadN a2_10 rfl) ?_
    refine .lreturn a2_11 rfl ?_
    exact ⟨⟨_, rfl, Int64.lt_irrefl⟩, rfl, rfl⟩
  · refine .s (.lloadN a2_6 rfl) <| .s (.goto a2_7) ?_
    refine .lreturn a2_11 rfl ?_
    exact ⟨⟨_, rfl, h3⟩, rfl, rfl⟩
theorem cov01 {Z : State} {a0 : Array Value} (hw : ∀ d ∈ tables_1, d.before a0 Z = true) (ρ : Nat → Nat) (n0 : Nat) (b1 b2 b3 b4 e0 e1 e2 e3 e4 v0 v1 v2 v3 v4 : Int32) (u : Nat) : WGo (g3 Z ρ n0 3 u) (0, [wR 0, wR 1, wR 2, wI 0, wI 1], [], [(wAI [.int 0, (.int b1), (.int b2), (.int b3), (.int b4)]), (wAI [(.int e0), (.int e1), (.int e2), (.int e3), (.int e4)]), (wAI [(.int v0), (.int v1), (.int v2), (.int v3), (.int v4)])], u) (fun v σ' u' => v = some (.int (ovv e0 b1 v1 v0)) ∧ [(wAI [.int 0, (.int b1), (.int b2), (.int b3), (.int b4)]), (wAI [(.int e0), (.int e1), (.int e2), (.int e3), (.int e4)]), (wAI [(.int v0), (.int v1), (.int v2), (.int v3), (.int v4)])] = σ' ∧ u = u') := by
  refine .s (.aloadN a3_0 rfl rfl) <| .s (.iloadN a3_1 rfl) <| .s (.iaload 0 a3_2 rfl (by decide) rfl rfl) <| .s (.aloadN a3_3 rfl rfl) <| .s (.iload a3_4 rfl) <| .s (.iaload 1 a3_6 rfl (by decide) rfl rfl) ?_
  refine .ge a3_7 (fun h7 => ?_) (fun h7 => ?_)
  · refine .s (.iconst (0 : Int32) a3_24 rfl) ?_
    refine .ireturn .int a3_25 rfl (by simp) ?_
    exact ⟨by unfold ovv; rw [if_neg (fun q => h7 q.1)]; rfl, rfl, rfl⟩
  · refine .s (.aloadN a3_10 rfl rfl) <| .s (.iload a3_11 rfl) <| .s (.iaload 1 a3_13 rfl (by decide) rfl rfl) <| .s (.aloadN a3_14 rfl rfl) <| .s (.iloadN a3_15 rfl) <| .s (.iaload 0 a3_16 rfl (by decide) rfl rfl) ?_
    refine .ge a3_17 (fun h17 => ?_) (fun h17 => ?_)
    · refine .s (.iconst (0 : Int32) a3_24 rfl) ?_
      refine .ireturn .int a3_25 rfl (by simp) ?_
      exact ⟨by unfold ovv; rw [if_neg (fun q => h17 q.2)]; rfl, rfl, rfl⟩
    · refine .s (.iconst (1 : Int32) a3_20 rfl) <| .s (.goto a3_21) ?_
      refine .ireturn .int a3_25 rfl (by simp) ?_
      exact ⟨by unfold ovv; rw [if_pos ⟨h7, h17⟩]; rfl, rfl, rfl⟩
theorem cov02 {Z : State} {a0 : Array Value} (hw : ∀ d ∈ tables_1, d.before a0 Z = true) (ρ : Nat → Nat) (n0 : Nat) (b1 b2 b3 b4 e0 e1 e2 e3 e4 v0 v1 v2 v3 v4 : Int32) (u : Nat) : WGo (g3 Z ρ n0 3 u) (0, [wR 0, wR 1, wR 2, wI 0, wI 2], [], [(wAI [.int 0, (.int b1), (.int b2), (.int b3), (.int b4)]), (wAI [(.int e0), (.int e1), (.int e2), (.int e3), (.int e4)]), (wAI [(.int v0), (.int v1), (.int v2), (.int v3), (.int v4)])], u) (fun v σ' u' => v = some (.int (ovv e0 b2 v2 v0)) ∧ [(wAI [.int 0, (.int b1), (.int b2), (.int b3), (.int b4)]), (wAI [(.int e0), (.int e1), (.int e2), (.int e3), (.int e4)]), (wAI [(.int v0), (.int v1), (.int v2), (.int v3), (.int v4)])] = σ' ∧ u = u') := by
  refine .s (.aloadN a3_0 rfl rfl) <| .s (.iloadN a3_1 rfl) <| .s (.iaload 0 a3_2 rfl (by decide) rfl rfl) <| .s (.aloadN a3_3 rfl rfl) <| .s (.iload a3_4 rfl) <| .s (.iaload 2 a3_6 rfl (by decide) rfl rfl) ?_
  refine .ge a3_7 (fun h7 => ?_) (fun h7 => ?_)
  · refine .s (.iconst (0 : Int32) a3_24 rfl) ?_
    refine .ireturn .int a3_25 rfl (by simp) ?_
    exact ⟨by unfold ovv; rw [if_neg (fun q => h7 q.1)]; rfl, rfl, rfl⟩
  · refine .s (.aloadN a3_10 rfl rfl) <| .s (.iload a3_11 rfl) <| .s (.iaload 2 a3_13 rfl (by decide) rfl rfl) <| .s (.aloadN a3_14 rfl rfl) <| .s (.iloadN a3_15 rfl) <| .s (.iaload 0 a3_16 rfl (by decide) rfl rfl) ?_
    refine .ge a3_17 (fun h17 => ?_) (fun h17 => ?_)
    · refine .s (.iconst (0 : Int32) a3_24 rfl) ?_
      refine .ireturn .int a3_25 rfl (by simp) ?_
      exact ⟨by unfold ovv; rw [if_neg (fun q => h17 q.2)]; rfl, rfl, rfl⟩
    · refine .s (.iconst (1 : Int32) a3_20 rfl) <| .s (.goto a3_21) ?_
      refine .ireturn .int a3_25 rfl (by simp) ?_
      exact ⟨by unfold ovv; rw [if_pos ⟨h7, h17⟩]; rfl, rfl, rfl⟩
theorem cov12 {Z : State} {a0 : Array Value} (hw : ∀ d ∈ tables_1, d.before a0 Z = true) (ρ : Nat → Nat) (n0 : Nat) (b1 b2 b3 b4 e0 e1 e2 e3 e4 v0 v1 v2 v3 v4 : Int32) (u : Nat) : WGo (g3 Z ρ n0 3 u) (0, [wR 0, wR 1, wR 2, wI 1, wI 2], [], [(wAI [.int 0, (.int b1), (.int b2), (.int b3), (.int b4)]), (wAI [(.int e0), (.int e1), (.int e2), (.int e3), (.int e4)]), (wAI [(.int v0), (.int v1), (.int v2), (.int v3), (.int v4)])], u) (fun v σ' u' => v = some (.int (ovv e1 b2 v2 v1)) ∧ [(wAI [.int 0, (.int b1), (.int b2), (.int b3), (.int b4)]), (wAI [(.int e0), (.int e1), (.int e2), (.int e3), (.int e4)]), (wAI [(.int v0), (.int v1), (.int v2), (.int v3), (.int v4)])] = σ' ∧ u = u') := by
  refine .s (.aloadN a3_0 rfl rfl) <| .s (.iloadN a3_1 rfl) <| .s (.iaload 1 a3_2 rfl (by decide) rfl rfl) <| .s (.aloadN a3_3 rfl rfl) <| .s (.iload a3_4 rfl) <| .s (.iaload 2 a3_6 rfl (by decide) rfl rfl) ?_
  refine .ge a3_7 (fun h7 => ?_) (fun h7 => ?_)
  · refine .s (.iconst (0 : Int32) a3_24 rfl) ?_
    refine .ireturn .int a3_25 rfl (by simp) ?_
    exact ⟨by unfold ovv; rw [if_neg (fun q => h7 q.1)]; rfl, rfl, rfl⟩
  · refine .s (.aloadN a3_10 rfl rfl) <| .s (.iload a3_11 rfl) <| .s (.iaload 2 a3_13 rfl (by decide) rfl rfl) <| .s (.aloadN a3_14 rfl rfl) <| .s (.iloadN a3_15 rfl) <| .s (.iaload 1 a3_16 rfl (by decide) rfl rfl) ?_
    refine .ge a3_17 (fun h17 => ?_) (fun h17 => ?_)
    · refine .s (.iconst (0 : Int32) a3_24 rfl) ?_
      refine .ireturn .int a3_25 rfl (by simp) ?_
      exact ⟨by unfold ovv; rw [if_neg (fun q => h17 q.2)]; rfl, rfl, rfl⟩
    · refine .s (.iconst (1 : Int32) a3_20 rfl) <| .s (.goto a3_21) ?_
      refine .ireturn .int a3_25 rfl (by simp) ?_
      exact ⟨by unfold ovv; rw [if_pos ⟨h7, h17⟩]; rfl, rfl, rfl⟩
theorem cov03 {Z : State} {a0 : Array Value} (hw : ∀ d ∈ tables_1, d.before a0 Z = true) (ρ : Nat → Nat) (n0 : Nat) (b1 b2 b3 b4 e0 e1 e2 e3 e4 v0 v1 v2 v3 v4 : Int32) (u : Nat) : WGo (g3 Z ρ n0 3 u) (0, [wR 0, wR 1, wR 2, wI 0, wI 3], [], [(wAI [.int 0, (.int b1), (.int b2), (.int b3), (.int b4)]), (wAI [(.int e0), (.int e1), (.int e2), (.int e3), (.int e4)]), (wAI [(.int v0), (.int v1), (.int v2), (.int v3), (.int v4)])], u) (fun v σ' u' => v = some (.int (ovv e0 b3 v3 v0)) ∧ [(wAI [.int 0, (.int b1), (.int b2), (.int b3), (.int b4)]), (wAI [(.int e0), (.int e1), (.int e2), (.int e3), (.int e4)]), (wAI [(.int v0), (.int v1), (.int v2), (.int v3), (.int v4)])] = σ' ∧ u = u') := by
  refine .s (.aloadN a3_0 rfl rfl) <| .s (.iloadN a3_1 rfl) <| .s (.iaload 0 a3_2 rfl (by decide) rfl rfl) <| .s (.aloadN a3_3 rfl rfl) <| .s (.iload a3_4 rfl) <| .s (.iaload 3 a3_6 rfl (by decide) rfl rfl) ?_
  refine .ge a3_7 (fun h7 => ?_) (fun h7 => ?_)
  · refine .s (.iconst (0 : Int32) a3_24 rfl) ?_
    refine .ireturn .int a3_25 rfl (by simp) ?_
    exact ⟨by unfold ovv; rw [if_neg (fun q => h7 q.1)]; rfl, rfl, rfl⟩
  · refine .s (.aloadN a3_10 rfl rfl) <| .s (.iload a3_11 rfl) <| .s (.iaload 3 a3_13 rfl (by decide) rfl rfl) <| .s (.aloadN a3_14 rfl rfl) <| .s (.iloadN a3_15 rfl) <| .s (.iaload 0 a3_16 rfl (by decide) rfl rfl) ?_
    refine .ge a3_17 (fun h17 => ?_) (fun h17 => ?_)
    · refine .s (.iconst (0 : Int32) a3_24 rfl) ?_
      refine .ireturn .int a3_25 rfl (by simp) ?_
      exact ⟨by unfold ovv; rw [if_neg (fun q => h17 q.2)]; rfl, rfl, rfl⟩
    · refine .s (.iconst (1 : Int32) a3_20 rfl) <| .s (.goto a3_21) ?_
      refine .ireturn .int a3_25 rfl (by simp) ?_
      exact ⟨by unfold ovv; rw [if_pos ⟨h7, h17⟩]; rfl, rfl, rfl⟩
theorem cov13 {Z : State} {a0 : Array Value} (hw : ∀ d ∈ tables_1, d.before a0 Z = true) (ρ : Nat → Nat) (n0 : Nat) (b1 b2 b3 b4 e0 e1 e2 e3 e4 v0 v1 v2 v3 v4 : Int32) (u : Nat) : WGo (g3 Z ρ n0 3 u) (0, [wR 0, wR 1, wR 2, wI 1, wI 3], [], [(wAI [.int 0, (.int b1), (.int b2), (.int b3), (.int b4)]), (wAI [(.int e0), (.int e1), (.int e2), (.int e3), (.int e4)]), (wAI [(.int v0), (.int v1), (.int v2), (.int v3), (.int v4)])], u) (fun v σ' u' => v = some (.int (ovv e1 b3 v3 v1)) ∧ [(wAI [.int 0, (.int b1), (.int b2), (.int b3), (.int b4)]), (wAI [(.int e0), (.int e1), (.int e2), (.int e3), (.int e4)]), (wAI [(.int v0), (.int v1), (.int v2), (.int v3), (.int v4)])] = σ' ∧ u = u') := by
  refine .s (.aloadN a3_0 rfl rfl) <| .s (.iloadN a3_1 rfl) <| .s (.iaload 1 a3_2 rfl (by decide) rfl rfl) <| .s (.aloadN a3_3 rfl rfl) <| .s (.iload a3_4 rfl) <| .s (.iaload 3 a3_6 rfl (by decide) rfl rfl) ?_
  refine .ge a3_7 (fun h7 => ?_) (fun h7 => ?_)
  · refine .s (.iconst (0 : Int32) a3_24 rfl) ?_
    refine .ireturn .int a3_25 rfl (by simp) ?_
    exact ⟨by unfold ovv; rw [if_neg (fun q => h7 q.1)]; rfl, rfl, rfl⟩
  · refine .s (.aloadN a3_10 rfl rfl) <| .s (.iload a3_11 rfl) <| .s (.iaload 3 a3_13 rfl (by decide) rfl rfl) <| .s (.aloadN a3_14 rfl rfl) <| .s (.iloadN a3_15 rfl) <| .s (.iaload 1 a3_16 rfl (by decide) rfl rfl) ?_
    refine .ge a3_17 (fun h17 => ?_) (fun h17 => ?_)
    · refine .s (.iconst (0 : Int32) a3_24 rfl) ?_
      refine .ireturn .int a3_25 rfl (by simp) ?_
      exact ⟨by unfold ovv; rw [if_neg (fun q => h17 q.2)]; rfl, rfl, rfl⟩
    · refine .s (.iconst (1 : Int32) a3_20 rfl) <| .s (.goto a3_21) ?_
      refine .ireturn .int a3_25 rfl (by simp) ?_
      exact ⟨by unfold ovv; rw [if_pos ⟨h7, h17⟩]; rfl, rfl, rfl⟩
theorem cov23 {Z : State} {a0 : Array Value} (hw : ∀ d ∈ tables_1, d.before a0 Z = true) (ρ : Nat → Nat) (n0 : Nat) (b1 b2 b3 b4 e0 e1 e2 e3 e4 v0 v1 v2 v3 v4 : Int32) (u : Nat) : WGo (g3 Z ρ n0 3 u) (0, [wR 0, wR 1, wR 2, wI 2, wI 3], [], [(wAI [.int 0, (.int b1), (.int b2), (.int b3), (.int b4)]), (wAI [(.int e0), (.int e1), (.int e2), (.int e3), (.int e4)]), (wAI [(.int v0), (.int v1), (.int v2), (.int v3), (.int v4)])], u) (fun v σ' u' => v = some (.int (ovv e2 b3 v3 v2)) ∧ [(wAI [.int 0, (.int b1), (.int b2), (.int b3), (.int b4)]), (wAI [(.int e0), (.int e1), (.int e2), (.int e3), (.int e4)]), (wAI [(.int v0), (.int v1), (.int v2), (.int v3), (.int v4)])] = σ' ∧ u = u') := by
  refine .s (.aloadN a3_0 rfl rfl) <| .s (.iloadN a3_1 rfl) <| .s (.iaload 2 a3_2 rfl (by decide) rfl rfl) <| .s (.aloadN a3_3 rfl rfl) <| .s (.iload a3_4 rfl) <| .s (.iaload 3 a3_6 rfl (by decide) rfl rfl) ?_
  refine .ge a3_7 (fun h7 => ?_) (fun h7 => ?_)
  · refine .s (.iconst (0 : Int32) a3_24 rfl) ?_
    refine .ireturn .int a3_25 rfl (by simp) ?_
    exact ⟨by unfold ovv; rw [if_neg (fun q => h7 q.1)]; rfl, rfl, rfl⟩
  · refine .s (.aloadN a3_10 rfl rfl) <| .s (.iload a3_11 rfl) <| .s (.iaload 3 a3_13 rfl (by decide) rfl rfl) <| .s (.aloadN a3_14 rfl rfl) <| .s (.iloadN a3_15 rfl) <| .s (.iaload 2 a3_16 rfl (by decide) rfl rfl) ?_
    refine .ge a3_17 (fun h17 => ?_) (fun h17 => ?_)
    · refine .s (.iconst (0 : Int32) a3_24 rfl) ?_
      refine .ireturn .int a3_25 rfl (by simp) ?_
      exact ⟨by unfold ovv; rw [if_neg (fun q => h17 q.2)]; rfl, rfl, rfl⟩
    · refine .s (.iconst (1 : Int32) a3_20 rfl) <| .s (.goto a3_21) ?_
      refine .ireturn .int a3_25 rfl (by simp) ?_
      exact ⟨by unfold ovv; rw [if_pos ⟨h7, h17⟩]; rfl, rfl, rfl⟩
theorem cov04 {Z : State} {a0 : Array Value} (hw : ∀ d ∈ tables_1, d.before a0 Z = true) (ρ : Nat → Nat) (n0 : Nat) (b1 b2 b3 b4 e0 e1 e2 e3 e4 v0 v1 v2 v3 v4 : Int32) (u : Nat) : WGo (g3 Z ρ n0 3 u) (0, [wR 0, wR 1, wR 2, wI 0, wI 4], [], [(wAI [.int 0, (.int b1), (.int b2), (.int b3), (.int b4)]), (wAI [(.int e0), (.int e1), (.int e2), (.int e3), (.int e4)]), (wAI [(.int v0), (.int v1), (.int v2), (.int v3), (.int v4)])], u) (fun v σ' u' => v = some (.int (ovv e0 b4 v4 v0)) ∧ [(wAI [.int 0, (.int b1), (.int b2), (.int b3), (.int b4)]), (wAI [(.int e0), (.int e1), (.int e2), (.int e3), (.int e4)]), (wAI [(.int v0), (.int v1), (.int v2), (.int v3), (.int v4)])] = σ' ∧ u = u') := by
  refine .s (.aloadN a3_0 rfl rfl) <| .s (.iloadN a3_1 rfl) <| .s (.iaload 0 a3_2 rfl (by decide) rfl rfl) <| .s (.aloadN a3_3 rfl rfl) <| .s (.iload a3_4 rfl) <| .s (.iaload 4 a3_6 rfl (by decide) rfl rfl) ?_
  refine .ge a3_7 (fun h7 => ?_) (fun h7 => ?_)
  · refine .s (.iconst (0 : Int32) a3_24 rfl) ?_
    refine .ireturn .int a3_25 rfl (by simp) ?_
    exact ⟨by unfold ovv; rw [if_neg (fun q => h7 q.1)]; rfl, rfl, rfl⟩
  · refine .s (.aloadN a3_10 rfl rfl) <| .s (.iload a3_11 rfl) <| .s (.iaload 4 a3_13 rfl (by decide) rfl rfl) <| .s (.aloadN a3_14 rfl rfl) <| .s (.iloadN a3_15 rfl) <| .s (.iaload 0 a3_16 rfl (by decide) rfl rfl) ?_
    refine .ge a3_17 (fun h17 => ?_) (fun h17 => ?_)
    · refine .s (.iconst (0 : Int32) a3_24 rfl) ?_
      refine .ireturn .int a3_25 rfl (by simp) ?_
      exact ⟨by unfold ovv; rw [if_neg (fun q => h17 q.2)]; rfl, rfl, rfl⟩
    · refine .s (.iconst (1 : Int32) a3_20 rfl) <| .s (.goto a3_21) ?_
      refine .ireturn .int a3_25 rfl (by simp) ?_
      exact ⟨by unfold ovv; rw [if_pos ⟨h7, h17⟩]; rfl, rfl, rfl⟩
theorem cov14 {Z : State} {a0 : Array Value} (hw : ∀ d ∈ tables_1, d.before a0 Z = true) (ρ : Nat → Nat) (n0 : Nat) (b1 b2 b3 b4 e0 e1 e2 e3 e4 v0 v1 v2 v3 v4 : Int32) (u : Nat) : WGo (g3 Z ρ n0 3 u) (0, [wR 0, wR 1, wR 2, wI 1, wI 4], [], [(wAI [.int 0, (.int b1), (.int b2), (.int b3), (.int b4)]), (wAI [(.int e0), (.int e1), (.int e2), (.int e3), (.int e4)]), (wAI [(.int v0), (.int v1), (.int v2), (.int v3), (.int v4)])], u) (fun v σ' u' => v = some (.int (ovv e1 b4 v4 v1)) ∧ [(wAI [.int 0, (.int b1), (.int b2), (.int b3), (.int b4)]), (wAI [(.int e0), (.int e1), (.int e2), (.int e3), (.int e4)]), (wAI [(.int v0), (.int v1), (.int v2), (.int v3), (.int v4)])] = σ' ∧ u = u') := by
  refine .s (.aloadN a3_0 rfl rfl) <| .s (.iloadN a3_1 rfl) <| .s (.iaload 1 a3_2 rfl (by decide) rfl rfl) <| .s (.aloadN a3_3 rfl rfl) <| .s (.iload a3_4 rfl) <| .s (.iaload 4 a3_6 rfl (by decide) rfl rfl) ?_
  refine .ge a3_7 (fun h7 => ?_) (fun h7 => ?_)
  · refine .s (.iconst (0 : Int32) a3_24 rfl) ?_
    refine .ireturn .int a3_25 rfl (by simp) ?_
    exact ⟨by unfold ovv; rw [if_neg (fun q => h7 q.1)]; rfl, rfl, rfl⟩
  · refine .s (.aloadN a3_10 rfl rfl) <| .s (.iload a3_11 rfl) <| .s (.iaload 4 a3_13 rfl (by decide) rfl rfl) <| .s (.aloadN a3_14 rfl rfl) <| .s (.iloadN a3_15 rfl) <| .s (.iaload 1 a3_16 rfl (by decide) rfl rfl) ?_
    refine .ge a3_17 (fun h17 => ?_) (fun h17 => ?_)
    · refine .s (.iconst (0 : Int32) a3_24 rfl) ?_
      refine .ireturn .int a3_25 rfl (by simp) ?_
      exact ⟨by unfold ovv; rw [if_neg (fun q => h17 q.2)]; rfl, rfl, rfl⟩
    · refine .s (.iconst (1 : Int32) a3_20 rfl) <| .s (.goto a3_21) ?_
      refine .ireturn .int a3_25 rfl (by simp) ?_
      exact ⟨by unfold ovv; rw [if_pos ⟨h7, h17⟩]; rfl, rfl, rfl⟩
theorem cov24 {Z : State} {a0 : Array Value} (hw : ∀ d ∈ tables_1, d.before a0 Z = true) (ρ : Nat → Nat) (n0 : Nat) (b1 b2 b3 b4 e0 e1 e2 e3 e4 v0 v1 v2 v3 v4 : Int32) (u : Nat) : WGo (g3 Z ρ n0 3 u) (0, [wR 0, wR 1, wR 2, wI 2, wI 4], [], [(wAI [.int 0, (.int b1), (.int b2), (.int b3), (.int b4)]), (wAI [(.int e0), (.int e1), (.int e2), (.int e3), (.int e4)]), (wAI [(.int v0), (.int v1), (.int v2), (.int v3), (.int v4)])], u) (fun v σ' u' => v = some (.int (ovv e2 b4 v4 v2)) ∧ [(wAI [.int 0, (.int b1), (.int b2), (.int b3), (.int b4)]), (wAI [(.int e0), (.int e1), (.int e2), (.int e3), (.int e4)]), (wAI [(.int v0), (.int v1), (.int v2), (.int v3), (.int v4)])] = σ' ∧ u = u') := by
  refine .s (.aloadN a3_0 rfl rfl) <| .s (.iloadN a3_1 rfl) <| .s (.iaload 2 a3_2 rfl (by decide) rfl rfl) <| .s (.aloadN a3_3 rfl rfl) <| .s (.iload a3_4 rfl) <| .s (.iaload 4 a3_6 rfl (by decide) rfl rfl) ?_
  refine .ge a3_7 (fun h7 => ?_) (fun h7 => ?_)
  · refine .s (.iconst (0 : Int32) a3_24 rfl) ?_
    refine .ireturn .int a3_25 rfl (by simp) ?_
    exact ⟨by unfold ovv; rw [if_neg (fun q => h7 q.1)]; rfl, rfl, rfl⟩
  · refine .s (.aloadN a3_10 rfl rfl) <| .s (.iload a3_11 rfl) <| .s (.iaload 4 a3_13 rfl (by decide) rfl rfl) <| .s (.aloadN a3_14 rfl rfl) <| .s (.iloadN a3_15 rfl) <| .s (.iaload 2 a3_16 rfl (by decide) rfl rfl) ?_
    refine .ge a3_17 (fun h17 => ?_) (fun h17 => ?_)
    · refine .s (.iconst (0 : Int32) a3_24 rfl) ?_
      refine .ireturn .int a3_25 rfl (by simp) ?_
      exact ⟨by unfold ovv; rw [if_neg (fun q => h17 q.2)]; rfl, rfl, rfl⟩
    · refine .s (.iconst (1 : Int32) a3_20 rfl) <| .s (.goto a3_21) ?_
      refine .ireturn .int a3_25 rfl (by simp) ?_
      exact ⟨by unfold ovv; rw [if_pos ⟨h7, h17⟩]; rfl, rfl, rfl⟩
theorem cov34 {Z : State} {a0 : Array Value} (hw : ∀ d ∈ tables_1, d.before a0 Z = true) (ρ : Nat → Nat) (n0 : Nat) (b1 b2 b3 b4 e0 e1 e2 e3 e4 v0 v1 v2 v3 v4 : Int32) (u : Nat) : WGo (g3 Z ρ n0 3 u) (0, [wR 0, wR 1, wR 2, wI 3, wI 4], [], [(wAI [.int 0, (.int b1), (.int b2), (.int b3), (.int b4)]), (wAI [(.int e0), (.int e1), (.int e2), (.int e3), (.int e4)]), (wAI [(.int v0), (.int v1), (.int v2), (.int v3), (.int v4)])], u) (fun v σ' u' => v = some (.int (ovv e3 b4 v4 v3)) ∧ [(wAI [.int 0, (.int b1), (.int b2), (.int b3), (.int b4)]), (wAI [(.int e0), (.int e1), (.int e2), (.int e3), (.int e4)]), (wAI [(.int v0), (.int v1), (.int v2), (.int v3), (.int v4)])] = σ' ∧ u = u') := by
  refine .s (.aloadN a3_0 rfl rfl) <| .s (.iloadN a3_1 rfl) <| .s (.iaload 3 a3_2 rfl (by decide) rfl rfl) <| .s (.aloadN a3_3 rfl rfl) <| .s (.iload a3_4 rfl) <| .s (.iaload 4 a3_6 rfl (by decide) rfl rfl) ?_
  refine .ge a3_7 (fun h7 => ?_) (fun h7 => ?_)
  · refine .s (.iconst (0 : Int32) a3_24 rfl) ?_
    refine .ireturn .int a3_25 rfl (by simp) ?_
    exact ⟨by unfold ovv; rw [if_neg (fun q => h7 q.1)]; rfl, rfl, rfl⟩
  · refine .s (.aloadN a3_10 rfl rfl) <| .s (.iload a3_11 rfl) <| .s (.iaload 4 a3_13 rfl (by decide) rfl rfl) <| .s (.aloadN a3_14 rfl rfl) <| .s (.iloadN a3_15 rfl) <| .s (.iaload 3 a3_16 rfl (by decide) rfl rfl) ?_
    refine .ge a3_17 (fun h17 => ?_) (fun h17 => ?_)
    · refine .s (.iconst (0 : Int32) a3_24 rfl) ?_
      refine .ireturn .int a3_25 rfl (by simp) ?_
      exact ⟨by unfold ovv; rw [if_neg (fun q => h17 q.2)]; rfl, rfl, rfl⟩
    · refine .s (.iconst (1 : Int32) a3_20 rfl) <| .s (.goto a3_21) ?_
      refine .ireturn .int a3_25 rfl (by simp) ?_
      exact ⟨by unfold ovv; rw [if_pos ⟨h7, h17⟩]; rfl, rfl, rfl⟩
theorem sm_add {a b : Int32} {m n k : Int} (ha : 0 ≤ a.toInt ∧ a.toInt ≤ m) (hb : 0 ≤ b.toInt ∧ b.toInt ≤ n) (h : k ≤ 1000) (hk : m + n = k) : 0 ≤ (a + b).toInt ∧ (a + b).toInt ≤ k := by
  have e := c_iadd a b
  have r := rng32 (a + b)
  omega
set_option maxHeartbeats 4000000 in
theorem au4_1 {Z : State} {a0 : Array Value} (hw : ∀ d ∈ tables_1, d.before a0 Z = true) (ρ : Nat → Nat) (n0 : Nat) (b1 : Int32) (b2 : Int32) (b3 : Int32) (b4 : Int32) (e0 : Int32) (e1 : Int32) (e2 : Int32) (e3 : Int32) (e4 : Int32) (v0 : Int32) (v1 : Int32) (v2 : Int32) (v3 : Int32) (v4 : Int32) (u : Nat) : WGo (g4 Z ρ n0 4 u) (0, [wR 3], [], [(wAI [.int 0, (.int b1), (.int b2), (.int b3), (.int b4)]), (wAI [(.int e0), (.int e1), (.int e2), (.int e3), (.int e4)]), (wAI [(.int v0), (.int v1), (.int v2), (.int v3), (.int v4)]), (.inr (cn0, [(fk0, .null), (fk1, .null), (fk2, .long 0), (fk3, .int 0), (fk4, .long 0)]))], u) (fun v σ' u' => v = none ∧ [(wAI [.int 0, (.int b1), (.int b2), (.int b3), (.int b4)]), (wAI [(.int e0), (.int e1), (.int e2), (.int e3), (.int e4)]), (wAI [(.int v0), (.int v1), (.int v2), (.int v3), (.int v4)]), (.inr (cn0, [(fk0, .ref 4), (fk1, .ref 5), (fk2, .long (-9223372036854775808)), (fk3, .int 0), (fk4, .long 0)])), (wAJ [.long 0, .long 0, .long 0, .long 0]), (wAJ [.long 0, .long 0, .long 0, .long 0])] = σ' ∧ ((u + 4) + 4) = u') := by
  refine .s (.aloadN a4_0 rfl rfl) <| .s (.initO a4_1 (wd hw 22 rfl) (wd hw 23 rfl) (wd hw 24 rfl) rfl (Nat.le_of_ble_eq_true rfl) (Nat.le_of_ble_eq_true rfl)) <| .s (.aloadN a4_4 rfl rfl) <| .s (.iconst (4 : Int32) a4_5 rfl) <| .s (.newP (k := 4) (4 : Int32) 4 a4_6 (wd hw 25 rfl) (by decide) rfl (by decide) rfl (by decide)) ?_
  show WGo _ (8, [wR 3], [.ref 4, .ref 3], [(wAI [.int 0, (.int b1), (.int b2), (.int b3), (.int b4)]), (wAI [(.int e0), (.int e1), (.int e2), (.int e3), (.int e4)]), (wAI [(.int v0), (.int v1), (.int v2), (.int v3), (.int v4)]), (.inr (cn0, [(fk0, .null), (fk1, .null), (fk2, .long 0), (fk3, .int 0), (fk4, .long 0)])), (wAJ [.long 0, .long 0, .long 0, .long 0])], (u + 4)) _
  refine .s (.putF (ty := (.array .long)) 0 (.ref 4) a4_8 (wd hw 26 rfl) rfl rfl (Or.inl (wd hw 27 rfl)) (wd hw 17 rfl) (by decide) rfl rfl) ?_
  show WGo _ (11, [wR 3], [], [(wAI [.int 0, (.int b1), (.int b2), (.int b3), (.int b4)]), (wAI [(.int e0), (.int e1), (.int e2), (.int e3), (.int e4)]), (wAI [(.int v0), (.int v1), (.int v2), (.int v3), (.int v4)]), (.inr (cn0, [(fk0, .ref 4), (fk1, .null), (fk2, .long 0), (fk3, .int 0), (fk4, .long 0)])), (wAJ [.long 0, .long 0, .long 0, .long 0])], (u + 4)) _
  refine .s (.aloadN a4_11 rfl rfl) <| .s (.iconst (4 : Int32) a4_12 rfl) <| .s (.newP (k := 5) (4 : Int32) 4 a4_13 (wd hw 25 rfl) (by decide) rfl (by decide) rfl (by decide)) ?_
  show WGo _ (15, [wR 3], [.ref 5, .ref 3], [(wAI [.int 0, (.int b1), (.int b2), (.int b3), (.int b4)]), (wAI [(.int e0), (.int e1), (.int e2), (.int e3), (.int e4)]), (wAI [(.int v0), (.int v1), (.int v2), (.int v3), (.int v4)]), (.inr (cn0, [(fk0, .ref 4), (fk1, .null), (fk2, .long 0), (fk3, .int 0), (fk4, .long 0)])), (wAJ [.long 0, .long 0, .long 0, .long 0]), (wAJ [.long 0, .long 0, .long 0, .long 0])], ((u + 4) + 4)) _
  refine .s (.putF (ty := (.array .long)) 1 (.ref 5) a4_15 (wd hw 28 rfl) rfl rfl (Or.inl (wd hw 29 rfl)) (wd hw 17 rfl) (by decide) rfl rfl) ?_
  show WGo _ (18, [wR 3], [], [(wAI [.int 0, (.int b1), (.int b2), (.int b3), (.int b4)]), (wAI [(.int e0), (.int e1), (.int e2), (.int e3), (.int e4)]), (wAI [(.int v0), (.int v1), (.int v2), (.int v3), (.int v4)]), (.inr (cn0, [(fk0, .ref 4), (fk1, .ref 5), (fk2, .long 0), (fk3, .int 0), (fk4, .long 0)])), (wAJ [.long 0, .long 0, .long 0, .long 0]), (wAJ [.long 0, .long 0, .long 0, .long 0])], ((u + 4) + 4)) _
  refine .s (.aloadN a4_18 rfl rfl) <| .s (.ldc2 a4_19 (wd hw 30 rfl)) <| .s (.putF (ty := .long) 2 (.long (-9223372036854775808)) a4_22 (wd hw 31 rfl) rfl rfl (Or.inl (wd hw 32 rfl)) (wd hw 17 rfl) (by decide) rfl rfl) ?_
  show WGo _ (25, [wR 3], [], [(wAI [.int 0, (.int b1), (.int b2), (.int b3), (.int b4)]), (wAI [(.int e0), (.int e1), (.int e2), (.int e3), (.int e4)]), (wAI [(.int v0), (.int v1), (.int v2), (.int v3), (.int v4)]), (.inr (cn0, [(fk0, .ref 4), (fk1, .ref 5), (fk2, .long (-9223372036854775808)), (fk3, .int 0), (fk4, .long 0)])), (wAJ [.long 0, .long 0, .long 0, .long 0]), (wAJ [.long 0, .long 0, .long 0, .long 0])], ((u + 4) + 4)) _
  refine .vreturn a4_25 rfl ?_
  exact ⟨rfl, rfl, rfl⟩
set_option maxHeartbeats 40000000 in
theorem seg2 (Z : State) (a0 : Array Value) (hw : ∀ d ∈ tables_1, d.before a0 Z = true) (n0 : Nat) (bb ss pp w base : Int64) (b1 b2 b3 b4 e0 e1 e2 e3 e4 v0 v1 v2 v3 v4 : Int32) (hr : Room42 base w) (q1 : 0 ≤ b1.toInt) (q2 : b1.toInt ≤ b2.toInt) (q3 : b2.toInt ≤ b3.toInt) (q4 : b3.toInt ≤ b4.toInt) (s0 : 0 ≤ e0.toInt) (s1 : b1.toInt ≤ e1.toInt) (s2 : b2.toInt ≤ e2.toInt) (s3 : b3.toInt ≤ e3.toInt) (s4 : b4.toInt ≤ e4.toInt) (t0 : e0.toInt ≤ v0.toInt) (r0 : v0.toInt ≤ 42) (t1 : e1.toInt ≤ v1.toInt) (r1 : v1.toInt ≤ 42) (t2 : e2.toInt ≤ v2.toInt) (r2 : v2.toInt ≤ 42) (t3 : e3.toInt ≤ v3.toInt) (r3 : v3.toInt ≤ 42) (t4 : e4.toInt ≤ v4.toInt) (r4 : v4.toInt ≤ 42) : WGo (g0 Z (fun k => n0 + k) n0 0 0) (273, [wJ bb, wS, wJ ss, wS, wJ pp, wS, wR 0, wR 1, wR 2, wJ w, wS, wJ base, wS, wU, wU, wU, wU, wU, wU], [], [(wAI [.int 0, (.int b1), (.int b2), (.int b3), (.int b4)]), (wAI [(.int e0), (.int e1), (.int e2), (.int e3), (.int e4)]), (wAI [(.int v0), (.int v1), (.int v2), (.int v3), (.int v4)])], 15) (fun v σ' u' => v = some (.int 1) ∧ σ'.length ≤ 24 ∧ u' ≤ 192) := by
  have z0 : (0 : Int32).toInt = 0 := rfl
  have x01 := ovv_rng e0 b1 v1 v0
  have x02 := ovv_rng e0 b2 v2 v0
  have x12 := ovv_rng e1 b2 v2 v1
  have x03 := ovv_rng e0 b3 v3 v0
  have x13 := ovv_rng e1 b3 v3 v1
  have x23 := ovv_rng e2 b3 v3 v2
  have x04 := ovv_rng e0 b4 v4 v0
  have x14 := ovv_rng e1 b4 v4 v1
  have x24 := ovv_rng e2 b4 v4 v2
  have x34 := ovv_rng e3 b4 v4 v3
  have k1_0 : cn (tv base w b1) (tv base w v1) ([] : List Pr) = 0 := rfl
  have k1_1 : cn (tv base w b1) (tv base w v1) (fil (tv base w (0 : Int32)) ([] : List Pr) ++ [((tv base w e0), (tv base w v0))]) = ((0 : Int64) + (ovv e0 b1 v1 v0).toInt64) := by rw [cn_app, cn_fil (tv_nlt hr (by omega) (by omega) (by omega)), k1_0, cn_cons, cn_nil, ind_eq hr (by omega) (by omega) (by omega) (by omega) (by omega) (by omega) (by omega), Int64.add_zero]
  have k2_0 : cn (tv base w b2) (tv base w v2) ([] : List Pr) = 0 := rfl
  have k2_1 : cn (tv base w b2) (tv base w v2) (fil (tv base w (0 : Int32)) ([] : List Pr) ++ [((tv base w e0), (tv base w v0))]) = ((0 : Int64) + (ovv e0 b2 v2 v0).toInt64) := by rw [cn_app, cn_fil (tv_nlt hr (by omega) (by omega) (by omega)), k2_0, cn_cons, cn_nil, ind_eq hr (by omega) (by omega) (by omega) (by omega) (by omega) (by omega) (by omega), Int64.add_zero]
  have k2_2 : cn (tv base w b2) (tv base w v2) (fil (tv base w b1) (fil (tv base w (0 : Int32)) ([] : List Pr) ++ [((tv base w e0), (tv base w v0))]) ++ [((tv base w e1), (tv base w v1))]) = (((0 : Int64) + (ovv e0 b2 v2 v0).toInt64) + (ovv e1 b2 v2 v1).toInt64) := by rw [cn_app, cn_fil (tv_nlt hr (by omega) (by omega) (by omega)), k2_1, cn_cons, cn_nil, ind_eq hr (by omega) (by omega) (by omega) (by omega) (by omega) (by omega) (by omega), Int64.add_zero]
  have k3_0 : cn (tv base w b3) (tv base w v3) ([] : List Pr) = 0 := rfl
  have k3_1 : cn (tv base w b3) (tv base w v3) (fil (tv base w (0 : Int32)) ([] : List Pr) ++ [((tv base w e0), (tv base w v0))]) = ((0 : Int64) + (ovv e0 b3 v3 v0).toInt64) := by rw [cn_app, cn_fil (tv_nlt hr (by omega) (by omega) (by omega)), k3_0, cn_cons, cn_nil, ind_eq hr (by omega) (by omega) (by omega) (by omega) (by omega) (by omega) (by omega), Int64.add_zero]
  have k3_2 : cn (tv base w b3) (tv base w v3) (fil (tv base w b1) (fil (tv base w (0 : Int32)) ([] : List Pr) ++ [((tv base w e0), (tv base w v0))]) ++ [((tv base w e1), (tv base w v1))]) = (((0 : Int64) + (ovv e0 b3 v3 v0).toInt64) + (ovv e1 b3 v3 v1).toInt64) := by rw [cn_app, cn_fil (tv_nlt hr (by omega) (by omega) (by omega)), k3_1, cn_cons, cn_nil, ind_eq hr (by omega) (by omega) (by omega) (by omega) (by omega) (by omega) (by omega), Int64.add_zero]
  have k3_3 : cn (tv base w b3) (tv base w v3) (fil (tv base w b2) (fil (tv base w b1) (fil (tv base w (0 : Int32)) ([] : List Pr) ++ [((tv base w e0), (tv base w v0))]) ++ [((tv base w e1), (tv base w v1))]) ++ [((tv base w e2), (tv base w v2))]) = ((((0 : Int64) + (ovv e0 b3 v3 v0).toInt64) + (ovv e1 b3 v3 v1).toInt64) + (ovv e2 b3 v3 v2).toInt64) := by rw [cn_app, cn_fil (tv_nlt hr (by omega) (by omega) (by omega)), k3_2, cn_cons, cn_nil, ind_eq hr (by omega) (by omega) (by omega) (by omega) (by omega) (by omega) (by omega), Int64.add_zero]
  have k4_0 : cn (tv base w b4) (tv base w v4) ([] : List Pr) = 0 := rfl
  have k4_1 : cn (tv base w b4) (tv base w v4) (fil (tv base w (0 : Int32)) ([] : List Pr) ++ [((tv base w e0), (tv base w v0))]) = ((0 : Int64) + (ovv e0 b4 v4 v0).toInt64) := by rw [cn_app, cn_fil (tv_nlt hr (by omega) (by omega) (by omega)), k4_0, cn_cons, cn_nil, ind_eq hr (by omega) (by omega) (by omega) (by omega) (by omega) (by omega) (by omega), Int64.add_zero]
  have k4_2 : cn (tv base w b4) (tv base w v4) (fil (tv base w b1) (fil (tv base w (0 : Int32)) ([] : List Pr) ++ [((tv base w e0), (tv base w v0))]) ++ [((tv base w e1), (tv base w v1))]) = (((0 : Int64) + (ovv e0 b4 v4 v0).toInt64) + (ovv e1 b4 v4 v1).toInt64) := by rw [cn_app, cn_fil (tv_nlt hr (by omega) (by omega) (by omega)), k4_1, cn_cons, cn_nil, ind_eq hr (by omega) (by omega) (by omega) (by omega) (by omega) (by omega) (by omega), Int64.add_zero]
  have k4_3 : cn (tv base w b4) (tv base w v4) (fil (tv base w b2) (fil (tv base w b1) (fil (tv base w (0 : Int32)) ([] : List Pr) ++ [((tv base w e0), (tv base w v0))]) ++ [((tv base w e1), (tv base w v1))]) ++ [((tv base w e2), (tv base w v2))]) = ((((0 : Int64) + (ovv e0 b4 v4 v0).toInt64) + (ovv e1 b4 v4 v1).toInt64) + (ovv e2 b4 v4 v2).toInt64) := by rw [cn_app, cn_fil (tv_nlt hr (by omega) (by omega) (by omega)), k4_2, cn_cons, cn_nil, ind_eq hr (by omega) (by omega) (by omega) (by omega) (by omega) (by omega) (by omega), Int64.add_zero]
  have k4_4 : cn (tv base w b4) (tv base w v4) (fil (tv base w b3) (fil (tv base w b2) (fil (tv base w b1) (fil (tv base w (0 : Int32)) ([] : List Pr) ++ [((tv base w e0), (tv base w v0))]) ++ [((tv base w e1), (tv base w v1))]) ++ [((tv base w e2), (tv base w v2))]) ++ [((tv base w e3), (tv base w v3))]) = (((((0 : Int64) + (ovv e0 b4 v4 v0).toInt64) + (ovv e1 b4 v4 v1).toInt64) + (ovv e2 b4 v4 v2).toInt64) + (ovv e3 b4 v4 v3).toInt64) := by rw [cn_app, cn_fil (tv_nlt hr (by omega) (by omega) (by omega)), k4_3, cn_cons, cn_nil, ind_eq hr (by omega) (by omega) (by omega) (by omega) (by omega) (by omega) (by omega), Int64.add_zero]
  have hk0 : ([] : List Pr).length ≤ 0 := by decide
  have hk1 : (fil (tv base w (0 : Int32)) ([] : List Pr) ++ [((tv base w e0), (tv base w v0))]).length ≤ 1 := by have := fil_len (tv base w (0 : Int32)) ([] : List Pr); simp only [List.length_append, List.length_cons, List.length_nil]; omega
  have hk2 : (fil (tv base w b1) (fil (tv base w (0 : Int32)) ([] : List Pr) ++ [((tv base w e0), (tv base w v0))]) ++ [((tv base w e1), (tv base w v1))]).length ≤ 2 := by have := fil_len (tv base w b1) (fil (tv base w (0 : Int32)) ([] : List Pr) ++ [((tv base w e0), (tv base w v0))]); simp only [List.length_append, List.length_cons, List.length_nil]; omega
  have hk3 : (fil (tv base w b2) (fil (tv base w b1) (fil (tv base w (0 : Int32)) ([] : List Pr) ++ [((tv base w e0), (tv base w v0))]) ++ [((tv base w e1), (tv base w v1))]) ++ [((tv base w e2), (tv base w v2))]).length ≤ 3 := by have := fil_len (tv base w b2) (fil (tv base w b1) (fil (tv base w (0 : Int32)) ([] : List Pr) ++ [((tv base w e0), (tv base w v0))]) ++ [((tv base w e1), (tv base w v1))]); simp only [List.length_append, List.length_cons, List.length_nil]; omega
  have hk4 : (fil (tv base w b3) (fil (tv base w b2) (fil (tv base w b1) (fil (tv base w (0 : Int32)) ([] : List Pr) ++ [((tv base w e0), (tv base w v0))]) ++ [((tv base w e1), (tv base w v1))]) ++ [((tv base w e2), (tv base w v2))]) ++ [((tv base w e3), (tv base w v3))]).length ≤ 4 := by have := fil_len (tv base w b3) (fil (tv base w b2) (fil (tv base w b1) (fil (tv base w (0 : Int32)) ([] : List Pr) ++ [((tv base w e0), (tv base w v0))]) ++ [((tv base w e1), (tv base w v1))]) ++ [((tv base w e2), (tv base w v2))]); simp only [List.length_append, List.length_cons, List.length_nil]; omega
  have yy1 : 0 ≤ ((ovv e0 b1 v1 v0)).toInt ∧ ((ovv e0 b1 v1 v0)).toInt ≤ 1 := x01
  have yy2 : 0 ≤ (((ovv e0 b1 v1 v0) + (ovv e0 b2 v2 v0))).toInt ∧ (((ovv e0 b1 v1 v0) + (ovv e0 b2 v2 v0))).toInt ≤ 2 := sm_add yy1 x02 (by decide) (by decide)
  have yy3 : 0 ≤ ((((ovv e0 b1 v1 v0) + (ovv e0 b2 v2 v0)) + (ovv e1 b2 v2 v1))).toInt ∧ ((((ovv e0 b1 v1 v0) + (ovv e0 b2 v2 v0)) + (ovv e1 b2 v2 v1))).toInt ≤ 3 := sm_add yy2 x12 (by decide) (by decide)
  have yy4 : 0 ≤ (((((ovv e0 b1 v1 v0) + (ovv e0 b2 v2 v0)) + (ovv e1 b2 v2 v1)) + (ovv e0 b3 v3 v0))).toInt ∧ (((((ovv e0 b1 v1 v0) + (ovv e0 b2 v2 v0)) + (ovv e1 b2 v2 v1)) + (ovv e0 b3 v3 v0))).toInt ≤ 4 := sm_add yy3 x03 (by decide) (by decide)
  have yy5 : 0 ≤ ((((((ovv e0 b1 v1 v0) + (ovv e0 b2 v2 v0)) + (ovv e1 b2 v2 v1)) + (ovv e0 b3 v3 v0)) + (ovv e1 b3 v3 v1))).toInt ∧ ((((((ovv e0 b1 v1 v0) + (ovv e0 b2 v2 v0)) + (ovv e1 b2 v2 v1)) + (ovv e0 b3 v3 v0)) + (ovv e1 b3 v3 v1))).toInt ≤ 5 := sm_add yy4 x13 (by decide) (by decide)
  have yy6 : 0 ≤ (((((((ovv e0 b1 v1 v0) + (ovv e0 b2 v2 v0)) + (ovv e1 b2 v2 v1)) + (ovv e0 b3 v3 v0)) + (ovv e1 b3 v3 v1)) + (ovv e2 b3 v3 v2))).toInt ∧ (((((((ovv e0 b1 v1 v0) + (ovv e0 b2 v2 v0)) + (ovv e1 b2 v2 v1)) + (ovv e0 b3 v3 v0)) + (ovv e1 b3 v3 v1)) + (ovv e2 b3 v3 v2))).toInt ≤ 6 := sm_add yy5 x23 (by decide) (by decide)
  have yy7 : 0 ≤ ((((((((ovv e0 b1 v1 v0) + (ovv e0 b2 v2 v0)) + (ovv e1 b2 v2 v1)) + (ovv e0 b3 v3 v0)) + (ovv e1 b3 v3 v1)) + (ovv e2 b3 v3 v2)) + (ovv e0 b4 v4 v0))).toInt ∧ ((((((((ovv e0 b1 v1 v0) + (ovv e0 b2 v2 v0)) + (ovv e1 b2 v2 v1)) + (ovv e0 b3 v3 v0)) + (ovv e1 b3 v3 v1)) + (ovv e2 b3 v3 v2)) + (ovv e0 b4 v4 v0))).toInt ≤ 7 := sm_add yy6 x04 (by decide) (by decide)
  have yy8 : 0 ≤ (((((((((ovv e0 b1 v1 v0) + (ovv e0 b2 v2 v0)) + (ovv e1 b2 v2 v1)) + (ovv e0 b3 v3 v0)) + (ovv e1 b3 v3 v1)) + (ovv e2 b3 v3 v2)) + (ovv e0 b4 v4 v0)) + (ovv e1 b4 v4 v1))).toInt ∧ (((((((((ovv e0 b1 v1 v0) + (ovv e0 b2 v2 v0)) + (ovv e1 b2 v2 v1)) + (ovv e0 b3 v3 v0)) + (ovv e1 b3 v3 v1)) + (ovv e2 b3 v3 v2)) + (ovv e0 b4 v4 v0)) + (ovv e1 b4 v4 v1))).toInt ≤ 8 := sm_add yy7 x14 (by decide) (by decide)
  have yy9 : 0 ≤ ((((((((((ovv e0 b1 v1 v0) + (ovv e0 b2 v2 v0)) + (ovv e1 b2 v2 v1)) + (ovv e0 b3 v3 v0)) + (ovv e1 b3 v3 v1)) + (ovv e2 b3 v3 v2)) + (ovv e0 b4 v4 v0)) + (ovv e1 b4 v4 v1)) + (ovv e2 b4 v4 v2))).toInt ∧ ((((((((((ovv e0 b1 v1 v0) + (ovv e0 b2 v2 v0)) + (ovv e1 b2 v2 v1)) + (ovv e0 b3 v3 v0)) + (ovv e1 b3 v3 v1)) + (ovv e2 b3 v3 v2)) + (ovv e0 b4 v4 v0)) + (ovv e1 b4 v4 v1)) + (ovv e2 b4 v4 v2))).toInt ≤ 9 := sm_add yy8 x24 (by decide) (by decide)
  have yy10 : 0 ≤ (((((((((((ovv e0 b1 v1 v0) + (ovv e0 b2 v2 v0)) + (ovv e1 b2 v2 v1)) + (ovv e0 b3 v3 v0)) + (ovv e1 b3 v3 v1)) + (ovv e2 b3 v3 v2)) + (ovv e0 b4 v4 v0)) + (ovv e1 b4 v4 v1)) + (ovv e2 b4 v4 v2)) + (ovv e3 b4 v4 v3))).toInt ∧ (((((((((((ovv e0 b1 v1 v0) + (ovv e0 b2 v2 v0)) + (ovv e1 b2 v2 v1)) + (ovv e0 b3 v3 v0)) + (ovv e1 b3 v3 v1)) + (ovv e2 b3 v3 v2)) + (ovv e0 b4 v4 v0)) + (ovv e1 b4 v4 v1)) + (ovv e2 b4 v4 v2)) + (ovv e3 b4 v4 v3))).toInt ≤ 10 := sm_add yy9 x34 (by decide) (by decide)
  have hc1 : (((0 : Int64) + cn (tv base w (0 : Int32)) (tv base w v0) ([] : List Pr)) + cn (tv base w b1) (tv base w v1) (fil (tv base w (0 : Int32)) ([] : List Pr) ++ [((tv base w e0), (tv base w v0))])) = ((ovv e0 b1 v1 v0)).toInt64 := by
    rw [show cn (tv base w (0 : Int32)) (tv base w v0) ([] : List Pr) = 0 from rfl, k1_1]
    simp only [Int64.zero_add, Int64.add_zero]
  have hc2 : ((((0 : Int64) + cn (tv base w (0 : Int32)) (tv base w v0) ([] : List Pr)) + cn (tv base w b1) (tv base w v1) (fil (tv base w (0 : Int32)) ([] : List Pr) ++ [((tv base w e0), (tv base w v0))])) + cn (tv base w b2) (tv base w v2) (fil (tv base w b1) (fil (tv base w (0 : Int32)) ([] : List Pr) ++ [((tv base w e0), (tv base w v0))]) ++ [((tv base w e1), (tv base w v1))])) = ((((ovv e0 b1 v1 v0) + (ovv e0 b2 v2 v0)) + (ovv e1 b2 v2 v1))).toInt64 := by
    rw [hc1, k2_2]
    have sm0_2 : 0 ≤ ((ovv e0 b1 v1 v0)).toInt ∧ ((ovv e0 b1 v1 v0)).toInt ≤ 100 := ⟨yy1.1, Int.le_trans yy1.2 (by decide)⟩
    have sm1_2 : 0 ≤ (((ovv e0 b1 v1 v0) + (ovv e0 b2 v2 v0))).toInt ∧ (((ovv e0 b1 v1 v0) + (ovv e0 b2 v2 v0))).toInt ≤ 100 := ⟨yy2.1, Int.le_trans yy2.2 (by decide)⟩
    rw [i2l_add (a := ((ovv e0 b1 v1 v0) + (ovv e0 b2 v2 v0))) (b := (ovv e1 b2 v2 v1)) (sm1_2).1 (sm1_2).2 x12.1 (Int.le_trans x12.2 (by decide)), i2l_add (a := (ovv e0 b1 v1 v0)) (b := (ovv e0 b2 v2 v0)) (sm0_2).1 (sm0_2).2 x02.1 (Int.le_trans x02.2 (by decide))]
    simp only [Int64.zero_add, Int64.add_assoc]
  have hc3 : (((((0 : Int64) + cn (tv base w (0 : Int32)) (tv base w v0) ([] : List Pr)) + cn (tv base w b1) (tv base w v1) (fil (tv base w (0 : Int32)) ([] : List Pr) ++ [((tv base w e0), (tv base w v0))])) + cn (tv base w b2) (tv base w v2) (fil (tv base w b1) (fil (tv base w (0 : Int32)) ([] : List Pr) ++ [((tv base w e0), (tv base w v0))]) ++ [((tv base w e1), (tv base w v1))])) + cn (tv base w b3) (tv base w v3) (fil (tv base w b2) (fil (tv base w b1) (fil (tv base w (0 : Int32)) ([] : List Pr) ++ [((tv base w e0), (tv base w v0))]) ++ [((tv base w e1), (tv base w v1))]) ++ [((tv base w e2), (tv base w v2))])) = (((((((ovv e0 b1 v1 v0) + (ovv e0 b2 v2 v0)) + (ovv e1 b2 v2 v1)) + (ovv e0 b3 v3 v0)) + (ovv e1 b3 v3 v1)) + (ovv e2 b3 v3 v2))).toInt64 := by
    rw [hc2, k3_3]
    have sm0_3 : 0 ≤ ((((ovv e0 b1 v1 v0) + (ovv e0 b2 v2 v0)) + (ovv e1 b2 v2 v1))).toInt ∧ ((((ovv e0 b1 v1 v0) + (ovv e0 b2 v2 v0)) + (ovv e1 b2 v2 v1))).toInt ≤ 100 := ⟨yy3.1, Int.le_trans yy3.2 (by decide)⟩
    have sm1_3 : 0 ≤ (((((ovv e0 b1 v1 v0) + (ovv e0 b2 v2 v0)) + (ovv e1 b2 v2 v1)) + (ovv e0 b3 v3 v0))).toInt ∧ (((((ovv e0 b1 v1 v0) + (ovv e0 b2 v2 v0)) + (ovv e1 b2 v2 v1)) + (ovv e0 b3 v3 v0))).toInt ≤ 100 := ⟨yy4.1, Int.le_trans yy4.2 (by decide)⟩
    have sm2_3 : 0 ≤ ((((((ovv e0 b1 v1 v0) + (ovv e0 b2 v2 v0)) + (ovv e1 b2 v2 v1)) + (ovv e0 b3 v3 v0)) + (ovv e1 b3 v3 v1))).toInt ∧ ((((((ovv e0 b1 v1 v0) + (ovv e0 b2 v2 v0)) + (ovv e1 b2 v2 v1)) + (ovv e0 b3 v3 v0)) + (ovv e1 b3 v3 v1))).toInt ≤ 100 := ⟨yy5.1, Int.le_trans yy5.2 (by decide)⟩
    rw [i2l_add (a := (((((ovv e0 b1 v1 v0) + (ovv e0 b2 v2 v0)) + (ovv e1 b2 v2 v1)) + (ovv e0 b3 v3 v0)) + (ovv e1 b3 v3 v1))) (b := (ovv e2 b3 v3 v2)) (sm2_3).1 (sm2_3).2 x23.1 (Int.le_trans x23.2 (by decide)), i2l_add (a := ((((ovv e0 b1 v1 v0) + (ovv e0 b2 v2 v0)) + (ovv e1 b2 v2 v1)) + (ovv e0 b3 v3 v0))) (b := (ovv e1 b3 v3 v1)) (sm1_3).1 (sm1_3).2 x13.1 (Int.le_trans x13.2 (by decide)), i2l_add (a := (((ovv e0 b1 v1 v0) + (ovv e0 b2 v2 v0)) + (ovv e1 b2 v2 v1))) (b := (ovv e0 b3 v3 v0)) (sm0_3).1 (sm0_3).2 x03.1 (Int.le_trans x03.2 (by decide))]
    simp only [Int64.zero_add, Int64.add_assoc]
  have hc4 : ((((((0 : Int64) + cn (tv base w (0 : Int32)) (tv base w v0) ([] : List Pr)) + cn (tv base w b1) (tv base w v1) (fil (tv base w (0 : Int32)) ([] : List Pr) ++ [((tv base w e0), (tv base w v0))])) + cn (tv base w b2) (tv base w v2) (fil (tv base w b1) (fil (tv base w (0 : Int32)) ([] : List Pr) ++ [((tv base w e0), (tv base w v0))]) ++ [((tv base w e1), (tv base w v1))])) + cn (tv base w b3) (tv base w v3) (fil (tv base w b2) (fil (tv base w b1) (fil (tv base w (0 : Int32)) ([] : List Pr) ++ [((tv base w e0), (tv base w v0))]) ++ [((tv base w e1), (tv base w v1))]) ++ [((tv base w e2), (tv base w v2))])) + cn (tv base w b4) (tv base w v4) (fil (tv base w b3) (fil (tv base w b2) (fil (tv base w b1) (fil (tv base w (0 : Int32)) ([] : List Pr) ++ [((tv base w e0), (tv base w v0))]) ++ [((tv base w e1), (tv base w v1))]) ++ [((tv base w e2), (tv base w v2))]) ++ [((tv base w e3), (tv base w v3))])) = (((((((((((ovv e0 b1 v1 v0) + (ovv e0 b2 v2 v0)) + (ovv e1 b2 v2 v1)) + (ovv e0 b3 v3 v0)) + (ovv e1 b3 v3 v1)) + (ovv e2 b3 v3 v2)) + (ovv e0 b4 v4 v0)) + (ovv e1 b4 v4 v1)) + (ovv e2 b4 v4 v2)) + (ovv e3 b4 v4 v3))).toInt64 := by
    rw [hc3, k4_4]
    have sm0_4 : 0 ≤ (((((((ovv e0 b1 v1 v0) + (ovv e0 b2 v2 v0)) + (ovv e1 b2 v2 v1)) + (ovv e0 b3 v3 v0)) + (ovv e1 b3 v3 v1)) + (ovv e2 b3 v3 v2))).toInt ∧ (((((((ovv e0 b1 v1 v0) + (ovv e0 b2 v2 v0)) + (ovv e1 b2 v2 v1)) + (ovv e0 b3 v3 v0)) + (ovv e1 b3 v3 v1)) + (ovv e2 b3 v3 v2))).toInt ≤ 100 := ⟨yy6.1, Int.le_trans yy6.2 (by decide)⟩
    have sm1_4 : 0 ≤ ((((((((ovv e0 b1 v1 v0) + (ovv e0 b2 v2 v0)) + (ovv e1 b2 v2 v1)) + (ovv e0 b3 v3 v0)) + (ovv e1 b3 v3 v1)) + (ovv e2 b3 v3 v2)) + (ovv e0 b4 v4 v0))).toInt ∧ ((((((((ovv e0 b1 v1 v0) + (ovv e0 b2 v2 v0)) + (ovv e1 b2 v2 v1)) + (ovv e0 b3 v3 v0)) + (ovv e1 b3 v3 v1)) + (ovv e2 b3 v3 v2)) + (ovv e0 b4 v4 v0))).toInt ≤ 100 := ⟨yy7.1, Int.le_trans yy7.2 (by decide)⟩
    have sm2_4 : 0 ≤ (((((((((ovv e0 b1 v1 v0) + (ovv e0 b2 v2 v0)) + (ovv e1 b2 v2 v1)) + (ovv e0 b3 v3 v0)) + (ovv e1 b3 v3 v1)) + (ovv e2 b3 v3 v2)) + (ovv e0 b4 v4 v0)) + (ovv e1 b4 v4 v1))).toInt ∧ (((((((((ovv e0 b1 v1 v0) + (ovv e0 b2 v2 v0)) + (ovv e1 b2 v2 v1)) + (ovv e0 b3 v3 v0)) + (ovv e1 b3 v3 v1)) + (ovv e2 b3 v3 v2)) + (ovv e0 b4 v4 v0)) + (ovv e1 b4 v4 v1))).toInt ≤ 100 := ⟨yy8.1, Int.le_trans yy8.2 (by decide)⟩
    have sm3_4 : 0 ≤ ((((((((((ovv e0 b1 v1 v0) + (ovv e0 b2 v2 v0)) + (ovv e1 b2 v2 v1)) + (ovv e0 b3 v3 v0)) + (ovv e1 b3 v3 v1)) + (ovv e2 b3 v3 v2)) + (ovv e0 b4 v4 v0)) + (ovv e1 b4 v4 v1)) + (ovv e2 b4 v4 v2))).toInt ∧ ((((((((((ovv e0 b1 v1 v0) + (ovv e0 b2 v2 v0)) + (ovv e1 b2 v2 v1)) + (ovv e0 b3 v3 v0)) + (ovv e1 b3 v3 v1)) + (ovv e2 b3 v3 v2)) + (ovv e0 b4 v4 v0)) + (ovv e1 b4 v4 v1)) + (ovv e2 b4 v4 v2))).toInt ≤ 100 := ⟨yy9.1, Int.le_trans yy9.2 (by decide)⟩
    rw [i2l_add (a := (((((((((ovv e0 b1 v1 v0) + (ovv e0 b2 v2 v0)) + (ovv e1 b2 v2 v1)) + (ovv e0 b3 v3 v0)) + (ovv e1 b3 v3 v1)) + (ovv e2 b3 v3 v2)) + (ovv e0 b4 v4 v0)) + (ovv e1 b4 v4 v1)) + (ovv e2 b4 v4 v2))) (b := (ovv e3 b4 v4 v3)) (sm3_4).1 (sm3_4).2 x34.1 (Int.le_trans x34.2 (by decide)), i2l_add (a := ((((((((ovv e0 b1 v1 v0) + (ovv e0 b2 v2 v0)) + (ovv e1 b2 v2 v1)) + (ovv e0 b3 v3 v0)) + (ovv e1 b3 v3 v1)) + (ovv e2 b3 v3 v2)) + (ovv e0 b4 v4 v0)) + (ovv e1 b4 v4 v1))) (b := (ovv e2 b4 v4 v2)) (sm2_4).1 (sm2_4).2 x24.1 (Int.le_trans x24.2 (by decide)), i2l_add (a := (((((((ovv e0 b1 v1 v0) + (ovv e0 b2 v2 v0)) + (ovv e1 b2 v2 v1)) + (ovv e0 b3 v3 v0)) + (ovv e1 b3 v3 v1)) + (ovv e2 b3 v3 v2)) + (ovv e0 b4 v4 v0))) (b := (ovv e1 b4 v4 v1)) (sm1_4).1 (sm1_4).2 x14.1 (Int.le_trans x14.2 (by decide)), i2l_add (a := ((((((ovv e0 b1 v1 v0) + (ovv e0 b2 v2 v0)) + (ovv e1 b2 v2 v1)) + (ovv e0 b3 v3 v0)) + (ovv e1 b3 v3 v1)) + (ovv e2 b3 v3 v2))) (b := (ovv e0 b4 v4 v0)) (sm0_4).1 (sm0_4).2 x04.1 (Int.le_trans x04.2 (by decide))]
    simp only [Int64.zero_add, Int64.add_assoc]
  refine .s (.aload a0_273 rfl rfl) <| .s (.aload a0_275 rfl rfl) <| .s (.aload a0_277 rfl rfl) <| .s (.iconst (0 : Int32) a0_279 rfl) <| .s (.iconst (1 : Int32) a0_280 rfl) ?_
  refine .callS a0_281 (ok3 hw _ _ _ _) (wd hw 13 rfl) (wd hw 14 rfl) (argsL := [.ref 0, .ref 1, .ref 2, .int 0, .int 1]) (S := []) (cov01 hw _ _ b1 b2 b3 b4 e0 e1 e2 e3 e4 v0 v1 v2 v3 v4 _) rfl rfl rfl rfl rfl rfl (Nat.le_of_ble_eq_true rfl) (Nat.le_of_ble_eq_true rfl) ?_
  rintro _ _ _ ⟨rfl, rfl, rfl⟩
  show WGo _ (284, [wJ bb, wS, wJ ss, wS, wJ pp, wS, wR 0, wR 1, wR 2, wJ w, wS, wJ base, wS, wU, wU, wU, wU, wU, wU], [(.int (ovv e0 b1 v1 v0))], [(wAI [.int 0, (.int b1), (.int b2), (.int b3), (.int b4)]), (wAI [(.int e0), (.int e1), (.int e2), (.int e3), (.int e4)]), (wAI [(.int v0), (.int v1), (.int v2), (.int v3), (.int v4)])], 15) _
  refine .s (.istore (L' := [wJ bb, wS, wJ ss, wS, wJ pp, wS, wR 0, wR 1, wR 2, wJ w, wS, wJ base, wS, wI (ovv e0 b1 v1 v0), wU, wU, wU, wU, wU]) a0_284 rfl) <| .s (.iload a0_286 rfl) <| .s (.aload a0_288 rfl rfl) <| .s (.aload a0_290 rfl rfl) <| .s (.aload a0_292 rfl rfl) <| .s (.iconst (0 : Int32) a0_294 rfl) <| .s (.iconst (2 : Int32) a0_295 rfl) ?_
  refine .callS a0_296 (ok3 hw _ _ _ _) (wd hw 13 rfl) (wd hw 14 rfl) (argsL := [.ref 0, .ref 1, .ref 2, .int 0, .int 2]) (S := [(.int (ovv e0 b1 v1 v0))]) (cov02 hw _ _ b1 b2 b3 b4 e0 e1 e2 e3 e4 v0 v1 v2 v3 v4 _) rfl rfl rfl rfl rfl rfl (Nat.le_of_ble_eq_true rfl) (Nat.le_of_ble_eq_true rfl) ?_
  rintro _ _ _ ⟨rfl, rfl, rfl⟩
  show WGo _ (299, [wJ bb, wS, wJ ss, wS, wJ pp, wS, wR 0, wR 1, wR 2, wJ w, wS, wJ base, wS, wI (ovv e0 b1 v1 v0), wU, wU, wU, wU, wU], [(.int (ovv e0 b2 v2 v0)), (.int (ovv e0 b1 v1 v0))], [(wAI [.int 0, (.int b1), (.int b2), (.int b3), (.int b4)]), (wAI [(.int e0), (.int e1), (.int e2), (.int e3), (.int e4)]), (wAI [(.int v0), (.int v1), (.int v2), (.int v3), (.int v4)])], 15) _
  refine .s (.iadd a0_299) <| .s (.aload a0_300 rfl rfl) <| .s (.aload a0_302 rfl rfl) <| .s (.aload a0_304 rfl rfl) <| .s (.iconst (1 : Int32) a0_306 rfl) <| .s (.iconst (2 : Int32) a0_307 rfl) ?_
  refine .callS a0_308 (ok3 hw _ _ _ _) (wd hw 13 rfl) (wd hw 14 rfl) (argsL := [.ref 0, .ref 1, .ref 2, .int 1, .int 2]) (S := [(.int ((ovv e0 b1 v1 v0) + (ovv e0 b2 v2 v0)))]) (cov12 hw _ _ b1 b2 b3 b4 e0 e1 e2 e3 e4 v0 v1 v2 v3 v4 _) rfl rfl rfl rfl rfl rfl (Nat.le_of_ble_eq_true rfl) (Nat.le_of_ble_eq_true rfl) ?_
  rintro _ _ _ ⟨rfl, rfl, rfl⟩
  show WGo _ (311, [wJ bb, wS, wJ ss, wS, wJ pp, wS, wR 0, wR 1, wR 2, wJ w, wS, wJ base, wS, wI (ovv e0 b1 v1 v0), wU, wU, wU, wU, wU], [(.int (ovv e1 b2 v2 v1)), (.int ((ovv e0 b1 v1 v0) + (ovv e0 b2 v2 v0)))], [(wAI [.int 0, (.int b1), (.int b2), (.int b3), (.int b4)]), (wAI [(.int e0), (.int e1), (.int e2), (.int e3), (.int e4)]), (wAI [(.int v0), (.int v1), (.int v2), (.int v3), (.int v4)])], 15) _
  refine .s (.iadd a0_311) <| .s (.istore (L' := [wJ bb, wS, wJ ss, wS, wJ pp, wS, wR 0, wR 1, wR 2, wJ w, wS, wJ base, wS, wI (ovv e0 b1 v1 v0), wI (((ovv e0 b1 v1 v0) + (ovv e0 b2 v2 v0)) + (ovv e1 b2 v2 v1)), wU, wU, wU, wU]) a0_312 rfl) <| .s (.iload a0_314 rfl) <| .s (.aload a0_316 rfl rfl) <| .s (.aload a0_318 rfl rfl) <| .s (.aload a0_320 rfl rfl) <| .s (.iconst (0 : Int32) a0_322 rfl) ?_
  refine .s (.iconst (3 : Int32) a0_323 rfl) ?_
  refine .callS a0_324 (ok3 hw _ _ _ _) (wd hw 13 rfl) (wd hw 14 rfl) (argsL := [.ref 0, .ref 1, .ref 2, .int 0, .int 3]) (S := [(.int (((ovv e0 b1 v1 v0) + (ovv e0 b2 v2 v0)) + (ovv e1 b2 v2 v1)))]) (cov03 hw _ _ b1 b2 b3 b4 e0 e1 e2 e3 e4 v0 v1 v2 v3 v4 _) rfl rfl rfl rfl rfl rfl (Nat.le_of_ble_eq_true rfl) (Nat.le_of_ble_eq_true rfl) ?_
  rintro _ _ _ ⟨rfl, rfl, rfl⟩
  show WGo _ (327, [wJ bb, wS, wJ ss, wS, wJ pp, wS, wR 0, wR 1, wR 2, wJ w, wS, wJ base, wS, wI (ovv e0 b1 v1 v0), wI (((ovv e0 b1 v1 v0) + (ovv e0 b2 v2 v0)) + (ovv e1 b2 v2 v1)), wU, wU, wU, wU], [(.int (ovv e0 b3 v3 v0)), (.int (((ovv e0 b1 v1 v0) + (ovv e0 b2 v2 v0)) + (ovv e1 b2 v2 v1)))], [(wAI [.int 0, (.int b1), (.int b2), (.int b3), (.int b4)]), (wAI [(.int e0), (.int e1), (.int e2), (.int e3), (.int e4)]), (wAI [(.int v0), (.int v1), (.int v2), (.int v3), (.int v4)])], 15) _
  refine .s (.iadd a0_327) <| .s (.aload a0_328 rfl rfl) <| .s (.aload a0_330 rfl rfl) <| .s (.aload a0_332 rfl rfl) <| .s (.iconst (1 : Int32) a0_334 rfl) <| .s (.iconst (3 : Int32) a0_335 rfl) ?_
  refine .callS a0_336 (ok3 hw _ _ _ _) (wd hw 13 rfl) (wd hw 14 rfl) (argsL := [.ref 0, .ref 1, .ref 2, .int 1, .int 3]) (S := [(.int ((((ovv e0 b1 v1 v0) + (ovv e0 b2 v2 v0)) + (ovv e1 b2 v2 v1)) + (ovv e0 b3 v3 v0)))]) (cov13 hw _ _ b1 b2 b3 b4 e0 e1 e2 e3 e4 v0 v1 v2 v3 v4 _) rfl rfl rfl rfl rfl rfl (Nat.le_of_ble_eq_true rfl) (Nat.le_of_ble_eq_true rfl) ?_
  rintro _ _ _ ⟨rfl, rfl, rfl⟩
  show WGo _ (339, [wJ bb, wS, wJ ss, wS, wJ pp, wS, wR 0, wR 1, wR 2, wJ w, wS, wJ base, wS, wI (ovv e0 b1 v1 v0), wI (((ovv e0 b1 v1 v0) + (ovv e0 b2 v2 v0)) + (ovv e1 b2 v2 v1)), wU, wU, wU, wU], [(.int (ovv e1 b3 v3 v1)), (.int ((((ovv e0 b1 v1 v0) + (ovv e0 b2 v2 v0)) + (ovv e1 b2 v2 v1)) + (ovv e0 b3 v3 v0)))], [(wAI [.int 0, (.int b1), (.int b2), (.int b3), (.int b4)]), (wAI [(.int e0), (.int e1), (.int e2), (.int e3), (.int e4)]), (wAI [(.int v0), (.int v1), (.int v2), (.int v3), (.int v4)])], 15) _
  refine .s (.iadd a0_339) <| .s (.aload a0_340 rfl rfl) <| .s (.aload a0_342 rfl rfl) <| .s (.aload a0_344 rfl rfl) <| .s (.iconst (2 : Int32) a0_346 rfl) <| .s (.iconst (3 : Int32) a0_347 rfl) ?_
  refine .callS a0_348 (ok3 hw _ _ _ _) (wd hw 13 rfl) (wd hw 14 rfl) (argsL := [.ref 0, .ref 1, .ref 2, .int 2, .int 3]) (S := [(.int (((((ovv e0 b1 v1 v0) + (ovv e0 b2 v2 v0)) + (ovv e1 b2 v2 v1)) + (ovv e0 b3 v3 v0)) + (ovv e1 b3 v3 v1)))]) (cov23 hw _ _ b1 b2 b3 b4 e0 e1 e2 e3 e4 v0 v1 v2 v3 v4 _) rfl rfl rfl rfl rfl rfl (Nat.le_of_ble_eq_true rfl) (Nat.le_of_ble_eq_true rfl) ?_
  rintro _ _ _ ⟨rfl, rfl, rfl⟩
  show WGo _ (351, [wJ bb, wS, wJ ss, wS, wJ pp, wS, wR 0, wR 1, wR 2, wJ w, wS, wJ base, wS, wI (ovv e0 b1 v1 v0), wI (((ovv e0 b1 v1 v0) + (ovv e0 b2 v2 v0)) + (ovv e1 b2 v2 v1)), wU, wU, wU, wU], [(.int (ovv e2 b3 v3 v2)), (.int (((((ovv e0 b1 v1 v0) + (ovv e0 b2 v2 v0)) + (ovv e1 b2 v2 v1)) + (ovv e0 b3 v3 v0)) + (ovv e1 b3 v3 v1)))], [(wAI [.int 0, (.int b1), (.int b2), (.int b3), (.int b4)]), (wAI [(.int e0), (.int e1), (.int e2), (.int e3), (.int e4)]), (wAI [(.int v0), (.int v1), (.int v2), (.int v3), (.int v4)])], 15) _
  refine .s (.iadd a0_351) <| .s (.istore (L' := [wJ bb, wS, wJ ss, wS, wJ pp, wS, wR 0, wR 1, wR 2, wJ w, wS, wJ base, wS, wI (ovv e0 b1 v1 v0), wI (((ovv e0 b1 v1 v0) + (ovv e0 b2 v2 v0)) + (ovv e1 b2 v2 v1)), wI ((((((ovv e0 b1 v1 v0) + (ovv e0 b2 v2 v0)) + (ovv e1 b2 v2 v1)) + (ovv e0 b3 v3 v0)) + (ovv e1 b3 v3 v1)) + (ovv e2 b3 v3 v2)), wU, wU, wU]) a0_352 rfl) <| .s (.iload a0_354 rfl) <| .s (.aload a0_356 rfl rfl) <| .s (.aload a0_358 rfl rfl) <| .s (.aload a0_360 rfl rfl) <| .s (.iconst (0 : Int32) a0_362 rfl) ?_
  refine .s (.iconst (4 : Int32) a0_363 rfl) ?_
  refine .callS a0_364 (ok3 hw _ _ _ _) (wd hw 13 rfl) (wd hw 14 rfl) (argsL := [.ref 0, .ref 1, .ref 2, .int 0, .int 4]) (S := [(.int ((((((ovv e0 b1 v1 v0) + (ovv e0 b2 v2 v0)) + (ovv e1 b2 v2 v1)) + (ovv e0 b3 v3 v0)) + (ovv e1 b3 v3 v1)) + (ovv e2 b3 v3 v2)))]) (cov04 hw _ _ b1 b2 b3 b4 e0 e1 e2 e3 e4 v0 v1 v2 v3 v4 _) rfl rfl rfl rfl rfl rfl (Nat.le_of_ble_eq_true rfl) (Nat.le_of_ble_eq_true rfl) ?_
  rintro _ _ _ ⟨rfl, rfl, rfl⟩
  show WGo _ (367, [wJ bb, wS, wJ ss, wS, wJ pp, wS, wR 0, wR 1, wR 2, wJ w, wS, wJ base, wS, wI (ovv e0 b1 v1 v0), wI (((ovv e0 b1 v1 v0) + (ovv e0 b2 v2 v0)) + (ovv e1 b2 v2 v1)), wI ((((((ovv e0 b1 v1 v0) + (ovv e0 b2 v2 v0)) + (ovv e1 b2 v2 v1)) + (ovv e0 b3 v3 v0)) + (ovv e1 b3 v3 v1)) + (ovv e2 b3 v3 v2)), wU, wU, wU], [(.int (ovv e0 b4 v4 v0)), (.int ((((((ovv e0 b1 v1 v0) + (ovv e0 b2 v2 v0)) + (ovv e1 b2 v2 v1)) + (ovv e0 b3 v3 v0)) + (ovv e1 b3 v3 v1)) + (ovv e2 b3 v3 v2)))], [(wAI [.int 0, (.int b1), (.int b2), (.int b3), (.int b4)]), (wAI [(.int e0), (.int e1), (.int e2), (.int e3), (.int e4)]), (wAI [(.int v0), (.int v1), (.int v2), (.int v3), (.int v4)])], 15) _
  refine .s (.iadd a0_367) <| .s (.aload a0_368 rfl rfl) <| .s (.aload a0_370 rfl rfl) <| .s (.aload a0_372 rfl rfl) <| .s (.iconst (1 : Int32) a0_374 rfl) <| .s (.iconst (4 : Int32) a0_375 rfl) ?_
  refine .callS a0_376 (ok3 hw _ _ _ _) (wd hw 13 rfl) (wd hw 14 rfl) (argsL := [.ref 0, .ref 1, .ref 2, .int 1, .int 4]) (S := [(.int (((((((ovv e0 b1 v1 v0) + (ovv e0 b2 v2 v0)) + (ovv e1 b2 v2 v1)) + (ovv e0 b3 v3 v0)) + (ovv e1 b3 v3 v1)) + (ovv e2 b3 v3 v2)) + (ovv e0 b4 v4 v0)))]) (cov14 hw _ _ b1 b2 b3 b4 e0 e1 e2 e3 e4 v0 v1 v2 v3 v4 _) rfl rfl rfl rfl rfl rfl (Nat.le_of_ble_eq_true rfl) (Nat.le_of_ble_eq_true rfl) ?_
  rintro _ _ _ ⟨rfl, rfl, rfl⟩
  show WGo _ (379, [wJ bb, wS, wJ ss, wS, wJ pp, wS, wR 0, wR 1, wR 2, wJ w, wS, wJ base, wS, wI (ovv e0 b1 v1 v0), wI (((ovv e0 b1 v1 v0) + (ovv e0 b2 v2 v0)) + (ovv e1 b2 v2 v1)), wI ((((((ovv e0 b1 v1 v0) + (ovv e0 b2 v2 v0)) + (ovv e1 b2 v2 v1)) + (ovv e0 b3 v3 v0)) + (ovv e1 b3 v3 v1)) + (ovv e2 b3 v3 v2)), wU, wU, wU], [(.int (ovv e1 b4 v4 v1)), (.int (((((((ovv e0 b1 v1 v0) + (ovv e0 b2 v2 v0)) + (ovv e1 b2 v2 v1)) + (ovv e0 b3 v3 v0)) + (ovv e1 b3 v3 v1)) + (ovv e2 b3 v3 v2)) + (ovv e0 b4 v4 v0)))], [(wAI [.int 0, (.int b1), (.int b2), (.int b3), (.int b4)]), (wAI [(.int e0), (.int e1), (.int e2), (.int e3), (.int e4)]), (wAI [(.int v0), (.int v1), (.int v2), (.int v3), (.int v4)])], 15) _
  refine .s (.iadd a0_379) <| .s (.aload a0_380 rfl rfl) <| .s (.aload a0_382 rfl rfl) <| .s (.aload a0_384 rfl rfl) <| .s (.iconst (2 : Int32) a0_386 rfl) <| .s (.iconst (4 : Int32) a0_387 rfl) ?_
  refine .callS a0_388 (ok3 hw _ _ _ _) (wd hw 13 rfl) (wd hw 14 rfl) (argsL := [.ref 0, .ref 1, .ref 2, .int 2, .int 4]) (S := [(.int ((((((((ovv e0 b1 v1 v0) + (ovv e0 b2 v2 v0)) + (ovv e1 b2 v2 v1)) + (ovv e0 b3 v3 v0)) + (ovv e1 b3 v3 v1)) + (ovv e2 b3 v3 v2)) + (ovv e0 b4 v4 v0)) + (ovv e1 b4 v4 v1)))]) (cov24 hw _ _ b1 b2 b3 b4 e0 e1 e2 e3 e4 v0 v1 v2 v3 v4 _) rfl rfl rfl rfl rfl rfl (Nat.le_of_ble_eq_true rfl) (Nat.le_of_ble_eq_true rfl) ?_
  rintro _ _ _ ⟨rfl, rfl, rfl⟩
  show WGo _ (391, [wJ bb, wS, wJ ss, wS, wJ pp, wS, wR 0, wR 1, wR 2, wJ w, wS, wJ base, wS, wI (ovv e0 b1 v1 v0), wI (((ovv e0 b1 v1 v0) + (ovv e0 b2 v2 v0)) + (ovv e1 b2 v2 v1)), wI ((((((ovv e0 b1 v1 v0) + (ovv e0 b2 v2 v0)) + (ovv e1 b2 v2 v1)) + (ovv e0 b3 v3 v0)) + (ovv e1 b3 v3 v1)) + (ovv e2 b3 v3 v2)), wU, wU, wU], [(.int (ovv e2 b4 v4 v2)), (.int ((((((((ovv e0 b1 v1 v0) + (ovv e0 b2 v2 v0)) + (ovv e1 b2 v2 v1)) + (ovv e0 b3 v3 v0)) + (ovv e1 b3 v3 v1)) + (ovv e2 b3 v3 v2)) + (ovv e0 b4 v4 v0)) + (ovv e1 b4 v4 v1)))], [(wAI [.int 0, (.int b1), (.int b2), (.int b3), (.int b4)]), (wAI [(.int e0), (.int e1), (.int e2), (.int e3), (.int e4)]), (wAI [(.int v0), (.int v1), (.int v2), (.int v3), (.int v4)])], 15) _
  refine .s (.iadd a0_391) <| .s (.aload a0_392 rfl rfl) <| .s (.aload a0_394 rfl rfl) <| .s (.aload a0_396 rfl rfl) <| .s (.iconst (3 : Int32) a0_398 rfl) <| .s (.iconst (4 : Int32) a0_399 rfl) ?_
  refine .callS a0_400 (ok3 hw _ _ _ _) (wd hw 13 rfl) (wd hw 14 rfl) (argsL := [.ref 0, .ref 1, .ref 2, .int 3, .int 4]) (S := [(.int (((((((((ovv e0 b1 v1 v0) + (ovv e0 b2 v2 v0)) + (ovv e1 b2 v2 v1)) + (ovv e0 b3 v3 v0)) + (ovv e1 b3 v3 v1)) + (ovv e2 b3 v3 v2)) + (ovv e0 b4 v4 v0)) + (ovv e1 b4 v4 v1)) + (ovv e2 b4 v4 v2)))]) (cov34 hw _ _ b1 b2 b3 b4 e0 e1 e2 e3 e4 v0 v1 v2 v3 v4 _) rfl rfl rfl rfl rfl rfl (Nat.le_of_ble_eq_true rfl) (Nat.le_of_ble_eq_true rfl) ?_
  rintro _ _ _ ⟨rfl, rfl, rfl⟩
  show WGo _ (403, [wJ bb, wS, wJ ss, wS, wJ pp, wS, wR 0, wR 1, wR 2, wJ w, wS, wJ base, wS, wI (ovv e0 b1 v1 v0), wI (((ovv e0 b1 v1 v0) + (ovv e0 b2 v2 v0)) + (ovv e1 b2 v2 v1)), wI ((((((ovv e0 b1 v1 v0) + (ovv e0 b2 v2 v0)) + (ovv e1 b2 v2 v1)) + (ovv e0 b3 v3 v0)) + (ovv e1 b3 v3 v1)) + (ovv e2 b3 v3 v2)), wU, wU, wU], [(.int (ovv e3 b4 v4 v3)), (.int (((((((((ovv e0 b1 v1 v0) + (ovv e0 b2 v2 v0)) + (ovv e1 b2 v2 v1)) + (ovv e0 b3 v3 v0)) + (ovv e1 b3 v3 v1)) + (ovv e2 b3 v3 v2)) + (ovv e0 b4 v4 v0)) + (ovv e1 b4 v4 v1)) + (ovv e2 b4 v4 v2)))], [(wAI [.int 0, (.int b1), (.int b2), (.int b3), (.int b4)]), (wAI [(.int e0), (.int e1), (.int e2), (.int e3), (.int e4)]), (wAI [(.int v0), (.int v1), (.int v2), (.int v3), (.int v4)])], 15) _
  refine .s (.iadd a0_403) <| .s (.istore (L' := [wJ bb, wS, wJ ss, wS, wJ pp, wS, wR 0, wR 1, wR 2, wJ w, wS, wJ base, wS, wI (ovv e0 b1 v1 v0), wI (((ovv e0 b1 v1 v0) + (ovv e0 b2 v2 v0)) + (ovv e1 b2 v2 v1)), wI ((((((ovv e0 b1 v1 v0) + (ovv e0 b2 v2 v0)) + (ovv e1 b2 v2 v1)) + (ovv e0 b3 v3 v0)) + (ovv e1 b3 v3 v1)) + (ovv e2 b3 v3 v2)), wI ((((((((((ovv e0 b1 v1 v0) + (ovv e0 b2 v2 v0)) + (ovv e1 b2 v2 v1)) + (ovv e0 b3 v3 v0)) + (ovv e1 b3 v3 v1)) + (ovv e2 b3 v3 v2)) + (ovv e0 b4 v4 v0)) + (ovv e1 b4 v4 v1)) + (ovv e2 b4 v4 v2)) + (ovv e3 b4 v4 v3)), wU, wU]) a0_404 rfl) <| .s (.newO (k := 3) [(fk0, .null), (fk1, .null), (fk2, .long 0), (fk3, .int 0), (fk4, .long 0)] a0_406 (wd hw 16 rfl) (wd hw 17 rfl) (wd hw 18 rfl) ⟨⟨Or.inl (wd hw 27 rfl), (.array .long), by decide, rfl⟩, ⟨Or.inl (wd hw 29 rfl), (.array .long), by decide, rfl⟩, ⟨Or.inl (wd hw 32 rfl), .long, by decide, rfl⟩, ⟨Or.inl (wd hw 42 rfl), .int, by decide, rfl⟩, ⟨Or.inl (wd hw 49 rfl), .long, by decide, rfl⟩, trivial⟩ (by decide) rfl (by decide)) ?_
  show WGo _ (409, [wJ bb, wS, wJ ss, wS, wJ pp, wS, wR 0, wR 1, wR 2, wJ w, wS, wJ base, wS, wI (ovv e0 b1 v1 v0), wI (((ovv e0 b1 v1 v0) + (ovv e0 b2 v2 v0)) + (ovv e1 b2 v2 v1)), wI ((((((ovv e0 b1 v1 v0) + (ovv e0 b2 v2 v0)) + (ovv e1 b2 v2 v1)) + (ovv e0 b3 v3 v0)) + (ovv e1 b3 v3 v1)) + (ovv e2 b3 v3 v2)), wI ((((((((((ovv e0 b1 v1 v0) + (ovv e0 b2 v2 v0)) + (ovv e1 b2 v2 v1)) + (ovv e0 b3 v3 v0)) + (ovv e1 b3 v3 v1)) + (ovv e2 b3 v3 v2)) + (ovv e0 b4 v4 v0)) + (ovv e1 b4 v4 v1)) + (ovv e2 b4 v4 v2)) + (ovv e3 b4 v4 v3)), wU, wU], [.ref 3], [(wAI [.int 0, (.int b1), (.int b2), (.int b3), (.int b4)]), (wAI [(.int e0), (.int e1), (.int e2), (.int e3), (.int e4)]), (wAI [(.int v0), (.int v1), (.int v2), (.int v3), (.int v4)]), (.inr (cn0, [(fk0, .null), (fk1, .null), (fk2, .long 0), (fk3, .int 0), (fk4, .long 0)]))], 20) _
  refine .s (.dup a0_409 rfl) ?_
  refine .callI (k := 3) a0_410 (ok4 hw _ _ _ _) rfl rfl (wd hw 19 rfl) (wd hw 20 rfl) (by decide) (argsL := []) (S := [.ref 3]) (au4_1 hw _ _ b1 b2 b3 b4 e0 e1 e2 e3 e4 v0 v1 v2 v3 v4 _) rfl rfl rfl rfl rfl rfl (Nat.le_of_ble_eq_true rfl) (Nat.le_of_ble_eq_true rfl) ?_
  rintro _ _ _ ⟨rfl, rfl, rfl⟩
  show WGo _ (413, [wJ bb, wS, wJ ss, wS, wJ pp, wS, wR 0, wR 1, wR 2, wJ w, wS, wJ base, wS, wI (ovv e0 b1 v1 v0), wI (((ovv e0 b1 v1 v0) + (ovv e0 b2 v2 v0)) + (ovv e1 b2 v2 v1)), wI ((((((ovv e0 b1 v1 v0) + (ovv e0 b2 v2 v0)) + (ovv e1 b2 v2 v1)) + (ovv e0 b3 v3 v0)) + (ovv e1 b3 v3 v1)) + (ovv e2 b3 v3 v2)), wI ((((((((((ovv e0 b1 v1 v0) + (ovv e0 b2 v2 v0)) + (ovv e1 b2 v2 v1)) + (ovv e0 b3 v3 v0)) + (ovv e1 b3 v3 v1)) + (ovv e2 b3 v3 v2)) + (ovv e0 b4 v4 v0)) + (ovv e1 b4 v4 v1)) + (ovv e2 b4 v4 v2)) + (ovv e3 b4 v4 v3)), wU, wU], [.ref 3], [(wAI [.int 0, (.int b1), (.int b2), (.int b3), (.int b4)]), (wAI [(.int e0), (.int e1), (.int e2), (.int e3), (.int e4)]), (wAI [(.int v0), (.int v1), (.int v2), (.int v3), (.int v4)]), (.inr (cn0, [(fk0, .ref 4), (fk1, .ref 5), (fk2, .long (-9223372036854775808)), (fk3, (.int (Int32.ofNat ([] : List Pr).length))), (fk4, .long 0)])), (wAJ (ja [0, 0, 0, 0])), (wAJ (ja [0, 0, 0, 0]))], 28) _
  refine .s (.astore (L' := [wJ bb, wS, wJ ss, wS, wJ pp, wS, wR 0, wR 1, wR 2, wJ w, wS, wJ base, wS, wI (ovv e0 b1 v1 v0), wI (((ovv e0 b1 v1 v0) + (ovv e0 b2 v2 v0)) + (ovv e1 b2 v2 v1)), wI ((((((ovv e0 b1 v1 v0) + (ovv e0 b2 v2 v0)) + (ovv e1 b2 v2 v1)) + (ovv e0 b3 v3 v0)) + (ovv e1 b3 v3 v1)) + (ovv e2 b3 v3 v2)), wI ((((((((((ovv e0 b1 v1 v0) + (ovv e0 b2 v2 v0)) + (ovv e1 b2 v2 v1)) + (ovv e0 b3 v3 v0)) + (ovv e1 b3 v3 v1)) + (ovv e2 b3 v3 v2)) + (ovv e0 b4 v4 v0)) + (ovv e1 b4 v4 v1)) + (ovv e2 b4 v4 v2)) + (ovv e3 b4 v4 v3)), wR 3, wU]) a0_413 rfl rfl) <| .s (.aload a0_415 rfl rfl) <| .s (.lload a0_417 rfl) <| .s (.lload a0_419 rfl) <| .s (.aload a0_421 rfl rfl) <| .s (.iconst (0 : Int32) a0_423 rfl) <| .s (.iaload 0 a0_424 rfl (by decide) rfl rfl) ?_
  refine .callS a0_425 (ok6 hw _ _ _ _) (wd hw 33 rfl) (wd hw 34 rfl) (argsL := [(.long base), (.long w), .int 0]) (S := [.ref 3]) (ct hw _ _ base w (0 : Int32) _ _) rfl rfl rfl rfl rfl rfl (Nat.le_of_ble_eq_true rfl) (Nat.le_of_ble_eq_true rfl) ?_
  rintro _ _ _ ⟨rfl, rfl, rfl⟩
  show WGo _ (428, [wJ bb, wS, wJ ss, wS, wJ pp, wS, wR 0, wR 1, wR 2, wJ w, wS, wJ base, wS, wI (ovv e0 b1 v1 v0), wI (((ovv e0 b1 v1 v0) + (ovv e0 b2 v2 v0)) + (ovv e1 b2 v2 v1)), wI ((((((ovv e0 b1 v1 v0) + (ovv e0 b2 v2 v0)) + (ovv e1 b2 v2 v1)) + (ovv e0 b3 v3 v0)) + (ovv e1 b3 v3 v1)) + (ovv e2 b3 v3 v2)), wI ((((((((((ovv e0 b1 v1 v0) + (ovv e0 b2 v2 v0)) + (ovv e1 b2 v2 v1)) + (ovv e0 b3 v3 v0)) + (ovv e1 b3 v3 v1)) + (ovv e2 b3 v3 v2)) + (ovv e0 b4 v4 v0)) + (ovv e1 b4 v4 v1)) + (ovv e2 b4 v4 v2)) + (ovv e3 b4 v4 v3)), wR 3, wU], [(.long (tv base w (0 : Int32))), .ref 3], [(wAI [.int 0, (.int b1), (.int b2), (.int b3), (.int b4)]), (wAI [(.int e0), (.int e1), (.int e2), (.int e3), (.int e4)]), (wAI [(.int v0), (.int v1), (.int v2), (.int v3), (.int v4)]), (.inr (cn0, [(fk0, .ref 4), (fk1, .ref 5), (fk2, .long (-9223372036854775808)), (fk3, (.int (Int32.ofNat ([] : List Pr).length))), (fk4, .long 0)])), (wAJ (ja [0, 0, 0, 0])), (wAJ (ja [0, 0, 0, 0]))], 28) _
  refine .s (.lload a0_428 rfl) <| .s (.lload a0_430 rfl) <| .s (.aload a0_432 rfl rfl) <| .s (.iconst (0 : Int32) a0_434 rfl) <| .s (.iaload 0 a0_435 rfl (by decide) rfl rfl) ?_
  refine .callS a0_436 (ok6 hw _ _ _ _) (wd hw 33 rfl) (wd hw 34 rfl) (argsL := [(.long base), (.long w), (.int e0)]) (S := [(.long (tv base w (0 : Int32))), .ref 3]) (ct hw _ _ base w e0 _ _) rfl rfl rfl rfl rfl rfl (Nat.le_of_ble_eq_true rfl) (Nat.le_of_ble_eq_true rfl) ?_
  rintro _ _ _ ⟨rfl, rfl, rfl⟩
  show WGo _ (439, [wJ bb, wS, wJ ss, wS, wJ pp, wS, wR 0, wR 1, wR 2, wJ w, wS, wJ base, wS, wI (ovv e0 b1 v1 v0), wI (((ovv e0 b1 v1 v0) + (ovv e0 b2 v2 v0)) + (ovv e1 b2 v2 v1)), wI ((((((ovv e0 b1 v1 v0) + (ovv e0 b2 v2 v0)) + (ovv e1 b2 v2 v1)) + (ovv e0 b3 v3 v0)) + (ovv e1 b3 v3 v1)) + (ovv e2 b3 v3 v2)), wI ((((((((((ovv e0 b1 v1 v0) + (ovv e0 b2 v2 v0)) + (ovv e1 b2 v2 v1)) + (ovv e0 b3 v3 v0)) + (ovv e1 b3 v3 v1)) + (ovv e2 b3 v3 v2)) + (ovv e0 b4 v4 v0)) + (ovv e1 b4 v4 v1)) + (ovv e2 b4 v4 v2)) + (ovv e3 b4 v4 v3)), wR 3, wU], [(.long (tv base w e0)), (.long (tv base w (0 : Int32))), .ref 3], [(wAI [.int 0, (.int b1), (.int b2), (.int b3), (.int b4)]), (wAI [(.int e0), (.int e1), (.int e2), (.int e3), (.int e4)]), (wAI [(.int v0), (.int v1), (.int v2), (.int v3), (.int v4)]), (.inr (cn0, [(fk0, .ref 4), (fk1, .ref 5), (fk2, .long (-9223372036854775808)), (fk3, (.int (Int32.ofNat ([] : List Pr).length))), (fk4, .long 0)])), (wAJ (ja [0, 0, 0, 0])), (wAJ (ja [0, 0, 0, 0]))], 28) _
  refine .s (.lload a0_439 rfl) <| .s (.lload a0_441 rfl) <| .s (.aload a0_443 rfl rfl) <| .s (.iconst (0 : Int32) a0_445 rfl) <| .s (.iaload 0 a0_446 rfl (by decide) rfl rfl) ?_
  refine .callS a0_447 (ok6 hw _ _ _ _) (wd hw 33 rfl) (wd hw 34 rfl) (argsL := [(.long base), (.long w), (.int v0)]) (S := [(.long (tv base w e0)), (.long (tv base w (0 : Int32))), .ref 3]) (ct hw _ _ base w v0 _ _) rfl rfl rfl rfl rfl rfl (Nat.le_of_ble_eq_true rfl) (Nat.le_of_ble_eq_true rfl) ?_
  rintro _ _ _ ⟨rfl, rfl, rfl⟩
  show WGo _ (450, [wJ bb, wS, wJ ss, wS, wJ pp, wS, wR 0, wR 1, wR 2, wJ w, wS, wJ base, wS, wI (ovv e0 b1 v1 v0), wI (((ovv e0 b1 v1 v0) + (ovv e0 b2 v2 v0)) + (ovv e1 b2 v2 v1)), wI ((((((ovv e0 b1 v1 v0) + (ovv e0 b2 v2 v0)) + (ovv e1 b2 v2 v1)) + (ovv e0 b3 v3 v0)) + (ovv e1 b3 v3 v1)) + (ovv e2 b3 v3 v2)), wI ((((((((((ovv e0 b1 v1 v0) + (ovv e0 b2 v2 v0)) + (ovv e1 b2 v2 v1)) + (ovv e0 b3 v3 v0)) + (ovv e1 b3 v3 v1)) + (ovv e2 b3 v3 v2)) + (ovv e0 b4 v4 v0)) + (ovv e1 b4 v4 v1)) + (ovv e2 b4 v4 v2)) + (ovv e3 b4 v4 v3)), wR 3, wU], [(.long (tv base w v0)), (.long (tv base w e0)), (.long (tv base w (0 : Int32))), .ref 3], [(wAI [.int 0, (.int b1), (.int b2), (.int b3), (.int b4)]), (wAI [(.int e0), (.int e1), (.int e2), (.int e3), (.int e4)]), (wAI [(.int v0), (.int v1), (.int v2), (.int v3), (.int v4)]), (.inr (cn0, [(fk0, .ref 4), (fk1, .ref 5), (fk2, .long (-9223372036854775808)), (fk3, (.int (Int32.ofNat ([] : List Pr).length))), (fk4, .long 0)])), (wAJ (ja [0, 0, 0, 0])), (wAJ (ja [0, 0, 0, 0]))], 28) _
  refine .callV (k := 3) (z := (⟨"antecede/judges/Overtakings", "add", "(JJJ)V"⟩ : MethodName)) a0_450 (ok7 hw _ _ _ _) ⟨rfl, by decide⟩ (wd hw 36 rfl) (wd hw 37 rfl) (fun s hZ => notFace_of_selects (args := #[]) (mvT hZ (wd hw 39 rfl))) (wd hw 39 rfl) (wd hw 38 rfl) rfl (argsL := [(.long (tv base w (0 : Int32))), (.long (tv base w e0)), (.long (tv base w v0))]) (S := []) (cadd hw _ _ (wAI [.int 0, (.int b1), (.int b2), (.int b3), (.int b4)]) (wAI [(.int e0), (.int e1), (.int e2), (.int e3), (.int e4)]) (wAI [(.int v0), (.int v1), (.int v2), (.int v3), (.int v4)]) (tv base w (0 : Int32)) (tv base w e0) (tv base w v0) (-9223372036854775808) (0 : Int64) ([] : List Pr) [0, 0, 0, 0] [0, 0, 0, 0] (tv_nlt hr (by omega) (by omega) (by omega)) (tv_nlt hr (by omega) (by omega) (by omega)) (nlt_min _) rfl rfl (Hold.nil _ _ _) (Nat.le_trans hk0 (by decide)) _) rfl rfl rfl rfl rfl rfl (Nat.le_of_ble_eq_true rfl) (Nat.le_of_ble_eq_true rfl) ?_
  rintro _ _ _ ⟨EN1, NT1, lE1, lN1, hh1, rfl, rfl, rfl⟩
  show WGo _ (453, [wJ bb, wS, wJ ss, wS, wJ pp, wS, wR 0, wR 1, wR 2, wJ w, wS, wJ base, wS, wI (ovv e0 b1 v1 v0), wI (((ovv e0 b1 v1 v0) + (ovv e0 b2 v2 v0)) + (ovv e1 b2 v2 v1)), wI ((((((ovv e0 b1 v1 v0) + (ovv e0 b2 v2 v0)) + (ovv e1 b2 v2 v1)) + (ovv e0 b3 v3 v0)) + (ovv e1 b3 v3 v1)) + (ovv e2 b3 v3 v2)), wI ((((((((((ovv e0 b1 v1 v0) + (ovv e0 b2 v2 v0)) + (ovv e1 b2 v2 v1)) + (ovv e0 b3 v3 v0)) + (ovv e1 b3 v3 v1)) + (ovv e2 b3 v3 v2)) + (ovv e0 b4 v4 v0)) + (ovv e1 b4 v4 v1)) + (ovv e2 b4 v4 v2)) + (ovv e3 b4 v4 v3)), wR 3, wU], [], [(wAI [.int 0, (.int b1), (.int b2), (.int b3), (.int b4)]), (wAI [(.int e0), (.int e1), (.int e2), (.int e3), (.int e4)]), (wAI [(.int v0), (.int v1), (.int v2), (.int v3), (.int v4)]), (.inr (cn0, [(fk0, .ref 4), (fk1, .ref 5), (fk2, (.long (tv base w (0 : Int32)))), (fk3, (.int (Int32.ofNat (fil (tv base w (0 : Int32)) ([] : List Pr) ++ [((tv base w e0), (tv base w v0))]).length))), (fk4, (.long ((0 : Int64) + cn (tv base w (0 : Int32)) (tv base w v0) ([] : List Pr))))])), (wAJ (ja EN1)), (wAJ (ja NT1))], 28) _
  refine .s (.aload a0_453 rfl rfl) <| .s (.lload a0_455 rfl) <| .s (.lload a0_457 rfl) <| .s (.aload a0_459 rfl rfl) <| .s (.iconst (1 : Int32) a0_461 rfl) <| .s (.iaload 1 a0_462 rfl (by decide) rfl rfl) ?_
  refine .callS a0_463 (ok6 hw _ _ _ _) (wd hw 33 rfl) (wd hw 34 rfl) (argsL := [(.long base), (.long w), (.int b1)]) (S := [.ref 3]) (ct hw _ _ base w b1 _ _) rfl rfl rfl rfl rfl rfl (Nat.le_of_ble_eq_true rfl) (Nat.le_of_ble_eq_true rfl) ?_
  rintro _ _ _ ⟨rfl, rfl, rfl⟩
  show WGo _ (466, [wJ bb, wS, wJ ss, wS, wJ pp, wS, wR 0, wR 1, wR 2, wJ w, wS, wJ base, wS, wI (ovv e0 b1 v1 v0), wI (((ovv e0 b1 v1 v0) + (ovv e0 b2 v2 v0)) + (ovv e1 b2 v2 v1)), wI ((((((ovv e0 b1 v1 v0) + (ovv e0 b2 v2 v0)) + (ovv e1 b2 v2 v1)) + (ovv e0 b3 v3 v0)) + (ovv e1 b3 v3 v1)) + (ovv e2 b3 v3 v2)), wI ((((((((((ovv e0 b1 v1 v0) + (ovv e0 b2 v2 v0)) + (ovv e1 b2 v2 v1)) + (ovv e0 b3 v3 v0)) + (ovv e1 b3 v3 v1)) + (ovv e2 b3 v3 v2)) + (ovv e0 b4 v4 v0)) + (ovv e1 b4 v4 v1)) + (ovv e2 b4 v4 v2)) + (ovv e3 b4 v4 v3)), wR 3, wU], [(.long (tv base w b1)), .ref 3], [(wAI [.int 0, (.int b1), (.int b2), (.int b3), (.int b4)]), (wAI [(.int e0), (.int e1), (.int e2), (.int e3), (.int e4)]), (wAI [(.int v0), (.int v1), (.int v2), (.int v3), (.int v4)]), (.inr (cn0, [(fk0, .ref 4), (fk1, .ref 5), (fk2, (.long (tv base w (0 : Int32)))), (fk3, (.int (Int32.ofNat (fil (tv base w (0 : Int32)) ([] : List Pr) ++ [((tv base w e0), (tv base w v0))]).length))), (fk4, (.long ((0 : Int64) + cn (tv base w (0 : Int32)) (tv base w v0) ([] : List Pr))))])), (wAJ (ja EN1)), (wAJ (ja NT1))], 28) _
  refine .s (.lload a0_466 rfl) <| .s (.lload a0_468 rfl) <| .s (.aload a0_470 rfl rfl) <| .s (.iconst (1 : Int32) a0_472 rfl) <| .s (.iaload 1 a0_473 rfl (by decide) rfl rfl) ?_
  refine .callS a0_474 (ok6 hw _ _ _ _) (wd hw 33 rfl) (wd hw 34 rfl) (argsL := [(.long base), (.long w), (.int e1)]) (S := [(.long (tv base w b1)), .ref 3]) (ct hw _ _ base w e1 _ _) rfl rfl rfl rfl rfl rfl (Nat.le_of_ble_eq_true rfl) (Nat.le_of_ble_eq_true rfl) ?_
  rintro _ _ _ ⟨rfl, rfl, rfl⟩
  show WGo _ (477, [wJ bb, wS, wJ ss, wS, wJ pp, wS, wR 0, wR 1, wR 2, wJ w, wS, wJ base, wS, wI (ovv e0 b1 v1 v0), wI (((ovv e0 b1 v1 v0) + (ovv e0 b2 v2 v0)) + (ovv e1 b2 v2 v1)), wI ((((((ovv e0 b1 v1 v0) + (ovv e0 b2 v2 v0)) + (ovv e1 b2 v2 v1)) + (ovv e0 b3 v3 v0)) + (ovv e1 b3 v3 v1)) + (ovv e2 b3 v3 v2)), wI ((((((((((ovv e0 b1 v1 v0) + (ovv e0 b2 v2 v0)) + (ovv e1 b2 v2 v1)) + (ovv e0 b3 v3 v0)) + (ovv e1 b3 v3 v1)) + (ovv e2 b3 v3 v2)) + (ovv e0 b4 v4 v0)) + (ovv e1 b4 v4 v1)) + (ovv e2 b4 v4 v2)) + (ovv e3 b4 v4 v3)), wR 3, wU], [(.long (tv base w e1)), (.long (tv base w b1)), .ref 3], [(wAI [.int 0, (.int b1), (.int b2), (.int b3), (.int b4)]), (wAI [(.int e0), (.int e1), (.int e2), (.int e3), (.int e4)]), (wAI [(.int v0), (.int v1), (.int v2), (.int v3), (.int v4)]), (.inr (cn0, [(fk0, .ref 4), (fk1, .ref 5), (fk2, (.long (tv base w (0 : Int32)))), (fk3, (.int (Int32.ofNat (fil (tv base w (0 : Int32)) ([] : List Pr) ++ [((tv base w e0), (tv base w v0))]).length))), (fk4, (.long ((0 : Int64) + cn (tv base w (0 : Int32)) (tv base w v0) ([] : List Pr))))])), (wAJ (ja EN1)), (wAJ (ja NT1))], 28) _
  refine .s (.lload a0_477 rfl) <| .s (.lload a0_479 rfl) <| .s (.aload a0_481 rfl rfl) <| .s (.iconst (1 : Int32) a0_483 rfl) <| .s (.iaload 1 a0_484 rfl (by decide) rfl rfl) ?_
  refine .callS a0_485 (ok6 hw _ _ _ _) (wd hw 33 rfl) (wd hw 34 rfl) (argsL := [(.long base), (.long w), (.int v1)]) (S := [(.long (tv base w e1)), (.long (tv base w b1)), .ref 3]) (ct hw _ _ base w v1 _ _) rfl rfl rfl rfl rfl rfl (Nat.le_of_ble_eq_true rfl) (Nat.le_of_ble_eq_true rfl) ?_
  rintro _ _ _ ⟨rfl, rfl, rfl⟩
  show WGo _ (488, [wJ bb, wS, wJ ss, wS, wJ pp, wS, wR 0, wR 1, wR 2, wJ w, wS, wJ base, wS, wI (ovv e0 b1 v1 v0), wI (((ovv e0 b1 v1 v0) + (ovv e0 b2 v2 v0)) + (ovv e1 b2 v2 v1)), wI ((((((ovv e0 b1 v1 v0) + (ovv e0 b2 v2 v0)) + (ovv e1 b2 v2 v1)) + (ovv e0 b3 v3 v0)) + (ovv e1 b3 v3 v1)) + (ovv e2 b3 v3 v2)), wI ((((((((((ovv e0 b1 v1 v0) + (ovv e0 b2 v2 v0)) + (ovv e1 b2 v2 v1)) + (ovv e0 b3 v3 v0)) + (ovv e1 b3 v3 v1)) + (ovv e2 b3 v3 v2)) + (ovv e0 b4 v4 v0)) + (ovv e1 b4 v4 v1)) + (ovv e2 b4 v4 v2)) + (ovv e3 b4 v4 v3)), wR 3, wU], [(.long (tv base w v1)), (.long (tv base w e1)), (.long (tv base w b1)), .ref 3], [(wAI [.int 0, (.int b1), (.int b2), (.int b3), (.int b4)]), (wAI [(.int e0), (.int e1), (.int e2), (.int e3), (.int e4)]), (wAI [(.int v0), (.int v1), (.int v2), (.int v3), (.int v4)]), (.inr (cn0, [(fk0, .ref 4), (fk1, .ref 5), (fk2, (.long (tv base w (0 : Int32)))), (fk3, (.int (Int32.ofNat (fil (tv base w (0 : Int32)) ([] : List Pr) ++ [((tv base w e0), (tv base w v0))]).length))), (fk4, (.long ((0 : Int64) + cn (tv base w (0 : Int32)) (tv base w v0) ([] : List Pr))))])), (wAJ (ja EN1)), (wAJ (ja NT1))], 28) _
  refine .callV (k := 3) (z := (⟨"antecede/judges/Overtakings", "add", "(JJJ)V"⟩ : MethodName)) a0_488 (ok7 hw _ _ _ _) ⟨rfl, by decide⟩ (wd hw 36 rfl) (wd hw 37 rfl) (fun s hZ => notFace_of_selects (args := #[]) (mvT hZ (wd hw 39 rfl))) (wd hw 39 rfl) (wd hw 38 rfl) rfl (argsL := [(.long (tv base w b1)), (.long (tv base w e1)), (.long (tv base w v1))]) (S := []) (cadd hw _ _ (wAI [.int 0, (.int b1), (.int b2), (.int b3), (.int b4)]) (wAI [(.int e0), (.int e1), (.int e2), (.int e3), (.int e4)]) (wAI [(.int v0), (.int v1), (.int v2), (.int v3), (.int v4)]) (tv base w b1) (tv base w e1) (tv base w v1) (tv base w (0 : Int32)) ((0 : Int64) + cn (tv base w (0 : Int32)) (tv base w v0) ([] : List Pr)) (fil (tv base w (0 : Int32)) ([] : List Pr) ++ [((tv base w e0), (tv base w v0))]) EN1 NT1 (tv_nlt hr (by omega) (by omega) (by omega)) (tv_nlt hr (by omega) (by omega) (by omega)) (tv_nlt hr (by omega) (by omega) (by omega)) lE1 lN1 hh1 (Nat.le_trans hk1 (by decide)) _) rfl rfl rfl rfl rfl rfl (Nat.le_of_ble_eq_true rfl) (Nat.le_of_ble_eq_true rfl) ?_
  rintro _ _ _ ⟨EN2, NT2, lE2, lN2, hh2, rfl, rfl, rfl⟩
  show WGo _ (491, [wJ bb, wS, wJ ss, wS, wJ pp, wS, wR 0, wR 1, wR 2, wJ w, wS, wJ base, wS, wI (ovv e0 b1 v1 v0), wI (((ovv e0 b1 v1 v0) + (ovv e0 b2 v2 v0)) + (ovv e1 b2 v2 v1)), wI ((((((ovv e0 b1 v1 v0) + (ovv e0 b2 v2 v0)) + (ovv e1 b2 v2 v1)) + (ovv e0 b3 v3 v0)) + (ovv e1 b3 v3 v1)) + (ovv e2 b3 v3 v2)), wI ((((((((((ovv e0 b1 v1 v0) + (ovv e0 b2 v2 v0)) + (ovv e1 b2 v2 v1)) + (ovv e0 b3 v3 v0)) + (ovv e1 b3 v3 v1)) + (ovv e2 b3 v3 v2)) + (ovv e0 b4 v4 v0)) + (ovv e1 b4 v4 v1)) + (ovv e2 b4 v4 v2)) + (ovv e3 b4 v4 v3)), wR 3, wU], [], [(wAI [.int 0, (.int b1), (.int b2), (.int b3), (.int b4)]), (wAI [(.int e0), (.int e1), (.int e2), (.int e3), (.int e4)]), (wAI [(.int v0), (.int v1), (.int v2), (.int v3), (.int v4)]), (.inr (cn0, [(fk0, .ref 4), (fk1, .ref 5), (fk2, (.long (tv base w b1))), (fk3, (.int (Int32.ofNat (fil (tv base w b1) (fil (tv base w (0 : Int32)) ([] : List Pr) ++ [((tv base w e0), (tv base w v0))]) ++ [((tv base w e1), (tv base w v1))]).length))), (fk4, (.long (((0 : Int64) + cn (tv base w (0 : Int32)) (tv base w v0) ([] : List Pr)) + cn (tv base w b1) (tv base w v1) (fil (tv base w (0 : Int32)) ([] : List Pr) ++ [((tv base w e0), (tv base w v0))]))))])), (wAJ (ja EN2)), (wAJ (ja NT2))], 28) _
  refine .s (.aload a0_491 rfl rfl) ?_
  refine .callV (k := 3) (z := (⟨"antecede/judges/Overtakings", "count", "()J"⟩ : MethodName)) a0_493 (ok8 hw _ _ _ _) ⟨rfl, by decide⟩ (wd hw 43 rfl) (wd hw 44 rfl) (fun s hZ => notFace_of_selects (args := #[]) (mvT hZ (wd hw 46 rfl))) (wd hw 46 rfl) (wd hw 45 rfl) rfl (argsL := []) (S := []) (ccount hw _ _ _ _ _ _ (((0 : Int64) + cn (tv base w (0 : Int32)) (tv base w v0) ([] : List Pr)) + cn (tv base w b1) (tv base w v1) (fil (tv base w (0 : Int32)) ([] : List Pr) ++ [((tv base w e0), (tv base w v0))])) ([(wAI [.int 0, (.int b1), (.int b2), (.int b3), (.int b4)]), (wAI [(.int e0), (.int e1), (.int e2), (.int e3), (.int e4)]), (wAI [(.int v0), (.int v1), (.int v2), (.int v3), (.int v4)]), (.inr (cn0, [(fk0, .ref 4), (fk1, .ref 5), (fk2, (.long (tv base w b1))), (fk3, (.int (Int32.ofNat (fil (tv base w b1) (fil (tv base w (0 : Int32)) ([] : List Pr) ++ [((tv base w e0), (tv base w v0))]) ++ [((tv base w e1), (tv base w v1))]).length))), (fk4, (.long (((0 : Int64) + cn (tv base w (0 : Int32)) (tv base w v0) ([] : List Pr)) + cn (tv base w b1) (tv base w v1) (fil (tv base w (0 : Int32)) ([] : List Pr) ++ [((tv base w e0), (tv base w v0))]))))])), (wAJ (ja EN2)), (wAJ (ja NT2))] : WHp) rfl _) rfl rfl rfl rfl rfl rfl (Nat.le_of_ble_eq_true rfl) (Nat.le_of_ble_eq_true rfl) ?_
  rintro _ _ _ ⟨rfl, rfl, rfl⟩
  show WGo _ (496, [wJ bb, wS, wJ ss, wS, wJ pp, wS, wR 0, wR 1, wR 2, wJ w, wS, wJ base, wS, wI (ovv e0 b1 v1 v0), wI (((ovv e0 b1 v1 v0) + (ovv e0 b2 v2 v0)) + (ovv e1 b2 v2 v1)), wI ((((((ovv e0 b1 v1 v0) + (ovv e0 b2 v2 v0)) + (ovv e1 b2 v2 v1)) + (ovv e0 b3 v3 v0)) + (ovv e1 b3 v3 v1)) + (ovv e2 b3 v3 v2)), wI ((((((((((ovv e0 b1 v1 v0) + (ovv e0 b2 v2 v0)) + (ovv e1 b2 v2 v1)) + (ovv e0 b3 v3 v0)) + (ovv e1 b3 v3 v1)) + (ovv e2 b3 v3 v2)) + (ovv e0 b4 v4 v0)) + (ovv e1 b4 v4 v1)) + (ovv e2 b4 v4 v2)) + (ovv e3 b4 v4 v3)), wR 3, wU], [(.long (((0 : Int64) + cn (tv base w (0 : Int32)) (tv base w v0) ([] : List Pr)) + cn (tv base w b1) (tv base w v1) (fil (tv base w (0 : Int32)) ([] : List Pr) ++ [((tv base w e0), (tv base w v0))])))], [(wAI [.int 0, (.int b1), (.int b2), (.int b3), (.int b4)]), (wAI [(.int e0), (.int e1), (.int e2), (.int e3), (.int e4)]), (wAI [(.int v0), (.int v1), (.int v2), (.int v3), (.int v4)]), (.inr (cn0, [(fk0, .ref 4), (fk1, .ref 5), (fk2, (.long (tv base w b1))), (fk3, (.int (Int32.ofNat (fil (tv base w b1) (fil (tv base w (0 : Int32)) ([] : List Pr) ++ [((tv base w e0), (tv base w v0))]) ++ [((tv base w e1), (tv base w v1))]).length))), (fk4, (.long (((0 : Int64) + cn (tv base w (0 : Int32)) (tv base w v0) ([] : List Pr)) + cn (tv base w b1) (tv base w v1) (fil (tv base w (0 : Int32)) ([] : List Pr) ++ [((tv base w e0), (tv base w v0))]))))])), (wAJ (ja EN2)), (wAJ (ja NT2))], 28) _
  refine .s (.iload a0_496 rfl) <| .s (.i2l a0_498) <| .s (.lcmp a0_499) <| .s (.ifF a0_500 (teq ((lw_eq _ _).mpr hc1)).2) <| .s (.iconst (1 : Int32) a0_503 rfl) <| .s (.goto a0_504) <| .s (.istore (L' := [wJ bb, wS, wJ ss, wS, wJ pp, wS, wR 0, wR 1, wR 2, wJ w, wS, wJ base, wS, wI (ovv e0 b1 v1 v0), wI (((ovv e0 b1 v1 v0) + (ovv e0 b2 v2 v0)) + (ovv e1 b2 v2 v1)), wI ((((((ovv e0 b1 v1 v0) + (ovv e0 b2 v2 v0)) + (ovv e1 b2 v2 v1)) + (ovv e0 b3 v3 v0)) + (ovv e1 b3 v3 v1)) + (ovv e2 b3 v3 v2)), wI ((((((((((ovv e0 b1 v1 v0) + (ovv e0 b2 v2 v0)) + (ovv e1 b2 v2 v1)) + (ovv e0 b3 v3 v0)) + (ovv e1 b3 v3 v1)) + (ovv e2 b3 v3 v2)) + (ovv e0 b4 v4 v0)) + (ovv e1 b4 v4 v1)) + (ovv e2 b4 v4 v2)) + (ovv e3 b4 v4 v3)), wR 3, wI 1]) a0_508 rfl) ?_
  refine .s (.aload a0_510 rfl rfl) <| .s (.lload a0_512 rfl) <| .s (.lload a0_514 rfl) <| .s (.aload a0_516 rfl rfl) <| .s (.iconst (2 : Int32) a0_518 rfl) <| .s (.iaload 2 a0_519 rfl (by decide) rfl rfl) ?_
  refine .callS a0_520 (ok6 hw _ _ _ _) (wd hw 33 rfl) (wd hw 34 rfl) (argsL := [(.long base), (.long w), (.int b2)]) (S := [.ref 3]) (ct hw _ _ base w b2 _ _) rfl rfl rfl rfl rfl rfl (Nat.le_of_ble_eq_true rfl) (Nat.le_of_ble_eq_true rfl) ?_
  rintro _ _ _ ⟨rfl, rfl, rfl⟩
  show WGo _ (523, [wJ bb, wS, wJ ss, wS, wJ pp, wS, wR 0, wR 1, wR 2, wJ w, wS, wJ base, wS, wI (ovv e0 b1 v1 v0), wI (((ovv e0 b1 v1 v0) + (ovv e0 b2 v2 v0)) + (ovv e1 b2 v2 v1)), wI ((((((ovv e0 b1 v1 v0) + (ovv e0 b2 v2 v0)) + (ovv e1 b2 v2 v1)) + (ovv e0 b3 v3 v0)) + (ovv e1 b3 v3 v1)) + (ovv e2 b3 v3 v2)), wI ((((((((((ovv e0 b1 v1 v0) + (ovv e0 b2 v2 v0)) + (ovv e1 b2 v2 v1)) + (ovv e0 b3 v3 v0)) + (ovv e1 b3 v3 v1)) + (ovv e2 b3 v3 v2)) + (ovv e0 b4 v4 v0)) + (ovv e1 b4 v4 v1)) + (ovv e2 b4 v4 v2)) + (ovv e3 b4 v4 v3)), wR 3, wI 1], [(.long (tv base w b2)), .ref 3], [(wAI [.int 0, (.int b1), (.int b2), (.int b3), (.int b4)]), (wAI [(.int e0), (.int e1), (.int e2), (.int e3), (.int e4)]), (wAI [(.int v0), (.int v1), (.int v2), (.int v3), (.int v4)]), (.inr (cn0, [(fk0, .ref 4), (fk1, .ref 5), (fk2, (.long (tv base w b1))), (fk3, (.int (Int32.ofNat (fil (tv base w b1) (fil (tv base w (0 : Int32)) ([] : List Pr) ++ [((tv base w e0), (tv base w v0))]) ++ [((tv base w e1), (tv base w v1))]).length))), (fk4, (.long (((0 : Int64) + cn (tv base w (0 : Int32)) (tv base w v0) ([] : List Pr)) + cn (tv base w b1) (tv base w v1) (fil (tv base w (0 : Int32)) ([] : List Pr) ++ [((tv base w e0), (tv base w v0))]))))])), (wAJ (ja EN2)), (wAJ (ja NT2))], 28) _
  refine .s (.lload a0_523 rfl) <| .s (.lload a0_525 rfl) <| .s (.aload a0_527 rfl rfl) <| .s (.iconst (2 : Int32) a0_529 rfl) <| .s (.iaload 2 a0_530 rfl (by decide) rfl rfl) ?_
  refine .callS a0_531 (ok6 hw _ _ _ _) (wd hw 33 rfl) (wd hw 34 rfl) (argsL := [(.long base), (.long w), (.int e2)]) (S := [(.long (tv base w b2)), .ref 3]) (ct hw _ _ base w e2 _ _) rfl rfl rfl rfl rfl rfl (Nat.le_of_ble_eq_true rfl) (Nat.le_of_ble_eq_true rfl) ?_
  rintro _ _ _ ⟨rfl, rfl, rfl⟩
  show WGo _ (534, [wJ bb, wS, wJ ss, wS, wJ pp, wS, wR 0, wR 1, wR 2, wJ w, wS, wJ base, wS, wI (ovv e0 b1 v1 v0), wI (((ovv e0 b1 v1 v0) + (ovv e0 b2 v2 v0)) + (ovv e1 b2 v2 v1)), wI ((((((ovv e0 b1 v1 v0) + (ovv e0 b2 v2 v0)) + (ovv e1 b2 v2 v1)) + (ovv e0 b3 v3 v0)) + (ovv e1 b3 v3 v1)) + (ovv e2 b3 v3 v2)), wI ((((((((((ovv e0 b1 v1 v0) + (ovv e0 b2 v2 v0)) + (ovv e1 b2 v2 v1)) + (ovv e0 b3 v3 v0)) + (ovv e1 b3 v3 v1)) + (ovv e2 b3 v3 v2)) + (ovv e0 b4 v4 v0)) + (ovv e1 b4 v4 v1)) + (ovv e2 b4 v4 v2)) + (ovv e3 b4 v4 v3)), wR 3, wI 1], [(.long (tv base w e2)), (.long (tv base w b2)), .ref 3], [(wAI [.int 0, (.int b1), (.int b2), (.int b3), (.int b4)]), (wAI [(.int e0), (.int e1), (.int e2), (.int e3), (.int e4)]), (wAI [(.int v0), (.int v1), (.int v2), (.int v3), (.int v4)]), (.inr (cn0, [(fk0, .ref 4), (fk1, .ref 5), (fk2, (.long (tv base w b1))), (fk3, (.int (Int32.ofNat (fil (tv base w b1) (fil (tv base w (0 : Int32)) ([] : List Pr) ++ [((tv base w e0), (tv base w v0))]) ++ [((tv base w e1), (tv base w v1))]).length))), (fk4, (.long (((0 : Int64) + cn (tv base w (0 : Int32)) (tv base w v0) ([] : List Pr)) + cn (tv base w b1) (tv base w v1) (fil (tv base w (0 : Int32)) ([] : List Pr) ++ [((tv base w e0), (tv base w v0))]))))])), (wAJ (ja EN2)), (wAJ (ja NT2))], 28) _
  refine .s (.lload a0_534 rfl) <| .s (.lload a0_536 rfl) <| .s (.aload a0_538 rfl rfl) <| .s (.iconst (2 : Int32) a0_540 rfl) <| .s (.iaload 2 a0_541 rfl (by decide) rfl rfl) ?_
  refine .callS a0_542 (ok6 hw _ _ _ _) (wd hw 33 rfl) (wd hw 34 rfl) (argsL := [(.long base), (.long w), (.int v2)]) (S := [(.long (tv base w e2)), (.long (tv base w b2)), .ref 3]) (ct hw _ _ base w v2 _ _) rfl rfl rfl rfl rfl rfl (Nat.le_of_ble_eq_true rfl) (Nat.le_of_ble_eq_true rfl) ?_
  rintro _ _ _ ⟨rfl, rfl, rfl⟩
  show WGo _ (545, [wJ bb, wS, wJ ss, wS, wJ pp, wS, wR 0, wR 1, wR 2, wJ w, wS, wJ base, wS, wI (ovv e0 b1 v1 v0), wI (((ovv e0 b1 v1 v0) + (ovv e0 b2 v2 v0)) + (ovv e1 b2 v2 v1)), wI ((((((ovv e0 b1 v1 v0) + (ovv e0 b2 v2 v0)) + (ovv e1 b2 v2 v1)) + (ovv e0 b3 v3 v0)) + (ovv e1 b3 v3 v1)) + (ovv e2 b3 v3 v2)), wI ((((((((((ovv e0 b1 v1 v0) + (ovv e0 b2 v2 v0)) + (ovv e1 b2 v2 v1)) + (ovv e0 b3 v3 v0)) + (ovv e1 b3 v3 v1)) + (ovv e2 b3 v3 v2)) + (ovv e0 b4 v4 v0)) + (ovv e1 b4 v4 v1)) + (ovv e2 b4 v4 v2)) + (ovv e3 b4 v4 v3)), wR 3, wI 1], [(.long (tv base w v2)), (.long (tv base w e2)), (.long (tv base w b2)), .ref 3], [(wAI [.int 0, (.int b1), (.int b2), (.int b3), (.int b4)]), (wAI [(.int e0), (.int e1), (.int e2), (.int e3), (.int e4)]), (wAI [(.int v0), (.int v1), (.int v2), (.int v3), (.int v4)]), (.inr (cn0, [(fk0, .ref 4), (fk1, .ref 5), (fk2, (.long (tv base w b1))), (fk3, (.int (Int32.ofNat (fil (tv base w b1) (fil (tv base w (0 : Int32)) ([] : List Pr) ++ [((tv base w e0), (tv base w v0))]) ++ [((tv base w e1), (tv base w v1))]).length))), (fk4, (.long (((0 : Int64) + cn (tv base w (0 : Int32)) (tv base w v0) ([] : List Pr)) + cn (tv base w b1) (tv base w v1) (fil (tv base w (0 : Int32)) ([] : List Pr) ++ [((tv base w e0), (tv base w v0))]))))])), (wAJ (ja EN2)), (wAJ (ja NT2))], 28) _
  refine .callV (k := 3) (z := (⟨"antecede/judges/Overtakings", "add", "(JJJ)V"⟩ : MethodName)) a0_545 (ok7 hw _ _ _ _) ⟨rfl, by decide⟩ (wd hw 36 rfl) (wd hw 37 rfl) (fun s hZ => notFace_of_selects (args := #[]) (mvT hZ (wd hw 39 rfl))) (wd hw 39 rfl) (wd hw 38 rfl) rfl (argsL := [(.long (tv base w b2)), (.long (tv base w e2)), (.long (tv base w v2))]) (S := []) (cadd hw _ _ (wAI [.int 0, (.int b1), (.int b2), (.int b3), (.int b4)]) (wAI [(.int e0), (.int e1), (.int e2), (.int e3), (.int e4)]) (wAI [(.int v0), (.int v1), (.int v2), (.int v3), (.int v4)]) (tv base w b2) (tv base w e2) (tv base w v2) (tv base w b1) (((0 : Int64) + cn (tv base w (0 : Int32)) (tv base w v0) ([] : List Pr)) + cn (tv base w b1) (tv base w v1) (fil (tv base w (0 : Int32)) ([] : List Pr) ++ [((tv base w e0), (tv base w v0))])) (fil (tv base w b1) (fil (tv base w (0 : Int32)) ([] : List Pr) ++ [((tv base w e0), (tv base w v0))]) ++ [((tv base w e1), (tv base w v1))]) EN2 NT2 (tv_nlt hr (by omega) (by omega) (by omega)) (tv_nlt hr (by omega) (by omega) (by omega)) (tv_nlt hr (by omega) (by omega) (by omega)) lE2 lN2 hh2 (Nat.le_trans hk2 (by decide)) _) rfl rfl rfl rfl rfl rfl (Nat.le_of_ble_eq_true rfl) (Nat.le_of_ble_eq_true rfl) ?_
  rintro _ _ _ ⟨EN3, NT3, lE3, lN3, hh3, rfl, rfl, rfl⟩
  show WGo _ (548, [wJ bb, wS, wJ ss, wS, wJ pp, wS, wR 0, wR 1, wR 2, wJ w, wS, wJ base, wS, wI (ovv e0 b1 v1 v0), wI (((ovv e0 b1 v1 v0) + (ovv e0 b2 v2 v0)) + (ovv e1 b2 v2 v1)), wI ((((((ovv e0 b1 v1 v0) + (ovv e0 b2 v2 v0)) + (ovv e1 b2 v2 v1)) + (ovv e0 b3 v3 v0)) + (ovv e1 b3 v3 v1)) + (ovv e2 b3 v3 v2)), wI ((((((((((ovv e0 b1 v1 v0) + (ovv e0 b2 v2 v0)) + (ovv e1 b2 v2 v1)) + (ovv e0 b3 v3 v0)) + (ovv e1 b3 v3 v1)) + (ovv e2 b3 v3 v2)) + (ovv e0 b4 v4 v0)) + (ovv e1 b4 v4 v1)) + (ovv e2 b4 v4 v2)) + (ovv e3 b4 v4 v3)), wR 3, wI 1], [], [(wAI [.int 0, (.int b1), (.int b2), (.int b3), (.int b4)]), (wAI [(.int e0), (.int e1), (.int e2), (.int e3), (.int e4)]), (wAI [(.int v0), (.int v1), (.int v2), (.int v3), (.int v4)]), (.inr (cn0, [(fk0, .ref 4), (fk1, .ref 5), (fk2, (.long (tv base w b2))), (fk3, (.int (Int32.ofNat (fil (tv base w b2) (fil (tv base w b1) (fil (tv base w (0 : Int32)) ([] : List Pr) ++ [((tv base w e0), (tv base w v0))]) ++ [((tv base w e1), (tv base w v1))]) ++ [((tv base w e2), (tv base w v2))]).length))), (fk4, (.long ((((0 : Int64) + cn (tv base w (0 : Int32)) (tv base w v0) ([] : List Pr)) + cn (tv base w b1) (tv base w v1) (fil (tv base w (0 : Int32)) ([] : List Pr) ++ [((tv base w e0), (tv base w v0))])) + cn (tv base w b2) (tv base w v2) (fil (tv base w b1) (fil (tv base w (0 : Int32)) ([] : List Pr) ++ [((tv base w e0), (tv base w v0))]) ++ [((tv base w e1), (tv base w v1))]))))])), (wAJ (ja EN3)), (wAJ (ja NT3))], 28) _
  refine .s (.iload a0_548 rfl) <| .s (.ifF a0_550 (by decide)) <| .s (.aload a0_553 rfl rfl) ?_
  refine .callV (k := 3) (z := (⟨"antecede/judges/Overtakings", "count", "()J"⟩ : MethodName)) a0_555 (ok8 hw _ _ _ _) ⟨rfl, by decide⟩ (wd hw 43 rfl) (wd hw 44 rfl) (fun s hZ => notFace_of_selects (args := #[]) (mvT hZ (wd hw 46 rfl))) (wd hw 46 rfl) (wd hw 45 rfl) rfl (argsL := []) (S := []) (ccount hw _ _ _ _ _ _ ((((0 : Int64) + cn (tv base w (0 : Int32)) (tv base w v0) ([] : List Pr)) + cn (tv base w b1) (tv base w v1) (fil (tv base w (0 : Int32)) ([] : List Pr) ++ [((tv base w e0), (tv base w v0))])) + cn (tv base w b2) (tv base w v2) (fil (tv base w b1) (fil (tv base w (0 : Int32)) ([] : List Pr) ++ [((tv base w e0), (tv base w v0))]) ++ [((tv base w e1), (tv base w v1))])) ([(wAI [.int 0, (.int b1), (.int b2), (.int b3), (.int b4)]), (wAI [(.int e0), (.int e1), (.int e2), (.int e3), (.int e4)]), (wAI [(.int v0), (.int v1), (.int v2), (.int v3), (.int v4)]), (.inr (cn0, [(fk0, .ref 4), (fk1, .ref 5), (fk2, (.long (tv base w b2))), (fk3, (.int (Int32.ofNat (fil (tv base w b2) (fil (tv base w b1) (fil (tv base w (0 : Int32)) ([] : List Pr) ++ [((tv base w e0), (tv base w v0))]) ++ [((tv base w e1), (tv base w v1))]) ++ [((tv base w e2), (tv base w v2))]).length))), (fk4, (.long ((((0 : Int64) + cn (tv base w (0 : Int32)) (tv base w v0) ([] : List Pr)) + cn (tv base w b1) (tv base w v1) (fil (tv base w (0 : Int32)) ([] : List Pr) ++ [((tv base w e0), (tv base w v0))])) + cn (tv base w b2) (tv base w v2) (fil (tv base w b1) (fil (tv base w (0 : Int32)) ([] : List Pr) ++ [((tv base w e0), (tv base w v0))]) ++ [((tv base w e1), (tv base w v1))]))))])), (wAJ (ja EN3)), (wAJ (ja NT3))] : WHp) rfl _) rfl rfl rfl rfl rfl rfl (Nat.le_of_ble_eq_true rfl) (Nat.le_of_ble_eq_true rfl) ?_
  rintro _ _ _ ⟨rfl, rfl, rfl⟩
  show WGo _ (558, [wJ bb, wS, wJ ss, wS, wJ pp, wS, wR 0, wR 1, wR 2, wJ w, wS, wJ base, wS, wI (ovv e0 b1 v1 v0), wI (((ovv e0 b1 v1 v0) + (ovv e0 b2 v2 v0)) + (ovv e1 b2 v2 v1)), wI ((((((ovv e0 b1 v1 v0) + (ovv e0 b2 v2 v0)) + (ovv e1 b2 v2 v1)) + (ovv e0 b3 v3 v0)) + (ovv e1 b3 v3 v1)) + (ovv e2 b3 v3 v2)), wI ((((((((((ovv e0 b1 v1 v0) + (ovv e0 b2 v2 v0)) + (ovv e1 b2 v2 v1)) + (ovv e0 b3 v3 v0)) + (ovv e1 b3 v3 v1)) + (ovv e2 b3 v3 v2)) + (ovv e0 b4 v4 v0)) + (ovv e1 b4 v4 v1)) + (ovv e2 b4 v4 v2)) + (ovv e3 b4 v4 v3)), wR 3, wI 1], [(.long ((((0 : Int64) + cn (tv base w (0 : Int32)) (tv base w v0) ([] : List Pr)) + cn (tv base w b1) (tv base w v1) (fil (tv base w (0 : Int32)) ([] : List Pr) ++ [((tv base w e0), (tv base w v0))])) + cn (tv base w b2) (tv base w v2) (fil (tv base w b1) (fil (tv base w (0 : Int32)) ([] : List Pr) ++ [((tv base w e0), (tv base w v0))]) ++ [((tv base w e1), (tv base w v1))])))], [(wAI [.int 0, (.int b1), (.int b2), (.int b3), (.int b4)]), (wAI [(.int e0), (.int e1), (.int e2), (.int e3), (.int e4)]), (wAI [(.int v0), (.int v1), (.int v2), (.int v3), (.int v4)]), (.inr (cn0, [(fk0, .ref 4), (fk1, .ref 5), (fk2, (.long (tv base w b2))), (fk3, (.int (Int32.ofNat (fil (tv base w b2) (fil (tv base w b1) (fil (tv base w (0 : Int32)) ([] : List Pr) ++ [((tv base w e0), (tv base w v0))]) ++ [((tv base w e1), (tv base w v1))]) ++ [((tv base w e2), (tv base w v2))]).length))), (fk4, (.long ((((0 : Int64) + cn (tv base w (0 : Int32)) (tv base w v0) ([] : List Pr)) + cn (tv base w b1) (tv base w v1) (fil (tv base w (0 : Int32)) ([] : List Pr) ++ [((tv base w e0), (tv base w v0))])) + cn (tv base w b2) (tv base w v2) (fil (tv base w b1) (fil (tv base w (0 : Int32)) ([] : List Pr) ++ [((tv base w e0), (tv base w v0))]) ++ [((tv base w e1), (tv base w v1))]))))])), (wAJ (ja EN3)), (wAJ (ja NT3))], 28) _
  refine .s (.iload a0_558 rfl) <| .s (.i2l a0_560) <| .s (.lcmp a0_561) <| .s (.ifF a0_562 (teq ((lw_eq _ _).mpr hc2)).2) <| .s (.iconst (1 : Int32) a0_565 rfl) <| .s (.goto a0_566) <| .s (.istore (L' := [wJ bb, wS, wJ ss, wS, wJ pp, wS, wR 0, wR 1, wR 2, wJ w, wS, wJ base, wS, wI (ovv e0 b1 v1 v0), wI (((ovv e0 b1 v1 v0) + (ovv e0 b2 v2 v0)) + (ovv e1 b2 v2 v1)), wI ((((((ovv e0 b1 v1 v0) + (ovv e0 b2 v2 v0)) + (ovv e1 b2 v2 v1)) + (ovv e0 b3 v3 v0)) + (ovv e1 b3 v3 v1)) + (ovv e2 b3 v3 v2)), wI ((((((((((ovv e0 b1 v1 v0) + (ovv e0 b2 v2 v0)) + (ovv e1 b2 v2 v1)) + (ovv e0 b3 v3 v0)) + (ovv e1 b3 v3 v1)) + (ovv e2 b3 v3 v2)) + (ovv e0 b4 v4 v0)) + (ovv e1 b4 v4 v1)) + (ovv e2 b4 v4 v2)) + (ovv e3 b4 v4 v3)), wR 3, wI 1]) a0_570 rfl) ?_
  refine .s (.aload a0_572 rfl rfl) <| .s (.lload a0_574 rfl) <| .s (.lload a0_576 rfl) <| .s (.aload a0_578 rfl rfl) <| .s (.iconst (3 : Int32) a0_580 rfl) <| .s (.iaload 3 a0_581 rfl (by decide) rfl rfl) ?_
  refine .callS a0_582 (ok6 hw _ _ _ _) (wd hw 33 rfl) (wd hw 34 rfl) (argsL := [(.long base), (.long w), (.int b3)]) (S := [.ref 3]) (ct hw _ _ base w b3 _ _) rfl rfl rfl rfl rfl rfl (Nat.le_of_ble_eq_true rfl) (Nat.le_of_ble_eq_true rfl) ?_
  rintro _ _ _ ⟨rfl, rfl, rfl⟩
  show WGo _ (585, [wJ bb, wS, wJ ss, wS, wJ pp, wS, wR 0, wR 1, wR 2, wJ w, wS, wJ base, wS, wI (ovv e0 b1 v1 v0), wI (((ovv e0 b1 v1 v0) + (ovv e0 b2 v2 v0)) + (ovv e1 b2 v2 v1)), wI ((((((ovv e0 b1 v1 v0) + (ovv e0 b2 v2 v0)) + (ovv e1 b2 v2 v1)) + (ovv e0 b3 v3 v0)) + (ovv e1 b3 v3 v1)) + (ovv e2 b3 v3 v2)), wI ((((((((((ovv e0 b1 v1 v0) + (ovv e0 b2 v2 v0)) + (ovv e1 b2 v2 v1)) + (ovv e0 b3 v3 v0)) + (ovv e1 b3 v3 v1)) + (ovv e2 b3 v3 v2)) + (ovv e0 b4 v4 v0)) + (ovv e1 b4 v4 v1)) + (ovv e2 b4 v4 v2)) + (ovv e3 b4 v4 v3)), wR 3, wI 1], [(.long (tv base w b3)), .ref 3], [(wAI [.int 0, (.int b1), (.int b2), (.int b3), (.int b4)]), (wAI [(.int e0), (.int e1), (.int e2), (.int e3), (.int e4)]), (wAI [(.int v0), (.int v1), (.int v2), (.int v3), (.int v4)]), (.inr (cn0, [(fk0, .ref 4), (fk1, .ref 5), (fk2, (.long (tv base w b2))), (fk3, (.int (Int32.ofNat (fil (tv base w b2) (fil (tv base w b1) (fil (tv base w (0 : Int32)) ([] : List Pr) ++ [((tv base w e0), (tv base w v0))]) ++ [((tv base w e1), (tv base w v1))]) ++ [((tv base w e2), (tv base w v2))]).length))), (fk4, (.long ((((0 : Int64) + cn (tv base w (0 : Int32)) (tv base w v0) ([] : List Pr)) + cn (tv base w b1) (tv base w v1) (fil (tv base w (0 : Int32)) ([] : List Pr) ++ [((tv base w e0), (tv base w v0))])) + cn (tv base w b2) (tv base w v2) (fil (tv base w b1) (fil (tv base w (0 : Int32)) ([] : List Pr) ++ [((tv base w e0), (tv base w v0))]) ++ [((tv base w e1), (tv base w v1))]))))])), (wAJ (ja EN3)), (wAJ (ja NT3))], 28) _
  refine .s (.lload a0_585 rfl) <| .s (.lload a0_587 rfl) <| .s (.aload a0_589 rfl rfl) <| .s (.iconst (3 : Int32) a0_591 rfl) <| .s (.iaload 3 a0_592 rfl (by decide) rfl rfl) ?_
  refine .callS a0_593 (ok6 hw _ _ _ _) (wd hw 33 rfl) (wd hw 34 rfl) (argsL := [(.long base), (.long w), (.int e3)]) (S := [(.long (tv base w b3)), .ref 3]) (ct hw _ _ base w e3 _ _) rfl rfl rfl rfl rfl rfl (Nat.le_of_ble_eq_true rfl) (Nat.le_of_ble_eq_true rfl) ?_
  rintro _ _ _ ⟨rfl, rfl, rfl⟩
  show WGo _ (596, [wJ bb, wS, wJ ss, wS, wJ pp, wS, wR 0, wR 1, wR 2, wJ w, wS, wJ base, wS, wI (ovv e0 b1 v1 v0), wI (((ovv e0 b1 v1 v0) + (ovv e0 b2 v2 v0)) + (ovv e1 b2 v2 v1)), wI ((((((ovv e0 b1 v1 v0) + (ovv e0 b2 v2 v0)) + (ovv e1 b2 v2 v1)) + (ovv e0 b3 v3 v0)) + (ovv e1 b3 v3 v1)) + (ovv e2 b3 v3 v2)), wI ((((((((((ovv e0 b1 v1 v0) + (ovv e0 b2 v2 v0)) + (ovv e1 b2 v2 v1)) + (ovv e0 b3 v3 v0)) + (ovv e1 b3 v3 v1)) + (ovv e2 b3 v3 v2)) + (ovv e0 b4 v4 v0)) + (ovv e1 b4 v4 v1)) + (ovv e2 b4 v4 v2)) + (ovv e3 b4 v4 v3)), wR 3, wI 1], [(.long (tv base w e3)), (.long (tv base w b3)), .ref 3], [(wAI [.int 0, (.int b1), (.int b2), (.int b3), (.int b4)]), (wAI [(.int e0), (.int e1), (.int e2), (.int e3), (.int e4)]), (wAI [(.int v0), (.int v1), (.int v2), (.int v3), (.int v4)]), (.inr (cn0, [(fk0, .ref 4), (fk1, .ref 5), (fk2, (.long (tv base w b2))), (fk3, (.int (Int32.ofNat (fil (tv base w b2) (fil (tv base w b1) (fil (tv base w (0 : Int32)) ([] : List Pr) ++ [((tv base w e0), (tv base w v0))]) ++ [((tv base w e1), (tv base w v1))]) ++ [((tv base w e2), (tv base w v2))]).length))), (fk4, (.long ((((0 : Int64) + cn (tv base w (0 : Int32)) (tv base w v0) ([] : List Pr)) + cn (tv base w b1) (tv base w v1) (fil (tv base w (0 : Int32)) ([] : List Pr) ++ [((tv base w e0), (tv base w v0))])) + cn (tv base w b2) (tv base w v2) (fil (tv base w b1) (fil (tv base w (0 : Int32)) ([] : List Pr) ++ [((tv base w e0), (tv base w v0))]) ++ [((tv base w e1), (tv base w v1))]))))])), (wAJ (ja EN3)), (wAJ (ja NT3))], 28) _
  refine .s (.lload a0_596 rfl) <| .s (.lload a0_598 rfl) <| .s (.aload a0_600 rfl rfl) <| .s (.iconst (3 : Int32) a0_602 rfl) <| .s (.iaload 3 a0_603 rfl (by decide) rfl rfl) ?_
  refine .callS a0_604 (ok6 hw _ _ _ _) (wd hw 33 rfl) (wd hw 34 rfl) (argsL := [(.long base), (.long w), (.int v3)]) (S := [(.long (tv base w e3)), (.long (tv base w b3)), .ref 3]) (ct hw _ _ base w v3 _ _) rfl rfl rfl rfl rfl rfl (Nat.le_of_ble_eq_true rfl) (Nat.le_of_ble_eq_true rfl) ?_
  rintro _ _ _ ⟨rfl, rfl, rfl⟩
  show WGo _ (607, [wJ bb, wS, wJ ss, wS, wJ pp, wS, wR 0, wR 1, wR 2, wJ w, wS, wJ base, wS, wI (ovv e0 b1 v1 v0), wI (((ovv e0 b1 v1 v0) + (ovv e0 b2 v2 v0)) + (ovv e1 b2 v2 v1)), wI ((((((ovv e0 b1 v1 v0) + (ovv e0 b2 v2 v0)) + (ovv e1 b2 v2 v1)) + (ovv e0 b3 v3 v0)) + (ovv e1 b3 v3 v1)) + (ovv e2 b3 v3 v2)), wI ((((((((((ovv e0 b1 v1 v0) + (ovv e0 b2 v2 v0)) + (ovv e1 b2 v2 v1)) + (ovv e0 b3 v3 v0)) + (ovv e1 b3 v3 v1)) + (ovv e2 b3 v3 v2)) + (ovv e0 b4 v4 v0)) + (ovv e1 b4 v4 v1)) + (ovv e2 b4 v4 v2)) + (ovv e3 b4 v4 v3)), wR 3, wI 1], [(.long (tv base w v3)), (.long (tv base w e3)), (.long (tv base w b3)), .ref 3], [(wAI [.int 0, (.int b1), (.int b2), (.int b3), (.int b4)]), (wAI [(.int e0), (.int e1), (.int e2), (.int e3), (.int e4)]), (wAI [(.int v0), (.int v1), (.int v2), (.int v3), (.int v4)]), (.inr (cn0, [(fk0, .ref 4), (fk1, .ref 5), (fk2, (.long (tv base w b2))), (fk3, (.int (Int32.ofNat (fil (tv base w b2) (fil (tv base w b1) (fil (tv base w (0 : Int32)) ([] : List Pr) ++ [((tv base w e0), (tv base w v0))]) ++ [((tv base w e1), (tv base w v1))]) ++ [((tv base w e2), (tv base w v2))]).length))), (fk4, (.long ((((0 : Int64) + cn (tv base w (0 : Int32)) (tv base w v0) ([] : List Pr)) + cn (tv base w b1) (tv base w v1) (fil (tv base w (0 : Int32)) ([] : List Pr) ++ [((tv base w e0), (tv base w v0))])) + cn (tv base w b2) (tv base w v2) (fil (tv base w b1) (fil (tv base w (0 : Int32)) ([] : List Pr) ++ [((tv base w e0), (tv base w v0))]) ++ [((tv base w e1), (tv base w v1))]))))])), (wAJ (ja EN3)), (wAJ (ja NT3))], 28) _
  refine .callV (k := 3) (z := (⟨"antecede/judges/Overtakings", "add", "(JJJ)V"⟩ : MethodName)) a0_607 (ok7 hw _ _ _ _) ⟨rfl, by decide⟩ (wd hw 36 rfl) (wd hw 37 rfl) (fun s hZ => notFace_of_selects (args := #[]) (mvT hZ (wd hw 39 rfl))) (wd hw 39 rfl) (wd hw 38 rfl) rfl (argsL := [(.long (tv base w b3)), (.long (tv base w e3)), (.long (tv base w v3))]) (S := []) (cadd hw _ _ (wAI [.int 0, (.int b1), (.int b2), (.int b3), (.int b4)]) (wAI [(.int e0), (.int e1), (.int e2), (.int e3), (.int e4)]) (wAI [(.int v0), (.int v1), (.int v2), (.int v3), (.int v4)]) (tv base w b3) (tv base w e3) (tv base w v3) (tv base w b2) ((((0 : Int64) + cn (tv base w (0 : Int32)) (tv base w v0) ([] : List Pr)) + cn (tv base w b1) (tv base w v1) (fil (tv base w (0 : Int32)) ([] : List Pr) ++ [((tv base w e0), (tv base w v0))])) + cn (tv base w b2) (tv base w v2) (fil (tv base w b1) (fil (tv base w (0 : Int32)) ([] : List Pr) ++ [((tv base w e0), (tv base w v0))]) ++ [((tv base w e1), (tv base w v1))])) (fil (tv base w b2) (fil (tv base w b1) (fil (tv base w (0 : Int32)) ([] : List Pr) ++ [((tv base w e0), (tv base w v0))]) ++ [((tv base w e1), (tv base w v1))]) ++ [((tv base w e2), (tv base w v2))]) EN3 NT3 (tv_nlt hr (by omega) (by omega) (by omega)) (tv_nlt hr (by omega) (by omega) (by omega)) (tv_nlt hr (by omega) (by omega) (by omega)) lE3 lN3 hh3 (Nat.le_trans hk3 (by decide)) _) rfl rfl rfl rfl rfl rfl (Nat.le_of_ble_eq_true rfl) (Nat.le_of_ble_eq_true rfl) ?_
  rintro _ _ _ ⟨EN4, NT4, lE4, lN4, hh4, rfl, rfl, rfl⟩
  show WGo _ (610, [wJ bb, wS, wJ ss, wS, wJ pp, wS, wR 0, wR 1, wR 2, wJ w, wS, wJ base, wS, wI (ovv e0 b1 v1 v0), wI (((ovv e0 b1 v1 v0) + (ovv e0 b2 v2 v0)) + (ovv e1 b2 v2 v1)), wI ((((((ovv e0 b1 v1 v0) + (ovv e0 b2 v2 v0)) + (ovv e1 b2 v2 v1)) + (ovv e0 b3 v3 v0)) + (ovv e1 b3 v3 v1)) + (ovv e2 b3 v3 v2)), wI ((((((((((ovv e0 b1 v1 v0) + (ovv e0 b2 v2 v0)) + (ovv e1 b2 v2 v1)) + (ovv e0 b3 v3 v0)) + (ovv e1 b3 v3 v1)) + (ovv e2 b3 v3 v2)) + (ovv e0 b4 v4 v0)) + (ovv e1 b4 v4 v1)) + (ovv e2 b4 v4 v2)) + (ovv e3 b4 v4 v3)), wR 3, wI 1], [], [(wAI [.int 0, (.int b1), (.int b2), (.int b3), (.int b4)]), (wAI [(.int e0), (.int e1), (.int e2), (.int e3), (.int e4)]), (wAI [(.int v0), (.int v1), (.int v2), (.int v3), (.int v4)]), (.inr (cn0, [(fk0, .ref 4), (fk1, .ref 5), (fk2, (.long (tv base w b3))), (fk3, (.int (Int32.ofNat (fil (tv base w b3) (fil (tv base w b2) (fil (tv base w b1) (fil (tv base w (0 : Int32)) ([] : List Pr) ++ [((tv base w e0), (tv base w v0))]) ++ [((tv base w e1), (tv base w v1))]) ++ [((tv base w e2), (tv base w v2))]) ++ [((tv base w e3), (tv base w v3))]).length))), (fk4, (.long (((((0 : Int64) + cn (tv base w (0 : Int32)) (tv base w v0) ([] : List Pr)) + cn (tv base w b1) (tv base w v1) (fil (tv base w (0 : Int32)) ([] : List Pr) ++ [((tv base w e0), (tv base w v0))])) + cn (tv base w b2) (tv base w v2) (fil (tv base w b1) (fil (tv base w (0 : Int32)) ([] : List Pr) ++ [((tv base w e0), (tv base w v0))]) ++ [((tv base w e1), (tv base w v1))])) + cn (tv base w b3) (tv base w v3) (fil (tv base w b2) (fil (tv base w b1) (fil (tv base w (0 : Int32)) ([] : List Pr) ++ [((tv base w e0), (tv base w v0))]) ++ [((tv base w e1), (tv base w v1))]) ++ [((tv base w e2), (tv base w v2))]))))])), (wAJ (ja EN4)), (wAJ (ja NT4))], 28) _
  refine .s (.iload a0_610 rfl) <| .s (.ifF a0_612 (by decide)) <| .s (.aload a0_615 rfl rfl) ?_
  refine .callV (k := 3) (z := (⟨"antecede/judges/Overtakings", "count", "()J"⟩ : MethodName)) a0_617 (ok8 hw _ _ _ _) ⟨rfl, by decide⟩ (wd hw 43 rfl) (wd hw 44 rfl) (fun s hZ => notFace_of_selects (args := #[]) (mvT hZ (wd hw 46 rfl))) (wd hw 46 rfl) (wd hw 45 rfl) rfl (argsL := []) (S := []) (ccount hw _ _ _ _ _ _ (((((0 : Int64) + cn (tv base w (0 : Int32)) (tv base w v0) ([] : List Pr)) + cn (tv base w b1) (tv base w v1) (fil (tv base w (0 : Int32)) ([] : List Pr) ++ [((tv base w e0), (tv base w v0))])) + cn (tv base w b2) (tv base w v2) (fil (tv base w b1) (fil (tv base w (0 : Int32)) ([] : List Pr) ++ [((tv base w e0), (tv base w v0))]) ++ [((tv base w e1), (tv base w v1))])) + cn (tv base w b3) (tv base w v3) (fil (tv base w b2) (fil (tv base w b1) (fil (tv base w (0 : Int32)) ([] : List Pr) ++ [((tv base w e0), (tv base w v0))]) ++ [((tv base w e1), (tv base w v1))]) ++ [((tv base w e2), (tv base w v2))])) ([(wAI [.int 0, (.int b1), (.int b2), (.int b3), (.int b4)]), (wAI [(.int e0), (.int e1), (.int e2), (.int e3), (.int e4)]), (wAI [(.int v0), (.int v1), (.int v2), (.int v3), (.int v4)]), (.inr (cn0, [(fk0, .ref 4), (fk1, .ref 5), (fk2, (.long (tv base w b3))), (fk3, (.int (Int32.ofNat (fil (tv base w b3) (fil (tv base w b2) (fil (tv base w b1) (fil (tv base w (0 : Int32)) ([] : List Pr) ++ [((tv base w e0), (tv base w v0))]) ++ [((tv base w e1), (tv base w v1))]) ++ [((tv base w e2), (tv base w v2))]) ++ [((tv base w e3), (tv base w v3))]).length))), (fk4, (.long (((((0 : Int64) + cn (tv base w (0 : Int32)) (tv base w v0) ([] : List Pr)) + cn (tv base w b1) (tv base w v1) (fil (tv base w (0 : Int32)) ([] : List Pr) ++ [((tv base w e0), (tv base w v0))])) + cn (tv base w b2) (tv base w v2) (fil (tv base w b1) (fil (tv base w (0 : Int32)) ([] : List Pr) ++ [((tv base w e0), (tv base w v0))]) ++ [((tv base w e1), (tv base w v1))])) + cn (tv base w b3) (tv base w v3) (fil (tv base w b2) (fil (tv base w b1) (fil (tv base w (0 : Int32)) ([] : List Pr) ++ [((tv base w e0), (tv base w v0))]) ++ [((tv base w e1), (tv base w v1))]) ++ [((tv base w e2), (tv base w v2))]))))])), (wAJ (ja EN4)), (wAJ (ja NT4))] : WHp) rfl _) rfl rfl rfl rfl rfl rfl (Nat.le_of_ble_eq_true rfl) (Nat.le_of_ble_eq_true rfl) ?_
  rintro _ _ _ ⟨rfl, rfl, rfl⟩
  show WGo _ (620, [wJ bb, wS, wJ ss, wS, wJ pp, wS, wR 0, wR 1, wR 2, wJ w, wS, wJ base, wS, wI (ovv e0 b1 v1 v0), wI (((ovv e0 b1 v1 v0) + (ovv e0 b2 v2 v0)) + (ovv e1 b2 v2 v1)), wI ((((((ovv e0 b1 v1 v0) + (ovv e0 b2 v2 v0)) + (ovv e1 b2 v2 v1)) + (ovv e0 b3 v3 v0)) + (ovv e1 b3 v3 v1)) + (ovv e2 b3 v3 v2)), wI ((((((((((ovv e0 b1 v1 v0) + (ovv e0 b2 v2 v0)) + (ovv e1 b2 v2 v1)) + (ovv e0 b3 v3 v0)) + (ovv e1 b3 v3 v1)) + (ovv e2 b3 v3 v2)) + (ovv e0 b4 v4 v0)) + (ovv e1 b4 v4 v1)) + (ovv e2 b4 v4 v2)) + (ovv e3 b4 v4 v3)), wR 3, wI 1], [(.long (((((0 : Int64) + cn (tv base w (0 : Int32)) (tv base w v0) ([] : List Pr)) + cn (tv base w b1) (tv base w v1) (fil (tv base w (0 : Int32)) ([] : List Pr) ++ [((tv base w e0), (tv base w v0))])) + cn (tv base w b2) (tv base w v2) (fil (tv base w b1) (fil (tv base w (0 : Int32)) ([] : List Pr) ++ [((tv base w e0), (tv base w v0))]) ++ [((tv base w e1), (tv base w v1))])) + cn (tv base w b3) (tv base w v3) (fil (tv base w b2) (fil (tv base w b1) (fil (tv base w (0 : Int32)) ([] : List Pr) ++ [((tv base w e0), (tv base w v0))]) ++ [((tv base w e1), (tv base w v1))]) ++ [((tv base w e2), (tv base w v2))])))], [(wAI [.int 0, (.int b1), (.int b2), (.int b3), (.int b4)]), (wAI [(.int e0), (.int e1), (.int e2), (.int e3), (.int e4)]), (wAI [(.int v0), (.int v1), (.int v2), (.int v3), (.int v4)]), (.inr (cn0, [(fk0, .ref 4), (fk1, .ref 5), (fk2, (.long (tv base w b3))), (fk3, (.int (Int32.ofNat (fil (tv base w b3) (fil (tv base w b2) (fil (tv base w b1) (fil (tv base w (0 : Int32)) ([] : List Pr) ++ [((tv base w e0), (tv base w v0))]) ++ [((tv base w e1), (tv base w v1))]) ++ [((tv base w e2), (tv base w v2))]) ++ [((tv base w e3), (tv base w v3))]).length))), (fk4, (.long (((((0 : Int64) + cn (tv base w (0 : Int32)) (tv base w v0) ([] : List Pr)) + cn (tv base w b1) (tv base w v1) (fil (tv base w (0 : Int32)) ([] : List Pr) ++ [((tv base w e0), (tv base w v0))])) + cn (tv base w b2) (tv base w v2) (fil (tv base w b1) (fil (tv base w (0 : Int32)) ([] : List Pr) ++ [((tv base w e0), (tv base w v0))]) ++ [((tv base w e1), (tv base w v1))])) + cn (tv base w b3) (tv base w v3) (fil (tv base w b2) (fil (tv base w b1) (fil (tv base w (0 : Int32)) ([] : List Pr) ++ [((tv base w e0), (tv base w v0))]) ++ [((tv base w e1), (tv base w v1))]) ++ [((tv base w e2), (tv base w v2))]))))])), (wAJ (ja EN4)), (wAJ (ja NT4))], 28) _
  refine .s (.iload a0_620 rfl) <| .s (.i2l a0_622) <| .s (.lcmp a0_623) <| .s (.ifF a0_624 (teq ((lw_eq _ _).mpr hc3)).2) <| .s (.iconst (1 : Int32) a0_627 rfl) <| .s (.goto a0_628) <| .s (.istore (L' := [wJ bb, wS, wJ ss, wS, wJ pp, wS, wR 0, wR 1, wR 2, wJ w, wS, wJ base, wS, wI (ovv e0 b1 v1 v0), wI (((ovv e0 b1 v1 v0) + (ovv e0 b2 v2 v0)) + (ovv e1 b2 v2 v1)), wI ((((((ovv e0 b1 v1 v0) + (ovv e0 b2 v2 v0)) + (ovv e1 b2 v2 v1)) + (ovv e0 b3 v3 v0)) + (ovv e1 b3 v3 v1)) + (ovv e2 b3 v3 v2)), wI ((((((((((ovv e0 b1 v1 v0) + (ovv e0 b2 v2 v0)) + (ovv e1 b2 v2 v1)) + (ovv e0 b3 v3 v0)) + (ovv e1 b3 v3 v1)) + (ovv e2 b3 v3 v2)) + (ovv e0 b4 v4 v0)) + (ovv e1 b4 v4 v1)) + (ovv e2 b4 v4 v2)) + (ovv e3 b4 v4 v3)), wR 3, wI 1]) a0_632 rfl) ?_
  refine .s (.aload a0_634 rfl rfl) <| .s (.lload a0_636 rfl) <| .s (.lload a0_638 rfl) <| .s (.aload a0_640 rfl rfl) <| .s (.iconst (4 : Int32) a0_642 rfl) <| .s (.iaload 4 a0_643 rfl (by decide) rfl rfl) ?_
  refine .callS a0_644 (ok6 hw _ _ _ _) (wd hw 33 rfl) (wd hw 34 rfl) (argsL := [(.long base), (.long w), (.int b4)]) (S := [.ref 3]) (ct hw _ _ base w b4 _ _) rfl rfl rfl rfl rfl rfl (Nat.le_of_ble_eq_true rfl) (Nat.le_of_ble_eq_true rfl) ?_
  rintro _ _ _ ⟨rfl, rfl, rfl⟩
  show WGo _ (647, [wJ bb, wS, wJ ss, wS, wJ pp, wS, wR 0, wR 1, wR 2, wJ w, wS, wJ base, wS, wI (ovv e0 b1 v1 v0), wI (((ovv e0 b1 v1 v0) + (ovv e0 b2 v2 v0)) + (ovv e1 b2 v2 v1)), wI ((((((ovv e0 b1 v1 v0) + (ovv e0 b2 v2 v0)) + (ovv e1 b2 v2 v1)) + (ovv e0 b3 v3 v0)) + (ovv e1 b3 v3 v1)) + (ovv e2 b3 v3 v2)), wI ((((((((((ovv e0 b1 v1 v0) + (ovv e0 b2 v2 v0)) + (ovv e1 b2 v2 v1)) + (ovv e0 b3 v3 v0)) + (ovv e1 b3 v3 v1)) + (ovv e2 b3 v3 v2)) + (ovv e0 b4 v4 v0)) + (ovv e1 b4 v4 v1)) + (ovv e2 b4 v4 v2)) + (ovv e3 b4 v4 v3)), wR 3, wI 1], [(.long (tv base w b4)), .ref 3], [(wAI [.int 0, (.int b1), (.int b2), (.int b3), (.int b4)]), (wAI [(.int e0), (.int e1), (.int e2), (.int e3), (.int e4)]), (wAI [(.int v0), (.int v1), (.int v2), (.int v3), (.int v4)]), (.inr (cn0, [(fk0, .ref 4), (fk1, .ref 5), (fk2, (.long (tv base w b3))), (fk3, (.int (Int32.ofNat (fil (tv base w b3) (fil (tv base w b2) (fil (tv base w b1) (fil (tv base w (0 : Int32)) ([] : List Pr) ++ [((tv base w e0), (tv base w v0))]) ++ [((tv base w e1), (tv base w v1))]) ++ [((tv base w e2), (tv base w v2))]) ++ [((tv base w e3), (tv base w v3))]).length))), (fk4, (.long (((((0 : Int64) + cn (tv base w (0 : Int32)) (tv base w v0) ([] : List Pr)) + cn (tv base w b1) (tv base w v1) (fil (tv base w (0 : Int32)) ([] : List Pr) ++ [((tv base w e0), (tv base w v0))])) + cn (tv base w b2) (tv base w v2) (fil (tv base w b1) (fil (tv base w (0 : Int32)) ([] : List Pr) ++ [((tv base w e0), (tv base w v0))]) ++ [((tv base w e1), (tv base w v1))])) + cn (tv base w b3) (tv base w v3) (fil (tv base w b2) (fil (tv base w b1) (fil (tv base w (0 : Int32)) ([] : List Pr) ++ [((tv base w e0), (tv base w v0))]) ++ [((tv base w e1), (tv base w v1))]) ++ [((tv base w e2), (tv base w v2))]))))])), (wAJ (ja EN4)), (wAJ (ja NT4))], 28) _
  refine .s (.lload a0_647 rfl) <| .s (.lload a0_649 rfl) <| .s (.aload a0_651 rfl rfl) <| .s (.iconst (4 : Int32) a0_653 rfl) <| .s (.iaload 4 a0_654 rfl (by decide) rfl rfl) ?_
  refine .callS a0_655 (ok6 hw _ _ _ _) (wd hw 33 rfl) (wd hw 34 rfl) (argsL := [(.long base), (.long w), (.int e4)]) (S := [(.long (tv base w b4)), .ref 3]) (ct hw _ _ base w e4 _ _) rfl rfl rfl rfl rfl rfl (Nat.le_of_ble_eq_true rfl) (Nat.le_of_ble_eq_true rfl) ?_
  rintro _ _ _ ⟨rfl, rfl, rfl⟩
  show WGo _ (658, [wJ bb, wS, wJ ss, wS, wJ pp, wS, wR 0, wR 1, wR 2, wJ w, wS, wJ base, wS, wI (ovv e0 b1 v1 v0), wI (((ovv e0 b1 v1 v0) + (ovv e0 b2 v2 v0)) + (ovv e1 b2 v2 v1)), wI ((((((ovv e0 b1 v1 v0) + (ovv e0 b2 v2 v0)) + (ovv e1 b2 v2 v1)) + (ovv e0 b3 v3 v0)) + (ovv e1 b3 v3 v1)) + (ovv e2 b3 v3 v2)), wI ((((((((((ovv e0 b1 v1 v0) + (ovv e0 b2 v2 v0)) + (ovv e1 b2 v2 v1)) + (ovv e0 b3 v3 v0)) + (ovv e1 b3 v3 v1)) + (ovv e2 b3 v3 v2)) + (ovv e0 b4 v4 v0)) + (ovv e1 b4 v4 v1)) + (ovv e2 b4 v4 v2)) + (ovv e3 b4 v4 v3)), wR 3, wI 1], [(.long (tv base w e4)), (.long (tv base w b4)), .ref 3], [(wAI [.int 0, (.int b1), (.int b2), (.int b3), (.int b4)]), (wAI [(.int e0), (.int e1), (.int e2), (.int e3), (.int e4)]), (wAI [(.int v0), (.int v1), (.int v2), (.int v3), (.int v4)]), (.inr (cn0, [(fk0, .ref 4), (fk1, .ref 5), (fk2, (.long (tv base w b3))), (fk3, (.int (Int32.ofNat (fil (tv base w b3) (fil (tv base w b2) (fil (tv base w b1) (fil (tv base w (0 : Int32)) ([] : List Pr) ++ [((tv base w e0), (tv base w v0))]) ++ [((tv base w e1), (tv base w v1))]) ++ [((tv base w e2), (tv base w v2))]) ++ [((tv base w e3), (tv base w v3))]).length))), (fk4, (.long (((((0 : Int64) + cn (tv base w (0 : Int32)) (tv base w v0) ([] : List Pr)) + cn (tv base w b1) (tv base w v1) (fil (tv base w (0 : Int32)) ([] : List Pr) ++ [((tv base w e0), (tv base w v0))])) + cn (tv base w b2) (tv base w v2) (fil (tv base w b1) (fil (tv base w (0 : Int32)) ([] : List Pr) ++ [((tv base w e0), (tv base w v0))]) ++ [((tv base w e1), (tv base w v1))])) + cn (tv base w b3) (tv base w v3) (fil (tv base w b2) (fil (tv base w b1) (fil (tv base w (0 : Int32)) ([] : List Pr) ++ [((tv base w e0), (tv base w v0))]) ++ [((tv base w e1), (tv base w v1))]) ++ [((tv base w e2), (tv base w v2))]))))])), (wAJ (ja EN4)), (wAJ (ja NT4))], 28) _
  refine .s (.lload a0_658 rfl) <| .s (.lload a0_660 rfl) <| .s (.aload a0_662 rfl rfl) <| .s (.iconst (4 : Int32) a0_664 rfl) <| .s (.iaload 4 a0_665 rfl (by decide) rfl rfl) ?_
  refine .callS a0_666 (ok6 hw _ _ _ _) (wd hw 33 rfl) (wd hw 34 rfl) (argsL := [(.long base), (.long w), (.int v4)]) (S := [(.long (tv base w e4)), (.long (tv base w b4)), .ref 3]) (ct hw _ _ base w v4 _ _) rfl rfl rfl rfl rfl rfl (Nat.le_of_ble_eq_true rfl) (Nat.le_of_ble_eq_true rfl) ?_
  rintro _ _ _ ⟨rfl, rfl, rfl⟩
  show WGo _ (669, [wJ bb, wS, wJ ss, wS, wJ pp, wS, wR 0, wR 1, wR 2, wJ w, wS, wJ base, wS, wI (ovv e0 b1 v1 v0), wI (((ovv e0 b1 v1 v0) + (ovv e0 b2 v2 v0)) + (ovv e1 b2 v2 v1)), wI ((((((ovv e0 b1 v1 v0) + (ovv e0 b2 v2 v0)) + (ovv e1 b2 v2 v1)) + (ovv e0 b3 v3 v0)) + (ovv e1 b3 v3 v1)) + (ovv e2 b3 v3 v2)), wI ((((((((((ovv e0 b1 v1 v0) + (ovv e0 b2 v2 v0)) + (ovv e1 b2 v2 v1)) + (ovv e0 b3 v3 v0)) + (ovv e1 b3 v3 v1)) + (ovv e2 b3 v3 v2)) + (ovv e0 b4 v4 v0)) + (ovv e1 b4 v4 v1)) + (ovv e2 b4 v4 v2)) + (ovv e3 b4 v4 v3)), wR 3, wI 1], [(.long (tv base w v4)), (.long (tv base w e4)), (.long (tv base w b4)), .ref 3], [(wAI [.int 0, (.int b1), (.int b2), (.int b3), (.int b4)]), (wAI [(.int e0), (.int e1), (.int e2), (.int e3), (.int e4)]), (wAI [(.int v0), (.int v1), (.int v2), (.int v3), (.int v4)]), (.inr (cn0, [(fk0, .ref 4), (fk1, .ref 5), (fk2, (.long (tv base w b3))), (fk3, (.int (Int32.ofNat (fil (tv base w b3) (fil (tv base w b2) (fil (tv base w b1) (fil (tv base w (0 : Int32)) ([] : List Pr) ++ [((tv base w e0), (tv base w v0))]) ++ [((tv base w e1), (tv base w v1))]) ++ [((tv base w e2), (tv base w v2))]) ++ [((tv base w e3), (tv base w v3))]).length))), (fk4, (.long (((((0 : Int64) + cn (tv base w (0 : Int32)) (tv base w v0) ([] : List Pr)) + cn (tv base w b1) (tv base w v1) (fil (tv base w (0 : Int32)) ([] : List Pr) ++ [((tv base w e0), (tv base w v0))])) + cn (tv base w b2) (tv base w v2) (fil (tv base w b1) (fil (tv base w (0 : Int32)) ([] : List Pr) ++ [((tv base w e0), (tv base w v0))]) ++ [((tv base w e1), (tv base w v1))])) + cn (tv base w b3) (tv base w v3) (fil (tv base w b2) (fil (tv base w b1) (fil (tv base w (0 : Int32)) ([] : List Pr) ++ [((tv base w e0), (tv base w v0))]) ++ [((tv base w e1), (tv base w v1))]) ++ [((tv base w e2), (tv base w v2))]))))])), (wAJ (ja EN4)), (wAJ (ja NT4))], 28) _
  refine .callV (k := 3) (z := (⟨"antecede/judges/Overtakings", "add", "(JJJ)V"⟩ : MethodName)) a0_669 (ok7 hw _ _ _ _) ⟨rfl, by decide⟩ (wd hw 36 rfl) (wd hw 37 rfl) (fun s hZ => notFace_of_selects (args := #[]) (mvT hZ (wd hw 39 rfl))) (wd hw 39 rfl) (wd hw 38 rfl) rfl (argsL := [(.long (tv base w b4)), (.long (tv base w e4)), (.long (tv base w v4))]) (S := []) (cadd5 hw _ _ (wAI [.int 0, (.int b1), (.int b2), (.int b3), (.int b4)]) (wAI [(.int e0), (.int e1), (.int e2), (.int e3), (.int e4)]) (wAI [(.int v0), (.int v1), (.int v2), (.int v3), (.int v4)]) (tv base w b4) (tv base w e4) (tv base w v4) (tv base w b3) (((((0 : Int64) + cn (tv base w (0 : Int32)) (tv base w v0) ([] : List Pr)) + cn (tv base w b1) (tv base w v1) (fil (tv base w (0 : Int32)) ([] : List Pr) ++ [((tv base w e0), (tv base w v0))])) + cn (tv base w b2) (tv base w v2) (fil (tv base w b1) (fil (tv base w (0 : Int32)) ([] : List Pr) ++ [((tv base w e0), (tv base w v0))]) ++ [((tv base w e1), (tv base w v1))])) + cn (tv base w b3) (tv base w v3) (fil (tv base w b2) (fil (tv base w b1) (fil (tv base w (0 : Int32)) ([] : List Pr) ++ [((tv base w e0), (tv base w v0))]) ++ [((tv base w e1), (tv base w v1))]) ++ [((tv base w e2), (tv base w v2))])) (fil (tv base w b3) (fil (tv base w b2) (fil (tv base w b1) (fil (tv base w (0 : Int32)) ([] : List Pr) ++ [((tv base w e0), (tv base w v0))]) ++ [((tv base w e1), (tv base w v1))]) ++ [((tv base w e2), (tv base w v2))]) ++ [((tv base w e3), (tv base w v3))]) EN4 NT4 (tv_nlt hr (by omega) (by omega) (by omega)) (tv_nlt hr (by omega) (by omega) (by omega)) (tv_nlt hr (by omega) (by omega) (by omega)) lE4 lN4 hh4 (Nat.le_trans hk4 (by decide)) _) rfl rfl rfl rfl rfl rfl (Nat.le_of_ble_eq_true rfl) (Nat.le_of_ble_eq_true rfl) ?_
  rintro _ σ5 u5 ⟨f0, f1, f2, f3, rfl, h5, l5, m5⟩
  show WGo _ (672, [wJ bb, wS, wJ ss, wS, wJ pp, wS, wR 0, wR 1, wR 2, wJ w, wS, wJ base, wS, wI (ovv e0 b1 v1 v0), wI (((ovv e0 b1 v1 v0) + (ovv e0 b2 v2 v0)) + (ovv e1 b2 v2 v1)), wI ((((((ovv e0 b1 v1 v0) + (ovv e0 b2 v2 v0)) + (ovv e1 b2 v2 v1)) + (ovv e0 b3 v3 v0)) + (ovv e1 b3 v3 v1)) + (ovv e2 b3 v3 v2)), wI ((((((((((ovv e0 b1 v1 v0) + (ovv e0 b2 v2 v0)) + (ovv e1 b2 v2 v1)) + (ovv e0 b3 v3 v0)) + (ovv e1 b3 v3 v1)) + (ovv e2 b3 v3 v2)) + (ovv e0 b4 v4 v0)) + (ovv e1 b4 v4 v1)) + (ovv e2 b4 v4 v2)) + (ovv e3 b4 v4 v3)), wR 3, wI 1], [], σ5, u5) _
  refine .s (.iload a0_672 rfl) <| .s (.ifF a0_674 (by decide)) <| .s (.aload a0_677 rfl rfl) ?_
  refine .callV (k := 3) (z := (⟨"antecede/judges/Overtakings", "count", "()J"⟩ : MethodName)) a0_679 (ok8 hw _ _ _ _) ⟨rfl, by decide⟩ (wd hw 43 rfl) (wd hw 44 rfl) (fun s hZ => notFace_of_selects (args := #[]) (mvT hZ (wd hw 46 rfl))) (wd hw 46 rfl) (wd hw 45 rfl) h5 (argsL := []) (S := []) (ccount hw _ _ _ _ _ _ ((((((0 : Int64) + cn (tv base w (0 : Int32)) (tv base w v0) ([] : List Pr)) + cn (tv base w b1) (tv base w v1) (fil (tv base w (0 : Int32)) ([] : List Pr) ++ [((tv base w e0), (tv base w v0))])) + cn (tv base w b2) (tv base w v2) (fil (tv base w b1) (fil (tv base w (0 : Int32)) ([] : List Pr) ++ [((tv base w e0), (tv base w v0))]) ++ [((tv base w e1), (tv base w v1))])) + cn (tv base w b3) (tv base w v3) (fil (tv base w b2) (fil (tv base w b1) (fil (tv base w (0 : Int32)) ([] : List Pr) ++ [((tv base w e0), (tv base w v0))]) ++ [((tv base w e1), (tv base w v1))]) ++ [((tv base w e2), (tv base w v2))])) + cn (tv base w b4) (tv base w v4) (fil (tv base w b3) (fil (tv base w b2) (fil (tv base w b1) (fil (tv base w (0 : Int32)) ([] : List Pr) ++ [((tv base w e0), (tv base w v0))]) ++ [((tv base w e1), (tv base w v1))]) ++ [((tv base w e2), (tv base w v2))]) ++ [((tv base w e3), (tv base w v3))])) (σ5 : WHp) h5 _) rfl rfl rfl rfl rfl rfl (Nat.le_of_ble_eq_true rfl) (Nat.le_of_ble_eq_true rfl) ?_
  rintro _ _ _ ⟨rfl, rfl, rfl⟩
  show WGo _ (682, [wJ bb, wS, wJ ss, wS, wJ pp, wS, wR 0, wR 1, wR 2, wJ w, wS, wJ base, wS, wI (ovv e0 b1 v1 v0), wI (((ovv e0 b1 v1 v0) + (ovv e0 b2 v2 v0)) + (ovv e1 b2 v2 v1)), wI ((((((ovv e0 b1 v1 v0) + (ovv e0 b2 v2 v0)) + (ovv e1 b2 v2 v1)) + (ovv e0 b3 v3 v0)) + (ovv e1 b3 v3 v1)) + (ovv e2 b3 v3 v2)), wI ((((((((((ovv e0 b1 v1 v0) + (ovv e0 b2 v2 v0)) + (ovv e1 b2 v2 v1)) + (ovv e0 b3 v3 v0)) + (ovv e1 b3 v3 v1)) + (ovv e2 b3 v3 v2)) + (ovv e0 b4 v4 v0)) + (ovv e1 b4 v4 v1)) + (ovv e2 b4 v4 v2)) + (ovv e3 b4 v4 v3)), wR 3, wI 1], [(.long ((((((0 : Int64) + cn (tv base w (0 : Int32)) (tv base w v0) ([] : List Pr)) + cn (tv base w b1) (tv base w v1) (fil (tv base w (0 : Int32)) ([] : List Pr) ++ [((tv base w e0), (tv base w v0))])) + cn (tv base w b2) (tv base w v2) (fil (tv base w b1) (fil (tv base w (0 : Int32)) ([] : List Pr) ++ [((tv base w e0), (tv base w v0))]) ++ [((tv base w e1), (tv base w v1))])) + cn (tv base w b3) (tv base w v3) (fil (tv base w b2) (fil (tv base w b1) (fil (tv base w (0 : Int32)) ([] : List Pr) ++ [((tv base w e0), (tv base w v0))]) ++ [((tv base w e1), (tv base w v1))]) ++ [((tv base w e2), (tv base w v2))])) + cn (tv base w b4) (tv base w v4) (fil (tv base w b3) (fil (tv base w b2) (fil (tv base w b1) (fil (tv base w (0 : Int32)) ([] : List Pr) ++ [((tv base w e0), (tv base w v0))]) ++ [((tv base w e1), (tv base w v1))]) ++ [((tv base w e2), (tv base w v2))]) ++ [((tv base w e3), (tv base w v3))])))], σ5, u5) _
  refine .s (.iload a0_682 rfl) <| .s (.i2l a0_684) <| .s (.lcmp a0_685) <| .s (.ifF a0_686 (teq ((lw_eq _ _).mpr hc4)).2) <| .s (.iconst (1 : Int32) a0_689 rfl) <| .s (.goto a0_690) <| .s (.istore (L' := [wJ bb, wS, wJ ss, wS, wJ pp, wS, wR 0, wR 1, wR 2, wJ w, wS, wJ base, wS, wI (ovv e0 b1 v1 v0), wI (((ovv e0 b1 v1 v0) + (ovv e0 b2 v2 v0)) + (ovv e1 b2 v2 v1)), wI ((((((ovv e0 b1 v1 v0) + (ovv e0 b2 v2 v0)) + (ovv e1 b2 v2 v1)) + (ovv e0 b3 v3 v0)) + (ovv e1 b3 v3 v1)) + (ovv e2 b3 v3 v2)), wI ((((((((((ovv e0 b1 v1 v0) + (ovv e0 b2 v2 v0)) + (ovv e1 b2 v2 v1)) + (ovv e0 b3 v3 v0)) + (ovv e1 b3 v3 v1)) + (ovv e2 b3 v3 v2)) + (ovv e0 b4 v4 v0)) + (ovv e1 b4 v4 v1)) + (ovv e2 b4 v4 v2)) + (ovv e3 b4 v4 v3)), wR 3, wI 1]) a0_694 rfl) ?_
  refine .s (.iload a0_696 rfl) ?_
  refine .ireturn .boolean a0_698 rfl (by simp) ?_
  exact ⟨rfl, Nat.le_trans l5 (by decide), Nat.le_trans m5 (by decide)⟩
theorem room_of {base w : Int64} (h1 : 1 ≤ w.toInt) (h2 : w.toInt ≤ 72057594037927936) (hbase : ¬ (9223372036854775807 : Int64) - ((42 : Int64) * w) < base) : Room42 base w := by
  have e1 := c_lmul (42 : Int64) w
  have e2 := c_lsub (9223372036854775807 : Int64) ((42 : Int64) * w)
  have e3 : (42 : Int64).toInt = 42 := rfl
  have e4 : (9223372036854775807 : Int64).toInt = 9223372036854775807 := rfl
  rw [e3] at e1
  rw [e4] at e2
  rw [Int64.lt_iff_toInt_lt] at hbase
  have r1 := rng64 ((42 : Int64) * w)
  have r2 := rng64 ((9223372036854775807 : Int64) - ((42 : Int64) * w))
  have r3 := rng64 base
  refine ⟨h1, h2, ?_⟩
  omega
set_option maxHeartbeats 40000000 in
theorem law_go (Z : State) (a0 : Array Value) (hw : ∀ d ∈ tables_1, d.before a0 Z = true) (n0 : Nat) (i0 i1 i2 : Int64) : WGo (g0 Z (fun k => n0 + k) n0 0 0) (0, [wJ i0, wS, wJ i1, wS, wJ i2, wS, wU, wU, wU, wU, wU, wU, wU, wU, wU, wU, wU, wU, wU], [], [], 0) (fun v σ' u' => v = some (.int 1) ∧ σ'.length ≤ 24 ∧ u' ≤ 192) := by
  have z0 : (0 : Int32).toInt = 0 := rfl
  refine .s (.iconst (5 : Int32) a0_0 rfl) <| .s (.newP (k := 0) (5 : Int32) 5 a0_1 (wd hw 0 rfl) (by decide) rfl (by decide) rfl (by decide)) ?_
  show WGo _ (3, [wJ i0, wS, wJ i1, wS, wJ i2, wS, wU, wU, wU, wU, wU, wU, wU, wU, wU, wU, wU, wU, wU], [.ref 0], [(wAI [.int 0, .int 0, .int 0, .int 0, .int 0])], 5) _
  refine .s (.astore (L' := [wJ i0, wS, wJ i1, wS, wJ i2, wS, wR 0, wU, wU, wU, wU, wU, wU, wU, wU, wU, wU, wU, wU]) a0_3 rfl rfl) <| .s (.iconst (5 : Int32) a0_5 rfl) <| .s (.newP (k := 1) (5 : Int32) 5 a0_6 (wd hw 0 rfl) (by decide) rfl (by decide) rfl (by decide)) ?_
  show WGo _ (8, [wJ i0, wS, wJ i1, wS, wJ i2, wS, wR 0, wU, wU, wU, wU, wU, wU, wU, wU, wU, wU, wU, wU], [.ref 1], [(wAI [.int 0, .int 0, .int 0, .int 0, .int 0]), (wAI [.int 0, .int 0, .int 0, .int 0, .int 0])], 10) _
  refine .s (.astore (L' := [wJ i0, wS, wJ i1, wS, wJ i2, wS, wR 0, wR 1, wU, wU, wU, wU, wU, wU, wU, wU, wU, wU, wU]) a0_8 rfl rfl) <| .s (.iconst (5 : Int32) a0_10 rfl) <| .s (.newP (k := 2) (5 : Int32) 5 a0_11 (wd hw 0 rfl) (by decide) rfl (by decide) rfl (by decide)) ?_
  show WGo _ (13, [wJ i0, wS, wJ i1, wS, wJ i2, wS, wR 0, wR 1, wU, wU, wU, wU, wU, wU, wU, wU, wU, wU, wU], [.ref 2], [(wAI [.int 0, .int 0, .int 0, .int 0, .int 0]), (wAI [.int 0, .int 0, .int 0, .int 0, .int 0]), (wAI [.int 0, .int 0, .int 0, .int 0, .int 0])], 15) _
  refine .s (.astore (L' := [wJ i0, wS, wJ i1, wS, wJ i2, wS, wR 0, wR 1, wR 2, wU, wU, wU, wU, wU, wU, wU, wU, wU, wU]) a0_13 rfl rfl) <| .s (.aload a0_15 rfl rfl) <| .s (.iconst (0 : Int32) a0_17 rfl) <| .s (.iconst (0 : Int32) a0_18 rfl) <| .s (.iastore 0 a0_19 rfl (by decide) rfl (Nat.le_of_ble_eq_true rfl)) ?_
  show WGo _ (20, [wJ i0, wS, wJ i1, wS, wJ i2, wS, wR 0, wR 1, wR 2, wU, wU, wU, wU, wU, wU, wU, wU, wU, wU], [], [(wAI [.int 0, .int 0, .int 0, .int 0, .int 0]), (wAI [.int 0, .int 0, .int 0, .int 0, .int 0]), (wAI [.int 0, .int 0, .int 0, .int 0, .int 0])], 15) _
  refine .s (.aload a0_20 rfl rfl) <| .s (.iconst (1 : Int32) a0_22 rfl) <| .s (.aload a0_23 rfl rfl) <| .s (.iconst (0 : Int32) a0_25 rfl) <| .s (.iaload 0 a0_26 rfl (by decide) rfl rfl) <| .s (.lload a0_27 rfl) <| .s (.iconst (0 : Int32) a0_29 rfl) ?_
  refine .callS a0_30 (ok1 hw _ _ _ _) (wd hw 1 rfl) (wd hw 2 rfl) (argsL := [(.long i2), .int 0]) (S := [.int 0, .int 1, .ref 0]) (cbits hw _ _ i2 (0 : Int32) _ _) rfl rfl rfl rfl rfl rfl (Nat.le_of_ble_eq_true rfl) (Nat.le_of_ble_eq_true rfl) ?_
  rintro _ _ _ ⟨⟨z1, rfl, z1a, z1b⟩, rfl, rfl⟩
  show WGo _ (33, [wJ i0, wS, wJ i1, wS, wJ i2, wS, wR 0, wR 1, wR 2, wU, wU, wU, wU, wU, wU, wU, wU, wU, wU], [(.int z1), .int 0, .int 1, .ref 0], [(wAI [.int 0, .int 0, .int 0, .int 0, .int 0]), (wAI [.int 0, .int 0, .int 0, .int 0, .int 0]), (wAI [.int 0, .int 0, .int 0, .int 0, .int 0])], 15) _
  refine .s (.iadd a0_33) ?_
  generalize hg_b1 : ((0 : Int32) + z1) = b1
  have gb1 := add_small hg_b1 (by omega) (by omega)
  refine .s (.iastore 1 a0_34 rfl (by decide) rfl (Nat.le_of_ble_eq_true rfl)) ?_
  show WGo _ (35, [wJ i0, wS, wJ i1, wS, wJ i2, wS, wR 0, wR 1, wR 2, wU, wU, wU, wU, wU, wU, wU, wU, wU, wU], [], [(wAI [.int 0, (.int b1), .int 0, .int 0, .int 0]), (wAI [.int 0, .int 0, .int 0, .int 0, .int 0]), (wAI [.int 0, .int 0, .int 0, .int 0, .int 0])], 15) _
  refine .s (.aload a0_35 rfl rfl) <| .s (.iconst (2 : Int32) a0_37 rfl) <| .s (.aload a0_38 rfl rfl) <| .s (.iconst (1 : Int32) a0_40 rfl) <| .s (.iaload 1 a0_41 rfl (by decide) rfl rfl) <| .s (.lload a0_42 rfl) <| .s (.iconst (3 : Int32) a0_44 rfl) ?_
  refine .callS a0_45 (ok1 hw _ _ _ _) (wd hw 1 rfl) (wd hw 2 rfl) (argsL := [(.long i2), .int 3]) (S := [(.int b1), .int 2, .ref 0]) (cbits hw _ _ i2 (3 : Int32) _ _) rfl rfl rfl rfl rfl rfl (Nat.le_of_ble_eq_true rfl) (Nat.le_of_ble_eq_true rfl) ?_
  rintro _ _ _ ⟨⟨z2, rfl, z2a, z2b⟩, rfl, rfl⟩
  show WGo _ (48, [wJ i0, wS, wJ i1, wS, wJ i2, wS, wR 0, wR 1, wR 2, wU, wU, wU, wU, wU, wU, wU, wU, wU, wU], [(.int z2), (.int b1), .int 2, .ref 0], [(wAI [.int 0, (.int b1), .int 0, .int 0, .int 0]), (wAI [.int 0, .int 0, .int 0, .int 0, .int 0]), (wAI [.int 0, .int 0, .int 0, .int 0, .int 0])], 15) _
  refine .s (.iadd a0_48) ?_
  generalize hg_b2 : (b1 + z2) = b2
  have gb2 := add_small hg_b2 (by omega) (by omega)
  refine .s (.iastore 2 a0_49 rfl (by decide) rfl (Nat.le_of_ble_eq_true rfl)) ?_
  show WGo _ (50, [wJ i0, wS, wJ i1, wS, wJ i2, wS, wR 0, wR 1, wR 2, wU, wU, wU, wU, wU, wU, wU, wU, wU, wU], [], [(wAI [.int 0, (.int b1), (.int b2), .int 0, .int 0]), (wAI [.int 0, .int 0, .int 0, .int 0, .int 0]), (wAI [.int 0, .int 0, .int 0, .int 0, .int 0])], 15) _
  refine .s (.aload a0_50 rfl rfl) <| .s (.iconst (3 : Int32) a0_52 rfl) <| .s (.aload a0_53 rfl rfl) <| .s (.iconst (2 : Int32) a0_55 rfl) <| .s (.iaload 2 a0_56 rfl (by decide) rfl rfl) <| .s (.lload a0_57 rfl) <| .s (.bipush (6 : Int32) a0_59 rfl) ?_
  refine .callS a0_61 (ok1 hw _ _ _ _) (wd hw 1 rfl) (wd hw 2 rfl) (argsL := [(.long i2), .int 6]) (S := [(.int b2), .int 3, .ref 0]) (cbits hw _ _ i2 (6 : Int32) _ _) rfl rfl rfl rfl rfl rfl (Nat.le_of_ble_eq_true rfl) (Nat.le_of_ble_eq_true rfl) ?_
  rintro _ _ _ ⟨⟨z3, rfl, z3a, z3b⟩, rfl, rfl⟩
  show WGo _ (64, [wJ i0, wS, wJ i1, wS, wJ i2, wS, wR 0, wR 1, wR 2, wU, wU, wU, wU, wU, wU, wU, wU, wU, wU], [(.int z3), (.int b2), .int 3, .ref 0], [(wAI [.int 0, (.int b1), (.int b2), .int 0, .int 0]), (wAI [.int 0, .int 0, .int 0, .int 0, .int 0]), (wAI [.int 0, .int 0, .int 0, .int 0, .int 0])], 15) _
  refine .s (.iadd a0_64) ?_
  generalize hg_b3 : (b2 + z3) = b3
  have gb3 := add_small hg_b3 (by omega) (by omega)
  refine .s (.iastore 3 a0_65 rfl (by decide) rfl (Nat.le_of_ble_eq_true rfl)) ?_
  show WGo _ (66, [wJ i0, wS, wJ i1, wS, wJ i2, wS, wR 0, wR 1, wR 2, wU, wU, wU, wU, wU, wU, wU, wU, wU, wU], [], [(wAI [.int 0, (.int b1), (.int b2), (.int b3), .int 0]), (wAI [.int 0, .int 0, .int 0, .int 0, .int 0]), (wAI [.int 0, .int 0, .int 0, .int 0, .int 0])], 15) _
  refine .s (.aload a0_66 rfl rfl) <| .s (.iconst (4 : Int32) a0_68 rfl) <| .s (.aload a0_69 rfl rfl) <| .s (.iconst (3 : Int32) a0_71 rfl) <| .s (.iaload 3 a0_72 rfl (by decide) rfl rfl) <| .s (.lload a0_73 rfl) <| .s (.bipush (9 : Int32) a0_75 rfl) ?_
  refine .callS a0_77 (ok1 hw _ _ _ _) (wd hw 1 rfl) (wd hw 2 rfl) (argsL := [(.long i2), .int 9]) (S := [(.int b3), .int 4, .ref 0]) (cbits hw _ _ i2 (9 : Int32) _ _) rfl rfl rfl rfl rfl rfl (Nat.le_of_ble_eq_true rfl) (Nat.le_of_ble_eq_true rfl) ?_
  rintro _ _ _ ⟨⟨z4, rfl, z4a, z4b⟩, rfl, rfl⟩
  show WGo _ (80, [wJ i0, wS, wJ i1, wS, wJ i2, wS, wR 0, wR 1, wR 2, wU, wU, wU, wU, wU, wU, wU, wU, wU, wU], [(.int z4), (.int b3), .int 4, .ref 0], [(wAI [.int 0, (.int b1), (.int b2), (.int b3), .int 0]), (wAI [.int 0, .int 0, .int 0, .int 0, .int 0]), (wAI [.int 0, .int 0, .int 0, .int 0, .int 0])], 15) _
  refine .s (.iadd a0_80) ?_
  generalize hg_b4 : (b3 + z4) = b4
  have gb4 := add_small hg_b4 (by omega) (by omega)
  refine .s (.iastore 4 a0_81 rfl (by decide) rfl (Nat.le_of_ble_eq_true rfl)) ?_
  show WGo _ (82, [wJ i0, wS, wJ i1, wS, wJ i2, wS, wR 0, wR 1, wR 2, wU, wU, wU, wU, wU, wU, wU, wU, wU, wU], [], [(wAI [.int 0, (.int b1), (.int b2), (.int b3), (.int b4)]), (wAI [.int 0, .int 0, .int 0, .int 0, .int 0]), (wAI [.int 0, .int 0, .int 0, .int 0, .int 0])], 15) _
  refine .s (.aload a0_82 rfl rfl) <| .s (.iconst (0 : Int32) a0_84 rfl) <| .s (.aload a0_85 rfl rfl) <| .s (.iconst (0 : Int32) a0_87 rfl) <| .s (.iaload 0 a0_88 rfl (by decide) rfl rfl) <| .s (.lload a0_89 rfl) <| .s (.bipush (12 : Int32) a0_91 rfl) ?_
  refine .callS a0_93 (ok1 hw _ _ _ _) (wd hw 1 rfl) (wd hw 2 rfl) (argsL := [(.long i2), .int 12]) (S := [.int 0, .int 0, .ref 1]) (cbits hw _ _ i2 (12 : Int32) _ _) rfl rfl rfl rfl rfl rfl (Nat.le_of_ble_eq_true rfl) (Nat.le_of_ble_eq_true rfl) ?_
  rintro _ _ _ ⟨⟨z5, rfl, z5a, z5b⟩, rfl, rfl⟩
  show WGo _ (96, [wJ i0, wS, wJ i1, wS, wJ i2, wS, wR 0, wR 1, wR 2, wU, wU, wU, wU, wU, wU, wU, wU, wU, wU], [(.int z5), .int 0, .int 0, .ref 1], [(wAI [.int 0, (.int b1), (.int b2), (.int b3), (.int b4)]), (wAI [.int 0, .int 0, .int 0, .int 0, .int 0]), (wAI [.int 0, .int 0, .int 0, .int 0, .int 0])], 15) _
  refine .s (.iadd a0_96) ?_
  generalize hg_e0 : ((0 : Int32) + z5) = e0
  have ge0 := add_small hg_e0 (by omega) (by omega)
  refine .s (.iastore 0 a0_97 rfl (by decide) rfl (Nat.le_of_ble_eq_true rfl)) ?_
  show WGo _ (98, [wJ i0, wS, wJ i1, wS, wJ i2, wS, wR 0, wR 1, wR 2, wU, wU, wU, wU, wU, wU, wU, wU, wU, wU], [], [(wAI [.int 0, (.int b1), (.int b2), (.int b3), (.int b4)]), (wAI [(.int e0), .int 0, .int 0, .int 0, .int 0]), (wAI [.int 0, .int 0, .int 0, .int 0, .int 0])], 15) _
  refine .s (.aload a0_98 rfl rfl) <| .s (.iconst (1 : Int32) a0_100 rfl) <| .s (.aload a0_101 rfl rfl) <| .s (.iconst (1 : Int32) a0_103 rfl) <| .s (.iaload 1 a0_104 rfl (by decide) rfl rfl) <| .s (.lload a0_105 rfl) <| .s (.bipush (15 : Int32) a0_107 rfl) ?_
  refine .callS a0_109 (ok1 hw _ _ _ _) (wd hw 1 rfl) (wd hw 2 rfl) (argsL := [(.long i2), .int 15]) (S := [(.int b1), .int 1, .ref 1]) (cbits hw _ _ i2 (15 : Int32) _ _) rfl rfl rfl rfl rfl rfl (Nat.le_of_ble_eq_true rfl) (Nat.le_of_ble_eq_true rfl) ?_
  rintro _ _ _ ⟨⟨z6, rfl, z6a, z6b⟩, rfl, rfl⟩
  show WGo _ (112, [wJ i0, wS, wJ i1, wS, wJ i2, wS, wR 0, wR 1, wR 2, wU, wU, wU, wU, wU, wU, wU, wU, wU, wU], [(.int z6), (.int b1), .int 1, .ref 1], [(wAI [.int 0, (.int b1), (.int b2), (.int b3), (.int b4)]), (wAI [(.int e0), .int 0, .int 0, .int 0, .int 0]), (wAI [.int 0, .int 0, .int 0, .int 0, .int 0])], 15) _
  refine .s (.iadd a0_112) ?_
  generalize hg_e1 : (b1 + z6) = e1
  have ge1 := add_small hg_e1 (by omega) (by omega)
  refine .s (.iastore 1 a0_113 rfl (by decide) rfl (Nat.le_of_ble_eq_true rfl)) ?_
  show WGo _ (114, [wJ i0, wS, wJ i1, wS, wJ i2, wS, wR 0, wR 1, wR 2, wU, wU, wU, wU, wU, wU, wU, wU, wU, wU], [], [(wAI [.int 0, (.int b1), (.int b2), (.int b3), (.int b4)]), (wAI [(.int e0), (.int e1), .int 0, .int 0, .int 0]), (wAI [.int 0, .int 0, .int 0, .int 0, .int 0])], 15) _
  refine .s (.aload a0_114 rfl rfl) <| .s (.iconst (2 : Int32) a0_116 rfl) <| .s (.aload a0_117 rfl rfl) <| .s (.iconst (2 : Int32) a0_119 rfl) <| .s (.iaload 2 a0_120 rfl (by decide) rfl rfl) <| .s (.lload a0_121 rfl) <| .s (.bipush (18 : Int32) a0_123 rfl) ?_
  refine .callS a0_125 (ok1 hw _ _ _ _) (wd hw 1 rfl) (wd hw 2 rfl) (argsL := [(.long i2), .int 18]) (S := [(.int b2), .int 2, .ref 1]) (cbits hw _ _ i2 (18 : Int32) _ _) rfl rfl rfl rfl rfl rfl (Nat.le_of_ble_eq_true rfl) (Nat.le_of_ble_eq_true rfl) ?_
  rintro _ _ _ ⟨⟨z7, rfl, z7a, z7b⟩, rfl, rfl⟩
  show WGo _ (128, [wJ i0, wS, wJ i1, wS, wJ i2, wS, wR 0, wR 1, wR 2, wU, wU, wU, wU, wU, wU, wU, wU, wU, wU], [(.int z7), (.int b2), .int 2, .ref 1], [(wAI [.int 0, (.int b1), (.int b2), (.int b3), (.int b4)]), (wAI [(.int e0), (.int e1), .int 0, .int 0, .int 0]), (wAI [.int 0, .int 0, .int 0, .int 0, .int 0])], 15) _
  refine .s (.iadd a0_128) ?_
  generalize hg_e2 : (b2 + z7) = e2
  have ge2 := add_small hg_e2 (by omega) (by omega)
  refine .s (.iastore 2 a0_129 rfl (by decide) rfl (Nat.le_of_ble_eq_true rfl)) ?_
  show WGo _ (130, [wJ i0, wS, wJ i1, wS, wJ i2, wS, wR 0, wR 1, wR 2, wU, wU, wU, wU, wU, wU, wU, wU, wU, wU], [], [(wAI [.int 0, (.int b1), (.int b2), (.int b3), (.int b4)]), (wAI [(.int e0), (.int e1), (.int e2), .int 0, .int 0]), (wAI [.int 0, .int 0, .int 0, .int 0, .int 0])], 15) _
  refine .s (.aload a0_130 rfl rfl) <| .s (.iconst (3 : Int32) a0_132 rfl) <| .s (.aload a0_133 rfl rfl) <| .s (.iconst (3 : Int32) a0_135 rfl) <| .s (.iaload 3 a0_136 rfl (by decide) rfl rfl) <| .s (.lload a0_137 rfl) <| .s (.bipush (21 : Int32) a0_139 rfl) ?_
  refine .callS a0_141 (ok1 hw _ _ _ _) (wd hw 1 rfl) (wd hw 2 rfl) (argsL := [(.long i2), .int 21]) (S := [(.int b3), .int 3, .ref 1]) (cbits hw _ _ i2 (21 : Int32) _ _) rfl rfl rfl rfl rfl rfl (Nat.le_of_ble_eq_true rfl) (Nat.le_of_ble_eq_true rfl) ?_
  rintro _ _ _ ⟨⟨z8, rfl, z8a, z8b⟩, rfl, rfl⟩
  show WGo _ (144, [wJ i0, wS, wJ i1, wS, wJ i2, wS, wR 0, wR 1, wR 2, wU, wU, wU, wU, wU, wU, wU, wU, wU, wU], [(.int z8), (.int b3), .int 3, .ref 1], [(wAI [.int 0, (.int b1), (.int b2), (.int b3), (.int b4)]), (wAI [(.int e0), (.int e1), (.int e2), .int 0, .int 0]), (wAI [.int 0, .int 0, .int 0, .int 0, .int 0])], 15) _
  refine .s (.iadd a0_144) ?_
  generalize hg_e3 : (b3 + z8) = e3
  have ge3 := add_small hg_e3 (by omega) (by omega)
  refine .s (.iastore 3 a0_145 rfl (by decide) rfl (Nat.le_of_ble_eq_true rfl)) ?_
  show WGo _ (146, [wJ i0, wS, wJ i1, wS, wJ i2, wS, wR 0, wR 1, wR 2, wU, wU, wU, wU, wU, wU, wU, wU, wU, wU], [], [(wAI [.int 0, (.int b1), (.int b2), (.int b3), (.int b4)]), (wAI [(.int e0), (.int e1), (.int e2), (.int e3), .int 0]), (wAI [.int 0, .int 0, .int 0, .int 0, .int 0])], 15) _
  refine .s (.aload a0_146 rfl rfl) <| .s (.iconst (4 : Int32) a0_148 rfl) <| .s (.aload a0_149 rfl rfl) <| .s (.iconst (4 : Int32) a0_151 rfl) <| .s (.iaload 4 a0_152 rfl (by decide) rfl rfl) <| .s (.lload a0_153 rfl) <| .s (.bipush (24 : Int32) a0_155 rfl) ?_
  refine .callS a0_157 (ok1 hw _ _ _ _) (wd hw 1 rfl) (wd hw 2 rfl) (argsL := [(.long i2), .int 24]) (S := [(.int b4), .int 4, .ref 1]) (cbits hw _ _ i2 (24 : Int32) _ _) rfl rfl rfl rfl rfl rfl (Nat.le_of_ble_eq_true rfl) (Nat.le_of_ble_eq_true rfl) ?_
  rintro _ _ _ ⟨⟨z9, rfl, z9a, z9b⟩, rfl, rfl⟩
  show WGo _ (160, [wJ i0, wS, wJ i1, wS, wJ i2, wS, wR 0, wR 1, wR 2, wU, wU, wU, wU, wU, wU, wU, wU, wU, wU], [(.int z9), (.int b4), .int 4, .ref 1], [(wAI [.int 0, (.int b1), (.int b2), (.int b3), (.int b4)]), (wAI [(.int e0), (.int e1), (.int e2), (.int e3), .int 0]), (wAI [.int 0, .int 0, .int 0, .int 0, .int 0])], 15) _
  refine .s (.iadd a0_160) ?_
  generalize hg_e4 : (b4 + z9) = e4
  have ge4 := add_small hg_e4 (by omega) (by omega)
  refine .s (.iastore 4 a0_161 rfl (by decide) rfl (Nat.le_of_ble_eq_true rfl)) ?_
  show WGo _ (162, [wJ i0, wS, wJ i1, wS, wJ i2, wS, wR 0, wR 1, wR 2, wU, wU, wU, wU, wU, wU, wU, wU, wU, wU], [], [(wAI [.int 0, (.int b1), (.int b2), (.int b3), (.int b4)]), (wAI [(.int e0), (.int e1), (.int e2), (.int e3), (.int e4)]), (wAI [.int 0, .int 0, .int 0, .int 0, .int 0])], 15) _
  refine .s (.aload a0_162 rfl rfl) <| .s (.iconst (0 : Int32) a0_164 rfl) <| .s (.aload a0_165 rfl rfl) <| .s (.iconst (0 : Int32) a0_167 rfl) <| .s (.iaload 0 a0_168 rfl (by decide) rfl rfl) <| .s (.lload a0_169 rfl) <| .s (.bipush (27 : Int32) a0_171 rfl) ?_
  refine .callS a0_173 (ok1 hw _ _ _ _) (wd hw 1 rfl) (wd hw 2 rfl) (argsL := [(.long i2), .int 27]) (S := [(.int e0), .int 0, .ref 2]) (cbits hw _ _ i2 (27 : Int32) _ _) rfl rfl rfl rfl rfl rfl (Nat.le_of_ble_eq_true rfl) (Nat.le_of_ble_eq_true rfl) ?_
  rintro _ _ _ ⟨⟨z10, rfl, z10a, z10b⟩, rfl, rfl⟩
  show WGo _ (176, [wJ i0, wS, wJ i1, wS, wJ i2, wS, wR 0, wR 1, wR 2, wU, wU, wU, wU, wU, wU, wU, wU, wU, wU], [(.int z10), (.int e0), .int 0, .ref 2], [(wAI [.int 0, (.int b1), (.int b2), (.int b3), (.int b4)]), (wAI [(.int e0), (.int e1), (.int e2), (.int e3), (.int e4)]), (wAI [.int 0, .int 0, .int 0, .int 0, .int 0])], 15) _
  refine .s (.iadd a0_176) ?_
  generalize hg_v0 : (e0 + z10) = v0
  have gv0 := add_small hg_v0 (by omega) (by omega)
  refine .s (.iastore 0 a0_177 rfl (by decide) rfl (Nat.le_of_ble_eq_true rfl)) ?_
  show WGo _ (178, [wJ i0, wS, wJ i1, wS, wJ i2, wS, wR 0, wR 1, wR 2, wU, wU, wU, wU, wU, wU, wU, wU, wU, wU], [], [(wAI [.int 0, (.int b1), (.int b2), (.int b3), (.int b4)]), (wAI [(.int e0), (.int e1), (.int e2), (.int e3), (.int e4)]), (wAI [(.int v0), .int 0, .int 0, .int 0, .int 0])], 15) _
  refine .s (.aload a0_178 rfl rfl) <| .s (.iconst (1 : Int32) a0_180 rfl) <| .s (.aload a0_181 rfl rfl) <| .s (.iconst (1 : Int32) a0_183 rfl) <| .s (.iaload 1 a0_184 rfl (by decide) rfl rfl) <| .s (.lload a0_185 rfl) <| .s (.bipush (30 : Int32) a0_187 rfl) ?_
  refine .callS a0_189 (ok1 hw _ _ _ _) (wd hw 1 rfl) (wd hw 2 rfl) (argsL := [(.long i2), .int 30]) (S := [(.int e1), .int 1, .ref 2]) (cbits hw _ _ i2 (30 : Int32) _ _) rfl rfl rfl rfl rfl rfl (Nat.le_of_ble_eq_true rfl) (Nat.le_of_ble_eq_true rfl) ?_
  rintro _ _ _ ⟨⟨z11, rfl, z11a, z11b⟩, rfl, rfl⟩
  show WGo _ (192, [wJ i0, wS, wJ i1, wS, wJ i2, wS, wR 0, wR 1, wR 2, wU, wU, wU, wU, wU, wU, wU, wU, wU, wU], [(.int z11), (.int e1), .int 1, .ref 2], [(wAI [.int 0, (.int b1), (.int b2), (.int b3), (.int b4)]), (wAI [(.int e0), (.int e1), (.int e2), (.int e3), (.int e4)]), (wAI [(.int v0), .int 0, .int 0, .int 0, .int 0])], 15) _
  refine .s (.iadd a0_192) ?_
  generalize hg_v1 : (e1 + z11) = v1
  have gv1 := add_small hg_v1 (by omega) (by omega)
  refine .s (.iastore 1 a0_193 rfl (by decide) rfl (Nat.le_of_ble_eq_true rfl)) ?_
  show WGo _ (194, [wJ i0, wS, wJ i1, wS, wJ i2, wS, wR 0, wR 1, wR 2, wU, wU, wU, wU, wU, wU, wU, wU, wU, wU], [], [(wAI [.int 0, (.int b1), (.int b2), (.int b3), (.int b4)]), (wAI [(.int e0), (.int e1), (.int e2), (.int e3), (.int e4)]), (wAI [(.int v0), (.int v1), .int 0, .int 0, .int 0])], 15) _
  refine .s (.aload a0_194 rfl rfl) <| .s (.iconst (2 : Int32) a0_196 rfl) <| .s (.aload a0_197 rfl rfl) <| .s (.iconst (2 : Int32) a0_199 rfl) <| .s (.iaload 2 a0_200 rfl (by decide) rfl rfl) <| .s (.lload a0_201 rfl) <| .s (.bipush (33 : Int32) a0_203 rfl) ?_
  refine .callS a0_205 (ok1 hw _ _ _ _) (wd hw 1 rfl) (wd hw 2 rfl) (argsL := [(.long i2), .int 33]) (S := [(.int e2), .int 2, .ref 2]) (cbits hw _ _ i2 (33 : Int32) _ _) rfl rfl rfl rfl rfl rfl (Nat.le_of_ble_eq_true rfl) (Nat.le_of_ble_eq_true rfl) ?_
  rintro _ _ _ ⟨⟨z12, rfl, z12a, z12b⟩, rfl, rfl⟩
  show WGo _ (208, [wJ i0, wS, wJ i1, wS, wJ i2, wS, wR 0, wR 1, wR 2, wU, wU, wU, wU, wU, wU, wU, wU, wU, wU], [(.int z12), (.int e2), .int 2, .ref 2], [(wAI [.int 0, (.int b1), (.int b2), (.int b3), (.int b4)]), (wAI [(.int e0), (.int e1), (.int e2), (.int e3), (.int e4)]), (wAI [(.int v0), (.int v1), .int 0, .int 0, .int 0])], 15) _
  refine .s (.iadd a0_208) ?_
  generalize hg_v2 : (e2 + z12) = v2
  have gv2 := add_small hg_v2 (by omega) (by omega)
  refine .s (.iastore 2 a0_209 rfl (by decide) rfl (Nat.le_of_ble_eq_true rfl)) ?_
  show WGo _ (210, [wJ i0, wS, wJ i1, wS, wJ i2, wS, wR 0, wR 1, wR 2, wU, wU, wU, wU, wU, wU, wU, wU, wU, wU], [], [(wAI [.int 0, (.int b1), (.int b2), (.int b3), (.int b4)]), (wAI [(.int e0), (.int e1), (.int e2), (.int e3), (.int e4)]), (wAI [(.int v0), (.int v1), (.int v2), .int 0, .int 0])], 15) _
  refine .s (.aload a0_210 rfl rfl) <| .s (.iconst (3 : Int32) a0_212 rfl) <| .s (.aload a0_213 rfl rfl) <| .s (.iconst (3 : Int32) a0_215 rfl) <| .s (.iaload 3 a0_216 rfl (by decide) rfl rfl) <| .s (.lload a0_217 rfl) <| .s (.bipush (36 : Int32) a0_219 rfl) ?_
  refine .callS a0_221 (ok1 hw _ _ _ _) (wd hw 1 rfl) (wd hw 2 rfl) (argsL := [(.long i2), .int 36]) (S := [(.int e3), .int 3, .ref 2]) (cbits hw _ _ i2 (36 : Int32) _ _) rfl rfl rfl rfl rfl rfl (Nat.le_of_ble_eq_true rfl) (Nat.le_of_ble_eq_true rfl) ?_
  rintro _ _ _ ⟨⟨z13, rfl, z13a, z13b⟩, rfl, rfl⟩
  show WGo _ (224, [wJ i0, wS, wJ i1, wS, wJ i2, wS, wR 0, wR 1, wR 2, wU, wU, wU, wU, wU, wU, wU, wU, wU, wU], [(.int z13), (.int e3), .int 3, .ref 2], [(wAI [.int 0, (.int b1), (.int b2), (.int b3), (.int b4)]), (wAI [(.int e0), (.int e1), (.int e2), (.int e3), (.int e4)]), (wAI [(.int v0), (.int v1), (.int v2), .int 0, .int 0])], 15) _
  refine .s (.iadd a0_224) ?_
  generalize hg_v3 : (e3 + z13) = v3
  have gv3 := add_small hg_v3 (by omega) (by omega)
  refine .s (.iastore 3 a0_225 rfl (by decide) rfl (Nat.le_of_ble_eq_true rfl)) ?_
  show WGo _ (226, [wJ i0, wS, wJ i1, wS, wJ i2, wS, wR 0, wR 1, wR 2, wU, wU, wU, wU, wU, wU, wU, wU, wU, wU], [], [(wAI [.int 0, (.int b1), (.int b2), (.int b3), (.int b4)]), (wAI [(.int e0), (.int e1), (.int e2), (.int e3), (.int e4)]), (wAI [(.int v0), (.int v1), (.int v2), (.int v3), .int 0])], 15) _
  refine .s (.aload a0_226 rfl rfl) <| .s (.iconst (4 : Int32) a0_228 rfl) <| .s (.aload a0_229 rfl rfl) <| .s (.iconst (4 : Int32) a0_231 rfl) <| .s (.iaload 4 a0_232 rfl (by decide) rfl rfl) <| .s (.lload a0_233 rfl) <| .s (.bipush (39 : Int32) a0_235 rfl) ?_
  refine .callS a0_237 (ok1 hw _ _ _ _) (wd hw 1 rfl) (wd hw 2 rfl) (argsL := [(.long i2), .int 39]) (S := [(.int e4), .int 4, .ref 2]) (cbits hw _ _ i2 (39 : Int32) _ _) rfl rfl rfl rfl rfl rfl (Nat.le_of_ble_eq_true rfl) (Nat.le_of_ble_eq_true rfl) ?_
  rintro _ _ _ ⟨⟨z14, rfl, z14a, z14b⟩, rfl, rfl⟩
  show WGo _ (240, [wJ i0, wS, wJ i1, wS, wJ i2, wS, wR 0, wR 1, wR 2, wU, wU, wU, wU, wU, wU, wU, wU, wU, wU], [(.int z14), (.int e4), .int 4, .ref 2], [(wAI [.int 0, (.int b1), (.int b2), (.int b3), (.int b4)]), (wAI [(.int e0), (.int e1), (.int e2), (.int e3), (.int e4)]), (wAI [(.int v0), (.int v1), (.int v2), (.int v3), .int 0])], 15) _
  refine .s (.iadd a0_240) ?_
  generalize hg_v4 : (e4 + z14) = v4
  have gv4 := add_small hg_v4 (by omega) (by omega)
  refine .s (.iastore 4 a0_241 rfl (by decide) rfl (Nat.le_of_ble_eq_true rfl)) ?_
  show WGo _ (242, [wJ i0, wS, wJ i1, wS, wJ i2, wS, wR 0, wR 1, wR 2, wU, wU, wU, wU, wU, wU, wU, wU, wU, wU], [], [(wAI [.int 0, (.int b1), (.int b2), (.int b3), (.int b4)]), (wAI [(.int e0), (.int e1), (.int e2), (.int e3), (.int e4)]), (wAI [(.int v0), (.int v1), (.int v2), (.int v3), (.int v4)])], 15) _
  refine .s (.lconst (1 : Int64) a0_242 rfl) <| .s (.lloadN a0_243 rfl) <| .s (.bipush (8 : Int32) a0_244 rfl) <| .s (.lushr a0_246) <| .s (.lloadN a0_247 rfl) <| .s (.ldc2 a0_248 (wd hw 6 rfl)) <| .s (.land a0_251) ?_
  refine .s (.l2i a0_252) <| .s (.lushr a0_253) <| .s (.ladd a0_254) ?_
  generalize hg_w : ((1 : Int64) + ((((i1.toUInt64 >>> ((8 : Int32) &&& 0x3f).toInt64.toUInt64).toInt64).toUInt64 >>> (((i1 &&& (63 : Int64)).toInt32) &&& 0x3f).toInt64.toUInt64).toInt64)) = w
  have y1 := c_lushr i1 8 8 (by decide) (by decide)
  have y2 := lushr_le ((i1.toUInt64 >>> ((8 : Int32) &&& 0x3f).toInt64.toUInt64).toInt64) ((i1 &&& (63 : Int64)).toInt32) (by rw [y1]; omega)
  have y3 := c_ladd (1 : Int64) ((((i1.toUInt64 >>> ((8 : Int32) &&& 0x3f).toInt64.toUInt64).toInt64).toUInt64 >>> (((i1 &&& (63 : Int64)).toInt32) &&& 0x3f).toInt64.toUInt64).toInt64)
  rw [hg_w] at y3
  rw [y1] at y2
  have y4 : (1 : Int64).toInt = 1 := rfl
  have y5 := rng64 w
  have y6 : 1 ≤ w.toInt ∧ w.toInt ≤ 72057594037927936 := by generalize ((((i1.toUInt64 >>> ((8 : Int32) &&& 0x3f).toInt64.toUInt64).toInt64).toUInt64 >>> (((i1 &&& (63 : Int64)).toInt32) &&& 0x3f).toInt64.toUInt64).toInt64).toInt = xx at *; omega
  clear y1 y2 y3 y4 y5 hg_w
  refine .s (.lstore (L' := [wJ i0, wS, wJ i1, wS, wJ i2, wS, wR 0, wR 1, wR 2, wJ w, wS, wU, wU, wU, wU, wU, wU, wU, wU]) a0_255 rfl) <| .s (.lloadN a0_257 rfl) <| .s (.ldc2 a0_258 (wd hw 7 rfl)) <| .s (.ldc2 a0_261 (wd hw 8 rfl)) <| .s (.lload a0_264 rfl) <| .s (.lmul a0_266) <| .s (.lsub a0_267) ?_
  refine .callS a0_268 (ok2 hw _ _ _ _) (wd hw 9 rfl) (wd hw 10 rfl) (argsL := [(.long i0), (.long ((9223372036854775807 : Int64) - ((42 : Int64) * w)))]) (S := []) (cmin hw _ _ i0 ((9223372036854775807 : Int64) - ((42 : Int64) * w)) _ _) rfl rfl rfl rfl rfl rfl (Nat.le_of_ble_eq_true rfl) (Nat.le_of_ble_eq_true rfl) ?_
  rintro _ _ _ ⟨⟨base, rfl, hbase⟩, rfl, rfl⟩
  show WGo _ (271, [wJ i0, wS, wJ i1, wS, wJ i2, wS, wR 0, wR 1, wR 2, wJ w, wS, wU, wU, wU, wU, wU, wU, wU, wU], [(.long base)], [(wAI [.int 0, (.int b1), (.int b2), (.int b3), (.int b4)]), (wAI [(.int e0), (.int e1), (.int e2), (.int e3), (.int e4)]), (wAI [(.int v0), (.int v1), (.int v2), (.int v3), (.int v4)])], 15) _
  refine .s (.lstore (L' := [wJ i0, wS, wJ i1, wS, wJ i2, wS, wR 0, wR 1, wR 2, wJ w, wS, wJ base, wS, wU, wU, wU, wU, wU, wU]) a0_271 rfl) ?_
  have hr : Room42 base w := room_of y6.1 y6.2 hbase
  exact seg2 Z a0 hw n0 i0 i1 i2 w base b1 b2 b3 b4 e0 e1 e2 e3 e4 v0 v1 v2 v3 v4 hr (by omega) (by omega) (by omega) (by omega) (by omega) (by omega) (by omega) (by omega) (by omega) (by omega) (by omega) (by omega) (by omega) (by omega) (by omega) (by omega) (by omega) (by omega) (by omega)
theorem plx : plainFor x = true := plainFor_of_name (by first | (simp [plainName, overriddenIn, x]; done) | decide +kernel)
set_option maxRecDepth 65536 in
set_option maxHeartbeats 40000000 in
theorem comes_1 {Post : Tables → Env → Array Value → State → Outcome → State → Prop} (hpost : ∀ tb e args s v u, (limb_1_1.after args s (.returned v) u = true ∧ limb_1_2.after args s (.returned v) u = true ∧ True) → FrameEnd s (.returned v) u (Jvm.fieldLocs frame_1_writes args s ++ Jvm.arrayLocs frame_1_arrays args s ++ Jvm.staticLocs frame_1_statics s) 24 192 → Post tb e args s (.returned v) u) :
    ArmFor flags0 classFile x code maxLocals ret World_1 tables_1 room_1 Calls_1 rest_1 Pre_1 Post := by
  intro l hfl _ _ p e ha hc hk s m args below hf hA hF happ hP
  obtain ⟨hcalls, hrest, hpre⟩ := hP
  obtain ⟨-, -, -, hnamed, -, -, -, hat⟩ := (Spec.applies_iff hf).mp happ
  obtain ⟨hg, hn⟩ := and_e (Cond.before_iff.mp (show (Jvm.Cond.and given_1 narrow_1).before args s = true from hpre))
  obtain ⟨gg1, gg2⟩ := and_e hg
  obtain ⟨gg3, gg4⟩ := and_e gg2
  obtain ⟨gg5, gg6⟩ := and_e gg4
  obtain ⟨w0, w1, w2, rfl⟩ : ∃ w0 w1 w2 : Value, args = #[w0, w1, w2] := by
    have hs : args.size = 3 := by simpa [Cond.value, given_1] using gg1
    obtain ⟨L⟩ := args
    match L, hs with
    | [w0, w1, w2], _ => exact ⟨w0, w1, w2, rfl⟩
  have hw := fun d (hd : d ∈ tables_1) => atoms_spec (ws := Jvm.Cond.code x code maxLocals ret :: tables_1) hat d (List.mem_cons_of_mem _ hd)
  obtain ⟨i0, ei0⟩ := isL_v gg3
  obtain rfl : w0 = (.long i0) := Option.some.inj ei0
  obtain ⟨i1, ei1⟩ := isL_v gg5
  obtain rfl : w1 = (.long i1) := Option.some.inj ei1
  obtain ⟨i2, ei2⟩ := isL_v gg6
  obtain rfl : w2 = (.long i2) := Option.some.inj ei2
  obtain ⟨v, σ', u', ⟨rfl, hc1, hu1⟩, r⟩ := law_go s _ hw s.heap.size i0 i1 i2
  have D0 : WDen s (fun k => s.heap.size + k) s.heap.size [] s.heap := ⟨rfl, ⟨Nat.zero_le _, fun _ _ _ h => h⟩, fun k o h => by cases h⟩
  obtain ⟨n, o, h1, h2, h3, _, L, rfl, ⟨rfl, N, -⟩, hq⟩ := met_of (l := l) (y := x) (ws := tables_1) (argsL := [(.long i0), (.long i1), (.long i2)]) (h := s.heap) rfl rfl rfl rfl plx (fun k _ => rfl) (fun i j h => Nat.add_left_cancel h) r D0 room_1 (Nat.le_of_ble_eq_true rfl) (Nat.le_trans (Nat.sub_le _ _) (Nat.le_trans hc1 (by decide))) (Nat.le_trans (Nat.sub_le _ _) (Nat.le_trans hu1 (by decide))) (Nat.le_of_ble_eq_true rfl) p e ha hc hk s m _ below hf ((Spec.applies_iff_loose hf).mp happ).1 ⟨rfl, State.Warmed39.refl s, rfl⟩ trivial
  refine ⟨n, _, h1, h2, h3, hpost _ _ _ _ _ _ ⟨Cond.after_iff.mpr rfl, Cond.after_iff.mpr (eq_i res_at (Term.int_eval (1)) rfl), trivial⟩ ⟨hq.1, hq.2.1, (hq.2.2.sift fun y hy => Or.inr (N y hy)).mono (Nat.le_trans (Nat.sub_le _ _) (Nat.le_trans hc1 (by decide))) (Nat.le_trans (Nat.sub_le _ _) (Nat.le_trans hu1 (by decide)))⟩⟩
theorem main_1_1 : Claimed_1_1 := comes_1 fun _ _ _ _ _ _ h hF => ⟨h.1, hF⟩
theorem main_1_2 : Claimed_1_2 := comes_1 fun _ _ _ _ _ _ h hF => ⟨h.2.1, hF⟩
end Jvm.Pilot.@@N@@
namespace Jvm.Pilot.@@N@@
open Jvm Jvm.ClassFile Sem Op Lib Jvm.Free Jvm.Stand Jvm.Pilot.@@N@@.Jvm.D
/-! MADE BY PROGRAM (witnessworld.py) out of the Statement's table words and the real class files: 14 classes; the members and pool entries that the words name. The judged class is class 1, her method 4. -/
namespace start1
open Jvm.ClassFile
def u (s : String) : CpInfo := .utf8 (stringToUtf16 s)
/-- a pool by its gaps: so many unusable entries, then the entry; so many at the end -/
def gap : Nat → List CpInfo → List CpInfo
  | 0, r => r
  | n + 1, r => .unusable :: gap n r
def poolList (es : List (Nat × CpInfo)) (last : Nat) : List CpInfo := es.foldr (fun e r => gap e.1 (e.2 :: r)) (gap last [])
def pool (es : List (Nat × CpInfo)) (last : Nat) : Array CpInfo := ⟨poolList es last⟩
def fileOf (pool : Array CpInfo) (this : Nat) (attrs : Array Attribute := #[]) (ms : Array MethodInfo := #[]) (fl : Nat := 33) (sup : Nat := 0) (ifs : Array Nat := #[]) (fds : Array FieldInfo := #[]) : ClassFile where
  minorVersion := 0
  majorVersion := 65
  constantPool := pool
  accessFlags := fl
  thisClass := this
  superClass := sup
  interfaces := ifs
  fields := fds
  methods := ms
  attributes := attrs
def plain (name : String) (sup : Option ClassId) : Class where
  name := name
  kind := .ordinary
  loader := none
  accessFlags := 33
  super := sup
  interfaces := #[]
  cf := none
  fields := #[]
  methods := #[]
  instanceTypes := #[]
  staticTypes := #[]
  resolved := #[]
  callSites := []
  init := .initialized
  statics := none
  mirror := none

def pool0 : Array CpInfo := pool [(5, u "<init>"), (0, u "()V"), (1, .class_ 10), (1, u "java/lang/Object")] 113

def k0c0 : Code := { maxStack := 0, maxLocals := 1, code := object_method_1_code, exceptionTable := #[], attributes := #[] }
def k0m0 : Method := { name := "<init>", desc := "()V", sig := { parameters := [], returnType := none }, accessFlags := 1, code := some k0c0 }
/-- java/lang/Object -/
def k0 : Class := { plain "java/lang/Object" none with
  accessFlags := 33
  interfaces := #[]
  cf := some (fileOf pool0 8 #[] #[{ accessFlags := 1, nameIndex := 5, descriptorIndex := 6, attributes := #[] }] 33 0 #[] #[])
  fields := #[]
  methods := #[k0m0]
  instanceTypes := #[]
  staticTypes := #[]
  resolved := Array.replicate 124 none
  statics := none }

def pool1 : Array CpInfo := pool [(2, .class_ 4), (0, .nameAndType 5 6), (0, u "java/lang/Object"), (0, u "<init>"), (0, u "()V"), (0, .long 7), (1, .methodref 10 11), (0, .class_ 12), (0, .nameAndType 13 14), (0, u "antecede/judges/OvertakingsAddPinLaw"), (0, u "bits"), (0, u "(JI)I"), (0, .long 63), (3, .long 9223372036854775807), (1, .long 42), (1, .methodref 24 25), (0, .class_ 26), (0, .nameAndType 27 28), (0, u "java/lang/Math"), (0, u "min"), (0, u "(JJ)J"), (0, .methodref 10 30), (0, .nameAndType 31 32), (0, u "ov"), (0, u "([I[I[III)I"), (0, .class_ 34), (0, u "antecede/judges/Overtakings"), (0, .methodref 33 3), (0, .methodref 10 37), (0, .nameAndType 38 39), (0, u "t"), (0, u "(JJI)J"), (0, .methodref 33 41), (0, .nameAndType 42 43), (0, u "add"), (0, u "(JJJ)V"), (0, .methodref 33 45), (0, .nameAndType 46 47), (0, u "count"), (0, u "()J"), (3, u "law"), (0, u "(JJJ)Z")] 4

def k1m0 : Method := { name := "<init>", desc := "()V", sig := { parameters := [], returnType := none }, accessFlags := 1, code := none }
def k1c1 : Code := { maxStack := 4, maxLocals := 3, code := method_2_code, exceptionTable := #[], attributes := #[] }
def k1m1 : Method := { name := "bits", desc := "(JI)I", sig := { parameters := [.long, .int], returnType := some .int }, accessFlags := 10, code := some k1c1 }
def k1c2 : Code := { maxStack := 6, maxLocals := 5, code := method_3_code, exceptionTable := #[], attributes := #[] }
def k1m2 : Method := { name := "t", desc := "(JJI)J", sig := { parameters := [.long, .long, .int], returnType := some .long }, accessFlags := 10, code := some k1c2 }
def k1c3 : Code := { maxStack := 3, maxLocals := 5, code := method_4_code, exceptionTable := #[], attributes := #[] }
def k1m3 : Method := { name := "ov", desc := "([I[I[III)I", sig := { parameters := [(.array .int), (.array .int), (.array .int), .int, .int], returnType := some .int }, accessFlags := 10, code := some k1c3 }
def k1c4 : Code := { maxStack := 11, maxLocals := 19, code := code, exceptionTable := #[], attributes := #[] }
def k1m4 : Method := { name := "law", desc := "(JJJ)Z", sig := { parameters := [.long, .long, .long], returnType := some .boolean }, accessFlags := 9, code := some k1c4 }
/-- antecede/judges/OvertakingsAddPinLaw -/
def k1 : Class := { plain "antecede/judges/OvertakingsAddPinLaw" (some 0) with
  accessFlags := 49
  interfaces := #[]
  cf := some (fileOf pool1 10 #[] #[{ accessFlags := 1, nameIndex := 5, descriptorIndex := 6, attributes := #[] }, { accessFlags := 10, nameIndex := 13, descriptorIndex := 14, attributes := #[] }, { accessFlags := 10, nameIndex := 38, descriptorIndex := 39, attributes := #[] }, { accessFlags := 10, nameIndex := 31, descriptorIndex := 32, attributes := #[] }, { accessFlags := 9, nameIndex := 51, descriptorIndex := 52, attributes := #[] }] 49 2 #[] #[])
  fields := #[]
  methods := #[k1m0, k1m1, k1m2, k1m3, k1m4]
  instanceTypes := #[]
  staticTypes := #[]
  resolved := Array.replicate 57 none
  statics := none }

def pool2 : Array CpInfo := pool [(1, .class_ 2), (0, u "java/lang/Math"), (1, .class_ 6), (1, u "java/lang/Object"), (0, u "<init>"), (0, u "()V"), (89, .class_ 100), (1, u "java/lang/Math$RandomNumberGeneratorHolder"), (20, u "(JJ)J"), (50, u "negativeZeroFloatBits"), (0, u "J"), (2, u "negativeZeroDoubleBits"), (24, u "min"), (43, u "$assertionsDisabled"), (0, u "Z"), (88, u "(II)I"), (2, u "twoToTheDoubleScaleDown"), (0, u "D"), (4, u "twoToTheDoubleScaleUp"), (9, u "E"), (3, u "PI"), (2, u "TAU"), (2, u "DEGREES_TO_RADIANS"), (0, u "RADIANS_TO_DEGREES")] 94

def k2m0 : Method := { name := "<init>", desc := "()V", sig := { parameters := [], returnType := none }, accessFlags := 2, code := none }
def k2c1 : Code := { maxStack := 2, maxLocals := 2, code := jdk_29_method_69_code, exceptionTable := #[], attributes := #[] }
def k2m1 : Method := { name := "min", desc := "(II)I", sig := { parameters := [.int, .int], returnType := some .int }, accessFlags := 9, code := some k2c1 }
def k2c2 : Code := { maxStack := 4, maxLocals := 4, code := jdk_29_method_70_code, exceptionTable := #[], attributes := #[] }
def k2m2 : Method := { name := "min", desc := "(JJ)J", sig := { parameters := [.long, .long], returnType := some .long }, accessFlags := 9, code := some k2c2 }
/-- java/lang/Math -/
def k2 : Class := { plain "java/lang/Math" (some 0) with
  accessFlags := 49
  interfaces := #[]
  cf := some (fileOf pool2 1 #[.nestMembers #[98]] #[{ accessFlags := 2, nameIndex := 7, descriptorIndex := 8, attributes := #[] }, { accessFlags := 9, nameIndex := 201, descriptorIndex := 335, attributes := #[] }, { accessFlags := 9, nameIndex := 201, descriptorIndex := 121, attributes := #[] }] 49 4 #[] #[{ accessFlags := 25, nameIndex := 354, descriptorIndex := 339, attributes := #[] }, { accessFlags := 25, nameIndex := 358, descriptorIndex := 339, attributes := #[] }, { accessFlags := 25, nameIndex := 361, descriptorIndex := 339, attributes := #[] }, { accessFlags := 26, nameIndex := 364, descriptorIndex := 339, attributes := #[] }, { accessFlags := 26, nameIndex := 365, descriptorIndex := 339, attributes := #[] }, { accessFlags := 26, nameIndex := 172, descriptorIndex := 173, attributes := #[] }, { accessFlags := 26, nameIndex := 176, descriptorIndex := 173, attributes := #[] }, { accessFlags := 8, nameIndex := 344, descriptorIndex := 339, attributes := #[] }, { accessFlags := 8, nameIndex := 338, descriptorIndex := 339, attributes := #[] }, { accessFlags := 4120, nameIndex := 245, descriptorIndex := 246, attributes := #[] }])
  fields := #[{ name := "E", type := .double, accessFlags := 25, slot := 0, constantValue := 0 }, { name := "PI", type := .double, accessFlags := 25, slot := 1, constantValue := 0 }, { name := "TAU", type := .double, accessFlags := 25, slot := 2, constantValue := 0 }, { name := "DEGREES_TO_RADIANS", type := .double, accessFlags := 26, slot := 3, constantValue := 0 }, { name := "RADIANS_TO_DEGREES", type := .double, accessFlags := 26, slot := 4, constantValue := 0 }, { name := "negativeZeroFloatBits", type := .long, accessFlags := 26, slot := 5, constantValue := 0 }, { name := "negativeZeroDoubleBits", type := .long, accessFlags := 26, slot := 6, constantValue := 0 }, { name := "twoToTheDoubleScaleUp", type := .double, accessFlags := 8, slot := 7, constantValue := 0 }, { name := "twoToTheDoubleScaleDown", type := .double, accessFlags := 8, slot := 8, constantValue := 0 }, { name := "$assertionsDisabled", type := .boolean, accessFlags := 4120, slot := 9, constantValue := 0 }]
  methods := #[k2m0, k2m1, k2m2]
  instanceTypes := #[]
  staticTypes := #[.double, .double, .double, .double, .double, .long, .long, .double, .double, .boolean]
  resolved := Array.replicate 460 none
  statics := none }

def pool3 : Array CpInfo := pool [(1, .methodref 2 3), (0, .class_ 4), (0, .nameAndType 5 6), (0, u "java/lang/Object"), (0, u "<init>"), (0, u "()V"), (0, .fieldref 8 9), (0, .class_ 10), (0, .nameAndType 11 12), (0, u "antecede/judges/Overtakings"), (0, u "ended"), (0, u "[J"), (0, .fieldref 8 14), (0, .nameAndType 15 12), (0, u "entered"), (2, .long 9223372036854775808), (1, .fieldref 8 21), (0, .nameAndType 22 23), (0, u "lastBegan"), (0, u "J"), (12, .fieldref 8 37), (0, .nameAndType 38 39), (0, u "kept"), (0, u "I"), (0, .fieldref 8 41), (0, .nameAndType 42 23), (0, u "count"), (0, .methodref 44 45), (0, .class_ 46), (0, .nameAndType 47 48), (0, u "java/util/Arrays"), (0, u "copyOf"), (0, u "([JI)[J"), (2, u "add"), (0, u "(JJJ)V"), (1, u "()J")] 19

def k3c0 : Code := { maxStack := 3, maxLocals := 1, code := prog_49_method_1_code, exceptionTable := #[], attributes := #[] }
def k3m0 : Method := { name := "<init>", desc := "()V", sig := { parameters := [], returnType := none }, accessFlags := 1, code := some k3c0 }
def k3c1 : Code := { maxStack := 8, maxLocals := 9, code := prog_49_method_2_code, exceptionTable := #[], attributes := #[] }
def k3m1 : Method := { name := "add", desc := "(JJJ)V", sig := { parameters := [.long, .long, .long], returnType := none }, accessFlags := 1, code := some k3c1 }
def k3c2 : Code := { maxStack := 2, maxLocals := 1, code := prog_49_method_3_code, exceptionTable := #[], attributes := #[] }
def k3m2 : Method := { name := "count", desc := "()J", sig := { parameters := [], returnType := some .long }, accessFlags := 1, code := some k3c2 }
/-- antecede/judges/Overtakings -/
def k3 : Class := { plain "antecede/judges/Overtakings" (some 0) with
  accessFlags := 49
  interfaces := #[]
  cf := some (fileOf pool3 8 #[] #[{ accessFlags := 1, nameIndex := 5, descriptorIndex := 6, attributes := #[] }, { accessFlags := 1, nameIndex := 51, descriptorIndex := 52, attributes := #[] }, { accessFlags := 1, nameIndex := 42, descriptorIndex := 54, attributes := #[] }] 49 2 #[] #[{ accessFlags := 2, nameIndex := 11, descriptorIndex := 12, attributes := #[] }, { accessFlags := 2, nameIndex := 15, descriptorIndex := 12, attributes := #[] }, { accessFlags := 2, nameIndex := 38, descriptorIndex := 39, attributes := #[] }, { accessFlags := 2, nameIndex := 22, descriptorIndex := 23, attributes := #[] }, { accessFlags := 2, nameIndex := 42, descriptorIndex := 23, attributes := #[] }])
  fields := #[{ name := "ended", type := (.array .long), accessFlags := 2, slot := 0, constantValue := 0 }, { name := "entered", type := (.array .long), accessFlags := 2, slot := 1, constantValue := 0 }, { name := "kept", type := .int, accessFlags := 2, slot := 2, constantValue := 0 }, { name := "lastBegan", type := .long, accessFlags := 2, slot := 3, constantValue := 0 }, { name := "count", type := .long, accessFlags := 2, slot := 4, constantValue := 0 }]
  methods := #[k3m0, k3m1, k3m2]
  instanceTypes := #[(.array .long), (.array .long), .int, .long, .long]
  staticTypes := #[]
  resolved := Array.replicate 74 none
  statics := none }

def pool4 : Array CpInfo := pool [(2, .class_ 4), (1, u "java/lang/Object"), (0, u "<init>"), (0, u "()V"), (7, .class_ 16), (1, u "java/util/Arrays"), (57, .class_ 76), (1, u "java/util/Arrays$NaturalOrder"), (36, .class_ 115), (1, u "java/util/Arrays$LegacyMergeSort"), (1, u "Z"), (32, .methodref 151 152), (0, .class_ 153), (0, .nameAndType 154 155), (0, u "java/lang/System"), (0, u "arraycopy"), (0, u "(Ljava/lang/Object;ILjava/lang/Object;II)V"), (146, u "copyOf"), (1, .methodref 305 306), (0, .class_ 307), (0, .nameAndType 308 309), (0, u "java/lang/Math"), (0, u "min"), (0, u "(II)I"), (65, .class_ 376), (0, u "java/util/Arrays$ArrayList"), (68, u "$assertionsDisabled"), (269, u "MIN_ARRAY_SORT_GRAN"), (0, u "I"), (2, u "INSERTIONSORT_THRESHOLD"), (152, u "([JI)[J"), (102, .class_ 976), (0, u "java/util/Arrays$ArrayItr")] 52

def k4m0 : Method := { name := "<init>", desc := "()V", sig := { parameters := [], returnType := none }, accessFlags := 2, code := none }
def k4c1 : Code := { maxStack := 6, maxLocals := 3, code := jdk_65_method_124_code, exceptionTable := #[], attributes := #[] }
def k4m1 : Method := { name := "copyOf", desc := "([JI)[J", sig := { parameters := [(.array .long), .int], returnType := some (.array .long) }, accessFlags := 9, code := some k4c1 }
/-- java/util/Arrays -/
def k4 : Class := { plain "java/util/Arrays" (some 0) with
  accessFlags := 49
  interfaces := #[]
  cf := some (fileOf pool4 14 #[.nestMembers #[975, 375, 113, 74]] #[{ accessFlags := 2, nameIndex := 5, descriptorIndex := 6, attributes := #[] }, { accessFlags := 9, nameIndex := 302, descriptorIndex := 872, attributes := #[] }] 49 2 #[] #[{ accessFlags := 26, nameIndex := 715, descriptorIndex := 716, attributes := #[] }, { accessFlags := 26, nameIndex := 719, descriptorIndex := 716, attributes := #[] }, { accessFlags := 4120, nameIndex := 445, descriptorIndex := 117, attributes := #[] }])
  fields := #[{ name := "MIN_ARRAY_SORT_GRAN", type := .int, accessFlags := 26, slot := 0, constantValue := 0 }, { name := "INSERTIONSORT_THRESHOLD", type := .int, accessFlags := 26, slot := 1, constantValue := 0 }, { name := "$assertionsDisabled", type := .boolean, accessFlags := 4120, slot := 2, constantValue := 0 }]
  methods := #[k4m0, k4m1]
  instanceTypes := #[]
  staticTypes := #[.int, .int, .boolean]
  resolved := Array.replicate 1029 none
  statics := none }

def pool5 : Array CpInfo := pool [(2, .class_ 4), (1, u "java/lang/Object"), (0, u "<init>"), (0, u "()V"), (1, .class_ 10), (1, u "java/lang/System"), (0, u "allowSecurityManager"), (0, u "I"), (16, u "cons"), (0, u "Ljava/io/Console;"), (77, .class_ 110), (1, u "java/lang/System$CallersHolder"), (43, u "initialErrStream"), (0, u "Ljava/io/PrintStream;"), (19, u "security"), (0, u "Ljava/lang/SecurityManager;"), (31, .class_ 209), (0, u "java/lang/System$1"), (7, u "props"), (0, u "Ljava/util/Properties;"), (2, u "lineSeparator"), (0, u "Ljava/lang/String;"), (96, .class_ 321), (1, u "java/lang/System$LoggerFinder"), (5, .class_ 328), (0, u "java/lang/System$Logger"), (67, u "err"), (2, u "out"), (91, u "notSupportedJnuEncoding"), (15, u "in"), (17, u "initialIn"), (0, u "Ljava/io/InputStream;"), (35, u "bootLayer"), (0, u "Ljava/lang/ModuleLayer;"), (99, .class_ 664), (0, u "java/lang/System$2"), (9, u "NEVER"), (2, u "MAYBE"), (49, u "arraycopy"), (0, u "(Ljava/lang/Object;ILjava/lang/Object;II)V"), (72, .class_ 802), (0, u "java/lang/System$Logger$Level")] 31

def k5m0 : Method := { name := "<init>", desc := "()V", sig := { parameters := [], returnType := none }, accessFlags := 2, code := none }
def k5m1 : Method := { name := "arraycopy", desc := "(Ljava/lang/Object;ILjava/lang/Object;II)V", sig := { parameters := [(.object "java/lang/Object"), .int, (.object "java/lang/Object"), .int, .int], returnType := none }, accessFlags := 265, code := none }
/-- java/lang/System -/
def k5 : Class := { plain "java/lang/System" (some 0) with
  accessFlags := 49
  interfaces := #[]
  cf := some (fileOf pool5 8 #[.nestMembers #[319, 327, 801, 108, 663, 208]] #[{ accessFlags := 2, nameIndex := 5, descriptorIndex := 6, attributes := #[] }, { accessFlags := 265, nameIndex := 727, descriptorIndex := 728, attributes := #[] }] 49 2 #[] #[{ accessFlags := 25, nameIndex := 507, descriptorIndex := 526, attributes := #[] }, { accessFlags := 25, nameIndex := 399, descriptorIndex := 155, attributes := #[] }, { accessFlags := 25, nameIndex := 396, descriptorIndex := 155, attributes := #[] }, { accessFlags := 10, nameIndex := 525, descriptorIndex := 526, attributes := #[] }, { accessFlags := 26, nameIndex := 674, descriptorIndex := 12, attributes := #[] }, { accessFlags := 26, nameIndex := 677, descriptorIndex := 12, attributes := #[] }, { accessFlags := 10, nameIndex := 11, descriptorIndex := 12, attributes := #[] }, { accessFlags := 74, nameIndex := 175, descriptorIndex := 176, attributes := #[] }, { accessFlags := 10, nameIndex := 491, descriptorIndex := 222, attributes := #[] }, { accessFlags := 74, nameIndex := 29, descriptorIndex := 30, attributes := #[] }, { accessFlags := 74, nameIndex := 154, descriptorIndex := 155, attributes := #[] }, { accessFlags := 10, nameIndex := 217, descriptorIndex := 218, attributes := #[] }, { accessFlags := 10, nameIndex := 221, descriptorIndex := 222, attributes := #[] }, { accessFlags := 8, nameIndex := 562, descriptorIndex := 563, attributes := #[] }])
  fields := #[{ name := "in", type := (.object "java/io/InputStream"), accessFlags := 25, slot := 0, constantValue := 0 }, { name := "out", type := (.object "java/io/PrintStream"), accessFlags := 25, slot := 1, constantValue := 0 }, { name := "err", type := (.object "java/io/PrintStream"), accessFlags := 25, slot := 2, constantValue := 0 }, { name := "initialIn", type := (.object "java/io/InputStream"), accessFlags := 10, slot := 3, constantValue := 0 }, { name := "NEVER", type := .int, accessFlags := 26, slot := 4, constantValue := 0 }, { name := "MAYBE", type := .int, accessFlags := 26, slot := 5, constantValue := 0 }, { name := "allowSecurityManager", type := .int, accessFlags := 10, slot := 6, constantValue := 0 }, { name := "security", type := (.object "java/lang/SecurityManager"), accessFlags := 74, slot := 7, constantValue := 0 }, { name := "notSupportedJnuEncoding", type := (.object "java/lang/String"), accessFlags := 10, slot := 8, constantValue := 0 }, { name := "cons", type := (.object "java/io/Console"), accessFlags := 74, slot := 9, constantValue := 0 }, { name := "initialErrStream", type := (.object "java/io/PrintStream"), accessFlags := 74, slot := 10, constantValue := 0 }, { name := "props", type := (.object "java/util/Properties"), accessFlags := 10, slot := 11, constantValue := 0 }, { name := "lineSeparator", type := (.object "java/lang/String"), accessFlags := 10, slot := 12, constantValue := 0 }, { name := "bootLayer", type := (.object "java/lang/ModuleLayer"), accessFlags := 8, slot := 13, constantValue := 0 }]
  methods := #[k5m0, k5m1]
  instanceTypes := #[]
  staticTypes := #[(.object "java/io/InputStream"), (.object "java/io/PrintStream"), (.object "java/io/PrintStream"), (.object "java/io/InputStream"), .int, .int, .int, (.object "java/lang/SecurityManager"), (.object "java/lang/String"), (.object "java/io/Console"), (.object "java/io/PrintStream"), (.object "java/util/Properties"), (.object "java/lang/String"), (.object "java/lang/ModuleLayer")]
  resolved := Array.replicate 834 none
  statics := none }

def pool6 : Array CpInfo := pool [(1, u "java/lang/Cloneable"), (0, .class_ 1), (0, u "java/lang/Object"), (0, .class_ 3)] 3

/-- java/lang/Cloneable -/
def k6 : Class := { plain "java/lang/Cloneable" (some 0) with
  accessFlags := 1537
  interfaces := #[]
  cf := some (fileOf pool6 2 #[] #[] 1537 4 #[] #[])
  fields := #[]
  methods := #[]
  instanceTypes := #[]
  staticTypes := #[]
  resolved := Array.replicate 8 none
  statics := none }

def pool7 : Array CpInfo := pool [(1, u "java/io/Serializable"), (0, .class_ 1), (0, u "java/lang/Object"), (0, .class_ 3)] 3

/-- java/io/Serializable -/
def k7 : Class := { plain "java/io/Serializable" (some 0) with
  accessFlags := 1537
  interfaces := #[]
  cf := some (fileOf pool7 2 #[] #[] 1537 4 #[] #[])
  fields := #[]
  methods := #[]
  instanceTypes := #[]
  staticTypes := #[]
  resolved := Array.replicate 8 none
  statics := none }

/-- the primitive byte -/
def k8 : Class := { plain "byte" none with kind := .primitive 'B', accessFlags := 0x411 }
/-- [B -/
def k9 : Class := { plain "[B" (some 0) with kind := .array 8 .byte, interfaces := #[6, 7], accessFlags := 1041 }

/-- the primitive int -/
def k10 : Class := { plain "int" none with kind := .primitive 'I', accessFlags := 0x411 }
/-- [I -/
def k11 : Class := { plain "[I" (some 0) with kind := .array 10 .int, interfaces := #[6, 7], accessFlags := 1041 }

/-- the primitive long -/
def k12 : Class := { plain "long" none with kind := .primitive 'J', accessFlags := 0x411 }
/-- [J -/
def k13 : Class := { plain "[J" (some 0) with kind := .array 12 .long, interfaces := #[6, 7], accessFlags := 1041 }

def heap : Heap := #[]
def classes : Array Class := #[k0, k1, k2, k3, k4, k5, k6, k7, k8, k9, k10, k11, k12, k13]
def interned : List (Array UInt16 × Addr) := []
def slotsUsed : Nat := 0
def theMethod : MethodId := ⟨1, 4⟩
def args0 : Array Value := #[.long 5, .long 77, .long 123456789]
def aboutOver (below : List Frame) : State where
  vm := { classes := classes, interned := interned.toArray }
  heap := heap
  slotsUsed := slotsUsed
  threads := #[{ frames := .invoking theMethod args0 :: below }]
def below0 : List Frame := [.native { method := ⟨0, 0⟩, args := #[] }]
def about1 : State := aboutOver below0
def p0 : Program := .bare "" "" ""
def e0 : Env := launch0.env 0 0 0
theorem w_frames : about1.frames = Frame.invoking theMethod args0 :: below0 := rfl
set_option maxRecDepth 65536 in
theorem w_args : argsFit about1.vm theMethod args0 = true := by decide +kernel
set_option maxRecDepth 65536 in
theorem w_heap : heapFits about1 = true := by decide +kernel
set_option maxRecDepth 65536 in
theorem w_runnable : about1.curStatus? = some .runnable := by decide +kernel
set_option maxRecDepth 65536 in
theorem w_alone : about1.alone = true := by decide +kernel
set_option maxRecDepth 65536 in
theorem w_named : about1.methodNamed? x = some theMethod := by decide +kernel
set_option maxRecDepth 65536 in
theorem w_hears : about1.hears theMethod below0 = true := by decide +kernel
set_option maxRecDepth 65536 in
theorem w_ripe : about1.ripe theMethod args0 below0 = true := by decide +kernel
theorem w_running : about1.status = .running := rfl
set_option maxRecDepth 65536 in
theorem w_room : about1.hasRoom e0.platform room_1 = true :=
  launch0.hasRoom_least _ room_1 (by decide +kernel) (by decide +kernel) (by decide +kernel) (by decide +kernel) (by decide +kernel) (by decide +kernel)
theorem allAtoms_all (ts : List Jvm.Cond) (a : Array Jvm.Value) (st : Jvm.State) : (allAtoms ts).before a st = ts.all (fun c => c.before a st) := by
  induction ts with
  | nil => rfl
  | cons c t ih =>
    show (Jvm.Cond.and c (allAtoms t)).before a st = _
    rw [Jvm.Cond.before_and, ih, List.all_cons]
def words1 : List Jvm.Cond := Jvm.Cond.code x code maxLocals ret :: tables_1
/-- a 'code' word, met by the world's own term for the bytes: nothing is compared byte by byte -/
theorem code_word {y : MethodName} {bytes : ByteArray} {mx : Nat} {rt : Option FieldType} {a : Array Value} {s : State} {m : MethodId} {meth : Method} {c : Code} (h1 : s.methodNamed? y = some m) (h2 : s.vm.method? m = some meth) (h3 : meth.code = some c) (h4 : c.code = bytes)
    (h5 : (c.maxLocals == mx && c.exceptionTable.isEmpty && decide (c.maxStack ≤ mostOperands) && decide (meth.sig.returnType = rt) && !meth.locks && decide (parseMethodDescriptor y.desc = some meth.sig)) = true) : (Jvm.Cond.code y bytes mx rt).before a s = true := by
  simp only [Bool.and_eq_true, beq_iff_eq, Bool.not_eq_true', decide_eq_true_eq] at h5
  obtain ⟨⟨⟨⟨⟨g1, g2⟩, g3⟩, g4⟩, g5⟩, g6⟩ := h5
  simp [Cond.before, Cond.holds, Cond.value, h1, h2, h3, h4, g1, g2, g3, g4, g5, g6]
def isCode : Jvm.Cond → Bool
  | .code _ _ _ _ => true
  | _ => false
theorem all_split {L : List Jvm.Cond} {P : Jvm.Cond → Bool} (h1 : L.all (fun c => isCode c || P c) = true) (h2 : ∀ c ∈ L.filter isCode, P c = true) : L.all P = true := by
  refine List.all_eq_true.mpr fun c hc => ?_
  have h := List.all_eq_true.mp h1 c hc
  rcases Bool.eq_false_or_eq_true (isCode c) with hi | hi
  · exact h2 c (List.mem_filter.mpr ⟨hc, hi⟩)
  · simpa [hi] using h
set_option maxRecDepth 65536 in
theorem w_c0 : (Jvm.Cond.code x code maxLocals ret).before args0 about1 = true := code_word (m := ⟨1, 4⟩) (meth := k1m4) (c := k1c4) (by decide +kernel) rfl rfl rfl (by decide +kernel)
set_option maxRecDepth 65536 in
theorem w_c1 : (Jvm.Cond.code ({ cls := "antecede/judges/OvertakingsAddPinLaw", name := "bits", desc := "(JI)I" } : Jvm.MethodName) method_2_code (3 : Nat) (Option.some Jvm.ClassFile.FieldType.int)).before args0 about1 = true := code_word (m := ⟨1, 1⟩) (meth := k1m1) (c := k1c1) (by decide +kernel) rfl rfl rfl (by decide +kernel)
set_option maxRecDepth 65536 in
theorem w_c2 : (Jvm.Cond.code ({ cls := "java/lang/Math", name := "min", desc := "(JJ)J" } : Jvm.MethodName) jdk_29_method_70_code (4 : Nat) (Option.some Jvm.ClassFile.FieldType.long)).before args0 about1 = true := code_word (m := ⟨2, 2⟩) (meth := k2m2) (c := k2c2) (by decide +kernel) rfl rfl rfl (by decide +kernel)
set_option maxRecDepth 65536 in
theorem w_c3 : (Jvm.Cond.code ({ cls := "antecede/judges/OvertakingsAddPinLaw", name := "ov", desc := "([I[I[III)I" } : Jvm.MethodName) method_4_code (5 : Nat) (Option.some Jvm.ClassFile.FieldType.int)).before args0 about1 = true := code_word (m := ⟨1, 3⟩) (meth := k1m3) (c := k1c3) (by decide +kernel) rfl rfl rfl (by decide +kernel)
set_option maxRecDepth 65536 in
theorem w_c4 : (Jvm.Cond.code ({ cls := "antecede/judges/Overtakings", name := "<init>", desc := "()V" } : Jvm.MethodName) prog_49_method_1_code (1 : Nat) (Option.none : Option Jvm.ClassFile.FieldType)).before args0 about1 = true := code_word (m := ⟨3, 0⟩) (meth := k3m0) (c := k3c0) (by decide +kernel) rfl rfl rfl (by decide +kernel)
set_option maxRecDepth 65536 in
theorem w_c5 : (Jvm.Cond.code ({ cls := "java/lang/Object", name := "<init>", desc := "()V" } : Jvm.MethodName) object_method_1_code (1 : Nat) (Option.none : Option Jvm.ClassFile.FieldType)).before args0 about1 = true := code_word (m := ⟨0, 0⟩) (meth := k0m0) (c := k0c0) (by decide +kernel) rfl rfl rfl (by decide +kernel)
set_option maxRecDepth 65536 in
theorem w_c6 : (Jvm.Cond.code ({ cls := "antecede/judges/OvertakingsAddPinLaw", name := "t", desc := "(JJI)J" } : Jvm.MethodName) method_3_code (5 : Nat) (Option.some Jvm.ClassFile.FieldType.long)).before args0 about1 = true := code_word (m := ⟨1, 2⟩) (meth := k1m2) (c := k1c2) (by decide +kernel) rfl rfl rfl (by decide +kernel)
set_option maxRecDepth 65536 in
theorem w_c7 : (Jvm.Cond.code ({ cls := "antecede/judges/Overtakings", name := "add", desc := "(JJJ)V" } : Jvm.MethodName) prog_49_method_2_code (9 : Nat) (Option.none : Option Jvm.ClassFile.FieldType)).before args0 about1 = true := code_word (m := ⟨3, 1⟩) (meth := k3m1) (c := k3c1) (by decide +kernel) rfl rfl rfl (by decide +kernel)
set_option maxRecDepth 65536 in
theorem w_c8 : (Jvm.Cond.code ({ cls := "antecede/judges/Overtakings", name := "count", desc := "()J" } : Jvm.MethodName) prog_49_method_3_code (1 : Nat) (Option.some Jvm.ClassFile.FieldType.long)).before args0 about1 = true := code_word (m := ⟨3, 2⟩) (meth := k3m2) (c := k3c2) (by decide +kernel) rfl rfl rfl (by decide +kernel)
set_option maxRecDepth 65536 in
theorem w_c9 : (Jvm.Cond.code ({ cls := "java/util/Arrays", name := "copyOf", desc := "([JI)[J" } : Jvm.MethodName) jdk_65_method_124_code (3 : Nat) (Option.some (Jvm.ClassFile.FieldType.array Jvm.ClassFile.FieldType.long))).before args0 about1 = true := code_word (m := ⟨4, 1⟩) (meth := k4m1) (c := k4c1) (by decide +kernel) rfl rfl rfl (by decide +kernel)
set_option maxRecDepth 65536 in
theorem w_c10 : (Jvm.Cond.code ({ cls := "java/lang/Math", name := "min", desc := "(II)I" } : Jvm.MethodName) jdk_29_method_69_code (2 : Nat) (Option.some Jvm.ClassFile.FieldType.int)).before args0 about1 = true := code_word (m := ⟨2, 1⟩) (meth := k2m1) (c := k2c1) (by decide +kernel) rfl rfl rfl (by decide +kernel)
def codes1 : List Jvm.Cond := [Jvm.Cond.code x code maxLocals ret, Jvm.Cond.code ({ cls := "antecede/judges/OvertakingsAddPinLaw", name := "bits", desc := "(JI)I" } : Jvm.MethodName) method_2_code (3 : Nat) (Option.some Jvm.ClassFile.FieldType.int), Jvm.Cond.code ({ cls := "java/lang/Math", name := "min", desc := "(JJ)J" } : Jvm.MethodName) jdk_29_method_70_code (4 : Nat) (Option.some Jvm.ClassFile.FieldType.long), Jvm.Cond.code ({ cls := "antecede/judges/OvertakingsAddPinLaw", name := "ov", desc := "([I[I[III)I" } : Jvm.MethodName) method_4_code (5 : Nat) (Option.some Jvm.ClassFile.FieldType.int), Jvm.Cond.code ({ cls := "antecede/judges/Overtakings", name := "<init>", desc := "()V" } : Jvm.MethodName) prog_49_method_1_code (1 : Nat) (Option.none : Option Jvm.ClassFile.FieldType), Jvm.Cond.code ({ cls := "java/lang/Object", name := "<init>", desc := "()V" } : Jvm.MethodName) object_method_1_code (1 : Nat) (Option.none : Option Jvm.ClassFile.FieldType), Jvm.Cond.code ({ cls := "antecede/judges/OvertakingsAddPinLaw", name := "t", desc := "(JJI)J" } : Jvm.MethodName) method_3_code (5 : Nat) (Option.some Jvm.ClassFile.FieldType.long), Jvm.Cond.code ({ cls := "antecede/judges/Overtakings", name := "add", desc := "(JJJ)V" } : Jvm.MethodName) prog_49_method_2_code (9 : Nat) (Option.none : Option Jvm.ClassFile.FieldType), Jvm.Cond.code ({ cls := "antecede/judges/Overtakings", name := "count", desc := "()J" } : Jvm.MethodName) prog_49_method_3_code (1 : Nat) (Option.some Jvm.ClassFile.FieldType.long), Jvm.Cond.code ({ cls := "java/util/Arrays", name := "copyOf", desc := "([JI)[J" } : Jvm.MethodName) jdk_65_method_124_code (3 : Nat) (Option.some (Jvm.ClassFile.FieldType.array Jvm.ClassFile.FieldType.long)), Jvm.Cond.code ({ cls := "java/lang/Math", name := "min", desc := "(II)I" } : Jvm.MethodName) jdk_29_method_69_code (2 : Nat) (Option.some Jvm.ClassFile.FieldType.int)]
set_option maxRecDepth 65536 in
theorem codes_eq : words1.filter isCode = codes1 := rfl
theorem w_codes : ∀ c ∈ words1.filter isCode, c.before args0 about1 = true := by
  rw [codes_eq]
  intro c hc
  simp only [codes1, List.mem_cons, List.not_mem_nil, or_false] at hc
  rcases hc with rfl | rfl | rfl | rfl | rfl | rfl | rfl | rfl | rfl | rfl | rfl
  · exact w_c0
  · exact w_c1
  · exact w_c2
  · exact w_c3
  · exact w_c4
  · exact w_c5
  · exact w_c6
  · exact w_c7
  · exact w_c8
  · exact w_c9
  · exact w_c10
set_option maxRecDepth 65536 in
theorem w_t1 : (words1.take 24).all (fun c => isCode c || c.before args0 about1) = true := by decide +kernel
set_option maxRecDepth 65536 in
theorem w_t2 : ((words1.drop 24).take 24).all (fun c => isCode c || c.before args0 about1) = true := by decide +kernel
set_option maxRecDepth 65536 in
theorem w_t3 : ((words1.drop 24).drop 24).all (fun c => isCode c || c.before args0 about1) = true := by decide +kernel
theorem w_tables : (allAtoms (Jvm.Cond.code x code maxLocals ret :: tables_1)).before args0 about1 = true := by
  rw [allAtoms_all]
  show words1.all (fun c => c.before args0 about1) = true
  refine all_split ?_ w_codes
  rw [← List.take_append_drop 24 words1, List.all_append, w_t1, ← List.take_append_drop 24 (words1.drop 24), List.all_append, w_t2, w_t3]
  rfl
set_option maxRecDepth 65536 in
theorem w_case : (Jvm.Cond.and given_1 narrow_1).before args0 about1 = true := by decide +kernel
theorem w_applies : (headSpec (Jvm.Cond.code x code maxLocals ret :: tables_1) room_1).applies x e0.platform about1 = true :=
  (Spec.applies_iff w_frames).mpr ⟨w_running, w_runnable, w_alone, w_named, w_hears, w_ripe, w_room, w_tables⟩
theorem atStart : AtStart classFile x code maxLocals ret World_1 tables_1 room_1 Calls_1 rest_1 Pre_1 launch0 p0 e0 about1 theMethod args0 below0 :=
  ⟨lists_1, trivial, launch0.admits_env _ _ _, launch0.least_env, fairChoices_fair.cas, fairChoices_fair.clock, w_frames, w_args, w_heap, w_applies, trivial, trivial, w_case⟩
end start1
theorem witness_1 : WitnessClaimed_1 := ⟨start1.p0, start1.e0, start1.about1, start1.theMethod, start1.args0, start1.below0, start1.atStart⟩
end Jvm.Pilot.@@N@@
