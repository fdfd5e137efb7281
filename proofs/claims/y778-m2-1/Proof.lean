import JvmDerived
import JvmDerived.Pilot.@@N@@Statement
import JvmDerived.Pilot.@@N@@Code
set_option linter.unusedVariables false
set_option linter.unusedSimpArgs false

namespace Jvm.Sy
open Jvm Jvm.ClassFile Sem Op Lib Jvm.Free Jvm.Stand Jvm.LawKit Jvm.RoadKit Bundle

abbrev WKey := String × String × String
abbrev WObj := (FieldType × List Value) ⊕ (String × List (WKey × Value))
abbrev WHp := List WObj
def gv (ρ : Nat → Nat) : Value → Value
  | .ref a => .ref (ρ a)
  | .int x => .int x
  | .long x => .long x
  | .float x => .float x
  | .double x => .double x
  | .null => .null
  | .retAddr q => .retAddr q
def gs (ρ : Nat → Nat) : Slot → Slot
  | .val v => .val (gv ρ v)
  | .unset => .unset
  | .second => .second
def gS (ρ : Nat → Nat) (S : List Value) : List Value := S.map (gv ρ)
def gL (ρ : Nat → Nat) (L : List Slot) : Array Slot := (L.map (gs ρ)).toArray
section Vals
variable {ρ : Nat → Nat} {v : Value} {ty : FieldType}
theorem cat_gv : (gv ρ v).category = v.category := by cases v <;> rfl
theorem isRef_gv : (gv ρ v).isRef = v.isRef := by cases v <;> rfl
theorem fits_gv : fits ty (gv ρ v) = fits ty v := by cases ty <;> cases v <;> rfl
theorem narrow_gv : narrow ty (gv ρ v) = gv ρ (narrow ty v) := by cases ty <;> cases v <;> rfl
theorem dv_gv : gv ρ (defaultValue ty) = defaultValue ty := by cases ty <;> rfl
theorem sum_gS (S : List Value) : ((gS ρ S).map fun v => v.category).sum = (S.map Value.category).sum := by
  induction S with
  | nil => rfl
  | cons a t ih => simp only [gS, List.map_cons, List.sum_cons, cat_gv] at ih ⊢; rw [ih]
theorem gL_get (L : List Slot) (k : Nat) : (gL ρ L)[k]? = (L[k]?).map (gs ρ) := by simp [gL]
theorem gL_val {L : List Slot} {k : Nat} (h : L[k]? = some (.val v)) : (gL ρ L)[k]? = some (.val (gv ρ v)) := by rw [gL_get, h]; rfl
theorem gL_size (L : List Slot) : (gL ρ L).size = L.length := by simp [gL]
end Vals
def ArrOk (Z : State) (ρ : Nat → Nat) (h : Heap) (a : Addr) (ty : FieldType) (vs : List Value) : Prop :=
  ∃ cl : Cell, Arr Z h a cl ty ∧ cl.slots.toList = vs.map (gv ρ) ∧ (∀ C, ty = .object C → Ovr Z cl.cls C) ∧ ∀ v ∈ vs, fits ty v = true
def ObjOk (Z : State) (ρ : Nat → Nat) (h : Heap) (a : Addr) (C : String) (fs : List (WKey × Value)) : Prop :=
  Exa Z h a C ∧ (∀ (i : Nat) (O n d : String) (v : Value), fs[i]? = some ((O, n, d), v) → Fld Z h a O n d (gv ρ v)) ∧
    ∀ (i j : Nat) (k1 k2 : WKey) (v1 v2 : Value), i ≠ j → fs[i]? = some (k1, v1) → fs[j]? = some (k2, v2) → RoadKit.slotOf Z k1.1 k1.2.1 k1.2.2 ≠ RoadKit.slotOf Z k2.1 k2.2.1 k2.2.2
def CellOk (Z : State) (ρ : Nat → Nat) (h : Heap) (a : Addr) : WObj → Prop
  | .inl q => ArrOk Z ρ h a q.1 q.2
  | .inr q => ObjOk Z ρ h a q.1 q.2
def WDen (Z : State) (ρ : Nat → Nat) (n0 : Nat) (σ : WHp) (h : Heap) : Prop :=
  h.size = n0 + σ.length ∧ (σ.length ≤ 1000 ∧ ∀ (a : Addr) (c : Cell), a < n0 → Z.heap[a]? = some c → h[a]? = some c) ∧ ∀ (k : Nat) (o : WObj), σ[k]? = some o → CellOk Z ρ h (n0 + k) o
section Heaps
variable {Z : State} {ρ : Nat → Nat} {h h' : Heap} {a b : Addr} {o : WObj} {n0 k sl : Nat} {σ : WHp} {v : Value}
theorem CellOk.ext (F : CellOk Z ρ h a o) (E : Ext h h') : CellOk Z ρ h' a o := by
  rcases o with ⟨ty, vs⟩ | ⟨C, fs⟩
  · obtain ⟨cl, A, r⟩ := F; exact ⟨cl, A.ext E, r⟩
  · obtain ⟨F1, F2, F3⟩ := F; exact ⟨F1.ext E, fun i O n d v q => (F2 i O n d v q).ext E, F3⟩
theorem CellOk.other (F : CellOk Z ρ h b o) (W : Wr h h' a sl v) (q : b ≠ a) : CellOk Z ρ h' b o := by
  rcases o with ⟨ty, vs⟩ | ⟨C, fs⟩
  · obtain ⟨cl, A, r⟩ := F; exact ⟨cl, A.other W q, r⟩
  · obtain ⟨F1, F2, F3⟩ := F; exact ⟨F1.wr W, fun i O n d v y => (F2 i O n d v y).other W (Or.inl q), F3⟩
theorem WDen.push (D : WDen Z ρ n0 σ h) (E : Ext h h') (hs : h'.size = h.size + 1) (hl : σ.length < 1000) (F : CellOk Z ρ h' (n0 + σ.length) o) : WDen Z ρ n0 (σ ++ [o]) h' := by
  obtain ⟨D1, D2, D3⟩ := D
  refine ⟨by rw [hs, D1]; simp [Nat.add_assoc], ⟨by simp; omega, fun a c h1 h2 => E.2 _ _ (D2.2 a c h1 h2)⟩, fun k o' hk => ?_⟩
  by_cases q : k < σ.length
  · rw [List.getElem?_append_left q] at hk; exact (D3 k o' hk).ext E
  · rw [List.getElem?_append_right (by omega)] at hk
    have e : k - σ.length = 0 := by
      rcases Nat.eq_zero_or_pos (k - σ.length) with z | z
      · exact z
      · rw [List.getElem?_eq_none (by simp; omega)] at hk; cases hk
    rw [e] at hk
    cases hk
    have e2 : k = σ.length := by omega
    rw [e2]; exact F
theorem WDen.put (D : WDen Z ρ n0 σ h) (W : Wr h h' (n0 + k) sl v) (F : CellOk Z ρ h' (n0 + k) o) : WDen Z ρ n0 (σ.set k o) h' := by
  obtain ⟨D1, D2, D3⟩ := D
  refine ⟨by rw [W.size, D1]; simp, ⟨by simp; exact D2.1, fun a c h1 h2 => ?_⟩, fun j o' hj => ?_⟩
  · obtain ⟨c', q1, -, -, -, q5, -⟩ := wr_at W (D2.2 a c h1 h2)
    rw [q1, q5 (fun e => by rw [e] at h1; exact absurd h1 (Nat.not_lt.mpr (Nat.le_add_right _ _)))]
  by_cases q : j = k
  · subst q
    rw [List.getElem?_set] at hj
    simp only [if_true] at hj
    split at hj
    · cases hj; exact F
    · cases hj
  · rw [List.getElem?_set_ne (Ne.symm q)] at hj
    exact (D3 j o' hj).other W fun e => q (Nat.add_left_cancel e)
theorem WDen.lt (D : WDen Z ρ n0 σ h) (hk : σ[k]? = some o) : k < 1000 := by
  have := (List.getElem?_eq_some_iff.mp hk).1
  have := D.2.1.1
  omega
theorem ArrOk.size {ty : FieldType} {vs : List Value} {cl : Cell} (e : cl.slots.toList = vs.map (gv ρ)) : cl.slots.size = vs.length := by
  have := congrArg List.length e
  simpa using this
theorem ArrOk.at {vs : List Value} {cl : Cell} (e : cl.slots.toList = vs.map (gv ρ)) {i : Nat} {w : Value} (hw : vs[i]? = some w) : cl.slots[i]? = some (gv ρ w) := by
  rw [← Array.getElem?_toList, e, List.getElem?_map, hw]; rfl
theorem ArrOk.set {ty : FieldType} {vs : List Value} {cl : Cell} (A : Arr Z h a cl ty) (e : cl.slots.toList = vs.map (gv ρ)) (hO : ∀ C, ty = .object C → Ovr Z cl.cls C) (hf : ∀ v ∈ vs, fits ty v = true) {i : Nat} {w : Value} (W : Wr h h' a i (gv ρ w)) (hw : fits ty w = true) : ArrOk Z ρ h' a ty (vs.set i w) := by
  refine ⟨cl.setSlot i (gv ρ w), A.same W, ?_, hO, fun y hy => ?_⟩
  · show (cl.slots.setIfInBounds i (gv ρ w)).toList = _
    rw [Array.toList_setIfInBounds, e, List.map_set]
  · rcases List.mem_or_eq_of_mem_set hy with q | q
    · exact hf y q
    · rw [q]; exact hw
end Heaps
abbrev WMC := (State × (Nat → Nat) × Nat) × (String × ByteArray × String × Option FieldType × Nat) × (Nat × Nat × Nat × Nat)
abbrev WMC.Z (G : WMC) : State := G.1.1
abbrev WMC.ρ (G : WMC) : Nat → Nat := G.1.2.1
abbrev WMC.n0 (G : WMC) : Nat := G.1.2.2
abbrev WMC.own (G : WMC) : String := G.2.1.1
abbrev WMC.bytes (G : WMC) : ByteArray := G.2.1.2.1
abbrev WMC.nm (G : WMC) : String := G.2.1.2.2.1
abbrev WMC.ret (G : WMC) : Option FieldType := G.2.1.2.2.2.1
abbrev WMC.ml (G : WMC) : Nat := G.2.1.2.2.2.2
abbrev WMC.j0 (G : WMC) : Nat := G.2.2.1
abbrev WMC.u0 (G : WMC) : Nat := G.2.2.2.1
abbrev WMC.fr (G : WMC) : Nat := G.2.2.2.2.1
abbrev WMC.lo (G : WMC) : Nat := G.2.2.2.2.2
abbrev WCfg := Nat × List Slot × List Value × WHp × Nat
def frm (G : WMC) (m : MethodId) (A : WCfg) : JFrame := mkF m A.1 (gL G.ρ A.2.1) (gS G.ρ A.2.2.1)
def WCtx (G : WMC) (p : Program) (R : Room) (s : State) (m : MethodId) (meth : Method) (c : Code) : Prop :=
  p.tables.exec = Jvm.exec ∧ c.code = G.bytes ∧ G.Z.Warmed39 s.vm ∧ s.vm.findClass G.own = some m.cls ∧ meth.name = G.nm ∧ meth.sig.returnType = G.ret ∧ c.maxLocals = G.ml ∧ s.heap.size = G.n0 + G.j0 ∧ (∀ k, k < 1000 → G.ρ k = G.n0 + k) ∧ (∀ i j, G.ρ i = G.ρ j → i = j) ∧ G.fr ≤ R.frames ∧ G.lo ≤ R.locals
def WHere (G : WMC) (p : Program) (l : Launch) (e : Env) (R : Room) (s : State) (m : MethodId) (args : Array Value) (below : List Frame) (meth : Method) (c : Code) (σ : WHp) (u : Nat) (T : State) : Prop :=
  ∃ locs ce sl, σ.length = G.j0 + ce ∧ u = G.u0 + sl ∧ Stand p l e R s m args below meth c T locs ce sl ∧ WDen G.Z G.ρ G.n0 σ T.heap ∧ Fr G.n0 locs
def WStep (G : WMC) (A B : WCfg) : Prop :=
  A.2.2.2.1.length ≤ B.2.2.2.1.length ∧ A.2.2.2.2 ≤ B.2.2.2.2 ∧
  ∀ (p : Program) (l : Launch) (e : Env) (R : Room) (s : State) (m : MethodId) (args : Array Value) (below : List Frame) (meth : Method) (c : Code),
    WCtx G p R s m meth c → B.2.2.2.1.length ≤ G.j0 + R.cells → B.2.2.2.2 ≤ G.u0 + R.slots →
    ∀ T, WHere G p l e R s m args below meth c A.2.2.2.1 A.2.2.2.2 T →
      ∃ T', WHere G p l e R s m args below meth c B.2.2.2.1 B.2.2.2.2 T' ∧
        ∀ target, Steps p.tables e below (T'.setTop (frm G m B)) target → Steps p.tables e below (T.setTop (frm G m A)) target
def WRun (G : WMC) (A : WCfg) (v : Option Value) (σ' : WHp) (u' : Nat) : Prop :=
  A.2.2.2.1.length ≤ σ'.length ∧ A.2.2.2.2 ≤ u' ∧ (G.ret = none → v = none) ∧
  ∀ (p : Program) (l : Launch) (e : Env) (R : Room) (s : State) (m : MethodId) (args : Array Value) (below : List Frame) (meth : Method) (c : Code),
    WCtx G p R s m meth c → σ'.length ≤ G.j0 + R.cells → u' ≤ G.u0 + R.slots →
    ∀ T, WHere G p l e R s m args below meth c A.2.2.2.1 A.2.2.2.2 T →
      ∃ T', WHere G p l e R s m args below meth c σ' u' T' ∧
        ∀ fs, (∀ (f : JFrame) (acts : List Action), f.method = m → f.locked = none → f.entered = [] → (doReturn e (T'.setTop f) acts (v.map (gv G.ρ))).1 = T'.setFrames fs) →
          Steps p.tables e below (T.setTop (frm G m A)) (T'.setFrames fs)
def WGo (G : WMC) (A : WCfg) (Q : Option Value → WHp → Nat → Prop) : Prop := ∃ v σ' u', Q v σ' u' ∧ WRun G A v σ' u'
def AtI (bytes : ByteArray) (pc : Nat) (i : Instr) (len nx : Nat) : Prop := decode bytes pc = .ok (i, len) ∧ pc + len = nx
def AtJ (bytes : ByteArray) (pc : Nat) (f : Int → Instr) (nx tgt : Nat) : Prop := ∃ o : Int, decode bytes pc = .ok (f o, 3) ∧ pc + 3 = nx ∧ 0 ≤ (pc : Int) + o ∧ ((pc : Int) + o).toNat = tgt
section Walk
variable {G : WMC} {A B C : WCfg} {Q Q' : Option Value → WHp → Nat → Prop}
theorem WStep.refl (A : WCfg) : WStep G A A := ⟨Nat.le_refl _, Nat.le_refl _, fun _ _ _ _ _ _ _ _ _ _ _ _ _ T hT => ⟨T, hT, fun _ k => k⟩⟩
theorem WStep.trans (h1 : WStep G A B) (h2 : WStep G B C) : WStep G A C := by
  obtain ⟨a1, a2, a3⟩ := h1
  obtain ⟨b1, b2, b3⟩ := h2
  refine ⟨Nat.le_trans a1 b1, Nat.le_trans a2 b2, fun p l e R s m args below meth c hC hc hs T hT => ?_⟩
  obtain ⟨T1, hT1, k1⟩ := a3 p l e R s m args below meth c hC (Nat.le_trans b1 hc) (Nat.le_trans b2 hs) T hT
  obtain ⟨T2, hT2, k2⟩ := b3 p l e R s m args below meth c hC hc hs T1 hT1
  exact ⟨T2, hT2, fun t k => k1 t (k2 t k)⟩
theorem WRun.s {v : Option Value} {σ' : WHp} {u' : Nat} (h1 : WStep G A B) (h2 : WRun G B v σ' u') : WRun G A v σ' u' := by
  obtain ⟨a1, a2, a3⟩ := h1
  obtain ⟨b1, b2, b0, b3⟩ := h2
  refine ⟨Nat.le_trans a1 b1, Nat.le_trans a2 b2, b0, fun p l e R s m args below meth c hC hc hs T hT => ?_⟩
  obtain ⟨T1, hT1, k1⟩ := a3 p l e R s m args below meth c hC (Nat.le_trans b1 hc) (Nat.le_trans b2 hs) T hT
  obtain ⟨T2, hT2, k2⟩ := b3 p l e R s m args below meth c hC hc hs T1 hT1
  exact ⟨T2, hT2, fun fs h => k1 _ (k2 fs h)⟩
theorem WGo.s (h1 : WStep G A B) (h2 : WGo G B Q) : WGo G A Q := by
  obtain ⟨v, σ', u', q, r⟩ := h2
  exact ⟨v, σ', u', q, r.s h1⟩
theorem WGo.mono (h1 : WGo G A Q) (h : ∀ v σ' u', Q v σ' u' → Q' v σ' u') : WGo G A Q' := by
  obtain ⟨v, σ', u', q, r⟩ := h1
  exact ⟨v, σ', u', h _ _ _ q, r⟩
theorem WStep.pure {pc nx : Nat} {L L' : List Slot} {S S' : List Value} {σ : WHp} {u : Nat}
    (h : ∀ {p : Program} {e : Env} {below : List Frame} {T target : State} {m : MethodId} {c : Code}, At T m c below → p.tables.exec = Jvm.exec → c.code = G.bytes → (∀ i j, G.ρ i = G.ρ j → i = j) →
      Steps p.tables e below (T.setTop (mkF m nx (gL G.ρ L') (gS G.ρ S'))) target → Steps p.tables e below (T.setTop (mkF m pc (gL G.ρ L) (gS G.ρ S))) target) :
    WStep G (pc, L, S, σ, u) (nx, L', S', σ, u) := by
  refine ⟨Nat.le_refl _, Nat.le_refl _, fun p l e R s m args below meth c hC hc hs T hT => ⟨T, hT, fun target k => ?_⟩⟩
  obtain ⟨locs, ce, sl, h1, h2, X, D, N⟩ := hT
  exact h X.here hC.1 hC.2.1 hC.2.2.2.2.2.2.2.2.2.1 k
end Walk
end Jvm.Sy
namespace Jvm.Sy
open Jvm Jvm.ClassFile Sem Op Lib Jvm.Free Jvm.Stand Jvm.LawKit Jvm.RoadKit Bundle
section Pure
variable {G : WMC} {pc nx tgt u : Nat} {L L' : List Slot} {S : List Value} {σ : WHp}
theorem WStep.iload {k : Nat} {x : Int32} (d : AtI G.bytes pc (.iload k) 2 nx) (hl : L[k]? = some (.val (.int x))) : WStep G (pc, L, S, σ, u) (nx, L, .int x :: S, σ, u) := by
  obtain ⟨d, rfl⟩ := d
  exact WStep.pure fun hA hx hby _ k => XS.iload hA hx rfl (hb hby d) (gL_val hl) k
theorem WStep.iloadN {k : Fin 4} {x : Int32} (d : AtI G.bytes pc (.iload_n k) 1 nx) (hl : L[k.val]? = some (.val (.int x))) : WStep G (pc, L, S, σ, u) (nx, L, .int x :: S, σ, u) := by
  obtain ⟨d, rfl⟩ := d
  exact WStep.pure fun hA hx hby _ k => XS.iloadN hA hx rfl (hb hby d) (gL_val hl) k
theorem WStep.lload {k : Nat} {x : Int64} (d : AtI G.bytes pc (.lload k) 2 nx) (hl : L[k]? = some (.val (.long x))) : WStep G (pc, L, S, σ, u) (nx, L, .long x :: S, σ, u) := by
  obtain ⟨d, rfl⟩ := d
  exact WStep.pure fun hA hx hby _ k => XS.lload hA hx rfl (hb hby d) (gL_val hl) k
theorem WStep.lloadN {k : Fin 4} {x : Int64} (d : AtI G.bytes pc (.lload_n k) 1 nx) (hl : L[k.val]? = some (.val (.long x))) : WStep G (pc, L, S, σ, u) (nx, L, .long x :: S, σ, u) := by
  obtain ⟨d, rfl⟩ := d
  exact WStep.pure fun hA hx hby _ k => XS.lloadN hA hx rfl (hb hby d) (gL_val hl) k
theorem WStep.aload {k : Nat} {x : Value} (d : AtI G.bytes pc (.aload k) 2 nx) (hl : L[k]? = some (.val x)) (hr : x.isRef = true) : WStep G (pc, L, S, σ, u) (nx, L, x :: S, σ, u) := by
  obtain ⟨d, rfl⟩ := d
  exact WStep.pure fun hA hx hby _ k => XS.aload hA hx rfl (hb hby d) (gL_val hl) (isRef_gv.trans hr) k
theorem WStep.aloadN {k : Fin 4} {x : Value} (d : AtI G.bytes pc (.aload_n k) 1 nx) (hl : L[k.val]? = some (.val x)) (hr : x.isRef = true) : WStep G (pc, L, S, σ, u) (nx, L, x :: S, σ, u) := by
  obtain ⟨d, rfl⟩ := d
  exact WStep.pure fun hA hx hby _ k => XS.aloadN hA hx rfl (hb hby d) (gL_val hl) (isRef_gv.trans hr) k
theorem WStep.istore {k : Nat} {x : Int32} (d : AtI G.bytes pc (.istore k) 2 nx) (hl : storeLocals (gL G.ρ L) k (.int x) = some (gL G.ρ L')) : WStep G (pc, L, .int x :: S, σ, u) (nx, L', S, σ, u) := by
  obtain ⟨d, rfl⟩ := d
  exact WStep.pure fun hA hx hby _ k => XS.istore hA hx rfl (hb hby d) rfl hl k
theorem WStep.istoreN {k : Fin 4} {x : Int32} (d : AtI G.bytes pc (.istore_n k) 1 nx) (hl : storeLocals (gL G.ρ L) k.val (.int x) = some (gL G.ρ L')) : WStep G (pc, L, .int x :: S, σ, u) (nx, L', S, σ, u) := by
  obtain ⟨d, rfl⟩ := d
  exact WStep.pure fun hA hx hby _ k => XS.istoreN hA hx rfl (hb hby d) rfl hl k
theorem WStep.lstore {k : Nat} {x : Int64} (d : AtI G.bytes pc (.lstore k) 2 nx) (hl : storeLocals (gL G.ρ L) k (.long x) = some (gL G.ρ L')) : WStep G (pc, L, .long x :: S, σ, u) (nx, L', S, σ, u) := by
  obtain ⟨d, rfl⟩ := d
  exact WStep.pure fun hA hx hby _ k => XS.lstore hA hx rfl (hb hby d) rfl hl k
theorem WStep.astore {k : Nat} {x : Value} (d : AtI G.bytes pc (.astore k) 2 nx) (hr : x.isRef = true) (hl : storeLocals (gL G.ρ L) k (gv G.ρ x) = some (gL G.ρ L')) : WStep G (pc, L, x :: S, σ, u) (nx, L', S, σ, u) := by
  obtain ⟨d, rfl⟩ := d
  exact WStep.pure fun hA hx hby _ k => XS.astore hA hx rfl (hb hby d) rfl (isRef_gv.trans hr) hl k
theorem WStep.iconst {i : Int} (z : Int32) (d : AtI G.bytes pc (.iconst i) 1 nx) (hz : Int32.ofInt i = z) : WStep G (pc, L, S, σ, u) (nx, L, .int z :: S, σ, u) := by
  obtain ⟨d, rfl⟩ := d
  exact WStep.pure fun hA hx hby _ k => by subst hz; exact XS.iconst hA hx rfl (hb hby d) k
theorem WStep.bipush {i : Int} (z : Int32) (d : AtI G.bytes pc (.bipush i) 2 nx) (hz : (Int8.ofInt i).toInt32 = z) : WStep G (pc, L, S, σ, u) (nx, L, .int z :: S, σ, u) := by
  obtain ⟨d, rfl⟩ := d
  exact WStep.pure fun hA hx hby _ k => by subst hz; exact XS.bipush hA hx rfl (hb hby d) k
theorem WStep.lconst {i : Fin 2} (z : Int64) (d : AtI G.bytes pc (.lconst i) 1 nx) (hz : Int64.ofNat i = z) : WStep G (pc, L, S, σ, u) (nx, L, .long z :: S, σ, u) := by
  obtain ⟨d, rfl⟩ := d
  exact WStep.pure fun hA hx hby _ k => by subst hz; exact XS.lconst hA hx rfl (hb hby d) k
theorem WStep.aconstNull (d : AtI G.bytes pc .aconst_null 1 nx) : WStep G (pc, L, S, σ, u) (nx, L, .null :: S, σ, u) := by
  obtain ⟨d, rfl⟩ := d
  exact WStep.pure fun hA hx hby _ k => XS.aconstNull hA hx rfl (hb hby d) k
theorem WStep.iadd {x y : Int32} (d : AtI G.bytes pc .iadd 1 nx) : WStep G (pc, L, .int y :: .int x :: S, σ, u) (nx, L, .int (x + y) :: S, σ, u) := by
  obtain ⟨d, rfl⟩ := d
  exact WStep.pure fun hA hx hby _ k => XS.iadd hA hx rfl (hb hby d) rfl k
theorem WStep.isub {x y : Int32} (d : AtI G.bytes pc .isub 1 nx) : WStep G (pc, L, .int y :: .int x :: S, σ, u) (nx, L, .int (x - y) :: S, σ, u) := by
  obtain ⟨d, rfl⟩ := d
  exact WStep.pure fun hA hx hby _ k => XS.isub hA hx rfl (hb hby d) rfl k
theorem WStep.imul {x y : Int32} (d : AtI G.bytes pc .imul 1 nx) : WStep G (pc, L, .int y :: .int x :: S, σ, u) (nx, L, .int (x * y) :: S, σ, u) := by
  obtain ⟨d, rfl⟩ := d
  exact WStep.pure fun hA hx hby _ k => XS.imul hA hx rfl (hb hby d) rfl k
theorem WStep.iand {x y : Int32} (d : AtI G.bytes pc .iand 1 nx) : WStep G (pc, L, .int y :: .int x :: S, σ, u) (nx, L, .int (x &&& y) :: S, σ, u) := by
  obtain ⟨d, rfl⟩ := d
  exact WStep.pure fun hA hx hby _ k => XS.iand hA hx rfl (hb hby d) rfl k
theorem WStep.idiv {x y : Int32} (d : AtI G.bytes pc .idiv 1 nx) (hy : y ≠ 0) : WStep G (pc, L, .int y :: .int x :: S, σ, u) (nx, L, .int (x / y) :: S, σ, u) := by
  obtain ⟨d, rfl⟩ := d
  exact WStep.pure fun hA hx hby _ k => XS.idiv hA hx rfl (hb hby d) rfl hy k
theorem WStep.ladd {x y : Int64} (d : AtI G.bytes pc .ladd 1 nx) : WStep G (pc, L, .long y :: .long x :: S, σ, u) (nx, L, .long (x + y) :: S, σ, u) := by
  obtain ⟨d, rfl⟩ := d
  exact WStep.pure fun hA hx hby _ k => XS.ladd hA hx rfl (hb hby d) rfl k
theorem WStep.land {x y : Int64} (d : AtI G.bytes pc .land 1 nx) : WStep G (pc, L, .long y :: .long x :: S, σ, u) (nx, L, .long (x &&& y) :: S, σ, u) := by
  obtain ⟨d, rfl⟩ := d
  exact WStep.pure fun hA hx hby _ k => XS.land hA hx rfl (hb hby d) rfl k
theorem WStep.lrem {x y : Int64} (d : AtI G.bytes pc .lrem 1 nx) (hy : y ≠ 0) : WStep G (pc, L, .long y :: .long x :: S, σ, u) (nx, L, .long (x % y) :: S, σ, u) := by
  obtain ⟨d, rfl⟩ := d
  have q : x - x / y * y = x % y := lrem_mod x y
  exact WStep.pure fun hA hx hby _ k => XS.lrem hA hx rfl (hb hby d) rfl hy (by rw [q]; exact k)
theorem WStep.lcmp {x y : Int64} (d : AtI G.bytes pc .lcmp 1 nx) : WStep G (pc, L, .long y :: .long x :: S, σ, u) (nx, L, .int (lcmpW x y) :: S, σ, u) := by
  obtain ⟨d, rfl⟩ := d
  exact WStep.pure fun hA hx hby _ k => XS.lcmp hA hx rfl (hb hby d) rfl k
theorem WStep.dup {x : Value} (d : AtI G.bytes pc .dup 1 nx) (hc : x.category = 1) : WStep G (pc, L, x :: S, σ, u) (nx, L, x :: x :: S, σ, u) := by
  obtain ⟨d, rfl⟩ := d
  exact WStep.pure fun hA hx hby _ k => XS.dup hA hx rfl (hb hby d) rfl (cat_gv.trans hc) k
theorem WStep.dupX1 {x y : Value} (d : AtI G.bytes pc .dup_x1 1 nx) (hc : x.category = 1) (hc' : y.category = 1) : WStep G (pc, L, x :: y :: S, σ, u) (nx, L, x :: y :: x :: S, σ, u) := by
  obtain ⟨d, rfl⟩ := d
  exact WStep.pure fun hA hx hby _ k => XS.dupX1 hA hx rfl (hb hby d) rfl (cat_gv.trans hc) (cat_gv.trans hc') k
theorem WStep.goto (d : AtJ G.bytes pc .goto nx tgt) : WStep G (pc, L, S, σ, u) (tgt, L, S, σ, u) := by
  obtain ⟨o, d, rfl, h0, h1⟩ := d
  exact WStep.pure fun hA hx hby _ k => XS.goto hA hx rfl (pc0 := pc) (pc' := tgt) rfl (hb hby d) h0 h1 k
theorem WStep.icmpT {cd : ClassFile.Cond} {x y : Int32} (d : AtJ G.bytes pc (.if_icmp cd) nx tgt) (h : if_icmp.holds cd x y = true) : WStep G (pc, L, .int y :: .int x :: S, σ, u) (tgt, L, S, σ, u) := by
  obtain ⟨o, d, rfl, h0, h1⟩ := d
  exact WStep.pure fun hA hx hby _ k => XS.icmpYes hA hx rfl (pc0 := pc) (pc' := tgt) rfl (hb hby d) rfl h h0 h1 k
theorem WStep.icmpF {cd : ClassFile.Cond} {x y : Int32} (d : AtJ G.bytes pc (.if_icmp cd) nx tgt) (h : if_icmp.holds cd x y = false) : WStep G (pc, L, .int y :: .int x :: S, σ, u) (nx, L, S, σ, u) := by
  obtain ⟨o, d, rfl, h0, h1⟩ := d
  exact WStep.pure fun hA hx hby _ k => XS.icmpNo hA hx rfl (hb hby d) rfl h k
theorem WStep.ifT {cd : ClassFile.Cond} {x : Int32} (d : AtJ G.bytes pc (.ifCond cd) nx tgt) (h : if_icmp.holds cd x 0 = true) : WStep G (pc, L, .int x :: S, σ, u) (tgt, L, S, σ, u) := by
  obtain ⟨o, d, rfl, h0, h1⟩ := d
  exact WStep.pure fun hA hx hby _ k => XS.ifYes hA hx rfl (pc0 := pc) (pc' := tgt) rfl (hb hby d) rfl ((if0 _ _).trans h) h0 h1 k
theorem WStep.ifF {cd : ClassFile.Cond} {x : Int32} (d : AtJ G.bytes pc (.ifCond cd) nx tgt) (h : if_icmp.holds cd x 0 = false) : WStep G (pc, L, .int x :: S, σ, u) (nx, L, S, σ, u) := by
  obtain ⟨o, d, rfl, h0, h1⟩ := d
  exact WStep.pure fun hA hx hby _ k => XS.ifNo hA hx rfl (hb hby d) rfl ((if0 _ _).trans h) k
end Pure
section Forks
variable {G : WMC} {pc nx tgt u : Nat} {L : List Slot} {S : List Value} {σ : WHp} {Q : Option Value → WHp → Nat → Prop}
theorem WGo.lt {x y : Int32} (d : AtJ G.bytes pc (.if_icmp .lt) nx tgt) (h1 : x < y → WGo G (tgt, L, S, σ, u) Q) (h2 : ¬ x < y → WGo G (nx, L, S, σ, u) Q) : WGo G (pc, L, .int y :: .int x :: S, σ, u) Q := by
  by_cases h : x < y
  · exact (h1 h).s (WStep.icmpT d (tlt h).1)
  · exact (h2 h).s (WStep.icmpF d (flt h).1)
theorem WGo.lt0 {x : Int32} (d : AtJ G.bytes pc (.ifCond .lt) nx tgt) (h1 : x < 0 → WGo G (tgt, L, S, σ, u) Q) (h2 : ¬ x < 0 → WGo G (nx, L, S, σ, u) Q) : WGo G (pc, L, .int x :: S, σ, u) Q := by
  by_cases h : x < 0
  · exact (h1 h).s (WStep.ifT d (tlt h).1)
  · exact (h2 h).s (WStep.ifF d (flt h).1)
theorem WGo.ltL {x y : Int64} (d : AtJ G.bytes pc (.ifCond .lt) nx tgt) (h1 : x < y → WGo G (tgt, L, S, σ, u) Q) (h2 : ¬ x < y → WGo G (nx, L, S, σ, u) Q) : WGo G (pc, L, .int (lcmpW x y) :: S, σ, u) Q := by
  exact WGo.lt0 d (fun h => h1 ((lw_lt x y).mp h)) (fun h => h2 fun q => h ((lw_lt x y).mpr q))
theorem WGo.ge {x y : Int32} (d : AtJ G.bytes pc (.if_icmp .ge) nx tgt) (h1 : ¬ x < y → WGo G (tgt, L, S, σ, u) Q) (h2 : x < y → WGo G (nx, L, S, σ, u) Q) : WGo G (pc, L, .int y :: .int x :: S, σ, u) Q := by
  by_cases h : x < y
  · exact (h2 h).s (WStep.icmpF d (tlt h).2.1)
  · exact (h1 h).s (WStep.icmpT d (flt h).2.1)
theorem WGo.le {x y : Int32} (d : AtJ G.bytes pc (.if_icmp .le) nx tgt) (h1 : ¬ y < x → WGo G (tgt, L, S, σ, u) Q) (h2 : y < x → WGo G (nx, L, S, σ, u) Q) : WGo G (pc, L, .int y :: .int x :: S, σ, u) Q := by
  by_cases h : y < x
  · exact (h2 h).s (WStep.icmpF d (tlt h).2.2.2)
  · exact (h1 h).s (WStep.icmpT d (flt h).2.2.2)
theorem WGo.eq {x y : Int32} (d : AtJ G.bytes pc (.if_icmp .eq) nx tgt) (h1 : x = y → WGo G (tgt, L, S, σ, u) Q) (h2 : ¬ x = y → WGo G (nx, L, S, σ, u) Q) : WGo G (pc, L, .int y :: .int x :: S, σ, u) Q := by
  by_cases h : x = y
  · exact (h1 h).s (WStep.icmpT d (teq h).1)
  · exact (h2 h).s (WStep.icmpF d (feq h).1)
theorem WGo.eq0 {x : Int32} (d : AtJ G.bytes pc (.ifCond .eq) nx tgt) (h1 : x = 0 → WGo G (tgt, L, S, σ, u) Q) (h2 : ¬ x = 0 → WGo G (nx, L, S, σ, u) Q) : WGo G (pc, L, .int x :: S, σ, u) Q := by
  by_cases h : x = 0
  · exact (h1 h).s (WStep.ifT d (teq h).1)
  · exact (h2 h).s (WStep.ifF d (feq h).1)
theorem WGo.eqL {x y : Int64} (d : AtJ G.bytes pc (.ifCond .eq) nx tgt) (h1 : x = y → WGo G (tgt, L, S, σ, u) Q) (h2 : ¬ x = y → WGo G (nx, L, S, σ, u) Q) : WGo G (pc, L, .int (lcmpW x y) :: S, σ, u) Q := by
  exact WGo.eq0 d (fun h => h1 ((lw_eq x y).mp h)) (fun h => h2 fun q => h ((lw_eq x y).mpr q))
theorem WGo.ne {x y : Int32} (d : AtJ G.bytes pc (.if_icmp .ne) nx tgt) (h1 : ¬ x = y → WGo G (tgt, L, S, σ, u) Q) (h2 : x = y → WGo G (nx, L, S, σ, u) Q) : WGo G (pc, L, .int y :: .int x :: S, σ, u) Q := by
  by_cases h : x = y
  · exact (h2 h).s (WStep.icmpF d (teq h).2)
  · exact (h1 h).s (WStep.icmpT d (feq h).2)
end Forks
end Jvm.Sy
namespace Jvm.Sy
open Jvm Jvm.ClassFile Sem Op Lib Jvm.Free Jvm.Stand Jvm.LawKit Jvm.RoadKit Bundle
def entL : List Value → List Slot
  | [] => []
  | v :: r => if v.category = 2 then .val v :: .second :: entL r else .val v :: entL r
def entryL (args : List Value) (maxL : Nat) : List Slot := entL args ++ List.replicate (maxL - (entL args).length) .unset
theorem fill_eq {ρ : Nat → Nat} : ∀ (args : List Value) (acc : Array Slot), (gS ρ args).foldl (fun acc v => if v.category = 2 then (acc.push (.val v)).push .second else acc.push (.val v)) acc = acc ++ ((entL args).map (gs ρ)).toArray
  | [], acc => by simp [gS, entL]
  | v :: r, acc => by
    have ih := fill_eq (ρ := ρ) r
    simp only [gS, List.map_cons, List.foldl_cons, cat_gv] at ih ⊢
    rw [ih]
    by_cases q : v.category = 2
    · simp [entL, q, gs]
    · simp [entL, q, gs]
theorem entry_eq {ρ : Nat → Nat} (args : List Value) (maxL : Nat) : argsToLocals (gS ρ args).toArray maxL = gL ρ (entryL args maxL) := by
  have h := fill_eq (ρ := ρ) args #[]
  simp only [argsToLocals, List.foldl_toArray', List.size_toArray] at *
  rw [h]
  simp [gL, entryL, gs]
theorem entryF_eq {ρ : Nat → Nat} (m : MethodId) (args : List Value) (maxL : Nat) : entryFrame m (gS ρ args).toArray maxL = mkF m 0 (gL ρ (entryL args maxL)) [] := by
  show ({ method := m, pc := 0, locals := argsToLocals _ maxL, stack := [], locked := none } : JFrame) = _
  rw [entry_eq]
section Ret
variable {G : WMC} {pc nx u : Nat} {L : List Slot} {S : List Value} {σ : WHp} {Q : Option Value → WHp → Nat → Prop}
theorem WRun.of {v : Option Value} {A : WCfg} (h0 : G.ret = none → v = none)
    (h : ∀ {p : Program} {l : Launch} {e : Env} {R : Room} {s : State} {m : MethodId} {args : Array Value} {below : List Frame} {meth : Method} {c : Code} {T : State} {locs : List Loc} {ce sl : Nat}, WCtx G p R s m meth c → Stand p l e R s m args below meth c T locs ce sl →
      ∀ fs, (∀ (f : JFrame) (acts : List Action), f.method = m → f.locked = none → f.entered = [] → (doReturn e (T.setTop f) acts (v.map (gv G.ρ))).1 = T.setFrames fs) → Steps p.tables e below (T.setTop (frm G m A)) (T.setFrames fs)) :
    WRun G A v A.2.2.2.1 A.2.2.2.2 := by
  refine ⟨Nat.le_refl _, Nat.le_refl _, h0, fun p l e R s m args below meth c hC hc hs T hT => ⟨T, hT, fun fs hr => ?_⟩⟩
  obtain ⟨locs, ce, sl, h1, h2, X, D, N⟩ := hT
  exact h hC X fs hr
theorem WGo.ireturn (t : FieldType) {z : Int32} (d : AtI G.bytes pc .ireturn 1 nx) (hret : G.ret = some t) (ht : t = .int ∨ t = .boolean ∨ t = .byte ∨ t = .char ∨ t = .short) (q : Q (some (narrow t (.int z))) σ u) : WGo G (pc, L, .int z :: S, σ, u) Q := by
  refine ⟨_, _, _, q, WRun.of (A := (pc, L, .int z :: S, σ, u)) (fun h => by rw [hret] at h; cases h) fun hC X fs hr => ?_⟩
  have hm := hC.2.2.2.2.2.1.trans hret
  rcases ht with rfl | ht
  · exact retOut X hC.1 hm rfl (Or.inl ⟨rfl, Or.inl rfl, _, rfl⟩) (hb hC.2.1 d.1) hr
  · have hn : narrow t (.int z) = .int (nar t z) := by rcases ht with rfl | rfl | rfl | rfl <;> rfl
    rw [hn] at hr
    exact retN X hC.1 hm ht (hb hC.2.1 d.1) hr
theorem WGo.lreturn {z : Int64} (d : AtI G.bytes pc .lreturn 1 nx) (hret : G.ret = some .long) (q : Q (some (.long z)) σ u) : WGo G (pc, L, .long z :: S, σ, u) Q := by
  refine ⟨_, _, _, q, WRun.of (A := (pc, L, .long z :: S, σ, u)) (fun h => by rw [hret] at h; cases h) fun hC X fs hr => ?_⟩
  exact retOut X hC.1 (hC.2.2.2.2.2.1.trans hret) rfl (Or.inr (Or.inl ⟨rfl, rfl, _, rfl⟩)) (hb hC.2.1 d.1) hr
theorem WGo.areturn (t : FieldType) {z : Value} (d : AtI G.bytes pc .areturn 1 nx) (hret : G.ret = some t) (ht : t.isReference = true) (hz : z.isRef = true) (q : Q (some z) σ u) : WGo G (pc, L, z :: S, σ, u) Q := by
  refine ⟨_, _, _, q, WRun.of (A := (pc, L, z :: S, σ, u)) (fun h => by rw [hret] at h; cases h) fun hC X fs hr => ?_⟩
  refine retOut X hC.1 (hC.2.2.2.2.2.1.trans hret) ?_ (Or.inr (Or.inr (Or.inr (Or.inr ⟨rfl, ht, isRef_gv.trans hz⟩)))) (hb hC.2.1 d.1) hr
  cases t <;> first | rfl | cases ht
theorem WGo.vreturn (d : AtI G.bytes pc .return_ 1 nx) (hret : G.ret = none) (q : Q none σ u) : WGo G (pc, L, [], σ, u) Q := by
  refine ⟨_, _, _, q, WRun.of (A := (pc, L, [], σ, u)) (fun _ => rfl) fun hC X fs hr => ?_⟩
  exact X.returnOut hC.1 (hC.2.2.2.2.2.1.trans hret) (hb hC.2.1 d.1) hr
end Ret
theorem met_of {l : Launch} {G : WMC} {y : MethodName} {argsL : List Value} {σ σ' : WHp} {u u' : Nat} {v : Option Value} {ws : List Jvm.Cond} {h : Heap}
    (hy1 : G.own = y.cls) (hy2 : G.nm = y.name) (hj : G.j0 = σ.length) (hu : G.u0 = u) (hpl : plainFor y = true) (hρ : ∀ k, k < 1000 → G.ρ k = G.n0 + k) (hinj : ∀ i j, G.ρ i = G.ρ j → i = j)
    (H : WRun G (0, entryL argsL G.ml, [], σ, u) v σ' u') (D : WDen G.Z G.ρ G.n0 σ h) (RM : Room) (hR1 : G.fr ≤ RM.frames) (hR2 : σ'.length - σ.length ≤ RM.cells) (hR3 : u' - u ≤ RM.slots) (hR4 : G.lo ≤ RM.locals) :
    MetFree l y (head1 (Jvm.Cond.code y G.bytes G.ml G.ret :: ws) RM) (fun a U => a = (gS G.ρ argsL).toArray ∧ G.Z.Warmed39 U.vm ∧ U.heap = h) (fun _ _ _ _ _ => True)
      (fun _ U o U' => ∃ w L, o = .returned w ∧ (w = v.map (gv G.ρ) ∧ Fr G.n0 L ∧ WDen G.Z G.ρ G.n0 σ' U'.heap) ∧ FrameEnd U o U' L (σ'.length - σ.length) (u' - u)) := by
  refine MetFree.of_bodySF hpl hisR ?_
  intro p e s m args below meth c s₁ Bd hml0 hP hK
  obtain ⟨rfl, hZ, hh⟩ := hP
  have X0 : Stand p l e RM s m (gS G.ρ argsL).toArray below meth c s₁ [] 0 0 := Stand.of_body Bd
  have e0 : s₁.heap = h := by rw [← hh, Bd.state]; rfl
  obtain ⟨a1, a2, a0, a3⟩ := H
  have a1' : σ.length ≤ σ'.length := a1
  have a2' : u ≤ u' := a2
  obtain ⟨T', ⟨locs, ce, sl, q1, q2, X, D', N⟩, st⟩ := a3 p l e RM s m _ below meth c ⟨Bd.exec, Bd.bytes, hZ, by rw [hy1]; exact findClass_of_methodNamed Bd.named, (name_of_methodNamed Bd.named Bd.method).1.trans hy2.symm, Bd.returns, hml0, by rw [hh, hj]; exact D.1, hρ, hinj, hR1, hR4⟩ (by omega) (by omega) s₁ ⟨[], 0, 0, hj.symm, hu.symm, X0, by rw [e0]; exact D, Fr.nil _⟩
  obtain ⟨fs, hr, hrun, hended, hW, hsame⟩ := X.leave (v := v.map (gv G.ρ)) (fun hn => by rw [a0 (Bd.returns ▸ hn)]; rfl)
  refine ⟨_, _, ?_, hrun, hended, _, _, rfl, ⟨rfl, N, D'⟩, ⟨_, rfl⟩, hW, hsame.mono (by omega) (by omega)⟩
  rw [entryF_eq]
  exact st fs hr
def WCallee (Z : State) (a0 : Array Value) (y : MethodName) (Gc : WMC) (n : Nat) : Prop :=
  plainFor y = true ∧ (y.cls ≠ "java/lang/invoke/MethodHandle" ∧ y.cls ≠ "java/lang/invoke/VarHandle") ∧ Gc.own = y.cls ∧ Gc.nm = y.name ∧ Gc.Z = Z ∧ (Jvm.Cond.initialized y.cls).before a0 Z = true ∧ (Jvm.Cond.code y Gc.bytes Gc.ml Gc.ret).before a0 Z = true ∧ (∀ sig, parseMethodDescriptor y.desc = some sig → n = sig.parameters.length)
theorem backFor {p : Program} {l : Launch} {e : Env} {R : Room} {s : State} {args : Array Value} {below : List Frame} {Gc : WMC} {y : MethodName} {a0 : Array Value} {argsL : List Value} {σ σ' : WHp} {u u' W n : Nat} {v : Option Value} {h : Heap}
    (C : WCallee Gc.Z a0 y Gc n) (hj : Gc.j0 = σ.length) (hu : Gc.u0 = u) (hρ : ∀ k, k < 1000 → Gc.ρ k = Gc.n0 + k) (hinj : ∀ i j, Gc.ρ i = Gc.ρ j → i = j)
    (H : WRun Gc (0, entryL argsL Gc.ml, [], σ, u) v σ' u') (D : WDen Gc.Z Gc.ρ Gc.n0 σ h) (hZ : Gc.Z.Warmed39 s.vm) (hf : Gc.fr + 1 ≤ R.frames) (hl : W + (Gc.ml + 11) + Gc.lo ≤ R.locals) :
    Back l R p e below s args y 3 W (fun A a => a = (gS Gc.ρ argsL).toArray ∧ A.U.heap = h ∧ A.cells + (σ'.length - σ.length) ≤ R.cells ∧ A.slots + (u' - u) ≤ R.slots)
      (fun A _ w B => ∃ L, (w = v.map (gv Gc.ρ) ∧ Fr Gc.n0 L ∧ WDen Gc.Z Gc.ρ Gc.n0 σ' B.U.heap) ∧ B.locs = A.locs ++ L ∧ B.cells = A.cells + (σ'.length - σ.length) ∧ B.slots = A.slots + (u' - u)) :=
  backOf (rm := { frames := Gc.fr, cells := σ'.length - σ.length, slots := u' - u, locals := Gc.lo }) (Q := fun w h' L => w = v.map (gv Gc.ρ) ∧ Fr Gc.n0 L ∧ WDen Gc.Z Gc.ρ Gc.n0 σ' h') (met_of C.2.2.1 C.2.2.2.1 hj hu C.1 hρ hinj H D _ (Nat.le_refl _) (Nat.le_refl _) (Nat.le_refl _) (Nat.le_refl _)) hZ C.2.2.2.2.2.2.1 C.2.2.2.2.2.1 hf hl
theorem toL {ρ : Nat → Nat} (v : Option Value) (S : List Value) : gS ρ (v.toList ++ S) = (v.map (gv ρ)).toList ++ gS ρ S := by cases v <;> rfl
section Calls
variable {G Gc : WMC} {pc nx u idx n : Nat} {L : List Slot} {S Sf argsL : List Value} {σ : WHp} {Q Qc : Option Value → WHp → Nat → Prop} {y : MethodName} {a0 : Array Value}
theorem WGo.callS (d : AtI G.bytes pc (.invokestatic idx) 3 nx) (C : WCallee G.Z a0 y Gc n) (wl : (Jvm.Cond.methodLink G.own idx y).before a0 G.Z = true) (ws : (Jvm.Cond.static y).before a0 G.Z = true)
    (H : WGo Gc (0, entryL argsL Gc.ml, [], σ, u) Qc) (hG : Gc.1 = G.1) (hj : Gc.j0 = σ.length) (hu : Gc.u0 = u) (hn : argsL.length = n) (hS : Sf = argsL.reverse ++ S) (hL : L.length = G.ml) (hf : Gc.fr + 1 ≤ G.fr) (hl : (S.map Value.category).sum + (Gc.ml + 11) + Gc.lo ≤ G.lo)
    (K : ∀ v σ' u', Qc v σ' u' → WGo G (nx, L, v.toList ++ S, σ', u') Q) : WGo G (pc, L, Sf, σ, u) Q := by
  obtain ⟨v, σ', u', q, r⟩ := H
  refine (K v σ' u' q).s ?_
  have m1 : σ.length ≤ σ'.length := r.1
  have m2 : u ≤ u' := r.2.1
  refine ⟨m1, m2, fun p l e R s m args below meth c hC hc hs T hT => ?_⟩
  obtain ⟨hx, hby, hZ, hown, hnm, hret, hml, hs0, hρ, hinj, hfr, hlo⟩ := hC
  obtain ⟨locs, ce, sl, h1, h2, X, D, N⟩ := hT
  have eZ : Gc.Z = G.Z := congrArg (·.1) hG
  have eρ : Gc.ρ = G.ρ := congrArg (·.2.1) hG
  have en : Gc.n0 = G.n0 := congrArg (·.2.2) hG
  have h1' : σ.length = G.j0 + ce := h1
  have h2' : u = G.u0 + sl := h2
  have hc' : σ'.length ≤ G.j0 + R.cells := hc
  have hs' : u' ≤ G.u0 + R.slots := hs
  have Bk := backFor (p := p) (l := l) (e := e) (R := R) (s := s) (args := args) (below := below) (W := (S.map Value.category).sum) (eZ ▸ C) hj hu (by rw [eρ, en]; exact hρ) (by rw [eρ]; exact hinj) r (by rw [eZ, eρ, en]; exact D) (by rw [eZ]; exact hZ) (Nat.le_trans hf hfr) (Nat.le_trans hl hlo)
  obtain ⟨C1, C2, C3, C4, C5, C6, C7, C8⟩ := C
  rw [eρ, en, eZ] at Bk
  obtain ⟨w, vm1, ⟨T', L', k', n'⟩, -, X', ⟨Lc, ⟨hw', N', D'⟩, l', y', z'⟩, st⟩ := Jvm.LawKit.callS X hx (y := y) hown (mvT hZ wl) (mvT hZ ws) (mvT hZ C6) (mvT hZ C7) C2 Bk (g := frm G m (pc, L, Sf, σ, u)) rfl (by show (gL _ L).size = _; rw [gL_size, hL, hml]) (argsL := gS G.ρ argsL) (rest := gS G.ρ S)
    (fun sig hsig => by rw [← C8 sig hsig, ← hn]; simp [gS]) (by show gS _ Sf = _; rw [hS]; simp [gS]) (by rw [sum_gS]; show 2 * 0 + _ ≤ _; omega) (hb hby d.1) (fun _ _ => ⟨rfl, rfl, by show ce + _ ≤ _; omega, by show sl + _ ≤ _; omega⟩)
  dsimp only [Pt.U, Pt.locs, Pt.cells, Pt.slots] at X' l' y' z' st D'
  subst l' y' z' hw'
  refine ⟨T', ⟨_, _, _, ?_, ?_, X', D', N.app N'⟩, fun t k => st t ?_⟩
  · show σ'.length = _; omega
  · show u' = _; omega
  · rw [← toL]
    have := d.2
    subst this
    exact k
theorem WGo.callI {k : Nat} (d : AtI G.bytes pc (.invokespecial idx) 3 nx) (C : WCallee G.Z a0 y Gc n) (hi : y.name = "<init>") (hr : Gc.ret = none) (wl : (Jvm.Cond.methodLink G.own idx y).before a0 G.Z = true) (ws : (Jvm.Cond.instanceMethod y).before a0 G.Z = true) (hk : k < 1000)
    (H : WGo Gc (0, entryL (.ref k :: argsL) Gc.ml, [], σ, u) Qc) (hG : Gc.1 = G.1) (hj : Gc.j0 = σ.length) (hu : Gc.u0 = u) (hn : argsL.length = n) (hS : Sf = argsL.reverse ++ .ref k :: S) (hL : L.length = G.ml) (hf : Gc.fr + 1 ≤ G.fr) (hl : (S.map Value.category).sum + (Gc.ml + 11) + Gc.lo ≤ G.lo)
    (K : ∀ v σ' u', Qc v σ' u' → WGo G (nx, L, v.toList ++ S, σ', u') Q) : WGo G (pc, L, Sf, σ, u) Q := by
  obtain ⟨v, σ', u', q, r⟩ := H
  refine (K v σ' u' q).s ?_
  have m1 : σ.length ≤ σ'.length := r.1
  have m2 : u ≤ u' := r.2.1
  refine ⟨m1, m2, fun p l e R s m args below meth c hC hc hs T hT => ?_⟩
  obtain ⟨hx, hby, hZ, hown, hnm, hret, hml, hs0, hρ, hinj, hfr, hlo⟩ := hC
  obtain ⟨locs, ce, sl, h1, h2, X, D, N⟩ := hT
  have eZ : Gc.Z = G.Z := congrArg (·.1) hG
  have eρ : Gc.ρ = G.ρ := congrArg (·.2.1) hG
  have en : Gc.n0 = G.n0 := congrArg (·.2.2) hG
  have h1' : σ.length = G.j0 + ce := h1
  have h2' : u = G.u0 + sl := h2
  have hc' : σ'.length ≤ G.j0 + R.cells := hc
  have hs' : u' ≤ G.u0 + R.slots := hs
  have Bk := backFor (p := p) (l := l) (e := e) (R := R) (s := s) (args := args) (below := below) (W := (S.map Value.category).sum) (eZ ▸ C) hj hu (by rw [eρ, en]; exact hρ) (by rw [eρ]; exact hinj) r (by rw [eZ, eρ, en]; exact D) (by rw [eZ]; exact hZ) (Nat.le_trans hf hfr) (Nat.le_trans hl hlo)
  obtain ⟨C1, C2, C3, C4, C5, C6, C7, C8⟩ := C
  rw [hr] at C7
  rw [eρ, en, eZ] at Bk
  obtain ⟨w, vm1, ⟨T', L', k', n'⟩, -, X', ⟨Lc, ⟨hw', N', D'⟩, l', y', z'⟩, st⟩ := X.specialBack hx (y := y) hi hown (mvT hZ wl) (mvT hZ ws) (mvT hZ C7) C2 Bk (g := frm G m (pc, L, Sf, σ, u)) rfl (by show (gL _ L).size = _; rw [gL_size, hL, hml]) (Steps.refl _) (a := G.ρ k) (argsL := gS G.ρ argsL) (rest := gS G.ρ S)
    (fun sig hsig => by rw [← C8 sig hsig, ← hn]; simp [gS]) (by show gS _ Sf = _; rw [hS]; simp [gS, gv]) (by rw [sum_gS]; show 2 * 0 + _ ≤ _; omega) (hb hby d.1) (fun _ _ => ⟨rfl, rfl, by show ce + _ ≤ _; omega, by show sl + _ ≤ _; omega⟩)
  dsimp only [Pt.U, Pt.locs, Pt.cells, Pt.slots] at X' l' y' z' st D'
  subst l' y' z' hw'
  refine ⟨T', ⟨_, _, _, ?_, ?_, X', D', N.app N'⟩, fun t k => st.trans ?_⟩
  · show σ'.length = _; omega
  · show u' = _; omega
  · rw [← toL]
    have := d.2
    subst this
    exact k
theorem WGo.callV {k : Nat} {Cn : String} {fs : List (WKey × Value)} {z : MethodName} (d : AtI G.bytes pc (.invokevirtual idx) 3 nx) (C : WCallee G.Z a0 y Gc n) (hz : z.desc = y.desc ∧ (z.cls ≠ "java/lang/invoke/MethodHandle" ∧ z.cls ≠ "java/lang/invoke/VarHandle")) (wl : (Jvm.Cond.methodLink G.own idx z).before a0 G.Z = true) (wd : (Jvm.Cond.declares z).before a0 G.Z = true) (hnf : ∀ s, G.Z.Warmed39 s.vm → NotFace s z) (wsel : (Jvm.Cond.selects Cn z y).before a0 G.Z = true) (ws : (Jvm.Cond.instanceMethod y).before a0 G.Z = true) (hk : σ[k]? = some (.inr (Cn, fs)))
    (H : WGo Gc (0, entryL (.ref k :: argsL) Gc.ml, [], σ, u) Qc) (hG : Gc.1 = G.1) (hj : Gc.j0 = σ.length) (hu : Gc.u0 = u) (hn : argsL.length = n) (hS : Sf = argsL.reverse ++ .ref k :: S) (hL : L.length = G.ml) (hf : Gc.fr + 1 ≤ G.fr) (hl : (S.map Value.category).sum + (Gc.ml + 11) + Gc.lo ≤ G.lo)
    (K : ∀ v σ' u', Qc v σ' u' → WGo G (nx, L, v.toList ++ S, σ', u') Q) : WGo G (pc, L, Sf, σ, u) Q := by
  obtain ⟨v, σ', u', q, r⟩ := H
  refine (K v σ' u' q).s ?_
  have m1 : σ.length ≤ σ'.length := r.1
  have m2 : u ≤ u' := r.2.1
  refine ⟨m1, m2, fun p l e R s m args below meth c hC hc hs T hT => ?_⟩
  obtain ⟨hx, hby, hZ, hown, hnm, hret, hml, hs0, hρ, hinj, hfr, hlo⟩ := hC
  obtain ⟨locs, ce, sl, h1, h2, X, D, N⟩ := hT
  have eZ : Gc.Z = G.Z := congrArg (·.1) hG
  have eρ : Gc.ρ = G.ρ := congrArg (·.2.1) hG
  have en : Gc.n0 = G.n0 := congrArg (·.2.2) hG
  have h1' : σ.length = G.j0 + ce := h1
  have h2' : u = G.u0 + sl := h2
  have hc' : σ'.length ≤ G.j0 + R.cells := hc
  have hs' : u' ≤ G.u0 + R.slots := hs
  have Bk := backFor (p := p) (l := l) (e := e) (R := R) (s := s) (args := args) (below := below) (W := (S.map Value.category).sum) (eZ ▸ C) hj hu (by rw [eρ, en]; exact hρ) (by rw [eρ]; exact hinj) r (by rw [eZ, eρ, en]; exact D) (by rw [eZ]; exact hZ) (Nat.le_trans hf hfr) (Nat.le_trans hl hlo)
  obtain ⟨C1, C2, C3, C4, C5, C6, C7, C8⟩ := C
  rw [eρ, en, eZ] at Bk
  have hE : Exa G.Z T.heap (G.n0 + k) Cn := (D.2.2 k _ hk).1
  rw [← hρ k (D.lt hk)] at hE
  obtain ⟨cq, kq, qa, qb, qc⟩ := isOf hZ rfl hE
  obtain ⟨w, vm1, ⟨T', L', k', n'⟩, -, X', ⟨Lc, ⟨hw', N', D'⟩, l', y', z'⟩, st⟩ := X.virtualBack hx (y := z) (z := y) hown (mvT hZ wl) (mvT hZ wd) (hnf s hZ) (mvT hZ wsel) (mvT hZ ws) hz.2 Bk qa qc (g := frm G m (pc, L, Sf, σ, u)) rfl (by show (gL _ L).size = _; rw [gL_size, hL, hml]) (Steps.refl _) (argsL := gS G.ρ argsL) (rest := gS G.ρ S)
    (fun sig hsig => by rw [hz.1] at hsig; rw [← C8 sig hsig, ← hn]; simp [gS]) (by show gS _ Sf = _; rw [hS]; simp [gS, gv]) (by rw [sum_gS]; show 2 * 0 + _ ≤ _; omega) (hb hby d.1) (fun _ _ => ⟨rfl, rfl, by show ce + _ ≤ _; omega, by show sl + _ ≤ _; omega⟩)
  dsimp only [Pt.U, Pt.locs, Pt.cells, Pt.slots] at X' l' y' z' st D'
  subst l' y' z' hw'
  refine ⟨T', ⟨_, _, _, ?_, ?_, X', D', N.app N'⟩, fun t k => st.trans ?_⟩
  · show σ'.length = _; omega
  · show u' = _; omega
  · rw [← toL]
    have := d.2
    subst this
    exact k
end Calls
end Jvm.Sy
namespace Jvm.Sy
open Jvm Jvm.ClassFile Sem Op Lib Jvm.Free Jvm.Stand Jvm.LawKit Jvm.RoadKit Bundle
def LaidAll (Z : State) (a0 : Array Value) (C : String) : List (WKey × Value) → Prop
  | [] => True
  | f :: r => (Laid Z a0 C f.1.1 f.1.2.1 f.1.2.2 ∧ ∃ ty, parseFieldDescriptor f.1.2.2 = some ty ∧ f.2 = defaultValue ty) ∧ LaidAll Z a0 C r
theorem LaidAll.at {Z : State} {a0 : Array Value} {C : String} : ∀ {fs : List (WKey × Value)}, LaidAll Z a0 C fs → ∀ {i : Nat} {f : WKey × Value}, fs[i]? = some f → Laid Z a0 C f.1.1 f.1.2.1 f.1.2.2 ∧ ∃ ty, parseFieldDescriptor f.1.2.2 = some ty ∧ f.2 = defaultValue ty
  | [], _, i, f, h => by simp at h
  | g :: r, H, 0, f, h => by simp at h; subst h; exact H.1
  | g :: r, H, i + 1, f, h => LaidAll.at H.2 (i := i) (by simpa using h)
section HeapOps
variable {G : WMC} {pc nx tgt u idx k i n : Nat} {L : List Slot} {S : List Value} {σ : WHp} {a0 : Array Value} {v w : Value} {j : Int32} {vs : List Value} {ty : FieldType} {fs : List (WKey × Value)} {C O nm dd K : String}
theorem WStep.ldc2 {z : Int64} (d : AtI G.bytes pc (.ldc2_w idx) 3 nx) (wd : (Jvm.Cond.constantLong G.own idx z).before a0 G.Z = true) : WStep G (pc, L, S, σ, u) (nx, L, .long z :: S, σ, u) := by
  refine ⟨Nat.le_refl _, Nat.le_refl _, fun p l e R s m args below meth c hC hc hs T hT => ?_⟩
  obtain ⟨hx, hby, hZ, hown, hnm, hret, hml, hs0, hρ, hinj, hfr, hlo⟩ := hC
  obtain ⟨locs, ce, sl, h1, h2, X, D, N⟩ := hT
  obtain ⟨d, rfl⟩ := d
  exact ⟨T, ⟨locs, ce, sl, h1, h2, X, D, N⟩, X.ldc2Long hx hown (mvT hZ wd) (g := frm G m (pc, L, S, σ, u)) rfl (hb hby d)⟩
theorem WStep.initO (d : AtI G.bytes pc (.invokespecial idx) 3 nx) (w1 : (Jvm.Cond.methodLink G.own idx Lib.objectInit).before a0 G.Z = true) (w2 : (Jvm.Cond.instanceMethod Lib.objectInit).before a0 G.Z = true) (w3 : (Jvm.Cond.code Lib.objectInit ⟨#[0xb1]⟩ 1 none).before a0 G.Z = true)
    (hL : L.length = G.ml) (hf : 1 ≤ G.fr) (hl : (S.map Value.category).sum + 12 ≤ G.lo) : WStep G (pc, L, .ref k :: S, σ, u) (nx, L, S, σ, u) := by
  refine ⟨Nat.le_refl _, Nat.le_refl _, fun p l e R s m args below meth c hC hc hs T hT => ?_⟩
  obtain ⟨hx, hby, hZ, hown, hnm, hret, hml, hs0, hρ, hinj, hfr, hlo⟩ := hC
  obtain ⟨locs, ce, sl, h1, h2, X, D, N⟩ := hT
  obtain ⟨d, rfl⟩ := d
  obtain ⟨T', X', e', st⟩ := RoadKit.initO X hx hZ hown w1 w2 w3 rfl (g := frm G m (pc, L, .ref k :: S, σ, u)) rfl (by show (gL _ L).size = _; rw [gL_size, hL, hml]) rfl (hb hby d) (Nat.le_trans hf hfr) (W := (S.map Value.category).sum) (by have := sum_gS (ρ := G.ρ) S; unfold gS at this; rw [this]; show 2 * 0 + _ ≤ _; omega) (Nat.le_trans hl hlo)
  exact ⟨T', ⟨locs, ce, sl, h1, h2, X', by rw [e']; exact D, N⟩, st⟩
theorem WStep.getF (i : Nat) (d : AtI G.bytes pc (.getfield idx) 3 nx) (wd : (Jvm.Cond.fieldLink G.own idx O nm dd).before a0 G.Z = true) (hk : σ[k]? = some (.inr (C, fs))) (hi : fs[i]? = some ((O, nm, dd), v)) : WStep G (pc, L, .ref k :: S, σ, u) (nx, L, v :: S, σ, u) := by
  refine ⟨Nat.le_refl _, Nat.le_refl _, fun p l e R s m args below meth c hC hc hs T hT => ?_⟩
  obtain ⟨hx, hby, hZ, hown, hnm, hret, hml, hs0, hρ, hinj, hfr, hlo⟩ := hC
  obtain ⟨locs, ce, sl, h1, h2, X, D, N⟩ := hT
  obtain ⟨d, rfl⟩ := d
  have hko : ObjOk G.Z G.ρ T.heap (G.n0 + k) C fs := D.2.2 k _ hk
  have F := hko.2.1 i _ _ _ _ hi
  rw [← hρ k (D.lt hk)] at F
  obtain ⟨T', X', e', st⟩ := RoadKit.getF X hx hZ hown (host := "") (Or.inl wd) Via.refl rfl F (g := frm G m (pc, L, .ref k :: S, σ, u)) rfl rfl (hb hby d)
  exact ⟨T', ⟨locs, ce, sl, h1, h2, X', by rw [e']; exact D, N⟩, st⟩
theorem WStep.putF (i : Nat) (v' : Value) (d : AtI G.bytes pc (.putfield idx) 3 nx) (wd : (Jvm.Cond.fieldLink G.own idx O nm dd).before a0 G.Z = true) (hk : σ[k]? = some (.inr (C, fs))) (hi : fs[i]? = some ((O, nm, dd), w))
    (hlay : (Jvm.Cond.lays C O nm dd).before a0 G.Z = true ∨ ((Jvm.Cond.laysFinal C O nm dd).before a0 G.Z = true ∧ G.own = O ∧ G.nm = "<init>")) (wi : (Jvm.Cond.instantiable C n).before a0 G.Z = true) (hty : parseFieldDescriptor dd = some ty) (hn : narrow ty v = v') (hf : fits ty v' = true) :
    WStep G (pc, L, v :: .ref k :: S, σ, u) (nx, L, S, σ.set k (.inr (C, fs.set i ((O, nm, dd), v'))), u) := by
  refine ⟨by simp, Nat.le_refl _, fun p l e R s m args below meth c hC hc hs T hT => ?_⟩
  obtain ⟨hx, hby, hZ, hown, hnm, hret, hml, hs0, hρ, hinj, hfr, hlo⟩ := hC
  obtain ⟨locs, ce, sl, h1, h2, X, D, N⟩ := hT
  obtain ⟨d, rfl⟩ := d
  have hko : ObjOk G.Z G.ρ T.heap (G.n0 + k) C fs := D.2.2 k _ hk
  obtain ⟨E, Fs, hNe⟩ := hko
  have F := Fs i _ _ _ _ hi
  have hρk := hρ k (D.lt hk)
  obtain ⟨T', h', X', e', W, st⟩ := putFN X hx hZ hown (v := gv G.ρ v) (v' := gv G.ρ v') wd Via.refl rfl F E (hlay.imp id fun q => ⟨q.1, q.2.1, hnm.trans q.2.2⟩) wi hty (by rw [narrow_gv, hn]) (by rw [fits_gv, hf]) (g := frm G m (pc, L, v :: .ref k :: S, σ, u)) rfl (by show gv _ v :: Value.ref (G.ρ k) :: _ = _; rw [hρk]) (hb hby d)
  subst e'
  refine ⟨T', ⟨_, ce, sl, by simpa using h1, h2, X', D.put W ?_, N.app fun y hy => by cases List.mem_singleton.mp hy; exact Nat.le_add_right _ _⟩, st⟩
  have hlt := (List.getElem?_eq_some_iff.mp hi).1
  refine ⟨E.wr W, fun i' O' n' d' y hy => ?_, fun i1 i2 k1 k2 v1 v2 ne q1 q2 => ?_⟩
  · by_cases q : i' = i
    · subst q
      rw [List.getElem?_set_self hlt] at hy
      cases hy
      exact F.same W
    · rw [List.getElem?_set_ne (Ne.symm q)] at hy
      have hne : RoadKit.slotOf G.Z O' n' d' ≠ RoadKit.slotOf G.Z O nm dd := hNe i' i (O', n', d') (O, nm, dd) y w q hy hi
      exact (Fs i' O' n' d' y hy).other W (Or.inr hne)
  · have key : ∀ {i' : Nat} {k' : WKey} {v' : Value}, (fs.set i ((O, nm, dd), v'))[i']? = some (k', v1) → ∃ v'', fs[i']? = some (k', v'') := by
      intro i' k' v' hh
      by_cases q : i' = i
      · subst q
        rw [List.getElem?_set_self hlt] at hh
        cases hh
        exact ⟨_, hi⟩
      · rw [List.getElem?_set_ne (fun z => q z.symm)] at hh
        exact ⟨_, hh⟩
    have key2 : ∀ {i' : Nat} {k' : WKey} {v' : Value}, (fs.set i ((O, nm, dd), v'))[i']? = some (k', v2) → ∃ v'', fs[i']? = some (k', v'') := by
      intro i' k' v' hh
      by_cases q : i' = i
      · subst q
        rw [List.getElem?_set_self hlt] at hh
        cases hh
        exact ⟨_, hi⟩
      · rw [List.getElem?_set_ne (fun z => q z.symm)] at hh
        exact ⟨_, hh⟩
    obtain ⟨_, r1⟩ := key q1
    obtain ⟨_, r2⟩ := key2 q2
    exact hNe i1 i2 _ _ _ _ ne r1 r2
theorem WStep.newO (fs : List (WKey × Value)) (d : AtI G.bytes pc (.new idx) 3 nx) (w1 : (Jvm.Cond.classLink G.own idx C).before a0 G.Z = true) (w2 : (Jvm.Cond.instantiable C n).before a0 G.Z = true) (w3 : (Jvm.Cond.initialized C).before a0 G.Z = true)
    (hfs : LaidAll G.Z a0 C fs) (hnd : (fs.map fun f => f.1.2.1).Nodup) (hlen : σ.length = k) (hk : k < 1000) : WStep G (pc, L, S, σ, u) (nx, L, .ref k :: S, σ ++ [.inr (C, fs)], u + n) := by
  refine ⟨by simp, Nat.le_add_right _ _, fun p l e R s m args below meth c hC hc hs T hT => ?_⟩
  obtain ⟨hx, hby, hZ, hown, hnm, hret, hml, hs0, hρ, hinj, hfr, hlo⟩ := hC
  obtain ⟨locs, ce, sl, h1, h2, X, D, N⟩ := hT
  obtain ⟨d, rfl⟩ := d
  subst hlen
  have h1' : σ.length = G.j0 + ce := h1
  have h2' : u = G.u0 + sl := h2
  have hc' : σ.length + 1 ≤ G.j0 + R.cells := by simpa using hc
  have hs' : u + n ≤ G.u0 + R.slots := hs
  have eS : T.heap.size = G.n0 + σ.length := D.1
  obtain ⟨T', h', X', e', E, A, Dv, -, st⟩ := RoadKit.newO X hx hZ hown w1 w2 w3 rfl (g := frm G m (pc, L, S, σ, u)) rfl (hb hby d) (by omega) (by omega)
  subst e'
  have hsz : T'.heap.size = T.heap.size + 1 := by
    have a1 := X'.heapSize
    have a2 : T.heap.size < T'.heap.size := A.lt
    have a3 : s.heap.size = G.n0 + G.j0 := hs0
    omega
  rw [eS] at A Dv
  have eρ : G.ρ σ.length = T.heap.size := by rw [hρ _ hk, eS]
  refine ⟨T', ⟨locs, ce + 1, sl + n, by simp; omega, by show u + n = _; omega, X', D.push E hsz hk ⟨A, fun i O' n' d' y hy => ?_, fun i1 i2 k1 k2 v1 v2 ne q1 q2 => ?_⟩, N⟩, fun t kt => st t ?_⟩
  · obtain ⟨LL, ty, p1, p2⟩ := hfs.at hy
    have := Dv LL p1
    dsimp only at p2
    rw [p2, dv_gv]
    exact this
  · obtain ⟨LL, ty, p1, p2⟩ := hfs.at q1
    obtain ⟨LL', ty', p1', p2'⟩ := hfs.at q2
    refine slot_ne LL LL' (fun e => ne ?_) p1 p1'
    have b1 := (List.getElem?_eq_some_iff.mp q1).1
    have b2 := (List.getElem?_eq_some_iff.mp q2).1
    refine (List.getElem?_inj (l := fs.map fun f => f.1.2.1) (i := i1) (j := i2) (by simpa using b1) hnd).mp ?_
    rw [List.getElem?_map, List.getElem?_map, q1, q2]
    exact congrArg some e
  · rw [← eρ]; exact kt
theorem WStep.newR (n : Int32) (m : Nat) (d : AtI G.bytes pc (.anewarray idx) 3 nx) (w1 : (Jvm.Cond.classLink G.own idx C).before a0 G.Z = true) (w2 : (Jvm.Cond.arrayOver (.object C)).before a0 G.Z = true) (hn : ¬ n < 0) (hm : n.toNatClampNeg = m) (hb8 : m * 8 ≤ 536870912) (hlen : σ.length = k) (hk : k < 1000) :
    WStep G (pc, L, .int n :: S, σ, u) (nx, L, .ref k :: S, σ ++ [.inl (.object C, List.replicate m .null)], u + m) := by
  refine ⟨by simp, Nat.le_add_right _ _, fun p l e R s me args below meth c hC hc hs T hT => ?_⟩
  obtain ⟨hx, hby, hZ, hown, hnm, hret, hml, hs0, hρ, hinj, hfr, hlo⟩ := hC
  obtain ⟨locs, ce, sl, h1, h2, X, D, N⟩ := hT
  obtain ⟨d, rfl⟩ := d
  subst hlen
  have h1' : σ.length = G.j0 + ce := h1
  have h2' : u = G.u0 + sl := h2
  have hc' : σ.length + 1 ≤ G.j0 + R.cells := by simpa using hc
  have hs' : u + m ≤ G.u0 + R.slots := hs
  have eS : T.heap.size = G.n0 + σ.length := D.1
  obtain ⟨T', h', cA, X', e', E, A, hO, st⟩ := RoadKit.newR X hx hZ hown w1 w2 rfl (g := frm G me (pc, L, .int n :: S, σ, u)) rfl (hb hby d) rfl hn (cap := m) (by omega) hb8 (by omega) (by omega)
  subst e'
  have hsz : T'.heap.size = T.heap.size + 1 := by
    have a1 := X'.heapSize
    have a2 : T.heap.size < T'.heap.size := A.lt
    have a3 : s.heap.size = G.n0 + G.j0 := hs0
    omega
  rw [eS] at A
  have eρ : G.ρ σ.length = T.heap.size := by rw [hρ _ hk, eS]
  refine ⟨T', ⟨locs, ce + 1, sl + m, by simp; omega, by show u + m = _; omega, X', D.push E hsz hk ⟨_, A, ?_, ?_, ?_⟩, N⟩, fun t kt => st t ?_⟩
  · simp [newA, hm, defaultValue, gv]
  · intro C' hC; cases hC; exact hO
  · intro y hy
    rw [List.eq_of_mem_replicate hy]
    rfl
  · rw [← eρ]; exact kt
theorem WStep.alen (z : Int32) (d : AtI G.bytes pc .arraylength 1 nx) (hk : σ[k]? = some (.inl (ty, vs))) (hz : vs.length.toInt32 = z) : WStep G (pc, L, .ref k :: S, σ, u) (nx, L, .int z :: S, σ, u) := by
  refine ⟨Nat.le_refl _, Nat.le_refl _, fun p l e R s m args below meth c hC hc hs T hT => ?_⟩
  obtain ⟨hx, hby, hZ, hown, hnm, hret, hml, hs0, hρ, hinj, hfr, hlo⟩ := hC
  obtain ⟨locs, ce, sl, h1, h2, X, D, N⟩ := hT
  obtain ⟨d, rfl⟩ := d
  obtain ⟨cl, A, eC, -⟩ : ArrOk G.Z G.ρ T.heap (G.n0 + k) ty vs := D.2.2 k _ hk
  rw [← hρ k (D.lt hk)] at A
  refine ⟨T, ⟨locs, ce, sl, h1, h2, X, D, N⟩, fun t kt => X.arraylength hx A.1 (State.isArrayOf_alike hZ.alike A.2.1) (g := frm G m (pc, L, .ref k :: S, σ, u)) rfl rfl (hb hby d) t ?_⟩
  rw [ArrOk.size (ty := ty) eC, hz]
  exact kt
theorem WStep.aaload (i : Nat) (d : AtI G.bytes pc .aaload 1 nx) (hk : σ[k]? = some (.inl (ty, vs))) (hty : ty.isReference = true) (hj : ¬ j < 0) (hi : j.toNatClampNeg = i) (hv : vs[i]? = some v) : WStep G (pc, L, .int j :: .ref k :: S, σ, u) (nx, L, v :: S, σ, u) := by
  refine ⟨Nat.le_refl _, Nat.le_refl _, fun p l e R s m args below meth c hC hc hs T hT => ?_⟩
  obtain ⟨hx, hby, hZ, hown, hnm, hret, hml, hs0, hρ, hinj, hfr, hlo⟩ := hC
  obtain ⟨locs, ce, sl, h1, h2, X, D, N⟩ := hT
  obtain ⟨d, rfl⟩ := d
  obtain ⟨cl, A, eC, -⟩ : ArrOk G.Z G.ρ T.heap (G.n0 + k) ty vs := D.2.2 k _ hk
  rw [← hρ k (D.lt hk)] at A
  have hlt := (List.getElem?_eq_some_iff.mp hv).1
  exact ⟨T, ⟨locs, ce, sl, h1, h2, X, D, N⟩, fun t kt => X.aaload hx (j := j) (v := gv G.ρ v) A.1 (State.isArrayOf_alike hZ.alike A.2.1) hty A.2.2 (fun q => q.elim hj fun q => by rw [ArrOk.size (ty := ty) eC, hi] at q; omega) (by rw [hi]; exact ArrOk.at eC hv) (g := frm G m (pc, L, .int j :: .ref k :: S, σ, u)) rfl rfl (hb hby d) t kt⟩
theorem WStep.aastore {k2 : Nat} (i : Nat) (d : AtI G.bytes pc .aastore 1 nx) (hk : σ[k]? = some (.inl (.object C, vs))) (hk2 : σ[k2]? = some (.inr (C, fs))) (hj : ¬ j < 0) (hi : j.toNatClampNeg = i) (hlt : i < vs.length) : WStep G (pc, L, .ref k2 :: .int j :: .ref k :: S, σ, u) (nx, L, S, σ.set k (.inl (.object C, vs.set i (.ref k2))), u) := by
  refine ⟨by simp, Nat.le_refl _, fun p l e R s m args below meth c hC hc hs T hT => ?_⟩
  obtain ⟨hx, hby, hZ, hown, hnm, hret, hml, hs0, hρ, hinj, hfr, hlo⟩ := hC
  obtain ⟨locs, ce, sl, h1, h2, X, D, N⟩ := hT
  obtain ⟨d, rfl⟩ := d
  obtain ⟨cl, A, eC, hO, hF⟩ : ArrOk G.Z G.ρ T.heap (G.n0 + k) (.object C) vs := D.2.2 k _ hk
  have hρk := hρ k (D.lt hk)
  have hE : Exa G.Z T.heap (G.n0 + k2) C := (D.2.2 k2 _ hk2).1
  rw [← hρ k2 (D.lt hk2)] at hE
  obtain ⟨T', h', X', e', W, st⟩ := stR X hx hZ rfl A (j := j) (v := .ref (G.ρ k2)) (fun q => q.elim hj fun q => by rw [ArrOk.size (ty := .object C) eC, hi] at q; omega) rfl (Sto.of A (hO C rfl) (Ins.self hE)) (g := frm G m (pc, L, .ref k2 :: .int j :: .ref k :: S, σ, u)) rfl (by show _ :: _ :: Value.ref (G.ρ k) :: _ = _; rw [hρk]; rfl) (hb hby d)
  subst e'
  rw [hi] at W
  exact ⟨T', ⟨_, ce, sl, by simpa using h1, h2, X', D.put W (ArrOk.set (w := .ref k2) A eC hO hF W rfl), N.app fun y hy => by cases List.mem_singleton.mp hy; exact Nat.le_add_right _ _⟩, st⟩
theorem WStep.getS {v0 : Value} (v : Value) (d : AtI G.bytes pc (.getstatic idx) 3 nx) (wd : (Jvm.Cond.fieldLink G.own idx O nm dd).before a0 G.Z = true) (hS : Sta G.Z G.Z.heap O nm dd v0) (hn : G.Z.heap.size ≤ G.n0) (hv : gv G.ρ v = v0) : WStep G (pc, L, S, σ, u) (nx, L, v :: S, σ, u) := by
  refine ⟨Nat.le_refl _, Nat.le_refl _, fun p l e R s m args below meth c hC hc hs T hT => ?_⟩
  obtain ⟨hx, hby, hZ, hown, hnm, hret, hml, hs0, hρ, hinj, hfr, hlo⟩ := hC
  obtain ⟨locs, ce, sl, h1, h2, X, D, N⟩ := hT
  obtain ⟨d, rfl⟩ := d
  have F : Sta G.Z T.heap O nm dd (gv G.ρ v) := by
    rw [hv]
    obtain ⟨cf, i, k, f, st, cell, b1, b2, b3, b4, b5, r⟩ := hS
    exact ⟨cf, i, k, f, st, cell, b1, b2, b3, b4, D.2.1.2 _ _ (Nat.lt_of_lt_of_le (Array.getElem?_eq_some_iff.mp b5).1 hn) b5, r⟩
  obtain ⟨T', X', e', st⟩ := RoadKit.getS (host := "") X hx hZ hown wd Via.refl rfl F (g := frm G m (pc, L, S, σ, u)) rfl (hb hby d)
  exact ⟨T', ⟨locs, ce, sl, h1, h2, X', by rw [e']; exact D, N⟩, st⟩
end HeapOps
end Jvm.Sy

namespace Jvm.Sy
open Jvm Jvm.RoadKit
abbrev wI (x : Int32) : Slot := .val (.int x)
abbrev wJ (x : Int64) : Slot := .val (.long x)
abbrev wR (k : Nat) : Slot := .val (.ref k)
abbrev wN : Slot := .val .null
abbrev wU : Slot := .unset
abbrev wS : Slot := .second
def QB (P : Prop) (σ : WHp) (u : Nat) (v : Option Value) (σ' : WHp) (u' : Nat) : Prop := (v = some (.int 1) ∧ P ∨ v = some (.int 0) ∧ ¬ P) ∧ σ = σ' ∧ u = u'
theorem QB.yes {P : Prop} {σ : WHp} {u : Nat} (h : P) : QB P σ u (some (.int 1)) σ u := ⟨Or.inl ⟨rfl, h⟩, rfl, rfl⟩
theorem QB.no {P : Prop} {σ : WHp} {u : Nat} (h : ¬ P) : QB P σ u (some (.int 0)) σ u := ⟨Or.inr ⟨rfl, h⟩, rfl, rfl⟩
end Jvm.Sy


namespace Jvm.Pilot.@@N@@
open Jvm Jvm.ClassFile Sem Op Lib Jvm.Free Jvm.Stand Jvm.LawKit Jvm.RoadKit Bundle Jvm.Sy Jvm.Pilot.@@N@@.Jvm.D
theorem wd {Z : State} {a0 : Array Value} (hw : ∀ d ∈ tables_1, d.before a0 Z = true) (i : Nat) {d : Jvm.Cond} (h : tables_1[i]? = some d) : d.before a0 Z = true := hw d (List.mem_of_getElem? h)
abbrev fk0 : WKey := ("com/example/chronogate/chronogate/Substream", "waiting", "Lcom/example/chronogate/chronogate/ReleaseQueue;")
abbrev fk1 : WKey := ("com/example/chronogate/chronogate/Substream", "largestAdmitted", "J")
abbrev fk2 : WKey := ("com/example/chronogate/chronogate/Substream", "latestArrival", "J")
abbrev fk3 : WKey := ("com/example/chronogate/chronogate/Substream", "punctuation", "J")
abbrev fk4 : WKey := ("com/example/chronogate/chronogate/Substream", "admitted", "J")
abbrev fk5 : WKey := ("com/example/chronogate/chronogate/ReleaseQueue", "heap", "[Lcom/example/chronogate/chronogate/Event;")
abbrev fk6 : WKey := ("com/example/chronogate/chronogate/ReleaseQueue", "size", "I")
abbrev fk7 : WKey := ("com/example/chronogate/chronogate/Event", "timestamp", "J")
abbrev fk8 : WKey := ("com/example/chronogate/chronogate/Event", "adjustments", "Ljava/util/List;")
abbrev fk9 : WKey := ("com/example/chronogate/chronogate/Event", "payload", "Ljava/lang/Object;")
abbrev fk10 : WKey := ("com/example/chronogate/chronogate/Event", "sequence", "J")
abbrev fk11 : WKey := ("java/util/AbstractList", "modCount", "I")
abbrev fk12 : WKey := ("java/util/ArrayList", "elementData", "[Ljava/lang/Object;")
abbrev cn0 : String := "com/example/chronogate/chronogate/Substream"
abbrev cn1 : String := "com/example/chronogate/chronogate/ReleaseQueue"
abbrev cn2 : String := "com/example/chronogate/chronogate/Event"
abbrev cn3 : String := "java/util/ArrayList"

abbrev g18 (Z : State) (ρ : Nat → Nat) (n0 j0 u0 : Nat) : WMC := ((Z, ρ, n0), ("java/lang/Long", jdk_35_method_42_code, "compare", (some .int), 4), (j0, u0, 0, 0))
theorem a18_0 : AtI jdk_35_method_42_code 0 (.lload_n 0) 1 1 := ⟨by decide +kernel, rfl⟩
theorem a18_1 : AtI jdk_35_method_42_code 1 (.lload_n 2) 1 2 := ⟨by decide +kernel, rfl⟩
theorem a18_2 : AtI jdk_35_method_42_code 2 (.lcmp) 1 3 := ⟨by decide +kernel, rfl⟩
theorem a18_3 : AtJ jdk_35_method_42_code 3 (.ifCond .ge) 6 10 := ⟨7, by decide +kernel, rfl, by decide, rfl⟩
theorem a18_6 : AtI jdk_35_method_42_code 6 (.iconst (-1)) 1 7 := ⟨by decide +kernel, rfl⟩
theorem a18_7 : AtJ jdk_35_method_42_code 7 (.goto) 10 21 := ⟨14, by decide +kernel, rfl, by decide, rfl⟩
theorem a18_10 : AtI jdk_35_method_42_code 10 (.lload_n 0) 1 11 := ⟨by decide +kernel, rfl⟩
theorem a18_11 : AtI jdk_35_method_42_code 11 (.lload_n 2) 1 12 := ⟨by decide +kernel, rfl⟩
theorem a18_12 : AtI jdk_35_method_42_code 12 (.lcmp) 1 13 := ⟨by decide +kernel, rfl⟩
theorem a18_13 : AtJ jdk_35_method_42_code 13 (.ifCond .ne) 16 20 := ⟨7, by decide +kernel, rfl, by decide, rfl⟩
theorem a18_16 : AtI jdk_35_method_42_code 16 (.iconst 0) 1 17 := ⟨by decide +kernel, rfl⟩
theorem a18_17 : AtJ jdk_35_method_42_code 17 (.goto) 20 21 := ⟨4, by decide +kernel, rfl, by decide, rfl⟩
theorem a18_20 : AtI jdk_35_method_42_code 20 (.iconst 1) 1 21 := ⟨by decide +kernel, rfl⟩
theorem a18_21 : AtI jdk_35_method_42_code 21 (.ireturn) 1 22 := ⟨by decide +kernel, rfl⟩
theorem pd18 : parseMethodDescriptor "(JJ)I" = some ⟨[.long, .long], some .int⟩ := by decide +kernel
theorem pl18 : plainFor (⟨"java/lang/Long", "compare", "(JJ)I"⟩ : MethodName) = true := plainFor_of_name (by first | (simp [plainName, overriddenIn]; done) | decide +kernel)
theorem ok18 {Z : State} {a0 : Array Value} (hw : ∀ d ∈ tables_1, d.before a0 Z = true) (ρ : Nat → Nat) (n0 j0 u0 : Nat) : WCallee Z a0 (⟨"java/lang/Long", "compare", "(JJ)I"⟩ : MethodName) (g18 Z ρ n0 j0 u0) 2 :=
  ⟨pl18, (by decide), rfl, rfl, rfl, (wd hw 123 rfl), (wd hw 124 rfl), fun sig h => by cases pd18.symm.trans h; rfl⟩
abbrev g17 (Z : State) (ρ : Nat → Nat) (n0 j0 u0 : Nat) : WMC := ((Z, ρ, n0), ("com/example/chronogate/chronogate/Event", prog_8_method_6_code, "releaseOrder", (some .int), 3), (j0, u0, 1, 15))
theorem a17_0 : AtI prog_8_method_6_code 0 (.aload_n 0) 1 1 := ⟨by decide +kernel, rfl⟩
theorem a17_1 : AtI prog_8_method_6_code 1 (.getfield 7) 3 4 := ⟨by decide +kernel, rfl⟩
theorem a17_4 : AtI prog_8_method_6_code 4 (.aload_n 1) 1 5 := ⟨by decide +kernel, rfl⟩
theorem a17_5 : AtI prog_8_method_6_code 5 (.getfield 7) 3 8 := ⟨by decide +kernel, rfl⟩
theorem a17_8 : AtI prog_8_method_6_code 8 (.invokestatic 24) 3 11 := ⟨by decide +kernel, rfl⟩
theorem a17_11 : AtI prog_8_method_6_code 11 (.istore_n 2) 1 12 := ⟨by decide +kernel, rfl⟩
theorem a17_12 : AtI prog_8_method_6_code 12 (.iload_n 2) 1 13 := ⟨by decide +kernel, rfl⟩
theorem a17_13 : AtJ prog_8_method_6_code 13 (.ifCond .eq) 16 20 := ⟨7, by decide +kernel, rfl, by decide, rfl⟩
theorem a17_16 : AtI prog_8_method_6_code 16 (.iload_n 2) 1 17 := ⟨by decide +kernel, rfl⟩
theorem a17_17 : AtJ prog_8_method_6_code 17 (.goto) 20 31 := ⟨14, by decide +kernel, rfl, by decide, rfl⟩
theorem a17_20 : AtI prog_8_method_6_code 20 (.aload_n 0) 1 21 := ⟨by decide +kernel, rfl⟩
theorem a17_21 : AtI prog_8_method_6_code 21 (.getfield 21) 3 24 := ⟨by decide +kernel, rfl⟩
theorem a17_24 : AtI prog_8_method_6_code 24 (.aload_n 1) 1 25 := ⟨by decide +kernel, rfl⟩
theorem a17_25 : AtI prog_8_method_6_code 25 (.getfield 21) 3 28 := ⟨by decide +kernel, rfl⟩
theorem a17_28 : AtI prog_8_method_6_code 28 (.invokestatic 24) 3 31 := ⟨by decide +kernel, rfl⟩
theorem a17_31 : AtI prog_8_method_6_code 31 (.ireturn) 1 32 := ⟨by decide +kernel, rfl⟩
theorem pd17 : parseMethodDescriptor "(Lcom/example/chronogate/chronogate/Event;Lcom/example/chronogate/chronogate/Event;)I" = some ⟨[(.object "com/example/chronogate/chronogate/Event"), (.object "com/example/chronogate/chronogate/Event")], some .int⟩ := by decide +kernel
theorem pl17 : plainFor (⟨"com/example/chronogate/chronogate/Event", "releaseOrder", "(Lcom/example/chronogate/chronogate/Event;Lcom/example/chronogate/chronogate/Event;)I"⟩ : MethodName) = true := plainFor_of_name (by first | (simp [plainName, overriddenIn]; done) | decide +kernel)
theorem ok17 {Z : State} {a0 : Array Value} (hw : ∀ d ∈ tables_1, d.before a0 Z = true) (ρ : Nat → Nat) (n0 j0 u0 : Nat) : WCallee Z a0 (⟨"com/example/chronogate/chronogate/Event", "releaseOrder", "(Lcom/example/chronogate/chronogate/Event;Lcom/example/chronogate/chronogate/Event;)I"⟩ : MethodName) (g17 Z ρ n0 j0 u0) 2 :=
  ⟨pl17, (by decide), rfl, rfl, rfl, (wd hw 34 rfl), (wd hw 120 rfl), fun sig h => by cases pd17.symm.trans h; rfl⟩
abbrev g16 (Z : State) (ρ : Nat → Nat) (n0 j0 u0 : Nat) : WMC := ((Z, ρ, n0), ("com/example/chronogate/chronogate/Substream", prog_28_method_2_code, "arrive", none, 3), (j0, u0, 0, 0))
theorem a16_0 : AtI prog_28_method_2_code 0 (.aload_n 0) 1 1 := ⟨by decide +kernel, rfl⟩
theorem a16_1 : AtI prog_28_method_2_code 1 (.lload_n 1) 1 2 := ⟨by decide +kernel, rfl⟩
theorem a16_2 : AtI prog_28_method_2_code 2 (.putfield 24) 3 5 := ⟨by decide +kernel, rfl⟩
theorem a16_5 : AtI prog_28_method_2_code 5 (.return_) 1 6 := ⟨by decide +kernel, rfl⟩
theorem pd16 : parseMethodDescriptor "(J)V" = some ⟨[.long], none⟩ := by decide +kernel
theorem pl16 : plainFor (⟨"com/example/chronogate/chronogate/Substream", "arrive", "(J)V"⟩ : MethodName) = true := plainFor_of_name (by first | (simp [plainName, overriddenIn]; done) | decide +kernel)
theorem ok16 {Z : State} {a0 : Array Value} (hw : ∀ d ∈ tables_1, d.before a0 Z = true) (ρ : Nat → Nat) (n0 j0 u0 : Nat) : WCallee Z a0 (⟨"com/example/chronogate/chronogate/Substream", "arrive", "(J)V"⟩ : MethodName) (g16 Z ρ n0 j0 u0) 1 :=
  ⟨pl16, (by decide), rfl, rfl, rfl, (wd hw 2 rfl), (wd hw 116 rfl), fun sig h => by cases pd16.symm.trans h; rfl⟩
abbrev g15 (Z : State) (ρ : Nat → Nat) (n0 j0 u0 : Nat) : WMC := ((Z, ρ, n0), ("com/example/chronogate/chronogate/SubstreamDeliveredPinLaw", method_2_code, "inRange", (some .long), 2), (j0, u0, 0, 0))
theorem a15_0 : AtI method_2_code 0 (.ldc2_w 9) 3 3 := ⟨by decide +kernel, rfl⟩
theorem a15_3 : AtI method_2_code 3 (.lload_n 0) 1 4 := ⟨by decide +kernel, rfl⟩
theorem a15_4 : AtI method_2_code 4 (.ldc2_w 13) 3 7 := ⟨by decide +kernel, rfl⟩
theorem a15_7 : AtI method_2_code 7 (.land) 1 8 := ⟨by decide +kernel, rfl⟩
theorem a15_8 : AtI method_2_code 8 (.ldc2_w 15) 3 11 := ⟨by decide +kernel, rfl⟩
theorem a15_11 : AtI method_2_code 11 (.lrem) 1 12 := ⟨by decide +kernel, rfl⟩
theorem a15_12 : AtI method_2_code 12 (.ladd) 1 13 := ⟨by decide +kernel, rfl⟩
theorem a15_13 : AtI method_2_code 13 (.lreturn) 1 14 := ⟨by decide +kernel, rfl⟩
theorem pd15 : parseMethodDescriptor "(J)J" = some ⟨[.long], some .long⟩ := by decide +kernel
theorem pl15 : plainFor (⟨"com/example/chronogate/chronogate/SubstreamDeliveredPinLaw", "inRange", "(J)J"⟩ : MethodName) = true := plainFor_of_name (by first | (simp [plainName, overriddenIn]; done) | decide +kernel)
theorem ok15 {Z : State} {a0 : Array Value} (hw : ∀ d ∈ tables_1, d.before a0 Z = true) (ρ : Nat → Nat) (n0 j0 u0 : Nat) : WCallee Z a0 (⟨"com/example/chronogate/chronogate/SubstreamDeliveredPinLaw", "inRange", "(J)J"⟩ : MethodName) (g15 Z ρ n0 j0 u0) 1 :=
  ⟨pl15, (by decide), rfl, rfl, rfl, (wd hw 107 rfl), (wd hw 108 rfl), fun sig h => by cases pd15.symm.trans h; rfl⟩
abbrev g14 (Z : State) (ρ : Nat → Nat) (n0 j0 u0 : Nat) : WMC := ((Z, ρ, n0), ("com/example/chronogate/chronogate/Event", prog_8_method_2_code, "timestamp", (some .long), 1), (j0, u0, 0, 0))
theorem a14_0 : AtI prog_8_method_2_code 0 (.aload_n 0) 1 1 := ⟨by decide +kernel, rfl⟩
theorem a14_1 : AtI prog_8_method_2_code 1 (.getfield 7) 3 4 := ⟨by decide +kernel, rfl⟩
theorem a14_4 : AtI prog_8_method_2_code 4 (.lreturn) 1 5 := ⟨by decide +kernel, rfl⟩
theorem pd14 : parseMethodDescriptor "()J" = some ⟨[], some .long⟩ := by decide +kernel
theorem pl14 : plainFor (⟨"com/example/chronogate/chronogate/Event", "timestamp", "()J"⟩ : MethodName) = true := plainFor_of_name (by first | (simp [plainName, overriddenIn]; done) | decide +kernel)
theorem ok14 {Z : State} {a0 : Array Value} (hw : ∀ d ∈ tables_1, d.before a0 Z = true) (ρ : Nat → Nat) (n0 j0 u0 : Nat) : WCallee Z a0 (⟨"com/example/chronogate/chronogate/Event", "timestamp", "()J"⟩ : MethodName) (g14 Z ρ n0 j0 u0) 0 :=
  ⟨pl14, (by decide), rfl, rfl, rfl, (wd hw 34 rfl), (wd hw 102 rfl), fun sig h => by cases pd14.symm.trans h; rfl⟩
abbrev g13 (Z : State) (ρ : Nat → Nat) (n0 j0 u0 : Nat) : WMC := ((Z, ρ, n0), ("com/example/chronogate/chronogate/ReleaseQueue", prog_24_method_2_code, "add", none, 4), (j0, u0, 2, 29))
theorem a13_0 : AtI prog_24_method_2_code 0 (.aload_n 0) 1 1 := ⟨by decide +kernel, rfl⟩
theorem a13_1 : AtI prog_24_method_2_code 1 (.getfield 17) 3 4 := ⟨by decide +kernel, rfl⟩
theorem a13_4 : AtI prog_24_method_2_code 4 (.aload_n 0) 1 5 := ⟨by decide +kernel, rfl⟩
theorem a13_5 : AtI prog_24_method_2_code 5 (.getfield 13) 3 8 := ⟨by decide +kernel, rfl⟩
theorem a13_8 : AtI prog_24_method_2_code 8 (.arraylength) 1 9 := ⟨by decide +kernel, rfl⟩
theorem a13_9 : AtJ prog_24_method_2_code 9 (.if_icmp .ne) 12 32 := ⟨23, by decide +kernel, rfl, by decide, rfl⟩
theorem a13_12 : AtI prog_24_method_2_code 12 (.aload_n 0) 1 13 := ⟨by decide +kernel, rfl⟩
theorem a13_13 : AtI prog_24_method_2_code 13 (.aload_n 0) 1 14 := ⟨by decide +kernel, rfl⟩
theorem a13_14 : AtI prog_24_method_2_code 14 (.getfield 13) 3 17 := ⟨by decide +kernel, rfl⟩
theorem a13_17 : AtI prog_24_method_2_code 17 (.iconst 2) 1 18 := ⟨by decide +kernel, rfl⟩
theorem a13_18 : AtI prog_24_method_2_code 18 (.aload_n 0) 1 19 := ⟨by decide +kernel, rfl⟩
theorem a13_19 : AtI prog_24_method_2_code 19 (.getfield 17) 3 22 := ⟨by decide +kernel, rfl⟩
theorem a13_22 : AtI prog_24_method_2_code 22 (.imul) 1 23 := ⟨by decide +kernel, rfl⟩
theorem a13_23 : AtI prog_24_method_2_code 23 (.invokestatic 21) 3 26 := ⟨by decide +kernel, rfl⟩
theorem a13_32 : AtI prog_24_method_2_code 32 (.aload_n 0) 1 33 := ⟨by decide +kernel, rfl⟩
theorem a13_33 : AtI prog_24_method_2_code 33 (.dup) 1 34 := ⟨by decide +kernel, rfl⟩
theorem a13_34 : AtI prog_24_method_2_code 34 (.getfield 17) 3 37 := ⟨by decide +kernel, rfl⟩
theorem a13_37 : AtI prog_24_method_2_code 37 (.dup_x1) 1 38 := ⟨by decide +kernel, rfl⟩
theorem a13_38 : AtI prog_24_method_2_code 38 (.iconst 1) 1 39 := ⟨by decide +kernel, rfl⟩
theorem a13_39 : AtI prog_24_method_2_code 39 (.iadd) 1 40 := ⟨by decide +kernel, rfl⟩
theorem a13_40 : AtI prog_24_method_2_code 40 (.putfield 17) 3 43 := ⟨by decide +kernel, rfl⟩
theorem a13_43 : AtI prog_24_method_2_code 43 (.istore_n 2) 1 44 := ⟨by decide +kernel, rfl⟩
theorem a13_44 : AtI prog_24_method_2_code 44 (.iload_n 2) 1 45 := ⟨by decide +kernel, rfl⟩
theorem a13_45 : AtJ prog_24_method_2_code 45 (.ifCond .le) 48 87 := ⟨42, by decide +kernel, rfl, by decide, rfl⟩
theorem a13_48 : AtI prog_24_method_2_code 48 (.iload_n 2) 1 49 := ⟨by decide +kernel, rfl⟩
theorem a13_49 : AtI prog_24_method_2_code 49 (.iconst 1) 1 50 := ⟨by decide +kernel, rfl⟩
theorem a13_50 : AtI prog_24_method_2_code 50 (.isub) 1 51 := ⟨by decide +kernel, rfl⟩
theorem a13_51 : AtI prog_24_method_2_code 51 (.iconst 2) 1 52 := ⟨by decide +kernel, rfl⟩
theorem a13_52 : AtI prog_24_method_2_code 52 (.idiv) 1 53 := ⟨by decide +kernel, rfl⟩
theorem a13_53 : AtI prog_24_method_2_code 53 (.istore_n 3) 1 54 := ⟨by decide +kernel, rfl⟩
theorem a13_54 : AtI prog_24_method_2_code 54 (.aload_n 1) 1 55 := ⟨by decide +kernel, rfl⟩
theorem a13_55 : AtI prog_24_method_2_code 55 (.aload_n 0) 1 56 := ⟨by decide +kernel, rfl⟩
theorem a13_56 : AtI prog_24_method_2_code 56 (.getfield 13) 3 59 := ⟨by decide +kernel, rfl⟩
theorem a13_59 : AtI prog_24_method_2_code 59 (.iload_n 3) 1 60 := ⟨by decide +kernel, rfl⟩
theorem a13_60 : AtI prog_24_method_2_code 60 (.aaload) 1 61 := ⟨by decide +kernel, rfl⟩
theorem a13_61 : AtI prog_24_method_2_code 61 (.invokestatic 28) 3 64 := ⟨by decide +kernel, rfl⟩
theorem a13_64 : AtJ prog_24_method_2_code 64 (.ifCond .lt) 67 70 := ⟨6, by decide +kernel, rfl, by decide, rfl⟩
theorem a13_67 : AtJ prog_24_method_2_code 67 (.goto) 70 87 := ⟨20, by decide +kernel, rfl, by decide, rfl⟩
theorem a13_70 : AtI prog_24_method_2_code 70 (.aload_n 0) 1 71 := ⟨by decide +kernel, rfl⟩
theorem a13_71 : AtI prog_24_method_2_code 71 (.getfield 13) 3 74 := ⟨by decide +kernel, rfl⟩
theorem a13_74 : AtI prog_24_method_2_code 74 (.iload_n 2) 1 75 := ⟨by decide +kernel, rfl⟩
theorem a13_75 : AtI prog_24_method_2_code 75 (.aload_n 0) 1 76 := ⟨by decide +kernel, rfl⟩
theorem a13_76 : AtI prog_24_method_2_code 76 (.getfield 13) 3 79 := ⟨by decide +kernel, rfl⟩
theorem a13_79 : AtI prog_24_method_2_code 79 (.iload_n 3) 1 80 := ⟨by decide +kernel, rfl⟩
theorem a13_80 : AtI prog_24_method_2_code 80 (.aaload) 1 81 := ⟨by decide +kernel, rfl⟩
theorem a13_81 : AtI prog_24_method_2_code 81 (.aastore) 1 82 := ⟨by decide +kernel, rfl⟩
theorem a13_82 : AtI prog_24_method_2_code 82 (.iload_n 3) 1 83 := ⟨by decide +kernel, rfl⟩
theorem a13_83 : AtI prog_24_method_2_code 83 (.istore_n 2) 1 84 := ⟨by decide +kernel, rfl⟩
theorem a13_84 : AtJ prog_24_method_2_code 84 (.goto) 87 44 := ⟨(-40), by decide +kernel, rfl, by decide, rfl⟩
theorem a13_87 : AtI prog_24_method_2_code 87 (.aload_n 0) 1 88 := ⟨by decide +kernel, rfl⟩
theorem a13_88 : AtI prog_24_method_2_code 88 (.getfield 13) 3 91 := ⟨by decide +kernel, rfl⟩
theorem a13_91 : AtI prog_24_method_2_code 91 (.iload_n 2) 1 92 := ⟨by decide +kernel, rfl⟩
theorem a13_92 : AtI prog_24_method_2_code 92 (.aload_n 1) 1 93 := ⟨by decide +kernel, rfl⟩
theorem a13_93 : AtI prog_24_method_2_code 93 (.aastore) 1 94 := ⟨by decide +kernel, rfl⟩
theorem a13_94 : AtI prog_24_method_2_code 94 (.return_) 1 95 := ⟨by decide +kernel, rfl⟩
theorem pd13 : parseMethodDescriptor "(Lcom/example/chronogate/chronogate/Event;)V" = some ⟨[(.object "com/example/chronogate/chronogate/Event")], none⟩ := by decide +kernel
theorem pl13 : plainFor (⟨"com/example/chronogate/chronogate/ReleaseQueue", "add", "(Lcom/example/chronogate/chronogate/Event;)V"⟩ : MethodName) = true := plainFor_of_name (by first | (simp [plainName, overriddenIn]; done) | decide +kernel)
theorem ok13 {Z : State} {a0 : Array Value} (hw : ∀ d ∈ tables_1, d.before a0 Z = true) (ρ : Nat → Nat) (n0 j0 u0 : Nat) : WCallee Z a0 (⟨"com/example/chronogate/chronogate/ReleaseQueue", "add", "(Lcom/example/chronogate/chronogate/Event;)V"⟩ : MethodName) (g13 Z ρ n0 j0 u0) 1 :=
  ⟨pl13, (by decide), rfl, rfl, rfl, (wd hw 11 rfl), (wd hw 94 rfl), fun sig h => by cases pd13.symm.trans h; rfl⟩
abbrev g12 (Z : State) (ρ : Nat → Nat) (n0 j0 u0 : Nat) : WMC := ((Z, ρ, n0), ("com/example/chronogate/chronogate/Substream", prog_28_method_5_code, "add", none, 2), (j0, u0, 3, 44))
theorem a12_0 : AtI prog_28_method_5_code 0 (.aload_n 0) 1 1 := ⟨by decide +kernel, rfl⟩
theorem a12_1 : AtI prog_28_method_5_code 1 (.getfield 10) 3 4 := ⟨by decide +kernel, rfl⟩
theorem a12_4 : AtI prog_28_method_5_code 4 (.aload_n 1) 1 5 := ⟨by decide +kernel, rfl⟩
theorem a12_5 : AtI prog_28_method_5_code 5 (.invokevirtual 30) 3 8 := ⟨by decide +kernel, rfl⟩
theorem a12_8 : AtI prog_28_method_5_code 8 (.aload_n 0) 1 9 := ⟨by decide +kernel, rfl⟩
theorem a12_9 : AtI prog_28_method_5_code 9 (.aload_n 0) 1 10 := ⟨by decide +kernel, rfl⟩
theorem a12_10 : AtI prog_28_method_5_code 10 (.getfield 20) 3 13 := ⟨by decide +kernel, rfl⟩
theorem a12_13 : AtI prog_28_method_5_code 13 (.aload_n 1) 1 14 := ⟨by decide +kernel, rfl⟩
theorem a12_14 : AtI prog_28_method_5_code 14 (.invokevirtual 34) 3 17 := ⟨by decide +kernel, rfl⟩
theorem a12_17 : AtI prog_28_method_5_code 17 (.invokestatic 40) 3 20 := ⟨by decide +kernel, rfl⟩
theorem a12_20 : AtI prog_28_method_5_code 20 (.putfield 20) 3 23 := ⟨by decide +kernel, rfl⟩
theorem a12_23 : AtI prog_28_method_5_code 23 (.aload_n 0) 1 24 := ⟨by decide +kernel, rfl⟩
theorem a12_24 : AtI prog_28_method_5_code 24 (.dup) 1 25 := ⟨by decide +kernel, rfl⟩
theorem a12_25 : AtI prog_28_method_5_code 25 (.getfield 46) 3 28 := ⟨by decide +kernel, rfl⟩
theorem a12_28 : AtI prog_28_method_5_code 28 (.lconst 1) 1 29 := ⟨by decide +kernel, rfl⟩
theorem a12_29 : AtI prog_28_method_5_code 29 (.ladd) 1 30 := ⟨by decide +kernel, rfl⟩
theorem a12_30 : AtI prog_28_method_5_code 30 (.putfield 46) 3 33 := ⟨by decide +kernel, rfl⟩
theorem a12_33 : AtI prog_28_method_5_code 33 (.return_) 1 34 := ⟨by decide +kernel, rfl⟩
theorem pd12 : parseMethodDescriptor "(Lcom/example/chronogate/chronogate/Event;)V" = some ⟨[(.object "com/example/chronogate/chronogate/Event")], none⟩ := by decide +kernel
theorem pl12 : plainFor (⟨"com/example/chronogate/chronogate/Substream", "add", "(Lcom/example/chronogate/chronogate/Event;)V"⟩ : MethodName) = true := plainFor_of_name (by first | (simp [plainName, overriddenIn]; done) | decide +kernel)
theorem ok12 {Z : State} {a0 : Array Value} (hw : ∀ d ∈ tables_1, d.before a0 Z = true) (ρ : Nat → Nat) (n0 j0 u0 : Nat) : WCallee Z a0 (⟨"com/example/chronogate/chronogate/Substream", "add", "(Lcom/example/chronogate/chronogate/Event;)V"⟩ : MethodName) (g12 Z ρ n0 j0 u0) 1 :=
  ⟨pl12, (by decide), rfl, rfl, rfl, (wd hw 2 rfl), (wd hw 89 rfl), fun sig h => by cases pd12.symm.trans h; rfl⟩
abbrev g11 (Z : State) (ρ : Nat → Nat) (n0 j0 u0 : Nat) : WMC := ((Z, ρ, n0), ("java/lang/Math", jdk_29_method_66_code, "max", (some .long), 4), (j0, u0, 0, 0))
theorem a11_0 : AtI jdk_29_method_66_code 0 (.lload_n 0) 1 1 := ⟨by decide +kernel, rfl⟩
theorem a11_1 : AtI jdk_29_method_66_code 1 (.lload_n 2) 1 2 := ⟨by decide +kernel, rfl⟩
theorem a11_2 : AtI jdk_29_method_66_code 2 (.lcmp) 1 3 := ⟨by decide +kernel, rfl⟩
theorem a11_3 : AtJ jdk_29_method_66_code 3 (.ifCond .lt) 6 10 := ⟨7, by decide +kernel, rfl, by decide, rfl⟩
theorem a11_6 : AtI jdk_29_method_66_code 6 (.lload_n 0) 1 7 := ⟨by decide +kernel, rfl⟩
theorem a11_7 : AtJ jdk_29_method_66_code 7 (.goto) 10 11 := ⟨4, by decide +kernel, rfl, by decide, rfl⟩
theorem a11_10 : AtI jdk_29_method_66_code 10 (.lload_n 2) 1 11 := ⟨by decide +kernel, rfl⟩
theorem a11_11 : AtI jdk_29_method_66_code 11 (.lreturn) 1 12 := ⟨by decide +kernel, rfl⟩
theorem pd11 : parseMethodDescriptor "(JJ)J" = some ⟨[.long, .long], some .long⟩ := by decide +kernel
theorem pl11 : plainFor (⟨"java/lang/Math", "max", "(JJ)J"⟩ : MethodName) = true := Jvm.Free.JP.mathPlain rfl (by decide +kernel)
theorem ok11 {Z : State} {a0 : Array Value} (hw : ∀ d ∈ tables_1, d.before a0 Z = true) (ρ : Nat → Nat) (n0 j0 u0 : Nat) : WCallee Z a0 (⟨"java/lang/Math", "max", "(JJ)J"⟩ : MethodName) (g11 Z ρ n0 j0 u0) 2 :=
  ⟨pl11, (by decide), rfl, rfl, rfl, (wd hw 83 rfl), (wd hw 84 rfl), fun sig h => by cases pd11.symm.trans h; rfl⟩
abbrev g10 (Z : State) (ρ : Nat → Nat) (n0 j0 u0 : Nat) : WMC := ((Z, ρ, n0), ("com/example/chronogate/chronogate/Substream", prog_28_method_7_code, "punctuate", none, 3), (j0, u0, 1, 16))
theorem a10_0 : AtI prog_28_method_7_code 0 (.aload_n 0) 1 1 := ⟨by decide +kernel, rfl⟩
theorem a10_1 : AtI prog_28_method_7_code 1 (.aload_n 0) 1 2 := ⟨by decide +kernel, rfl⟩
theorem a10_2 : AtI prog_28_method_7_code 2 (.getfield 27) 3 5 := ⟨by decide +kernel, rfl⟩
theorem a10_5 : AtI prog_28_method_7_code 5 (.lload_n 1) 1 6 := ⟨by decide +kernel, rfl⟩
theorem a10_6 : AtI prog_28_method_7_code 6 (.invokestatic 40) 3 9 := ⟨by decide +kernel, rfl⟩
theorem a10_9 : AtI prog_28_method_7_code 9 (.putfield 27) 3 12 := ⟨by decide +kernel, rfl⟩
theorem a10_12 : AtI prog_28_method_7_code 12 (.return_) 1 13 := ⟨by decide +kernel, rfl⟩
theorem pd10 : parseMethodDescriptor "(J)V" = some ⟨[.long], none⟩ := by decide +kernel
theorem pl10 : plainFor (⟨"com/example/chronogate/chronogate/Substream", "punctuate", "(J)V"⟩ : MethodName) = true := plainFor_of_name (by first | (simp [plainName, overriddenIn]; done) | decide +kernel)
theorem ok10 {Z : State} {a0 : Array Value} (hw : ∀ d ∈ tables_1, d.before a0 Z = true) (ρ : Nat → Nat) (n0 j0 u0 : Nat) : WCallee Z a0 (⟨"com/example/chronogate/chronogate/Substream", "punctuate", "(J)V"⟩ : MethodName) (g10 Z ρ n0 j0 u0) 1 :=
  ⟨pl10, (by decide), rfl, rfl, rfl, (wd hw 2 rfl), (wd hw 80 rfl), fun sig h => by cases pd10.symm.trans h; rfl⟩
abbrev g9 (Z : State) (ρ : Nat → Nat) (n0 j0 u0 : Nat) : WMC := ((Z, ρ, n0), ("com/example/chronogate/chronogate/Substream", prog_28_method_4_code, "delivered", (some .boolean), 1), (j0, u0, 0, 0))
theorem a9_0 : AtI prog_28_method_4_code 0 (.aload_n 0) 1 1 := ⟨by decide +kernel, rfl⟩
theorem a9_1 : AtI prog_28_method_4_code 1 (.getfield 24) 3 4 := ⟨by decide +kernel, rfl⟩
theorem a9_4 : AtI prog_28_method_4_code 4 (.ldc2_w 18) 3 7 := ⟨by decide +kernel, rfl⟩
theorem a9_7 : AtI prog_28_method_4_code 7 (.lcmp) 1 8 := ⟨by decide +kernel, rfl⟩
theorem a9_8 : AtJ prog_28_method_4_code 8 (.ifCond .eq) 11 15 := ⟨7, by decide +kernel, rfl, by decide, rfl⟩
theorem a9_11 : AtI prog_28_method_4_code 11 (.iconst 1) 1 12 := ⟨by decide +kernel, rfl⟩
theorem a9_12 : AtJ prog_28_method_4_code 12 (.goto) 15 16 := ⟨4, by decide +kernel, rfl, by decide, rfl⟩
theorem a9_15 : AtI prog_28_method_4_code 15 (.iconst 0) 1 16 := ⟨by decide +kernel, rfl⟩
theorem a9_16 : AtI prog_28_method_4_code 16 (.ireturn) 1 17 := ⟨by decide +kernel, rfl⟩
theorem pd9 : parseMethodDescriptor "()Z" = some ⟨[], some .boolean⟩ := by decide +kernel
theorem pl9 : plainFor (⟨"com/example/chronogate/chronogate/Substream", "delivered", "()Z"⟩ : MethodName) = true := plainFor_of_name (by first | (simp [plainName, overriddenIn]; done) | decide +kernel)
theorem ok9 {Z : State} {a0 : Array Value} (hw : ∀ d ∈ tables_1, d.before a0 Z = true) (ρ : Nat → Nat) (n0 j0 u0 : Nat) : WCallee Z a0 (⟨"com/example/chronogate/chronogate/Substream", "delivered", "()Z"⟩ : MethodName) (g9 Z ρ n0 j0 u0) 0 :=
  ⟨pl9, (by decide), rfl, rfl, rfl, (wd hw 2 rfl), (wd hw 75 rfl), fun sig h => by cases pd9.symm.trans h; rfl⟩
abbrev g8 (Z : State) (ρ : Nat → Nat) (n0 j0 u0 : Nat) : WMC := ((Z, ρ, n0), ("com/example/chronogate/chronogate/Event", prog_8_method_1_code, "<init>", none, 7), (j0, u0, 1, 12))
theorem a8_0 : AtI prog_8_method_1_code 0 (.aload_n 0) 1 1 := ⟨by decide +kernel, rfl⟩
theorem a8_1 : AtI prog_8_method_1_code 1 (.invokespecial 1) 3 4 := ⟨by decide +kernel, rfl⟩
theorem a8_4 : AtI prog_8_method_1_code 4 (.aload_n 0) 1 5 := ⟨by decide +kernel, rfl⟩
theorem a8_5 : AtI prog_8_method_1_code 5 (.lload_n 1) 1 6 := ⟨by decide +kernel, rfl⟩
theorem a8_6 : AtI prog_8_method_1_code 6 (.putfield 7) 3 9 := ⟨by decide +kernel, rfl⟩
theorem a8_9 : AtI prog_8_method_1_code 9 (.aload_n 0) 1 10 := ⟨by decide +kernel, rfl⟩
theorem a8_10 : AtI prog_8_method_1_code 10 (.aload_n 3) 1 11 := ⟨by decide +kernel, rfl⟩
theorem a8_11 : AtI prog_8_method_1_code 11 (.putfield 13) 3 14 := ⟨by decide +kernel, rfl⟩
theorem a8_14 : AtI prog_8_method_1_code 14 (.aload_n 0) 1 15 := ⟨by decide +kernel, rfl⟩
theorem a8_15 : AtI prog_8_method_1_code 15 (.aload 4) 2 17 := ⟨by decide +kernel, rfl⟩
theorem a8_17 : AtI prog_8_method_1_code 17 (.putfield 17) 3 20 := ⟨by decide +kernel, rfl⟩
theorem a8_20 : AtI prog_8_method_1_code 20 (.aload_n 0) 1 21 := ⟨by decide +kernel, rfl⟩
theorem a8_21 : AtI prog_8_method_1_code 21 (.lload 5) 2 23 := ⟨by decide +kernel, rfl⟩
theorem a8_23 : AtI prog_8_method_1_code 23 (.putfield 21) 3 26 := ⟨by decide +kernel, rfl⟩
theorem a8_26 : AtI prog_8_method_1_code 26 (.return_) 1 27 := ⟨by decide +kernel, rfl⟩
theorem pd8 : parseMethodDescriptor "(JLjava/util/List;Ljava/lang/Object;J)V" = some ⟨[.long, (.object "java/util/List"), (.object "java/lang/Object"), .long], none⟩ := by decide +kernel
theorem pl8 : plainFor (⟨"com/example/chronogate/chronogate/Event", "<init>", "(JLjava/util/List;Ljava/lang/Object;J)V"⟩ : MethodName) = true := plainFor_of_name (by first | (simp [plainName, overriddenIn]; done) | decide +kernel)
theorem ok8 {Z : State} {a0 : Array Value} (hw : ∀ d ∈ tables_1, d.before a0 Z = true) (ρ : Nat → Nat) (n0 j0 u0 : Nat) : WCallee Z a0 (⟨"com/example/chronogate/chronogate/Event", "<init>", "(JLjava/util/List;Ljava/lang/Object;J)V"⟩ : MethodName) (g8 Z ρ n0 j0 u0) 4 :=
  ⟨pl8, (by decide), rfl, rfl, rfl, (wd hw 34 rfl), (wd hw 61 rfl), fun sig h => by cases pd8.symm.trans h; rfl⟩
abbrev g7 (Z : State) (ρ : Nat → Nat) (n0 j0 u0 : Nat) : WMC := ((Z, ρ, n0), ("java/util/AbstractCollection", jdk_22_method_1_code, "<init>", none, 1), (j0, u0, 1, 12))
theorem a7_0 : AtI jdk_22_method_1_code 0 (.aload_n 0) 1 1 := ⟨by decide +kernel, rfl⟩
theorem a7_1 : AtI jdk_22_method_1_code 1 (.invokespecial 1) 3 4 := ⟨by decide +kernel, rfl⟩
theorem a7_4 : AtI jdk_22_method_1_code 4 (.return_) 1 5 := ⟨by decide +kernel, rfl⟩
theorem pd7 : parseMethodDescriptor "()V" = some ⟨[], none⟩ := by decide +kernel
theorem pl7 : plainFor (⟨"java/util/AbstractCollection", "<init>", "()V"⟩ : MethodName) = true := plainFor_of_name (by first | (simp [plainName, overriddenIn]; done) | decide +kernel)
theorem ok7 {Z : State} {a0 : Array Value} (hw : ∀ d ∈ tables_1, d.before a0 Z = true) (ρ : Nat → Nat) (n0 j0 u0 : Nat) : WCallee Z a0 (⟨"java/util/AbstractCollection", "<init>", "()V"⟩ : MethodName) (g7 Z ρ n0 j0 u0) 0 :=
  ⟨pl7, (by decide), rfl, rfl, rfl, (wd hw 51 rfl), (wd hw 52 rfl), fun sig h => by cases pd7.symm.trans h; rfl⟩
abbrev g6 (Z : State) (ρ : Nat → Nat) (n0 j0 u0 : Nat) : WMC := ((Z, ρ, n0), ("java/util/AbstractList", jdk_39_method_1_code, "<init>", none, 1), (j0, u0, 2, 24))
theorem a6_0 : AtI jdk_39_method_1_code 0 (.aload_n 0) 1 1 := ⟨by decide +kernel, rfl⟩
theorem a6_1 : AtI jdk_39_method_1_code 1 (.invokespecial 1) 3 4 := ⟨by decide +kernel, rfl⟩
theorem a6_4 : AtI jdk_39_method_1_code 4 (.aload_n 0) 1 5 := ⟨by decide +kernel, rfl⟩
theorem a6_5 : AtI jdk_39_method_1_code 5 (.iconst 0) 1 6 := ⟨by decide +kernel, rfl⟩
theorem a6_6 : AtI jdk_39_method_1_code 6 (.putfield 7) 3 9 := ⟨by decide +kernel, rfl⟩
theorem a6_9 : AtI jdk_39_method_1_code 9 (.return_) 1 10 := ⟨by decide +kernel, rfl⟩
theorem pd6 : parseMethodDescriptor "()V" = some ⟨[], none⟩ := by decide +kernel
theorem pl6 : plainFor (⟨"java/util/AbstractList", "<init>", "()V"⟩ : MethodName) = true := plainFor_of_name (by first | (simp [plainName, overriddenIn]; done) | decide +kernel)
theorem ok6 {Z : State} {a0 : Array Value} (hw : ∀ d ∈ tables_1, d.before a0 Z = true) (ρ : Nat → Nat) (n0 j0 u0 : Nat) : WCallee Z a0 (⟨"java/util/AbstractList", "<init>", "()V"⟩ : MethodName) (g6 Z ρ n0 j0 u0) 0 :=
  ⟨pl6, (by decide), rfl, rfl, rfl, (wd hw 45 rfl), (wd hw 46 rfl), fun sig h => by cases pd6.symm.trans h; rfl⟩
abbrev g5 (Z : State) (ρ : Nat → Nat) (n0 j0 u0 : Nat) : WMC := ((Z, ρ, n0), ("java/util/ArrayList", jdk_38_method_2_code, "<init>", none, 1), (j0, u0, 3, 36))
theorem a5_0 : AtI jdk_38_method_2_code 0 (.aload_n 0) 1 1 := ⟨by decide +kernel, rfl⟩
theorem a5_1 : AtI jdk_38_method_2_code 1 (.invokespecial 1) 3 4 := ⟨by decide +kernel, rfl⟩
theorem a5_4 : AtI jdk_38_method_2_code 4 (.aload_n 0) 1 5 := ⟨by decide +kernel, rfl⟩
theorem a5_5 : AtI jdk_38_method_2_code 5 (.getstatic 39) 3 8 := ⟨by decide +kernel, rfl⟩
theorem a5_8 : AtI jdk_38_method_2_code 8 (.putfield 9) 3 11 := ⟨by decide +kernel, rfl⟩
theorem a5_11 : AtI jdk_38_method_2_code 11 (.return_) 1 12 := ⟨by decide +kernel, rfl⟩
theorem pd5 : parseMethodDescriptor "()V" = some ⟨[], none⟩ := by decide +kernel
theorem pl5 : plainFor (⟨"java/util/ArrayList", "<init>", "()V"⟩ : MethodName) = true := plainFor_of_name (by first | (simp [plainName, overriddenIn]; done) | decide +kernel)
theorem ok5 {Z : State} {a0 : Array Value} (hw : ∀ d ∈ tables_1, d.before a0 Z = true) (ρ : Nat → Nat) (n0 j0 u0 : Nat) : WCallee Z a0 (⟨"java/util/ArrayList", "<init>", "()V"⟩ : MethodName) (g5 Z ρ n0 j0 u0) 0 :=
  ⟨pl5, (by decide), rfl, rfl, rfl, (wd hw 37 rfl), (wd hw 40 rfl), fun sig h => by cases pd5.symm.trans h; rfl⟩
abbrev g4 (Z : State) (ρ : Nat → Nat) (n0 j0 u0 : Nat) : WMC := ((Z, ρ, n0), ("com/example/chronogate/chronogate/ReleaseQueue", prog_24_method_8_code, "newArray", (some (.array (.object "com/example/chronogate/chronogate/Event"))), 1), (j0, u0, 0, 0))
theorem a4_0 : AtI prog_24_method_8_code 0 (.iload_n 0) 1 1 := ⟨by decide +kernel, rfl⟩
theorem a4_1 : AtI prog_24_method_8_code 1 (.anewarray 29) 3 4 := ⟨by decide +kernel, rfl⟩
theorem a4_4 : AtI prog_24_method_8_code 4 (.areturn) 1 5 := ⟨by decide +kernel, rfl⟩
theorem pd4 : parseMethodDescriptor "(I)[Lcom/example/chronogate/chronogate/Event;" = some ⟨[.int], some (.array (.object "com/example/chronogate/chronogate/Event"))⟩ := by decide +kernel
theorem pl4 : plainFor (⟨"com/example/chronogate/chronogate/ReleaseQueue", "newArray", "(I)[Lcom/example/chronogate/chronogate/Event;"⟩ : MethodName) = true := plainFor_of_name (by first | (simp [plainName, overriddenIn]; done) | decide +kernel)
theorem ok4 {Z : State} {a0 : Array Value} (hw : ∀ d ∈ tables_1, d.before a0 Z = true) (ρ : Nat → Nat) (n0 j0 u0 : Nat) : WCallee Z a0 (⟨"com/example/chronogate/chronogate/ReleaseQueue", "newArray", "(I)[Lcom/example/chronogate/chronogate/Event;"⟩ : MethodName) (g4 Z ρ n0 j0 u0) 1 :=
  ⟨pl4, (by decide), rfl, rfl, rfl, (wd hw 11 rfl), (wd hw 18 rfl), fun sig h => by cases pd4.symm.trans h; rfl⟩
abbrev g3 (Z : State) (ρ : Nat → Nat) (n0 j0 u0 : Nat) : WMC := ((Z, ρ, n0), ("com/example/chronogate/chronogate/ReleaseQueue", prog_24_method_1_code, "<init>", none, 1), (j0, u0, 1, 13))
theorem a3_0 : AtI prog_24_method_1_code 0 (.aload_n 0) 1 1 := ⟨by decide +kernel, rfl⟩
theorem a3_1 : AtI prog_24_method_1_code 1 (.invokespecial 1) 3 4 := ⟨by decide +kernel, rfl⟩
theorem a3_4 : AtI prog_24_method_1_code 4 (.aload_n 0) 1 5 := ⟨by decide +kernel, rfl⟩
theorem a3_5 : AtI prog_24_method_1_code 5 (.bipush 8) 2 7 := ⟨by decide +kernel, rfl⟩
theorem a3_7 : AtI prog_24_method_1_code 7 (.invokestatic 9) 3 10 := ⟨by decide +kernel, rfl⟩
theorem a3_10 : AtI prog_24_method_1_code 10 (.putfield 13) 3 13 := ⟨by decide +kernel, rfl⟩
theorem a3_13 : AtI prog_24_method_1_code 13 (.return_) 1 14 := ⟨by decide +kernel, rfl⟩
theorem pd3 : parseMethodDescriptor "()V" = some ⟨[], none⟩ := by decide +kernel
theorem pl3 : plainFor (⟨"com/example/chronogate/chronogate/ReleaseQueue", "<init>", "()V"⟩ : MethodName) = true := plainFor_of_name (by first | (simp [plainName, overriddenIn]; done) | decide +kernel)
theorem ok3 {Z : State} {a0 : Array Value} (hw : ∀ d ∈ tables_1, d.before a0 Z = true) (ρ : Nat → Nat) (n0 j0 u0 : Nat) : WCallee Z a0 (⟨"com/example/chronogate/chronogate/ReleaseQueue", "<init>", "()V"⟩ : MethodName) (g3 Z ρ n0 j0 u0) 0 :=
  ⟨pl3, (by decide), rfl, rfl, rfl, (wd hw 11 rfl), (wd hw 14 rfl), fun sig h => by cases pd3.symm.trans h; rfl⟩
abbrev g1 (Z : State) (ρ : Nat → Nat) (n0 j0 u0 : Nat) : WMC := ((Z, ρ, n0), ("com/example/chronogate/chronogate/Substream", prog_28_method_1_code, "<init>", none, 1), (j0, u0, 2, 27))
theorem a1_0 : AtI prog_28_method_1_code 0 (.aload_n 0) 1 1 := ⟨by decide +kernel, rfl⟩
theorem a1_1 : AtI prog_28_method_1_code 1 (.invokespecial 1) 3 4 := ⟨by decide +kernel, rfl⟩
theorem a1_4 : AtI prog_28_method_1_code 4 (.aload_n 0) 1 5 := ⟨by decide +kernel, rfl⟩
theorem a1_5 : AtI prog_28_method_1_code 5 (.new 7) 3 8 := ⟨by decide +kernel, rfl⟩
theorem a1_8 : AtI prog_28_method_1_code 8 (.dup) 1 9 := ⟨by decide +kernel, rfl⟩
theorem a1_9 : AtI prog_28_method_1_code 9 (.invokespecial 9) 3 12 := ⟨by decide +kernel, rfl⟩
theorem a1_12 : AtI prog_28_method_1_code 12 (.putfield 10) 3 15 := ⟨by decide +kernel, rfl⟩
theorem a1_15 : AtI prog_28_method_1_code 15 (.aload_n 0) 1 16 := ⟨by decide +kernel, rfl⟩
theorem a1_16 : AtI prog_28_method_1_code 16 (.ldc2_w 18) 3 19 := ⟨by decide +kernel, rfl⟩
theorem a1_19 : AtI prog_28_method_1_code 19 (.putfield 20) 3 22 := ⟨by decide +kernel, rfl⟩
theorem a1_22 : AtI prog_28_method_1_code 22 (.aload_n 0) 1 23 := ⟨by decide +kernel, rfl⟩
theorem a1_23 : AtI prog_28_method_1_code 23 (.ldc2_w 18) 3 26 := ⟨by decide +kernel, rfl⟩
theorem a1_26 : AtI prog_28_method_1_code 26 (.putfield 24) 3 29 := ⟨by decide +kernel, rfl⟩
theorem a1_29 : AtI prog_28_method_1_code 29 (.aload_n 0) 1 30 := ⟨by decide +kernel, rfl⟩
theorem a1_30 : AtI prog_28_method_1_code 30 (.ldc2_w 18) 3 33 := ⟨by decide +kernel, rfl⟩
theorem a1_33 : AtI prog_28_method_1_code 33 (.putfield 27) 3 36 := ⟨by decide +kernel, rfl⟩
theorem a1_36 : AtI prog_28_method_1_code 36 (.return_) 1 37 := ⟨by decide +kernel, rfl⟩
theorem pd1 : parseMethodDescriptor "()V" = some ⟨[], none⟩ := by decide +kernel
theorem pl1 : plainFor (⟨"com/example/chronogate/chronogate/Substream", "<init>", "()V"⟩ : MethodName) = true := plainFor_of_name (by first | (simp [plainName, overriddenIn]; done) | decide +kernel)
theorem ok1 {Z : State} {a0 : Array Value} (hw : ∀ d ∈ tables_1, d.before a0 Z = true) (ρ : Nat → Nat) (n0 j0 u0 : Nat) : WCallee Z a0 (⟨"com/example/chronogate/chronogate/Substream", "<init>", "()V"⟩ : MethodName) (g1 Z ρ n0 j0 u0) 0 :=
  ⟨pl1, (by decide), rfl, rfl, rfl, (wd hw 2 rfl), (wd hw 5 rfl), fun sig h => by cases pd1.symm.trans h; rfl⟩
abbrev g0 (Z : State) (ρ : Nat → Nat) (n0 j0 u0 : Nat) : WMC := ((Z, ρ, n0), ("com/example/chronogate/chronogate/SubstreamDeliveredPinLaw", code, "law", ret, maxLocals), (j0, u0, 7, 176))
theorem a0_0 : AtI code 0 (.new 17) 3 3 := ⟨by decide +kernel, rfl⟩
theorem a0_3 : AtI code 3 (.dup) 1 4 := ⟨by decide +kernel, rfl⟩
theorem a0_4 : AtI code 4 (.invokespecial 19) 3 7 := ⟨by decide +kernel, rfl⟩
theorem a0_7 : AtI code 7 (.astore 7) 2 9 := ⟨by decide +kernel, rfl⟩
theorem a0_9 : AtI code 9 (.new 20) 3 12 := ⟨by decide +kernel, rfl⟩
theorem a0_12 : AtI code 12 (.dup) 1 13 := ⟨by decide +kernel, rfl⟩
theorem a0_13 : AtI code 13 (.lload 4) 2 15 := ⟨by decide +kernel, rfl⟩
theorem a0_15 : AtI code 15 (.new 22) 3 18 := ⟨by decide +kernel, rfl⟩
theorem a0_18 : AtI code 18 (.dup) 1 19 := ⟨by decide +kernel, rfl⟩
theorem a0_19 : AtI code 19 (.invokespecial 24) 3 22 := ⟨by decide +kernel, rfl⟩
theorem a0_22 : AtI code 22 (.aconst_null) 1 23 := ⟨by decide +kernel, rfl⟩
theorem a0_23 : AtI code 23 (.lconst 0) 1 24 := ⟨by decide +kernel, rfl⟩
theorem a0_24 : AtI code 24 (.invokespecial 25) 3 27 := ⟨by decide +kernel, rfl⟩
theorem a0_27 : AtI code 27 (.astore 8) 2 29 := ⟨by decide +kernel, rfl⟩
theorem a0_29 : AtI code 29 (.aload 7) 2 31 := ⟨by decide +kernel, rfl⟩
theorem a0_31 : AtI code 31 (.invokevirtual 28) 3 34 := ⟨by decide +kernel, rfl⟩
theorem a0_34 : AtJ code 34 (.ifCond .ne) 37 41 := ⟨7, by decide +kernel, rfl, by decide, rfl⟩
theorem a0_37 : AtI code 37 (.iconst 1) 1 38 := ⟨by decide +kernel, rfl⟩
theorem a0_38 : AtJ code 38 (.goto) 41 42 := ⟨4, by decide +kernel, rfl, by decide, rfl⟩
theorem a0_41 : AtI code 41 (.iconst 0) 1 42 := ⟨by decide +kernel, rfl⟩
theorem a0_42 : AtI code 42 (.istore 9) 2 44 := ⟨by decide +kernel, rfl⟩
theorem a0_44 : AtI code 44 (.iload 6) 2 46 := ⟨by decide +kernel, rfl⟩
theorem a0_46 : AtI code 46 (.iconst 1) 1 47 := ⟨by decide +kernel, rfl⟩
theorem a0_47 : AtI code 47 (.iand) 1 48 := ⟨by decide +kernel, rfl⟩
theorem a0_48 : AtJ code 48 (.ifCond .eq) 51 58 := ⟨10, by decide +kernel, rfl, by decide, rfl⟩
theorem a0_51 : AtI code 51 (.aload 7) 2 53 := ⟨by decide +kernel, rfl⟩
theorem a0_53 : AtI code 53 (.aload 8) 2 55 := ⟨by decide +kernel, rfl⟩
theorem a0_55 : AtI code 55 (.invokevirtual 32) 3 58 := ⟨by decide +kernel, rfl⟩
theorem a0_58 : AtI code 58 (.iload 6) 2 60 := ⟨by decide +kernel, rfl⟩
theorem a0_60 : AtI code 60 (.iconst 2) 1 61 := ⟨by decide +kernel, rfl⟩
theorem a0_61 : AtI code 61 (.iand) 1 62 := ⟨by decide +kernel, rfl⟩
theorem a0_62 : AtJ code 62 (.ifCond .eq) 65 71 := ⟨9, by decide +kernel, rfl, by decide, rfl⟩
theorem a0_65 : AtI code 65 (.aload 7) 2 67 := ⟨by decide +kernel, rfl⟩
theorem a0_67 : AtI code 67 (.lload_n 2) 1 68 := ⟨by decide +kernel, rfl⟩
theorem a0_68 : AtI code 68 (.invokevirtual 36) 3 71 := ⟨by decide +kernel, rfl⟩
theorem a0_71 : AtI code 71 (.iload 9) 2 73 := ⟨by decide +kernel, rfl⟩
theorem a0_73 : AtJ code 73 (.ifCond .eq) 76 88 := ⟨15, by decide +kernel, rfl, by decide, rfl⟩
theorem a0_76 : AtI code 76 (.aload 7) 2 78 := ⟨by decide +kernel, rfl⟩
theorem a0_78 : AtI code 78 (.invokevirtual 28) 3 81 := ⟨by decide +kernel, rfl⟩
theorem a0_81 : AtJ code 81 (.ifCond .ne) 84 88 := ⟨7, by decide +kernel, rfl, by decide, rfl⟩
theorem a0_84 : AtI code 84 (.iconst 1) 1 85 := ⟨by decide +kernel, rfl⟩
theorem a0_85 : AtJ code 85 (.goto) 88 89 := ⟨4, by decide +kernel, rfl, by decide, rfl⟩
theorem a0_88 : AtI code 88 (.iconst 0) 1 89 := ⟨by decide +kernel, rfl⟩
theorem a0_89 : AtI code 89 (.istore 9) 2 91 := ⟨by decide +kernel, rfl⟩
theorem a0_91 : AtI code 91 (.iload 6) 2 93 := ⟨by decide +kernel, rfl⟩
theorem a0_93 : AtI code 93 (.iconst 4) 1 94 := ⟨by decide +kernel, rfl⟩
theorem a0_94 : AtI code 94 (.iand) 1 95 := ⟨by decide +kernel, rfl⟩
theorem a0_95 : AtJ code 95 (.ifCond .eq) 98 102 := ⟨7, by decide +kernel, rfl, by decide, rfl⟩
theorem a0_98 : AtI code 98 (.iconst 1) 1 99 := ⟨by decide +kernel, rfl⟩
theorem a0_99 : AtJ code 99 (.goto) 102 103 := ⟨4, by decide +kernel, rfl, by decide, rfl⟩
theorem a0_102 : AtI code 102 (.iconst 0) 1 103 := ⟨by decide +kernel, rfl⟩
theorem a0_103 : AtI code 103 (.istore 10) 2 105 := ⟨by decide +kernel, rfl⟩
theorem a0_105 : AtI code 105 (.iload 10) 2 107 := ⟨by decide +kernel, rfl⟩
theorem a0_107 : AtJ code 107 (.ifCond .eq) 110 189 := ⟨82, by decide +kernel, rfl, by decide, rfl⟩
theorem a0_110 : AtI code 110 (.lload_n 0) 1 111 := ⟨by decide +kernel, rfl⟩
theorem a0_111 : AtI code 111 (.invokestatic 40) 3 114 := ⟨by decide +kernel, rfl⟩
theorem a0_114 : AtI code 114 (.lstore 11) 2 116 := ⟨by decide +kernel, rfl⟩
theorem a0_116 : AtI code 116 (.aload 7) 2 118 := ⟨by decide +kernel, rfl⟩
theorem a0_118 : AtI code 118 (.lload 11) 2 120 := ⟨by decide +kernel, rfl⟩
theorem a0_120 : AtI code 120 (.invokevirtual 46) 3 123 := ⟨by decide +kernel, rfl⟩
theorem a0_123 : AtI code 123 (.iload 9) 2 125 := ⟨by decide +kernel, rfl⟩
theorem a0_125 : AtJ code 125 (.ifCond .eq) 128 140 := ⟨15, by decide +kernel, rfl, by decide, rfl⟩
theorem a0_128 : AtI code 128 (.aload 7) 2 130 := ⟨by decide +kernel, rfl⟩
theorem a0_130 : AtI code 130 (.invokevirtual 28) 3 133 := ⟨by decide +kernel, rfl⟩
theorem a0_133 : AtJ code 133 (.ifCond .eq) 136 140 := ⟨7, by decide +kernel, rfl, by decide, rfl⟩
theorem a0_136 : AtI code 136 (.iconst 1) 1 137 := ⟨by decide +kernel, rfl⟩
theorem a0_137 : AtJ code 137 (.goto) 140 141 := ⟨4, by decide +kernel, rfl, by decide, rfl⟩
theorem a0_140 : AtI code 140 (.iconst 0) 1 141 := ⟨by decide +kernel, rfl⟩
theorem a0_141 : AtI code 141 (.istore 9) 2 143 := ⟨by decide +kernel, rfl⟩
theorem a0_143 : AtI code 143 (.iload 6) 2 145 := ⟨by decide +kernel, rfl⟩
theorem a0_145 : AtI code 145 (.bipush 16) 2 147 := ⟨by decide +kernel, rfl⟩
theorem a0_147 : AtI code 147 (.iand) 1 148 := ⟨by decide +kernel, rfl⟩
theorem a0_148 : AtJ code 148 (.ifCond .eq) 151 189 := ⟨41, by decide +kernel, rfl, by decide, rfl⟩
theorem a0_151 : AtI code 151 (.lload 11) 2 153 := ⟨by decide +kernel, rfl⟩
theorem a0_153 : AtI code 153 (.lload_n 2) 1 154 := ⟨by decide +kernel, rfl⟩
theorem a0_154 : AtI code 154 (.invokestatic 40) 3 157 := ⟨by decide +kernel, rfl⟩
theorem a0_157 : AtI code 157 (.invokestatic 49) 3 160 := ⟨by decide +kernel, rfl⟩
theorem a0_160 : AtI code 160 (.lstore 13) 2 162 := ⟨by decide +kernel, rfl⟩
theorem a0_162 : AtI code 162 (.aload 7) 2 164 := ⟨by decide +kernel, rfl⟩
theorem a0_164 : AtI code 164 (.lload 13) 2 166 := ⟨by decide +kernel, rfl⟩
theorem a0_166 : AtI code 166 (.invokevirtual 46) 3 169 := ⟨by decide +kernel, rfl⟩
theorem a0_169 : AtI code 169 (.iload 9) 2 171 := ⟨by decide +kernel, rfl⟩
theorem a0_171 : AtJ code 171 (.ifCond .eq) 174 186 := ⟨15, by decide +kernel, rfl, by decide, rfl⟩
theorem a0_174 : AtI code 174 (.aload 7) 2 176 := ⟨by decide +kernel, rfl⟩
theorem a0_176 : AtI code 176 (.invokevirtual 28) 3 179 := ⟨by decide +kernel, rfl⟩
theorem a0_179 : AtJ code 179 (.ifCond .eq) 182 186 := ⟨7, by decide +kernel, rfl, by decide, rfl⟩
theorem a0_182 : AtI code 182 (.iconst 1) 1 183 := ⟨by decide +kernel, rfl⟩
theorem a0_183 : AtJ code 183 (.goto) 186 187 := ⟨4, by decide +kernel, rfl, by decide, rfl⟩
theorem a0_186 : AtI code 186 (.iconst 0) 1 187 := ⟨by decide +kernel, rfl⟩
theorem a0_187 : AtI code 187 (.istore 9) 2 189 := ⟨by decide +kernel, rfl⟩
theorem a0_189 : AtI code 189 (.iload 6) 2 191 := ⟨by decide +kernel, rfl⟩
theorem a0_191 : AtI code 191 (.bipush 8) 2 193 := ⟨by decide +kernel, rfl⟩
theorem a0_193 : AtI code 193 (.iand) 1 194 := ⟨by decide +kernel, rfl⟩
theorem a0_194 : AtJ code 194 (.ifCond .eq) 197 211 := ⟨17, by decide +kernel, rfl, by decide, rfl⟩
theorem a0_197 : AtI code 197 (.aload 7) 2 199 := ⟨by decide +kernel, rfl⟩
theorem a0_199 : AtI code 199 (.aload 8) 2 201 := ⟨by decide +kernel, rfl⟩
theorem a0_201 : AtI code 201 (.invokevirtual 32) 3 204 := ⟨by decide +kernel, rfl⟩
theorem a0_204 : AtI code 204 (.aload 7) 2 206 := ⟨by decide +kernel, rfl⟩
theorem a0_206 : AtI code 206 (.lload 4) 2 208 := ⟨by decide +kernel, rfl⟩
theorem a0_208 : AtI code 208 (.invokevirtual 36) 3 211 := ⟨by decide +kernel, rfl⟩
theorem a0_211 : AtI code 211 (.iload 9) 2 213 := ⟨by decide +kernel, rfl⟩
theorem a0_213 : AtJ code 213 (.ifCond .eq) 216 230 := ⟨17, by decide +kernel, rfl, by decide, rfl⟩
theorem a0_216 : AtI code 216 (.aload 7) 2 218 := ⟨by decide +kernel, rfl⟩
theorem a0_218 : AtI code 218 (.invokevirtual 28) 3 221 := ⟨by decide +kernel, rfl⟩
theorem a0_221 : AtI code 221 (.iload 10) 2 223 := ⟨by decide +kernel, rfl⟩
theorem a0_223 : AtJ code 223 (.if_icmp .ne) 226 230 := ⟨7, by decide +kernel, rfl, by decide, rfl⟩
theorem a0_226 : AtI code 226 (.iconst 1) 1 227 := ⟨by decide +kernel, rfl⟩
theorem a0_227 : AtJ code 227 (.goto) 230 231 := ⟨4, by decide +kernel, rfl, by decide, rfl⟩
theorem a0_230 : AtI code 230 (.iconst 0) 1 231 := ⟨by decide +kernel, rfl⟩
theorem a0_231 : AtI code 231 (.istore 9) 2 233 := ⟨by decide +kernel, rfl⟩
theorem a0_233 : AtI code 233 (.iload 9) 2 235 := ⟨by decide +kernel, rfl⟩
theorem a0_235 : AtI code 235 (.ireturn) 1 236 := ⟨by decide +kernel, rfl⟩
theorem cmax {Z : State} {a0 : Array Value} (hw : ∀ d ∈ tables_1, d.before a0 Z = true) (ρ : Nat → Nat) (n0 : Nat) (x y : Int64) (σ : WHp) (u : Nat) : WGo (g11 Z ρ n0 σ.length u) (0, [wJ x, wS, wJ y, wS], [], σ, u) (fun v σ' u' => (∃ z, v = some (.long z) ∧ (z = x ∨ z = y)) ∧ σ = σ' ∧ u = u') := by
  refine .s (.lloadN a11_0 rfl) <| .s (.lloadN a11_1 rfl) <| .s (.lcmp a11_2) ?_
  refine .ltL a11_3 (fun h3 => ?_) (fun h3 => ?_)
  · refine .s (.lloadN a11_10 rfl) ?_
    refine .lreturn a11_11 rfl ?_
    exact ⟨⟨_, rfl, Or.inr rfl⟩, rfl, rfl⟩
  · refine .s (.lloadN a11_6 rfl) <| .s (.goto a11_7) ?_
    refine .lreturn a11_11 rfl ?_
    exact ⟨⟨_, rfl, Or.inl rfl⟩, rfl, rfl⟩
set_option maxHeartbeats 4000000 in
theorem au13_1 {Z : State} {a0 : Array Value} (hw : ∀ d ∈ tables_1, d.before a0 Z = true) (ρ : Nat → Nat) (n0 : Nat) (ts : Int64) (hS : Sta Z Z.heap "java/util/ArrayList" "DEFAULTCAPACITY_EMPTY_ELEMENTDATA" "[Ljava/lang/Object;" (.ref (ρ 1000))) (hn : Z.heap.size ≤ n0) (u : Nat) : WGo (g13 Z ρ n0 5 u) (0, [wR 1, wR 3, wU, wU], [], [(.inr (cn0, [(fk0, .ref 1), (fk1, (.long la)), (fk2, (.long lt)), (fk3, (.long pu)), (fk4, (.long ad))])), (.inr (cn1, [(fk5, .ref 2), (fk6, .int 0)])), (.inl ((.object "com/example/chronogate/chronogate/Event"), [.null, .null, .null, .null, .null, .null, .null, .null])), (.inr (cn2, [(fk7, (.long ts)), (fk8, .ref 4), (fk9, .null), (fk10, .long 0)])), (.inr (cn3, [(fk11, .int 0), (fk12, .ref 1000)]))], u) (fun v σ' u' => v = none ∧ [(.inr (cn0, [(fk0, .ref 1), (fk1, (.long la)), (fk2, (.long lt)), (fk3, (.long pu)), (fk4, (.long ad))])), (.inr (cn1, [(fk5, .ref 2), (fk6, .int 1)])), (.inl ((.object "com/example/chronogate/chronogate/Event"), [.ref 3, .null, .null, .null, .null, .null, .null, .null])), (.inr (cn2, [(fk7, (.long ts)), (fk8, .ref 4), (fk9, .null), (fk10, .long 0)])), (.inr (cn3, [(fk11, .int 0), (fk12, .ref 1000)]))] = σ' ∧ u = u') := by
  refine .s (.aloadN a13_0 rfl rfl) <| .s (.getF 1 a13_1 (wd hw 95 rfl) rfl rfl) <| .s (.aloadN a13_4 rfl rfl) <| .s (.getF 0 a13_5 (wd hw 21 rfl) rfl rfl) <| .s (.alen (8 : Int32) a13_8 rfl rfl) <| .s (.icmpT a13_9 (by decide)) <| .s (.aloadN a13_32 rfl rfl) ?_
  refine .s (.dup a13_33 rfl) <| .s (.getF 1 a13_34 (wd hw 95 rfl) rfl rfl) <| .s (.dupX1 a13_37 rfl rfl) <| .s (.iconst (1 : Int32) a13_38 rfl) <| .s (.iadd a13_39) ?_
  show WGo _ (40, [wR 1, wR 3, wU, wU], [.int 1, .ref 1, .int 0], [(.inr (cn0, [(fk0, .ref 1), (fk1, (.long la)), (fk2, (.long lt)), (fk3, (.long pu)), (fk4, (.long ad))])), (.inr (cn1, [(fk5, .ref 2), (fk6, .int 0)])), (.inl ((.object "com/example/chronogate/chronogate/Event"), [.null, .null, .null, .null, .null, .null, .null, .null])), (.inr (cn2, [(fk7, (.long ts)), (fk8, .ref 4), (fk9, .null), (fk10, .long 0)])), (.inr (cn3, [(fk11, .int 0), (fk12, .ref 1000)]))], u) _
  refine .s (.putF (ty := .int) 1 (.int 1) a13_40 (wd hw 95 rfl) rfl rfl (Or.inl (wd hw 96 rfl)) (wd hw 10 rfl) (by decide) rfl rfl) ?_
  show WGo _ (43, [wR 1, wR 3, wU, wU], [.int 0], [(.inr (cn0, [(fk0, .ref 1), (fk1, (.long la)), (fk2, (.long lt)), (fk3, (.long pu)), (fk4, (.long ad))])), (.inr (cn1, [(fk5, .ref 2), (fk6, .int 1)])), (.inl ((.object "com/example/chronogate/chronogate/Event"), [.null, .null, .null, .null, .null, .null, .null, .null])), (.inr (cn2, [(fk7, (.long ts)), (fk8, .ref 4), (fk9, .null), (fk10, .long 0)])), (.inr (cn3, [(fk11, .int 0), (fk12, .ref 1000)]))], u) _
  refine .s (.istoreN (L' := [wR 1, wR 3, wI 0, wU]) a13_43 rfl) <| .s (.iloadN a13_44 rfl) <| .s (.ifT a13_45 (by decide)) <| .s (.aloadN a13_87 rfl rfl) <| .s (.getF 0 a13_88 (wd hw 21 rfl) rfl rfl) <| .s (.iloadN a13_91 rfl) <| .s (.aloadN a13_92 rfl rfl) ?_
  refine .s (.aastore 0 a13_93 rfl rfl (by decide) rfl (Nat.le_of_ble_eq_true rfl)) ?_
  show WGo _ (94, [wR 1, wR 3, wI 0, wU], [], [(.inr (cn0, [(fk0, .ref 1), (fk1, (.long la)), (fk2, (.long lt)), (fk3, (.long pu)), (fk4, (.long ad))])), (.inr (cn1, [(fk5, .ref 2), (fk6, .int 1)])), (.inl ((.object "com/example/chronogate/chronogate/Event"), [.ref 3, .null, .null, .null, .null, .null, .null, .null])), (.inr (cn2, [(fk7, (.long ts)), (fk8, .ref 4), (fk9, .null), (fk10, .long 0)])), (.inr (cn3, [(fk11, .int 0), (fk12, .ref 1000)]))], u) _
  refine .vreturn a13_94 rfl ?_
  exact ⟨rfl, rfl, rfl⟩
set_option maxHeartbeats 4000000 in
theorem au14_2 {Z : State} {a0 : Array Value} (hw : ∀ d ∈ tables_1, d.before a0 Z = true) (ρ : Nat → Nat) (n0 : Nat) (ts : Int64) (hS : Sta Z Z.heap "java/util/ArrayList" "DEFAULTCAPACITY_EMPTY_ELEMENTDATA" "[Ljava/lang/Object;" (.ref (ρ 1000))) (hn : Z.heap.size ≤ n0) (u : Nat) : WGo (g14 Z ρ n0 5 u) (0, [wR 3], [], [(.inr (cn0, [(fk0, .ref 1), (fk1, (.long la)), (fk2, (.long lt)), (fk3, (.long pu)), (fk4, (.long ad))])), (.inr (cn1, [(fk5, .ref 2), (fk6, .int 1)])), (.inl ((.object "com/example/chronogate/chronogate/Event"), [.ref 3, .null, .null, .null, .null, .null, .null, .null])), (.inr (cn2, [(fk7, (.long ts)), (fk8, .ref 4), (fk9, .null), (fk10, .long 0)])), (.inr (cn3, [(fk11, .int 0), (fk12, .ref 1000)]))], u) (fun v σ' u' => v = some ((.long ts)) ∧ [(.inr (cn0, [(fk0, .ref 1), (fk1, (.long la)), (fk2, (.long lt)), (fk3, (.long pu)), (fk4, (.long ad))])), (.inr (cn1, [(fk5, .ref 2), (fk6, .int 1)])), (.inl ((.object "com/example/chronogate/chronogate/Event"), [.ref 3, .null, .null, .null, .null, .null, .null, .null])), (.inr (cn2, [(fk7, (.long ts)), (fk8, .ref 4), (fk9, .null), (fk10, .long 0)])), (.inr (cn3, [(fk11, .int 0), (fk12, .ref 1000)]))] = σ' ∧ u = u') := by
  refine .s (.aloadN a14_0 rfl rfl) <| .s (.getF 0 a14_1 (wd hw 63 rfl) rfl rfl) ?_
  refine .lreturn a14_4 rfl ?_
  exact ⟨rfl, rfl, rfl⟩
theorem cadd0 {Z : State} {a0 : Array Value} (hw : ∀ d ∈ tables_1, d.before a0 Z = true) (ρ : Nat → Nat) (n0 : Nat) (hS : Sta Z Z.heap "java/util/ArrayList" "DEFAULTCAPACITY_EMPTY_ELEMENTDATA" "[Ljava/lang/Object;" (.ref (ρ 1000))) (hn : Z.heap.size ≤ n0) (ts la lt ad pu : Int64) (u : Nat) : WGo (g12 Z ρ n0 5 u) (0, [wR 0, wR 3], [], [(.inr (cn0, [(fk0, .ref 1), (fk1, (.long la)), (fk2, (.long lt)), (fk3, (.long pu)), (fk4, (.long ad))])), (.inr (cn1, [(fk5, .ref 2), (fk6, .int 0)])), (.inl ((.object "com/example/chronogate/chronogate/Event"), [.null, .null, .null, .null, .null, .null, .null, .null])), (.inr (cn2, [(fk7, (.long ts)), (fk8, .ref 4), (fk9, .null), (fk10, .long 0)])), (.inr (cn3, [(fk11, .int 0), (fk12, .ref 1000)]))], u) (fun v σ' u' => ∃ z, v = none ∧ [(.inr (cn0, [(fk0, .ref 1), (fk1, (.long z)), (fk2, (.long lt)), (fk3, (.long pu)), (fk4, (.long (ad + (1 : Int64))))])), (.inr (cn1, [(fk5, .ref 2), (fk6, .int 1)])), (.inl ((.object "com/example/chronogate/chronogate/Event"), [.ref 3, .null, .null, .null, .null, .null, .null, .null])), (.inr (cn2, [(fk7, (.long ts)), (fk8, .ref 4), (fk9, .null), (fk10, .long 0)])), (.inr (cn3, [(fk11, .int 0), (fk12, .ref 1000)]))] = σ' ∧ u = u') := by
  refine .s (.aloadN a12_0 rfl rfl) <| .s (.getF 0 a12_1 (wd hw 23 rfl) rfl rfl) <| .s (.aloadN a12_4 rfl rfl) ?_
  refine .callV (k := 1) (z := (⟨"com/example/chronogate/chronogate/ReleaseQueue", "add", "(Lcom/example/chronogate/chronogate/Event;)V"⟩ : MethodName)) a12_5 (ok13 hw _ _ _ _) ⟨rfl, by decide⟩ (wd hw 90 rfl) (wd hw 91 rfl) (fun s hZ => notFace_of_selects (args := #[]) (mvT hZ (wd hw 93 rfl))) (wd hw 93 rfl) (wd hw 92 rfl) rfl (argsL := [.ref 3]) (S := []) (au13_1 hw _ _ ts hS hn _) rfl rfl rfl rfl rfl rfl (Nat.le_of_ble_eq_true rfl) (Nat.le_of_ble_eq_true rfl) ?_
  rintro _ _ _ ⟨rfl, rfl, rfl⟩
  show WGo _ (8, [wR 0, wR 3], [], [(.inr (cn0, [(fk0, .ref 1), (fk1, (.long la)), (fk2, (.long lt)), (fk3, (.long pu)), (fk4, (.long ad))])), (.inr (cn1, [(fk5, .ref 2), (fk6, .int 1)])), (.inl ((.object "com/example/chronogate/chronogate/Event"), [.ref 3, .null, .null, .null, .null, .null, .null, .null])), (.inr (cn2, [(fk7, (.long ts)), (fk8, .ref 4), (fk9, .null), (fk10, .long 0)])), (.inr (cn3, [(fk11, .int 0), (fk12, .ref 1000)]))], u) _
  refine .s (.aloadN a12_8 rfl rfl) <| .s (.aloadN a12_9 rfl rfl) <| .s (.getF 1 a12_10 (wd hw 26 rfl) rfl rfl) <| .s (.aloadN a12_13 rfl rfl) ?_
  refine .callV (k := 3) (z := (⟨"com/example/chronogate/chronogate/Event", "timestamp", "()J"⟩ : MethodName)) a12_14 (ok14 hw _ _ _ _) ⟨rfl, by decide⟩ (wd hw 98 rfl) (wd hw 99 rfl) (fun s hZ => notFace_of_selects (args := #[]) (mvT hZ (wd hw 101 rfl))) (wd hw 101 rfl) (wd hw 100 rfl) rfl (argsL := []) (S := [(.long la), .ref 0]) (au14_2 hw _ _ ts hS hn _) rfl rfl rfl rfl rfl rfl (Nat.le_of_ble_eq_true rfl) (Nat.le_of_ble_eq_true rfl) ?_
  rintro _ _ _ ⟨rfl, rfl, rfl⟩
  show WGo _ (17, [wR 0, wR 3], [(.long ts), (.long la), .ref 0], [(.inr (cn0, [(fk0, .ref 1), (fk1, (.long la)), (fk2, (.long lt)), (fk3, (.long pu)), (fk4, (.long ad))])), (.inr (cn1, [(fk5, .ref 2), (fk6, .int 1)])), (.inl ((.object "com/example/chronogate/chronogate/Event"), [.ref 3, .null, .null, .null, .null, .null, .null, .null])), (.inr (cn2, [(fk7, (.long ts)), (fk8, .ref 4), (fk9, .null), (fk10, .long 0)])), (.inr (cn3, [(fk11, .int 0), (fk12, .ref 1000)]))], u) _
  refine .callS a12_17 (ok11 hw _ _ _ _) (wd hw 81 rfl) (wd hw 82 rfl) (argsL := [(.long la), (.long ts)]) (S := [.ref 0]) (cmax hw _ _ la ts _ _) rfl rfl rfl rfl rfl rfl (Nat.le_of_ble_eq_true rfl) (Nat.le_of_ble_eq_true rfl) ?_
  rintro _ _ _ ⟨⟨z1, rfl, hz1⟩, rfl, rfl⟩
  show WGo _ (20, [wR 0, wR 3], [(.long z1), .ref 0], [(.inr (cn0, [(fk0, .ref 1), (fk1, (.long la)), (fk2, (.long lt)), (fk3, (.long pu)), (fk4, (.long ad))])), (.inr (cn1, [(fk5, .ref 2), (fk6, .int 1)])), (.inl ((.object "com/example/chronogate/chronogate/Event"), [.ref 3, .null, .null, .null, .null, .null, .null, .null])), (.inr (cn2, [(fk7, (.long ts)), (fk8, .ref 4), (fk9, .null), (fk10, .long 0)])), (.inr (cn3, [(fk11, .int 0), (fk12, .ref 1000)]))], u) _
  refine .s (.putF (ty := .long) 1 ((.long z1)) a12_20 (wd hw 26 rfl) rfl rfl (Or.inl (wd hw 27 rfl)) (wd hw 1 rfl) (by decide) rfl rfl) ?_
  show WGo _ (23, [wR 0, wR 3], [], [(.inr (cn0, [(fk0, .ref 1), (fk1, (.long z1)), (fk2, (.long lt)), (fk3, (.long pu)), (fk4, (.long ad))])), (.inr (cn1, [(fk5, .ref 2), (fk6, .int 1)])), (.inl ((.object "com/example/chronogate/chronogate/Event"), [.ref 3, .null, .null, .null, .null, .null, .null, .null])), (.inr (cn2, [(fk7, (.long ts)), (fk8, .ref 4), (fk9, .null), (fk10, .long 0)])), (.inr (cn3, [(fk11, .int 0), (fk12, .ref 1000)]))], u) _
  refine .s (.aloadN a12_23 rfl rfl) <| .s (.dup a12_24 rfl) <| .s (.getF 4 a12_25 (wd hw 103 rfl) rfl rfl) <| .s (.lconst (1 : Int64) a12_28 rfl) <| .s (.ladd a12_29) <| .s (.putF (ty := .long) 4 ((.long (ad + (1 : Int64)))) a12_30 (wd hw 103 rfl) rfl rfl (Or.inl (wd hw 104 rfl)) (wd hw 1 rfl) (by decide) rfl rfl) ?_
  show WGo _ (33, [wR 0, wR 3], [], [(.inr (cn0, [(fk0, .ref 1), (fk1, (.long z1)), (fk2, (.long lt)), (fk3, (.long pu)), (fk4, (.long (ad + (1 : Int64))))])), (.inr (cn1, [(fk5, .ref 2), (fk6, .int 1)])), (.inl ((.object "com/example/chronogate/chronogate/Event"), [.ref 3, .null, .null, .null, .null, .null, .null, .null])), (.inr (cn2, [(fk7, (.long ts)), (fk8, .ref 4), (fk9, .null), (fk10, .long 0)])), (.inr (cn3, [(fk11, .int 0), (fk12, .ref 1000)]))], u) _
  refine .vreturn a12_33 rfl ?_
  exact ⟨_, rfl, rfl, rfl⟩
set_option maxHeartbeats 4000000 in
theorem au18_5 {Z : State} {a0 : Array Value} (hw : ∀ d ∈ tables_1, d.before a0 Z = true) (ρ : Nat → Nat) (n0 : Nat) (ts : Int64) (hS : Sta Z Z.heap "java/util/ArrayList" "DEFAULTCAPACITY_EMPTY_ELEMENTDATA" "[Ljava/lang/Object;" (.ref (ρ 1000))) (hn : Z.heap.size ≤ n0) (u : Nat) : WGo (g18 Z ρ n0 5 u) (0, [wJ ts, wS, wJ ts, wS], [], [(.inr (cn0, [(fk0, .ref 1), (fk1, (.long la)), (fk2, (.long lt)), (fk3, (.long pu)), (fk4, (.long ad))])), (.inr (cn1, [(fk5, .ref 2), (fk6, .int 2)])), (.inl ((.object "com/example/chronogate/chronogate/Event"), [.ref 3, .null, .null, .null, .null, .null, .null, .null])), (.inr (cn2, [(fk7, (.long ts)), (fk8, .ref 4), (fk9, .null), (fk10, .long 0)])), (.inr (cn3, [(fk11, .int 0), (fk12, .ref 1000)]))], u) (fun v σ' u' => v = some (.int 0) ∧ [(.inr (cn0, [(fk0, .ref 1), (fk1, (.long la)), (fk2, (.long lt)), (fk3, (.long pu)), (fk4, (.long ad))])), (.inr (cn1, [(fk5, .ref 2), (fk6, .int 2)])), (.inl ((.object "com/example/chronogate/chronogate/Event"), [.ref 3, .null, .null, .null, .null, .null, .null, .null])), (.inr (cn2, [(fk7, (.long ts)), (fk8, .ref 4), (fk9, .null), (fk10, .long 0)])), (.inr (cn3, [(fk11, .int 0), (fk12, .ref 1000)]))] = σ' ∧ u = u') := by
  refine .s (.lloadN a18_0 rfl) <| .s (.lloadN a18_1 rfl) <| .s (.lcmp a18_2) <| .s (.ifT a18_3 (flt (fun q => Int64.lt_irrefl ((lw_lt _ _).mp q))).2.1) <| .s (.lloadN a18_10 rfl) <| .s (.lloadN a18_11 rfl) <| .s (.lcmp a18_12) ?_
  refine .s (.ifF a18_13 (teq ((lw_eq _ _).mpr rfl)).2) <| .s (.iconst (0 : Int32) a18_16 rfl) <| .s (.goto a18_17) ?_
  refine .ireturn .int a18_21 rfl (by simp) ?_
  exact ⟨rfl, rfl, rfl⟩
set_option maxHeartbeats 4000000 in
theorem au18_6 {Z : State} {a0 : Array Value} (hw : ∀ d ∈ tables_1, d.before a0 Z = true) (ρ : Nat → Nat) (n0 : Nat) (ts : Int64) (hS : Sta Z Z.heap "java/util/ArrayList" "DEFAULTCAPACITY_EMPTY_ELEMENTDATA" "[Ljava/lang/Object;" (.ref (ρ 1000))) (hn : Z.heap.size ≤ n0) (u : Nat) : WGo (g18 Z ρ n0 5 u) (0, [wJ 0, wS, wJ 0, wS], [], [(.inr (cn0, [(fk0, .ref 1), (fk1, (.long la)), (fk2, (.long lt)), (fk3, (.long pu)), (fk4, (.long ad))])), (.inr (cn1, [(fk5, .ref 2), (fk6, .int 2)])), (.inl ((.object "com/example/chronogate/chronogate/Event"), [.ref 3, .null, .null, .null, .null, .null, .null, .null])), (.inr (cn2, [(fk7, (.long ts)), (fk8, .ref 4), (fk9, .null), (fk10, .long 0)])), (.inr (cn3, [(fk11, .int 0), (fk12, .ref 1000)]))], u) (fun v σ' u' => v = some (.int 0) ∧ [(.inr (cn0, [(fk0, .ref 1), (fk1, (.long la)), (fk2, (.long lt)), (fk3, (.long pu)), (fk4, (.long ad))])), (.inr (cn1, [(fk5, .ref 2), (fk6, .int 2)])), (.inl ((.object "com/example/chronogate/chronogate/Event"), [.ref 3, .null, .null, .null, .null, .null, .null, .null])), (.inr (cn2, [(fk7, (.long ts)), (fk8, .ref 4), (fk9, .null), (fk10, .long 0)])), (.inr (cn3, [(fk11, .int 0), (fk12, .ref 1000)]))] = σ' ∧ u = u') := by
  refine .s (.lloadN a18_0 rfl) <| .s (.lloadN a18_1 rfl) <| .s (.lcmp a18_2) ?_
  show WGo _ (3, [wJ 0, wS, wJ 0, wS], [.int 0], [(.inr (cn0, [(fk0, .ref 1), (fk1, (.long la)), (fk2, (.long lt)), (fk3, (.long pu)), (fk4, (.long ad))])), (.inr (cn1, [(fk5, .ref 2), (fk6, .int 2)])), (.inl ((.object "com/example/chronogate/chronogate/Event"), [.ref 3, .null, .null, .null, .null, .null, .null, .null])), (.inr (cn2, [(fk7, (.long ts)), (fk8, .ref 4), (fk9, .null), (fk10, .long 0)])), (.inr (cn3, [(fk11, .int 0), (fk12, .ref 1000)]))], u) _
  refine .s (.ifT a18_3 (by decide)) <| .s (.lloadN a18_10 rfl) <| .s (.lloadN a18_11 rfl) <| .s (.lcmp a18_12) ?_
  show WGo _ (13, [wJ 0, wS, wJ 0, wS], [.int 0], [(.inr (cn0, [(fk0, .ref 1), (fk1, (.long la)), (fk2, (.long lt)), (fk3, (.long pu)), (fk4, (.long ad))])), (.inr (cn1, [(fk5, .ref 2), (fk6, .int 2)])), (.inl ((.object "com/example/chronogate/chronogate/Event"), [.ref 3, .null, .null, .null, .null, .null, .null, .null])), (.inr (cn2, [(fk7, (.long ts)), (fk8, .ref 4), (fk9, .null), (fk10, .long 0)])), (.inr (cn3, [(fk11, .int 0), (fk12, .ref 1000)]))], u) _
  refine .s (.ifF a18_13 (by decide)) <| .s (.iconst (0 : Int32) a18_16 rfl) <| .s (.goto a18_17) ?_
  refine .ireturn .int a18_21 rfl (by simp) ?_
  exact ⟨rfl, rfl, rfl⟩
set_option maxHeartbeats 4000000 in
theorem au17_4 {Z : State} {a0 : Array Value} (hw : ∀ d ∈ tables_1, d.before a0 Z = true) (ρ : Nat → Nat) (n0 : Nat) (ts : Int64) (hS : Sta Z Z.heap "java/util/ArrayList" "DEFAULTCAPACITY_EMPTY_ELEMENTDATA" "[Ljava/lang/Object;" (.ref (ρ 1000))) (hn : Z.heap.size ≤ n0) (u : Nat) : WGo (g17 Z ρ n0 5 u) (0, [wR 3, wR 3, wU], [], [(.inr (cn0, [(fk0, .ref 1), (fk1, (.long la)), (fk2, (.long lt)), (fk3, (.long pu)), (fk4, (.long ad))])), (.inr (cn1, [(fk5, .ref 2), (fk6, .int 2)])), (.inl ((.object "com/example/chronogate/chronogate/Event"), [.ref 3, .null, .null, .null, .null, .null, .null, .null])), (.inr (cn2, [(fk7, (.long ts)), (fk8, .ref 4), (fk9, .null), (fk10, .long 0)])), (.inr (cn3, [(fk11, .int 0), (fk12, .ref 1000)]))], u) (fun v σ' u' => v = some (.int 0) ∧ [(.inr (cn0, [(fk0, .ref 1), (fk1, (.long la)), (fk2, (.long lt)), (fk3, (.long pu)), (fk4, (.long ad))])), (.inr (cn1, [(fk5, .ref 2), (fk6, .int 2)])), (.inl ((.object "com/example/chronogate/chronogate/Event"), [.ref 3, .null, .null, .null, .null, .null, .null, .null])), (.inr (cn2, [(fk7, (.long ts)), (fk8, .ref 4), (fk9, .null), (fk10, .long 0)])), (.inr (cn3, [(fk11, .int 0), (fk12, .ref 1000)]))] = σ' ∧ u = u') := by
  refine .s (.aloadN a17_0 rfl rfl) <| .s (.getF 0 a17_1 (wd hw 63 rfl) rfl rfl) <| .s (.aloadN a17_4 rfl rfl) <| .s (.getF 0 a17_5 (wd hw 63 rfl) rfl rfl) ?_
  refine .callS a17_8 (ok18 hw _ _ _ _) (wd hw 121 rfl) (wd hw 122 rfl) (argsL := [(.long ts), (.long ts)]) (S := []) (au18_5 hw _ _ ts hS hn _) rfl rfl rfl rfl rfl rfl (Nat.le_of_ble_eq_true rfl) (Nat.le_of_ble_eq_true rfl) ?_
  rintro _ _ _ ⟨rfl, rfl, rfl⟩
  show WGo _ (11, [wR 3, wR 3, wU], [.int 0], [(.inr (cn0, [(fk0, .ref 1), (fk1, (.long la)), (fk2, (.long lt)), (fk3, (.long pu)), (fk4, (.long ad))])), (.inr (cn1, [(fk5, .ref 2), (fk6, .int 2)])), (.inl ((.object "com/example/chronogate/chronogate/Event"), [.ref 3, .null, .null, .null, .null, .null, .null, .null])), (.inr (cn2, [(fk7, (.long ts)), (fk8, .ref 4), (fk9, .null), (fk10, .long 0)])), (.inr (cn3, [(fk11, .int 0), (fk12, .ref 1000)]))], u) _
  refine .s (.istoreN (L' := [wR 3, wR 3, wI 0]) a17_11 rfl) <| .s (.iloadN a17_12 rfl) <| .s (.ifT a17_13 (by decide)) <| .s (.aloadN a17_20 rfl rfl) <| .s (.getF 3 a17_21 (wd hw 69 rfl) rfl rfl) <| .s (.aloadN a17_24 rfl rfl) <| .s (.getF 3 a17_25 (wd hw 69 rfl) rfl rfl) ?_
  refine .callS a17_28 (ok18 hw _ _ _ _) (wd hw 121 rfl) (wd hw 122 rfl) (argsL := [.long 0, .long 0]) (S := []) (au18_6 hw _ _ ts hS hn _) rfl rfl rfl rfl rfl rfl (Nat.le_of_ble_eq_true rfl) (Nat.le_of_ble_eq_true rfl) ?_
  rintro _ _ _ ⟨rfl, rfl, rfl⟩
  show WGo _ (31, [wR 3, wR 3, wI 0], [.int 0], [(.inr (cn0, [(fk0, .ref 1), (fk1, (.long la)), (fk2, (.long lt)), (fk3, (.long pu)), (fk4, (.long ad))])), (.inr (cn1, [(fk5, .ref 2), (fk6, .int 2)])), (.inl ((.object "com/example/chronogate/chronogate/Event"), [.ref 3, .null, .null, .null, .null, .null, .null, .null])), (.inr (cn2, [(fk7, (.long ts)), (fk8, .ref 4), (fk9, .null), (fk10, .long 0)])), (.inr (cn3, [(fk11, .int 0), (fk12, .ref 1000)]))], u) _
  refine .ireturn .int a17_31 rfl (by simp) ?_
  exact ⟨rfl, rfl, rfl⟩
set_option maxHeartbeats 4000000 in
theorem au13_3 {Z : State} {a0 : Array Value} (hw : ∀ d ∈ tables_1, d.before a0 Z = true) (ρ : Nat → Nat) (n0 : Nat) (ts : Int64) (hS : Sta Z Z.heap "java/util/ArrayList" "DEFAULTCAPACITY_EMPTY_ELEMENTDATA" "[Ljava/lang/Object;" (.ref (ρ 1000))) (hn : Z.heap.size ≤ n0) (u : Nat) : WGo (g13 Z ρ n0 5 u) (0, [wR 1, wR 3, wU, wU], [], [(.inr (cn0, [(fk0, .ref 1), (fk1, (.long la)), (fk2, (.long lt)), (fk3, (.long pu)), (fk4, (.long ad))])), (.inr (cn1, [(fk5, .ref 2), (fk6, .int 1)])), (.inl ((.object "com/example/chronogate/chronogate/Event"), [.ref 3, .null, .null, .null, .null, .null, .null, .null])), (.inr (cn2, [(fk7, (.long ts)), (fk8, .ref 4), (fk9, .null), (fk10, .long 0)])), (.inr (cn3, [(fk11, .int 0), (fk12, .ref 1000)]))], u) (fun v σ' u' => v = none ∧ [(.inr (cn0, [(fk0, .ref 1), (fk1, (.long la)), (fk2, (.long lt)), (fk3, (.long pu)), (fk4, (.long ad))])), (.inr (cn1, [(fk5, .ref 2), (fk6, .int 2)])), (.inl ((.object "com/example/chronogate/chronogate/Event"), [.ref 3, .ref 3, .null, .null, .null, .null, .null, .null])), (.inr (cn2, [(fk7, (.long ts)), (fk8, .ref 4), (fk9, .null), (fk10, .long 0)])), (.inr (cn3, [(fk11, .int 0), (fk12, .ref 1000)]))] = σ' ∧ u = u') := by
  refine .s (.aloadN a13_0 rfl rfl) <| .s (.getF 1 a13_1 (wd hw 95 rfl) rfl rfl) <| .s (.aloadN a13_4 rfl rfl) <| .s (.getF 0 a13_5 (wd hw 21 rfl) rfl rfl) <| .s (.alen (8 : Int32) a13_8 rfl rfl) <| .s (.icmpT a13_9 (by decide)) <| .s (.aloadN a13_32 rfl rfl) ?_
  refine .s (.dup a13_33 rfl) <| .s (.getF 1 a13_34 (wd hw 95 rfl) rfl rfl) <| .s (.dupX1 a13_37 rfl rfl) <| .s (.iconst (1 : Int32) a13_38 rfl) <| .s (.iadd a13_39) ?_
  show WGo _ (40, [wR 1, wR 3, wU, wU], [.int 2, .ref 1, .int 1], [(.inr (cn0, [(fk0, .ref 1), (fk1, (.long la)), (fk2, (.long lt)), (fk3, (.long pu)), (fk4, (.long ad))])), (.inr (cn1, [(fk5, .ref 2), (fk6, .int 1)])), (.inl ((.object "com/example/chronogate/chronogate/Event"), [.ref 3, .null, .null, .null, .null, .null, .null, .null])), (.inr (cn2, [(fk7, (.long ts)), (fk8, .ref 4), (fk9, .null), (fk10, .long 0)])), (.inr (cn3, [(fk11, .int 0), (fk12, .ref 1000)]))], u) _
  refine .s (.putF (ty := .int) 1 (.int 2) a13_40 (wd hw 95 rfl) rfl rfl (Or.inl (wd hw 96 rfl)) (wd hw 10 rfl) (by decide) rfl rfl) ?_
  show WGo _ (43, [wR 1, wR 3, wU, wU], [.int 1], [(.inr (cn0, [(fk0, .ref 1), (fk1, (.long la)), (fk2, (.long lt)), (fk3, (.long pu)), (fk4, (.long ad))])), (.inr (cn1, [(fk5, .ref 2), (fk6, .int 2)])), (.inl ((.object "com/example/chronogate/chronogate/Event"), [.ref 3, .null, .null, .null, .null, .null, .null, .null])), (.inr (cn2, [(fk7, (.long ts)), (fk8, .ref 4), (fk9, .null), (fk10, .long 0)])), (.inr (cn3, [(fk11, .int 0), (fk12, .ref 1000)]))], u) _
  refine .s (.istoreN (L' := [wR 1, wR 3, wI 1, wU]) a13_43 rfl) <| .s (.iloadN a13_44 rfl) <| .s (.ifF a13_45 (by decide)) <| .s (.iloadN a13_48 rfl) <| .s (.iconst (1 : Int32) a13_49 rfl) <| .s (.isub a13_50) ?_
  show WGo _ (51, [wR 1, wR 3, wI 1, wU], [.int 0], [(.inr (cn0, [(fk0, .ref 1), (fk1, (.long la)), (fk2, (.long lt)), (fk3, (.long pu)), (fk4, (.long ad))])), (.inr (cn1, [(fk5, .ref 2), (fk6, .int 2)])), (.inl ((.object "com/example/chronogate/chronogate/Event"), [.ref 3, .null, .null, .null, .null, .null, .null, .null])), (.inr (cn2, [(fk7, (.long ts)), (fk8, .ref 4), (fk9, .null), (fk10, .long 0)])), (.inr (cn3, [(fk11, .int 0), (fk12, .ref 1000)]))], u) _
  refine .s (.iconst (2 : Int32) a13_51 rfl) <| .s (.idiv a13_52 (by decide)) ?_
  show WGo _ (53, [wR 1, wR 3, wI 1, wU], [.int 0], [(.inr (cn0, [(fk0, .ref 1), (fk1, (.long la)), (fk2, (.long lt)), (fk3, (.long pu)), (fk4, (.long ad))])), (.inr (cn1, [(fk5, .ref 2), (fk6, .int 2)])), (.inl ((.object "com/example/chronogate/chronogate/Event"), [.ref 3, .null, .null, .null, .null, .null, .null, .null])), (.inr (cn2, [(fk7, (.long ts)), (fk8, .ref 4), (fk9, .null), (fk10, .long 0)])), (.inr (cn3, [(fk11, .int 0), (fk12, .ref 1000)]))], u) _
  refine .s (.istoreN (L' := [wR 1, wR 3, wI 1, wI 0]) a13_53 rfl) <| .s (.aloadN a13_54 rfl rfl) <| .s (.aloadN a13_55 rfl rfl) <| .s (.getF 0 a13_56 (wd hw 21 rfl) rfl rfl) <| .s (.iloadN a13_59 rfl) <| .s (.aaload 0 a13_60 rfl rfl (by decide) rfl rfl) ?_
  refine .callS a13_61 (ok17 hw _ _ _ _) (wd hw 118 rfl) (wd hw 119 rfl) (argsL := [.ref 3, .ref 3]) (S := []) (au17_4 hw _ _ ts hS hn _) rfl rfl rfl rfl rfl rfl (Nat.le_of_ble_eq_true rfl) (Nat.le_of_ble_eq_true rfl) ?_
  rintro _ _ _ ⟨rfl, rfl, rfl⟩
  show WGo _ (64, [wR 1, wR 3, wI 1, wI 0], [.int 0], [(.inr (cn0, [(fk0, .ref 1), (fk1, (.long la)), (fk2, (.long lt)), (fk3, (.long pu)), (fk4, (.long ad))])), (.inr (cn1, [(fk5, .ref 2), (fk6, .int 2)])), (.inl ((.object "com/example/chronogate/chronogate/Event"), [.ref 3, .null, .null, .null, .null, .null, .null, .null])), (.inr (cn2, [(fk7, (.long ts)), (fk8, .ref 4), (fk9, .null), (fk10, .long 0)])), (.inr (cn3, [(fk11, .int 0), (fk12, .ref 1000)]))], u) _
  refine .s (.ifF a13_64 (by decide)) <| .s (.goto a13_67) <| .s (.aloadN a13_87 rfl rfl) <| .s (.getF 0 a13_88 (wd hw 21 rfl) rfl rfl) <| .s (.iloadN a13_91 rfl) <| .s (.aloadN a13_92 rfl rfl) <| .s (.aastore 1 a13_93 rfl rfl (by decide) rfl (Nat.le_of_ble_eq_true rfl)) ?_
  show WGo _ (94, [wR 1, wR 3, wI 1, wI 0], [], [(.inr (cn0, [(fk0, .ref 1), (fk1, (.long la)), (fk2, (.long lt)), (fk3, (.long pu)), (fk4, (.long ad))])), (.inr (cn1, [(fk5, .ref 2), (fk6, .int 2)])), (.inl ((.object "com/example/chronogate/chronogate/Event"), [.ref 3, .ref 3, .null, .null, .null, .null, .null, .null])), (.inr (cn2, [(fk7, (.long ts)), (fk8, .ref 4), (fk9, .null), (fk10, .long 0)])), (.inr (cn3, [(fk11, .int 0), (fk12, .ref 1000)]))], u) _
  refine .vreturn a13_94 rfl ?_
  exact ⟨rfl, rfl, rfl⟩
set_option maxHeartbeats 4000000 in
theorem au14_7 {Z : State} {a0 : Array Value} (hw : ∀ d ∈ tables_1, d.before a0 Z = true) (ρ : Nat → Nat) (n0 : Nat) (ts : Int64) (hS : Sta Z Z.heap "java/util/ArrayList" "DEFAULTCAPACITY_EMPTY_ELEMENTDATA" "[Ljava/lang/Object;" (.ref (ρ 1000))) (hn : Z.heap.size ≤ n0) (u : Nat) : WGo (g14 Z ρ n0 5 u) (0, [wR 3], [], [(.inr (cn0, [(fk0, .ref 1), (fk1, (.long la)), (fk2, (.long lt)), (fk3, (.long pu)), (fk4, (.long ad))])), (.inr (cn1, [(fk5, .ref 2), (fk6, .int 2)])), (.inl ((.object "com/example/chronogate/chronogate/Event"), [.ref 3, .ref 3, .null, .null, .null, .null, .null, .null])), (.inr (cn2, [(fk7, (.long ts)), (fk8, .ref 4), (fk9, .null), (fk10, .long 0)])), (.inr (cn3, [(fk11, .int 0), (fk12, .ref 1000)]))], u) (fun v σ' u' => v = some ((.long ts)) ∧ [(.inr (cn0, [(fk0, .ref 1), (fk1, (.long la)), (fk2, (.long lt)), (fk3, (.long pu)), (fk4, (.long ad))])), (.inr (cn1, [(fk5, .ref 2), (fk6, .int 2)])), (.inl ((.object "com/example/chronogate/chronogate/Event"), [.ref 3, .ref 3, .null, .null, .null, .null, .null, .null])), (.inr (cn2, [(fk7, (.long ts)), (fk8, .ref 4), (fk9, .null), (fk10, .long 0)])), (.inr (cn3, [(fk11, .int 0), (fk12, .ref 1000)]))] = σ' ∧ u = u') := by
  refine .s (.aloadN a14_0 rfl rfl) <| .s (.getF 0 a14_1 (wd hw 63 rfl) rfl rfl) ?_
  refine .lreturn a14_4 rfl ?_
  exact ⟨rfl, rfl, rfl⟩
theorem cadd1 {Z : State} {a0 : Array Value} (hw : ∀ d ∈ tables_1, d.before a0 Z = true) (ρ : Nat → Nat) (n0 : Nat) (hS : Sta Z Z.heap "java/util/ArrayList" "DEFAULTCAPACITY_EMPTY_ELEMENTDATA" "[Ljava/lang/Object;" (.ref (ρ 1000))) (hn : Z.heap.size ≤ n0) (ts la lt ad pu : Int64) (u : Nat) : WGo (g12 Z ρ n0 5 u) (0, [wR 0, wR 3], [], [(.inr (cn0, [(fk0, .ref 1), (fk1, (.long la)), (fk2, (.long lt)), (fk3, (.long pu)), (fk4, (.long ad))])), (.inr (cn1, [(fk5, .ref 2), (fk6, .int 1)])), (.inl ((.object "com/example/chronogate/chronogate/Event"), [.ref 3, .null, .null, .null, .null, .null, .null, .null])), (.inr (cn2, [(fk7, (.long ts)), (fk8, .ref 4), (fk9, .null), (fk10, .long 0)])), (.inr (cn3, [(fk11, .int 0), (fk12, .ref 1000)]))], u) (fun v σ' u' => ∃ z, v = none ∧ [(.inr (cn0, [(fk0, .ref 1), (fk1, (.long z)), (fk2, (.long lt)), (fk3, (.long pu)), (fk4, (.long (ad + (1 : Int64))))])), (.inr (cn1, [(fk5, .ref 2), (fk6, .int 2)])), (.inl ((.object "com/example/chronogate/chronogate/Event"), [.ref 3, .ref 3, .null, .null, .null, .null, .null, .null])), (.inr (cn2, [(fk7, (.long ts)), (fk8, .ref 4), (fk9, .null), (fk10, .long 0)])), (.inr (cn3, [(fk11, .int 0), (fk12, .ref 1000)]))] = σ' ∧ u = u') := by
  refine .s (.aloadN a12_0 rfl rfl) <| .s (.getF 0 a12_1 (wd hw 23 rfl) rfl rfl) <| .s (.aloadN a12_4 rfl rfl) ?_
  refine .callV (k := 1) (z := (⟨"com/example/chronogate/chronogate/ReleaseQueue", "add", "(Lcom/example/chronogate/chronogate/Event;)V"⟩ : MethodName)) a12_5 (ok13 hw _ _ _ _) ⟨rfl, by decide⟩ (wd hw 90 rfl) (wd hw 91 rfl) (fun s hZ => notFace_of_selects (args := #[]) (mvT hZ (wd hw 93 rfl))) (wd hw 93 rfl) (wd hw 92 rfl) rfl (argsL := [.ref 3]) (S := []) (au13_3 hw _ _ ts hS hn _) rfl rfl rfl rfl rfl rfl (Nat.le_of_ble_eq_true rfl) (Nat.le_of_ble_eq_true rfl) ?_
  rintro _ _ _ ⟨rfl, rfl, rfl⟩
  show WGo _ (8, [wR 0, wR 3], [], [(.inr (cn0, [(fk0, .ref 1), (fk1, (.long la)), (fk2, (.long lt)), (fk3, (.long pu)), (fk4, (.long ad))])), (.inr (cn1, [(fk5, .ref 2), (fk6, .int 2)])), (.inl ((.object "com/example/chronogate/chronogate/Event"), [.ref 3, .ref 3, .null, .null, .null, .null, .null, .null])), (.inr (cn2, [(fk7, (.long ts)), (fk8, .ref 4), (fk9, .null), (fk10, .long 0)])), (.inr (cn3, [(fk11, .int 0), (fk12, .ref 1000)]))], u) _
  refine .s (.aloadN a12_8 rfl rfl) <| .s (.aloadN a12_9 rfl rfl) <| .s (.getF 1 a12_10 (wd hw 26 rfl) rfl rfl) <| .s (.aloadN a12_13 rfl rfl) ?_
  refine .callV (k := 3) (z := (⟨"com/example/chronogate/chronogate/Event", "timestamp", "()J"⟩ : MethodName)) a12_14 (ok14 hw _ _ _ _) ⟨rfl, by decide⟩ (wd hw 98 rfl) (wd hw 99 rfl) (fun s hZ => notFace_of_selects (args := #[]) (mvT hZ (wd hw 101 rfl))) (wd hw 101 rfl) (wd hw 100 rfl) rfl (argsL := []) (S := [(.long la), .ref 0]) (au14_7 hw _ _ ts hS hn _) rfl rfl rfl rfl rfl rfl (Nat.le_of_ble_eq_true rfl) (Nat.le_of_ble_eq_true rfl) ?_
  rintro _ _ _ ⟨rfl, rfl, rfl⟩
  show WGo _ (17, [wR 0, wR 3], [(.long ts), (.long la), .ref 0], [(.inr (cn0, [(fk0, .ref 1), (fk1, (.long la)), (fk2, (.long lt)), (fk3, (.long pu)), (fk4, (.long ad))])), (.inr (cn1, [(fk5, .ref 2), (fk6, .int 2)])), (.inl ((.object "com/example/chronogate/chronogate/Event"), [.ref 3, .ref 3, .null, .null, .null, .null, .null, .null])), (.inr (cn2, [(fk7, (.long ts)), (fk8, .ref 4), (fk9, .null), (fk10, .long 0)])), (.inr (cn3, [(fk11, .int 0), (fk12, .ref 1000)]))], u) _
  refine .callS a12_17 (ok11 hw _ _ _ _) (wd hw 81 rfl) (wd hw 82 rfl) (argsL := [(.long la), (.long ts)]) (S := [.ref 0]) (cmax hw _ _ la ts _ _) rfl rfl rfl rfl rfl rfl (Nat.le_of_ble_eq_true rfl) (Nat.le_of_ble_eq_true rfl) ?_
  rintro _ _ _ ⟨⟨z2, rfl, hz2⟩, rfl, rfl⟩
  show WGo _ (20, [wR 0, wR 3], [(.long z2), .ref 0], [(.inr (cn0, [(fk0, .ref 1), (fk1, (.long la)), (fk2, (.long lt)), (fk3, (.long pu)), (fk4, (.long ad))])), (.inr (cn1, [(fk5, .ref 2), (fk6, .int 2)])), (.inl ((.object "com/example/chronogate/chronogate/Event"), [.ref 3, .ref 3, .null, .null, .null, .null, .null, .null])), (.inr (cn2, [(fk7, (.long ts)), (fk8, .ref 4), (fk9, .null), (fk10, .long 0)])), (.inr (cn3, [(fk11, .int 0), (fk12, .ref 1000)]))], u) _
  refine .s (.putF (ty := .long) 1 ((.long z2)) a12_20 (wd hw 26 rfl) rfl rfl (Or.inl (wd hw 27 rfl)) (wd hw 1 rfl) (by decide) rfl rfl) ?_
  show WGo _ (23, [wR 0, wR 3], [], [(.inr (cn0, [(fk0, .ref 1), (fk1, (.long z2)), (fk2, (.long lt)), (fk3, (.long pu)), (fk4, (.long ad))])), (.inr (cn1, [(fk5, .ref 2), (fk6, .int 2)])), (.inl ((.object "com/example/chronogate/chronogate/Event"), [.ref 3, .ref 3, .null, .null, .null, .null, .null, .null])), (.inr (cn2, [(fk7, (.long ts)), (fk8, .ref 4), (fk9, .null), (fk10, .long 0)])), (.inr (cn3, [(fk11, .int 0), (fk12, .ref 1000)]))], u) _
  refine .s (.aloadN a12_23 rfl rfl) <| .s (.dup a12_24 rfl) <| .s (.getF 4 a12_25 (wd hw 103 rfl) rfl rfl) <| .s (.lconst (1 : Int64) a12_28 rfl) <| .s (.ladd a12_29) <| .s (.putF (ty := .long) 4 ((.long (ad + (1 : Int64)))) a12_30 (wd hw 103 rfl) rfl rfl (Or.inl (wd hw 104 rfl)) (wd hw 1 rfl) (by decide) rfl rfl) ?_
  show WGo _ (33, [wR 0, wR 3], [], [(.inr (cn0, [(fk0, .ref 1), (fk1, (.long z2)), (fk2, (.long lt)), (fk3, (.long pu)), (fk4, (.long (ad + (1 : Int64))))])), (.inr (cn1, [(fk5, .ref 2), (fk6, .int 2)])), (.inl ((.object "com/example/chronogate/chronogate/Event"), [.ref 3, .ref 3, .null, .null, .null, .null, .null, .null])), (.inr (cn2, [(fk7, (.long ts)), (fk8, .ref 4), (fk9, .null), (fk10, .long 0)])), (.inr (cn3, [(fk11, .int 0), (fk12, .ref 1000)]))], u) _
  refine .vreturn a12_33 rfl ?_
  exact ⟨_, rfl, rfl, rfl⟩
theorem cpun0 {Z : State} {a0 : Array Value} (hw : ∀ d ∈ tables_1, d.before a0 Z = true) (ρ : Nat → Nat) (n0 : Nat) (x : Int64) (ts la lt ad pu : Int64) (u : Nat) : WGo (g10 Z ρ n0 5 u) (0, [wR 0, wJ x, wS], [], [(.inr (cn0, [(fk0, .ref 1), (fk1, (.long la)), (fk2, (.long lt)), (fk3, (.long pu)), (fk4, (.long ad))])), (.inr (cn1, [(fk5, .ref 2), (fk6, .int 0)])), (.inl ((.object "com/example/chronogate/chronogate/Event"), [.null, .null, .null, .null, .null, .null, .null, .null])), (.inr (cn2, [(fk7, (.long ts)), (fk8, .ref 4), (fk9, .null), (fk10, .long 0)])), (.inr (cn3, [(fk11, .int 0), (fk12, .ref 1000)]))], u) (fun v σ' u' => ∃ z, v = none ∧ [(.inr (cn0, [(fk0, .ref 1), (fk1, (.long la)), (fk2, (.long lt)), (fk3, (.long z)), (fk4, (.long ad))])), (.inr (cn1, [(fk5, .ref 2), (fk6, .int 0)])), (.inl ((.object "com/example/chronogate/chronogate/Event"), [.null, .null, .null, .null, .null, .null, .null, .null])), (.inr (cn2, [(fk7, (.long ts)), (fk8, .ref 4), (fk9, .null), (fk10, .long 0)])), (.inr (cn3, [(fk11, .int 0), (fk12, .ref 1000)]))] = σ' ∧ u = u') := by
  refine .s (.aloadN a10_0 rfl rfl) <| .s (.aloadN a10_1 rfl rfl) <| .s (.getF 3 a10_2 (wd hw 30 rfl) rfl rfl) <| .s (.lloadN a10_5 rfl) ?_
  refine .callS a10_6 (ok11 hw _ _ _ _) (wd hw 81 rfl) (wd hw 82 rfl) (argsL := [(.long pu), (.long x)]) (S := [.ref 0]) (cmax hw _ _ pu x _ _) rfl rfl rfl rfl rfl rfl (Nat.le_of_ble_eq_true rfl) (Nat.le_of_ble_eq_true rfl) ?_
  rintro _ _ _ ⟨⟨z3, rfl, hz3⟩, rfl, rfl⟩
  show WGo _ (9, [wR 0, wJ x, wS], [(.long z3), .ref 0], [(.inr (cn0, [(fk0, .ref 1), (fk1, (.long la)), (fk2, (.long lt)), (fk3, (.long pu)), (fk4, (.long ad))])), (.inr (cn1, [(fk5, .ref 2), (fk6, .int 0)])), (.inl ((.object "com/example/chronogate/chronogate/Event"), [.null, .null, .null, .null, .null, .null, .null, .null])), (.inr (cn2, [(fk7, (.long ts)), (fk8, .ref 4), (fk9, .null), (fk10, .long 0)])), (.inr (cn3, [(fk11, .int 0), (fk12, .ref 1000)]))], u) _
  refine .s (.putF (ty := .long) 3 ((.long z3)) a10_9 (wd hw 30 rfl) rfl rfl (Or.inl (wd hw 31 rfl)) (wd hw 1 rfl) (by decide) rfl rfl) ?_
  show WGo _ (12, [wR 0, wJ x, wS], [], [(.inr (cn0, [(fk0, .ref 1), (fk1, (.long la)), (fk2, (.long lt)), (fk3, (.long z3)), (fk4, (.long ad))])), (.inr (cn1, [(fk5, .ref 2), (fk6, .int 0)])), (.inl ((.object "com/example/chronogate/chronogate/Event"), [.null, .null, .null, .null, .null, .null, .null, .null])), (.inr (cn2, [(fk7, (.long ts)), (fk8, .ref 4), (fk9, .null), (fk10, .long 0)])), (.inr (cn3, [(fk11, .int 0), (fk12, .ref 1000)]))], u) _
  refine .vreturn a10_12 rfl ?_
  exact ⟨_, rfl, rfl, rfl⟩
theorem carr0 {Z : State} {a0 : Array Value} (hw : ∀ d ∈ tables_1, d.before a0 Z = true) (ρ : Nat → Nat) (n0 : Nat) (x : Int64) (ts la lt ad pu : Int64) (u : Nat) : WGo (g16 Z ρ n0 5 u) (0, [wR 0, wJ x, wS], [], [(.inr (cn0, [(fk0, .ref 1), (fk1, (.long la)), (fk2, (.long lt)), (fk3, (.long pu)), (fk4, (.long ad))])), (.inr (cn1, [(fk5, .ref 2), (fk6, .int 0)])), (.inl ((.object "com/example/chronogate/chronogate/Event"), [.null, .null, .null, .null, .null, .null, .null, .null])), (.inr (cn2, [(fk7, (.long ts)), (fk8, .ref 4), (fk9, .null), (fk10, .long 0)])), (.inr (cn3, [(fk11, .int 0), (fk12, .ref 1000)]))], u) (fun v σ' u' => v = none ∧ [(.inr (cn0, [(fk0, .ref 1), (fk1, (.long la)), (fk2, (.long x)), (fk3, (.long pu)), (fk4, (.long ad))])), (.inr (cn1, [(fk5, .ref 2), (fk6, .int 0)])), (.inl ((.object "com/example/chronogate/chronogate/Event"), [.null, .null, .null, .null, .null, .null, .null, .null])), (.inr (cn2, [(fk7, (.long ts)), (fk8, .ref 4), (fk9, .null), (fk10, .long 0)])), (.inr (cn3, [(fk11, .int 0), (fk12, .ref 1000)]))] = σ' ∧ u = u') := by
  refine .s (.aloadN a16_0 rfl rfl) <| .s (.lloadN a16_1 rfl) <| .s (.putF (ty := .long) 2 ((.long x)) a16_2 (wd hw 28 rfl) rfl rfl (Or.inl (wd hw 29 rfl)) (wd hw 1 rfl) (by decide) rfl rfl) ?_
  show WGo _ (5, [wR 0, wJ x, wS], [], [(.inr (cn0, [(fk0, .ref 1), (fk1, (.long la)), (fk2, (.long x)), (fk3, (.long pu)), (fk4, (.long ad))])), (.inr (cn1, [(fk5, .ref 2), (fk6, .int 0)])), (.inl ((.object "com/example/chronogate/chronogate/Event"), [.null, .null, .null, .null, .null, .null, .null, .null])), (.inr (cn2, [(fk7, (.long ts)), (fk8, .ref 4), (fk9, .null), (fk10, .long 0)])), (.inr (cn3, [(fk11, .int 0), (fk12, .ref 1000)]))], u) _
  refine .vreturn a16_5 rfl ?_
  exact ⟨rfl, rfl, rfl⟩
theorem cdel0 {Z : State} {a0 : Array Value} (hw : ∀ d ∈ tables_1, d.before a0 Z = true) (ρ : Nat → Nat) (n0 : Nat) (ts la lt ad pu : Int64) (u : Nat) : WGo (g9 Z ρ n0 5 u) (0, [wR 0], [], [(.inr (cn0, [(fk0, .ref 1), (fk1, (.long la)), (fk2, (.long lt)), (fk3, (.long pu)), (fk4, (.long ad))])), (.inr (cn1, [(fk5, .ref 2), (fk6, .int 0)])), (.inl ((.object "com/example/chronogate/chronogate/Event"), [.null, .null, .null, .null, .null, .null, .null, .null])), (.inr (cn2, [(fk7, (.long ts)), (fk8, .ref 4), (fk9, .null), (fk10, .long 0)])), (.inr (cn3, [(fk11, .int 0), (fk12, .ref 1000)]))], u) (QB (¬ lt = (-9223372036854775808 : Int64)) [(.inr (cn0, [(fk0, .ref 1), (fk1, (.long la)), (fk2, (.long lt)), (fk3, (.long pu)), (fk4, (.long ad))])), (.inr (cn1, [(fk5, .ref 2), (fk6, .int 0)])), (.inl ((.object "com/example/chronogate/chronogate/Event"), [.null, .null, .null, .null, .null, .null, .null, .null])), (.inr (cn2, [(fk7, (.long ts)), (fk8, .ref 4), (fk9, .null), (fk10, .long 0)])), (.inr (cn3, [(fk11, .int 0), (fk12, .ref 1000)]))] u) := by
  refine .s (.aloadN a9_0 rfl rfl) <| .s (.getF 2 a9_1 (wd hw 28 rfl) rfl rfl) <| .s (.ldc2 a9_4 (wd hw 25 rfl)) <| .s (.lcmp a9_7) ?_
  refine .eqL a9_8 (fun h8 => ?_) (fun h8 => ?_)
  · refine .s (.iconst (0 : Int32) a9_15 rfl) ?_
    refine .ireturn .boolean a9_16 rfl (by simp) ?_
    exact QB.no (fun q => q h8)
  · refine .s (.iconst (1 : Int32) a9_11 rfl) <| .s (.goto a9_12) ?_
    refine .ireturn .boolean a9_16 rfl (by simp) ?_
    exact QB.yes h8
theorem cpun1 {Z : State} {a0 : Array Value} (hw : ∀ d ∈ tables_1, d.before a0 Z = true) (ρ : Nat → Nat) (n0 : Nat) (x : Int64) (ts la lt ad pu : Int64) (u : Nat) : WGo (g10 Z ρ n0 5 u) (0, [wR 0, wJ x, wS], [], [(.inr (cn0, [(fk0, .ref 1), (fk1, (.long la)), (fk2, (.long lt)), (fk3, (.long pu)), (fk4, (.long ad))])), (.inr (cn1, [(fk5, .ref 2), (fk6, .int 1)])), (.inl ((.object "com/example/chronogate/chronogate/Event"), [.ref 3, .null, .null, .null, .null, .null, .null, .null])), (.inr (cn2, [(fk7, (.long ts)), (fk8, .ref 4), (fk9, .null), (fk10, .long 0)])), (.inr (cn3, [(fk11, .int 0), (fk12, .ref 1000)]))], u) (fun v σ' u' => ∃ z, v = none ∧ [(.inr (cn0, [(fk0, .ref 1), (fk1, (.long la)), (fk2, (.long lt)), (fk3, (.long z)), (fk4, (.long ad))])), (.inr (cn1, [(fk5, .ref 2), (fk6, .int 1)])), (.inl ((.object "com/example/chronogate/chronogate/Event"), [.ref 3, .null, .null, .null, .null, .null, .null, .null])), (.inr (cn2, [(fk7, (.long ts)), (fk8, .ref 4), (fk9, .null), (fk10, .long 0)])), (.inr (cn3, [(fk11, .int 0), (fk12, .ref 1000)]))] = σ' ∧ u = u') := by
  refine .s (.aloadN a10_0 rfl rfl) <| .s (.aloadN a10_1 rfl rfl) <| .s (.getF 3 a10_2 (wd hw 30 rfl) rfl rfl) <| .s (.lloadN a10_5 rfl) ?_
  refine .callS a10_6 (ok11 hw _ _ _ _) (wd hw 81 rfl) (wd hw 82 rfl) (argsL := [(.long pu), (.long x)]) (S := [.ref 0]) (cmax hw _ _ pu x _ _) rfl rfl rfl rfl rfl rfl (Nat.le_of_ble_eq_true rfl) (Nat.le_of_ble_eq_true rfl) ?_
  rintro _ _ _ ⟨⟨z4, rfl, hz4⟩, rfl, rfl⟩
  show WGo _ (9, [wR 0, wJ x, wS], [(.long z4), .ref 0], [(.inr (cn0, [(fk0, .ref 1), (fk1, (.long la)), (fk2, (.long lt)), (fk3, (.long pu)), (fk4, (.long ad))])), (.inr (cn1, [(fk5, .ref 2), (fk6, .int 1)])), (.inl ((.object "com/example/chronogate/chronogate/Event"), [.ref 3, .null, .null, .null, .null, .null, .null, .null])), (.inr (cn2, [(fk7, (.long ts)), (fk8, .ref 4), (fk9, .null), (fk10, .long 0)])), (.inr (cn3, [(fk11, .int 0), (fk12, .ref 1000)]))], u) _
  refine .s (.putF (ty := .long) 3 ((.long z4)) a10_9 (wd hw 30 rfl) rfl rfl (Or.inl (wd hw 31 rfl)) (wd hw 1 rfl) (by decide) rfl rfl) ?_
  show WGo _ (12, [wR 0, wJ x, wS], [], [(.inr (cn0, [(fk0, .ref 1), (fk1, (.long la)), (fk2, (.long lt)), (fk3, (.long z4)), (fk4, (.long ad))])), (.inr (cn1, [(fk5, .ref 2), (fk6, .int 1)])), (.inl ((.object "com/example/chronogate/chronogate/Event"), [.ref 3, .null, .null, .null, .null, .null, .null, .null])), (.inr (cn2, [(fk7, (.long ts)), (fk8, .ref 4), (fk9, .null), (fk10, .long 0)])), (.inr (cn3, [(fk11, .int 0), (fk12, .ref 1000)]))], u) _
  refine .vreturn a10_12 rfl ?_
  exact ⟨_, rfl, rfl, rfl⟩
theorem carr1 {Z : State} {a0 : Array Value} (hw : ∀ d ∈ tables_1, d.before a0 Z = true) (ρ : Nat → Nat) (n0 : Nat) (x : Int64) (ts la lt ad pu : Int64) (u : Nat) : WGo (g16 Z ρ n0 5 u) (0, [wR 0, wJ x, wS], [], [(.inr (cn0, [(fk0, .ref 1), (fk1, (.long la)), (fk2, (.long lt)), (fk3, (.long pu)), (fk4, (.long ad))])), (.inr (cn1, [(fk5, .ref 2), (fk6, .int 1)])), (.inl ((.object "com/example/chronogate/chronogate/Event"), [.ref 3, .null, .null, .null, .null, .null, .null, .null])), (.inr (cn2, [(fk7, (.long ts)), (fk8, .ref 4), (fk9, .null), (fk10, .long 0)])), (.inr (cn3, [(fk11, .int 0), (fk12, .ref 1000)]))], u) (fun v σ' u' => v = none ∧ [(.inr (cn0, [(fk0, .ref 1), (fk1, (.long la)), (fk2, (.long x)), (fk3, (.long pu)), (fk4, (.long ad))])), (.inr (cn1, [(fk5, .ref 2), (fk6, .int 1)])), (.inl ((.object "com/example/chronogate/chronogate/Event"), [.ref 3, .null, .null, .null, .null, .null, .null, .null])), (.inr (cn2, [(fk7, (.long ts)), (fk8, .ref 4), (fk9, .null), (fk10, .long 0)])), (.inr (cn3, [(fk11, .int 0), (fk12, .ref 1000)]))] = σ' ∧ u = u') := by
  refine .s (.aloadN a16_0 rfl rfl) <| .s (.lloadN a16_1 rfl) <| .s (.putF (ty := .long) 2 ((.long x)) a16_2 (wd hw 28 rfl) rfl rfl (Or.inl (wd hw 29 rfl)) (wd hw 1 rfl) (by decide) rfl rfl) ?_
  show WGo _ (5, [wR 0, wJ x, wS], [], [(.inr (cn0, [(fk0, .ref 1), (fk1, (.long la)), (fk2, (.long x)), (fk3, (.long pu)), (fk4, (.long ad))])), (.inr (cn1, [(fk5, .ref 2), (fk6, .int 1)])), (.inl ((.object "com/example/chronogate/chronogate/Event"), [.ref 3, .null, .null, .null, .null, .null, .null, .null])), (.inr (cn2, [(fk7, (.long ts)), (fk8, .ref 4), (fk9, .null), (fk10, .long 0)])), (.inr (cn3, [(fk11, .int 0), (fk12, .ref 1000)]))], u) _
  refine .vreturn a16_5 rfl ?_
  exact ⟨rfl, rfl, rfl⟩
theorem cdel1 {Z : State} {a0 : Array Value} (hw : ∀ d ∈ tables_1, d.before a0 Z = true) (ρ : Nat → Nat) (n0 : Nat) (ts la lt ad pu : Int64) (u : Nat) : WGo (g9 Z ρ n0 5 u) (0, [wR 0], [], [(.inr (cn0, [(fk0, .ref 1), (fk1, (.long la)), (fk2, (.long lt)), (fk3, (.long pu)), (fk4, (.long ad))])), (.inr (cn1, [(fk5, .ref 2), (fk6, .int 1)])), (.inl ((.object "com/example/chronogate/chronogate/Event"), [.ref 3, .null, .null, .null, .null, .null, .null, .null])), (.inr (cn2, [(fk7, (.long ts)), (fk8, .ref 4), (fk9, .null), (fk10, .long 0)])), (.inr (cn3, [(fk11, .int 0), (fk12, .ref 1000)]))], u) (QB (¬ lt = (-9223372036854775808 : Int64)) [(.inr (cn0, [(fk0, .ref 1), (fk1, (.long la)), (fk2, (.long lt)), (fk3, (.long pu)), (fk4, (.long ad))])), (.inr (cn1, [(fk5, .ref 2), (fk6, .int 1)])), (.inl ((.object "com/example/chronogate/chronogate/Event"), [.ref 3, .null, .null, .null, .null, .null, .null, .null])), (.inr (cn2, [(fk7, (.long ts)), (fk8, .ref 4), (fk9, .null), (fk10, .long 0)])), (.inr (cn3, [(fk11, .int 0), (fk12, .ref 1000)]))] u) := by
  refine .s (.aloadN a9_0 rfl rfl) <| .s (.getF 2 a9_1 (wd hw 28 rfl) rfl rfl) <| .s (.ldc2 a9_4 (wd hw 25 rfl)) <| .s (.lcmp a9_7) ?_
  refine .eqL a9_8 (fun h8 => ?_) (fun h8 => ?_)
  · refine .s (.iconst (0 : Int32) a9_15 rfl) ?_
    refine .ireturn .boolean a9_16 rfl (by simp) ?_
    exact QB.no (fun q => q h8)
  · refine .s (.iconst (1 : Int32) a9_11 rfl) <| .s (.goto a9_12) ?_
    refine .ireturn .boolean a9_16 rfl (by simp) ?_
    exact QB.yes h8
theorem cpun2 {Z : State} {a0 : Array Value} (hw : ∀ d ∈ tables_1, d.before a0 Z = true) (ρ : Nat → Nat) (n0 : Nat) (x : Int64) (ts la lt ad pu : Int64) (u : Nat) : WGo (g10 Z ρ n0 5 u) (0, [wR 0, wJ x, wS], [], [(.inr (cn0, [(fk0, .ref 1), (fk1, (.long la)), (fk2, (.long lt)), (fk3, (.long pu)), (fk4, (.long ad))])), (.inr (cn1, [(fk5, .ref 2), (fk6, .int 2)])), (.inl ((.object "com/example/chronogate/chronogate/Event"), [.ref 3, .ref 3, .null, .null, .null, .null, .null, .null])), (.inr (cn2, [(fk7, (.long ts)), (fk8, .ref 4), (fk9, .null), (fk10, .long 0)])), (.inr (cn3, [(fk11, .int 0), (fk12, .ref 1000)]))], u) (fun v σ' u' => ∃ z, v = none ∧ [(.inr (cn0, [(fk0, .ref 1), (fk1, (.long la)), (fk2, (.long lt)), (fk3, (.long z)), (fk4, (.long ad))])), (.inr (cn1, [(fk5, .ref 2), (fk6, .int 2)])), (.inl ((.object "com/example/chronogate/chronogate/Event"), [.ref 3, .ref 3, .null, .null, .null, .null, .null, .null])), (.inr (cn2, [(fk7, (.long ts)), (fk8, .ref 4), (fk9, .null), (fk10, .long 0)])), (.inr (cn3, [(fk11, .int 0), (fk12, .ref 1000)]))] = σ' ∧ u = u') := by
  refine .s (.aloadN a10_0 rfl rfl) <| .s (.aloadN a10_1 rfl rfl) <| .s (.getF 3 a10_2 (wd hw 30 rfl) rfl rfl) <| .s (.lloadN a10_5 rfl) ?_
  refine .callS a10_6 (ok11 hw _ _ _ _) (wd hw 81 rfl) (wd hw 82 rfl) (argsL := [(.long pu), (.long x)]) (S := [.ref 0]) (cmax hw _ _ pu x _ _) rfl rfl rfl rfl rfl rfl (Nat.le_of_ble_eq_true rfl) (Nat.le_of_ble_eq_true rfl) ?_
  rintro _ _ _ ⟨⟨z5, rfl, hz5⟩, rfl, rfl⟩
  show WGo _ (9, [wR 0, wJ x, wS], [(.long z5), .ref 0], [(.inr (cn0, [(fk0, .ref 1), (fk1, (.long la)), (fk2, (.long lt)), (fk3, (.long pu)), (fk4, (.long ad))])), (.inr (cn1, [(fk5, .ref 2), (fk6, .int 2)])), (.inl ((.object "com/example/chronogate/chronogate/Event"), [.ref 3, .ref 3, .null, .null, .null, .null, .null, .null])), (.inr (cn2, [(fk7, (.long ts)), (fk8, .ref 4), (fk9, .null), (fk10, .long 0)])), (.inr (cn3, [(fk11, .int 0), (fk12, .ref 1000)]))], u) _
  refine .s (.putF (ty := .long) 3 ((.long z5)) a10_9 (wd hw 30 rfl) rfl rfl (Or.inl (wd hw 31 rfl)) (wd hw 1 rfl) (by decide) rfl rfl) ?_
  show WGo _ (12, [wR 0, wJ x, wS], [], [(.inr (cn0, [(fk0, .ref 1), (fk1, (.long la)), (fk2, (.long lt)), (fk3, (.long z5)), (fk4, (.long ad))])), (.inr (cn1, [(fk5, .ref 2), (fk6, .int 2)])), (.inl ((.object "com/example/chronogate/chronogate/Event"), [.ref 3, .ref 3, .null, .null, .null, .null, .null, .null])), (.inr (cn2, [(fk7, (.long ts)), (fk8, .ref 4), (fk9, .null), (fk10, .long 0)])), (.inr (cn3, [(fk11, .int 0), (fk12, .ref 1000)]))], u) _
  refine .vreturn a10_12 rfl ?_
  exact ⟨_, rfl, rfl, rfl⟩
theorem carr2 {Z : State} {a0 : Array Value} (hw : ∀ d ∈ tables_1, d.before a0 Z = true) (ρ : Nat → Nat) (n0 : Nat) (x : Int64) (ts la lt ad pu : Int64) (u : Nat) : WGo (g16 Z ρ n0 5 u) (0, [wR 0, wJ x, wS], [], [(.inr (cn0, [(fk0, .ref 1), (fk1, (.long la)), (fk2, (.long lt)), (fk3, (.long pu)), (fk4, (.long ad))])), (.inr (cn1, [(fk5, .ref 2), (fk6, .int 2)])), (.inl ((.object "com/example/chronogate/chronogate/Event"), [.ref 3, .ref 3, .null, .null, .null, .null, .null, .null])), (.inr (cn2, [(fk7, (.long ts)), (fk8, .ref 4), (fk9, .null), (fk10, .long 0)])), (.inr (cn3, [(fk11, .int 0), (fk12, .ref 1000)]))], u) (fun v σ' u' => v = none ∧ [(.inr (cn0, [(fk0, .ref 1), (fk1, (.long la)), (fk2, (.long x)), (fk3, (.long pu)), (fk4, (.long ad))])), (.inr (cn1, [(fk5, .ref 2), (fk6, .int 2)])), (.inl ((.object "com/example/chronogate/chronogate/Event"), [.ref 3, .ref 3, .null, .null, .null, .null, .null, .null])), (.inr (cn2, [(fk7, (.long ts)), (fk8, .ref 4), (fk9, .null), (fk10, .long 0)])), (.inr (cn3, [(fk11, .int 0), (fk12, .ref 1000)]))] = σ' ∧ u = u') := by
  refine .s (.aloadN a16_0 rfl rfl) <| .s (.lloadN a16_1 rfl) <| .s (.putF (ty := .long) 2 ((.long x)) a16_2 (wd hw 28 rfl) rfl rfl (Or.inl (wd hw 29 rfl)) (wd hw 1 rfl) (by decide) rfl rfl) ?_
  show WGo _ (5, [wR 0, wJ x, wS], [], [(.inr (cn0, [(fk0, .ref 1), (fk1, (.long la)), (fk2, (.long x)), (fk3, (.long pu)), (fk4, (.long ad))])), (.inr (cn1, [(fk5, .ref 2), (fk6, .int 2)])), (.inl ((.object "com/example/chronogate/chronogate/Event"), [.ref 3, .ref 3, .null, .null, .null, .null, .null, .null])), (.inr (cn2, [(fk7, (.long ts)), (fk8, .ref 4), (fk9, .null), (fk10, .long 0)])), (.inr (cn3, [(fk11, .int 0), (fk12, .ref 1000)]))], u) _
  refine .vreturn a16_5 rfl ?_
  exact ⟨rfl, rfl, rfl⟩
theorem cdel2 {Z : State} {a0 : Array Value} (hw : ∀ d ∈ tables_1, d.before a0 Z = true) (ρ : Nat → Nat) (n0 : Nat) (ts la lt ad pu : Int64) (u : Nat) : WGo (g9 Z ρ n0 5 u) (0, [wR 0], [], [(.inr (cn0, [(fk0, .ref 1), (fk1, (.long la)), (fk2, (.long lt)), (fk3, (.long pu)), (fk4, (.long ad))])), (.inr (cn1, [(fk5, .ref 2), (fk6, .int 2)])), (.inl ((.object "com/example/chronogate/chronogate/Event"), [.ref 3, .ref 3, .null, .null, .null, .null, .null, .null])), (.inr (cn2, [(fk7, (.long ts)), (fk8, .ref 4), (fk9, .null), (fk10, .long 0)])), (.inr (cn3, [(fk11, .int 0), (fk12, .ref 1000)]))], u) (QB (¬ lt = (-9223372036854775808 : Int64)) [(.inr (cn0, [(fk0, .ref 1), (fk1, (.long la)), (fk2, (.long lt)), (fk3, (.long pu)), (fk4, (.long ad))])), (.inr (cn1, [(fk5, .ref 2), (fk6, .int 2)])), (.inl ((.object "com/example/chronogate/chronogate/Event"), [.ref 3, .ref 3, .null, .null, .null, .null, .null, .null])), (.inr (cn2, [(fk7, (.long ts)), (fk8, .ref 4), (fk9, .null), (fk10, .long 0)])), (.inr (cn3, [(fk11, .int 0), (fk12, .ref 1000)]))] u) := by
  refine .s (.aloadN a9_0 rfl rfl) <| .s (.getF 2 a9_1 (wd hw 28 rfl) rfl rfl) <| .s (.ldc2 a9_4 (wd hw 25 rfl)) <| .s (.lcmp a9_7) ?_
  refine .eqL a9_8 (fun h8 => ?_) (fun h8 => ?_)
  · refine .s (.iconst (0 : Int32) a9_15 rfl) ?_
    refine .ireturn .boolean a9_16 rfl (by simp) ?_
    exact QB.no (fun q => q h8)
  · refine .s (.iconst (1 : Int32) a9_11 rfl) <| .s (.goto a9_12) ?_
    refine .ireturn .boolean a9_16 rfl (by simp) ?_
    exact QB.yes h8
theorem rng_ok (x : Int64) : ¬ ((-62167219200000 : Int64) + ((x &&& (9223372036854775807 : Int64)) % (315569520000000 : Int64))) = (-9223372036854775808 : Int64) := fun e => by
  have h1 := c_maskL x 9223372036854775807 63 (by decide) (by decide)
  have h2 := (c_lrem (x &&& 9223372036854775807) 315569520000000 315569520000000 rfl).1 (by rw [h1]; omega)
  rw [lrem_mod] at h2
  have h3 := c_ladd (-62167219200000) ((x &&& (9223372036854775807 : Int64)) % (315569520000000 : Int64))
  rw [e, h2] at h3
  have e1 : (-62167219200000 : Int64).toInt = -62167219200000 := rfl
  have e2 : (-9223372036854775808 : Int64).toInt = -9223372036854775808 := rfl
  omega
theorem crng {Z : State} {a0 : Array Value} (hw : ∀ d ∈ tables_1, d.before a0 Z = true) (ρ : Nat → Nat) (n0 : Nat) (x : Int64) (σ : WHp) (u : Nat) : WGo (g15 Z ρ n0 σ.length u) (0, [wJ x, wS], [], σ, u) (fun v σ' u' => (∃ z, v = some (.long z) ∧ ¬ z = (-9223372036854775808 : Int64)) ∧ σ = σ' ∧ u = u') := by
  refine .s (.ldc2 a15_0 (wd hw 109 rfl)) <| .s (.lloadN a15_3 rfl) <| .s (.ldc2 a15_4 (wd hw 110 rfl)) <| .s (.land a15_7) <| .s (.ldc2 a15_8 (wd hw 111 rfl)) <| .s (.lrem a15_11 (by decide)) <| .s (.ladd a15_12) ?_
  refine .lreturn a15_13 rfl ?_
  exact ⟨⟨_, rfl, rng_ok x⟩, rfl, rfl⟩
set_option maxHeartbeats 4000000 in
theorem au4_10 {Z : State} {a0 : Array Value} (hw : ∀ d ∈ tables_1, d.before a0 Z = true) (ρ : Nat → Nat) (n0 : Nat) (hS : Sta Z Z.heap "java/util/ArrayList" "DEFAULTCAPACITY_EMPTY_ELEMENTDATA" "[Ljava/lang/Object;" (.ref (ρ 1000))) (hn : Z.heap.size ≤ n0) (u : Nat) : WGo (g4 Z ρ n0 2 u) (0, [wI 8], [], [(.inr (cn0, [(fk0, .null), (fk1, .long 0), (fk2, .long 0), (fk3, .long 0), (fk4, .long 0)])), (.inr (cn1, [(fk5, .null), (fk6, .int 0)]))], u) (fun v σ' u' => v = some (.ref 2) ∧ [(.inr (cn0, [(fk0, .null), (fk1, .long 0), (fk2, .long 0), (fk3, .long 0), (fk4, .long 0)])), (.inr (cn1, [(fk5, .null), (fk6, .int 0)])), (.inl ((.object "com/example/chronogate/chronogate/Event"), [.null, .null, .null, .null, .null, .null, .null, .null]))] = σ' ∧ (u + 8) = u') := by
  refine .s (.iloadN a4_0 rfl) <| .s (.newR (k := 2) (8 : Int32) 8 a4_1 (wd hw 19 rfl) (wd hw 20 rfl) (by decide) rfl (by decide) rfl (by decide)) ?_
  show WGo _ (4, [wI 8], [.ref 2], [(.inr (cn0, [(fk0, .null), (fk1, .long 0), (fk2, .long 0), (fk3, .long 0), (fk4, .long 0)])), (.inr (cn1, [(fk5, .null), (fk6, .int 0)])), (.inl ((.object "com/example/chronogate/chronogate/Event"), [.null, .null, .null, .null, .null, .null, .null, .null]))], (u + 8)) _
  refine .areturn (.array (.object "com/example/chronogate/chronogate/Event")) a4_4 rfl rfl rfl ?_
  exact ⟨rfl, rfl, rfl⟩
set_option maxHeartbeats 4000000 in
theorem au3_9 {Z : State} {a0 : Array Value} (hw : ∀ d ∈ tables_1, d.before a0 Z = true) (ρ : Nat → Nat) (n0 : Nat) (hS : Sta Z Z.heap "java/util/ArrayList" "DEFAULTCAPACITY_EMPTY_ELEMENTDATA" "[Ljava/lang/Object;" (.ref (ρ 1000))) (hn : Z.heap.size ≤ n0) (u : Nat) : WGo (g3 Z ρ n0 2 u) (0, [wR 1], [], [(.inr (cn0, [(fk0, .null), (fk1, .long 0), (fk2, .long 0), (fk3, .long 0), (fk4, .long 0)])), (.inr (cn1, [(fk5, .null), (fk6, .int 0)]))], u) (fun v σ' u' => v = none ∧ [(.inr (cn0, [(fk0, .null), (fk1, .long 0), (fk2, .long 0), (fk3, .long 0), (fk4, .long 0)])), (.inr (cn1, [(fk5, .ref 2), (fk6, .int 0)])), (.inl ((.object "com/example/chronogate/chronogate/Event"), [.null, .null, .null, .null, .null, .null, .null, .null]))] = σ' ∧ (u + 8) = u') := by
  refine .s (.aloadN a3_0 rfl rfl) <| .s (.initO a3_1 (wd hw 15 rfl) (wd hw 7 rfl) (wd hw 8 rfl) rfl (Nat.le_of_ble_eq_true rfl) (Nat.le_of_ble_eq_true rfl)) <| .s (.aloadN a3_4 rfl rfl) <| .s (.bipush (8 : Int32) a3_5 rfl) ?_
  refine .callS a3_7 (ok4 hw _ _ _ _) (wd hw 16 rfl) (wd hw 17 rfl) (argsL := [.int 8]) (S := [.ref 1]) (au4_10 hw _ _ hS hn _) rfl rfl rfl rfl rfl rfl (Nat.le_of_ble_eq_true rfl) (Nat.le_of_ble_eq_true rfl) ?_
  rintro _ _ _ ⟨rfl, rfl, rfl⟩
  show WGo _ (10, [wR 1], [.ref 2, .ref 1], [(.inr (cn0, [(fk0, .null), (fk1, .long 0), (fk2, .long 0), (fk3, .long 0), (fk4, .long 0)])), (.inr (cn1, [(fk5, .null), (fk6, .int 0)])), (.inl ((.object "com/example/chronogate/chronogate/Event"), [.null, .null, .null, .null, .null, .null, .null, .null]))], (u + 8)) _
  refine .s (.putF (ty := (.array (.object "com/example/chronogate/chronogate/Event"))) 0 (.ref 2) a3_10 (wd hw 21 rfl) rfl rfl (Or.inl (wd hw 22 rfl)) (wd hw 10 rfl) (by decide) rfl rfl) ?_
  show WGo _ (13, [wR 1], [], [(.inr (cn0, [(fk0, .null), (fk1, .long 0), (fk2, .long 0), (fk3, .long 0), (fk4, .long 0)])), (.inr (cn1, [(fk5, .ref 2), (fk6, .int 0)])), (.inl ((.object "com/example/chronogate/chronogate/Event"), [.null, .null, .null, .null, .null, .null, .null, .null]))], (u + 8)) _
  refine .vreturn a3_13 rfl ?_
  exact ⟨rfl, rfl, rfl⟩
set_option maxHeartbeats 4000000 in
theorem au1_8 {Z : State} {a0 : Array Value} (hw : ∀ d ∈ tables_1, d.before a0 Z = true) (ρ : Nat → Nat) (n0 : Nat) (hS : Sta Z Z.heap "java/util/ArrayList" "DEFAULTCAPACITY_EMPTY_ELEMENTDATA" "[Ljava/lang/Object;" (.ref (ρ 1000))) (hn : Z.heap.size ≤ n0) (u : Nat) : WGo (g1 Z ρ n0 1 u) (0, [wR 0], [], [(.inr (cn0, [(fk0, .null), (fk1, .long 0), (fk2, .long 0), (fk3, .long 0), (fk4, .long 0)]))], u) (fun v σ' u' => v = none ∧ [(.inr (cn0, [(fk0, .ref 1), (fk1, .long (-9223372036854775808)), (fk2, .long (-9223372036854775808)), (fk3, .long (-9223372036854775808)), (fk4, .long 0)])), (.inr (cn1, [(fk5, .ref 2), (fk6, .int 0)])), (.inl ((.object "com/example/chronogate/chronogate/Event"), [.null, .null, .null, .null, .null, .null, .null, .null]))] = σ' ∧ ((u + 2) + 8) = u') := by
  refine .s (.aloadN a1_0 rfl rfl) <| .s (.initO a1_1 (wd hw 6 rfl) (wd hw 7 rfl) (wd hw 8 rfl) rfl (Nat.le_of_ble_eq_true rfl) (Nat.le_of_ble_eq_true rfl)) <| .s (.aloadN a1_4 rfl rfl) <| .s (.newO (k := 1) [(fk5, .null), (fk6, .int 0)] a1_5 (wd hw 9 rfl) (wd hw 10 rfl) (wd hw 11 rfl) ⟨⟨Or.inl (wd hw 22 rfl), (.array (.object "com/example/chronogate/chronogate/Event")), by decide, rfl⟩, ⟨Or.inl (wd hw 96 rfl), .int, by decide, rfl⟩, trivial⟩ (by decide) rfl (by decide)) ?_
  show WGo _ (8, [wR 0], [.ref 1, .ref 0], [(.inr (cn0, [(fk0, .null), (fk1, .long 0), (fk2, .long 0), (fk3, .long 0), (fk4, .long 0)])), (.inr (cn1, [(fk5, .null), (fk6, .int 0)]))], (u + 2)) _
  refine .s (.dup a1_8 rfl) ?_
  refine .callI (k := 1) a1_9 (ok3 hw _ _ _ _) rfl rfl (wd hw 12 rfl) (wd hw 13 rfl) (by decide) (argsL := []) (S := [.ref 1, .ref 0]) (au3_9 hw _ _ hS hn _) rfl rfl rfl rfl rfl rfl (Nat.le_of_ble_eq_true rfl) (Nat.le_of_ble_eq_true rfl) ?_
  rintro _ _ _ ⟨rfl, rfl, rfl⟩
  show WGo _ (12, [wR 0], [.ref 1, .ref 0], [(.inr (cn0, [(fk0, .null), (fk1, .long 0), (fk2, .long 0), (fk3, .long 0), (fk4, .long 0)])), (.inr (cn1, [(fk5, .ref 2), (fk6, .int 0)])), (.inl ((.object "com/example/chronogate/chronogate/Event"), [.null, .null, .null, .null, .null, .null, .null, .null]))], ((u + 2) + 8)) _
  refine .s (.putF (ty := (.object "com/example/chronogate/chronogate/ReleaseQueue")) 0 (.ref 1) a1_12 (wd hw 23 rfl) rfl rfl (Or.inr ⟨(wd hw 24 rfl), rfl, rfl⟩) (wd hw 1 rfl) (by decide) rfl rfl) ?_
  show WGo _ (15, [wR 0], [], [(.inr (cn0, [(fk0, .ref 1), (fk1, .long 0), (fk2, .long 0), (fk3, .long 0), (fk4, .long 0)])), (.inr (cn1, [(fk5, .ref 2), (fk6, .int 0)])), (.inl ((.object "com/example/chronogate/chronogate/Event"), [.null, .null, .null, .null, .null, .null, .null, .null]))], ((u + 2) + 8)) _
  refine .s (.aloadN a1_15 rfl rfl) <| .s (.ldc2 a1_16 (wd hw 25 rfl)) <| .s (.putF (ty := .long) 1 (.long (-9223372036854775808)) a1_19 (wd hw 26 rfl) rfl rfl (Or.inl (wd hw 27 rfl)) (wd hw 1 rfl) (by decide) rfl rfl) ?_
  show WGo _ (22, [wR 0], [], [(.inr (cn0, [(fk0, .ref 1), (fk1, .long (-9223372036854775808)), (fk2, .long 0), (fk3, .long 0), (fk4, .long 0)])), (.inr (cn1, [(fk5, .ref 2), (fk6, .int 0)])), (.inl ((.object "com/example/chronogate/chronogate/Event"), [.null, .null, .null, .null, .null, .null, .null, .null]))], ((u + 2) + 8)) _
  refine .s (.aloadN a1_22 rfl rfl) <| .s (.ldc2 a1_23 (wd hw 25 rfl)) <| .s (.putF (ty := .long) 2 (.long (-9223372036854775808)) a1_26 (wd hw 28 rfl) rfl rfl (Or.inl (wd hw 29 rfl)) (wd hw 1 rfl) (by decide) rfl rfl) ?_
  show WGo _ (29, [wR 0], [], [(.inr (cn0, [(fk0, .ref 1), (fk1, .long (-9223372036854775808)), (fk2, .long (-9223372036854775808)), (fk3, .long 0), (fk4, .long 0)])), (.inr (cn1, [(fk5, .ref 2), (fk6, .int 0)])), (.inl ((.object "com/example/chronogate/chronogate/Event"), [.null, .null, .null, .null, .null, .null, .null, .null]))], ((u + 2) + 8)) _
  refine .s (.aloadN a1_29 rfl rfl) <| .s (.ldc2 a1_30 (wd hw 25 rfl)) <| .s (.putF (ty := .long) 3 (.long (-9223372036854775808)) a1_33 (wd hw 30 rfl) rfl rfl (Or.inl (wd hw 31 rfl)) (wd hw 1 rfl) (by decide) rfl rfl) ?_
  show WGo _ (36, [wR 0], [], [(.inr (cn0, [(fk0, .ref 1), (fk1, .long (-9223372036854775808)), (fk2, .long (-9223372036854775808)), (fk3, .long (-9223372036854775808)), (fk4, .long 0)])), (.inr (cn1, [(fk5, .ref 2), (fk6, .int 0)])), (.inl ((.object "com/example/chronogate/chronogate/Event"), [.null, .null, .null, .null, .null, .null, .null, .null]))], ((u + 2) + 8)) _
  refine .vreturn a1_36 rfl ?_
  exact ⟨rfl, rfl, rfl⟩
set_option maxHeartbeats 4000000 in
theorem au7_13 {Z : State} {a0 : Array Value} (hw : ∀ d ∈ tables_1, d.before a0 Z = true) (ρ : Nat → Nat) (n0 : Nat) (hS : Sta Z Z.heap "java/util/ArrayList" "DEFAULTCAPACITY_EMPTY_ELEMENTDATA" "[Ljava/lang/Object;" (.ref (ρ 1000))) (hn : Z.heap.size ≤ n0) (u : Nat) : WGo (g7 Z ρ n0 5 u) (0, [wR 4], [], [(.inr (cn0, [(fk0, .ref 1), (fk1, .long (-9223372036854775808)), (fk2, .long (-9223372036854775808)), (fk3, .long (-9223372036854775808)), (fk4, .long 0)])), (.inr (cn1, [(fk5, .ref 2), (fk6, .int 0)])), (.inl ((.object "com/example/chronogate/chronogate/Event"), [.null, .null, .null, .null, .null, .null, .null, .null])), (.inr (cn2, [(fk7, .long 0), (fk8, .null), (fk9, .null), (fk10, .long 0)])), (.inr (cn3, [(fk11, .int 0), (fk12, .null)]))], u) (fun v σ' u' => v = none ∧ [(.inr (cn0, [(fk0, .ref 1), (fk1, .long (-9223372036854775808)), (fk2, .long (-9223372036854775808)), (fk3, .long (-9223372036854775808)), (fk4, .long 0)])), (.inr (cn1, [(fk5, .ref 2), (fk6, .int 0)])), (.inl ((.object "com/example/chronogate/chronogate/Event"), [.null, .null, .null, .null, .null, .null, .null, .null])), (.inr (cn2, [(fk7, .long 0), (fk8, .null), (fk9, .null), (fk10, .long 0)])), (.inr (cn3, [(fk11, .int 0), (fk12, .null)]))] = σ' ∧ u = u') := by
  refine .s (.aloadN a7_0 rfl rfl) <| .s (.initO a7_1 (wd hw 53 rfl) (wd hw 7 rfl) (wd hw 8 rfl) rfl (Nat.le_of_ble_eq_true rfl) (Nat.le_of_ble_eq_true rfl)) ?_
  refine .vreturn a7_4 rfl ?_
  exact ⟨rfl, rfl, rfl⟩
set_option maxHeartbeats 4000000 in
theorem au6_12 {Z : State} {a0 : Array Value} (hw : ∀ d ∈ tables_1, d.before a0 Z = true) (ρ : Nat → Nat) (n0 : Nat) (hS : Sta Z Z.heap "java/util/ArrayList" "DEFAULTCAPACITY_EMPTY_ELEMENTDATA" "[Ljava/lang/Object;" (.ref (ρ 1000))) (hn : Z.heap.size ≤ n0) (u : Nat) : WGo (g6 Z ρ n0 5 u) (0, [wR 4], [], [(.inr (cn0, [(fk0, .ref 1), (fk1, .long (-9223372036854775808)), (fk2, .long (-9223372036854775808)), (fk3, .long (-9223372036854775808)), (fk4, .long 0)])), (.inr (cn1, [(fk5, .ref 2), (fk6, .int 0)])), (.inl ((.object "com/example/chronogate/chronogate/Event"), [.null, .null, .null, .null, .null, .null, .null, .null])), (.inr (cn2, [(fk7, .long 0), (fk8, .null), (fk9, .null), (fk10, .long 0)])), (.inr (cn3, [(fk11, .int 0), (fk12, .null)]))], u) (fun v σ' u' => v = none ∧ [(.inr (cn0, [(fk0, .ref 1), (fk1, .long (-9223372036854775808)), (fk2, .long (-9223372036854775808)), (fk3, .long (-9223372036854775808)), (fk4, .long 0)])), (.inr (cn1, [(fk5, .ref 2), (fk6, .int 0)])), (.inl ((.object "com/example/chronogate/chronogate/Event"), [.null, .null, .null, .null, .null, .null, .null, .null])), (.inr (cn2, [(fk7, .long 0), (fk8, .null), (fk9, .null), (fk10, .long 0)])), (.inr (cn3, [(fk11, .int 0), (fk12, .null)]))] = σ' ∧ u = u') := by
  refine .s (.aloadN a6_0 rfl rfl) ?_
  refine .callI (k := 4) a6_1 (ok7 hw _ _ _ _) rfl rfl (wd hw 47 rfl) (wd hw 48 rfl) (by decide) (argsL := []) (S := []) (au7_13 hw _ _ hS hn _) rfl rfl rfl rfl rfl rfl (Nat.le_of_ble_eq_true rfl) (Nat.le_of_ble_eq_true rfl) ?_
  rintro _ _ _ ⟨rfl, rfl, rfl⟩
  show WGo _ (4, [wR 4], [], [(.inr (cn0, [(fk0, .ref 1), (fk1, .long (-9223372036854775808)), (fk2, .long (-9223372036854775808)), (fk3, .long (-9223372036854775808)), (fk4, .long 0)])), (.inr (cn1, [(fk5, .ref 2), (fk6, .int 0)])), (.inl ((.object "com/example/chronogate/chronogate/Event"), [.null, .null, .null, .null, .null, .null, .null, .null])), (.inr (cn2, [(fk7, .long 0), (fk8, .null), (fk9, .null), (fk10, .long 0)])), (.inr (cn3, [(fk11, .int 0), (fk12, .null)]))], u) _
  refine .s (.aloadN a6_4 rfl rfl) <| .s (.iconst (0 : Int32) a6_5 rfl) <| .s (.putF (ty := .int) 0 (.int 0) a6_6 (wd hw 54 rfl) rfl rfl (Or.inl (wd hw 55 rfl)) (wd hw 36 rfl) (by decide) rfl rfl) ?_
  show WGo _ (9, [wR 4], [], [(.inr (cn0, [(fk0, .ref 1), (fk1, .long (-9223372036854775808)), (fk2, .long (-9223372036854775808)), (fk3, .long (-9223372036854775808)), (fk4, .long 0)])), (.inr (cn1, [(fk5, .ref 2), (fk6, .int 0)])), (.inl ((.object "com/example/chronogate/chronogate/Event"), [.null, .null, .null, .null, .null, .null, .null, .null])), (.inr (cn2, [(fk7, .long 0), (fk8, .null), (fk9, .null), (fk10, .long 0)])), (.inr (cn3, [(fk11, .int 0), (fk12, .null)]))], u) _
  refine .vreturn a6_9 rfl ?_
  exact ⟨rfl, rfl, rfl⟩
set_option maxHeartbeats 4000000 in
theorem au5_11 {Z : State} {a0 : Array Value} (hw : ∀ d ∈ tables_1, d.before a0 Z = true) (ρ : Nat → Nat) (n0 : Nat) (hS : Sta Z Z.heap "java/util/ArrayList" "DEFAULTCAPACITY_EMPTY_ELEMENTDATA" "[Ljava/lang/Object;" (.ref (ρ 1000))) (hn : Z.heap.size ≤ n0) (u : Nat) : WGo (g5 Z ρ n0 5 u) (0, [wR 4], [], [(.inr (cn0, [(fk0, .ref 1), (fk1, .long (-9223372036854775808)), (fk2, .long (-9223372036854775808)), (fk3, .long (-9223372036854775808)), (fk4, .long 0)])), (.inr (cn1, [(fk5, .ref 2), (fk6, .int 0)])), (.inl ((.object "com/example/chronogate/chronogate/Event"), [.null, .null, .null, .null, .null, .null, .null, .null])), (.inr (cn2, [(fk7, .long 0), (fk8, .null), (fk9, .null), (fk10, .long 0)])), (.inr (cn3, [(fk11, .int 0), (fk12, .null)]))], u) (fun v σ' u' => v = none ∧ [(.inr (cn0, [(fk0, .ref 1), (fk1, .long (-9223372036854775808)), (fk2, .long (-9223372036854775808)), (fk3, .long (-9223372036854775808)), (fk4, .long 0)])), (.inr (cn1, [(fk5, .ref 2), (fk6, .int 0)])), (.inl ((.object "com/example/chronogate/chronogate/Event"), [.null, .null, .null, .null, .null, .null, .null, .null])), (.inr (cn2, [(fk7, .long 0), (fk8, .null), (fk9, .null), (fk10, .long 0)])), (.inr (cn3, [(fk11, .int 0), (fk12, .ref 1000)]))] = σ' ∧ u = u') := by
  refine .s (.aloadN a5_0 rfl rfl) ?_
  refine .callI (k := 4) a5_1 (ok6 hw _ _ _ _) rfl rfl (wd hw 41 rfl) (wd hw 42 rfl) (by decide) (argsL := []) (S := []) (au6_12 hw _ _ hS hn _) rfl rfl rfl rfl rfl rfl (Nat.le_of_ble_eq_true rfl) (Nat.le_of_ble_eq_true rfl) ?_
  rintro _ _ _ ⟨rfl, rfl, rfl⟩
  show WGo _ (4, [wR 4], [], [(.inr (cn0, [(fk0, .ref 1), (fk1, .long (-9223372036854775808)), (fk2, .long (-9223372036854775808)), (fk3, .long (-9223372036854775808)), (fk4, .long 0)])), (.inr (cn1, [(fk5, .ref 2), (fk6, .int 0)])), (.inl ((.object "com/example/chronogate/chronogate/Event"), [.null, .null, .null, .null, .null, .null, .null, .null])), (.inr (cn2, [(fk7, .long 0), (fk8, .null), (fk9, .null), (fk10, .long 0)])), (.inr (cn3, [(fk11, .int 0), (fk12, .null)]))], u) _
  refine .s (.aloadN a5_4 rfl rfl) <| .s (.getS (.ref 1000) a5_5 (wd hw 56 rfl) hS hn rfl) <| .s (.putF (ty := (.array (.object "java/lang/Object"))) 1 (.ref 1000) a5_8 (wd hw 57 rfl) rfl rfl (Or.inl (wd hw 58 rfl)) (wd hw 36 rfl) (by decide) rfl rfl) ?_
  show WGo _ (11, [wR 4], [], [(.inr (cn0, [(fk0, .ref 1), (fk1, .long (-9223372036854775808)), (fk2, .long (-9223372036854775808)), (fk3, .long (-9223372036854775808)), (fk4, .long 0)])), (.inr (cn1, [(fk5, .ref 2), (fk6, .int 0)])), (.inl ((.object "com/example/chronogate/chronogate/Event"), [.null, .null, .null, .null, .null, .null, .null, .null])), (.inr (cn2, [(fk7, .long 0), (fk8, .null), (fk9, .null), (fk10, .long 0)])), (.inr (cn3, [(fk11, .int 0), (fk12, .ref 1000)]))], u) _
  refine .vreturn a5_11 rfl ?_
  exact ⟨rfl, rfl, rfl⟩
set_option maxHeartbeats 4000000 in
theorem au8_14 {Z : State} {a0 : Array Value} (hw : ∀ d ∈ tables_1, d.before a0 Z = true) (ρ : Nat → Nat) (n0 : Nat) (ts : Int64) (hS : Sta Z Z.heap "java/util/ArrayList" "DEFAULTCAPACITY_EMPTY_ELEMENTDATA" "[Ljava/lang/Object;" (.ref (ρ 1000))) (hn : Z.heap.size ≤ n0) (u : Nat) : WGo (g8 Z ρ n0 5 u) (0, [wR 3, wJ ts, wS, wR 4, wN, wJ 0, wS], [], [(.inr (cn0, [(fk0, .ref 1), (fk1, .long (-9223372036854775808)), (fk2, .long (-9223372036854775808)), (fk3, .long (-9223372036854775808)), (fk4, .long 0)])), (.inr (cn1, [(fk5, .ref 2), (fk6, .int 0)])), (.inl ((.object "com/example/chronogate/chronogate/Event"), [.null, .null, .null, .null, .null, .null, .null, .null])), (.inr (cn2, [(fk7, .long 0), (fk8, .null), (fk9, .null), (fk10, .long 0)])), (.inr (cn3, [(fk11, .int 0), (fk12, .ref 1000)]))], u) (fun v σ' u' => v = none ∧ [(.inr (cn0, [(fk0, .ref 1), (fk1, .long (-9223372036854775808)), (fk2, .long (-9223372036854775808)), (fk3, .long (-9223372036854775808)), (fk4, .long 0)])), (.inr (cn1, [(fk5, .ref 2), (fk6, .int 0)])), (.inl ((.object "com/example/chronogate/chronogate/Event"), [.null, .null, .null, .null, .null, .null, .null, .null])), (.inr (cn2, [(fk7, (.long ts)), (fk8, .ref 4), (fk9, .null), (fk10, .long 0)])), (.inr (cn3, [(fk11, .int 0), (fk12, .ref 1000)]))] = σ' ∧ u = u') := by
  refine .s (.aloadN a8_0 rfl rfl) <| .s (.initO a8_1 (wd hw 62 rfl) (wd hw 7 rfl) (wd hw 8 rfl) rfl (Nat.le_of_ble_eq_true rfl) (Nat.le_of_ble_eq_true rfl)) <| .s (.aloadN a8_4 rfl rfl) <| .s (.lloadN a8_5 rfl) <| .s (.putF (ty := .long) 0 ((.long ts)) a8_6 (wd hw 63 rfl) rfl rfl (Or.inr ⟨(wd hw 64 rfl), rfl, rfl⟩) (wd hw 33 rfl) (by decide) rfl rfl) ?_
  show WGo _ (9, [wR 3, wJ ts, wS, wR 4, wN, wJ 0, wS], [], [(.inr (cn0, [(fk0, .ref 1), (fk1, .long (-9223372036854775808)), (fk2, .long (-9223372036854775808)), (fk3, .long (-9223372036854775808)), (fk4, .long 0)])), (.inr (cn1, [(fk5, .ref 2), (fk6, .int 0)])), (.inl ((.object "com/example/chronogate/chronogate/Event"), [.null, .null, .null, .null, .null, .null, .null, .null])), (.inr (cn2, [(fk7, (.long ts)), (fk8, .null), (fk9, .null), (fk10, .long 0)])), (.inr (cn3, [(fk11, .int 0), (fk12, .ref 1000)]))], u) _
  refine .s (.aloadN a8_9 rfl rfl) <| .s (.aloadN a8_10 rfl rfl) <| .s (.putF (ty := (.object "java/util/List")) 1 (.ref 4) a8_11 (wd hw 65 rfl) rfl rfl (Or.inr ⟨(wd hw 66 rfl), rfl, rfl⟩) (wd hw 33 rfl) (by decide) rfl rfl) ?_
  show WGo _ (14, [wR 3, wJ ts, wS, wR 4, wN, wJ 0, wS], [], [(.inr (cn0, [(fk0, .ref 1), (fk1, .long (-9223372036854775808)), (fk2, .long (-9223372036854775808)), (fk3, .long (-9223372036854775808)), (fk4, .long 0)])), (.inr (cn1, [(fk5, .ref 2), (fk6, .int 0)])), (.inl ((.object "com/example/chronogate/chronogate/Event"), [.null, .null, .null, .null, .null, .null, .null, .null])), (.inr (cn2, [(fk7, (.long ts)), (fk8, .ref 4), (fk9, .null), (fk10, .long 0)])), (.inr (cn3, [(fk11, .int 0), (fk12, .ref 1000)]))], u) _
  refine .s (.aloadN a8_14 rfl rfl) <| .s (.aload a8_15 rfl rfl) <| .s (.putF (ty := (.object "java/lang/Object")) 2 (.null) a8_17 (wd hw 67 rfl) rfl rfl (Or.inr ⟨(wd hw 68 rfl), rfl, rfl⟩) (wd hw 33 rfl) (by decide) rfl rfl) ?_
  show WGo _ (20, [wR 3, wJ ts, wS, wR 4, wN, wJ 0, wS], [], [(.inr (cn0, [(fk0, .ref 1), (fk1, .long (-9223372036854775808)), (fk2, .long (-9223372036854775808)), (fk3, .long (-9223372036854775808)), (fk4, .long 0)])), (.inr (cn1, [(fk5, .ref 2), (fk6, .int 0)])), (.inl ((.object "com/example/chronogate/chronogate/Event"), [.null, .null, .null, .null, .null, .null, .null, .null])), (.inr (cn2, [(fk7, (.long ts)), (fk8, .ref 4), (fk9, .null), (fk10, .long 0)])), (.inr (cn3, [(fk11, .int 0), (fk12, .ref 1000)]))], u) _
  refine .s (.aloadN a8_20 rfl rfl) <| .s (.lload a8_21 rfl) <| .s (.putF (ty := .long) 3 (.long 0) a8_23 (wd hw 69 rfl) rfl rfl (Or.inr ⟨(wd hw 70 rfl), rfl, rfl⟩) (wd hw 33 rfl) (by decide) rfl rfl) ?_
  show WGo _ (26, [wR 3, wJ ts, wS, wR 4, wN, wJ 0, wS], [], [(.inr (cn0, [(fk0, .ref 1), (fk1, .long (-9223372036854775808)), (fk2, .long (-9223372036854775808)), (fk3, .long (-9223372036854775808)), (fk4, .long 0)])), (.inr (cn1, [(fk5, .ref 2), (fk6, .int 0)])), (.inl ((.object "com/example/chronogate/chronogate/Event"), [.null, .null, .null, .null, .null, .null, .null, .null])), (.inr (cn2, [(fk7, (.long ts)), (fk8, .ref 4), (fk9, .null), (fk10, .long 0)])), (.inr (cn3, [(fk11, .int 0), (fk12, .ref 1000)]))], u) _
  refine .vreturn a8_26 rfl ?_
  exact ⟨rfl, rfl, rfl⟩
set_option maxHeartbeats 40000000 in
theorem law_go (Z : State) (a0 : Array Value) (hw : ∀ d ∈ tables_1, d.before a0 Z = true) (ρ : Nat → Nat) (n0 : Nat) (hS : Sta Z Z.heap "java/util/ArrayList" "DEFAULTCAPACITY_EMPTY_ELEMENTDATA" "[Ljava/lang/Object;" (.ref (ρ 1000))) (hn : Z.heap.size ≤ n0) (a b ts : Int64) (flags : Int32) : WGo (g0 Z ρ n0 0 0) (0, [wJ a, wS, wJ b, wS, wJ ts, wS, wI flags, wU, wU, wU, wU, wU, wU, wU, wU], [], [], 0) (fun v σ' u' => v = some (.int 1) ∧ σ'.length ≤ 24 ∧ u' ≤ 128) := by
  refine .s (.newO (k := 0) [(fk0, .null), (fk1, .long 0), (fk2, .long 0), (fk3, .long 0), (fk4, .long 0)] a0_0 (wd hw 0 rfl) (wd hw 1 rfl) (wd hw 2 rfl) ⟨⟨Or.inr (wd hw 24 rfl), (.object "com/example/chronogate/chronogate/ReleaseQueue"), by decide, rfl⟩, ⟨Or.inl (wd hw 27 rfl), .long, by decide, rfl⟩, ⟨Or.inl (wd hw 29 rfl), .long, by decide, rfl⟩, ⟨Or.inl (wd hw 31 rfl), .long, by decide, rfl⟩, ⟨Or.inl (wd hw 104 rfl), .long, by decide, rfl⟩, trivial⟩ (by decide) rfl (by decide)) ?_
  show WGo _ (3, [wJ a, wS, wJ b, wS, wJ ts, wS, wI flags, wU, wU, wU, wU, wU, wU, wU, wU], [.ref 0], [(.inr (cn0, [(fk0, .null), (fk1, .long 0), (fk2, .long 0), (fk3, .long 0), (fk4, .long 0)]))], 5) _
  refine .s (.dup a0_3 rfl) ?_
  refine .callI (k := 0) a0_4 (ok1 hw _ _ _ _) rfl rfl (wd hw 3 rfl) (wd hw 4 rfl) (by decide) (argsL := []) (S := [.ref 0]) (au1_8 hw _ _ hS hn _) rfl rfl rfl rfl rfl rfl (Nat.le_of_ble_eq_true rfl) (Nat.le_of_ble_eq_true rfl) ?_
  rintro _ _ _ ⟨rfl, rfl, rfl⟩
  show WGo _ (7, [wJ a, wS, wJ b, wS, wJ ts, wS, wI flags, wU, wU, wU, wU, wU, wU, wU, wU], [.ref 0], [(.inr (cn0, [(fk0, .ref 1), (fk1, .long (-9223372036854775808)), (fk2, .long (-9223372036854775808)), (fk3, .long (-9223372036854775808)), (fk4, .long 0)])), (.inr (cn1, [(fk5, .ref 2), (fk6, .int 0)])), (.inl ((.object "com/example/chronogate/chronogate/Event"), [.null, .null, .null, .null, .null, .null, .null, .null]))], 15) _
  refine .s (.astore (L' := [wJ a, wS, wJ b, wS, wJ ts, wS, wI flags, wR 0, wU, wU, wU, wU, wU, wU, wU]) a0_7 rfl rfl) <| .s (.newO (k := 3) [(fk7, .long 0), (fk8, .null), (fk9, .null), (fk10, .long 0)] a0_9 (wd hw 32 rfl) (wd hw 33 rfl) (wd hw 34 rfl) ⟨⟨Or.inr (wd hw 64 rfl), .long, by decide, rfl⟩, ⟨Or.inr (wd hw 66 rfl), (.object "java/util/List"), by decide, rfl⟩, ⟨Or.inr (wd hw 68 rfl), (.object "java/lang/Object"), by decide, rfl⟩, ⟨Or.inr (wd hw 70 rfl), .long, by decide, rfl⟩, trivial⟩ (by decide) rfl (by decide)) ?_
  show WGo _ (12, [wJ a, wS, wJ b, wS, wJ ts, wS, wI flags, wR 0, wU, wU, wU, wU, wU, wU, wU], [.ref 3], [(.inr (cn0, [(fk0, .ref 1), (fk1, .long (-9223372036854775808)), (fk2, .long (-9223372036854775808)), (fk3, .long (-9223372036854775808)), (fk4, .long 0)])), (.inr (cn1, [(fk5, .ref 2), (fk6, .int 0)])), (.inl ((.object "com/example/chronogate/chronogate/Event"), [.null, .null, .null, .null, .null, .null, .null, .null])), (.inr (cn2, [(fk7, .long 0), (fk8, .null), (fk9, .null), (fk10, .long 0)]))], 19) _
  refine .s (.dup a0_12 rfl) <| .s (.lload a0_13 rfl) <| .s (.newO (k := 4) [(fk11, .int 0), (fk12, .null)] a0_15 (wd hw 35 rfl) (wd hw 36 rfl) (wd hw 37 rfl) ⟨⟨Or.inl (wd hw 55 rfl), .int, by decide, rfl⟩, ⟨Or.inl (wd hw 58 rfl), (.array (.object "java/lang/Object")), by decide, rfl⟩, trivial⟩ (by decide) rfl (by decide)) ?_
  show WGo _ (18, [wJ a, wS, wJ b, wS, wJ ts, wS, wI flags, wR 0, wU, wU, wU, wU, wU, wU, wU], [.ref 4, (.long ts), .ref 3, .ref 3], [(.inr (cn0, [(fk0, .ref 1), (fk1, .long (-9223372036854775808)), (fk2, .long (-9223372036854775808)), (fk3, .long (-9223372036854775808)), (fk4, .long 0)])), (.inr (cn1, [(fk5, .ref 2), (fk6, .int 0)])), (.inl ((.object "com/example/chronogate/chronogate/Event"), [.null, .null, .null, .null, .null, .null, .null, .null])), (.inr (cn2, [(fk7, .long 0), (fk8, .null), (fk9, .null), (fk10, .long 0)])), (.inr (cn3, [(fk11, .int 0), (fk12, .null)]))], 22) _
  refine .s (.dup a0_18 rfl) ?_
  refine .callI (k := 4) a0_19 (ok5 hw _ _ _ _) rfl rfl (wd hw 38 rfl) (wd hw 39 rfl) (by decide) (argsL := []) (S := [.ref 4, (.long ts), .ref 3, .ref 3]) (au5_11 hw _ _ hS hn _) rfl rfl rfl rfl rfl rfl (Nat.le_of_ble_eq_true rfl) (Nat.le_of_ble_eq_true rfl) ?_
  rintro _ _ _ ⟨rfl, rfl, rfl⟩
  show WGo _ (22, [wJ a, wS, wJ b, wS, wJ ts, wS, wI flags, wR 0, wU, wU, wU, wU, wU, wU, wU], [.ref 4, (.long ts), .ref 3, .ref 3], [(.inr (cn0, [(fk0, .ref 1), (fk1, .long (-9223372036854775808)), (fk2, .long (-9223372036854775808)), (fk3, .long (-9223372036854775808)), (fk4, .long 0)])), (.inr (cn1, [(fk5, .ref 2), (fk6, .int 0)])), (.inl ((.object "com/example/chronogate/chronogate/Event"), [.null, .null, .null, .null, .null, .null, .null, .null])), (.inr (cn2, [(fk7, .long 0), (fk8, .null), (fk9, .null), (fk10, .long 0)])), (.inr (cn3, [(fk11, .int 0), (fk12, .ref 1000)]))], 22) _
  refine .s (.aconstNull a0_22) <| .s (.lconst (0 : Int64) a0_23 rfl) ?_
  refine .callI (k := 3) a0_24 (ok8 hw _ _ _ _) rfl rfl (wd hw 59 rfl) (wd hw 60 rfl) (by decide) (argsL := [(.long ts), .ref 4, .null, .long 0]) (S := [.ref 3]) (au8_14 hw _ _ ts hS hn _) rfl rfl rfl rfl rfl rfl (Nat.le_of_ble_eq_true rfl) (Nat.le_of_ble_eq_true rfl) ?_
  rintro _ _ _ ⟨rfl, rfl, rfl⟩
  show WGo _ (27, [wJ a, wS, wJ b, wS, wJ ts, wS, wI flags, wR 0, wU, wU, wU, wU, wU, wU, wU], [.ref 3], [(.inr (cn0, [(fk0, .ref 1), (fk1, .long (-9223372036854775808)), (fk2, .long (-9223372036854775808)), (fk3, .long (-9223372036854775808)), (fk4, .long 0)])), (.inr (cn1, [(fk5, .ref 2), (fk6, .int 0)])), (.inl ((.object "com/example/chronogate/chronogate/Event"), [.null, .null, .null, .null, .null, .null, .null, .null])), (.inr (cn2, [(fk7, (.long ts)), (fk8, .ref 4), (fk9, .null), (fk10, .long 0)])), (.inr (cn3, [(fk11, .int 0), (fk12, .ref 1000)]))], 22) _
  refine .s (.astore (L' := [wJ a, wS, wJ b, wS, wJ ts, wS, wI flags, wR 0, wR 3, wU, wU, wU, wU, wU, wU]) a0_27 rfl rfl) <| .s (.aload a0_29 rfl rfl) ?_
  refine .callV (k := 0) (z := (⟨"com/example/chronogate/chronogate/Substream", "delivered", "()Z"⟩ : MethodName)) a0_31 (ok9 hw _ _ _ _) ⟨rfl, by decide⟩ (wd hw 71 rfl) (wd hw 72 rfl) (fun s hZ => notFace_of_selects (args := #[]) (mvT hZ (wd hw 74 rfl))) (wd hw 74 rfl) (wd hw 73 rfl) rfl (argsL := []) (S := []) (cdel0 hw _ _ ts (-9223372036854775808 : Int64) (-9223372036854775808 : Int64) (0 : Int64) (-9223372036854775808 : Int64) _) rfl rfl rfl rfl rfl rfl (Nat.le_of_ble_eq_true rfl) (Nat.le_of_ble_eq_true rfl) ?_
  rintro _ _ _ ⟨⟨rfl, hD⟩ | ⟨rfl, hD⟩, rfl, rfl⟩
  · exact absurd rfl hD
  · clear hD
    show WGo _ (34, [wJ a, wS, wJ b, wS, wJ ts, wS, wI flags, wR 0, wR 3, wU, wU, wU, wU, wU, wU], [.int 0], [(.inr (cn0, [(fk0, .ref 1), (fk1, .long (-9223372036854775808)), (fk2, .long (-9223372036854775808)), (fk3, .long (-9223372036854775808)), (fk4, .long 0)])), (.inr (cn1, [(fk5, .ref 2), (fk6, .int 0)])), (.inl ((.object "com/example/chronogate/chronogate/Event"), [.null, .null, .null, .null, .null, .null, .null, .null])), (.inr (cn2, [(fk7, (.long ts)), (fk8, .ref 4), (fk9, .null), (fk10, .long 0)])), (.inr (cn3, [(fk11, .int 0), (fk12, .ref 1000)]))], 22) _
    refine .s (.ifF a0_34 (by decide)) <| .s (.iconst (1 : Int32) a0_37 rfl) <| .s (.goto a0_38) <| .s (.istore (L' := [wJ a, wS, wJ b, wS, wJ ts, wS, wI flags, wR 0, wR 3, wI 1, wU, wU, wU, wU, wU]) a0_42 rfl) <| .s (.iload a0_44 rfl) <| .s (.iconst (1 : Int32) a0_46 rfl) <| .s (.iand a0_47) ?_
    refine .eq0 a0_48 (fun h48 => ?_) (fun h48 => ?_)
    · refine .s (.iload a0_58 rfl) <| .s (.iconst (2 : Int32) a0_60 rfl) <| .s (.iand a0_61) ?_
      refine .eq0 a0_62 (fun h62 => ?_) (fun h62 => ?_)
      · refine .s (.iload a0_71 rfl) <| .s (.ifF a0_73 (by decide)) <| .s (.aload a0_76 rfl rfl) ?_
        refine .callV (k := 0) (z := (⟨"com/example/chronogate/chronogate/Substream", "delivered", "()Z"⟩ : MethodName)) a0_78 (ok9 hw _ _ _ _) ⟨rfl, by decide⟩ (wd hw 71 rfl) (wd hw 72 rfl) (fun s hZ => notFace_of_selects (args := #[]) (mvT hZ (wd hw 74 rfl))) (wd hw 74 rfl) (wd hw 73 rfl) rfl (argsL := []) (S := []) (cdel0 hw _ _ ts (-9223372036854775808 : Int64) (-9223372036854775808 : Int64) (0 : Int64) (-9223372036854775808 : Int64) _) rfl rfl rfl rfl rfl rfl (Nat.le_of_ble_eq_true rfl) (Nat.le_of_ble_eq_true rfl) ?_
        rintro _ _ _ ⟨⟨rfl, hD⟩ | ⟨rfl, hD⟩, rfl, rfl⟩
        · exact absurd rfl hD
        · clear hD
          show WGo _ (81, [wJ a, wS, wJ b, wS, wJ ts, wS, wI flags, wR 0, wR 3, wI 1, wU, wU, wU, wU, wU], [.int 0], [(.inr (cn0, [(fk0, .ref 1), (fk1, .long (-9223372036854775808)), (fk2, .long (-9223372036854775808)), (fk3, .long (-9223372036854775808)), (fk4, .long 0)])), (.inr (cn1, [(fk5, .ref 2), (fk6, .int 0)])), (.inl ((.object "com/example/chronogate/chronogate/Event"), [.null, .null, .null, .null, .null, .null, .null, .null])), (.inr (cn2, [(fk7, (.long ts)), (fk8, .ref 4), (fk9, .null), (fk10, .long 0)])), (.inr (cn3, [(fk11, .int 0), (fk12, .ref 1000)]))], 22) _
          refine .s (.ifF a0_81 (by decide)) <| .s (.iconst (1 : Int32) a0_84 rfl) <| .s (.goto a0_85) <| .s (.istore (L' := [wJ a, wS, wJ b, wS, wJ ts, wS, wI flags, wR 0, wR 3, wI 1, wU, wU, wU, wU, wU]) a0_89 rfl) <| .s (.iload a0_91 rfl) <| .s (.iconst (4 : Int32) a0_93 rfl) <| .s (.iand a0_94) ?_
          refine .eq0 a0_95 (fun h95 => ?_) (fun h95 => ?_)
          · refine .s (.iconst (0 : Int32) a0_102 rfl) <| .s (.istore (L' := [wJ a, wS, wJ b, wS, wJ ts, wS, wI flags, wR 0, wR 3, wI 1, wI 0, wU, wU, wU, wU]) a0_103 rfl) <| .s (.iload a0_105 rfl) <| .s (.ifT a0_107 (by decide)) <| .s (.iload a0_189 rfl) <| .s (.bipush (8 : Int32) a0_191 rfl) <| .s (.iand a0_193) ?_
            refine .eq0 a0_194 (fun h194 => ?_) (fun h194 => ?_)
            · refine .s (.iload a0_211 rfl) <| .s (.ifF a0_213 (by decide)) <| .s (.aload a0_216 rfl rfl) ?_
              refine .callV (k := 0) (z := (⟨"com/example/chronogate/chronogate/Substream", "delivered", "()Z"⟩ : MethodName)) a0_218 (ok9 hw _ _ _ _) ⟨rfl, by decide⟩ (wd hw 71 rfl) (wd hw 72 rfl) (fun s hZ => notFace_of_selects (args := #[]) (mvT hZ (wd hw 74 rfl))) (wd hw 74 rfl) (wd hw 73 rfl) rfl (argsL := []) (S := []) (cdel0 hw _ _ ts (-9223372036854775808 : Int64) (-9223372036854775808 : Int64) (0 : Int64) (-9223372036854775808 : Int64) _) rfl rfl rfl rfl rfl rfl (Nat.le_of_ble_eq_true rfl) (Nat.le_of_ble_eq_true rfl) ?_
              rintro _ _ _ ⟨⟨rfl, hD⟩ | ⟨rfl, hD⟩, rfl, rfl⟩
              · exact absurd rfl hD
              · clear hD
                show WGo _ (221, [wJ a, wS, wJ b, wS, wJ ts, wS, wI flags, wR 0, wR 3, wI 1, wI 0, wU, wU, wU, wU], [.int 0], [(.inr (cn0, [(fk0, .ref 1), (fk1, .long (-9223372036854775808)), (fk2, .long (-9223372036854775808)), (fk3, .long (-9223372036854775808)), (fk4, .long 0)])), (.inr (cn1, [(fk5, .ref 2), (fk6, .int 0)])), (.inl ((.object "com/example/chronogate/chronogate/Event"), [.null, .null, .null, .null, .null, .null, .null, .null])), (.inr (cn2, [(fk7, (.long ts)), (fk8, .ref 4), (fk9, .null), (fk10, .long 0)])), (.inr (cn3, [(fk11, .int 0), (fk12, .ref 1000)]))], 22) _
                refine .s (.iload a0_221 rfl) <| .s (.icmpF a0_223 (by decide)) <| .s (.iconst (1 : Int32) a0_226 rfl) <| .s (.goto a0_227) <| .s (.istore (L' := [wJ a, wS, wJ b, wS, wJ ts, wS, wI flags, wR 0, wR 3, wI 1, wI 0, wU, wU, wU, wU]) a0_231 rfl) <| .s (.iload a0_233 rfl) ?_
                refine .ireturn .boolean a0_235 rfl (by simp) ?_
                exact ⟨rfl, Nat.le_of_ble_eq_true rfl, Nat.le_of_ble_eq_true rfl⟩
            · refine .s (.aload a0_197 rfl rfl) <| .s (.aload a0_199 rfl rfl) ?_
              refine .callV (k := 0) (z := (⟨"com/example/chronogate/chronogate/Substream", "add", "(Lcom/example/chronogate/chronogate/Event;)V"⟩ : MethodName)) a0_201 (ok12 hw _ _ _ _) ⟨rfl, by decide⟩ (wd hw 85 rfl) (wd hw 86 rfl) (fun s hZ => notFace_of_selects (args := #[]) (mvT hZ (wd hw 88 rfl))) (wd hw 88 rfl) (wd hw 87 rfl) rfl (argsL := [.ref 3]) (S := []) (cadd0 hw _ _ hS hn ts (-9223372036854775808 : Int64) (-9223372036854775808 : Int64) (0 : Int64) (-9223372036854775808 : Int64) _) rfl rfl rfl rfl rfl rfl (Nat.le_of_ble_eq_true rfl) (Nat.le_of_ble_eq_true rfl) ?_
              rintro _ _ _ ⟨y6, rfl, rfl, rfl⟩
              show WGo _ (204, [wJ a, wS, wJ b, wS, wJ ts, wS, wI flags, wR 0, wR 3, wI 1, wI 0, wU, wU, wU, wU], [], [(.inr (cn0, [(fk0, .ref 1), (fk1, (.long y6)), (fk2, .long (-9223372036854775808)), (fk3, .long (-9223372036854775808)), (fk4, (.long ((0 : Int64) + (1 : Int64))))])), (.inr (cn1, [(fk5, .ref 2), (fk6, .int 1)])), (.inl ((.object "com/example/chronogate/chronogate/Event"), [.ref 3, .null, .null, .null, .null, .null, .null, .null])), (.inr (cn2, [(fk7, (.long ts)), (fk8, .ref 4), (fk9, .null), (fk10, .long 0)])), (.inr (cn3, [(fk11, .int 0), (fk12, .ref 1000)]))], 22) _
              refine .s (.aload a0_204 rfl rfl) <| .s (.lload a0_206 rfl) ?_
              refine .callV (k := 0) (z := (⟨"com/example/chronogate/chronogate/Substream", "punctuate", "(J)V"⟩ : MethodName)) a0_208 (ok10 hw _ _ _ _) ⟨rfl, by decide⟩ (wd hw 76 rfl) (wd hw 77 rfl) (fun s hZ => notFace_of_selects (args := #[]) (mvT hZ (wd hw 79 rfl))) (wd hw 79 rfl) (wd hw 78 rfl) rfl (argsL := [(.long ts)]) (S := []) (cpun1 hw _ _ ts ts y6 (-9223372036854775808 : Int64) ((0 : Int64) + (1 : Int64)) (-9223372036854775808 : Int64) _) rfl rfl rfl rfl rfl rfl (Nat.le_of_ble_eq_true rfl) (Nat.le_of_ble_eq_true rfl) ?_
              rintro _ _ _ ⟨y7, rfl, rfl, rfl⟩
              show WGo _ (211, [wJ a, wS, wJ b, wS, wJ ts, wS, wI flags, wR 0, wR 3, wI 1, wI 0, wU, wU, wU, wU], [], [(.inr (cn0, [(fk0, .ref 1), (fk1, (.long y6)), (fk2, .long (-9223372036854775808)), (fk3, (.long y7)), (fk4, (.long ((0 : Int64) + (1 : Int64))))])), (.inr (cn1, [(fk5, .ref 2), (fk6, .int 1)])), (.inl ((.object "com/example/chronogate/chronogate/Event"), [.ref 3, .null, .null, .null, .null, .null, .null, .null])), (.inr (cn2, [(fk7, (.long ts)), (fk8, .ref 4), (fk9, .null), (fk10, .long 0)])), (.inr (cn3, [(fk11, .int 0), (fk12, .ref 1000)]))], 22) _
              refine .s (.iload a0_211 rfl) <| .s (.ifF a0_213 (by decide)) <| .s (.aload a0_216 rfl rfl) ?_
              refine .callV (k := 0) (z := (⟨"com/example/chronogate/chronogate/Substream", "delivered", "()Z"⟩ : MethodName)) a0_218 (ok9 hw _ _ _ _) ⟨rfl, by decide⟩ (wd hw 71 rfl) (wd hw 72 rfl) (fun s hZ => notFace_of_selects (args := #[]) (mvT hZ (wd hw 74 rfl))) (wd hw 74 rfl) (wd hw 73 rfl) rfl (argsL := []) (S := []) (cdel1 hw _ _ ts y6 (-9223372036854775808 : Int64) ((0 : Int64) + (1 : Int64)) y7 _) rfl rfl rfl rfl rfl rfl (Nat.le_of_ble_eq_true rfl) (Nat.le_of_ble_eq_true rfl) ?_
              rintro _ _ _ ⟨⟨rfl, hD⟩ | ⟨rfl, hD⟩, rfl, rfl⟩
              · exact absurd rfl hD
              · clear hD
                show WGo _ (221, [wJ a, wS, wJ b, wS, wJ ts, wS, wI flags, wR 0, wR 3, wI 1, wI 0, wU, wU, wU, wU], [.int 0], [(.inr (cn0, [(fk0, .ref 1), (fk1, (.long y6)), (fk2, .long (-9223372036854775808)), (fk3, (.long y7)), (fk4, (.long ((0 : Int64) + (1 : Int64))))])), (.inr (cn1, [(fk5, .ref 2), (fk6, .int 1)])), (.inl ((.object "com/example/chronogate/chronogate/Event"), [.ref 3, .null, .null, .null, .null, .null, .null, .null])), (.inr (cn2, [(fk7, (.long ts)), (fk8, .ref 4), (fk9, .null), (fk10, .long 0)])), (.inr (cn3, [(fk11, .int 0), (fk12, .ref 1000)]))], 22) _
                refine .s (.iload a0_221 rfl) <| .s (.icmpF a0_223 (by decide)) <| .s (.iconst (1 : Int32) a0_226 rfl) <| .s (.goto a0_227) <| .s (.istore (L' := [wJ a, wS, wJ b, wS, wJ ts, wS, wI flags, wR 0, wR 3, wI 1, wI 0, wU, wU, wU, wU]) a0_231 rfl) <| .s (.iload a0_233 rfl) ?_
                refine .ireturn .boolean a0_235 rfl (by simp) ?_
                exact ⟨rfl, Nat.le_of_ble_eq_true rfl, Nat.le_of_ble_eq_true rfl⟩
          · refine .s (.iconst (1 : Int32) a0_98 rfl) <| .s (.goto a0_99) <| .s (.istore (L' := [wJ a, wS, wJ b, wS, wJ ts, wS, wI flags, wR 0, wR 3, wI 1, wI 1, wU, wU, wU, wU]) a0_103 rfl) <| .s (.iload a0_105 rfl) <| .s (.ifF a0_107 (by decide)) <| .s (.lloadN a0_110 rfl) ?_
            refine .callS a0_111 (ok15 hw _ _ _ _) (wd hw 105 rfl) (wd hw 106 rfl) (argsL := [(.long a)]) (S := []) (crng hw _ _ a _ _) rfl rfl rfl rfl rfl rfl (Nat.le_of_ble_eq_true rfl) (Nat.le_of_ble_eq_true rfl) ?_
            rintro _ _ _ ⟨⟨r8, rfl, hr8⟩, rfl, rfl⟩
            show WGo _ (114, [wJ a, wS, wJ b, wS, wJ ts, wS, wI flags, wR 0, wR 3, wI 1, wI 1, wU, wU, wU, wU], [(.long r8)], [(.inr (cn0, [(fk0, .ref 1), (fk1, .long (-9223372036854775808)), (fk2, .long (-9223372036854775808)), (fk3, .long (-9223372036854775808)), (fk4, .long 0)])), (.inr (cn1, [(fk5, .ref 2), (fk6, .int 0)])), (.inl ((.object "com/example/chronogate/chronogate/Event"), [.null, .null, .null, .null, .null, .null, .null, .null])), (.inr (cn2, [(fk7, (.long ts)), (fk8, .ref 4), (fk9, .null), (fk10, .long 0)])), (.inr (cn3, [(fk11, .int 0), (fk12, .ref 1000)]))], 22) _
            refine .s (.lstore (L' := [wJ a, wS, wJ b, wS, wJ ts, wS, wI flags, wR 0, wR 3, wI 1, wI 1, wJ r8, wS, wU, wU]) a0_114 rfl) <| .s (.aload a0_116 rfl rfl) <| .s (.lload a0_118 rfl) ?_
            refine .callV (k := 0) (z := (⟨"com/example/chronogate/chronogate/Substream", "arrive", "(J)V"⟩ : MethodName)) a0_120 (ok16 hw _ _ _ _) ⟨rfl, by decide⟩ (wd hw 112 rfl) (wd hw 113 rfl) (fun s hZ => notFace_of_selects (args := #[]) (mvT hZ (wd hw 115 rfl))) (wd hw 115 rfl) (wd hw 114 rfl) rfl (argsL := [(.long r8)]) (S := []) (carr0 hw _ _ r8 ts (-9223372036854775808 : Int64) (-9223372036854775808 : Int64) (0 : Int64) (-9223372036854775808 : Int64) _) rfl rfl rfl rfl rfl rfl (Nat.le_of_ble_eq_true rfl) (Nat.le_of_ble_eq_true rfl) ?_
            rintro _ _ _ ⟨rfl, rfl, rfl⟩
            show WGo _ (123, [wJ a, wS, wJ b, wS, wJ ts, wS, wI flags, wR 0, wR 3, wI 1, wI 1, wJ r8, wS, wU, wU], [], [(.inr (cn0, [(fk0, .ref 1), (fk1, .long (-9223372036854775808)), (fk2, (.long r8)), (fk3, .long (-9223372036854775808)), (fk4, .long 0)])), (.inr (cn1, [(fk5, .ref 2), (fk6, .int 0)])), (.inl ((.object "com/example/chronogate/chronogate/Event"), [.null, .null, .null, .null, .null, .null, .null, .null])), (.inr (cn2, [(fk7, (.long ts)), (fk8, .ref 4), (fk9, .null), (fk10, .long 0)])), (.inr (cn3, [(fk11, .int 0), (fk12, .ref 1000)]))], 22) _
            refine .s (.iload a0_123 rfl) <| .s (.ifF a0_125 (by decide)) <| .s (.aload a0_128 rfl rfl) ?_
            refine .callV (k := 0) (z := (⟨"com/example/chronogate/chronogate/Substream", "delivered", "()Z"⟩ : MethodName)) a0_130 (ok9 hw _ _ _ _) ⟨rfl, by decide⟩ (wd hw 71 rfl) (wd hw 72 rfl) (fun s hZ => notFace_of_selects (args := #[]) (mvT hZ (wd hw 74 rfl))) (wd hw 74 rfl) (wd hw 73 rfl) rfl (argsL := []) (S := []) (cdel0 hw _ _ ts (-9223372036854775808 : Int64) r8 (0 : Int64) (-9223372036854775808 : Int64) _) rfl rfl rfl rfl rfl rfl (Nat.le_of_ble_eq_true rfl) (Nat.le_of_ble_eq_true rfl) ?_
            rintro _ _ _ ⟨⟨rfl, hD⟩ | ⟨rfl, hD⟩, rfl, rfl⟩
            · clear hD
              show WGo _ (133, [wJ a, wS, wJ b, wS, wJ ts, wS, wI flags, wR 0, wR 3, wI 1, wI 1, wJ r8, wS, wU, wU], [.int 1], [(.inr (cn0, [(fk0, .ref 1), (fk1, .long (-9223372036854775808)), (fk2, (.long r8)), (fk3, .long (-9223372036854775808)), (fk4, .long 0)])), (.inr (cn1, [(fk5, .ref 2), (fk6, .int 0)])), (.inl ((.object "com/example/chronogate/chronogate/Event"), [.null, .null, .null, .null, .null, .null, .null, .null])), (.inr (cn2, [(fk7, (.long ts)), (fk8, .ref 4), (fk9, .null), (fk10, .long 0)])), (.inr (cn3, [(fk11, .int 0), (fk12, .ref 1000)]))], 22) _
              refine .s (.ifF a0_133 (by decide)) <| .s (.iconst (1 : Int32) a0_136 rfl) <| .s (.goto a0_137) <| .s (.istore (L' := [wJ a, wS, wJ b, wS, wJ ts, wS, wI flags, wR 0, wR 3, wI 1, wI 1, wJ r8, wS, wU, wU]) a0_141 rfl) <| .s (.iload a0_143 rfl) <| .s (.bipush (16 : Int32) a0_145 rfl) <| .s (.iand a0_147) ?_
              refine .eq0 a0_148 (fun h148 => ?_) (fun h148 => ?_)
              · refine .s (.iload a0_189 rfl) <| .s (.bipush (8 : Int32) a0_191 rfl) <| .s (.iand a0_193) ?_
                refine .eq0 a0_194 (fun h194 => ?_) (fun h194 => ?_)
                · refine .s (.iload a0_211 rfl) <| .s (.ifF a0_213 (by decide)) <| .s (.aload a0_216 rfl rfl) ?_
                  refine .callV (k := 0) (z := (⟨"com/example/chronogate/chronogate/Substream", "delivered", "()Z"⟩ : MethodName)) a0_218 (ok9 hw _ _ _ _) ⟨rfl, by decide⟩ (wd hw 71 rfl) (wd hw 72 rfl) (fun s hZ => notFace_of_selects (args := #[]) (mvT hZ (wd hw 74 rfl))) (wd hw 74 rfl) (wd hw 73 rfl) rfl (argsL := []) (S := []) (cdel0 hw _ _ ts (-9223372036854775808 : Int64) r8 (0 : Int64) (-9223372036854775808 : Int64) _) rfl rfl rfl rfl rfl rfl (Nat.le_of_ble_eq_true rfl) (Nat.le_of_ble_eq_true rfl) ?_
                  rintro _ _ _ ⟨⟨rfl, hD⟩ | ⟨rfl, hD⟩, rfl, rfl⟩
                  · clear hD
                    show WGo _ (221, [wJ a, wS, wJ b, wS, wJ ts, wS, wI flags, wR 0, wR 3, wI 1, wI 1, wJ r8, wS, wU, wU], [.int 1], [(.inr (cn0, [(fk0, .ref 1), (fk1, .long (-9223372036854775808)), (fk2, (.long r8)), (fk3, .long (-9223372036854775808)), (fk4, .long 0)])), (.inr (cn1, [(fk5, .ref 2), (fk6, .int 0)])), (.inl ((.object "com/example/chronogate/chronogate/Event"), [.null, .null, .null, .null, .null, .null, .null, .null])), (.inr (cn2, [(fk7, (.long ts)), (fk8, .ref 4), (fk9, .null), (fk10, .long 0)])), (.inr (cn3, [(fk11, .int 0), (fk12, .ref 1000)]))], 22) _
                    refine .s (.iload a0_221 rfl) <| .s (.icmpF a0_223 (by decide)) <| .s (.iconst (1 : Int32) a0_226 rfl) <| .s (.goto a0_227) <| .s (.istore (L' := [wJ a, wS, wJ b, wS, wJ ts, wS, wI flags, wR 0, wR 3, wI 1, wI 1, wJ r8, wS, wU, wU]) a0_231 rfl) <| .s (.iload a0_233 rfl) ?_
                    refine .ireturn .boolean a0_235 rfl (by simp) ?_
                    exact ⟨rfl, Nat.le_of_ble_eq_true rfl, Nat.le_of_ble_eq_true rfl⟩
                  · exact absurd hr8 hD
                · refine .s (.aload a0_197 rfl rfl) <| .s (.aload a0_199 rfl rfl) ?_
                  refine .callV (k := 0) (z := (⟨"com/example/chronogate/chronogate/Substream", "add", "(Lcom/example/chronogate/chronogate/Event;)V"⟩ : MethodName)) a0_201 (ok12 hw _ _ _ _) ⟨rfl, by decide⟩ (wd hw 85 rfl) (wd hw 86 rfl) (fun s hZ => notFace_of_selects (args := #[]) (mvT hZ (wd hw 88 rfl))) (wd hw 88 rfl) (wd hw 87 rfl) rfl (argsL := [.ref 3]) (S := []) (cadd0 hw _ _ hS hn ts (-9223372036854775808 : Int64) r8 (0 : Int64) (-9223372036854775808 : Int64) _) rfl rfl rfl rfl rfl rfl (Nat.le_of_ble_eq_true rfl) (Nat.le_of_ble_eq_true rfl) ?_
                  rintro _ _ _ ⟨y9, rfl, rfl, rfl⟩
                  show WGo _ (204, [wJ a, wS, wJ b, wS, wJ ts, wS, wI flags, wR 0, wR 3, wI 1, wI 1, wJ r8, wS, wU, wU], [], [(.inr (cn0, [(fk0, .ref 1), (fk1, (.long y9)), (fk2, (.long r8)), (fk3, .long (-9223372036854775808)), (fk4, (.long ((0 : Int64) + (1 : Int64))))])), (.inr (cn1, [(fk5, .ref 2), (fk6, .int 1)])), (.inl ((.object "com/example/chronogate/chronogate/Event"), [.ref 3, .null, .null, .null, .null, .null, .null, .null])), (.inr (cn2, [(fk7, (.long ts)), (fk8, .ref 4), (fk9, .null), (fk10, .long 0)])), (.inr (cn3, [(fk11, .int 0), (fk12, .ref 1000)]))], 22) _
                  refine .s (.aload a0_204 rfl rfl) <| .s (.lload a0_206 rfl) ?_
                  refine .callV (k := 0) (z := (⟨"com/example/chronogate/chronogate/Substream", "punctuate", "(J)V"⟩ : MethodName)) a0_208 (ok10 hw _ _ _ _) ⟨rfl, by decide⟩ (wd hw 76 rfl) (wd hw 77 rfl) (fun s hZ => notFace_of_selects (args := #[]) (mvT hZ (wd hw 79 rfl))) (wd hw 79 rfl) (wd hw 78 rfl) rfl (argsL := [(.long ts)]) (S := []) (cpun1 hw _ _ ts ts y9 r8 ((0 : Int64) + (1 : Int64)) (-9223372036854775808 : Int64) _) rfl rfl rfl rfl rfl rfl (Nat.le_of_ble_eq_true rfl) (Nat.le_of_ble_eq_true rfl) ?_
                  rintro _ _ _ ⟨y10, rfl, rfl, rfl⟩
                  show WGo _ (211, [wJ a, wS, wJ b, wS, wJ ts, wS, wI flags, wR 0, wR 3, wI 1, wI 1, wJ r8, wS, wU, wU], [], [(.inr (cn0, [(fk0, .ref 1), (fk1, (.long y9)), (fk2, (.long r8)), (fk3, (.long y10)), (fk4, (.long ((0 : Int64) + (1 : Int64))))])), (.inr (cn1, [(fk5, .ref 2), (fk6, .int 1)])), (.inl ((.object "com/example/chronogate/chronogate/Event"), [.ref 3, .null, .null, .null, .null, .null, .null, .null])), (.inr (cn2, [(fk7, (.long ts)), (fk8, .ref 4), (fk9, .null), (fk10, .long 0)])), (.inr (cn3, [(fk11, .int 0), (fk12, .ref 1000)]))], 22) _
                  refine .s (.iload a0_211 rfl) <| .s (.ifF a0_213 (by decide)) <| .s (.aload a0_216 rfl rfl) ?_
                  refine .callV (k := 0) (z := (⟨"com/example/chronogate/chronogate/Substream", "delivered", "()Z"⟩ : MethodName)) a0_218 (ok9 hw _ _ _ _) ⟨rfl, by decide⟩ (wd hw 71 rfl) (wd hw 72 rfl) (fun s hZ => notFace_of_selects (args := #[]) (mvT hZ (wd hw 74 rfl))) (wd hw 74 rfl) (wd hw 73 rfl) rfl (argsL := []) (S := []) (cdel1 hw _ _ ts y9 r8 ((0 : Int64) + (1 : Int64)) y10 _) rfl rfl rfl rfl rfl rfl (Nat.le_of_ble_eq_true rfl) (Nat.le_of_ble_eq_true rfl) ?_
                  rintro _ _ _ ⟨⟨rfl, hD⟩ | ⟨rfl, hD⟩, rfl, rfl⟩
                  · clear hD
                    show WGo _ (221, [wJ a, wS, wJ b, wS, wJ ts, wS, wI flags, wR 0, wR 3, wI 1, wI 1, wJ r8, wS, wU, wU], [.int 1], [(.inr (cn0, [(fk0, .ref 1), (fk1, (.long y9)), (fk2, (.long r8)), (fk3, (.long y10)), (fk4, (.long ((0 : Int64) + (1 : Int64))))])), (.inr (cn1, [(fk5, .ref 2), (fk6, .int 1)])), (.inl ((.object "com/example/chronogate/chronogate/Event"), [.ref 3, .null, .null, .null, .null, .null, .null, .null])), (.inr (cn2, [(fk7, (.long ts)), (fk8, .ref 4), (fk9, .null), (fk10, .long 0)])), (.inr (cn3, [(fk11, .int 0), (fk12, .ref 1000)]))], 22) _
                    refine .s (.iload a0_221 rfl) <| .s (.icmpF a0_223 (by decide)) <| .s (.iconst (1 : Int32) a0_226 rfl) <| .s (.goto a0_227) <| .s (.istore (L' := [wJ a, wS, wJ b, wS, wJ ts, wS, wI flags, wR 0, wR 3, wI 1, wI 1, wJ r8, wS, wU, wU]) a0_231 rfl) <| .s (.iload a0_233 rfl) ?_
                    refine .ireturn .boolean a0_235 rfl (by simp) ?_
                    exact ⟨rfl, Nat.le_of_ble_eq_true rfl, Nat.le_of_ble_eq_true rfl⟩
                  · exact absurd hr8 hD
              · refine .s (.lload a0_151 rfl) <| .s (.lloadN a0_153 rfl) ?_
                refine .callS a0_154 (ok15 hw _ _ _ _) (wd hw 105 rfl) (wd hw 106 rfl) (argsL := [(.long b)]) (S := [(.long r8)]) (crng hw _ _ b _ _) rfl rfl rfl rfl rfl rfl (Nat.le_of_ble_eq_true rfl) (Nat.le_of_ble_eq_true rfl) ?_
                rintro _ _ _ ⟨⟨r11, rfl, hr11⟩, rfl, rfl⟩
                show WGo _ (157, [wJ a, wS, wJ b, wS, wJ ts, wS, wI flags, wR 0, wR 3, wI 1, wI 1, wJ r8, wS, wU, wU], [(.long r11), (.long r8)], [(.inr (cn0, [(fk0, .ref 1), (fk1, .long (-9223372036854775808)), (fk2, (.long r8)), (fk3, .long (-9223372036854775808)), (fk4, .long 0)])), (.inr (cn1, [(fk5, .ref 2), (fk6, .int 0)])), (.inl ((.object "com/example/chronogate/chronogate/Event"), [.null, .null, .null, .null, .null, .null, .null, .null])), (.inr (cn2, [(fk7, (.long ts)), (fk8, .ref 4), (fk9, .null), (fk10, .long 0)])), (.inr (cn3, [(fk11, .int 0), (fk12, .ref 1000)]))], 22) _
                refine .callS a0_157 (ok11 hw _ _ _ _) (wd hw 117 rfl) (wd hw 82 rfl) (argsL := [(.long r8), (.long r11)]) (S := []) (cmax hw _ _ r8 r11 _ _) rfl rfl rfl rfl rfl rfl (Nat.le_of_ble_eq_true rfl) (Nat.le_of_ble_eq_true rfl) ?_
                rintro _ _ _ ⟨⟨z12, rfl, hz12⟩, rfl, rfl⟩; have hm12 : ¬ z12 = (-9223372036854775808 : Int64) := by rcases hz12 with rfl | rfl <;> assumption
                show WGo _ (160, [wJ a, wS, wJ b, wS, wJ ts, wS, wI flags, wR 0, wR 3, wI 1, wI 1, wJ r8, wS, wU, wU], [(.long z12)], [(.inr (cn0, [(fk0, .ref 1), (fk1, .long (-9223372036854775808)), (fk2, (.long r8)), (fk3, .long (-9223372036854775808)), (fk4, .long 0)])), (.inr (cn1, [(fk5, .ref 2), (fk6, .int 0)])), (.inl ((.object "com/example/chronogate/chronogate/Event"), [.null, .null, .null, .null, .null, .null, .null, .null])), (.inr (cn2, [(fk7, (.long ts)), (fk8, .ref 4), (fk9, .null), (fk10, .long 0)])), (.inr (cn3, [(fk11, .int 0), (fk12, .ref 1000)]))], 22) _
                refine .s (.lstore (L' := [wJ a, wS, wJ b, wS, wJ ts, wS, wI flags, wR 0, wR 3, wI 1, wI 1, wJ r8, wS, wJ z12, wS]) a0_160 rfl) <| .s (.aload a0_162 rfl rfl) <| .s (.lload a0_164 rfl) ?_
                refine .callV (k := 0) (z := (⟨"com/example/chronogate/chronogate/Substream", "arrive", "(J)V"⟩ : MethodName)) a0_166 (ok16 hw _ _ _ _) ⟨rfl, by decide⟩ (wd hw 112 rfl) (wd hw 113 rfl) (fun s hZ => notFace_of_selects (args := #[]) (mvT hZ (wd hw 115 rfl))) (wd hw 115 rfl) (wd hw 114 rfl) rfl (argsL := [(.long z12)]) (S := []) (carr0 hw _ _ z12 ts (-9223372036854775808 : Int64) r8 (0 : Int64) (-9223372036854775808 : Int64) _) rfl rfl rfl rfl rfl rfl (Nat.le_of_ble_eq_true rfl) (Nat.le_of_ble_eq_true rfl) ?_
                rintro _ _ _ ⟨rfl, rfl, rfl⟩
                show WGo _ (169, [wJ a, wS, wJ b, wS, wJ ts, wS, wI flags, wR 0, wR 3, wI 1, wI 1, wJ r8, wS, wJ z12, wS], [], [(.inr (cn0, [(fk0, .ref 1), (fk1, .long (-9223372036854775808)), (fk2, (.long z12)), (fk3, .long (-9223372036854775808)), (fk4, .long 0)])), (.inr (cn1, [(fk5, .ref 2), (fk6, .int 0)])), (.inl ((.object "com/example/chronogate/chronogate/Event"), [.null, .null, .null, .null, .null, .null, .null, .null])), (.inr (cn2, [(fk7, (.long ts)), (fk8, .ref 4), (fk9, .null), (fk10, .long 0)])), (.inr (cn3, [(fk11, .int 0), (fk12, .ref 1000)]))], 22) _
                refine .s (.iload a0_169 rfl) <| .s (.ifF a0_171 (by decide)) <| .s (.aload a0_174 rfl rfl) ?_
                refine .callV (k := 0) (z := (⟨"com/example/chronogate/chronogate/Substream", "delivered", "()Z"⟩ : MethodName)) a0_176 (ok9 hw _ _ _ _) ⟨rfl, by decide⟩ (wd hw 71 rfl) (wd hw 72 rfl) (fun s hZ => notFace_of_selects (args := #[]) (mvT hZ (wd hw 74 rfl))) (wd hw 74 rfl) (wd hw 73 rfl) rfl (argsL := []) (S := []) (cdel0 hw _ _ ts (-9223372036854775808 : Int64) z12 (0 : Int64) (-9223372036854775808 : Int64) _) rfl rfl rfl rfl rfl rfl (Nat.le_of_ble_eq_true rfl) (Nat.le_of_ble_eq_true rfl) ?_
                rintro _ _ _ ⟨⟨rfl, hD⟩ | ⟨rfl, hD⟩, rfl, rfl⟩
                · clear hD
                  show WGo _ (179, [wJ a, wS, wJ b, wS, wJ ts, wS, wI flags, wR 0, wR 3, wI 1, wI 1, wJ r8, wS, wJ z12, wS], [.int 1], [(.inr (cn0, [(fk0, .ref 1), (fk1, .long (-9223372036854775808)), (fk2, (.long z12)), (fk3, .long (-9223372036854775808)), (fk4, .long 0)])), (.inr (cn1, [(fk5, .ref 2), (fk6, .int 0)])), (.inl ((.object "com/example/chronogate/chronogate/Event"), [.null, .null, .null, .null, .null, .null, .null, .null])), (.inr (cn2, [(fk7, (.long ts)), (fk8, .ref 4), (fk9, .null), (fk10, .long 0)])), (.inr (cn3, [(fk11, .int 0), (fk12, .ref 1000)]))], 22) _
                  refine .s (.ifF a0_179 (by decide)) <| .s (.iconst (1 : Int32) a0_182 rfl) <| .s (.goto a0_183) <| .s (.istore (L' := [wJ a, wS, wJ b, wS, wJ ts, wS, wI flags, wR 0, wR 3, wI 1, wI 1, wJ r8, wS, wJ z12, wS]) a0_187 rfl) <| .s (.iload a0_189 rfl) <| .s (.bipush (8 : Int32) a0_191 rfl) <| .s (.iand a0_193) ?_
                  refine .eq0 a0_194 (fun h194 => ?_) (fun h194 => ?_)
                  · refine .s (.iload a0_211 rfl) <| .s (.ifF a0_213 (by decide)) <| .s (.aload a0_216 rfl rfl) ?_
                    refine .callV (k := 0) (z := (⟨"com/example/chronogate/chronogate/Substream", "delivered", "()Z"⟩ : MethodName)) a0_218 (ok9 hw _ _ _ _) ⟨rfl, by decide⟩ (wd hw 71 rfl) (wd hw 72 rfl) (fun s hZ => notFace_of_selects (args := #[]) (mvT hZ (wd hw 74 rfl))) (wd hw 74 rfl) (wd hw 73 rfl) rfl (argsL := []) (S := []) (cdel0 hw _ _ ts (-9223372036854775808 : Int64) z12 (0 : Int64) (-9223372036854775808 : Int64) _) rfl rfl rfl rfl rfl rfl (Nat.le_of_ble_eq_true rfl) (Nat.le_of_ble_eq_true rfl) ?_
                    rintro _ _ _ ⟨⟨rfl, hD⟩ | ⟨rfl, hD⟩, rfl, rfl⟩
                    · clear hD
                      show WGo _ (221, [wJ a, wS, wJ b, wS, wJ ts, wS, wI flags, wR 0, wR 3, wI 1, wI 1, wJ r8, wS, wJ z12, wS], [.int 1], [(.inr (cn0, [(fk0, .ref 1), (fk1, .long (-9223372036854775808)), (fk2, (.long z12)), (fk3, .long (-9223372036854775808)), (fk4, .long 0)])), (.inr (cn1, [(fk5, .ref 2), (fk6, .int 0)])), (.inl ((.object "com/example/chronogate/chronogate/Event"), [.null, .null, .null, .null, .null, .null, .null, .null])), (.inr (cn2, [(fk7, (.long ts)), (fk8, .ref 4), (fk9, .null), (fk10, .long 0)])), (.inr (cn3, [(fk11, .int 0), (fk12, .ref 1000)]))], 22) _
                      refine .s (.iload a0_221 rfl) <| .s (.icmpF a0_223 (by decide)) <| .s (.iconst (1 : Int32) a0_226 rfl) <| .s (.goto a0_227) <| .s (.istore (L' := [wJ a, wS, wJ b, wS, wJ ts, wS, wI flags, wR 0, wR 3, wI 1, wI 1, wJ r8, wS, wJ z12, wS]) a0_231 rfl) <| .s (.iload a0_233 rfl) ?_
                      refine .ireturn .boolean a0_235 rfl (by simp) ?_
                      exact ⟨rfl, Nat.le_of_ble_eq_true rfl, Nat.le_of_ble_eq_true rfl⟩
                    · exact absurd hm12 hD
                  · refine .s (.aload a0_197 rfl rfl) <| .s (.aload a0_199 rfl rfl) ?_
                    refine .callV (k := 0) (z := (⟨"com/example/chronogate/chronogate/Substream", "add", "(Lcom/example/chronogate/chronogate/Event;)V"⟩ : MethodName)) a0_201 (ok12 hw _ _ _ _) ⟨rfl, by decide⟩ (wd hw 85 rfl) (wd hw 86 rfl) (fun s hZ => notFace_of_selects (args := #[]) (mvT hZ (wd hw 88 rfl))) (wd hw 88 rfl) (wd hw 87 rfl) rfl (argsL := [.ref 3]) (S := []) (cadd0 hw _ _ hS hn ts (-9223372036854775808 : Int64) z12 (0 : Int64) (-9223372036854775808 : Int64) _) rfl rfl rfl rfl rfl rfl (Nat.le_of_ble_eq_true rfl) (Nat.le_of_ble_eq_true rfl) ?_
                    rintro _ _ _ ⟨y13, rfl, rfl, rfl⟩
                    show WGo _ (204, [wJ a, wS, wJ b, wS, wJ ts, wS, wI flags, wR 0, wR 3, wI 1, wI 1, wJ r8, wS, wJ z12, wS], [], [(.inr (cn0, [(fk0, .ref 1), (fk1, (.long y13)), (fk2, (.long z12)), (fk3, .long (-9223372036854775808)), (fk4, (.long ((0 : Int64) + (1 : Int64))))])), (.inr (cn1, [(fk5, .ref 2), (fk6, .int 1)])), (.inl ((.object "com/example/chronogate/chronogate/Event"), [.ref 3, .null, .null, .null, .null, .null, .null, .null])), (.inr (cn2, [(fk7, (.long ts)), (fk8, .ref 4), (fk9, .null), (fk10, .long 0)])), (.inr (cn3, [(fk11, .int 0), (fk12, .ref 1000)]))], 22) _
                    refine .s (.aload a0_204 rfl rfl) <| .s (.lload a0_206 rfl) ?_
                    refine .callV (k := 0) (z := (⟨"com/example/chronogate/chronogate/Substream", "punctuate", "(J)V"⟩ : MethodName)) a0_208 (ok10 hw _ _ _ _) ⟨rfl, by decide⟩ (wd hw 76 rfl) (wd hw 77 rfl) (fun s hZ => notFace_of_selects (args := #[]) (mvT hZ (wd hw 79 rfl))) (wd hw 79 rfl) (wd hw 78 rfl) rfl (argsL := [(.long ts)]) (S := []) (cpun1 hw _ _ ts ts y13 z12 ((0 : Int64) + (1 : Int64)) (-9223372036854775808 : Int64) _) rfl rfl rfl rfl rfl rfl (Nat.le_of_ble_eq_true rfl) (Nat.le_of_ble_eq_true rfl) ?_
                    rintro _ _ _ ⟨y14, rfl, rfl, rfl⟩
                    show WGo _ (211, [wJ a, wS, wJ b, wS, wJ ts, wS, wI flags, wR 0, wR 3, wI 1, wI 1, wJ r8, wS, wJ z12, wS], [], [(.inr (cn0, [(fk0, .ref 1), (fk1, (.long y13)), (fk2, (.long z12)), (fk3, (.long y14)), (fk4, (.long ((0 : Int64) + (1 : Int64))))])), (.inr (cn1, [(fk5, .ref 2), (fk6, .int 1)])), (.inl ((.object "com/example/chronogate/chronogate/Event"), [.ref 3, .null, .null, .null, .null, .null, .null, .null])), (.inr (cn2, [(fk7, (.long ts)), (fk8, .ref 4), (fk9, .null), (fk10, .long 0)])), (.inr (cn3, [(fk11, .int 0), (fk12, .ref 1000)]))], 22) _
                    refine .s (.iload a0_211 rfl) <| .s (.ifF a0_213 (by decide)) <| .s (.aload a0_216 rfl rfl) ?_
                    refine .callV (k := 0) (z := (⟨"com/example/chronogate/chronogate/Substream", "delivered", "()Z"⟩ : MethodName)) a0_218 (ok9 hw _ _ _ _) ⟨rfl, by decide⟩ (wd hw 71 rfl) (wd hw 72 rfl) (fun s hZ => notFace_of_selects (args := #[]) (mvT hZ (wd hw 74 rfl))) (wd hw 74 rfl) (wd hw 73 rfl) rfl (argsL := []) (S := []) (cdel1 hw _ _ ts y13 z12 ((0 : Int64) + (1 : Int64)) y14 _) rfl rfl rfl rfl rfl rfl (Nat.le_of_ble_eq_true rfl) (Nat.le_of_ble_eq_true rfl) ?_
                    rintro _ _ _ ⟨⟨rfl, hD⟩ | ⟨rfl, hD⟩, rfl, rfl⟩
                    · clear hD
                      show WGo _ (221, [wJ a, wS, wJ b, wS, wJ ts, wS, wI flags, wR 0, wR 3, wI 1, wI 1, wJ r8, wS, wJ z12, wS], [.int 1], [(.inr (cn0, [(fk0, .ref 1), (fk1, (.long y13)), (fk2, (.long z12)), (fk3, (.long y14)), (fk4, (.long ((0 : Int64) + (1 : Int64))))])), (.inr (cn1, [(fk5, .ref 2), (fk6, .int 1)])), (.inl ((.object "com/example/chronogate/chronogate/Event"), [.ref 3, .null, .null, .null, .null, .null, .null, .null])), (.inr (cn2, [(fk7, (.long ts)), (fk8, .ref 4), (fk9, .null), (fk10, .long 0)])), (.inr (cn3, [(fk11, .int 0), (fk12, .ref 1000)]))], 22) _
                      refine .s (.iload a0_221 rfl) <| .s (.icmpF a0_223 (by decide)) <| .s (.iconst (1 : Int32) a0_226 rfl) <| .s (.goto a0_227) <| .s (.istore (L' := [wJ a, wS, wJ b, wS, wJ ts, wS, wI flags, wR 0, wR 3, wI 1, wI 1, wJ r8, wS, wJ z12, wS]) a0_231 rfl) <| .s (.iload a0_233 rfl) ?_
                      refine .ireturn .boolean a0_235 rfl (by simp) ?_
                      exact ⟨rfl, Nat.le_of_ble_eq_true rfl, Nat.le_of_ble_eq_true rfl⟩
                    · exact absurd hm12 hD
                · exact absurd hm12 hD
            · exact absurd hr8 hD
      · refine .s (.aload a0_65 rfl rfl) <| .s (.lloadN a0_67 rfl) ?_
        refine .callV (k := 0) (z := (⟨"com/example/chronogate/chronogate/Substream", "punctuate", "(J)V"⟩ : MethodName)) a0_68 (ok10 hw _ _ _ _) ⟨rfl, by decide⟩ (wd hw 76 rfl) (wd hw 77 rfl) (fun s hZ => notFace_of_selects (args := #[]) (mvT hZ (wd hw 79 rfl))) (wd hw 79 rfl) (wd hw 78 rfl) rfl (argsL := [(.long b)]) (S := []) (cpun0 hw _ _ b ts (-9223372036854775808 : Int64) (-9223372036854775808 : Int64) (0 : Int64) (-9223372036854775808 : Int64) _) rfl rfl rfl rfl rfl rfl (Nat.le_of_ble_eq_true rfl) (Nat.le_of_ble_eq_true rfl) ?_
        rintro _ _ _ ⟨y15, rfl, rfl, rfl⟩
        show WGo _ (71, [wJ a, wS, wJ b, wS, wJ ts, wS, wI flags, wR 0, wR 3, wI 1, wU, wU, wU, wU, wU], [], [(.inr (cn0, [(fk0, .ref 1), (fk1, .long (-9223372036854775808)), (fk2, .long (-9223372036854775808)), (fk3, (.long y15)), (fk4, .long 0)])), (.inr (cn1, [(fk5, .ref 2), (fk6, .int 0)])), (.inl ((.object "com/example/chronogate/chronogate/Event"), [.null, .null, .null, .null, .null, .null, .null, .null])), (.inr (cn2, [(fk7, (.long ts)), (fk8, .ref 4), (fk9, .null), (fk10, .long 0)])), (.inr (cn3, [(fk11, .int 0), (fk12, .ref 1000)]))], 22) _
        refine .s (.iload a0_71 rfl) <| .s (.ifF a0_73 (by decide)) <| .s (.aload a0_76 rfl rfl) ?_
        refine .callV (k := 0) (z := (⟨"com/example/chronogate/chronogate/Substream", "delivered", "()Z"⟩ : MethodName)) a0_78 (ok9 hw _ _ _ _) ⟨rfl, by decide⟩ (wd hw 71 rfl) (wd hw 72 rfl) (fun s hZ => notFace_of_selects (args := #[]) (mvT hZ (wd hw 74 rfl))) (wd hw 74 rfl) (wd hw 73 rfl) rfl (argsL := []) (S := []) (cdel0 hw _ _ ts (-9223372036854775808 : Int64) (-9223372036854775808 : Int64) (0 : Int64) y15 _) rfl rfl rfl rfl rfl rfl (Nat.le_of_ble_eq_true rfl) (Nat.le_of_ble_eq_true rfl) ?_
        rintro _ _ _ ⟨⟨rfl, hD⟩ | ⟨rfl, hD⟩, rfl, rfl⟩
        · exact absurd rfl hD
        · clear hD
          show WGo _ (81, [wJ a, wS, wJ b, wS, wJ ts, wS, wI flags, wR 0, wR 3, wI 1, wU, wU, wU, wU, wU], [.int 0], [(.inr (cn0, [(fk0, .ref 1), (fk1, .long (-9223372036854775808)), (fk2, .long (-9223372036854775808)), (fk3, (.long y15)), (fk4, .long 0)])), (.inr (cn1, [(fk5, .ref 2), (fk6, .int 0)])), (.inl ((.object "com/example/chronogate/chronogate/Event"), [.null, .null, .null, .null, .null, .null, .null, .null])), (.inr (cn2, [(fk7, (.long ts)), (fk8, .ref 4), (fk9, .null), (fk10, .long 0)])), (.inr (cn3, [(fk11, .int 0), (fk12, .ref 1000)]))], 22) _
          refine .s (.ifF a0_81 (by decide)) <| .s (.iconst (1 : Int32) a0_84 rfl) <| .s (.goto a0_85) <| .s (.istore (L' := [wJ a, wS, wJ b, wS, wJ ts, wS, wI flags, wR 0, wR 3, wI 1, wU, wU, wU, wU, wU]) a0_89 rfl) <| .s (.iload a0_91 rfl) <| .s (.iconst (4 : Int32) a0_93 rfl) <| .s (.iand a0_94) ?_
          refine .eq0 a0_95 (fun h95 => ?_) (fun h95 => ?_)
          · refine .s (.iconst (0 : Int32) a0_102 rfl) <| .s (.istore (L' := [wJ a, wS, wJ b, wS, wJ ts, wS, wI flags, wR 0, wR 3, wI 1, wI 0, wU, wU, wU, wU]) a0_103 rfl) <| .s (.iload a0_105 rfl) <| .s (.ifT a0_107 (by decide)) <| .s (.iload a0_189 rfl) <| .s (.bipush (8 : Int32) a0_191 rfl) <| .s (.iand a0_193) ?_
            refine .eq0 a0_194 (fun h194 => ?_) (fun h194 => ?_)
            · refine .s (.iload a0_211 rfl) <| .s (.ifF a0_213 (by decide)) <| .s (.aload a0_216 rfl rfl) ?_
              refine .callV (k := 0) (z := (⟨"com/example/chronogate/chronogate/Substream", "delivered", "()Z"⟩ : MethodName)) a0_218 (ok9 hw _ _ _ _) ⟨rfl, by decide⟩ (wd hw 71 rfl) (wd hw 72 rfl) (fun s hZ => notFace_of_selects (args := #[]) (mvT hZ (wd hw 74 rfl))) (wd hw 74 rfl) (wd hw 73 rfl) rfl (argsL := []) (S := []) (cdel0 hw _ _ ts (-9223372036854775808 : Int64) (-9223372036854775808 : Int64) (0 : Int64) y15 _) rfl rfl rfl rfl rfl rfl (Nat.le_of_ble_eq_true rfl) (Nat.le_of_ble_eq_true rfl) ?_
              rintro _ _ _ ⟨⟨rfl, hD⟩ | ⟨rfl, hD⟩, rfl, rfl⟩
              · exact absurd rfl hD
              · clear hD
                show WGo _ (221, [wJ a, wS, wJ b, wS, wJ ts, wS, wI flags, wR 0, wR 3, wI 1, wI 0, wU, wU, wU, wU], [.int 0], [(.inr (cn0, [(fk0, .ref 1), (fk1, .long (-9223372036854775808)), (fk2, .long (-9223372036854775808)), (fk3, (.long y15)), (fk4, .long 0)])), (.inr (cn1, [(fk5, .ref 2), (fk6, .int 0)])), (.inl ((.object "com/example/chronogate/chronogate/Event"), [.null, .null, .null, .null, .null, .null, .null, .null])), (.inr (cn2, [(fk7, (.long ts)), (fk8, .ref 4), (fk9, .null), (fk10, .long 0)])), (.inr (cn3, [(fk11, .int 0), (fk12, .ref 1000)]))], 22) _
                refine .s (.iload a0_221 rfl) <| .s (.icmpF a0_223 (by decide)) <| .s (.iconst (1 : Int32) a0_226 rfl) <| .s (.goto a0_227) <| .s (.istore (L' := [wJ a, wS, wJ b, wS, wJ ts, wS, wI flags, wR 0, wR 3, wI 1, wI 0, wU, wU, wU, wU]) a0_231 rfl) <| .s (.iload a0_233 rfl) ?_
                refine .ireturn .boolean a0_235 rfl (by simp) ?_
                exact ⟨rfl, Nat.le_of_ble_eq_true rfl, Nat.le_of_ble_eq_true rfl⟩
            · refine .s (.aload a0_197 rfl rfl) <| .s (.aload a0_199 rfl rfl) ?_
              refine .callV (k := 0) (z := (⟨"com/example/chronogate/chronogate/Substream", "add", "(Lcom/example/chronogate/chronogate/Event;)V"⟩ : MethodName)) a0_201 (ok12 hw _ _ _ _) ⟨rfl, by decide⟩ (wd hw 85 rfl) (wd hw 86 rfl) (fun s hZ => notFace_of_selects (args := #[]) (mvT hZ (wd hw 88 rfl))) (wd hw 88 rfl) (wd hw 87 rfl) rfl (argsL := [.ref 3]) (S := []) (cadd0 hw _ _ hS hn ts (-9223372036854775808 : Int64) (-9223372036854775808 : Int64) (0 : Int64) y15 _) rfl rfl rfl rfl rfl rfl (Nat.le_of_ble_eq_true rfl) (Nat.le_of_ble_eq_true rfl) ?_
              rintro _ _ _ ⟨y16, rfl, rfl, rfl⟩
              show WGo _ (204, [wJ a, wS, wJ b, wS, wJ ts, wS, wI flags, wR 0, wR 3, wI 1, wI 0, wU, wU, wU, wU], [], [(.inr (cn0, [(fk0, .ref 1), (fk1, (.long y16)), (fk2, .long (-9223372036854775808)), (fk3, (.long y15)), (fk4, (.long ((0 : Int64) + (1 : Int64))))])), (.inr (cn1, [(fk5, .ref 2), (fk6, .int 1)])), (.inl ((.object "com/example/chronogate/chronogate/Event"), [.ref 3, .null, .null, .null, .null, .null, .null, .null])), (.inr (cn2, [(fk7, (.long ts)), (fk8, .ref 4), (fk9, .null), (fk10, .long 0)])), (.inr (cn3, [(fk11, .int 0), (fk12, .ref 1000)]))], 22) _
              refine .s (.aload a0_204 rfl rfl) <| .s (.lload a0_206 rfl) ?_
              refine .callV (k := 0) (z := (⟨"com/example/chronogate/chronogate/Substream", "punctuate", "(J)V"⟩ : MethodName)) a0_208 (ok10 hw _ _ _ _) ⟨rfl, by decide⟩ (wd hw 76 rfl) (wd hw 77 rfl) (fun s hZ => notFace_of_selects (args := #[]) (mvT hZ (wd hw 79 rfl))) (wd hw 79 rfl) (wd hw 78 rfl) rfl (argsL := [(.long ts)]) (S := []) (cpun1 hw _ _ ts ts y16 (-9223372036854775808 : Int64) ((0 : Int64) + (1 : Int64)) y15 _) rfl rfl rfl rfl rfl rfl (Nat.le_of_ble_eq_true rfl) (Nat.le_of_ble_eq_true rfl) ?_
              rintro _ _ _ ⟨y17, rfl, rfl, rfl⟩
              show WGo _ (211, [wJ a, wS, wJ b, wS, wJ ts, wS, wI flags, wR 0, wR 3, wI 1, wI 0, wU, wU, wU, wU], [], [(.inr (cn0, [(fk0, .ref 1), (fk1, (.long y16)), (fk2, .long (-9223372036854775808)), (fk3, (.long y17)), (fk4, (.long ((0 : Int64) + (1 : Int64))))])), (.inr (cn1, [(fk5, .ref 2), (fk6, .int 1)])), (.inl ((.object "com/example/chronogate/chronogate/Event"), [.ref 3, .null, .null, .null, .null, .null, .null, .null])), (.inr (cn2, [(fk7, (.long ts)), (fk8, .ref 4), (fk9, .null), (fk10, .long 0)])), (.inr (cn3, [(fk11, .int 0), (fk12, .ref 1000)]))], 22) _
              refine .s (.iload a0_211 rfl) <| .s (.ifF a0_213 (by decide)) <| .s (.aload a0_216 rfl rfl) ?_
              refine .callV (k := 0) (z := (⟨"com/example/chronogate/chronogate/Substream", "delivered", "()Z"⟩ : MethodName)) a0_218 (ok9 hw _ _ _ _) ⟨rfl, by decide⟩ (wd hw 71 rfl) (wd hw 72 rfl) (fun s hZ => notFace_of_selects (args := #[]) (mvT hZ (wd hw 74 rfl))) (wd hw 74 rfl) (wd hw 73 rfl) rfl (argsL := []) (S := []) (cdel1 hw _ _ ts y16 (-9223372036854775808 : Int64) ((0 : Int64) + (1 : Int64)) y17 _) rfl rfl rfl rfl rfl rfl (Nat.le_of_ble_eq_true rfl) (Nat.le_of_ble_eq_true rfl) ?_
              rintro _ _ _ ⟨⟨rfl, hD⟩ | ⟨rfl, hD⟩, rfl, rfl⟩
              · exact absurd rfl hD
              · clear hD
                show WGo _ (221, [wJ a, wS, wJ b, wS, wJ ts, wS, wI flags, wR 0, wR 3, wI 1, wI 0, wU, wU, wU, wU], [.int 0], [(.inr (cn0, [(fk0, .ref 1), (fk1, (.long y16)), (fk2, .long (-9223372036854775808)), (fk3, (.long y17)), (fk4, (.long ((0 : Int64) + (1 : Int64))))])), (.inr (cn1, [(fk5, .ref 2), (fk6, .int 1)])), (.inl ((.object "com/example/chronogate/chronogate/Event"), [.ref 3, .null, .null, .null, .null, .null, .null, .null])), (.inr (cn2, [(fk7, (.long ts)), (fk8, .ref 4), (fk9, .null), (fk10, .long 0)])), (.inr (cn3, [(fk11, .int 0), (fk12, .ref 1000)]))], 22) _
                refine .s (.iload a0_221 rfl) <| .s (.icmpF a0_223 (by decide)) <| .s (.iconst (1 : Int32) a0_226 rfl) <| .s (.goto a0_227) <| .s (.istore (L' := [wJ a, wS, wJ b, wS, wJ ts, wS, wI flags, wR 0, wR 3, wI 1, wI 0, wU, wU, wU, wU]) a0_231 rfl) <| .s (.iload a0_233 rfl) ?_
                refine .ireturn .boolean a0_235 rfl (by simp) ?_
                exact ⟨rfl, Nat.le_of_ble_eq_true rfl, Nat.le_of_ble_eq_true rfl⟩
          · refine .s (.iconst (1 : Int32) a0_98 rfl) <| .s (.goto a0_99) <| .s (.istore (L' := [wJ a, wS, wJ b, wS, wJ ts, wS, wI flags, wR 0, wR 3, wI 1, wI 1, wU, wU, wU, wU]) a0_103 rfl) <| .s (.iload a0_105 rfl) <| .s (.ifF a0_107 (by decide)) <| .s (.lloadN a0_110 rfl) ?_
            refine .callS a0_111 (ok15 hw _ _ _ _) (wd hw 105 rfl) (wd hw 106 rfl) (argsL := [(.long a)]) (S := []) (crng hw _ _ a _ _) rfl rfl rfl rfl rfl rfl (Nat.le_of_ble_eq_true rfl) (Nat.le_of_ble_eq_true rfl) ?_
            rintro _ _ _ ⟨⟨r18, rfl, hr18⟩, rfl, rfl⟩
            show WGo _ (114, [wJ a, wS, wJ b, wS, wJ ts, wS, wI flags, wR 0, wR 3, wI 1, wI 1, wU, wU, wU, wU], [(.long r18)], [(.inr (cn0, [(fk0, .ref 1), (fk1, .long (-9223372036854775808)), (fk2, .long (-9223372036854775808)), (fk3, (.long y15)), (fk4, .long 0)])), (.inr (cn1, [(fk5, .ref 2), (fk6, .int 0)])), (.inl ((.object "com/example/chronogate/chronogate/Event"), [.null, .null, .null, .null, .null, .null, .null, .null])), (.inr (cn2, [(fk7, (.long ts)), (fk8, .ref 4), (fk9, .null), (fk10, .long 0)])), (.inr (cn3, [(fk11, .int 0), (fk12, .ref 1000)]))], 22) _
            refine .s (.lstore (L' := [wJ a, wS, wJ b, wS, wJ ts, wS, wI flags, wR 0, wR 3, wI 1, wI 1, wJ r18, wS, wU, wU]) a0_114 rfl) <| .s (.aload a0_116 rfl rfl) <| .s (.lload a0_118 rfl) ?_
            refine .callV (k := 0) (z := (⟨"com/example/chronogate/chronogate/Substream", "arrive", "(J)V"⟩ : MethodName)) a0_120 (ok16 hw _ _ _ _) ⟨rfl, by decide⟩ (wd hw 112 rfl) (wd hw 113 rfl) (fun s hZ => notFace_of_selects (args := #[]) (mvT hZ (wd hw 115 rfl))) (wd hw 115 rfl) (wd hw 114 rfl) rfl (argsL := [(.long r18)]) (S := []) (carr0 hw _ _ r18 ts (-9223372036854775808 : Int64) (-9223372036854775808 : Int64) (0 : Int64) y15 _) rfl rfl rfl rfl rfl rfl (Nat.le_of_ble_eq_true rfl) (Nat.le_of_ble_eq_true rfl) ?_
            rintro _ _ _ ⟨rfl, rfl, rfl⟩
            show WGo _ (123, [wJ a, wS, wJ b, wS, wJ ts, wS, wI flags, wR 0, wR 3, wI 1, wI 1, wJ r18, wS, wU, wU], [], [(.inr (cn0, [(fk0, .ref 1), (fk1, .long (-9223372036854775808)), (fk2, (.long r18)), (fk3, (.long y15)), (fk4, .long 0)])), (.inr (cn1, [(fk5, .ref 2), (fk6, .int 0)])), (.inl ((.object "com/example/chronogate/chronogate/Event"), [.null, .null, .null, .null, .null, .null, .null, .null])), (.inr (cn2, [(fk7, (.long ts)), (fk8, .ref 4), (fk9, .null), (fk10, .long 0)])), (.inr (cn3, [(fk11, .int 0), (fk12, .ref 1000)]))], 22) _
            refine .s (.iload a0_123 rfl) <| .s (.ifF a0_125 (by decide)) <| .s (.aload a0_128 rfl rfl) ?_
            refine .callV (k := 0) (z := (⟨"com/example/chronogate/chronogate/Substream", "delivered", "()Z"⟩ : MethodName)) a0_130 (ok9 hw _ _ _ _) ⟨rfl, by decide⟩ (wd hw 71 rfl) (wd hw 72 rfl) (fun s hZ => notFace_of_selects (args := #[]) (mvT hZ (wd hw 74 rfl))) (wd hw 74 rfl) (wd hw 73 rfl) rfl (argsL := []) (S := []) (cdel0 hw _ _ ts (-9223372036854775808 : Int64) r18 (0 : Int64) y15 _) rfl rfl rfl rfl rfl rfl (Nat.le_of_ble_eq_true rfl) (Nat.le_of_ble_eq_true rfl) ?_
            rintro _ _ _ ⟨⟨rfl, hD⟩ | ⟨rfl, hD⟩, rfl, rfl⟩
            · clear hD
              show WGo _ (133, [wJ a, wS, wJ b, wS, wJ ts, wS, wI flags, wR 0, wR 3, wI 1, wI 1, wJ r18, wS, wU, wU], [.int 1], [(.inr (cn0, [(fk0, .ref 1), (fk1, .long (-9223372036854775808)), (fk2, (.long r18)), (fk3, (.long y15)), (fk4, .long 0)])), (.inr (cn1, [(fk5, .ref 2), (fk6, .int 0)])), (.inl ((.object "com/example/chronogate/chronogate/Event"), [.null, .null, .null, .null, .null, .null, .null, .null])), (.inr (cn2, [(fk7, (.long ts)), (fk8, .ref 4), (fk9, .null), (fk10, .long 0)])), (.inr (cn3, [(fk11, .int 0), (fk12, .ref 1000)]))], 22) _
              refine .s (.ifF a0_133 (by decide)) <| .s (.iconst (1 : Int32) a0_136 rfl) <| .s (.goto a0_137) <| .s (.istore (L' := [wJ a, wS, wJ b, wS, wJ ts, wS, wI flags, wR 0, wR 3, wI 1, wI 1, wJ r18, wS, wU, wU]) a0_141 rfl) <| .s (.iload a0_143 rfl) <| .s (.bipush (16 : Int32) a0_145 rfl) <| .s (.iand a0_147) ?_
              refine .eq0 a0_148 (fun h148 => ?_) (fun h148 => ?_)
              · refine .s (.iload a0_189 rfl) <| .s (.bipush (8 : Int32) a0_191 rfl) <| .s (.iand a0_193) ?_
                refine .eq0 a0_194 (fun h194 => ?_) (fun h194 => ?_)
                · refine .s (.iload a0_211 rfl) <| .s (.ifF a0_213 (by decide)) <| .s (.aload a0_216 rfl rfl) ?_
                  refine .callV (k := 0) (z := (⟨"com/example/chronogate/chronogate/Substream", "delivered", "()Z"⟩ : MethodName)) a0_218 (ok9 hw _ _ _ _) ⟨rfl, by decide⟩ (wd hw 71 rfl) (wd hw 72 rfl) (fun s hZ => notFace_of_selects (args := #[]) (mvT hZ (wd hw 74 rfl))) (wd hw 74 rfl) (wd hw 73 rfl) rfl (argsL := []) (S := []) (cdel0 hw _ _ ts (-9223372036854775808 : Int64) r18 (0 : Int64) y15 _) rfl rfl rfl rfl rfl rfl (Nat.le_of_ble_eq_true rfl) (Nat.le_of_ble_eq_true rfl) ?_
                  rintro _ _ _ ⟨⟨rfl, hD⟩ | ⟨rfl, hD⟩, rfl, rfl⟩
                  · clear hD
                    show WGo _ (221, [wJ a, wS, wJ b, wS, wJ ts, wS, wI flags, wR 0, wR 3, wI 1, wI 1, wJ r18, wS, wU, wU], [.int 1], [(.inr (cn0, [(fk0, .ref 1), (fk1, .long (-9223372036854775808)), (fk2, (.long r18)), (fk3, (.long y15)), (fk4, .long 0)])), (.inr (cn1, [(fk5, .ref 2), (fk6, .int 0)])), (.inl ((.object "com/example/chronogate/chronogate/Event"), [.null, .null, .null, .null, .null, .null, .null, .null])), (.inr (cn2, [(fk7, (.long ts)), (fk8, .ref 4), (fk9, .null), (fk10, .long 0)])), (.inr (cn3, [(fk11, .int 0), (fk12, .ref 1000)]))], 22) _
                    refine .s (.iload a0_221 rfl) <| .s (.icmpF a0_223 (by decide)) <| .s (.iconst (1 : Int32) a0_226 rfl) <| .s (.goto a0_227) <| .s (.istore (L' := [wJ a, wS, wJ b, wS, wJ ts, wS, wI flags, wR 0, wR 3, wI 1, wI 1, wJ r18, wS, wU, wU]) a0_231 rfl) <| .s (.iload a0_233 rfl) ?_
                    refine .ireturn .boolean a0_235 rfl (by simp) ?_
                    exact ⟨rfl, Nat.le_of_ble_eq_true rfl, Nat.le_of_ble_eq_true rfl⟩
                  · exact absurd hr18 hD
                · refine .s (.aload a0_197 rfl rfl) <| .s (.aload a0_199 rfl rfl) ?_
                  refine .callV (k := 0) (z := (⟨"com/example/chronogate/chronogate/Substream", "add", "(Lcom/example/chronogate/chronogate/Event;)V"⟩ : MethodName)) a0_201 (ok12 hw _ _ _ _) ⟨rfl, by decide⟩ (wd hw 85 rfl) (wd hw 86 rfl) (fun s hZ => notFace_of_selects (args := #[]) (mvT hZ (wd hw 88 rfl))) (wd hw 88 rfl) (wd hw 87 rfl) rfl (argsL := [.ref 3]) (S := []) (cadd0 hw _ _ hS hn ts (-9223372036854775808 : Int64) r18 (0 : Int64) y15 _) rfl rfl rfl rfl rfl rfl (Nat.le_of_ble_eq_true rfl) (Nat.le_of_ble_eq_true rfl) ?_
                  rintro _ _ _ ⟨y19, rfl, rfl, rfl⟩
                  show WGo _ (204, [wJ a, wS, wJ b, wS, wJ ts, wS, wI flags, wR 0, wR 3, wI 1, wI 1, wJ r18, wS, wU, wU], [], [(.inr (cn0, [(fk0, .ref 1), (fk1, (.long y19)), (fk2, (.long r18)), (fk3, (.long y15)), (fk4, (.long ((0 : Int64) + (1 : Int64))))])), (.inr (cn1, [(fk5, .ref 2), (fk6, .int 1)])), (.inl ((.object "com/example/chronogate/chronogate/Event"), [.ref 3, .null, .null, .null, .null, .null, .null, .null])), (.inr (cn2, [(fk7, (.long ts)), (fk8, .ref 4), (fk9, .null), (fk10, .long 0)])), (.inr (cn3, [(fk11, .int 0), (fk12, .ref 1000)]))], 22) _
                  refine .s (.aload a0_204 rfl rfl) <| .s (.lload a0_206 rfl) ?_
                  refine .callV (k := 0) (z := (⟨"com/example/chronogate/chronogate/Substream", "punctuate", "(J)V"⟩ : MethodName)) a0_208 (ok10 hw _ _ _ _) ⟨rfl, by decide⟩ (wd hw 76 rfl) (wd hw 77 rfl) (fun s hZ => notFace_of_selects (args := #[]) (mvT hZ (wd hw 79 rfl))) (wd hw 79 rfl) (wd hw 78 rfl) rfl (argsL := [(.long ts)]) (S := []) (cpun1 hw _ _ ts ts y19 r18 ((0 : Int64) + (1 : Int64)) y15 _) rfl rfl rfl rfl rfl rfl (Nat.le_of_ble_eq_true rfl) (Nat.le_of_ble_eq_true rfl) ?_
                  rintro _ _ _ ⟨y20, rfl, rfl, rfl⟩
                  show WGo _ (211, [wJ a, wS, wJ b, wS, wJ ts, wS, wI flags, wR 0, wR 3, wI 1, wI 1, wJ r18, wS, wU, wU], [], [(.inr (cn0, [(fk0, .ref 1), (fk1, (.long y19)), (fk2, (.long r18)), (fk3, (.long y20)), (fk4, (.long ((0 : Int64) + (1 : Int64))))])), (.inr (cn1, [(fk5, .ref 2), (fk6, .int 1)])), (.inl ((.object "com/example/chronogate/chronogate/Event"), [.ref 3, .null, .null, .null, .null, .null, .null, .null])), (.inr (cn2, [(fk7, (.long ts)), (fk8, .ref 4), (fk9, .null), (fk10, .long 0)])), (.inr (cn3, [(fk11, .int 0), (fk12, .ref 1000)]))], 22) _
                  refine .s (.iload a0_211 rfl) <| .s (.ifF a0_213 (by decide)) <| .s (.aload a0_216 rfl rfl) ?_
                  refine .callV (k := 0) (z := (⟨"com/example/chronogate/chronogate/Substream", "delivered", "()Z"⟩ : MethodName)) a0_218 (ok9 hw _ _ _ _) ⟨rfl, by decide⟩ (wd hw 71 rfl) (wd hw 72 rfl) (fun s hZ => notFace_of_selects (args := #[]) (mvT hZ (wd hw 74 rfl))) (wd hw 74 rfl) (wd hw 73 rfl) rfl (argsL := []) (S := []) (cdel1 hw _ _ ts y19 r18 ((0 : Int64) + (1 : Int64)) y20 _) rfl rfl rfl rfl rfl rfl (Nat.le_of_ble_eq_true rfl) (Nat.le_of_ble_eq_true rfl) ?_
                  rintro _ _ _ ⟨⟨rfl, hD⟩ | ⟨rfl, hD⟩, rfl, rfl⟩
                  · clear hD
                    show WGo _ (221, [wJ a, wS, wJ b, wS, wJ ts, wS, wI flags, wR 0, wR 3, wI 1, wI 1, wJ r18, wS, wU, wU], [.int 1], [(.inr (cn0, [(fk0, .ref 1), (fk1, (.long y19)), (fk2, (.long r18)), (fk3, (.long y20)), (fk4, (.long ((0 : Int64) + (1 : Int64))))])), (.inr (cn1, [(fk5, .ref 2), (fk6, .int 1)])), (.inl ((.object "com/example/chronogate/chronogate/Event"), [.ref 3, .null, .null, .null, .null, .null, .null, .null])), (.inr (cn2, [(fk7, (.long ts)), (fk8, .ref 4), (fk9, .null), (fk10, .long 0)])), (.inr (cn3, [(fk11, .int 0), (fk12, .ref 1000)]))], 22) _
                    refine .s (.iload a0_221 rfl) <| .s (.icmpF a0_223 (by decide)) <| .s (.iconst (1 : Int32) a0_226 rfl) <| .s (.goto a0_227) <| .s (.istore (L' := [wJ a, wS, wJ b, wS, wJ ts, wS, wI flags, wR 0, wR 3, wI 1, wI 1, wJ r18, wS, wU, wU]) a0_231 rfl) <| .s (.iload a0_233 rfl) ?_
                    refine .ireturn .boolean a0_235 rfl (by simp) ?_
                    exact ⟨rfl, Nat.le_of_ble_eq_true rfl, Nat.le_of_ble_eq_true rfl⟩
                  · exact absurd hr18 hD
              · refine .s (.lload a0_151 rfl) <| .s (.lloadN a0_153 rfl) ?_
                refine .callS a0_154 (ok15 hw _ _ _ _) (wd hw 105 rfl) (wd hw 106 rfl) (argsL := [(.long b)]) (S := [(.long r18)]) (crng hw _ _ b _ _) rfl rfl rfl rfl rfl rfl (Nat.le_of_ble_eq_true rfl) (Nat.le_of_ble_eq_true rfl) ?_
                rintro _ _ _ ⟨⟨r21, rfl, hr21⟩, rfl, rfl⟩
                show WGo _ (157, [wJ a, wS, wJ b, wS, wJ ts, wS, wI flags, wR 0, wR 3, wI 1, wI 1, wJ r18, wS, wU, wU], [(.long r21), (.long r18)], [(.inr (cn0, [(fk0, .ref 1), (fk1, .long (-9223372036854775808)), (fk2, (.long r18)), (fk3, (.long y15)), (fk4, .long 0)])), (.inr (cn1, [(fk5, .ref 2), (fk6, .int 0)])), (.inl ((.object "com/example/chronogate/chronogate/Event"), [.null, .null, .null, .null, .null, .null, .null, .null])), (.inr (cn2, [(fk7, (.long ts)), (fk8, .ref 4), (fk9, .null), (fk10, .long 0)])), (.inr (cn3, [(fk11, .int 0), (fk12, .ref 1000)]))], 22) _
                refine .callS a0_157 (ok11 hw _ _ _ _) (wd hw 117 rfl) (wd hw 82 rfl) (argsL := [(.long r18), (.long r21)]) (S := []) (cmax hw _ _ r18 r21 _ _) rfl rfl rfl rfl rfl rfl (Nat.le_of_ble_eq_true rfl) (Nat.le_of_ble_eq_true rfl) ?_
                rintro _ _ _ ⟨⟨z22, rfl, hz22⟩, rfl, rfl⟩; have hm22 : ¬ z22 = (-9223372036854775808 : Int64) := by rcases hz22 with rfl | rfl <;> assumption
                show WGo _ (160, [wJ a, wS, wJ b, wS, wJ ts, wS, wI flags, wR 0, wR 3, wI 1, wI 1, wJ r18, wS, wU, wU], [(.long z22)], [(.inr (cn0, [(fk0, .ref 1), (fk1, .long (-9223372036854775808)), (fk2, (.long r18)), (fk3, (.long y15)), (fk4, .long 0)])), (.inr (cn1, [(fk5, .ref 2), (fk6, .int 0)])), (.inl ((.object "com/example/chronogate/chronogate/Event"), [.null, .null, .null, .null, .null, .null, .null, .null])), (.inr (cn2, [(fk7, (.long ts)), (fk8, .ref 4), (fk9, .null), (fk10, .long 0)])), (.inr (cn3, [(fk11, .int 0), (fk12, .ref 1000)]))], 22) _
                refine .s (.lstore (L' := [wJ a, wS, wJ b, wS, wJ ts, wS, wI flags, wR 0, wR 3, wI 1, wI 1, wJ r18, wS, wJ z22, wS]) a0_160 rfl) <| .s (.aload a0_162 rfl rfl) <| .s (.lload a0_164 rfl) ?_
                refine .callV (k := 0) (z := (⟨"com/example/chronogate/chronogate/Substream", "arrive", "(J)V"⟩ : MethodName)) a0_166 (ok16 hw _ _ _ _) ⟨rfl, by decide⟩ (wd hw 112 rfl) (wd hw 113 rfl) (fun s hZ => notFace_of_selects (args := #[]) (mvT hZ (wd hw 115 rfl))) (wd hw 115 rfl) (wd hw 114 rfl) rfl (argsL := [(.long z22)]) (S := []) (carr0 hw _ _ z22 ts (-9223372036854775808 : Int64) r18 (0 : Int64) y15 _) rfl rfl rfl rfl rfl rfl (Nat.le_of_ble_eq_true rfl) (Nat.le_of_ble_eq_true rfl) ?_
                rintro _ _ _ ⟨rfl, rfl, rfl⟩
                show WGo _ (169, [wJ a, wS, wJ b, wS, wJ ts, wS, wI flags, wR 0, wR 3, wI 1, wI 1, wJ r18, wS, wJ z22, wS], [], [(.inr (cn0, [(fk0, .ref 1), (fk1, .long (-9223372036854775808)), (fk2, (.long z22)), (fk3, (.long y15)), (fk4, .long 0)])), (.inr (cn1, [(fk5, .ref 2), (fk6, .int 0)])), (.inl ((.object "com/example/chronogate/chronogate/Event"), [.null, .null, .null, .null, .null, .null, .null, .null])), (.inr (cn2, [(fk7, (.long ts)), (fk8, .ref 4), (fk9, .null), (fk10, .long 0)])), (.inr (cn3, [(fk11, .int 0), (fk12, .ref 1000)]))], 22) _
                refine .s (.iload a0_169 rfl) <| .s (.ifF a0_171 (by decide)) <| .s (.aload a0_174 rfl rfl) ?_
                refine .callV (k := 0) (z := (⟨"com/example/chronogate/chronogate/Substream", "delivered", "()Z"⟩ : MethodName)) a0_176 (ok9 hw _ _ _ _) ⟨rfl, by decide⟩ (wd hw 71 rfl) (wd hw 72 rfl) (fun s hZ => notFace_of_selects (args := #[]) (mvT hZ (wd hw 74 rfl))) (wd hw 74 rfl) (wd hw 73 rfl) rfl (argsL := []) (S := []) (cdel0 hw _ _ ts (-9223372036854775808 : Int64) z22 (0 : Int64) y15 _) rfl rfl rfl rfl rfl rfl (Nat.le_of_ble_eq_true rfl) (Nat.le_of_ble_eq_true rfl) ?_
                rintro _ _ _ ⟨⟨rfl, hD⟩ | ⟨rfl, hD⟩, rfl, rfl⟩
                · clear hD
                  show WGo _ (179, [wJ a, wS, wJ b, wS, wJ ts, wS, wI flags, wR 0, wR 3, wI 1, wI 1, wJ r18, wS, wJ z22, wS], [.int 1], [(.inr (cn0, [(fk0, .ref 1), (fk1, .long (-9223372036854775808)), (fk2, (.long z22)), (fk3, (.long y15)), (fk4, .long 0)])), (.inr (cn1, [(fk5, .ref 2), (fk6, .int 0)])), (.inl ((.object "com/example/chronogate/chronogate/Event"), [.null, .null, .null, .null, .null, .null, .null, .null])), (.inr (cn2, [(fk7, (.long ts)), (fk8, .ref 4), (fk9, .null), (fk10, .long 0)])), (.inr (cn3, [(fk11, .int 0), (fk12, .ref 1000)]))], 22) _
                  refine .s (.ifF a0_179 (by decide)) <| .s (.iconst (1 : Int32) a0_182 rfl) <| .s (.goto a0_183) <| .s (.istore (L' := [wJ a, wS, wJ b, wS, wJ ts, wS, wI flags, wR 0, wR 3, wI 1, wI 1, wJ r18, wS, wJ z22, wS]) a0_187 rfl) <| .s (.iload a0_189 rfl) <| .s (.bipush (8 : Int32) a0_191 rfl) <| .s (.iand a0_193) ?_
                  refine .eq0 a0_194 (fun h194 => ?_) (fun h194 => ?_)
                  · refine .s (.iload a0_211 rfl) <| .s (.ifF a0_213 (by decide)) <| .s (.aload a0_216 rfl rfl) ?_
                    refine .callV (k := 0) (z := (⟨"com/example/chronogate/chronogate/Substream", "delivered", "()Z"⟩ : MethodName)) a0_218 (ok9 hw _ _ _ _) ⟨rfl, by decide⟩ (wd hw 71 rfl) (wd hw 72 rfl) (fun s hZ => notFace_of_selects (args := #[]) (mvT hZ (wd hw 74 rfl))) (wd hw 74 rfl) (wd hw 73 rfl) rfl (argsL := []) (S := []) (cdel0 hw _ _ ts (-9223372036854775808 : Int64) z22 (0 : Int64) y15 _) rfl rfl rfl rfl rfl rfl (Nat.le_of_ble_eq_true rfl) (Nat.le_of_ble_eq_true rfl) ?_
                    rintro _ _ _ ⟨⟨rfl, hD⟩ | ⟨rfl, hD⟩, rfl, rfl⟩
                    · clear hD
                      show WGo _ (221, [wJ a, wS, wJ b, wS, wJ ts, wS, wI flags, wR 0, wR 3, wI 1, wI 1, wJ r18, wS, wJ z22, wS], [.int 1], [(.inr (cn0, [(fk0, .ref 1), (fk1, .long (-9223372036854775808)), (fk2, (.long z22)), (fk3, (.long y15)), (fk4, .long 0)])), (.inr (cn1, [(fk5, .ref 2), (fk6, .int 0)])), (.inl ((.object "com/example/chronogate/chronogate/Event"), [.null, .null, .null, .null, .null, .null, .null, .null])), (.inr (cn2, [(fk7, (.long ts)), (fk8, .ref 4), (fk9, .null), (fk10, .long 0)])), (.inr (cn3, [(fk11, .int 0), (fk12, .ref 1000)]))], 22) _
                      refine .s (.iload a0_221 rfl) <| .s (.icmpF a0_223 (by decide)) <| .s (.iconst (1 : Int32) a0_226 rfl) <| .s (.goto a0_227) <| .s (.istore (L' := [wJ a, wS, wJ b, wS, wJ ts, wS, wI flags, wR 0, wR 3, wI 1, wI 1, wJ r18, wS, wJ z22, wS]) a0_231 rfl) <| .s (.iload a0_233 rfl) ?_
                      refine .ireturn .boolean a0_235 rfl (by simp) ?_
                      exact ⟨rfl, Nat.le_of_ble_eq_true rfl, Nat.le_of_ble_eq_true rfl⟩
                    · exact absurd hm22 hD
                  · refine .s (.aload a0_197 rfl rfl) <| .s (.aload a0_199 rfl rfl) ?_
                    refine .callV (k := 0) (z := (⟨"com/example/chronogate/chronogate/Substream", "add", "(Lcom/example/chronogate/chronogate/Event;)V"⟩ : MethodName)) a0_201 (ok12 hw _ _ _ _) ⟨rfl, by decide⟩ (wd hw 85 rfl) (wd hw 86 rfl) (fun s hZ => notFace_of_selects (args := #[]) (mvT hZ (wd hw 88 rfl))) (wd hw 88 rfl) (wd hw 87 rfl) rfl (argsL := [.ref 3]) (S := []) (cadd0 hw _ _ hS hn ts (-9223372036854775808 : Int64) z22 (0 : Int64) y15 _) rfl rfl rfl rfl rfl rfl (Nat.le_of_ble_eq_true rfl) (Nat.le_of_ble_eq_true rfl) ?_
                    rintro _ _ _ ⟨y23, rfl, rfl, rfl⟩
                    show WGo _ (204, [wJ a, wS, wJ b, wS, wJ ts, wS, wI flags, wR 0, wR 3, wI 1, wI 1, wJ r18, wS, wJ z22, wS], [], [(.inr (cn0, [(fk0, .ref 1), (fk1, (.long y23)), (fk2, (.long z22)), (fk3, (.long y15)), (fk4, (.long ((0 : Int64) + (1 : Int64))))])), (.inr (cn1, [(fk5, .ref 2), (fk6, .int 1)])), (.inl ((.object "com/example/chronogate/chronogate/Event"), [.ref 3, .null, .null, .null, .null, .null, .null, .null])), (.inr (cn2, [(fk7, (.long ts)), (fk8, .ref 4), (fk9, .null), (fk10, .long 0)])), (.inr (cn3, [(fk11, .int 0), (fk12, .ref 1000)]))], 22) _
                    refine .s (.aload a0_204 rfl rfl) <| .s (.lload a0_206 rfl) ?_
                    refine .callV (k := 0) (z := (⟨"com/example/chronogate/chronogate/Substream", "punctuate", "(J)V"⟩ : MethodName)) a0_208 (ok10 hw _ _ _ _) ⟨rfl, by decide⟩ (wd hw 76 rfl) (wd hw 77 rfl) (fun s hZ => notFace_of_selects (args := #[]) (mvT hZ (wd hw 79 rfl))) (wd hw 79 rfl) (wd hw 78 rfl) rfl (argsL := [(.long ts)]) (S := []) (cpun1 hw _ _ ts ts y23 z22 ((0 : Int64) + (1 : Int64)) y15 _) rfl rfl rfl rfl rfl rfl (Nat.le_of_ble_eq_true rfl) (Nat.le_of_ble_eq_true rfl) ?_
                    rintro _ _ _ ⟨y24, rfl, rfl, rfl⟩
                    show WGo _ (211, [wJ a, wS, wJ b, wS, wJ ts, wS, wI flags, wR 0, wR 3, wI 1, wI 1, wJ r18, wS, wJ z22, wS], [], [(.inr (cn0, [(fk0, .ref 1), (fk1, (.long y23)), (fk2, (.long z22)), (fk3, (.long y24)), (fk4, (.long ((0 : Int64) + (1 : Int64))))])), (.inr (cn1, [(fk5, .ref 2), (fk6, .int 1)])), (.inl ((.object "com/example/chronogate/chronogate/Event"), [.ref 3, .null, .null, .null, .null, .null, .null, .null])), (.inr (cn2, [(fk7, (.long ts)), (fk8, .ref 4), (fk9, .null), (fk10, .long 0)])), (.inr (cn3, [(fk11, .int 0), (fk12, .ref 1000)]))], 22) _
                    refine .s (.iload a0_211 rfl) <| .s (.ifF a0_213 (by decide)) <| .s (.aload a0_216 rfl rfl) ?_
                    refine .callV (k := 0) (z := (⟨"com/example/chronogate/chronogate/Substream", "delivered", "()Z"⟩ : MethodName)) a0_218 (ok9 hw _ _ _ _) ⟨rfl, by decide⟩ (wd hw 71 rfl) (wd hw 72 rfl) (fun s hZ => notFace_of_selects (args := #[]) (mvT hZ (wd hw 74 rfl))) (wd hw 74 rfl) (wd hw 73 rfl) rfl (argsL := []) (S := []) (cdel1 hw _ _ ts y23 z22 ((0 : Int64) + (1 : Int64)) y24 _) rfl rfl rfl rfl rfl rfl (Nat.le_of_ble_eq_true rfl) (Nat.le_of_ble_eq_true rfl) ?_
                    rintro _ _ _ ⟨⟨rfl, hD⟩ | ⟨rfl, hD⟩, rfl, rfl⟩
                    · clear hD
                      show WGo _ (221, [wJ a, wS, wJ b, wS, wJ ts, wS, wI flags, wR 0, wR 3, wI 1, wI 1, wJ r18, wS, wJ z22, wS], [.int 1], [(.inr (cn0, [(fk0, .ref 1), (fk1, (.long y23)), (fk2, (.long z22)), (fk3, (.long y24)), (fk4, (.long ((0 : Int64) + (1 : Int64))))])), (.inr (cn1, [(fk5, .ref 2), (fk6, .int 1)])), (.inl ((.object "com/example/chronogate/chronogate/Event"), [.ref 3, .null, .null, .null, .null, .null, .null, .null])), (.inr (cn2, [(fk7, (.long ts)), (fk8, .ref 4), (fk9, .null), (fk10, .long 0)])), (.inr (cn3, [(fk11, .int 0), (fk12, .ref 1000)]))], 22) _
                      refine .s (.iload a0_221 rfl) <| .s (.icmpF a0_223 (by decide)) <| .s (.iconst (1 : Int32) a0_226 rfl) <| .s (.goto a0_227) <| .s (.istore (L' := [wJ a, wS, wJ b, wS, wJ ts, wS, wI flags, wR 0, wR 3, wI 1, wI 1, wJ r18, wS, wJ z22, wS]) a0_231 rfl) <| .s (.iload a0_233 rfl) ?_
                      refine .ireturn .boolean a0_235 rfl (by simp) ?_
                      exact ⟨rfl, Nat.le_of_ble_eq_true rfl, Nat.le_of_ble_eq_true rfl⟩
                    · exact absurd hm22 hD
                · exact absurd hm22 hD
            · exact absurd hr18 hD
    · refine .s (.aload a0_51 rfl rfl) <| .s (.aload a0_53 rfl rfl) ?_
      refine .callV (k := 0) (z := (⟨"com/example/chronogate/chronogate/Substream", "add", "(Lcom/example/chronogate/chronogate/Event;)V"⟩ : MethodName)) a0_55 (ok12 hw _ _ _ _) ⟨rfl, by decide⟩ (wd hw 85 rfl) (wd hw 86 rfl) (fun s hZ => notFace_of_selects (args := #[]) (mvT hZ (wd hw 88 rfl))) (wd hw 88 rfl) (wd hw 87 rfl) rfl (argsL := [.ref 3]) (S := []) (cadd0 hw _ _ hS hn ts (-9223372036854775808 : Int64) (-9223372036854775808 : Int64) (0 : Int64) (-9223372036854775808 : Int64) _) rfl rfl rfl rfl rfl rfl (Nat.le_of_ble_eq_true rfl) (Nat.le_of_ble_eq_true rfl) ?_
      rintro _ _ _ ⟨y25, rfl, rfl, rfl⟩
      show WGo _ (58, [wJ a, wS, wJ b, wS, wJ ts, wS, wI flags, wR 0, wR 3, wI 1, wU, wU, wU, wU, wU], [], [(.inr (cn0, [(fk0, .ref 1), (fk1, (.long y25)), (fk2, .long (-9223372036854775808)), (fk3, .long (-9223372036854775808)), (fk4, (.long ((0 : Int64) + (1 : Int64))))])), (.inr (cn1, [(fk5, .ref 2), (fk6, .int 1)])), (.inl ((.object "com/example/chronogate/chronogate/Event"), [.ref 3, .null, .null, .null, .null, .null, .null, .null])), (.inr (cn2, [(fk7, (.long ts)), (fk8, .ref 4), (fk9, .null), (fk10, .long 0)])), (.inr (cn3, [(fk11, .int 0), (fk12, .ref 1000)]))], 22) _
      refine .s (.iload a0_58 rfl) <| .s (.iconst (2 : Int32) a0_60 rfl) <| .s (.iand a0_61) ?_
      refine .eq0 a0_62 (fun h62 => ?_) (fun h62 => ?_)
      · refine .s (.iload a0_71 rfl) <| .s (.ifF a0_73 (by decide)) <| .s (.aload a0_76 rfl rfl) ?_
        refine .callV (k := 0) (z := (⟨"com/example/chronogate/chronogate/Substream", "delivered", "()Z"⟩ : MethodName)) a0_78 (ok9 hw _ _ _ _) ⟨rfl, by decide⟩ (wd hw 71 rfl) (wd hw 72 rfl) (fun s hZ => notFace_of_selects (args := #[]) (mvT hZ (wd hw 74 rfl))) (wd hw 74 rfl) (wd hw 73 rfl) rfl (argsL := []) (S := []) (cdel1 hw _ _ ts y25 (-9223372036854775808 : Int64) ((0 : Int64) + (1 : Int64)) (-9223372036854775808 : Int64) _) rfl rfl rfl rfl rfl rfl (Nat.le_of_ble_eq_true rfl) (Nat.le_of_ble_eq_true rfl) ?_
        rintro _ _ _ ⟨⟨rfl, hD⟩ | ⟨rfl, hD⟩, rfl, rfl⟩
        · exact absurd rfl hD
        · clear hD
          show WGo _ (81, [wJ a, wS, wJ b, wS, wJ ts, wS, wI flags, wR 0, wR 3, wI 1, wU, wU, wU, wU, wU], [.int 0], [(.inr (cn0, [(fk0, .ref 1), (fk1, (.long y25)), (fk2, .long (-9223372036854775808)), (fk3, .long (-9223372036854775808)), (fk4, (.long ((0 : Int64) + (1 : Int64))))])), (.inr (cn1, [(fk5, .ref 2), (fk6, .int 1)])), (.inl ((.object "com/example/chronogate/chronogate/Event"), [.ref 3, .null, .null, .null, .null, .null, .null, .null])), (.inr (cn2, [(fk7, (.long ts)), (fk8, .ref 4), (fk9, .null), (fk10, .long 0)])), (.inr (cn3, [(fk11, .int 0), (fk12, .ref 1000)]))], 22) _
          refine .s (.ifF a0_81 (by decide)) <| .s (.iconst (1 : Int32) a0_84 rfl) <| .s (.goto a0_85) <| .s (.istore (L' := [wJ a, wS, wJ b, wS, wJ ts, wS, wI flags, wR 0, wR 3, wI 1, wU, wU, wU, wU, wU]) a0_89 rfl) <| .s (.iload a0_91 rfl) <| .s (.iconst (4 : Int32) a0_93 rfl) <| .s (.iand a0_94) ?_
          refine .eq0 a0_95 (fun h95 => ?_) (fun h95 => ?_)
          · refine .s (.iconst (0 : Int32) a0_102 rfl) <| .s (.istore (L' := [wJ a, wS, wJ b, wS, wJ ts, wS, wI flags, wR 0, wR 3, wI 1, wI 0, wU, wU, wU, wU]) a0_103 rfl) <| .s (.iload a0_105 rfl) <| .s (.ifT a0_107 (by decide)) <| .s (.iload a0_189 rfl) <| .s (.bipush (8 : Int32) a0_191 rfl) <| .s (.iand a0_193) ?_
            refine .eq0 a0_194 (fun h194 => ?_) (fun h194 => ?_)
            · refine .s (.iload a0_211 rfl) <| .s (.ifF a0_213 (by decide)) <| .s (.aload a0_216 rfl rfl) ?_
              refine .callV (k := 0) (z := (⟨"com/example/chronogate/chronogate/Substream", "delivered", "()Z"⟩ : MethodName)) a0_218 (ok9 hw _ _ _ _) ⟨rfl, by decide⟩ (wd hw 71 rfl) (wd hw 72 rfl) (fun s hZ => notFace_of_selects (args := #[]) (mvT hZ (wd hw 74 rfl))) (wd hw 74 rfl) (wd hw 73 rfl) rfl (argsL := []) (S := []) (cdel1 hw _ _ ts y25 (-9223372036854775808 : Int64) ((0 : Int64) + (1 : Int64)) (-9223372036854775808 : Int64) _) rfl rfl rfl rfl rfl rfl (Nat.le_of_ble_eq_true rfl) (Nat.le_of_ble_eq_true rfl) ?_
              rintro _ _ _ ⟨⟨rfl, hD⟩ | ⟨rfl, hD⟩, rfl, rfl⟩
              · exact absurd rfl hD
              · clear hD
                show WGo _ (221, [wJ a, wS, wJ b, wS, wJ ts, wS, wI flags, wR 0, wR 3, wI 1, wI 0, wU, wU, wU, wU], [.int 0], [(.inr (cn0, [(fk0, .ref 1), (fk1, (.long y25)), (fk2, .long (-9223372036854775808)), (fk3, .long (-9223372036854775808)), (fk4, (.long ((0 : Int64) + (1 : Int64))))])), (.inr (cn1, [(fk5, .ref 2), (fk6, .int 1)])), (.inl ((.object "com/example/chronogate/chronogate/Event"), [.ref 3, .null, .null, .null, .null, .null, .null, .null])), (.inr (cn2, [(fk7, (.long ts)), (fk8, .ref 4), (fk9, .null), (fk10, .long 0)])), (.inr (cn3, [(fk11, .int 0), (fk12, .ref 1000)]))], 22) _
                refine .s (.iload a0_221 rfl) <| .s (.icmpF a0_223 (by decide)) <| .s (.iconst (1 : Int32) a0_226 rfl) <| .s (.goto a0_227) <| .s (.istore (L' := [wJ a, wS, wJ b, wS, wJ ts, wS, wI flags, wR 0, wR 3, wI 1, wI 0, wU, wU, wU, wU]) a0_231 rfl) <| .s (.iload a0_233 rfl) ?_
                refine .ireturn .boolean a0_235 rfl (by simp) ?_
                exact ⟨rfl, Nat.le_of_ble_eq_true rfl, Nat.le_of_ble_eq_true rfl⟩
            · refine .s (.aload a0_197 rfl rfl) <| .s (.aload a0_199 rfl rfl) ?_
              refine .callV (k := 0) (z := (⟨"com/example/chronogate/chronogate/Substream", "add", "(Lcom/example/chronogate/chronogate/Event;)V"⟩ : MethodName)) a0_201 (ok12 hw _ _ _ _) ⟨rfl, by decide⟩ (wd hw 85 rfl) (wd hw 86 rfl) (fun s hZ => notFace_of_selects (args := #[]) (mvT hZ (wd hw 88 rfl))) (wd hw 88 rfl) (wd hw 87 rfl) rfl (argsL := [.ref 3]) (S := []) (cadd1 hw _ _ hS hn ts y25 (-9223372036854775808 : Int64) ((0 : Int64) + (1 : Int64)) (-9223372036854775808 : Int64) _) rfl rfl rfl rfl rfl rfl (Nat.le_of_ble_eq_true rfl) (Nat.le_of_ble_eq_true rfl) ?_
              rintro _ _ _ ⟨y26, rfl, rfl, rfl⟩
              show WGo _ (204, [wJ a, wS, wJ b, wS, wJ ts, wS, wI flags, wR 0, wR 3, wI 1, wI 0, wU, wU, wU, wU], [], [(.inr (cn0, [(fk0, .ref 1), (fk1, (.long y26)), (fk2, .long (-9223372036854775808)), (fk3, .long (-9223372036854775808)), (fk4, (.long (((0 : Int64) + (1 : Int64)) + (1 : Int64))))])), (.inr (cn1, [(fk5, .ref 2), (fk6, .int 2)])), (.inl ((.object "com/example/chronogate/chronogate/Event"), [.ref 3, .ref 3, .null, .null, .null, .null, .null, .null])), (.inr (cn2, [(fk7, (.long ts)), (fk8, .ref 4), (fk9, .null), (fk10, .long 0)])), (.inr (cn3, [(fk11, .int 0), (fk12, .ref 1000)]))], 22) _
              refine .s (.aload a0_204 rfl rfl) <| .s (.lload a0_206 rfl) ?_
              refine .callV (k := 0) (z := (⟨"com/example/chronogate/chronogate/Substream", "punctuate", "(J)V"⟩ : MethodName)) a0_208 (ok10 hw _ _ _ _) ⟨rfl, by decide⟩ (wd hw 76 rfl) (wd hw 77 rfl) (fun s hZ => notFace_of_selects (args := #[]) (mvT hZ (wd hw 79 rfl))) (wd hw 79 rfl) (wd hw 78 rfl) rfl (argsL := [(.long ts)]) (S := []) (cpun2 hw _ _ ts ts y26 (-9223372036854775808 : Int64) (((0 : Int64) + (1 : Int64)) + (1 : Int64)) (-9223372036854775808 : Int64) _) rfl rfl rfl rfl rfl rfl (Nat.le_of_ble_eq_true rfl) (Nat.le_of_ble_eq_true rfl) ?_
              rintro _ _ _ ⟨y27, rfl, rfl, rfl⟩
              show WGo _ (211, [wJ a, wS, wJ b, wS, wJ ts, wS, wI flags, wR 0, wR 3, wI 1, wI 0, wU, wU, wU, wU], [], [(.inr (cn0, [(fk0, .ref 1), (fk1, (.long y26)), (fk2, .long (-9223372036854775808)), (fk3, (.long y27)), (fk4, (.long (((0 : Int64) + (1 : Int64)) + (1 : Int64))))])), (.inr (cn1, [(fk5, .ref 2), (fk6, .int 2)])), (.inl ((.object "com/example/chronogate/chronogate/Event"), [.ref 3, .ref 3, .null, .null, .null, .null, .null, .null])), (.inr (cn2, [(fk7, (.long ts)), (fk8, .ref 4), (fk9, .null), (fk10, .long 0)])), (.inr (cn3, [(fk11, .int 0), (fk12, .ref 1000)]))], 22) _
              refine .s (.iload a0_211 rfl) <| .s (.ifF a0_213 (by decide)) <| .s (.aload a0_216 rfl rfl) ?_
              refine .callV (k := 0) (z := (⟨"com/example/chronogate/chronogate/Substream", "delivered", "()Z"⟩ : MethodName)) a0_218 (ok9 hw _ _ _ _) ⟨rfl, by decide⟩ (wd hw 71 rfl) (wd hw 72 rfl) (fun s hZ => notFace_of_selects (args := #[]) (mvT hZ (wd hw 74 rfl))) (wd hw 74 rfl) (wd hw 73 rfl) rfl (argsL := []) (S := []) (cdel2 hw _ _ ts y26 (-9223372036854775808 : Int64) (((0 : Int64) + (1 : Int64)) + (1 : Int64)) y27 _) rfl rfl rfl rfl rfl rfl (Nat.le_of_ble_eq_true rfl) (Nat.le_of_ble_eq_true rfl) ?_
              rintro _ _ _ ⟨⟨rfl, hD⟩ | ⟨rfl, hD⟩, rfl, rfl⟩
              · exact absurd rfl hD
              · clear hD
                show WGo _ (221, [wJ a, wS, wJ b, wS, wJ ts, wS, wI flags, wR 0, wR 3, wI 1, wI 0, wU, wU, wU, wU], [.int 0], [(.inr (cn0, [(fk0, .ref 1), (fk1, (.long y26)), (fk2, .long (-9223372036854775808)), (fk3, (.long y27)), (fk4, (.long (((0 : Int64) + (1 : Int64)) + (1 : Int64))))])), (.inr (cn1, [(fk5, .ref 2), (fk6, .int 2)])), (.inl ((.object "com/example/chronogate/chronogate/Event"), [.ref 3, .ref 3, .null, .null, .null, .null, .null, .null])), (.inr (cn2, [(fk7, (.long ts)), (fk8, .ref 4), (fk9, .null), (fk10, .long 0)])), (.inr (cn3, [(fk11, .int 0), (fk12, .ref 1000)]))], 22) _
                refine .s (.iload a0_221 rfl) <| .s (.icmpF a0_223 (by decide)) <| .s (.iconst (1 : Int32) a0_226 rfl) <| .s (.goto a0_227) <| .s (.istore (L' := [wJ a, wS, wJ b, wS, wJ ts, wS, wI flags, wR 0, wR 3, wI 1, wI 0, wU, wU, wU, wU]) a0_231 rfl) <| .s (.iload a0_233 rfl) ?_
                refine .ireturn .boolean a0_235 rfl (by simp) ?_
                exact ⟨rfl, Nat.le_of_ble_eq_true rfl, Nat.le_of_ble_eq_true rfl⟩
          · refine .s (.iconst (1 : Int32) a0_98 rfl) <| .s (.goto a0_99) <| .s (.istore (L' := [wJ a, wS, wJ b, wS, wJ ts, wS, wI flags, wR 0, wR 3, wI 1, wI 1, wU, wU, wU, wU]) a0_103 rfl) <| .s (.iload a0_105 rfl) <| .s (.ifF a0_107 (by decide)) <| .s (.lloadN a0_110 rfl) ?_
            refine .callS a0_111 (ok15 hw _ _ _ _) (wd hw 105 rfl) (wd hw 106 rfl) (argsL := [(.long a)]) (S := []) (crng hw _ _ a _ _) rfl rfl rfl rfl rfl rfl (Nat.le_of_ble_eq_true rfl) (Nat.le_of_ble_eq_true rfl) ?_
            rintro _ _ _ ⟨⟨r28, rfl, hr28⟩, rfl, rfl⟩
            show WGo _ (114, [wJ a, wS, wJ b, wS, wJ ts, wS, wI flags, wR 0, wR 3, wI 1, wI 1, wU, wU, wU, wU], [(.long r28)], [(.inr (cn0, [(fk0, .ref 1), (fk1, (.long y25)), (fk2, .long (-9223372036854775808)), (fk3, .long (-9223372036854775808)), (fk4, (.long ((0 : Int64) + (1 : Int64))))])), (.inr (cn1, [(fk5, .ref 2), (fk6, .int 1)])), (.inl ((.object "com/example/chronogate/chronogate/Event"), [.ref 3, .null, .null, .null, .null, .null, .null, .null])), (.inr (cn2, [(fk7, (.long ts)), (fk8, .ref 4), (fk9, .null), (fk10, .long 0)])), (.inr (cn3, [(fk11, .int 0), (fk12, .ref 1000)]))], 22) _
            refine .s (.lstore (L' := [wJ a, wS, wJ b, wS, wJ ts, wS, wI flags, wR 0, wR 3, wI 1, wI 1, wJ r28, wS, wU, wU]) a0_114 rfl) <| .s (.aload a0_116 rfl rfl) <| .s (.lload a0_118 rfl) ?_
            refine .callV (k := 0) (z := (⟨"com/example/chronogate/chronogate/Substream", "arrive", "(J)V"⟩ : MethodName)) a0_120 (ok16 hw _ _ _ _) ⟨rfl, by decide⟩ (wd hw 112 rfl) (wd hw 113 rfl) (fun s hZ => notFace_of_selects (args := #[]) (mvT hZ (wd hw 115 rfl))) (wd hw 115 rfl) (wd hw 114 rfl) rfl (argsL := [(.long r28)]) (S := []) (carr1 hw _ _ r28 ts y25 (-9223372036854775808 : Int64) ((0 : Int64) + (1 : Int64)) (-9223372036854775808 : Int64) _) rfl rfl rfl rfl rfl rfl (Nat.le_of_ble_eq_true rfl) (Nat.le_of_ble_eq_true rfl) ?_
            rintro _ _ _ ⟨rfl, rfl, rfl⟩
            show WGo _ (123, [wJ a, wS, wJ b, wS, wJ ts, wS, wI flags, wR 0, wR 3, wI 1, wI 1, wJ r28, wS, wU, wU], [], [(.inr (cn0, [(fk0, .ref 1), (fk1, (.long y25)), (fk2, (.long r28)), (fk3, .long (-9223372036854775808)), (fk4, (.long ((0 : Int64) + (1 : Int64))))])), (.inr (cn1, [(fk5, .ref 2), (fk6, .int 1)])), (.inl ((.object "com/example/chronogate/chronogate/Event"), [.ref 3, .null, .null, .null, .null, .null, .null, .null])), (.inr (cn2, [(fk7, (.long ts)), (fk8, .ref 4), (fk9, .null), (fk10, .long 0)])), (.inr (cn3, [(fk11, .int 0), (fk12, .ref 1000)]))], 22) _
            refine .s (.iload a0_123 rfl) <| .s (.ifF a0_125 (by decide)) <| .s (.aload a0_128 rfl rfl) ?_
            refine .callV (k := 0) (z := (⟨"com/example/chronogate/chronogate/Substream", "delivered", "()Z"⟩ : MethodName)) a0_130 (ok9 hw _ _ _ _) ⟨rfl, by decide⟩ (wd hw 71 rfl) (wd hw 72 rfl) (fun s hZ => notFace_of_selects (args := #[]) (mvT hZ (wd hw 74 rfl))) (wd hw 74 rfl) (wd hw 73 rfl) rfl (argsL := []) (S := []) (cdel1 hw _ _ ts y25 r28 ((0 : Int64) + (1 : Int64)) (-9223372036854775808 : Int64) _) rfl rfl rfl rfl rfl rfl (Nat.le_of_ble_eq_true rfl) (Nat.le_of_ble_eq_true rfl) ?_
            rintro _ _ _ ⟨⟨rfl, hD⟩ | ⟨rfl, hD⟩, rfl, rfl⟩
            · clear hD
              show WGo _ (133, [wJ a, wS, wJ b, wS, wJ ts, wS, wI flags, wR 0, wR 3, wI 1, wI 1, wJ r28, wS, wU, wU], [.int 1], [(.inr (cn0, [(fk0, .ref 1), (fk1, (.long y25)), (fk2, (.long r28)), (fk3, .long (-9223372036854775808)), (fk4, (.long ((0 : Int64) + (1 : Int64))))])), (.inr (cn1, [(fk5, .ref 2), (fk6, .int 1)])), (.inl ((.object "com/example/chronogate/chronogate/Event"), [.ref 3, .null, .null, .null, .null, .null, .null, .null])), (.inr (cn2, [(fk7, (.long ts)), (fk8, .ref 4), (fk9, .null), (fk10, .long 0)])), (.inr (cn3, [(fk11, .int 0), (fk12, .ref 1000)]))], 22) _
              refine .s (.ifF a0_133 (by decide)) <| .s (.iconst (1 : Int32) a0_136 rfl) <| .s (.goto a0_137) <| .s (.istore (L' := [wJ a, wS, wJ b, wS, wJ ts, wS, wI flags, wR 0, wR 3, wI 1, wI 1, wJ r28, wS, wU, wU]) a0_141 rfl) <| .s (.iload a0_143 rfl) <| .s (.bipush (16 : Int32) a0_145 rfl) <| .s (.iand a0_147) ?_
              refine .eq0 a0_148 (fun h148 => ?_) (fun h148 => ?_)
              · refine .s (.iload a0_189 rfl) <| .s (.bipush (8 : Int32) a0_191 rfl) <| .s (.iand a0_193) ?_
                refine .eq0 a0_194 (fun h194 => ?_) (fun h194 => ?_)
                · refine .s (.iload a0_211 rfl) <| .s (.ifF a0_213 (by decide)) <| .s (.aload a0_216 rfl rfl) ?_
                  refine .callV (k := 0) (z := (⟨"com/example/chronogate/chronogate/Substream", "delivered", "()Z"⟩ : MethodName)) a0_218 (ok9 hw _ _ _ _) ⟨rfl, by decide⟩ (wd hw 71 rfl) (wd hw 72 rfl) (fun s hZ => notFace_of_selects (args := #[]) (mvT hZ (wd hw 74 rfl))) (wd hw 74 rfl) (wd hw 73 rfl) rfl (argsL := []) (S := []) (cdel1 hw _ _ ts y25 r28 ((0 : Int64) + (1 : Int64)) (-9223372036854775808 : Int64) _) rfl rfl rfl rfl rfl rfl (Nat.le_of_ble_eq_true rfl) (Nat.le_of_ble_eq_true rfl) ?_
                  rintro _ _ _ ⟨⟨rfl, hD⟩ | ⟨rfl, hD⟩, rfl, rfl⟩
                  · clear hD
                    show WGo _ (221, [wJ a, wS, wJ b, wS, wJ ts, wS, wI flags, wR 0, wR 3, wI 1, wI 1, wJ r28, wS, wU, wU], [.int 1], [(.inr (cn0, [(fk0, .ref 1), (fk1, (.long y25)), (fk2, (.long r28)), (fk3, .long (-9223372036854775808)), (fk4, (.long ((0 : Int64) + (1 : Int64))))])), (.inr (cn1, [(fk5, .ref 2), (fk6, .int 1)])), (.inl ((.object "com/example/chronogate/chronogate/Event"), [.ref 3, .null, .null, .null, .null, .null, .null, .null])), (.inr (cn2, [(fk7, (.long ts)), (fk8, .ref 4), (fk9, .null), (fk10, .long 0)])), (.inr (cn3, [(fk11, .int 0), (fk12, .ref 1000)]))], 22) _
                    refine .s (.iload a0_221 rfl) <| .s (.icmpF a0_223 (by decide)) <| .s (.iconst (1 : Int32) a0_226 rfl) <| .s (.goto a0_227) <| .s (.istore (L' := [wJ a, wS, wJ b, wS, wJ ts, wS, wI flags, wR 0, wR 3, wI 1, wI 1, wJ r28, wS, wU, wU]) a0_231 rfl) <| .s (.iload a0_233 rfl) ?_
                    refine .ireturn .boolean a0_235 rfl (by simp) ?_
                    exact ⟨rfl, Nat.le_of_ble_eq_true rfl, Nat.le_of_ble_eq_true rfl⟩
                  · exact absurd hr28 hD
                · refine .s (.aload a0_197 rfl rfl) <| .s (.aload a0_199 rfl rfl) ?_
                  refine .callV (k := 0) (z := (⟨"com/example/chronogate/chronogate/Substream", "add", "(Lcom/example/chronogate/chronogate/Event;)V"⟩ : MethodName)) a0_201 (ok12 hw _ _ _ _) ⟨rfl, by decide⟩ (wd hw 85 rfl) (wd hw 86 rfl) (fun s hZ => notFace_of_selects (args := #[]) (mvT hZ (wd hw 88 rfl))) (wd hw 88 rfl) (wd hw 87 rfl) rfl (argsL := [.ref 3]) (S := []) (cadd1 hw _ _ hS hn ts y25 r28 ((0 : Int64) + (1 : Int64)) (-9223372036854775808 : Int64) _) rfl rfl rfl rfl rfl rfl (Nat.le_of_ble_eq_true rfl) (Nat.le_of_ble_eq_true rfl) ?_
                  rintro _ _ _ ⟨y29, rfl, rfl, rfl⟩
                  show WGo _ (204, [wJ a, wS, wJ b, wS, wJ ts, wS, wI flags, wR 0, wR 3, wI 1, wI 1, wJ r28, wS, wU, wU], [], [(.inr (cn0, [(fk0, .ref 1), (fk1, (.long y29)), (fk2, (.long r28)), (fk3, .long (-9223372036854775808)), (fk4, (.long (((0 : Int64) + (1 : Int64)) + (1 : Int64))))])), (.inr (cn1, [(fk5, .ref 2), (fk6, .int 2)])), (.inl ((.object "com/example/chronogate/chronogate/Event"), [.ref 3, .ref 3, .null, .null, .null, .null, .null, .null])), (.inr (cn2, [(fk7, (.long ts)), (fk8, .ref 4), (fk9, .null), (fk10, .long 0)])), (.inr (cn3, [(fk11, .int 0), (fk12, .ref 1000)]))], 22) _
                  refine .s (.aload a0_204 rfl rfl) <| .s (.lload a0_206 rfl) ?_
                  refine .callV (k := 0) (z := (⟨"com/example/chronogate/chronogate/Substream", "punctuate", "(J)V"⟩ : MethodName)) a0_208 (ok10 hw _ _ _ _) ⟨rfl, by decide⟩ (wd hw 76 rfl) (wd hw 77 rfl) (fun s hZ => notFace_of_selects (args := #[]) (mvT hZ (wd hw 79 rfl))) (wd hw 79 rfl) (wd hw 78 rfl) rfl (argsL := [(.long ts)]) (S := []) (cpun2 hw _ _ ts ts y29 r28 (((0 : Int64) + (1 : Int64)) + (1 : Int64)) (-9223372036854775808 : Int64) _) rfl rfl rfl rfl rfl rfl (Nat.le_of_ble_eq_true rfl) (Nat.le_of_ble_eq_true rfl) ?_
                  rintro _ _ _ ⟨y30, rfl, rfl, rfl⟩
                  show WGo _ (211, [wJ a, wS, wJ b, wS, wJ ts, wS, wI flags, wR 0, wR 3, wI 1, wI 1, wJ r28, wS, wU, wU], [], [(.inr (cn0, [(fk0, .ref 1), (fk1, (.long y29)), (fk2, (.long r28)), (fk3, (.long y30)), (fk4, (.long (((0 : Int64) + (1 : Int64)) + (1 : Int64))))])), (.inr (cn1, [(fk5, .ref 2), (fk6, .int 2)])), (.inl ((.object "com/example/chronogate/chronogate/Event"), [.ref 3, .ref 3, .null, .null, .null, .null, .null, .null])), (.inr (cn2, [(fk7, (.long ts)), (fk8, .ref 4), (fk9, .null), (fk10, .long 0)])), (.inr (cn3, [(fk11, .int 0), (fk12, .ref 1000)]))], 22) _
                  refine .s (.iload a0_211 rfl) <| .s (.ifF a0_213 (by decide)) <| .s (.aload a0_216 rfl rfl) ?_
                  refine .callV (k := 0) (z := (⟨"com/example/chronogate/chronogate/Substream", "delivered", "()Z"⟩ : MethodName)) a0_218 (ok9 hw _ _ _ _) ⟨rfl, by decide⟩ (wd hw 71 rfl) (wd hw 72 rfl) (fun s hZ => notFace_of_selects (args := #[]) (mvT hZ (wd hw 74 rfl))) (wd hw 74 rfl) (wd hw 73 rfl) rfl (argsL := []) (S := []) (cdel2 hw _ _ ts y29 r28 (((0 : Int64) + (1 : Int64)) + (1 : Int64)) y30 _) rfl rfl rfl rfl rfl rfl (Nat.le_of_ble_eq_true rfl) (Nat.le_of_ble_eq_true rfl) ?_
                  rintro _ _ _ ⟨⟨rfl, hD⟩ | ⟨rfl, hD⟩, rfl, rfl⟩
                  · clear hD
                    show WGo _ (221, [wJ a, wS, wJ b, wS, wJ ts, wS, wI flags, wR 0, wR 3, wI 1, wI 1, wJ r28, wS, wU, wU], [.int 1], [(.inr (cn0, [(fk0, .ref 1), (fk1, (.long y29)), (fk2, (.long r28)), (fk3, (.long y30)), (fk4, (.long (((0 : Int64) + (1 : Int64)) + (1 : Int64))))])), (.inr (cn1, [(fk5, .ref 2), (fk6, .int 2)])), (.inl ((.object "com/example/chronogate/chronogate/Event"), [.ref 3, .ref 3, .null, .null, .null, .null, .null, .null])), (.inr (cn2, [(fk7, (.long ts)), (fk8, .ref 4), (fk9, .null), (fk10, .long 0)])), (.inr (cn3, [(fk11, .int 0), (fk12, .ref 1000)]))], 22) _
                    refine .s (.iload a0_221 rfl) <| .s (.icmpF a0_223 (by decide)) <| .s (.iconst (1 : Int32) a0_226 rfl) <| .s (.goto a0_227) <| .s (.istore (L' := [wJ a, wS, wJ b, wS, wJ ts, wS, wI flags, wR 0, wR 3, wI 1, wI 1, wJ r28, wS, wU, wU]) a0_231 rfl) <| .s (.iload a0_233 rfl) ?_
                    refine .ireturn .boolean a0_235 rfl (by simp) ?_
                    exact ⟨rfl, Nat.le_of_ble_eq_true rfl, Nat.le_of_ble_eq_true rfl⟩
                  · exact absurd hr28 hD
              · refine .s (.lload a0_151 rfl) <| .s (.lloadN a0_153 rfl) ?_
                refine .callS a0_154 (ok15 hw _ _ _ _) (wd hw 105 rfl) (wd hw 106 rfl) (argsL := [(.long b)]) (S := [(.long r28)]) (crng hw _ _ b _ _) rfl rfl rfl rfl rfl rfl (Nat.le_of_ble_eq_true rfl) (Nat.le_of_ble_eq_true rfl) ?_
                rintro _ _ _ ⟨⟨r31, rfl, hr31⟩, rfl, rfl⟩
                show WGo _ (157, [wJ a, wS, wJ b, wS, wJ ts, wS, wI flags, wR 0, wR 3, wI 1, wI 1, wJ r28, wS, wU, wU], [(.long r31), (.long r28)], [(.inr (cn0, [(fk0, .ref 1), (fk1, (.long y25)), (fk2, (.long r28)), (fk3, .long (-9223372036854775808)), (fk4, (.long ((0 : Int64) + (1 : Int64))))])), (.inr (cn1, [(fk5, .ref 2), (fk6, .int 1)])), (.inl ((.object "com/example/chronogate/chronogate/Event"), [.ref 3, .null, .null, .null, .null, .null, .null, .null])), (.inr (cn2, [(fk7, (.long ts)), (fk8, .ref 4), (fk9, .null), (fk10, .long 0)])), (.inr (cn3, [(fk11, .int 0), (fk12, .ref 1000)]))], 22) _
                refine .callS a0_157 (ok11 hw _ _ _ _) (wd hw 117 rfl) (wd hw 82 rfl) (argsL := [(.long r28), (.long r31)]) (S := []) (cmax hw _ _ r28 r31 _ _) rfl rfl rfl rfl rfl rfl (Nat.le_of_ble_eq_true rfl) (Nat.le_of_ble_eq_true rfl) ?_
                rintro _ _ _ ⟨⟨z32, rfl, hz32⟩, rfl, rfl⟩; have hm32 : ¬ z32 = (-9223372036854775808 : Int64) := by rcases hz32 with rfl | rfl <;> assumption
                show WGo _ (160, [wJ a, wS, wJ b, wS, wJ ts, wS, wI flags, wR 0, wR 3, wI 1, wI 1, wJ r28, wS, wU, wU], [(.long z32)], [(.inr (cn0, [(fk0, .ref 1), (fk1, (.long y25)), (fk2, (.long r28)), (fk3, .long (-9223372036854775808)), (fk4, (.long ((0 : Int64) + (1 : Int64))))])), (.inr (cn1, [(fk5, .ref 2), (fk6, .int 1)])), (.inl ((.object "com/example/chronogate/chronogate/Event"), [.ref 3, .null, .null, .null, .null, .null, .null, .null])), (.inr (cn2, [(fk7, (.long ts)), (fk8, .ref 4), (fk9, .null), (fk10, .long 0)])), (.inr (cn3, [(fk11, .int 0), (fk12, .ref 1000)]))], 22) _
                refine .s (.lstore (L' := [wJ a, wS, wJ b, wS, wJ ts, wS, wI flags, wR 0, wR 3, wI 1, wI 1, wJ r28, wS, wJ z32, wS]) a0_160 rfl) <| .s (.aload a0_162 rfl rfl) <| .s (.lload a0_164 rfl) ?_
                refine .callV (k := 0) (z := (⟨"com/example/chronogate/chronogate/Substream", "arrive", "(J)V"⟩ : MethodName)) a0_166 (ok16 hw _ _ _ _) ⟨rfl, by decide⟩ (wd hw 112 rfl) (wd hw 113 rfl) (fun s hZ => notFace_of_selects (args := #[]) (mvT hZ (wd hw 115 rfl))) (wd hw 115 rfl) (wd hw 114 rfl) rfl (argsL := [(.long z32)]) (S := []) (carr1 hw _ _ z32 ts y25 r28 ((0 : Int64) + (1 : Int64)) (-9223372036854775808 : Int64) _) rfl rfl rfl rfl rfl rfl (Nat.le_of_ble_eq_true rfl) (Nat.le_of_ble_eq_true rfl) ?_
                rintro _ _ _ ⟨rfl, rfl, rfl⟩
                show WGo _ (169, [wJ a, wS, wJ b, wS, wJ ts, wS, wI flags, wR 0, wR 3, wI 1, wI 1, wJ r28, wS, wJ z32, wS], [], [(.inr (cn0, [(fk0, .ref 1), (fk1, (.long y25)), (fk2, (.long z32)), (fk3, .long (-9223372036854775808)), (fk4, (.long ((0 : Int64) + (1 : Int64))))])), (.inr (cn1, [(fk5, .ref 2), (fk6, .int 1)])), (.inl ((.object "com/example/chronogate/chronogate/Event"), [.ref 3, .null, .null, .null, .null, .null, .null, .null])), (.inr (cn2, [(fk7, (.long ts)), (fk8, .ref 4), (fk9, .null), (fk10, .long 0)])), (.inr (cn3, [(fk11, .int 0), (fk12, .ref 1000)]))], 22) _
                refine .s (.iload a0_169 rfl) <| .s (.ifF a0_171 (by decide)) <| .s (.aload a0_174 rfl rfl) ?_
                refine .callV (k := 0) (z := (⟨"com/example/chronogate/chronogate/Substream", "delivered", "()Z"⟩ : MethodName)) a0_176 (ok9 hw _ _ _ _) ⟨rfl, by decide⟩ (wd hw 71 rfl) (wd hw 72 rfl) (fun s hZ => notFace_of_selects (args := #[]) (mvT hZ (wd hw 74 rfl))) (wd hw 74 rfl) (wd hw 73 rfl) rfl (argsL := []) (S := []) (cdel1 hw _ _ ts y25 z32 ((0 : Int64) + (1 : Int64)) (-9223372036854775808 : Int64) _) rfl rfl rfl rfl rfl rfl (Nat.le_of_ble_eq_true rfl) (Nat.le_of_ble_eq_true rfl) ?_
                rintro _ _ _ ⟨⟨rfl, hD⟩ | ⟨rfl, hD⟩, rfl, rfl⟩
                · clear hD
                  show WGo _ (179, [wJ a, wS, wJ b, wS, wJ ts, wS, wI flags, wR 0, wR 3, wI 1, wI 1, wJ r28, wS, wJ z32, wS], [.int 1], [(.inr (cn0, [(fk0, .ref 1), (fk1, (.long y25)), (fk2, (.long z32)), (fk3, .long (-9223372036854775808)), (fk4, (.long ((0 : Int64) + (1 : Int64))))])), (.inr (cn1, [(fk5, .ref 2), (fk6, .int 1)])), (.inl ((.object "com/example/chronogate/chronogate/Event"), [.ref 3, .null, .null, .null, .null, .null, .null, .null])), (.inr (cn2, [(fk7, (.long ts)), (fk8, .ref 4), (fk9, .null), (fk10, .long 0)])), (.inr (cn3, [(fk11, .int 0), (fk12, .ref 1000)]))], 22) _
                  refine .s (.ifF a0_179 (by decide)) <| .s (.iconst (1 : Int32) a0_182 rfl) <| .s (.goto a0_183) <| .s (.istore (L' := [wJ a, wS, wJ b, wS, wJ ts, wS, wI flags, wR 0, wR 3, wI 1, wI 1, wJ r28, wS, wJ z32, wS]) a0_187 rfl) <| .s (.iload a0_189 rfl) <| .s (.bipush (8 : Int32) a0_191 rfl) <| .s (.iand a0_193) ?_
                  refine .eq0 a0_194 (fun h194 => ?_) (fun h194 => ?_)
                  · refine .s (.iload a0_211 rfl) <| .s (.ifF a0_213 (by decide)) <| .s (.aload a0_216 rfl rfl) ?_
                    refine .callV (k := 0) (z := (⟨"com/example/chronogate/chronogate/Substream", "delivered", "()Z"⟩ : MethodName)) a0_218 (ok9 hw _ _ _ _) ⟨rfl, by decide⟩ (wd hw 71 rfl) (wd hw 72 rfl) (fun s hZ => notFace_of_selects (args := #[]) (mvT hZ (wd hw 74 rfl))) (wd hw 74 rfl) (wd hw 73 rfl) rfl (argsL := []) (S := []) (cdel1 hw _ _ ts y25 z32 ((0 : Int64) + (1 : Int64)) (-9223372036854775808 : Int64) _) rfl rfl rfl rfl rfl rfl (Nat.le_of_ble_eq_true rfl) (Nat.le_of_ble_eq_true rfl) ?_
                    rintro _ _ _ ⟨⟨rfl, hD⟩ | ⟨rfl, hD⟩, rfl, rfl⟩
                    · clear hD
                      show WGo _ (221, [wJ a, wS, wJ b, wS, wJ ts, wS, wI flags, wR 0, wR 3, wI 1, wI 1, wJ r28, wS, wJ z32, wS], [.int 1], [(.inr (cn0, [(fk0, .ref 1), (fk1, (.long y25)), (fk2, (.long z32)), (fk3, .long (-9223372036854775808)), (fk4, (.long ((0 : Int64) + (1 : Int64))))])), (.inr (cn1, [(fk5, .ref 2), (fk6, .int 1)])), (.inl ((.object "com/example/chronogate/chronogate/Event"), [.ref 3, .null, .null, .null, .null, .null, .null, .null])), (.inr (cn2, [(fk7, (.long ts)), (fk8, .ref 4), (fk9, .null), (fk10, .long 0)])), (.inr (cn3, [(fk11, .int 0), (fk12, .ref 1000)]))], 22) _
                      refine .s (.iload a0_221 rfl) <| .s (.icmpF a0_223 (by decide)) <| .s (.iconst (1 : Int32) a0_226 rfl) <| .s (.goto a0_227) <| .s (.istore (L' := [wJ a, wS, wJ b, wS, wJ ts, wS, wI flags, wR 0, wR 3, wI 1, wI 1, wJ r28, wS, wJ z32, wS]) a0_231 rfl) <| .s (.iload a0_233 rfl) ?_
                      refine .ireturn .boolean a0_235 rfl (by simp) ?_
                      exact ⟨rfl, Nat.le_of_ble_eq_true rfl, Nat.le_of_ble_eq_true rfl⟩
                    · exact absurd hm32 hD
                  · refine .s (.aload a0_197 rfl rfl) <| .s (.aload a0_199 rfl rfl) ?_
                    refine .callV (k := 0) (z := (⟨"com/example/chronogate/chronogate/Substream", "add", "(Lcom/example/chronogate/chronogate/Event;)V"⟩ : MethodName)) a0_201 (ok12 hw _ _ _ _) ⟨rfl, by decide⟩ (wd hw 85 rfl) (wd hw 86 rfl) (fun s hZ => notFace_of_selects (args := #[]) (mvT hZ (wd hw 88 rfl))) (wd hw 88 rfl) (wd hw 87 rfl) rfl (argsL := [.ref 3]) (S := []) (cadd1 hw _ _ hS hn ts y25 z32 ((0 : Int64) + (1 : Int64)) (-9223372036854775808 : Int64) _) rfl rfl rfl rfl rfl rfl (Nat.le_of_ble_eq_true rfl) (Nat.le_of_ble_eq_true rfl) ?_
                    rintro _ _ _ ⟨y33, rfl, rfl, rfl⟩
                    show WGo _ (204, [wJ a, wS, wJ b, wS, wJ ts, wS, wI flags, wR 0, wR 3, wI 1, wI 1, wJ r28, wS, wJ z32, wS], [], [(.inr (cn0, [(fk0, .ref 1), (fk1, (.long y33)), (fk2, (.long z32)), (fk3, .long (-9223372036854775808)), (fk4, (.long (((0 : Int64) + (1 : Int64)) + (1 : Int64))))])), (.inr (cn1, [(fk5, .ref 2), (fk6, .int 2)])), (.inl ((.object "com/example/chronogate/chronogate/Event"), [.ref 3, .ref 3, .null, .null, .null, .null, .null, .null])), (.inr (cn2, [(fk7, (.long ts)), (fk8, .ref 4), (fk9, .null), (fk10, .long 0)])), (.inr (cn3, [(fk11, .int 0), (fk12, .ref 1000)]))], 22) _
                    refine .s (.aload a0_204 rfl rfl) <| .s (.lload a0_206 rfl) ?_
                    refine .callV (k := 0) (z := (⟨"com/example/chronogate/chronogate/Substream", "punctuate", "(J)V"⟩ : MethodName)) a0_208 (ok10 hw _ _ _ _) ⟨rfl, by decide⟩ (wd hw 76 rfl) (wd hw 77 rfl) (fun s hZ => notFace_of_selects (args := #[]) (mvT hZ (wd hw 79 rfl))) (wd hw 79 rfl) (wd hw 78 rfl) rfl (argsL := [(.long ts)]) (S := []) (cpun2 hw _ _ ts ts y33 z32 (((0 : Int64) + (1 : Int64)) + (1 : Int64)) (-9223372036854775808 : Int64) _) rfl rfl rfl rfl rfl rfl (Nat.le_of_ble_eq_true rfl) (Nat.le_of_ble_eq_true rfl) ?_
                    rintro _ _ _ ⟨y34, rfl, rfl, rfl⟩
                    show WGo _ (211, [wJ a, wS, wJ b, wS, wJ ts, wS, wI flags, wR 0, wR 3, wI 1, wI 1, wJ r28, wS, wJ z32, wS], [], [(.inr (cn0, [(fk0, .ref 1), (fk1, (.long y33)), (fk2, (.long z32)), (fk3, (.long y34)), (fk4, (.long (((0 : Int64) + (1 : Int64)) + (1 : Int64))))])), (.inr (cn1, [(fk5, .ref 2), (fk6, .int 2)])), (.inl ((.object "com/example/chronogate/chronogate/Event"), [.ref 3, .ref 3, .null, .null, .null, .null, .null, .null])), (.inr (cn2, [(fk7, (.long ts)), (fk8, .ref 4), (fk9, .null), (fk10, .long 0)])), (.inr (cn3, [(fk11, .int 0), (fk12, .ref 1000)]))], 22) _
                    refine .s (.iload a0_211 rfl) <| .s (.ifF a0_213 (by decide)) <| .s (.aload a0_216 rfl rfl) ?_
                    refine .callV (k := 0) (z := (⟨"com/example/chronogate/chronogate/Substream", "delivered", "()Z"⟩ : MethodName)) a0_218 (ok9 hw _ _ _ _) ⟨rfl, by decide⟩ (wd hw 71 rfl) (wd hw 72 rfl) (fun s hZ => notFace_of_selects (args := #[]) (mvT hZ (wd hw 74 rfl))) (wd hw 74 rfl) (wd hw 73 rfl) rfl (argsL := []) (S := []) (cdel2 hw _ _ ts y33 z32 (((0 : Int64) + (1 : Int64)) + (1 : Int64)) y34 _) rfl rfl rfl rfl rfl rfl (Nat.le_of_ble_eq_true rfl) (Nat.le_of_ble_eq_true rfl) ?_
                    rintro _ _ _ ⟨⟨rfl, hD⟩ | ⟨rfl, hD⟩, rfl, rfl⟩
                    · clear hD
                      show WGo _ (221, [wJ a, wS, wJ b, wS, wJ ts, wS, wI flags, wR 0, wR 3, wI 1, wI 1, wJ r28, wS, wJ z32, wS], [.int 1], [(.inr (cn0, [(fk0, .ref 1), (fk1, (.long y33)), (fk2, (.long z32)), (fk3, (.long y34)), (fk4, (.long (((0 : Int64) + (1 : Int64)) + (1 : Int64))))])), (.inr (cn1, [(fk5, .ref 2), (fk6, .int 2)])), (.inl ((.object "com/example/chronogate/chronogate/Event"), [.ref 3, .ref 3, .null, .null, .null, .null, .null, .null])), (.inr (cn2, [(fk7, (.long ts)), (fk8, .ref 4), (fk9, .null), (fk10, .long 0)])), (.inr (cn3, [(fk11, .int 0), (fk12, .ref 1000)]))], 22) _
                      refine .s (.iload a0_221 rfl) <| .s (.icmpF a0_223 (by decide)) <| .s (.iconst (1 : Int32) a0_226 rfl) <| .s (.goto a0_227) <| .s (.istore (L' := [wJ a, wS, wJ b, wS, wJ ts, wS, wI flags, wR 0, wR 3, wI 1, wI 1, wJ r28, wS, wJ z32, wS]) a0_231 rfl) <| .s (.iload a0_233 rfl) ?_
                      refine .ireturn .boolean a0_235 rfl (by simp) ?_
                      exact ⟨rfl, Nat.le_of_ble_eq_true rfl, Nat.le_of_ble_eq_true rfl⟩
                    · exact absurd hm32 hD
                · exact absurd hm32 hD
            · exact absurd hr28 hD
      · refine .s (.aload a0_65 rfl rfl) <| .s (.lloadN a0_67 rfl) ?_
        refine .callV (k := 0) (z := (⟨"com/example/chronogate/chronogate/Substream", "punctuate", "(J)V"⟩ : MethodName)) a0_68 (ok10 hw _ _ _ _) ⟨rfl, by decide⟩ (wd hw 76 rfl) (wd hw 77 rfl) (fun s hZ => notFace_of_selects (args := #[]) (mvT hZ (wd hw 79 rfl))) (wd hw 79 rfl) (wd hw 78 rfl) rfl (argsL := [(.long b)]) (S := []) (cpun1 hw _ _ b ts y25 (-9223372036854775808 : Int64) ((0 : Int64) + (1 : Int64)) (-9223372036854775808 : Int64) _) rfl rfl rfl rfl rfl rfl (Nat.le_of_ble_eq_true rfl) (Nat.le_of_ble_eq_true rfl) ?_
        rintro _ _ _ ⟨y35, rfl, rfl, rfl⟩
        show WGo _ (71, [wJ a, wS, wJ b, wS, wJ ts, wS, wI flags, wR 0, wR 3, wI 1, wU, wU, wU, wU, wU], [], [(.inr (cn0, [(fk0, .ref 1), (fk1, (.long y25)), (fk2, .long (-9223372036854775808)), (fk3, (.long y35)), (fk4, (.long ((0 : Int64) + (1 : Int64))))])), (.inr (cn1, [(fk5, .ref 2), (fk6, .int 1)])), (.inl ((.object "com/example/chronogate/chronogate/Event"), [.ref 3, .null, .null, .null, .null, .null, .null, .null])), (.inr (cn2, [(fk7, (.long ts)), (fk8, .ref 4), (fk9, .null), (fk10, .long 0)])), (.inr (cn3, [(fk11, .int 0), (fk12, .ref 1000)]))], 22) _
        refine .s (.iload a0_71 rfl) <| .s (.ifF a0_73 (by decide)) <| .s (.aload a0_76 rfl rfl) ?_
        refine .callV (k := 0) (z := (⟨"com/example/chronogate/chronogate/Substream", "delivered", "()Z"⟩ : MethodName)) a0_78 (ok9 hw _ _ _ _) ⟨rfl, by decide⟩ (wd hw 71 rfl) (wd hw 72 rfl) (fun s hZ => notFace_of_selects (args := #[]) (mvT hZ (wd hw 74 rfl))) (wd hw 74 rfl) (wd hw 73 rfl) rfl (argsL := []) (S := []) (cdel1 hw _ _ ts y25 (-9223372036854775808 : Int64) ((0 : Int64) + (1 : Int64)) y35 _) rfl rfl rfl rfl rfl rfl (Nat.le_of_ble_eq_true rfl) (Nat.le_of_ble_eq_true rfl) ?_
        rintro _ _ _ ⟨⟨rfl, hD⟩ | ⟨rfl, hD⟩, rfl, rfl⟩
        · exact absurd rfl hD
        · clear hD
          show WGo _ (81, [wJ a, wS, wJ b, wS, wJ ts, wS, wI flags, wR 0, wR 3, wI 1, wU, wU, wU, wU, wU], [.int 0], [(.inr (cn0, [(fk0, .ref 1), (fk1, (.long y25)), (fk2, .long (-9223372036854775808)), (fk3, (.long y35)), (fk4, (.long ((0 : Int64) + (1 : Int64))))])), (.inr (cn1, [(fk5, .ref 2), (fk6, .int 1)])), (.inl ((.object "com/example/chronogate/chronogate/Event"), [.ref 3, .null, .null, .null, .null, .null, .null, .null])), (.inr (cn2, [(fk7, (.long ts)), (fk8, .ref 4), (fk9, .null), (fk10, .long 0)])), (.inr (cn3, [(fk11, .int 0), (fk12, .ref 1000)]))], 22) _
          refine .s (.ifF a0_81 (by decide)) <| .s (.iconst (1 : Int32) a0_84 rfl) <| .s (.goto a0_85) <| .s (.istore (L' := [wJ a, wS, wJ b, wS, wJ ts, wS, wI flags, wR 0, wR 3, wI 1, wU, wU, wU, wU, wU]) a0_89 rfl) <| .s (.iload a0_91 rfl) <| .s (.iconst (4 : Int32) a0_93 rfl) <| .s (.iand a0_94) ?_
          refine .eq0 a0_95 (fun h95 => ?_) (fun h95 => ?_)
          · refine .s (.iconst (0 : Int32) a0_102 rfl) <| .s (.istore (L' := [wJ a, wS, wJ b, wS, wJ ts, wS, wI flags, wR 0, wR 3, wI 1, wI 0, wU, wU, wU, wU]) a0_103 rfl) <| .s (.iload a0_105 rfl) <| .s (.ifT a0_107 (by decide)) <| .s (.iload a0_189 rfl) <| .s (.bipush (8 : Int32) a0_191 rfl) <| .s (.iand a0_193) ?_
            refine .eq0 a0_194 (fun h194 => ?_) (fun h194 => ?_)
            · refine .s (.iload a0_211 rfl) <| .s (.ifF a0_213 (by decide)) <| .s (.aload a0_216 rfl rfl) ?_
              refine .callV (k := 0) (z := (⟨"com/example/chronogate/chronogate/Substream", "delivered", "()Z"⟩ : MethodName)) a0_218 (ok9 hw _ _ _ _) ⟨rfl, by decide⟩ (wd hw 71 rfl) (wd hw 72 rfl) (fun s hZ => notFace_of_selects (args := #[]) (mvT hZ (wd hw 74 rfl))) (wd hw 74 rfl) (wd hw 73 rfl) rfl (argsL := []) (S := []) (cdel1 hw _ _ ts y25 (-9223372036854775808 : Int64) ((0 : Int64) + (1 : Int64)) y35 _) rfl rfl rfl rfl rfl rfl (Nat.le_of_ble_eq_true rfl) (Nat.le_of_ble_eq_true rfl) ?_
              rintro _ _ _ ⟨⟨rfl, hD⟩ | ⟨rfl, hD⟩, rfl, rfl⟩
              · exact absurd rfl hD
              · clear hD
                show WGo _ (221, [wJ a, wS, wJ b, wS, wJ ts, wS, wI flags, wR 0, wR 3, wI 1, wI 0, wU, wU, wU, wU], [.int 0], [(.inr (cn0, [(fk0, .ref 1), (fk1, (.long y25)), (fk2, .long (-9223372036854775808)), (fk3, (.long y35)), (fk4, (.long ((0 : Int64) + (1 : Int64))))])), (.inr (cn1, [(fk5, .ref 2), (fk6, .int 1)])), (.inl ((.object "com/example/chronogate/chronogate/Event"), [.ref 3, .null, .null, .null, .null, .null, .null, .null])), (.inr (cn2, [(fk7, (.long ts)), (fk8, .ref 4), (fk9, .null), (fk10, .long 0)])), (.inr (cn3, [(fk11, .int 0), (fk12, .ref 1000)]))], 22) _
                refine .s (.iload a0_221 rfl) <| .s (.icmpF a0_223 (by decide)) <| .s (.iconst (1 : Int32) a0_226 rfl) <| .s (.goto a0_227) <| .s (.istore (L' := [wJ a, wS, wJ b, wS, wJ ts, wS, wI flags, wR 0, wR 3, wI 1, wI 0, wU, wU, wU, wU]) a0_231 rfl) <| .s (.iload a0_233 rfl) ?_
                refine .ireturn .boolean a0_235 rfl (by simp) ?_
                exact ⟨rfl, Nat.le_of_ble_eq_true rfl, Nat.le_of_ble_eq_true rfl⟩
            · refine .s (.aload a0_197 rfl rfl) <| .s (.aload a0_199 rfl rfl) ?_
              refine .callV (k := 0) (z := (⟨"com/example/chronogate/chronogate/Substream", "add", "(Lcom/example/chronogate/chronogate/Event;)V"⟩ : MethodName)) a0_201 (ok12 hw _ _ _ _) ⟨rfl, by decide⟩ (wd hw 85 rfl) (wd hw 86 rfl) (fun s hZ => notFace_of_selects (args := #[]) (mvT hZ (wd hw 88 rfl))) (wd hw 88 rfl) (wd hw 87 rfl) rfl (argsL := [.ref 3]) (S := []) (cadd1 hw _ _ hS hn ts y25 (-9223372036854775808 : Int64) ((0 : Int64) + (1 : Int64)) y35 _) rfl rfl rfl rfl rfl rfl (Nat.le_of_ble_eq_true rfl) (Nat.le_of_ble_eq_true rfl) ?_
              rintro _ _ _ ⟨y36, rfl, rfl, rfl⟩
              show WGo _ (204, [wJ a, wS, wJ b, wS, wJ ts, wS, wI flags, wR 0, wR 3, wI 1, wI 0, wU, wU, wU, wU], [], [(.inr (cn0, [(fk0, .ref 1), (fk1, (.long y36)), (fk2, .long (-9223372036854775808)), (fk3, (.long y35)), (fk4, (.long (((0 : Int64) + (1 : Int64)) + (1 : Int64))))])), (.inr (cn1, [(fk5, .ref 2), (fk6, .int 2)])), (.inl ((.object "com/example/chronogate/chronogate/Event"), [.ref 3, .ref 3, .null, .null, .null, .null, .null, .null])), (.inr (cn2, [(fk7, (.long ts)), (fk8, .ref 4), (fk9, .null), (fk10, .long 0)])), (.inr (cn3, [(fk11, .int 0), (fk12, .ref 1000)]))], 22) _
              refine .s (.aload a0_204 rfl rfl) <| .s (.lload a0_206 rfl) ?_
              refine .callV (k := 0) (z := (⟨"com/example/chronogate/chronogate/Substream", "punctuate", "(J)V"⟩ : MethodName)) a0_208 (ok10 hw _ _ _ _) ⟨rfl, by decide⟩ (wd hw 76 rfl) (wd hw 77 rfl) (fun s hZ => notFace_of_selects (args := #[]) (mvT hZ (wd hw 79 rfl))) (wd hw 79 rfl) (wd hw 78 rfl) rfl (argsL := [(.long ts)]) (S := []) (cpun2 hw _ _ ts ts y36 (-9223372036854775808 : Int64) (((0 : Int64) + (1 : Int64)) + (1 : Int64)) y35 _) rfl rfl rfl rfl rfl rfl (Nat.le_of_ble_eq_true rfl) (Nat.le_of_ble_eq_true rfl) ?_
              rintro _ _ _ ⟨y37, rfl, rfl, rfl⟩
              show WGo _ (211, [wJ a, wS, wJ b, wS, wJ ts, wS, wI flags, wR 0, wR 3, wI 1, wI 0, wU, wU, wU, wU], [], [(.inr (cn0, [(fk0, .ref 1), (fk1, (.long y36)), (fk2, .long (-9223372036854775808)), (fk3, (.long y37)), (fk4, (.long (((0 : Int64) + (1 : Int64)) + (1 : Int64))))])), (.inr (cn1, [(fk5, .ref 2), (fk6, .int 2)])), (.inl ((.object "com/example/chronogate/chronogate/Event"), [.ref 3, .ref 3, .null, .null, .null, .null, .null, .null])), (.inr (cn2, [(fk7, (.long ts)), (fk8, .ref 4), (fk9, .null), (fk10, .long 0)])), (.inr (cn3, [(fk11, .int 0), (fk12, .ref 1000)]))], 22) _
              refine .s (.iload a0_211 rfl) <| .s (.ifF a0_213 (by decide)) <| .s (.aload a0_216 rfl rfl) ?_
              refine .callV (k := 0) (z := (⟨"com/example/chronogate/chronogate/Substream", "delivered", "()Z"⟩ : MethodName)) a0_218 (ok9 hw _ _ _ _) ⟨rfl, by decide⟩ (wd hw 71 rfl) (wd hw 72 rfl) (fun s hZ => notFace_of_selects (args := #[]) (mvT hZ (wd hw 74 rfl))) (wd hw 74 rfl) (wd hw 73 rfl) rfl (argsL := []) (S := []) (cdel2 hw _ _ ts y36 (-9223372036854775808 : Int64) (((0 : Int64) + (1 : Int64)) + (1 : Int64)) y37 _) rfl rfl rfl rfl rfl rfl (Nat.le_of_ble_eq_true rfl) (Nat.le_of_ble_eq_true rfl) ?_
              rintro _ _ _ ⟨⟨rfl, hD⟩ | ⟨rfl, hD⟩, rfl, rfl⟩
              · exact absurd rfl hD
              · clear hD
                show WGo _ (221, [wJ a, wS, wJ b, wS, wJ ts, wS, wI flags, wR 0, wR 3, wI 1, wI 0, wU, wU, wU, wU], [.int 0], [(.inr (cn0, [(fk0, .ref 1), (fk1, (.long y36)), (fk2, .long (-9223372036854775808)), (fk3, (.long y37)), (fk4, (.long (((0 : Int64) + (1 : Int64)) + (1 : Int64))))])), (.inr (cn1, [(fk5, .ref 2), (fk6, .int 2)])), (.inl ((.object "com/example/chronogate/chronogate/Event"), [.ref 3, .ref 3, .null, .null, .null, .null, .null, .null])), (.inr (cn2, [(fk7, (.long ts)), (fk8, .ref 4), (fk9, .null), (fk10, .long 0)])), (.inr (cn3, [(fk11, .int 0), (fk12, .ref 1000)]))], 22) _
                refine .s (.iload a0_221 rfl) <| .s (.icmpF a0_223 (by decide)) <| .s (.iconst (1 : Int32) a0_226 rfl) <| .s (.goto a0_227) <| .s (.istore (L' := [wJ a, wS, wJ b, wS, wJ ts, wS, wI flags, wR 0, wR 3, wI 1, wI 0, wU, wU, wU, wU]) a0_231 rfl) <| .s (.iload a0_233 rfl) ?_
                refine .ireturn .boolean a0_235 rfl (by simp) ?_
                exact ⟨rfl, Nat.le_of_ble_eq_true rfl, Nat.le_of_ble_eq_true rfl⟩
          · refine .s (.iconst (1 : Int32) a0_98 rfl) <| .s (.goto a0_99) <| .s (.istore (L' := [wJ a, wS, wJ b, wS, wJ ts, wS, wI flags, wR 0, wR 3, wI 1, wI 1, wU, wU, wU, wU]) a0_103 rfl) <| .s (.iload a0_105 rfl) <| .s (.ifF a0_107 (by decide)) <| .s (.lloadN a0_110 rfl) ?_
            refine .callS a0_111 (ok15 hw _ _ _ _) (wd hw 105 rfl) (wd hw 106 rfl) (argsL := [(.long a)]) (S := []) (crng hw _ _ a _ _) rfl rfl rfl rfl rfl rfl (Nat.le_of_ble_eq_true rfl) (Nat.le_of_ble_eq_true rfl) ?_
            rintro _ _ _ ⟨⟨r38, rfl, hr38⟩, rfl, rfl⟩
            show WGo _ (114, [wJ a, wS, wJ b, wS, wJ ts, wS, wI flags, wR 0, wR 3, wI 1, wI 1, wU, wU, wU, wU], [(.long r38)], [(.inr (cn0, [(fk0, .ref 1), (fk1, (.long y25)), (fk2, .long (-9223372036854775808)), (fk3, (.long y35)), (fk4, (.long ((0 : Int64) + (1 : Int64))))])), (.inr (cn1, [(fk5, .ref 2), (fk6, .int 1)])), (.inl ((.object "com/example/chronogate/chronogate/Event"), [.ref 3, .null, .null, .null, .null, .null, .null, .null])), (.inr (cn2, [(fk7, (.long ts)), (fk8, .ref 4), (fk9, .null), (fk10, .long 0)])), (.inr (cn3, [(fk11, .int 0), (fk12, .ref 1000)]))], 22) _
            refine .s (.lstore (L' := [wJ a, wS, wJ b, wS, wJ ts, wS, wI flags, wR 0, wR 3, wI 1, wI 1, wJ r38, wS, wU, wU]) a0_114 rfl) <| .s (.aload a0_116 rfl rfl) <| .s (.lload a0_118 rfl) ?_
            refine .callV (k := 0) (z := (⟨"com/example/chronogate/chronogate/Substream", "arrive", "(J)V"⟩ : MethodName)) a0_120 (ok16 hw _ _ _ _) ⟨rfl, by decide⟩ (wd hw 112 rfl) (wd hw 113 rfl) (fun s hZ => notFace_of_selects (args := #[]) (mvT hZ (wd hw 115 rfl))) (wd hw 115 rfl) (wd hw 114 rfl) rfl (argsL := [(.long r38)]) (S := []) (carr1 hw _ _ r38 ts y25 (-9223372036854775808 : Int64) ((0 : Int64) + (1 : Int64)) y35 _) rfl rfl rfl rfl rfl rfl (Nat.le_of_ble_eq_true rfl) (Nat.le_of_ble_eq_true rfl) ?_
            rintro _ _ _ ⟨rfl, rfl, rfl⟩
            show WGo _ (123, [wJ a, wS, wJ b, wS, wJ ts, wS, wI flags, wR 0, wR 3, wI 1, wI 1, wJ r38, wS, wU, wU], [], [(.inr (cn0, [(fk0, .ref 1), (fk1, (.long y25)), (fk2, (.long r38)), (fk3, (.long y35)), (fk4, (.long ((0 : Int64) + (1 : Int64))))])), (.inr (cn1, [(fk5, .ref 2), (fk6, .int 1)])), (.inl ((.object "com/example/chronogate/chronogate/Event"), [.ref 3, .null, .null, .null, .null, .null, .null, .null])), (.inr (cn2, [(fk7, (.long ts)), (fk8, .ref 4), (fk9, .null), (fk10, .long 0)])), (.inr (cn3, [(fk11, .int 0), (fk12, .ref 1000)]))], 22) _
            refine .s (.iload a0_123 rfl) <| .s (.ifF a0_125 (by decide)) <| .s (.aload a0_128 rfl rfl) ?_
            refine .callV (k := 0) (z := (⟨"com/example/chronogate/chronogate/Substream", "delivered", "()Z"⟩ : MethodName)) a0_130 (ok9 hw _ _ _ _) ⟨rfl, by decide⟩ (wd hw 71 rfl) (wd hw 72 rfl) (fun s hZ => notFace_of_selects (args := #[]) (mvT hZ (wd hw 74 rfl))) (wd hw 74 rfl) (wd hw 73 rfl) rfl (argsL := []) (S := []) (cdel1 hw _ _ ts y25 r38 ((0 : Int64) + (1 : Int64)) y35 _) rfl rfl rfl rfl rfl rfl (Nat.le_of_ble_eq_true rfl) (Nat.le_of_ble_eq_true rfl) ?_
            rintro _ _ _ ⟨⟨rfl, hD⟩ | ⟨rfl, hD⟩, rfl, rfl⟩
            · clear hD
              show WGo _ (133, [wJ a, wS, wJ b, wS, wJ ts, wS, wI flags, wR 0, wR 3, wI 1, wI 1, wJ r38, wS, wU, wU], [.int 1], [(.inr (cn0, [(fk0, .ref 1), (fk1, (.long y25)), (fk2, (.long r38)), (fk3, (.long y35)), (fk4, (.long ((0 : Int64) + (1 : Int64))))])), (.inr (cn1, [(fk5, .ref 2), (fk6, .int 1)])), (.inl ((.object "com/example/chronogate/chronogate/Event"), [.ref 3, .null, .null, .null, .null, .null, .null, .null])), (.inr (cn2, [(fk7, (.long ts)), (fk8, .ref 4), (fk9, .null), (fk10, .long 0)])), (.inr (cn3, [(fk11, .int 0), (fk12, .ref 1000)]))], 22) _
              refine .s (.ifF a0_133 (by decide)) <| .s (.iconst (1 : Int32) a0_136 rfl) <| .s (.goto a0_137) <| .s (.istore (L' := [wJ a, wS, wJ b, wS, wJ ts, wS, wI flags, wR 0, wR 3, wI 1, wI 1, wJ r38, wS, wU, wU]) a0_141 rfl) <| .s (.iload a0_143 rfl) <| .s (.bipush (16 : Int32) a0_145 rfl) <| .s (.iand a0_147) ?_
              refine .eq0 a0_148 (fun h148 => ?_) (fun h148 => ?_)
              · refine .s (.iload a0_189 rfl) <| .s (.bipush (8 : Int32) a0_191 rfl) <| .s (.iand a0_193) ?_
                refine .eq0 a0_194 (fun h194 => ?_) (fun h194 => ?_)
                · refine .s (.iload a0_211 rfl) <| .s (.ifF a0_213 (by decide)) <| .s (.aload a0_216 rfl rfl) ?_
                  refine .callV (k := 0) (z := (⟨"com/example/chronogate/chronogate/Substream", "delivered", "()Z"⟩ : MethodName)) a0_218 (ok9 hw _ _ _ _) ⟨rfl, by decide⟩ (wd hw 71 rfl) (wd hw 72 rfl) (fun s hZ => notFace_of_selects (args := #[]) (mvT hZ (wd hw 74 rfl))) (wd hw 74 rfl) (wd hw 73 rfl) rfl (argsL := []) (S := []) (cdel1 hw _ _ ts y25 r38 ((0 : Int64) + (1 : Int64)) y35 _) rfl rfl rfl rfl rfl rfl (Nat.le_of_ble_eq_true rfl) (Nat.le_of_ble_eq_true rfl) ?_
                  rintro _ _ _ ⟨⟨rfl, hD⟩ | ⟨rfl, hD⟩, rfl, rfl⟩
                  · clear hD
                    show WGo _ (221, [wJ a, wS, wJ b, wS, wJ ts, wS, wI flags, wR 0, wR 3, wI 1, wI 1, wJ r38, wS, wU, wU], [.int 1], [(.inr (cn0, [(fk0, .ref 1), (fk1, (.long y25)), (fk2, (.long r38)), (fk3, (.long y35)), (fk4, (.long ((0 : Int64) + (1 : Int64))))])), (.inr (cn1, [(fk5, .ref 2), (fk6, .int 1)])), (.inl ((.object "com/example/chronogate/chronogate/Event"), [.ref 3, .null, .null, .null, .null, .null, .null, .null])), (.inr (cn2, [(fk7, (.long ts)), (fk8, .ref 4), (fk9, .null), (fk10, .long 0)])), (.inr (cn3, [(fk11, .int 0), (fk12, .ref 1000)]))], 22) _
                    refine .s (.iload a0_221 rfl) <| .s (.icmpF a0_223 (by decide)) <| .s (.iconst (1 : Int32) a0_226 rfl) <| .s (.goto a0_227) <| .s (.istore (L' := [wJ a, wS, wJ b, wS, wJ ts, wS, wI flags, wR 0, wR 3, wI 1, wI 1, wJ r38, wS, wU, wU]) a0_231 rfl) <| .s (.iload a0_233 rfl) ?_
                    refine .ireturn .boolean a0_235 rfl (by simp) ?_
                    exact ⟨rfl, Nat.le_of_ble_eq_true rfl, Nat.le_of_ble_eq_true rfl⟩
                  · exact absurd hr38 hD
                · refine .s (.aload a0_197 rfl rfl) <| .s (.aload a0_199 rfl rfl) ?_
                  refine .callV (k := 0) (z := (⟨"com/example/chronogate/chronogate/Substream", "add", "(Lcom/example/chronogate/chronogate/Event;)V"⟩ : MethodName)) a0_201 (ok12 hw _ _ _ _) ⟨rfl, by decide⟩ (wd hw 85 rfl) (wd hw 86 rfl) (fun s hZ => notFace_of_selects (args := #[]) (mvT hZ (wd hw 88 rfl))) (wd hw 88 rfl) (wd hw 87 rfl) rfl (argsL := [.ref 3]) (S := []) (cadd1 hw _ _ hS hn ts y25 r38 ((0 : Int64) + (1 : Int64)) y35 _) rfl rfl rfl rfl rfl rfl (Nat.le_of_ble_eq_true rfl) (Nat.le_of_ble_eq_true rfl) ?_
                  rintro _ _ _ ⟨y39, rfl, rfl, rfl⟩
                  show WGo _ (204, [wJ a, wS, wJ b, wS, wJ ts, wS, wI flags, wR 0, wR 3, wI 1, wI 1, wJ r38, wS, wU, wU], [], [(.inr (cn0, [(fk0, .ref 1), (fk1, (.long y39)), (fk2, (.long r38)), (fk3, (.long y35)), (fk4, (.long (((0 : Int64) + (1 : Int64)) + (1 : Int64))))])), (.inr (cn1, [(fk5, .ref 2), (fk6, .int 2)])), (.inl ((.object "com/example/chronogate/chronogate/Event"), [.ref 3, .ref 3, .null, .null, .null, .null, .null, .null])), (.inr (cn2, [(fk7, (.long ts)), (fk8, .ref 4), (fk9, .null), (fk10, .long 0)])), (.inr (cn3, [(fk11, .int 0), (fk12, .ref 1000)]))], 22) _
                  refine .s (.aload a0_204 rfl rfl) <| .s (.lload a0_206 rfl) ?_
                  refine .callV (k := 0) (z := (⟨"com/example/chronogate/chronogate/Substream", "punctuate", "(J)V"⟩ : MethodName)) a0_208 (ok10 hw _ _ _ _) ⟨rfl, by decide⟩ (wd hw 76 rfl) (wd hw 77 rfl) (fun s hZ => notFace_of_selects (args := #[]) (mvT hZ (wd hw 79 rfl))) (wd hw 79 rfl) (wd hw 78 rfl) rfl (argsL := [(.long ts)]) (S := []) (cpun2 hw _ _ ts ts y39 r38 (((0 : Int64) + (1 : Int64)) + (1 : Int64)) y35 _) rfl rfl rfl rfl rfl rfl (Nat.le_of_ble_eq_true rfl) (Nat.le_of_ble_eq_true rfl) ?_
                  rintro _ _ _ ⟨y40, rfl, rfl, rfl⟩
                  show WGo _ (211, [wJ a, wS, wJ b, wS, wJ ts, wS, wI flags, wR 0, wR 3, wI 1, wI 1, wJ r38, wS, wU, wU], [], [(.inr (cn0, [(fk0, .ref 1), (fk1, (.long y39)), (fk2, (.long r38)), (fk3, (.long y40)), (fk4, (.long (((0 : Int64) + (1 : Int64)) + (1 : Int64))))])), (.inr (cn1, [(fk5, .ref 2), (fk6, .int 2)])), (.inl ((.object "com/example/chronogate/chronogate/Event"), [.ref 3, .ref 3, .null, .null, .null, .null, .null, .null])), (.inr (cn2, [(fk7, (.long ts)), (fk8, .ref 4), (fk9, .null), (fk10, .long 0)])), (.inr (cn3, [(fk11, .int 0), (fk12, .ref 1000)]))], 22) _
                  refine .s (.iload a0_211 rfl) <| .s (.ifF a0_213 (by decide)) <| .s (.aload a0_216 rfl rfl) ?_
                  refine .callV (k := 0) (z := (⟨"com/example/chronogate/chronogate/Substream", "delivered", "()Z"⟩ : MethodName)) a0_218 (ok9 hw _ _ _ _) ⟨rfl, by decide⟩ (wd hw 71 rfl) (wd hw 72 rfl) (fun s hZ => notFace_of_selects (args := #[]) (mvT hZ (wd hw 74 rfl))) (wd hw 74 rfl) (wd hw 73 rfl) rfl (argsL := []) (S := []) (cdel2 hw _ _ ts y39 r38 (((0 : Int64) + (1 : Int64)) + (1 : Int64)) y40 _) rfl rfl rfl rfl rfl rfl (Nat.le_of_ble_eq_true rfl) (Nat.le_of_ble_eq_true rfl) ?_
                  rintro _ _ _ ⟨⟨rfl, hD⟩ | ⟨rfl, hD⟩, rfl, rfl⟩
                  · clear hD
                    show WGo _ (221, [wJ a, wS, wJ b, wS, wJ ts, wS, wI flags, wR 0, wR 3, wI 1, wI 1, wJ r38, wS, wU, wU], [.int 1], [(.inr (cn0, [(fk0, .ref 1), (fk1, (.long y39)), (fk2, (.long r38)), (fk3, (.long y40)), (fk4, (.long (((0 : Int64) + (1 : Int64)) + (1 : Int64))))])), (.inr (cn1, [(fk5, .ref 2), (fk6, .int 2)])), (.inl ((.object "com/example/chronogate/chronogate/Event"), [.ref 3, .ref 3, .null, .null, .null, .null, .null, .null])), (.inr (cn2, [(fk7, (.long ts)), (fk8, .ref 4), (fk9, .null), (fk10, .long 0)])), (.inr (cn3, [(fk11, .int 0), (fk12, .ref 1000)]))], 22) _
                    refine .s (.iload a0_221 rfl) <| .s (.icmpF a0_223 (by decide)) <| .s (.iconst (1 : Int32) a0_226 rfl) <| .s (.goto a0_227) <| .s (.istore (L' := [wJ a, wS, wJ b, wS, wJ ts, wS, wI flags, wR 0, wR 3, wI 1, wI 1, wJ r38, wS, wU, wU]) a0_231 rfl) <| .s (.iload a0_233 rfl) ?_
                    refine .ireturn .boolean a0_235 rfl (by simp) ?_
                    exact ⟨rfl, Nat.le_of_ble_eq_true rfl, Nat.le_of_ble_eq_true rfl⟩
                  · exact absurd hr38 hD
              · refine .s (.lload a0_151 rfl) <| .s (.lloadN a0_153 rfl) ?_
                refine .callS a0_154 (ok15 hw _ _ _ _) (wd hw 105 rfl) (wd hw 106 rfl) (argsL := [(.long b)]) (S := [(.long r38)]) (crng hw _ _ b _ _) rfl rfl rfl rfl rfl rfl (Nat.le_of_ble_eq_true rfl) (Nat.le_of_ble_eq_true rfl) ?_
                rintro _ _ _ ⟨⟨r41, rfl, hr41⟩, rfl, rfl⟩
                show WGo _ (157, [wJ a, wS, wJ b, wS, wJ ts, wS, wI flags, wR 0, wR 3, wI 1, wI 1, wJ r38, wS, wU, wU], [(.long r41), (.long r38)], [(.inr (cn0, [(fk0, .ref 1), (fk1, (.long y25)), (fk2, (.long r38)), (fk3, (.long y35)), (fk4, (.long ((0 : Int64) + (1 : Int64))))])), (.inr (cn1, [(fk5, .ref 2), (fk6, .int 1)])), (.inl ((.object "com/example/chronogate/chronogate/Event"), [.ref 3, .null, .null, .null, .null, .null, .null, .null])), (.inr (cn2, [(fk7, (.long ts)), (fk8, .ref 4), (fk9, .null), (fk10, .long 0)])), (.inr (cn3, [(fk11, .int 0), (fk12, .ref 1000)]))], 22) _
                refine .callS a0_157 (ok11 hw _ _ _ _) (wd hw 117 rfl) (wd hw 82 rfl) (argsL := [(.long r38), (.long r41)]) (S := []) (cmax hw _ _ r38 r41 _ _) rfl rfl rfl rfl rfl rfl (Nat.le_of_ble_eq_true rfl) (Nat.le_of_ble_eq_true rfl) ?_
                rintro _ _ _ ⟨⟨z42, rfl, hz42⟩, rfl, rfl⟩; have hm42 : ¬ z42 = (-9223372036854775808 : Int64) := by rcases hz42 with rfl | rfl <;> assumption
                show WGo _ (160, [wJ a, wS, wJ b, wS, wJ ts, wS, wI flags, wR 0, wR 3, wI 1, wI 1, wJ r38, wS, wU, wU], [(.long z42)], [(.inr (cn0, [(fk0, .ref 1), (fk1, (.long y25)), (fk2, (.long r38)), (fk3, (.long y35)), (fk4, (.long ((0 : Int64) + (1 : Int64))))])), (.inr (cn1, [(fk5, .ref 2), (fk6, .int 1)])), (.inl ((.object "com/example/chronogate/chronogate/Event"), [.ref 3, .null, .null, .null, .null, .null, .null, .null])), (.inr (cn2, [(fk7, (.long ts)), (fk8, .ref 4), (fk9, .null), (fk10, .long 0)])), (.inr (cn3, [(fk11, .int 0), (fk12, .ref 1000)]))], 22) _
                refine .s (.lstore (L' := [wJ a, wS, wJ b, wS, wJ ts, wS, wI flags, wR 0, wR 3, wI 1, wI 1, wJ r38, wS, wJ z42, wS]) a0_160 rfl) <| .s (.aload a0_162 rfl rfl) <| .s (.lload a0_164 rfl) ?_
                refine .callV (k := 0) (z := (⟨"com/example/chronogate/chronogate/Substream", "arrive", "(J)V"⟩ : MethodName)) a0_166 (ok16 hw _ _ _ _) ⟨rfl, by decide⟩ (wd hw 112 rfl) (wd hw 113 rfl) (fun s hZ => notFace_of_selects (args := #[]) (mvT hZ (wd hw 115 rfl))) (wd hw 115 rfl) (wd hw 114 rfl) rfl (argsL := [(.long z42)]) (S := []) (carr1 hw _ _ z42 ts y25 r38 ((0 : Int64) + (1 : Int64)) y35 _) rfl rfl rfl rfl rfl rfl (Nat.le_of_ble_eq_true rfl) (Nat.le_of_ble_eq_true rfl) ?_
                rintro _ _ _ ⟨rfl, rfl, rfl⟩
                show WGo _ (169, [wJ a, wS, wJ b, wS, wJ ts, wS, wI flags, wR 0, wR 3, wI 1, wI 1, wJ r38, wS, wJ z42, wS], [], [(.inr (cn0, [(fk0, .ref 1), (fk1, (.long y25)), (fk2, (.long z42)), (fk3, (.long y35)), (fk4, (.long ((0 : Int64) + (1 : Int64))))])), (.inr (cn1, [(fk5, .ref 2), (fk6, .int 1)])), (.inl ((.object "com/example/chronogate/chronogate/Event"), [.ref 3, .null, .null, .null, .null, .null, .null, .null])), (.inr (cn2, [(fk7, (.long ts)), (fk8, .ref 4), (fk9, .null), (fk10, .long 0)])), (.inr (cn3, [(fk11, .int 0), (fk12, .ref 1000)]))], 22) _
                refine .s (.iload a0_169 rfl) <| .s (.ifF a0_171 (by decide)) <| .s (.aload a0_174 rfl rfl) ?_
                refine .callV (k := 0) (z := (⟨"com/example/chronogate/chronogate/Substream", "delivered", "()Z"⟩ : MethodName)) a0_176 (ok9 hw _ _ _ _) ⟨rfl, by decide⟩ (wd hw 71 rfl) (wd hw 72 rfl) (fun s hZ => notFace_of_selects (args := #[]) (mvT hZ (wd hw 74 rfl))) (wd hw 74 rfl) (wd hw 73 rfl) rfl (argsL := []) (S := []) (cdel1 hw _ _ ts y25 z42 ((0 : Int64) + (1 : Int64)) y35 _) rfl rfl rfl rfl rfl rfl (Nat.le_of_ble_eq_true rfl) (Nat.le_of_ble_eq_true rfl) ?_
                rintro _ _ _ ⟨⟨rfl, hD⟩ | ⟨rfl, hD⟩, rfl, rfl⟩
                · clear hD
                  show WGo _ (179, [wJ a, wS, wJ b, wS, wJ ts, wS, wI flags, wR 0, wR 3, wI 1, wI 1, wJ r38, wS, wJ z42, wS], [.int 1], [(.inr (cn0, [(fk0, .ref 1), (fk1, (.long y25)), (fk2, (.long z42)), (fk3, (.long y35)), (fk4, (.long ((0 : Int64) + (1 : Int64))))])), (.inr (cn1, [(fk5, .ref 2), (fk6, .int 1)])), (.inl ((.object "com/example/chronogate/chronogate/Event"), [.ref 3, .null, .null, .null, .null, .null, .null, .null])), (.inr (cn2, [(fk7, (.long ts)), (fk8, .ref 4), (fk9, .null), (fk10, .long 0)])), (.inr (cn3, [(fk11, .int 0), (fk12, .ref 1000)]))], 22) _
                  refine .s (.ifF a0_179 (by decide)) <| .s (.iconst (1 : Int32) a0_182 rfl) <| .s (.goto a0_183) <| .s (.istore (L' := [wJ a, wS, wJ b, wS, wJ ts, wS, wI flags, wR 0, wR 3, wI 1, wI 1, wJ r38, wS, wJ z42, wS]) a0_187 rfl) <| .s (.iload a0_189 rfl) <| .s (.bipush (8 : Int32) a0_191 rfl) <| .s (.iand a0_193) ?_
                  refine .eq0 a0_194 (fun h194 => ?_) (fun h194 => ?_)
                  · refine .s (.iload a0_211 rfl) <| .s (.ifF a0_213 (by decide)) <| .s (.aload a0_216 rfl rfl) ?_
                    refine .callV (k := 0) (z := (⟨"com/example/chronogate/chronogate/Substream", "delivered", "()Z"⟩ : MethodName)) a0_218 (ok9 hw _ _ _ _) ⟨rfl, by decide⟩ (wd hw 71 rfl) (wd hw 72 rfl) (fun s hZ => notFace_of_selects (args := #[]) (mvT hZ (wd hw 74 rfl))) (wd hw 74 rfl) (wd hw 73 rfl) rfl (argsL := []) (S := []) (cdel1 hw _ _ ts y25 z42 ((0 : Int64) + (1 : Int64)) y35 _) rfl rfl rfl rfl rfl rfl (Nat.le_of_ble_eq_true rfl) (Nat.le_of_ble_eq_true rfl) ?_
                    rintro _ _ _ ⟨⟨rfl, hD⟩ | ⟨rfl, hD⟩, rfl, rfl⟩
                    · clear hD
                      show WGo _ (221, [wJ a, wS, wJ b, wS, wJ ts, wS, wI flags, wR 0, wR 3, wI 1, wI 1, wJ r38, wS, wJ z42, wS], [.int 1], [(.inr (cn0, [(fk0, .ref 1), (fk1, (.long y25)), (fk2, (.long z42)), (fk3, (.long y35)), (fk4, (.long ((0 : Int64) + (1 : Int64))))])), (.inr (cn1, [(fk5, .ref 2), (fk6, .int 1)])), (.inl ((.object "com/example/chronogate/chronogate/Event"), [.ref 3, .null, .null, .null, .null, .null, .null, .null])), (.inr (cn2, [(fk7, (.long ts)), (fk8, .ref 4), (fk9, .null), (fk10, .long 0)])), (.inr (cn3, [(fk11, .int 0), (fk12, .ref 1000)]))], 22) _
                      refine .s (.iload a0_221 rfl) <| .s (.icmpF a0_223 (by decide)) <| .s (.iconst (1 : Int32) a0_226 rfl) <| .s (.goto a0_227) <| .s (.istore (L' := [wJ a, wS, wJ b, wS, wJ ts, wS, wI flags, wR 0, wR 3, wI 1, wI 1, wJ r38, wS, wJ z42, wS]) a0_231 rfl) <| .s (.iload a0_233 rfl) ?_
                      refine .ireturn .boolean a0_235 rfl (by simp) ?_
                      exact ⟨rfl, Nat.le_of_ble_eq_true rfl, Nat.le_of_ble_eq_true rfl⟩
                    · exact absurd hm42 hD
                  · refine .s (.aload a0_197 rfl rfl) <| .s (.aload a0_199 rfl rfl) ?_
                    refine .callV (k := 0) (z := (⟨"com/example/chronogate/chronogate/Substream", "add", "(Lcom/example/chronogate/chronogate/Event;)V"⟩ : MethodName)) a0_201 (ok12 hw _ _ _ _) ⟨rfl, by decide⟩ (wd hw 85 rfl) (wd hw 86 rfl) (fun s hZ => notFace_of_selects (args := #[]) (mvT hZ (wd hw 88 rfl))) (wd hw 88 rfl) (wd hw 87 rfl) rfl (argsL := [.ref 3]) (S := []) (cadd1 hw _ _ hS hn ts y25 z42 ((0 : Int64) + (1 : Int64)) y35 _) rfl rfl rfl rfl rfl rfl (Nat.le_of_ble_eq_true rfl) (Nat.le_of_ble_eq_true rfl) ?_
                    rintro _ _ _ ⟨y43, rfl, rfl, rfl⟩
                    show WGo _ (204, [wJ a, wS, wJ b, wS, wJ ts, wS, wI flags, wR 0, wR 3, wI 1, wI 1, wJ r38, wS, wJ z42, wS], [], [(.inr (cn0, [(fk0, .ref 1), (fk1, (.long y43)), (fk2, (.long z42)), (fk3, (.long y35)), (fk4, (.long (((0 : Int64) + (1 : Int64)) + (1 : Int64))))])), (.inr (cn1, [(fk5, .ref 2), (fk6, .int 2)])), (.inl ((.object "com/example/chronogate/chronogate/Event"), [.ref 3, .ref 3, .null, .null, .null, .null, .null, .null])), (.inr (cn2, [(fk7, (.long ts)), (fk8, .ref 4), (fk9, .null), (fk10, .long 0)])), (.inr (cn3, [(fk11, .int 0), (fk12, .ref 1000)]))], 22) _
                    refine .s (.aload a0_204 rfl rfl) <| .s (.lload a0_206 rfl) ?_
                    refine .callV (k := 0) (z := (⟨"com/example/chronogate/chronogate/Substream", "punctuate", "(J)V"⟩ : MethodName)) a0_208 (ok10 hw _ _ _ _) ⟨rfl, by decide⟩ (wd hw 76 rfl) (wd hw 77 rfl) (fun s hZ => notFace_of_selects (args := #[]) (mvT hZ (wd hw 79 rfl))) (wd hw 79 rfl) (wd hw 78 rfl) rfl (argsL := [(.long ts)]) (S := []) (cpun2 hw _ _ ts ts y43 z42 (((0 : Int64) + (1 : Int64)) + (1 : Int64)) y35 _) rfl rfl rfl rfl rfl rfl (Nat.le_of_ble_eq_true rfl) (Nat.le_of_ble_eq_true rfl) ?_
                    rintro _ _ _ ⟨y44, rfl, rfl, rfl⟩
                    show WGo _ (211, [wJ a, wS, wJ b, wS, wJ ts, wS, wI flags, wR 0, wR 3, wI 1, wI 1, wJ r38, wS, wJ z42, wS], [], [(.inr (cn0, [(fk0, .ref 1), (fk1, (.long y43)), (fk2, (.long z42)), (fk3, (.long y44)), (fk4, (.long (((0 : Int64) + (1 : Int64)) + (1 : Int64))))])), (.inr (cn1, [(fk5, .ref 2), (fk6, .int 2)])), (.inl ((.object "com/example/chronogate/chronogate/Event"), [.ref 3, .ref 3, .null, .null, .null, .null, .null, .null])), (.inr (cn2, [(fk7, (.long ts)), (fk8, .ref 4), (fk9, .null), (fk10, .long 0)])), (.inr (cn3, [(fk11, .int 0), (fk12, .ref 1000)]))], 22) _
                    refine .s (.iload a0_211 rfl) <| .s (.ifF a0_213 (by decide)) <| .s (.aload a0_216 rfl rfl) ?_
                    refine .callV (k := 0) (z := (⟨"com/example/chronogate/chronogate/Substream", "delivered", "()Z"⟩ : MethodName)) a0_218 (ok9 hw _ _ _ _) ⟨rfl, by decide⟩ (wd hw 71 rfl) (wd hw 72 rfl) (fun s hZ => notFace_of_selects (args := #[]) (mvT hZ (wd hw 74 rfl))) (wd hw 74 rfl) (wd hw 73 rfl) rfl (argsL := []) (S := []) (cdel2 hw _ _ ts y43 z42 (((0 : Int64) + (1 : Int64)) + (1 : Int64)) y44 _) rfl rfl rfl rfl rfl rfl (Nat.le_of_ble_eq_true rfl) (Nat.le_of_ble_eq_true rfl) ?_
                    rintro _ _ _ ⟨⟨rfl, hD⟩ | ⟨rfl, hD⟩, rfl, rfl⟩
                    · clear hD
                      show WGo _ (221, [wJ a, wS, wJ b, wS, wJ ts, wS, wI flags, wR 0, wR 3, wI 1, wI 1, wJ r38, wS, wJ z42, wS], [.int 1], [(.inr (cn0, [(fk0, .ref 1), (fk1, (.long y43)), (fk2, (.long z42)), (fk3, (.long y44)), (fk4, (.long (((0 : Int64) + (1 : Int64)) + (1 : Int64))))])), (.inr (cn1, [(fk5, .ref 2), (fk6, .int 2)])), (.inl ((.object "com/example/chronogate/chronogate/Event"), [.ref 3, .ref 3, .null, .null, .null, .null, .null, .null])), (.inr (cn2, [(fk7, (.long ts)), (fk8, .ref 4), (fk9, .null), (fk10, .long 0)])), (.inr (cn3, [(fk11, .int 0), (fk12, .ref 1000)]))], 22) _
                      refine .s (.iload a0_221 rfl) <| .s (.icmpF a0_223 (by decide)) <| .s (.iconst (1 : Int32) a0_226 rfl) <| .s (.goto a0_227) <| .s (.istore (L' := [wJ a, wS, wJ b, wS, wJ ts, wS, wI flags, wR 0, wR 3, wI 1, wI 1, wJ r38, wS, wJ z42, wS]) a0_231 rfl) <| .s (.iload a0_233 rfl) ?_
                      refine .ireturn .boolean a0_235 rfl (by simp) ?_
                      exact ⟨rfl, Nat.le_of_ble_eq_true rfl, Nat.le_of_ble_eq_true rfl⟩
                    · exact absurd hm42 hD
                · exact absurd hm42 hD
            · exact absurd hr38 hD
theorem rho_inj (xx n : Nat) (hlt : xx < n) : ∀ i j : Nat, (if i = 1000 then xx else n + i) = (if j = 1000 then xx else n + j) → i = j := fun i j h' => by
  by_cases hi : i = 1000 <;> by_cases hj : j = 1000
  · rw [hi, hj]
  · rw [if_pos hi, if_neg hj] at h'; omega
  · rw [if_neg hi, if_pos hj] at h'; omega
  · rw [if_neg hi, if_neg hj] at h'; omega
theorem plx : plainFor x = true := plainFor_of_name (by first | (simp [plainName, overriddenIn, x]; done) | decide +kernel)
set_option maxRecDepth 65536 in
set_option maxHeartbeats 40000000 in
theorem comes_1 {Post : Tables → Env → Array Value → State → Outcome → State → Prop} (hpost : ∀ tb e args s v u, (limb_1_1.after args s (.returned v) u = true ∧ limb_1_2.after args s (.returned v) u = true ∧ True) → FrameEnd s (.returned v) u (Jvm.fieldLocs frame_1_writes args s ++ Jvm.arrayLocs frame_1_arrays args s ++ Jvm.staticLocs frame_1_statics s) 24 128 → Post tb e args s (.returned v) u) :
    ArmFor flags0 classFile x code maxLocals ret World_1 tables_1 room_1 Calls_1 rest_1 Pre_1 Post := by
  intro l hfl _ _ p e ha hc hk s m args below hf hA hF happ hP
  obtain ⟨hcalls, hrest, hpre⟩ := hP
  obtain ⟨-, -, -, hnamed, -, -, -, hat⟩ := (Spec.applies_iff hf).mp happ
  obtain ⟨hg, hn⟩ := and_e (Cond.before_iff.mp (show (Jvm.Cond.and given_1 narrow_1).before args s = true from hpre))
  obtain ⟨gg1, gg2⟩ := and_e hg
  obtain ⟨gg3, gg4⟩ := and_e gg2
  obtain ⟨gg5, gg6⟩ := and_e gg4
  obtain ⟨gg7, gg8⟩ := and_e gg6
  obtain ⟨w0, w1, w2, w3, rfl⟩ : ∃ w0 w1 w2 w3 : Value, args = #[w0, w1, w2, w3] := by
    have hs : args.size = 4 := by simpa [Cond.value, given_1] using gg1
    obtain ⟨L⟩ := args
    match L, hs with
    | [w0, w1, w2, w3], _ => exact ⟨w0, w1, w2, w3, rfl⟩
  have hw := fun d (hd : d ∈ tables_1) => atoms_spec (ws := Jvm.Cond.code x code maxLocals ret :: tables_1) hat d (List.mem_cons_of_mem _ hd)
  obtain ⟨i0, ei0⟩ := isL_v gg3
  obtain rfl : w0 = (.long i0) := Option.some.inj ei0
  obtain ⟨i1, ei1⟩ := isL_v gg5
  obtain rfl : w1 = (.long i1) := Option.some.inj ei1
  obtain ⟨i2, ei2⟩ := isL_v gg7
  obtain rfl : w2 = (.long i2) := Option.some.inj ei2
  obtain ⟨i3, ei3⟩ := is_v gg8
  obtain rfl : w3 = (.int i3) := Option.some.inj ei3
  obtain ⟨hsets, hown0⟩ := atoms_of _ (rest_1_c_eq ▸ (show rest_1_c.before _ s = true from hrest))
  have hA6 := Cond.before_iff.mp (hsets _ (List.mem_of_getElem? (i := 6) rfl))
  obtain ⟨xx, exx⟩ := arr_v hA6
  obtain ⟨cc, hAr⟩ := Arr.start exx hA6
  have hlt : xx < s.heap.size := hAr.lt
  have hSt := Sta.start exx (Or.inr ⟨wd hw 37 rfl, hsets _ (List.mem_of_getElem? (i := 2) rfl)⟩)
  obtain ⟨ρ, hρ⟩ : ∃ ρ : Nat → Nat, ρ = fun k => if k = 1000 then xx else s.heap.size + k := ⟨_, rfl⟩
  have hρ1 : ρ 1000 = xx := by rw [hρ]; rfl
  have hρ2 : ∀ k, k < 1000 → ρ k = s.heap.size + k := fun k hk => by rw [hρ]; exact if_neg (show ¬ k = 1000 from by omega)
  have hinj : ∀ i j, ρ i = ρ j → i = j := fun i j h => by rw [hρ] at h; exact rho_inj xx _ hlt i j h
  obtain ⟨v, σ', u', ⟨rfl, hc1, hu1⟩, r⟩ := law_go s _ hw ρ s.heap.size (by rw [hρ1]; exact hSt) (Nat.le_refl _) i0 i1 i2 i3
  have D0 : WDen s ρ s.heap.size [] s.heap := ⟨rfl, ⟨Nat.zero_le _, fun _ _ _ h => h⟩, fun k o h => by cases h⟩
  obtain ⟨n, o, h1, h2, h3, _, L, rfl, ⟨rfl, N, -⟩, hq⟩ := met_of (l := l) (y := x) (ws := tables_1) (argsL := [(.long i0), (.long i1), (.long i2), (.int i3)]) (h := s.heap) rfl rfl rfl rfl plx hρ2 hinj r D0 room_1 (Nat.le_of_ble_eq_true rfl) (Nat.le_trans (Nat.sub_le _ _) (Nat.le_trans hc1 (by decide))) (Nat.le_trans (Nat.sub_le _ _) (Nat.le_trans hu1 (by decide))) (Nat.le_of_ble_eq_true rfl) p e ha hc hk s m _ below hf ((Spec.applies_iff_loose hf).mp happ).1 ⟨rfl, State.Warmed39.refl s, rfl⟩ trivial
  refine ⟨n, _, h1, h2, h3, hpost _ _ _ _ _ _ ⟨Cond.after_iff.mpr rfl, Cond.after_iff.mpr (eq_i res_at (Term.int_eval (1)) rfl), trivial⟩ ⟨hq.1, hq.2.1, (hq.2.2.sift fun y hy => Or.inr (N y hy)).mono (Nat.le_trans (Nat.sub_le _ _) (Nat.le_trans hc1 (by decide))) (Nat.le_trans (Nat.sub_le _ _) (Nat.le_trans hu1 (by decide)))⟩⟩
theorem main_1_1 : Claimed_1_1 := comes_1 fun _ _ _ _ _ _ h hF => ⟨h.1, hF⟩
theorem main_1_2 : Claimed_1_2 := comes_1 fun _ _ _ _ _ _ h hF => ⟨h.2.1, hF⟩
end Jvm.Pilot.@@N@@
namespace Jvm.Pilot.@@N@@
open Jvm Jvm.ClassFile Sem Op Lib Jvm.Free Jvm.Stand Jvm.Pilot.@@N@@.Jvm.D
/-! MADE BY PROGRAM (witnessworld.py) out of the Statement's table words and the real class files: 27 classes; the members and pool entries that the words name. The judged class is class 1, her method 2. -/
namespace start1
open Jvm.ClassFile
def u (s : String) : CpInfo := .utf8 (stringToUtf16 s)
/-- a pool by its gaps: so many unusable entries, then the entry; so many at the end -/
def gap : Nat → List CpInfo → List CpInfo
  | 0, r => r
  | n + 1, r => .unusable :: gap n r
def poolList (es : List (Nat × CpInfo)) (last : Nat) : List CpInfo := es.foldr (fun e r => gap e.1 (e.2 :: r)) (gap last [])
def pool (es : List (Nat × CpInfo)) (last : Nat) : Array CpInfo := ⟨poolList es last⟩
def fileOf (pool : Array CpInfo) (this : Nat) (attrs : Array Attribute := #[]) (ms : Array MethodInfo := #[]) (fl : Nat := 33) (sup : Nat := 0) (ifs : Array Nat := #[]) (fds : Array FieldInfo := #[]) : ClassFile where
  minorVersion := 0
  majorVersion := 65
  constantPool := pool
  accessFlags := fl
  thisClass := this
  superClass := sup
  interfaces := ifs
  fields := fds
  methods := ms
  attributes := attrs
def plain (name : String) (sup : Option ClassId) : Class where
  name := name
  kind := .ordinary
  loader := none
  accessFlags := 33
  super := sup
  interfaces := #[]
  cf := none
  fields := #[]
  methods := #[]
  instanceTypes := #[]
  staticTypes := #[]
  resolved := #[]
  callSites := []
  init := .initialized
  statics := none
  mirror := none

def pool0 : Array CpInfo := pool [(5, u "<init>"), (0, u "()V"), (1, .class_ 10), (1, u "java/lang/Object")] 113

def k0c0 : Code := { maxStack := 0, maxLocals := 1, code := object_method_1_code, exceptionTable := #[], attributes := #[] }
def k0m0 : Method := { name := "<init>", desc := "()V", sig := { parameters := [], returnType := none }, accessFlags := 1, code := some k0c0 }
/-- java/lang/Object -/
def k0 : Class := { plain "java/lang/Object" none with
  accessFlags := 33
  interfaces := #[]
  cf := some (fileOf pool0 8 #[] #[{ accessFlags := 1, nameIndex := 5, descriptorIndex := 6, attributes := #[] }] 33 0 #[] #[])
  fields := #[]
  methods := #[k0m0]
  instanceTypes := #[]
  staticTypes := #[]
  resolved := Array.replicate 124 none
  statics := none }

def pool1 : Array CpInfo := pool [(2, .class_ 4), (0, .nameAndType 5 6), (0, u "java/lang/Object"), (0, u "<init>"), (0, u "()V"), (2, .long 18446681906490351616), (3, .long 9223372036854775807), (1, .long 315569520000000), (1, .class_ 18), (0, u "com/example/chronogate/chronogate/Substream"), (0, .methodref 17 3), (0, .class_ 21), (0, u "com/example/chronogate/chronogate/Event"), (0, .class_ 23), (0, u "java/util/ArrayList"), (0, .methodref 22 3), (0, .methodref 20 26), (0, .nameAndType 5 27), (0, u "(JLjava/util/List;Ljava/lang/Object;J)V"), (0, .methodref 17 29), (0, .nameAndType 30 31), (0, u "delivered"), (0, u "()Z"), (0, .methodref 17 33), (0, .nameAndType 34 35), (0, u "add"), (0, u "(Lcom/example/chronogate/chronogate/Event;)V"), (0, .methodref 17 37), (0, .nameAndType 38 39), (0, u "punctuate"), (0, u "(J)V"), (0, .methodref 41 42), (0, .class_ 43), (0, .nameAndType 44 45), (0, u "com/example/chronogate/chronogate/SubstreamDeliveredPinLaw"), (0, u "inRange"), (0, u "(J)J"), (0, .methodref 17 47), (0, .nameAndType 48 39), (0, u "arrive"), (0, .methodref 50 51), (0, .class_ 52), (0, .nameAndType 53 54), (0, u "java/lang/Math"), (0, u "max"), (0, u "(JJ)J"), (2, u "law"), (0, u "(JJJI)Z")] 3

def k1m0 : Method := { name := "<init>", desc := "()V", sig := { parameters := [], returnType := none }, accessFlags := 1, code := none }
def k1c1 : Code := { maxStack := 6, maxLocals := 2, code := method_2_code, exceptionTable := #[], attributes := #[] }
def k1m1 : Method := { name := "inRange", desc := "(J)J", sig := { parameters := [.long], returnType := some .long }, accessFlags := 10, code := some k1c1 }
def k1c2 : Code := { maxStack := 8, maxLocals := 15, code := code, exceptionTable := #[], attributes := #[] }
def k1m2 : Method := { name := "law", desc := "(JJJI)Z", sig := { parameters := [.long, .long, .long, .int], returnType := some .boolean }, accessFlags := 9, code := some k1c2 }
/-- com/example/chronogate/chronogate/SubstreamDeliveredPinLaw -/
def k1 : Class := { plain "com/example/chronogate/chronogate/SubstreamDeliveredPinLaw" (some 0) with
  accessFlags := 49
  interfaces := #[]
  cf := some (fileOf pool1 41 #[] #[{ accessFlags := 1, nameIndex := 5, descriptorIndex := 6, attributes := #[] }, { accessFlags := 10, nameIndex := 44, descriptorIndex := 45, attributes := #[] }, { accessFlags := 9, nameIndex := 57, descriptorIndex := 58, attributes := #[] }] 49 2 #[] #[])
  fields := #[]
  methods := #[k1m0, k1m1, k1m2]
  instanceTypes := #[]
  staticTypes := #[]
  resolved := Array.replicate 62 none
  statics := none }

def pool2 : Array CpInfo := pool [(1, .methodref 2 3), (0, .class_ 4), (0, .nameAndType 5 6), (0, u "java/lang/Object"), (0, u "<init>"), (0, u "()V"), (0, .class_ 8), (0, u "com/example/chronogate/chronogate/ReleaseQueue"), (0, .methodref 7 3), (0, .fieldref 11 12), (0, .class_ 13), (0, .nameAndType 14 15), (0, u "com/example/chronogate/chronogate/Substream"), (0, u "waiting"), (0, u "Lcom/example/chronogate/chronogate/ReleaseQueue;"), (2, .long 9223372036854775808), (1, .fieldref 11 21), (0, .nameAndType 22 23), (0, u "largestAdmitted"), (0, u "J"), (0, .fieldref 11 25), (0, .nameAndType 26 23), (0, u "latestArrival"), (0, .fieldref 11 28), (0, .nameAndType 29 23), (0, u "punctuation"), (0, .methodref 7 31), (0, .nameAndType 32 33), (0, u "add"), (0, u "(Lcom/example/chronogate/chronogate/Event;)V"), (0, .methodref 35 36), (0, .class_ 37), (0, .nameAndType 38 39), (0, u "com/example/chronogate/chronogate/Event"), (0, u "timestamp"), (0, u "()J"), (0, .methodref 41 42), (0, .class_ 43), (0, .nameAndType 44 45), (0, u "java/lang/Math"), (0, u "max"), (0, u "(JJ)J"), (0, .fieldref 11 47), (0, .nameAndType 48 23), (0, u "admitted"), (3, u "()Z"), (12, u "(J)V"), (42, u "arrive"), (0, u "delivered"), (2, u "punctuate")] 11

def k2c0 : Code := { maxStack := 3, maxLocals := 1, code := prog_28_method_1_code, exceptionTable := #[], attributes := #[] }
def k2m0 : Method := { name := "<init>", desc := "()V", sig := { parameters := [], returnType := none }, accessFlags := 0, code := some k2c0 }
def k2c1 : Code := { maxStack := 3, maxLocals := 3, code := prog_28_method_2_code, exceptionTable := #[], attributes := #[] }
def k2m1 : Method := { name := "arrive", desc := "(J)V", sig := { parameters := [.long], returnType := none }, accessFlags := 0, code := some k2c1 }
def k2c2 : Code := { maxStack := 4, maxLocals := 1, code := prog_28_method_4_code, exceptionTable := #[], attributes := #[] }
def k2m2 : Method := { name := "delivered", desc := "()Z", sig := { parameters := [], returnType := some .boolean }, accessFlags := 0, code := some k2c2 }
def k2c3 : Code := { maxStack := 5, maxLocals := 2, code := prog_28_method_5_code, exceptionTable := #[], attributes := #[] }
def k2m3 : Method := { name := "add", desc := "(Lcom/example/chronogate/chronogate/Event;)V", sig := { parameters := [(.object "com/example/chronogate/chronogate/Event")], returnType := none }, accessFlags := 0, code := some k2c3 }
def k2c4 : Code := { maxStack := 5, maxLocals := 3, code := prog_28_method_7_code, exceptionTable := #[], attributes := #[] }
def k2m4 : Method := { name := "punctuate", desc := "(J)V", sig := { parameters := [.long], returnType := none }, accessFlags := 0, code := some k2c4 }
/-- com/example/chronogate/chronogate/Substream -/
def k2 : Class := { plain "com/example/chronogate/chronogate/Substream" (some 0) with
  accessFlags := 48
  interfaces := #[]
  cf := some (fileOf pool2 11 #[] #[{ accessFlags := 0, nameIndex := 5, descriptorIndex := 6, attributes := #[] }, { accessFlags := 0, nameIndex := 108, descriptorIndex := 65, attributes := #[] }, { accessFlags := 0, nameIndex := 109, descriptorIndex := 52, attributes := #[] }, { accessFlags := 0, nameIndex := 32, descriptorIndex := 33, attributes := #[] }, { accessFlags := 0, nameIndex := 112, descriptorIndex := 65, attributes := #[] }] 48 2 #[] #[{ accessFlags := 18, nameIndex := 14, descriptorIndex := 15, attributes := #[] }, { accessFlags := 2, nameIndex := 22, descriptorIndex := 23, attributes := #[] }, { accessFlags := 2, nameIndex := 26, descriptorIndex := 23, attributes := #[] }, { accessFlags := 2, nameIndex := 48, descriptorIndex := 23, attributes := #[] }, { accessFlags := 2, nameIndex := 29, descriptorIndex := 23, attributes := #[] }])
  fields := #[{ name := "waiting", type := (.object "com/example/chronogate/chronogate/ReleaseQueue"), accessFlags := 18, slot := 0, constantValue := 0 }, { name := "largestAdmitted", type := .long, accessFlags := 2, slot := 1, constantValue := 0 }, { name := "latestArrival", type := .long, accessFlags := 2, slot := 2, constantValue := 0 }, { name := "admitted", type := .long, accessFlags := 2, slot := 3, constantValue := 0 }, { name := "punctuation", type := .long, accessFlags := 2, slot := 4, constantValue := 0 }]
  methods := #[k2m0, k2m1, k2m2, k2m3, k2m4]
  instanceTypes := #[(.object "com/example/chronogate/chronogate/ReleaseQueue"), .long, .long, .long, .long]
  staticTypes := #[]
  resolved := Array.replicate 124 none
  statics := none }

def pool3 : Array CpInfo := pool [(8, .class_ 10), (1, u "java/lang/Iterable"), (24, .class_ 36), (0, u "java/lang/Object")] 25

/-- java/lang/Iterable -/
def k3 : Class := { plain "java/lang/Iterable" (some 0) with
  accessFlags := 1537
  interfaces := #[]
  cf := some (fileOf pool3 8 #[] #[] 1537 35 #[] #[])
  fields := #[]
  methods := #[]
  instanceTypes := #[]
  staticTypes := #[]
  resolved := Array.replicate 62 none
  statics := none }

def pool4 : Array CpInfo := pool [(1, .methodref 2 3), (0, .class_ 4), (0, .nameAndType 5 6), (0, u "java/lang/Object"), (0, u "<init>"), (0, u "()V"), (0, .class_ 8), (0, u "com/example/chronogate/chronogate/ReleaseQueue"), (0, .methodref 7 10), (0, .nameAndType 11 12), (0, u "newArray"), (0, u "(I)[Lcom/example/chronogate/chronogate/Event;"), (0, .fieldref 7 14), (0, .nameAndType 15 16), (0, u "heap"), (0, u "[Lcom/example/chronogate/chronogate/Event;"), (0, .fieldref 7 18), (0, .nameAndType 19 20), (0, u "size"), (0, u "I"), (7, .methodref 29 30), (0, .class_ 31), (0, .nameAndType 32 33), (0, u "com/example/chronogate/chronogate/Event"), (0, u "releaseOrder"), (0, u "(Lcom/example/chronogate/chronogate/Event;Lcom/example/chronogate/chronogate/Event;)I"), (0, .class_ 35), (0, u "com/example/chronogate/chronogate/ReleaseQueue$1"), (3, .class_ 40), (0, u "java/lang/Iterable"), (0, u "FIRST_CAPACITY"), (6, u "add"), (0, u "(Lcom/example/chronogate/chronogate/Event;)V")] 18

def k4c0 : Code := { maxStack := 2, maxLocals := 1, code := prog_24_method_1_code, exceptionTable := #[], attributes := #[] }
def k4m0 : Method := { name := "<init>", desc := "()V", sig := { parameters := [], returnType := none }, accessFlags := 0, code := some k4c0 }
def k4c1 : Code := { maxStack := 4, maxLocals := 4, code := prog_24_method_2_code, exceptionTable := #[], attributes := #[] }
def k4m1 : Method := { name := "add", desc := "(Lcom/example/chronogate/chronogate/Event;)V", sig := { parameters := [(.object "com/example/chronogate/chronogate/Event")], returnType := none }, accessFlags := 0, code := some k4c1 }
def k4c2 : Code := { maxStack := 1, maxLocals := 1, code := prog_24_method_8_code, exceptionTable := #[], attributes := #[] }
def k4m2 : Method := { name := "newArray", desc := "(I)[Lcom/example/chronogate/chronogate/Event;", sig := { parameters := [.int], returnType := some (.array (.object "com/example/chronogate/chronogate/Event")) }, accessFlags := 10, code := some k4c2 }
/-- com/example/chronogate/chronogate/ReleaseQueue -/
def k4 : Class := { plain "com/example/chronogate/chronogate/ReleaseQueue" (some 0) with
  accessFlags := 48
  interfaces := #[3]
  cf := some (fileOf pool4 7 #[.nestMembers #[34]] #[{ accessFlags := 0, nameIndex := 5, descriptorIndex := 6, attributes := #[] }, { accessFlags := 0, nameIndex := 48, descriptorIndex := 49, attributes := #[] }, { accessFlags := 10, nameIndex := 11, descriptorIndex := 12, attributes := #[] }] 48 2 #[39] #[{ accessFlags := 26, nameIndex := 41, descriptorIndex := 20, attributes := #[] }, { accessFlags := 2, nameIndex := 15, descriptorIndex := 16, attributes := #[] }, { accessFlags := 2, nameIndex := 19, descriptorIndex := 20, attributes := #[] }])
  fields := #[{ name := "FIRST_CAPACITY", type := .int, accessFlags := 26, slot := 0, constantValue := 0 }, { name := "heap", type := (.array (.object "com/example/chronogate/chronogate/Event")), accessFlags := 2, slot := 0, constantValue := 0 }, { name := "size", type := .int, accessFlags := 2, slot := 1, constantValue := 0 }]
  methods := #[k4m0, k4m1, k4m2]
  instanceTypes := #[(.array (.object "com/example/chronogate/chronogate/Event")), .int]
  staticTypes := #[.int]
  resolved := Array.replicate 68 none
  statics := none }

def pool5 : Array CpInfo := pool [(1, .methodref 2 3), (0, .class_ 4), (0, .nameAndType 5 6), (0, u "java/lang/Object"), (0, u "<init>"), (0, u "()V"), (0, .fieldref 8 9), (0, .class_ 10), (0, .nameAndType 11 12), (0, u "com/example/chronogate/chronogate/Event"), (0, u "timestamp"), (0, u "J"), (0, .fieldref 8 14), (0, .nameAndType 15 16), (0, u "adjustments"), (0, u "Ljava/util/List;"), (0, .fieldref 8 18), (0, .nameAndType 19 20), (0, u "payload"), (0, u "Ljava/lang/Object;"), (0, .fieldref 8 22), (0, .nameAndType 23 12), (0, u "sequence"), (0, .methodref 25 26), (0, .class_ 27), (0, .nameAndType 28 29), (0, u "java/lang/Long"), (0, u "compare"), (0, u "(JJ)I"), (36, u "()J"), (13, u "(JLjava/util/List;Ljava/lang/Object;J)V"), (19, u "releaseOrder"), (0, u "(Lcom/example/chronogate/chronogate/Event;Lcom/example/chronogate/chronogate/Event;)I")] 15

def k5c0 : Code := { maxStack := 3, maxLocals := 7, code := prog_8_method_1_code, exceptionTable := #[], attributes := #[] }
def k5m0 : Method := { name := "<init>", desc := "(JLjava/util/List;Ljava/lang/Object;J)V", sig := { parameters := [.long, (.object "java/util/List"), (.object "java/lang/Object"), .long], returnType := none }, accessFlags := 0, code := some k5c0 }
def k5c1 : Code := { maxStack := 2, maxLocals := 1, code := prog_8_method_2_code, exceptionTable := #[], attributes := #[] }
def k5m1 : Method := { name := "timestamp", desc := "()J", sig := { parameters := [], returnType := some .long }, accessFlags := 1, code := some k5c1 }
def k5c2 : Code := { maxStack := 4, maxLocals := 3, code := prog_8_method_6_code, exceptionTable := #[], attributes := #[] }
def k5m2 : Method := { name := "releaseOrder", desc := "(Lcom/example/chronogate/chronogate/Event;Lcom/example/chronogate/chronogate/Event;)I", sig := { parameters := [(.object "com/example/chronogate/chronogate/Event"), (.object "com/example/chronogate/chronogate/Event")], returnType := some .int }, accessFlags := 8, code := some k5c2 }
/-- com/example/chronogate/chronogate/Event -/
def k5 : Class := { plain "com/example/chronogate/chronogate/Event" (some 0) with
  accessFlags := 49
  interfaces := #[]
  cf := some (fileOf pool5 8 #[] #[{ accessFlags := 0, nameIndex := 5, descriptorIndex := 80, attributes := #[] }, { accessFlags := 1, nameIndex := 11, descriptorIndex := 66, attributes := #[] }, { accessFlags := 8, nameIndex := 100, descriptorIndex := 101, attributes := #[] }] 49 2 #[] #[{ accessFlags := 18, nameIndex := 11, descriptorIndex := 12, attributes := #[] }, { accessFlags := 18, nameIndex := 15, descriptorIndex := 16, attributes := #[] }, { accessFlags := 18, nameIndex := 19, descriptorIndex := 20, attributes := #[] }, { accessFlags := 18, nameIndex := 23, descriptorIndex := 12, attributes := #[] }])
  fields := #[{ name := "timestamp", type := .long, accessFlags := 18, slot := 0, constantValue := 0 }, { name := "adjustments", type := (.object "java/util/List"), accessFlags := 18, slot := 1, constantValue := 0 }, { name := "payload", type := (.object "java/lang/Object"), accessFlags := 18, slot := 2, constantValue := 0 }, { name := "sequence", type := .long, accessFlags := 18, slot := 3, constantValue := 0 }]
  methods := #[k5m0, k5m1, k5m2]
  instanceTypes := #[.long, (.object "java/util/List"), (.object "java/lang/Object"), .long]
  staticTypes := #[]
  resolved := Array.replicate 117 none
  statics := none }

def pool6 : Array CpInfo := pool [(10, .class_ 12), (1, u "java/util/Collection"), (47, .class_ 61), (0, u "java/lang/Object"), (0, .class_ 63), (0, u "java/lang/Iterable")] 51

/-- java/util/Collection -/
def k6 : Class := { plain "java/util/Collection" (some 0) with
  accessFlags := 1537
  interfaces := #[3]
  cf := some (fileOf pool6 10 #[] #[] 1537 60 #[62] #[])
  fields := #[]
  methods := #[]
  instanceTypes := #[]
  staticTypes := #[]
  resolved := Array.replicate 115 none
  statics := none }

def pool7 : Array CpInfo := pool [(1, .methodref 2 3), (0, .class_ 4), (0, .nameAndType 5 6), (0, u "java/lang/Object"), (0, u "<init>"), (0, u "()V"), (1, .class_ 10), (1, u "java/util/AbstractCollection"), (66, .class_ 78), (0, u "java/util/Collection")] 81

def k7c0 : Code := { maxStack := 1, maxLocals := 1, code := jdk_22_method_1_code, exceptionTable := #[], attributes := #[] }
def k7m0 : Method := { name := "<init>", desc := "()V", sig := { parameters := [], returnType := none }, accessFlags := 4, code := some k7c0 }
/-- java/util/AbstractCollection -/
def k7 : Class := { plain "java/util/AbstractCollection" (some 0) with
  accessFlags := 1057
  interfaces := #[6]
  cf := some (fileOf pool7 8 #[] #[{ accessFlags := 4, nameIndex := 5, descriptorIndex := 6, attributes := #[] }] 1057 2 #[77] #[])
  fields := #[]
  methods := #[k7m0]
  instanceTypes := #[]
  staticTypes := #[]
  resolved := Array.replicate 160 none
  statics := none }

def pool8 : Array CpInfo := pool [(8, .class_ 10), (1, u "java/util/SequencedCollection"), (15, .class_ 27), (0, u "java/lang/Object"), (0, .class_ 29), (0, u "java/util/Collection")] 27

/-- java/util/SequencedCollection -/
def k8 : Class := { plain "java/util/SequencedCollection" (some 0) with
  accessFlags := 1537
  interfaces := #[6]
  cf := some (fileOf pool8 8 #[] #[] 1537 26 #[28] #[])
  fields := #[]
  methods := #[]
  instanceTypes := #[]
  staticTypes := #[]
  resolved := Array.replicate 57 none
  statics := none }

def pool9 : Array CpInfo := pool [(8, .class_ 10), (1, u "java/util/List"), (92, .class_ 104), (0, u "java/lang/Object"), (15, .class_ 121), (0, u "java/util/SequencedCollection")] 129

/-- java/util/List -/
def k9 : Class := { plain "java/util/List" (some 0) with
  accessFlags := 1537
  interfaces := #[8]
  cf := some (fileOf pool9 8 #[] #[] 1537 103 #[120] #[])
  fields := #[]
  methods := #[]
  instanceTypes := #[]
  staticTypes := #[]
  resolved := Array.replicate 251 none
  statics := none }

def pool10 : Array CpInfo := pool [(1, .methodref 2 3), (0, .class_ 4), (0, .nameAndType 5 6), (0, u "java/util/AbstractCollection"), (0, u "<init>"), (0, u "()V"), (0, .fieldref 8 9), (0, .class_ 10), (0, .nameAndType 11 12), (0, u "java/util/AbstractList"), (0, u "modCount"), (0, u "I"), (64, .class_ 78), (0, u "java/util/AbstractList$Itr"), (3, .class_ 83), (0, u "java/util/AbstractList$ListItr"), (9, .class_ 94), (0, u "java/util/AbstractList$RandomAccessSubList"), (3, .class_ 99), (0, u "java/util/AbstractList$SubList"), (33, .class_ 134), (0, u "java/util/List"), (73, .class_ 209), (0, u "java/util/AbstractList$SubList$1"), (0, .class_ 211), (0, u "java/util/AbstractList$RandomAccessSpliterator")] 6

def k10c0 : Code := { maxStack := 2, maxLocals := 1, code := jdk_39_method_1_code, exceptionTable := #[], attributes := #[] }
def k10m0 : Method := { name := "<init>", desc := "()V", sig := { parameters := [], returnType := none }, accessFlags := 4, code := some k10c0 }
/-- java/util/AbstractList -/
def k10 : Class := { plain "java/util/AbstractList" (some 7) with
  accessFlags := 1057
  interfaces := #[9]
  cf := some (fileOf pool10 8 #[.nestMembers #[93, 98, 208, 210, 82, 77]] #[{ accessFlags := 4, nameIndex := 5, descriptorIndex := 6, attributes := #[] }] 1057 2 #[133] #[{ accessFlags := 132, nameIndex := 11, descriptorIndex := 12, attributes := #[] }])
  fields := #[{ name := "modCount", type := .int, accessFlags := 132, slot := 0, constantValue := 0 }]
  methods := #[k10m0]
  instanceTypes := #[.int]
  staticTypes := #[]
  resolved := Array.replicate 218 none
  statics := none }

def pool11 : Array CpInfo := pool [(1, .class_ 2), (0, u "java/util/RandomAccess"), (0, .class_ 4), (0, u "java/lang/Object")] 2

/-- java/util/RandomAccess -/
def k11 : Class := { plain "java/util/RandomAccess" (some 0) with
  accessFlags := 1537
  interfaces := #[]
  cf := some (fileOf pool11 1 #[] #[] 1537 3 #[] #[])
  fields := #[]
  methods := #[]
  instanceTypes := #[]
  staticTypes := #[]
  resolved := Array.replicate 7 none
  statics := none }

def pool12 : Array CpInfo := pool [(1, .class_ 2), (0, u "java/lang/Cloneable"), (0, .class_ 4), (0, u "java/lang/Object")] 2

/-- java/lang/Cloneable -/
def k12 : Class := { plain "java/lang/Cloneable" (some 0) with
  accessFlags := 1537
  interfaces := #[]
  cf := some (fileOf pool12 1 #[] #[] 1537 3 #[] #[])
  fields := #[]
  methods := #[]
  instanceTypes := #[]
  staticTypes := #[]
  resolved := Array.replicate 7 none
  statics := none }

def pool13 : Array CpInfo := pool [(1, .class_ 2), (0, u "java/io/Serializable"), (0, .class_ 4), (0, u "java/lang/Object")] 2

/-- java/io/Serializable -/
def k13 : Class := { plain "java/io/Serializable" (some 0) with
  accessFlags := 1537
  interfaces := #[]
  cf := some (fileOf pool13 1 #[] #[] 1537 3 #[] #[])
  fields := #[]
  methods := #[]
  instanceTypes := #[]
  staticTypes := #[]
  resolved := Array.replicate 7 none
  statics := none }

def pool14 : Array CpInfo := pool [(1, .methodref 2 3), (0, .class_ 4), (0, .nameAndType 5 6), (0, u "java/util/AbstractList"), (0, u "<init>"), (0, u "()V"), (2, .fieldref 10 11), (0, .class_ 12), (0, .nameAndType 13 14), (0, u "java/util/ArrayList"), (0, u "elementData"), (0, u "[Ljava/lang/Object;"), (2, u "EMPTY_ELEMENTDATA"), (21, .fieldref 10 40), (0, .nameAndType 41 14), (0, u "DEFAULTCAPACITY_EMPTY_ELEMENTDATA"), (8, u "size"), (0, u "I"), (96, .class_ 149), (0, u "java/util/List"), (112, .class_ 263), (0, u "java/util/ArrayList$ListItr"), (3, .class_ 268), (0, u "java/util/ArrayList$Itr"), (7, .class_ 277), (0, u "java/util/ArrayList$SubList"), (12, .class_ 291), (0, u "java/util/ArrayList$ArrayListSpliterator"), (37, .class_ 330), (0, u "java/util/RandomAccess"), (0, .class_ 332), (0, u "java/lang/Cloneable"), (0, .class_ 334), (0, u "java/io/Serializable"), (0, u "serialVersionUID"), (0, u "J"), (3, u "DEFAULT_CAPACITY"), (159, .class_ 501), (0, u "java/util/ArrayList$SubList$2"), (0, .class_ 503), (0, u "java/util/ArrayList$SubList$1")] 5

def k14c0 : Code := { maxStack := 2, maxLocals := 1, code := jdk_38_method_2_code, exceptionTable := #[], attributes := #[] }
def k14m0 : Method := { name := "<init>", desc := "()V", sig := { parameters := [], returnType := none }, accessFlags := 1, code := some k14c0 }
/-- java/util/ArrayList -/
def k14 : Class := { plain "java/util/ArrayList" (some 10) with
  accessFlags := 33
  interfaces := #[9, 11, 12, 13]
  cf := some (fileOf pool14 10 #[.nestMembers #[290, 276, 500, 502, 262, 267]] #[{ accessFlags := 1, nameIndex := 5, descriptorIndex := 6, attributes := #[] }] 33 2 #[148, 329, 331, 333] #[{ accessFlags := 26, nameIndex := 335, descriptorIndex := 336, attributes := #[] }, { accessFlags := 26, nameIndex := 340, descriptorIndex := 51, attributes := #[] }, { accessFlags := 26, nameIndex := 17, descriptorIndex := 14, attributes := #[] }, { accessFlags := 26, nameIndex := 41, descriptorIndex := 14, attributes := #[] }, { accessFlags := 128, nameIndex := 13, descriptorIndex := 14, attributes := #[] }, { accessFlags := 2, nameIndex := 50, descriptorIndex := 51, attributes := #[] }])
  fields := #[{ name := "serialVersionUID", type := .long, accessFlags := 26, slot := 0, constantValue := 0 }, { name := "DEFAULT_CAPACITY", type := .int, accessFlags := 26, slot := 1, constantValue := 0 }, { name := "EMPTY_ELEMENTDATA", type := (.array (.object "java/lang/Object")), accessFlags := 26, slot := 2, constantValue := 0 }, { name := "DEFAULTCAPACITY_EMPTY_ELEMENTDATA", type := (.array (.object "java/lang/Object")), accessFlags := 26, slot := 3, constantValue := 0 }, { name := "elementData", type := (.array (.object "java/lang/Object")), accessFlags := 128, slot := 1, constantValue := 0 }, { name := "size", type := .int, accessFlags := 2, slot := 2, constantValue := 0 }]
  methods := #[k14m0]
  instanceTypes := #[.int, (.array (.object "java/lang/Object")), .int]
  staticTypes := #[.long, .int, (.array (.object "java/lang/Object")), (.array (.object "java/lang/Object"))]
  resolved := Array.replicate 509 none
  statics := some 0 }

def pool15 : Array CpInfo := pool [(1, .class_ 2), (0, u "java/lang/Math"), (1, .class_ 6), (1, u "java/lang/Object"), (0, u "<init>"), (0, u "()V"), (89, .class_ 100), (1, u "java/lang/Math$RandomNumberGeneratorHolder"), (20, u "(JJ)J"), (50, u "negativeZeroFloatBits"), (0, u "J"), (2, u "negativeZeroDoubleBits"), (21, u "max"), (46, u "$assertionsDisabled"), (0, u "Z"), (91, u "twoToTheDoubleScaleDown"), (0, u "D"), (4, u "twoToTheDoubleScaleUp"), (9, u "E"), (3, u "PI"), (2, u "TAU"), (2, u "DEGREES_TO_RADIANS"), (0, u "RADIANS_TO_DEGREES")] 94

def k15m0 : Method := { name := "<init>", desc := "()V", sig := { parameters := [], returnType := none }, accessFlags := 2, code := none }
def k15c1 : Code := { maxStack := 4, maxLocals := 4, code := jdk_29_method_66_code, exceptionTable := #[], attributes := #[] }
def k15m1 : Method := { name := "max", desc := "(JJ)J", sig := { parameters := [.long, .long], returnType := some .long }, accessFlags := 9, code := some k15c1 }
/-- java/lang/Math -/
def k15 : Class := { plain "java/lang/Math" (some 0) with
  accessFlags := 49
  interfaces := #[]
  cf := some (fileOf pool15 1 #[.nestMembers #[98]] #[{ accessFlags := 2, nameIndex := 7, descriptorIndex := 8, attributes := #[] }, { accessFlags := 9, nameIndex := 198, descriptorIndex := 121, attributes := #[] }] 49 4 #[] #[{ accessFlags := 25, nameIndex := 354, descriptorIndex := 339, attributes := #[] }, { accessFlags := 25, nameIndex := 358, descriptorIndex := 339, attributes := #[] }, { accessFlags := 25, nameIndex := 361, descriptorIndex := 339, attributes := #[] }, { accessFlags := 26, nameIndex := 364, descriptorIndex := 339, attributes := #[] }, { accessFlags := 26, nameIndex := 365, descriptorIndex := 339, attributes := #[] }, { accessFlags := 26, nameIndex := 172, descriptorIndex := 173, attributes := #[] }, { accessFlags := 26, nameIndex := 176, descriptorIndex := 173, attributes := #[] }, { accessFlags := 8, nameIndex := 344, descriptorIndex := 339, attributes := #[] }, { accessFlags := 8, nameIndex := 338, descriptorIndex := 339, attributes := #[] }, { accessFlags := 4120, nameIndex := 245, descriptorIndex := 246, attributes := #[] }])
  fields := #[{ name := "E", type := .double, accessFlags := 25, slot := 0, constantValue := 0 }, { name := "PI", type := .double, accessFlags := 25, slot := 1, constantValue := 0 }, { name := "TAU", type := .double, accessFlags := 25, slot := 2, constantValue := 0 }, { name := "DEGREES_TO_RADIANS", type := .double, accessFlags := 26, slot := 3, constantValue := 0 }, { name := "RADIANS_TO_DEGREES", type := .double, accessFlags := 26, slot := 4, constantValue := 0 }, { name := "negativeZeroFloatBits", type := .long, accessFlags := 26, slot := 5, constantValue := 0 }, { name := "negativeZeroDoubleBits", type := .long, accessFlags := 26, slot := 6, constantValue := 0 }, { name := "twoToTheDoubleScaleUp", type := .double, accessFlags := 8, slot := 7, constantValue := 0 }, { name := "twoToTheDoubleScaleDown", type := .double, accessFlags := 8, slot := 8, constantValue := 0 }, { name := "$assertionsDisabled", type := .boolean, accessFlags := 4120, slot := 9, constantValue := 0 }]
  methods := #[k15m0, k15m1]
  instanceTypes := #[]
  staticTypes := #[.double, .double, .double, .double, .double, .long, .long, .double, .double, .boolean]
  resolved := Array.replicate 460 none
  statics := none }

def pool16 : Array CpInfo := pool [(2, .class_ 4), (1, u "java/lang/Object"), (0, u "<init>"), (0, u "()V"), (1, .class_ 10), (1, u "java/lang/Number"), (2, .class_ 14), (0, u "java/io/Serializable"), (0, u "serialVersionUID"), (0, u "J")] 20

def k16m0 : Method := { name := "<init>", desc := "()V", sig := { parameters := [], returnType := none }, accessFlags := 1, code := none }
/-- java/lang/Number -/
def k16 : Class := { plain "java/lang/Number" (some 0) with
  accessFlags := 1057
  interfaces := #[13]
  cf := some (fileOf pool16 8 #[] #[{ accessFlags := 1, nameIndex := 5, descriptorIndex := 6, attributes := #[] }] 1057 2 #[13] #[{ accessFlags := 26, nameIndex := 15, descriptorIndex := 16, attributes := #[] }])
  fields := #[{ name := "serialVersionUID", type := .long, accessFlags := 26, slot := 0, constantValue := 0 }]
  methods := #[k16m0]
  instanceTypes := #[]
  staticTypes := #[.long]
  resolved := Array.replicate 37 none
  statics := none }

def pool17 : Array CpInfo := pool [(1, .class_ 2), (0, u "java/lang/Comparable"), (0, .class_ 4), (0, u "java/lang/Object")] 7

/-- java/lang/Comparable -/
def k17 : Class := { plain "java/lang/Comparable" (some 0) with
  accessFlags := 1537
  interfaces := #[]
  cf := some (fileOf pool17 1 #[] #[] 1537 3 #[] #[])
  fields := #[]
  methods := #[]
  instanceTypes := #[]
  staticTypes := #[]
  resolved := Array.replicate 12 none
  statics := none }

def pool18 : Array CpInfo := pool [(1, .class_ 2), (0, u "java/lang/constant/Constable"), (0, .class_ 4), (0, u "java/lang/Object")] 6

/-- java/lang/constant/Constable -/
def k18 : Class := { plain "java/lang/constant/Constable" (some 0) with
  accessFlags := 1537
  interfaces := #[]
  cf := some (fileOf pool18 1 #[] #[] 1537 3 #[] #[])
  fields := #[]
  methods := #[]
  instanceTypes := #[]
  staticTypes := #[]
  resolved := Array.replicate 11 none
  statics := none }

def pool19 : Array CpInfo := pool [(1, .class_ 2), (0, u "java/lang/constant/ConstantDesc"), (0, .class_ 4), (0, u "java/lang/Object")] 32

/-- java/lang/constant/ConstantDesc -/
def k19 : Class := { plain "java/lang/constant/ConstantDesc" (some 0) with
  accessFlags := 1537
  interfaces := #[]
  cf := some (fileOf pool19 1 #[] #[] 1537 3 #[] #[])
  fields := #[]
  methods := #[]
  instanceTypes := #[]
  staticTypes := #[]
  resolved := Array.replicate 37 none
  statics := none }

def pool20 : Array CpInfo := pool [(1, .class_ 2), (0, u "java/lang/Long"), (232, .class_ 237), (1, u "java/lang/Long$LongCache"), (33, .class_ 272), (0, u "java/lang/Number"), (2, u "value"), (0, u "J"), (27, u "compare"), (0, u "(JJ)I"), (55, u "TYPE"), (0, u "Ljava/lang/Class;"), (0, .class_ 364), (0, u "java/lang/Comparable"), (0, .class_ 366), (0, u "java/lang/constant/Constable"), (0, .class_ 368), (0, u "java/lang/constant/ConstantDesc"), (0, u "MIN_VALUE"), (1, u "MAX_VALUE"), (4, u "SIZE"), (0, u "I"), (1, u "BYTES"), (1, u "serialVersionUID")] 142

def k20c0 : Code := { maxStack := 4, maxLocals := 4, code := jdk_35_method_42_code, exceptionTable := #[], attributes := #[] }
def k20m0 : Method := { name := "compare", desc := "(JJ)I", sig := { parameters := [.long, .long], returnType := some .int }, accessFlags := 9, code := some k20c0 }
/-- java/lang/Long -/
def k20 : Class := { plain "java/lang/Long" (some 16) with
  accessFlags := 49
  interfaces := #[17, 18, 19]
  cf := some (fileOf pool20 1 #[.nestMembers #[235]] #[{ accessFlags := 9, nameIndex := 304, descriptorIndex := 305, attributes := #[] }] 49 271 #[363, 365, 367] #[{ accessFlags := 25, nameIndex := 369, descriptorIndex := 276, attributes := #[] }, { accessFlags := 25, nameIndex := 371, descriptorIndex := 276, attributes := #[] }, { accessFlags := 25, nameIndex := 361, descriptorIndex := 362, attributes := #[] }, { accessFlags := 18, nameIndex := 275, descriptorIndex := 276, attributes := #[] }, { accessFlags := 25, nameIndex := 376, descriptorIndex := 377, attributes := #[] }, { accessFlags := 25, nameIndex := 379, descriptorIndex := 377, attributes := #[] }, { accessFlags := 26, nameIndex := 381, descriptorIndex := 276, attributes := #[] }])
  fields := #[{ name := "MIN_VALUE", type := .long, accessFlags := 25, slot := 0, constantValue := 0 }, { name := "MAX_VALUE", type := .long, accessFlags := 25, slot := 1, constantValue := 0 }, { name := "TYPE", type := (.object "java/lang/Class"), accessFlags := 25, slot := 2, constantValue := 0 }, { name := "value", type := .long, accessFlags := 18, slot := 0, constantValue := 0 }, { name := "SIZE", type := .int, accessFlags := 25, slot := 3, constantValue := 0 }, { name := "BYTES", type := .int, accessFlags := 25, slot := 4, constantValue := 0 }, { name := "serialVersionUID", type := .long, accessFlags := 26, slot := 5, constantValue := 0 }]
  methods := #[k20m0]
  instanceTypes := #[.long]
  staticTypes := #[.long, .long, (.object "java/lang/Class"), .int, .int, .long]
  resolved := Array.replicate 524 none
  statics := none }

/-- the primitive byte -/
def k21 : Class := { plain "byte" none with kind := .primitive 'B', accessFlags := 0x411 }
/-- [B -/
def k22 : Class := { plain "[B" (some 0) with kind := .array 21 .byte, interfaces := #[12, 13], accessFlags := 1041 }

/-- the primitive int -/
def k23 : Class := { plain "int" none with kind := .primitive 'I', accessFlags := 0x411 }
/-- [I -/
def k24 : Class := { plain "[I" (some 0) with kind := .array 23 .int, interfaces := #[12, 13], accessFlags := 1041 }

/-- [Lcom/example/chronogate/chronogate/Event; -/
def k25 : Class := { plain "[Lcom/example/chronogate/chronogate/Event;" (some 0) with kind := .array 5 (.object "com/example/chronogate/chronogate/Event"), interfaces := #[12, 13], accessFlags := 1041 }

/-- [Ljava/lang/Object; -/
def k26 : Class := { plain "[Ljava/lang/Object;" (some 0) with kind := .array 0 (.object "java/lang/Object"), interfaces := #[12, 13], accessFlags := 1041 }

def heap : Heap := #[{ cls := 14, slots := #[.long 0, .int 0, .ref 1, .ref 2], vm := .statics 14 },
  { cls := 26, slots := #[], vm := .none },
  { cls := 26, slots := #[], vm := .none }]
def classes : Array Class := #[k0, k1, k2, k3, k4, k5, k6, k7, k8, k9, k10, k11, k12, k13, k14, k15, k16, k17, k18, k19, k20, k21, k22, k23, k24, k25, k26]
def interned : List (Array UInt16 × Addr) := []
def slotsUsed : Nat := 4
def theMethod : MethodId := ⟨1, 2⟩
def args0 : Array Value := #[.long 5, .long 6, .long 3, .int 3]
def aboutOver (below : List Frame) : State where
  vm := { classes := classes, interned := interned.toArray }
  heap := heap
  slotsUsed := slotsUsed
  threads := #[{ frames := .invoking theMethod args0 :: below }]
def below0 : List Frame := [.native { method := ⟨0, 0⟩, args := #[] }]
def about1 : State := aboutOver below0
def p0 : Program := .bare "" "" ""
def e0 : Env := launch0.env 0 0 0
theorem w_frames : about1.frames = Frame.invoking theMethod args0 :: below0 := rfl
set_option maxRecDepth 65536 in
theorem w_args : argsFit about1.vm theMethod args0 = true := by decide +kernel
set_option maxRecDepth 65536 in
theorem w_heap : heapFits about1 = true := by decide +kernel
set_option maxRecDepth 65536 in
theorem w_runnable : about1.curStatus? = some .runnable := by decide +kernel
set_option maxRecDepth 65536 in
theorem w_alone : about1.alone = true := by decide +kernel
set_option maxRecDepth 65536 in
theorem w_named : about1.methodNamed? x = some theMethod := by decide +kernel
set_option maxRecDepth 65536 in
theorem w_hears : about1.hears theMethod below0 = true := by decide +kernel
set_option maxRecDepth 65536 in
theorem w_ripe : about1.ripe theMethod args0 below0 = true := by decide +kernel
theorem w_running : about1.status = .running := rfl
set_option maxRecDepth 65536 in
theorem w_room : about1.hasRoom e0.platform room_1 = true :=
  launch0.hasRoom_least _ room_1 (by decide +kernel) (by decide +kernel) (by decide +kernel) (by decide +kernel) (by decide +kernel) (by decide +kernel)
theorem allAtoms_all (ts : List Jvm.Cond) (a : Array Jvm.Value) (st : Jvm.State) : (allAtoms ts).before a st = ts.all (fun c => c.before a st) := by
  induction ts with
  | nil => rfl
  | cons c t ih =>
    show (Jvm.Cond.and c (allAtoms t)).before a st = _
    rw [Jvm.Cond.before_and, ih, List.all_cons]
def words1 : List Jvm.Cond := Jvm.Cond.code x code maxLocals ret :: tables_1
/-- a 'code' word, met by the world's own term for the bytes: nothing is compared byte by byte -/
theorem code_word {y : MethodName} {bytes : ByteArray} {mx : Nat} {rt : Option FieldType} {a : Array Value} {s : State} {m : MethodId} {meth : Method} {c : Code} (h1 : s.methodNamed? y = some m) (h2 : s.vm.method? m = some meth) (h3 : meth.code = some c) (h4 : c.code = bytes)
    (h5 : (c.maxLocals == mx && c.exceptionTable.isEmpty && decide (c.maxStack ≤ mostOperands) && decide (meth.sig.returnType = rt) && !meth.locks && decide (parseMethodDescriptor y.desc = some meth.sig)) = true) : (Jvm.Cond.code y bytes mx rt).before a s = true := by
  simp only [Bool.and_eq_true, beq_iff_eq, Bool.not_eq_true', decide_eq_true_eq] at h5
  obtain ⟨⟨⟨⟨⟨g1, g2⟩, g3⟩, g4⟩, g5⟩, g6⟩ := h5
  simp [Cond.before, Cond.holds, Cond.value, h1, h2, h3, h4, g1, g2, g3, g4, g5, g6]
def isCode : Jvm.Cond → Bool
  | .code _ _ _ _ => true
  | _ => false
theorem all_split {L : List Jvm.Cond} {P : Jvm.Cond → Bool} (h1 : L.all (fun c => isCode c || P c) = true) (h2 : ∀ c ∈ L.filter isCode, P c = true) : L.all P = true := by
  refine List.all_eq_true.mpr fun c hc => ?_
  have h := List.all_eq_true.mp h1 c hc
  rcases Bool.eq_false_or_eq_true (isCode c) with hi | hi
  · exact h2 c (List.mem_filter.mpr ⟨hc, hi⟩)
  · simpa [hi] using h
set_option maxRecDepth 65536 in
theorem w_c0 : (Jvm.Cond.code x code maxLocals ret).before args0 about1 = true := code_word (m := ⟨1, 2⟩) (meth := k1m2) (c := k1c2) (by decide +kernel) rfl rfl rfl (by decide +kernel)
set_option maxRecDepth 65536 in
theorem w_c1 : (Jvm.Cond.code ({ cls := "com/example/chronogate/chronogate/Substream", name := "<init>", desc := "()V" } : Jvm.MethodName) prog_28_method_1_code (1 : Nat) (Option.none : Option Jvm.ClassFile.FieldType)).before args0 about1 = true := code_word (m := ⟨2, 0⟩) (meth := k2m0) (c := k2c0) (by decide +kernel) rfl rfl rfl (by decide +kernel)
set_option maxRecDepth 65536 in
theorem w_c2 : (Jvm.Cond.code ({ cls := "java/lang/Object", name := "<init>", desc := "()V" } : Jvm.MethodName) object_method_1_code (1 : Nat) (Option.none : Option Jvm.ClassFile.FieldType)).before args0 about1 = true := code_word (m := ⟨0, 0⟩) (meth := k0m0) (c := k0c0) (by decide +kernel) rfl rfl rfl (by decide +kernel)
set_option maxRecDepth 65536 in
theorem w_c3 : (Jvm.Cond.code ({ cls := "com/example/chronogate/chronogate/ReleaseQueue", name := "<init>", desc := "()V" } : Jvm.MethodName) prog_24_method_1_code (1 : Nat) (Option.none : Option Jvm.ClassFile.FieldType)).before args0 about1 = true := code_word (m := ⟨4, 0⟩) (meth := k4m0) (c := k4c0) (by decide +kernel) rfl rfl rfl (by decide +kernel)
set_option maxRecDepth 65536 in
theorem w_c4 : (Jvm.Cond.code ({ cls := "com/example/chronogate/chronogate/ReleaseQueue", name := "newArray", desc := "(I)[Lcom/example/chronogate/chronogate/Event;" } : Jvm.MethodName) prog_24_method_8_code (1 : Nat) (Option.some (Jvm.ClassFile.FieldType.array (Jvm.ClassFile.FieldType.object "com/example/chronogate/chronogate/Event")))).before args0 about1 = true := code_word (m := ⟨4, 2⟩) (meth := k4m2) (c := k4c2) (by decide +kernel) rfl rfl rfl (by decide +kernel)
set_option maxRecDepth 65536 in
theorem w_c5 : (Jvm.Cond.code ({ cls := "java/util/ArrayList", name := "<init>", desc := "()V" } : Jvm.MethodName) jdk_38_method_2_code (1 : Nat) (Option.none : Option Jvm.ClassFile.FieldType)).before args0 about1 = true := code_word (m := ⟨14, 0⟩) (meth := k14m0) (c := k14c0) (by decide +kernel) rfl rfl rfl (by decide +kernel)
set_option maxRecDepth 65536 in
theorem w_c6 : (Jvm.Cond.code ({ cls := "java/util/AbstractList", name := "<init>", desc := "()V" } : Jvm.MethodName) jdk_39_method_1_code (1 : Nat) (Option.none : Option Jvm.ClassFile.FieldType)).before args0 about1 = true := code_word (m := ⟨10, 0⟩) (meth := k10m0) (c := k10c0) (by decide +kernel) rfl rfl rfl (by decide +kernel)
set_option maxRecDepth 65536 in
theorem w_c7 : (Jvm.Cond.code ({ cls := "java/util/AbstractCollection", name := "<init>", desc := "()V" } : Jvm.MethodName) jdk_22_method_1_code (1 : Nat) (Option.none : Option Jvm.ClassFile.FieldType)).before args0 about1 = true := code_word (m := ⟨7, 0⟩) (meth := k7m0) (c := k7c0) (by decide +kernel) rfl rfl rfl (by decide +kernel)
set_option maxRecDepth 65536 in
theorem w_c8 : (Jvm.Cond.code ({ cls := "com/example/chronogate/chronogate/Event", name := "<init>", desc := "(JLjava/util/List;Ljava/lang/Object;J)V" } : Jvm.MethodName) prog_8_method_1_code (7 : Nat) (Option.none : Option Jvm.ClassFile.FieldType)).before args0 about1 = true := code_word (m := ⟨5, 0⟩) (meth := k5m0) (c := k5c0) (by decide +kernel) rfl rfl rfl (by decide +kernel)
set_option maxRecDepth 65536 in
theorem w_c9 : (Jvm.Cond.code ({ cls := "com/example/chronogate/chronogate/Substream", name := "delivered", desc := "()Z" } : Jvm.MethodName) prog_28_method_4_code (1 : Nat) (Option.some Jvm.ClassFile.FieldType.boolean)).before args0 about1 = true := code_word (m := ⟨2, 2⟩) (meth := k2m2) (c := k2c2) (by decide +kernel) rfl rfl rfl (by decide +kernel)
set_option maxRecDepth 65536 in
theorem w_c10 : (Jvm.Cond.code ({ cls := "com/example/chronogate/chronogate/Substream", name := "punctuate", desc := "(J)V" } : Jvm.MethodName) prog_28_method_7_code (3 : Nat) (Option.none : Option Jvm.ClassFile.FieldType)).before args0 about1 = true := code_word (m := ⟨2, 4⟩) (meth := k2m4) (c := k2c4) (by decide +kernel) rfl rfl rfl (by decide +kernel)
set_option maxRecDepth 65536 in
theorem w_c11 : (Jvm.Cond.code ({ cls := "java/lang/Math", name := "max", desc := "(JJ)J" } : Jvm.MethodName) jdk_29_method_66_code (4 : Nat) (Option.some Jvm.ClassFile.FieldType.long)).before args0 about1 = true := code_word (m := ⟨15, 1⟩) (meth := k15m1) (c := k15c1) (by decide +kernel) rfl rfl rfl (by decide +kernel)
set_option maxRecDepth 65536 in
theorem w_c12 : (Jvm.Cond.code ({ cls := "com/example/chronogate/chronogate/Substream", name := "add", desc := "(Lcom/example/chronogate/chronogate/Event;)V" } : Jvm.MethodName) prog_28_method_5_code (2 : Nat) (Option.none : Option Jvm.ClassFile.FieldType)).before args0 about1 = true := code_word (m := ⟨2, 3⟩) (meth := k2m3) (c := k2c3) (by decide +kernel) rfl rfl rfl (by decide +kernel)
set_option maxRecDepth 65536 in
theorem w_c13 : (Jvm.Cond.code ({ cls := "com/example/chronogate/chronogate/ReleaseQueue", name := "add", desc := "(Lcom/example/chronogate/chronogate/Event;)V" } : Jvm.MethodName) prog_24_method_2_code (4 : Nat) (Option.none : Option Jvm.ClassFile.FieldType)).before args0 about1 = true := code_word (m := ⟨4, 1⟩) (meth := k4m1) (c := k4c1) (by decide +kernel) rfl rfl rfl (by decide +kernel)
set_option maxRecDepth 65536 in
theorem w_c14 : (Jvm.Cond.code ({ cls := "com/example/chronogate/chronogate/Event", name := "timestamp", desc := "()J" } : Jvm.MethodName) prog_8_method_2_code (1 : Nat) (Option.some Jvm.ClassFile.FieldType.long)).before args0 about1 = true := code_word (m := ⟨5, 1⟩) (meth := k5m1) (c := k5c1) (by decide +kernel) rfl rfl rfl (by decide +kernel)
set_option maxRecDepth 65536 in
theorem w_c15 : (Jvm.Cond.code ({ cls := "com/example/chronogate/chronogate/SubstreamDeliveredPinLaw", name := "inRange", desc := "(J)J" } : Jvm.MethodName) method_2_code (2 : Nat) (Option.some Jvm.ClassFile.FieldType.long)).before args0 about1 = true := code_word (m := ⟨1, 1⟩) (meth := k1m1) (c := k1c1) (by decide +kernel) rfl rfl rfl (by decide +kernel)
set_option maxRecDepth 65536 in
theorem w_c16 : (Jvm.Cond.code ({ cls := "com/example/chronogate/chronogate/Substream", name := "arrive", desc := "(J)V" } : Jvm.MethodName) prog_28_method_2_code (3 : Nat) (Option.none : Option Jvm.ClassFile.FieldType)).before args0 about1 = true := code_word (m := ⟨2, 1⟩) (meth := k2m1) (c := k2c1) (by decide +kernel) rfl rfl rfl (by decide +kernel)
set_option maxRecDepth 65536 in
theorem w_c17 : (Jvm.Cond.code ({ cls := "com/example/chronogate/chronogate/Event", name := "releaseOrder", desc := "(Lcom/example/chronogate/chronogate/Event;Lcom/example/chronogate/chronogate/Event;)I" } : Jvm.MethodName) prog_8_method_6_code (3 : Nat) (Option.some Jvm.ClassFile.FieldType.int)).before args0 about1 = true := code_word (m := ⟨5, 2⟩) (meth := k5m2) (c := k5c2) (by decide +kernel) rfl rfl rfl (by decide +kernel)
set_option maxRecDepth 65536 in
theorem w_c18 : (Jvm.Cond.code ({ cls := "java/lang/Long", name := "compare", desc := "(JJ)I" } : Jvm.MethodName) jdk_35_method_42_code (4 : Nat) (Option.some Jvm.ClassFile.FieldType.int)).before args0 about1 = true := code_word (m := ⟨20, 0⟩) (meth := k20m0) (c := k20c0) (by decide +kernel) rfl rfl rfl (by decide +kernel)
def codes1 : List Jvm.Cond := [Jvm.Cond.code x code maxLocals ret, Jvm.Cond.code ({ cls := "com/example/chronogate/chronogate/Substream", name := "<init>", desc := "()V" } : Jvm.MethodName) prog_28_method_1_code (1 : Nat) (Option.none : Option Jvm.ClassFile.FieldType), Jvm.Cond.code ({ cls := "java/lang/Object", name := "<init>", desc := "()V" } : Jvm.MethodName) object_method_1_code (1 : Nat) (Option.none : Option Jvm.ClassFile.FieldType), Jvm.Cond.code ({ cls := "com/example/chronogate/chronogate/ReleaseQueue", name := "<init>", desc := "()V" } : Jvm.MethodName) prog_24_method_1_code (1 : Nat) (Option.none : Option Jvm.ClassFile.FieldType), Jvm.Cond.code ({ cls := "com/example/chronogate/chronogate/ReleaseQueue", name := "newArray", desc := "(I)[Lcom/example/chronogate/chronogate/Event;" } : Jvm.MethodName) prog_24_method_8_code (1 : Nat) (Option.some (Jvm.ClassFile.FieldType.array (Jvm.ClassFile.FieldType.object "com/example/chronogate/chronogate/Event"))), Jvm.Cond.code ({ cls := "java/util/ArrayList", name := "<init>", desc := "()V" } : Jvm.MethodName) jdk_38_method_2_code (1 : Nat) (Option.none : Option Jvm.ClassFile.FieldType), Jvm.Cond.code ({ cls := "java/util/AbstractList", name := "<init>", desc := "()V" } : Jvm.MethodName) jdk_39_method_1_code (1 : Nat) (Option.none : Option Jvm.ClassFile.FieldType), Jvm.Cond.code ({ cls := "java/util/AbstractCollection", name := "<init>", desc := "()V" } : Jvm.MethodName) jdk_22_method_1_code (1 : Nat) (Option.none : Option Jvm.ClassFile.FieldType), Jvm.Cond.code ({ cls := "com/example/chronogate/chronogate/Event", name := "<init>", desc := "(JLjava/util/List;Ljava/lang/Object;J)V" } : Jvm.MethodName) prog_8_method_1_code (7 : Nat) (Option.none : Option Jvm.ClassFile.FieldType), Jvm.Cond.code ({ cls := "com/example/chronogate/chronogate/Substream", name := "delivered", desc := "()Z" } : Jvm.MethodName) prog_28_method_4_code (1 : Nat) (Option.some Jvm.ClassFile.FieldType.boolean), Jvm.Cond.code ({ cls := "com/example/chronogate/chronogate/Substream", name := "punctuate", desc := "(J)V" } : Jvm.MethodName) prog_28_method_7_code (3 : Nat) (Option.none : Option Jvm.ClassFile.FieldType), Jvm.Cond.code ({ cls := "java/lang/Math", name := "max", desc := "(JJ)J" } : Jvm.MethodName) jdk_29_method_66_code (4 : Nat) (Option.some Jvm.ClassFile.FieldType.long), Jvm.Cond.code ({ cls := "com/example/chronogate/chronogate/Substream", name := "add", desc := "(Lcom/example/chronogate/chronogate/Event;)V" } : Jvm.MethodName) prog_28_method_5_code (2 : Nat) (Option.none : Option Jvm.ClassFile.FieldType), Jvm.Cond.code ({ cls := "com/example/chronogate/chronogate/ReleaseQueue", name := "add", desc := "(Lcom/example/chronogate/chronogate/Event;)V" } : Jvm.MethodName) prog_24_method_2_code (4 : Nat) (Option.none : Option Jvm.ClassFile.FieldType), Jvm.Cond.code ({ cls := "com/example/chronogate/chronogate/Event", name := "timestamp", desc := "()J" } : Jvm.MethodName) prog_8_method_2_code (1 : Nat) (Option.some Jvm.ClassFile.FieldType.long), Jvm.Cond.code ({ cls := "com/example/chronogate/chronogate/SubstreamDeliveredPinLaw", name := "inRange", desc := "(J)J" } : Jvm.MethodName) method_2_code (2 : Nat) (Option.some Jvm.ClassFile.FieldType.long), Jvm.Cond.code ({ cls := "com/example/chronogate/chronogate/Substream", name := "arrive", desc := "(J)V" } : Jvm.MethodName) prog_28_method_2_code (3 : Nat) (Option.none : Option Jvm.ClassFile.FieldType), Jvm.Cond.code ({ cls := "com/example/chronogate/chronogate/Event", name := "releaseOrder", desc := "(Lcom/example/chronogate/chronogate/Event;Lcom/example/chronogate/chronogate/Event;)I" } : Jvm.MethodName) prog_8_method_6_code (3 : Nat) (Option.some Jvm.ClassFile.FieldType.int), Jvm.Cond.code ({ cls := "java/lang/Long", name := "compare", desc := "(JJ)I" } : Jvm.MethodName) jdk_35_method_42_code (4 : Nat) (Option.some Jvm.ClassFile.FieldType.int)]
set_option maxRecDepth 65536 in
theorem codes_eq : words1.filter isCode = codes1 := rfl
theorem w_codes : ∀ c ∈ words1.filter isCode, c.before args0 about1 = true := by
  rw [codes_eq]
  intro c hc
  simp only [codes1, List.mem_cons, List.not_mem_nil, or_false] at hc
  rcases hc with rfl | rfl | rfl | rfl | rfl | rfl | rfl | rfl | rfl | rfl | rfl | rfl | rfl | rfl | rfl | rfl | rfl | rfl | rfl
  · exact w_c0
  · exact w_c1
  · exact w_c2
  · exact w_c3
  · exact w_c4
  · exact w_c5
  · exact w_c6
  · exact w_c7
  · exact w_c8
  · exact w_c9
  · exact w_c10
  · exact w_c11
  · exact w_c12
  · exact w_c13
  · exact w_c14
  · exact w_c15
  · exact w_c16
  · exact w_c17
  · exact w_c18
set_option maxRecDepth 65536 in
theorem w_t1 : (words1.take 24).all (fun c => isCode c || c.before args0 about1) = true := by decide +kernel
set_option maxRecDepth 65536 in
theorem w_t2 : ((words1.drop 24).take 24).all (fun c => isCode c || c.before args0 about1) = true := by decide +kernel
set_option maxRecDepth 65536 in
theorem w_t3 : (((words1.drop 24).drop 24).take 24).all (fun c => isCode c || c.before args0 about1) = true := by decide +kernel
set_option maxRecDepth 65536 in
theorem w_t4 : ((((words1.drop 24).drop 24).drop 24).take 24).all (fun c => isCode c || c.before args0 about1) = true := by decide +kernel
set_option maxRecDepth 65536 in
theorem w_t5 : (((((words1.drop 24).drop 24).drop 24).drop 24).take 24).all (fun c => isCode c || c.before args0 about1) = true := by decide +kernel
set_option maxRecDepth 65536 in
theorem w_t6 : (((((words1.drop 24).drop 24).drop 24).drop 24).drop 24).all (fun c => isCode c || c.before args0 about1) = true := by decide +kernel
theorem w_tables : (allAtoms (Jvm.Cond.code x code maxLocals ret :: tables_1)).before args0 about1 = true := by
  rw [allAtoms_all]
  show words1.all (fun c => c.before args0 about1) = true
  refine all_split ?_ w_codes
  rw [← List.take_append_drop 24 words1, List.all_append, w_t1, ← List.take_append_drop 24 (words1.drop 24), List.all_append, w_t2, ← List.take_append_drop 24 ((words1.drop 24).drop 24), List.all_append, w_t3, ← List.take_append_drop 24 (((words1.drop 24).drop 24).drop 24), List.all_append, w_t4, ← List.take_append_drop 24 ((((words1.drop 24).drop 24).drop 24).drop 24), List.all_append, w_t5, w_t6]
  rfl
set_option maxRecDepth 65536 in
theorem w_rest : rest_1_c.before args0 about1 = true := by decide +kernel
set_option maxRecDepth 65536 in
theorem w_case : (Jvm.Cond.and given_1 narrow_1).before args0 about1 = true := by decide +kernel
theorem w_applies : (headSpec (Jvm.Cond.code x code maxLocals ret :: tables_1) room_1).applies x e0.platform about1 = true :=
  (Spec.applies_iff w_frames).mpr ⟨w_running, w_runnable, w_alone, w_named, w_hears, w_ripe, w_room, w_tables⟩
theorem atStart : AtStart classFile x code maxLocals ret World_1 tables_1 room_1 Calls_1 rest_1 Pre_1 launch0 p0 e0 about1 theMethod args0 below0 :=
  ⟨lists_1, trivial, launch0.admits_env _ _ _, launch0.least_env, fairChoices_fair.cas, fairChoices_fair.clock, w_frames, w_args, w_heap, w_applies, trivial, w_rest, w_case⟩
end start1
theorem witness_1 : WitnessClaimed_1 := ⟨start1.p0, start1.e0, start1.about1, start1.theMethod, start1.args0, start1.below0, start1.atStart⟩
end Jvm.Pilot.@@N@@
