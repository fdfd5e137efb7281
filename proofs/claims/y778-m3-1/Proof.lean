import JvmDerived
import JvmDerived.Pilot.@@N@@Statement
import JvmDerived.Pilot.@@N@@Code
set_option linter.unusedVariables false
set_option linter.unusedSimpArgs false

namespace Jvm.Sy
open Jvm Jvm.ClassFile Sem Op Lib Jvm.Free Jvm.Stand Jvm.LawKit Jvm.RoadKit Bundle

abbrev WKey := String × String × String
abbrev WObj := (FieldType × List Value) ⊕ (String × List (WKey × Value))
abbrev WHp := List WObj
def gv (ρ : Nat → Nat) : Value → Value
  | .ref a => .ref (ρ a)
  | .int x => .int x
  | .long x => .long x
  | .float x => .float x
  | .double x => .double x
  | .null => .null
  | .retAddr q => .retAddr q
def gs (ρ : Nat → Nat) : Slot → Slot
  | .val v => .val (gv ρ v)
  | .unset => .unset
  | .second => .second
def gS (ρ : Nat → Nat) (S : List Value) : List Value := S.map (gv ρ)
def gL (ρ : Nat → Nat) (L : List Slot) : Array Slot := (L.map (gs ρ)).toArray
section Vals
variable {ρ : Nat → Nat} {v : Value} {ty : FieldType}
theorem cat_gv : (gv ρ v).category = v.category := by cases v <;> rfl
theorem isRef_gv : (gv ρ v).isRef = v.isRef := by cases v <;> rfl
theorem fits_gv : fits ty (gv ρ v) = fits ty v := by cases ty <;> cases v <;> rfl
theorem narrow_gv : narrow ty (gv ρ v) = gv ρ (narrow ty v) := by cases ty <;> cases v <;> rfl
theorem dv_gv : gv ρ (defaultValue ty) = defaultValue ty := by cases ty <;> rfl
theorem sum_gS (S : List Value) : ((gS ρ S).map fun v => v.category).sum = (S.map Value.category).sum := by
  induction S with
  | nil => rfl
  | cons a t ih => simp only [gS, List.map_cons, List.sum_cons, cat_gv] at ih ⊢; rw [ih]
theorem gL_get (L : List Slot) (k : Nat) : (gL ρ L)[k]? = (L[k]?).map (gs ρ) := by simp [gL]
theorem gL_val {L : List Slot} {k : Nat} (h : L[k]? = some (.val v)) : (gL ρ L)[k]? = some (.val (gv ρ v)) := by rw [gL_get, h]; rfl
theorem gL_size (L : List Slot) : (gL ρ L).size = L.length := by simp [gL]
end Vals
def ArrOk (Z : State) (ρ : Nat → Nat) (h : Heap) (a : Addr) (ty : FieldType) (vs : List Value) : Prop :=
  ∃ cl : Cell, Arr Z h a cl ty ∧ cl.slots.toList = vs.map (gv ρ) ∧ (∀ C, ty = .object C → Ovr Z cl.cls C) ∧ ∀ v ∈ vs, fits ty v = true
def ObjOk (Z : State) (ρ : Nat → Nat) (h : Heap) (a : Addr) (C : String) (fs : List (WKey × Value)) : Prop :=
  Exa Z h a C ∧ (∀ (i : Nat) (O n d : String) (v : Value), fs[i]? = some ((O, n, d), v) → Fld Z h a O n d (gv ρ v)) ∧
    ∀ (i j : Nat) (k1 k2 : WKey) (v1 v2 : Value), i ≠ j → fs[i]? = some (k1, v1) → fs[j]? = some (k2, v2) → RoadKit.slotOf Z k1.1 k1.2.1 k1.2.2 ≠ RoadKit.slotOf Z k2.1 k2.2.1 k2.2.2
def CellOk (Z : State) (ρ : Nat → Nat) (h : Heap) (a : Addr) : WObj → Prop
  | .inl q => ArrOk Z ρ h a q.1 q.2
  | .inr q => ObjOk Z ρ h a q.1 q.2
def WDen (Z : State) (ρ : Nat → Nat) (n0 : Nat) (σ : WHp) (h : Heap) : Prop :=
  h.size = n0 + σ.length ∧ σ.length ≤ 1000 ∧ ∀ (k : Nat) (o : WObj), σ[k]? = some o → CellOk Z ρ h (n0 + k) o
section Heaps
variable {Z : State} {ρ : Nat → Nat} {h h' : Heap} {a b : Addr} {o : WObj} {n0 k sl : Nat} {σ : WHp} {v : Value}
theorem CellOk.ext (F : CellOk Z ρ h a o) (E : Ext h h') : CellOk Z ρ h' a o := by
  rcases o with ⟨ty, vs⟩ | ⟨C, fs⟩
  · obtain ⟨cl, A, r⟩ := F; exact ⟨cl, A.ext E, r⟩
  · obtain ⟨F1, F2, F3⟩ := F; exact ⟨F1.ext E, fun i O n d v q => (F2 i O n d v q).ext E, F3⟩
theorem CellOk.other (F : CellOk Z ρ h b o) (W : Wr h h' a sl v) (q : b ≠ a) : CellOk Z ρ h' b o := by
  rcases o with ⟨ty, vs⟩ | ⟨C, fs⟩
  · obtain ⟨cl, A, r⟩ := F; exact ⟨cl, A.other W q, r⟩
  · obtain ⟨F1, F2, F3⟩ := F; exact ⟨F1.wr W, fun i O n d v y => (F2 i O n d v y).other W (Or.inl q), F3⟩
theorem WDen.push (D : WDen Z ρ n0 σ h) (E : Ext h h') (hs : h'.size = h.size + 1) (hl : σ.length < 1000) (F : CellOk Z ρ h' (n0 + σ.length) o) : WDen Z ρ n0 (σ ++ [o]) h' := by
  obtain ⟨D1, D2, D3⟩ := D
  refine ⟨by rw [hs, D1]; simp [Nat.add_assoc], by simp; omega, fun k o' hk => ?_⟩
  by_cases q : k < σ.length
  · rw [List.getElem?_append_left q] at hk; exact (D3 k o' hk).ext E
  · rw [List.getElem?_append_right (by omega)] at hk
    have e : k - σ.length = 0 := by
      rcases Nat.eq_zero_or_pos (k - σ.length) with z | z
      · exact z
      · rw [List.getElem?_eq_none (by simp; omega)] at hk; cases hk
    rw [e] at hk
    cases hk
    have e2 : k = σ.length := by omega
    rw [e2]; exact F
theorem WDen.put (D : WDen Z ρ n0 σ h) (W : Wr h h' (n0 + k) sl v) (F : CellOk Z ρ h' (n0 + k) o) : WDen Z ρ n0 (σ.set k o) h' := by
  obtain ⟨D1, D2, D3⟩ := D
  refine ⟨by rw [W.size, D1]; simp, by simp; exact D2, fun j o' hj => ?_⟩
  by_cases q : j = k
  · subst q
    rw [List.getElem?_set] at hj
    simp only [if_true] at hj
    split at hj
    · cases hj; exact F
    · cases hj
  · rw [List.getElem?_set_ne (Ne.symm q)] at hj
    exact (D3 j o' hj).other W fun e => q (Nat.add_left_cancel e)
theorem WDen.lt (D : WDen Z ρ n0 σ h) (hk : σ[k]? = some o) : k < 1000 := by
  have := (List.getElem?_eq_some_iff.mp hk).1
  have := D.2.1
  omega
theorem ArrOk.size {ty : FieldType} {vs : List Value} {cl : Cell} (e : cl.slots.toList = vs.map (gv ρ)) : cl.slots.size = vs.length := by
  have := congrArg List.length e
  simpa using this
theorem ArrOk.at {vs : List Value} {cl : Cell} (e : cl.slots.toList = vs.map (gv ρ)) {i : Nat} {w : Value} (hw : vs[i]? = some w) : cl.slots[i]? = some (gv ρ w) := by
  rw [← Array.getElem?_toList, e, List.getElem?_map, hw]; rfl
theorem ArrOk.set {ty : FieldType} {vs : List Value} {cl : Cell} (A : Arr Z h a cl ty) (e : cl.slots.toList = vs.map (gv ρ)) (hO : ∀ C, ty = .object C → Ovr Z cl.cls C) (hf : ∀ v ∈ vs, fits ty v = true) {i : Nat} {w : Value} (W : Wr h h' a i (gv ρ w)) (hw : fits ty w = true) : ArrOk Z ρ h' a ty (vs.set i w) := by
  refine ⟨cl.setSlot i (gv ρ w), A.same W, ?_, hO, fun y hy => ?_⟩
  · show (cl.slots.setIfInBounds i (gv ρ w)).toList = _
    rw [Array.toList_setIfInBounds, e, List.map_set]
  · rcases List.mem_or_eq_of_mem_set hy with q | q
    · exact hf y q
    · rw [q]; exact hw
end Heaps
abbrev WMC := (State × (Nat → Nat) × Nat) × (String × ByteArray × String × Option FieldType × Nat) × (Nat × Nat × Nat × Nat)
abbrev WMC.Z (G : WMC) : State := G.1.1
abbrev WMC.ρ (G : WMC) : Nat → Nat := G.1.2.1
abbrev WMC.n0 (G : WMC) : Nat := G.1.2.2
abbrev WMC.own (G : WMC) : String := G.2.1.1
abbrev WMC.bytes (G : WMC) : ByteArray := G.2.1.2.1
abbrev WMC.nm (G : WMC) : String := G.2.1.2.2.1
abbrev WMC.ret (G : WMC) : Option FieldType := G.2.1.2.2.2.1
abbrev WMC.ml (G : WMC) : Nat := G.2.1.2.2.2.2
abbrev WMC.j0 (G : WMC) : Nat := G.2.2.1
abbrev WMC.u0 (G : WMC) : Nat := G.2.2.2.1
abbrev WMC.fr (G : WMC) : Nat := G.2.2.2.2.1
abbrev WMC.lo (G : WMC) : Nat := G.2.2.2.2.2
abbrev WCfg := Nat × List Slot × List Value × WHp × Nat
def frm (G : WMC) (m : MethodId) (A : WCfg) : JFrame := mkF m A.1 (gL G.ρ A.2.1) (gS G.ρ A.2.2.1)
def WCtx (G : WMC) (p : Program) (R : Room) (s : State) (m : MethodId) (meth : Method) (c : Code) : Prop :=
  p.tables.exec = Jvm.exec ∧ c.code = G.bytes ∧ G.Z.Warmed39 s.vm ∧ s.vm.findClass G.own = some m.cls ∧ meth.name = G.nm ∧ meth.sig.returnType = G.ret ∧ c.maxLocals = G.ml ∧ s.heap.size = G.n0 + G.j0 ∧ (∀ k, k < 1000 → G.ρ k = G.n0 + k) ∧ (∀ i j, G.ρ i = G.ρ j → i = j) ∧ G.fr ≤ R.frames ∧ G.lo ≤ R.locals
def WHere (G : WMC) (p : Program) (l : Launch) (e : Env) (R : Room) (s : State) (m : MethodId) (args : Array Value) (below : List Frame) (meth : Method) (c : Code) (σ : WHp) (u : Nat) (T : State) : Prop :=
  ∃ locs ce sl, σ.length = G.j0 + ce ∧ u = G.u0 + sl ∧ Stand p l e R s m args below meth c T locs ce sl ∧ WDen G.Z G.ρ G.n0 σ T.heap ∧ Fr G.n0 locs
def WStep (G : WMC) (A B : WCfg) : Prop :=
  A.2.2.2.1.length ≤ B.2.2.2.1.length ∧ A.2.2.2.2 ≤ B.2.2.2.2 ∧
  ∀ (p : Program) (l : Launch) (e : Env) (R : Room) (s : State) (m : MethodId) (args : Array Value) (below : List Frame) (meth : Method) (c : Code),
    WCtx G p R s m meth c → B.2.2.2.1.length ≤ G.j0 + R.cells → B.2.2.2.2 ≤ G.u0 + R.slots →
    ∀ T, WHere G p l e R s m args below meth c A.2.2.2.1 A.2.2.2.2 T →
      ∃ T', WHere G p l e R s m args below meth c B.2.2.2.1 B.2.2.2.2 T' ∧
        ∀ target, Steps p.tables e below (T'.setTop (frm G m B)) target → Steps p.tables e below (T.setTop (frm G m A)) target
def WRun (G : WMC) (A : WCfg) (v : Option Value) (σ' : WHp) (u' : Nat) : Prop :=
  A.2.2.2.1.length ≤ σ'.length ∧ A.2.2.2.2 ≤ u' ∧ (G.ret = none → v = none) ∧
  ∀ (p : Program) (l : Launch) (e : Env) (R : Room) (s : State) (m : MethodId) (args : Array Value) (below : List Frame) (meth : Method) (c : Code),
    WCtx G p R s m meth c → σ'.length ≤ G.j0 + R.cells → u' ≤ G.u0 + R.slots →
    ∀ T, WHere G p l e R s m args below meth c A.2.2.2.1 A.2.2.2.2 T →
      ∃ T', WHere G p l e R s m args below meth c σ' u' T' ∧
        ∀ fs, (∀ (f : JFrame) (acts : List Action), f.method = m → f.locked = none → f.entered = [] → (doReturn e (T'.setTop f) acts (v.map (gv G.ρ))).1 = T'.setFrames fs) →
          Steps p.tables e below (T.setTop (frm G m A)) (T'.setFrames fs)
def WGo (G : WMC) (A : WCfg) (Q : Option Value → WHp → Nat → Prop) : Prop := ∃ v σ' u', Q v σ' u' ∧ WRun G A v σ' u'
def AtI (bytes : ByteArray) (pc : Nat) (i : Instr) (len nx : Nat) : Prop := decode bytes pc = .ok (i, len) ∧ pc + len = nx
def AtJ (bytes : ByteArray) (pc : Nat) (f : Int → Instr) (nx tgt : Nat) : Prop := ∃ o : Int, decode bytes pc = .ok (f o, 3) ∧ pc + 3 = nx ∧ 0 ≤ (pc : Int) + o ∧ ((pc : Int) + o).toNat = tgt
section Walk
variable {G : WMC} {A B C : WCfg} {Q Q' : Option Value → WHp → Nat → Prop}
theorem WStep.refl (A : WCfg) : WStep G A A := ⟨Nat.le_refl _, Nat.le_refl _, fun _ _ _ _ _ _ _ _ _ _ _ _ _ T hT => ⟨T, hT, fun _ k => k⟩⟩
theorem WStep.trans (h1 : WStep G A B) (h2 : WStep G B C) : WStep G A C := by
  obtain ⟨a1, a2, a3⟩ := h1
  obtain ⟨b1, b2, b3⟩ := h2
  refine ⟨Nat.le_trans a1 b1, Nat.le_trans a2 b2, fun p l e R s m args below meth c hC hc hs T hT => ?_⟩
  obtain ⟨T1, hT1, k1⟩ := a3 p l e R s m args below meth c hC (Nat.le_trans b1 hc) (Nat.le_trans b2 hs) T hT
  obtain ⟨T2, hT2, k2⟩ := b3 p l e R s m args below meth c hC hc hs T1 hT1
  exact ⟨T2, hT2, fun t k => k1 t (k2 t k)⟩
theorem WRun.s {v : Option Value} {σ' : WHp} {u' : Nat} (h1 : WStep G A B) (h2 : WRun G B v σ' u') : WRun G A v σ' u' := by
  obtain ⟨a1, a2, a3⟩ := h1
  obtain ⟨b1, b2, b0, b3⟩ := h2
  refine ⟨Nat.le_trans a1 b1, Nat.le_trans a2 b2, b0, fun p l e R s m args below meth c hC hc hs T hT => ?_⟩
  obtain ⟨T1, hT1, k1⟩ := a3 p l e R s m args below meth c hC (Nat.le_trans b1 hc) (Nat.le_trans b2 hs) T hT
  obtain ⟨T2, hT2, k2⟩ := b3 p l e R s m args below meth c hC hc hs T1 hT1
  exact ⟨T2, hT2, fun fs h => k1 _ (k2 fs h)⟩
theorem WGo.s (h1 : WStep G A B) (h2 : WGo G B Q) : WGo G A Q := by
  obtain ⟨v, σ', u', q, r⟩ := h2
  exact ⟨v, σ', u', q, r.s h1⟩
theorem WGo.mono (h1 : WGo G A Q) (h : ∀ v σ' u', Q v σ' u' → Q' v σ' u') : WGo G A Q' := by
  obtain ⟨v, σ', u', q, r⟩ := h1
  exact ⟨v, σ', u', h _ _ _ q, r⟩
theorem WStep.pure {pc nx : Nat} {L L' : List Slot} {S S' : List Value} {σ : WHp} {u : Nat}
    (h : ∀ {p : Program} {e : Env} {below : List Frame} {T target : State} {m : MethodId} {c : Code}, At T m c below → p.tables.exec = Jvm.exec → c.code = G.bytes → (∀ i j, G.ρ i = G.ρ j → i = j) →
      Steps p.tables e below (T.setTop (mkF m nx (gL G.ρ L') (gS G.ρ S'))) target → Steps p.tables e below (T.setTop (mkF m pc (gL G.ρ L) (gS G.ρ S))) target) :
    WStep G (pc, L, S, σ, u) (nx, L', S', σ, u) := by
  refine ⟨Nat.le_refl _, Nat.le_refl _, fun p l e R s m args below meth c hC hc hs T hT => ⟨T, hT, fun target k => ?_⟩⟩
  obtain ⟨locs, ce, sl, h1, h2, X, D, N⟩ := hT
  exact h X.here hC.1 hC.2.1 hC.2.2.2.2.2.2.2.2.2.1 k
end Walk
end Jvm.Sy
namespace Jvm.Sy
open Jvm Jvm.ClassFile Sem Op Lib Jvm.Free Jvm.Stand Jvm.LawKit Jvm.RoadKit Bundle
section Pure
variable {G : WMC} {pc nx tgt u : Nat} {L L' : List Slot} {S : List Value} {σ : WHp}
theorem WStep.iload {k : Nat} {x : Int32} (d : AtI G.bytes pc (.iload k) 2 nx) (hl : L[k]? = some (.val (.int x))) : WStep G (pc, L, S, σ, u) (nx, L, .int x :: S, σ, u) := by
  obtain ⟨d, rfl⟩ := d
  exact WStep.pure fun hA hx hby _ k => XS.iload hA hx rfl (hb hby d) (gL_val hl) k
theorem WStep.iloadN {k : Fin 4} {x : Int32} (d : AtI G.bytes pc (.iload_n k) 1 nx) (hl : L[k.val]? = some (.val (.int x))) : WStep G (pc, L, S, σ, u) (nx, L, .int x :: S, σ, u) := by
  obtain ⟨d, rfl⟩ := d
  exact WStep.pure fun hA hx hby _ k => XS.iloadN hA hx rfl (hb hby d) (gL_val hl) k
theorem WStep.lload {k : Nat} {x : Int64} (d : AtI G.bytes pc (.lload k) 2 nx) (hl : L[k]? = some (.val (.long x))) : WStep G (pc, L, S, σ, u) (nx, L, .long x :: S, σ, u) := by
  obtain ⟨d, rfl⟩ := d
  exact WStep.pure fun hA hx hby _ k => XS.lload hA hx rfl (hb hby d) (gL_val hl) k
theorem WStep.lloadN {k : Fin 4} {x : Int64} (d : AtI G.bytes pc (.lload_n k) 1 nx) (hl : L[k.val]? = some (.val (.long x))) : WStep G (pc, L, S, σ, u) (nx, L, .long x :: S, σ, u) := by
  obtain ⟨d, rfl⟩ := d
  exact WStep.pure fun hA hx hby _ k => XS.lloadN hA hx rfl (hb hby d) (gL_val hl) k
theorem WStep.aload {k : Nat} {x : Value} (d : AtI G.bytes pc (.aload k) 2 nx) (hl : L[k]? = some (.val x)) (hr : x.isRef = true) : WStep G (pc, L, S, σ, u) (nx, L, x :: S, σ, u) := by
  obtain ⟨d, rfl⟩ := d
  exact WStep.pure fun hA hx hby _ k => XS.aload hA hx rfl (hb hby d) (gL_val hl) (isRef_gv.trans hr) k
theorem WStep.aloadN {k : Fin 4} {x : Value} (d : AtI G.bytes pc (.aload_n k) 1 nx) (hl : L[k.val]? = some (.val x)) (hr : x.isRef = true) : WStep G (pc, L, S, σ, u) (nx, L, x :: S, σ, u) := by
  obtain ⟨d, rfl⟩ := d
  exact WStep.pure fun hA hx hby _ k => XS.aloadN hA hx rfl (hb hby d) (gL_val hl) (isRef_gv.trans hr) k
theorem WStep.istore {k : Nat} {x : Int32} (d : AtI G.bytes pc (.istore k) 2 nx) (hl : storeLocals (gL G.ρ L) k (.int x) = some (gL G.ρ L')) : WStep G (pc, L, .int x :: S, σ, u) (nx, L', S, σ, u) := by
  obtain ⟨d, rfl⟩ := d
  exact WStep.pure fun hA hx hby _ k => XS.istore hA hx rfl (hb hby d) rfl hl k
theorem WStep.istoreN {k : Fin 4} {x : Int32} (d : AtI G.bytes pc (.istore_n k) 1 nx) (hl : storeLocals (gL G.ρ L) k.val (.int x) = some (gL G.ρ L')) : WStep G (pc, L, .int x :: S, σ, u) (nx, L', S, σ, u) := by
  obtain ⟨d, rfl⟩ := d
  exact WStep.pure fun hA hx hby _ k => XS.istoreN hA hx rfl (hb hby d) rfl hl k
theorem WStep.astore {k : Nat} {x : Value} (d : AtI G.bytes pc (.astore k) 2 nx) (hr : x.isRef = true) (hl : storeLocals (gL G.ρ L) k (gv G.ρ x) = some (gL G.ρ L')) : WStep G (pc, L, x :: S, σ, u) (nx, L', S, σ, u) := by
  obtain ⟨d, rfl⟩ := d
  exact WStep.pure fun hA hx hby _ k => XS.astore hA hx rfl (hb hby d) rfl (isRef_gv.trans hr) hl k
theorem WStep.astoreN {k : Fin 4} {x : Value} (d : AtI G.bytes pc (.astore_n k) 1 nx) (hr : x.isRef = true) (hl : storeLocals (gL G.ρ L) k.val (gv G.ρ x) = some (gL G.ρ L')) : WStep G (pc, L, x :: S, σ, u) (nx, L', S, σ, u) := by
  obtain ⟨d, rfl⟩ := d
  exact WStep.pure fun hA hx hby _ k => XS.astoreN hA hx rfl (hb hby d) rfl (isRef_gv.trans hr) hl k
theorem WStep.iinc {k : Nat} {cst : Int} {x : Int32} (d : AtI G.bytes pc (.iinc k cst) 3 nx) (hl : L[k]? = some (.val (.int x))) (hl' : storeLocals (gL G.ρ L) k (.int (x + Int32.ofInt cst)) = some (gL G.ρ L')) : WStep G (pc, L, S, σ, u) (nx, L', S, σ, u) := by
  obtain ⟨d, rfl⟩ := d
  exact WStep.pure fun hA hx hby _ k => XS.iinc hA hx rfl (hb hby d) (gL_val hl) hl' k
theorem WStep.iconst {i : Int} (z : Int32) (d : AtI G.bytes pc (.iconst i) 1 nx) (hz : Int32.ofInt i = z) : WStep G (pc, L, S, σ, u) (nx, L, .int z :: S, σ, u) := by
  obtain ⟨d, rfl⟩ := d
  exact WStep.pure fun hA hx hby _ k => by subst hz; exact XS.iconst hA hx rfl (hb hby d) k
theorem WStep.bipush {i : Int} (z : Int32) (d : AtI G.bytes pc (.bipush i) 2 nx) (hz : (Int8.ofInt i).toInt32 = z) : WStep G (pc, L, S, σ, u) (nx, L, .int z :: S, σ, u) := by
  obtain ⟨d, rfl⟩ := d
  exact WStep.pure fun hA hx hby _ k => by subst hz; exact XS.bipush hA hx rfl (hb hby d) k
theorem WStep.aconstNull (d : AtI G.bytes pc .aconst_null 1 nx) : WStep G (pc, L, S, σ, u) (nx, L, .null :: S, σ, u) := by
  obtain ⟨d, rfl⟩ := d
  exact WStep.pure fun hA hx hby _ k => XS.aconstNull hA hx rfl (hb hby d) k
theorem WStep.iadd {x y : Int32} (d : AtI G.bytes pc .iadd 1 nx) : WStep G (pc, L, .int y :: .int x :: S, σ, u) (nx, L, .int (x + y) :: S, σ, u) := by
  obtain ⟨d, rfl⟩ := d
  exact WStep.pure fun hA hx hby _ k => XS.iadd hA hx rfl (hb hby d) rfl k
theorem WStep.isub {x y : Int32} (d : AtI G.bytes pc .isub 1 nx) : WStep G (pc, L, .int y :: .int x :: S, σ, u) (nx, L, .int (x - y) :: S, σ, u) := by
  obtain ⟨d, rfl⟩ := d
  exact WStep.pure fun hA hx hby _ k => XS.isub hA hx rfl (hb hby d) rfl k
theorem WStep.imul {x y : Int32} (d : AtI G.bytes pc .imul 1 nx) : WStep G (pc, L, .int y :: .int x :: S, σ, u) (nx, L, .int (x * y) :: S, σ, u) := by
  obtain ⟨d, rfl⟩ := d
  exact WStep.pure fun hA hx hby _ k => XS.imul hA hx rfl (hb hby d) rfl k
theorem WStep.iand {x y : Int32} (d : AtI G.bytes pc .iand 1 nx) : WStep G (pc, L, .int y :: .int x :: S, σ, u) (nx, L, .int (x &&& y) :: S, σ, u) := by
  obtain ⟨d, rfl⟩ := d
  exact WStep.pure fun hA hx hby _ k => XS.iand hA hx rfl (hb hby d) rfl k
theorem WStep.idiv {x y : Int32} (d : AtI G.bytes pc .idiv 1 nx) (hy : y ≠ 0) : WStep G (pc, L, .int y :: .int x :: S, σ, u) (nx, L, .int (x / y) :: S, σ, u) := by
  obtain ⟨d, rfl⟩ := d
  exact WStep.pure fun hA hx hby _ k => XS.idiv hA hx rfl (hb hby d) rfl hy k
theorem WStep.irem {x y : Int32} (d : AtI G.bytes pc .irem 1 nx) (hy : y ≠ 0) : WStep G (pc, L, .int y :: .int x :: S, σ, u) (nx, L, .int (x % y) :: S, σ, u) := by
  obtain ⟨d, rfl⟩ := d
  have q : x - x / y * y = x % y := irem_eq_mod x y
  exact WStep.pure fun hA hx hby _ k => XS.irem hA hx rfl (hb hby d) rfl hy (by rw [q]; exact k)
theorem WStep.iushr {x : Int32} {y : Int32} (d : AtI G.bytes pc .iushr 1 nx) : WStep G (pc, L, .int y :: .int x :: S, σ, u) (nx, L, .int ((x.toUInt32 >>> (y &&& 31).toUInt32).toInt32) :: S, σ, u) := by
  obtain ⟨d, rfl⟩ := d
  exact WStep.pure fun hA hx hby _ k => XS.iushr hA hx rfl (hb hby d) rfl k
theorem WStep.lcmp {x y : Int64} (d : AtI G.bytes pc .lcmp 1 nx) : WStep G (pc, L, .long y :: .long x :: S, σ, u) (nx, L, .int (lcmpW x y) :: S, σ, u) := by
  obtain ⟨d, rfl⟩ := d
  exact WStep.pure fun hA hx hby _ k => XS.lcmp hA hx rfl (hb hby d) rfl k
theorem WStep.dup {x : Value} (d : AtI G.bytes pc .dup 1 nx) (hc : x.category = 1) : WStep G (pc, L, x :: S, σ, u) (nx, L, x :: x :: S, σ, u) := by
  obtain ⟨d, rfl⟩ := d
  exact WStep.pure fun hA hx hby _ k => XS.dup hA hx rfl (hb hby d) rfl (cat_gv.trans hc) k
theorem WStep.pop {x : Value} (d : AtI G.bytes pc .pop 1 nx) (hc : x.category = 1) : WStep G (pc, L, x :: S, σ, u) (nx, L, S, σ, u) := by
  obtain ⟨d, rfl⟩ := d
  exact WStep.pure fun hA hx hby _ k => XS.pop hA hx rfl (hb hby d) rfl (cat_gv.trans hc) k
theorem WStep.dupX1 {x y : Value} (d : AtI G.bytes pc .dup_x1 1 nx) (hc : x.category = 1) (hc' : y.category = 1) : WStep G (pc, L, x :: y :: S, σ, u) (nx, L, x :: y :: x :: S, σ, u) := by
  obtain ⟨d, rfl⟩ := d
  exact WStep.pure fun hA hx hby _ k => XS.dupX1 hA hx rfl (hb hby d) rfl (cat_gv.trans hc) (cat_gv.trans hc') k
theorem WStep.goto (d : AtJ G.bytes pc .goto nx tgt) : WStep G (pc, L, S, σ, u) (tgt, L, S, σ, u) := by
  obtain ⟨o, d, rfl, h0, h1⟩ := d
  exact WStep.pure fun hA hx hby _ k => XS.goto hA hx rfl (pc0 := pc) (pc' := tgt) rfl (hb hby d) h0 h1 k
theorem WStep.icmpT {cd : ClassFile.Cond} {x y : Int32} (d : AtJ G.bytes pc (.if_icmp cd) nx tgt) (h : if_icmp.holds cd x y = true) : WStep G (pc, L, .int y :: .int x :: S, σ, u) (tgt, L, S, σ, u) := by
  obtain ⟨o, d, rfl, h0, h1⟩ := d
  exact WStep.pure fun hA hx hby _ k => XS.icmpYes hA hx rfl (pc0 := pc) (pc' := tgt) rfl (hb hby d) rfl h h0 h1 k
theorem WStep.icmpF {cd : ClassFile.Cond} {x y : Int32} (d : AtJ G.bytes pc (.if_icmp cd) nx tgt) (h : if_icmp.holds cd x y = false) : WStep G (pc, L, .int y :: .int x :: S, σ, u) (nx, L, S, σ, u) := by
  obtain ⟨o, d, rfl, h0, h1⟩ := d
  exact WStep.pure fun hA hx hby _ k => XS.icmpNo hA hx rfl (hb hby d) rfl h k
theorem WStep.ifT {cd : ClassFile.Cond} {x : Int32} (d : AtJ G.bytes pc (.ifCond cd) nx tgt) (h : if_icmp.holds cd x 0 = true) : WStep G (pc, L, .int x :: S, σ, u) (tgt, L, S, σ, u) := by
  obtain ⟨o, d, rfl, h0, h1⟩ := d
  exact WStep.pure fun hA hx hby _ k => XS.ifYes hA hx rfl (pc0 := pc) (pc' := tgt) rfl (hb hby d) rfl ((if0 _ _).trans h) h0 h1 k
theorem WStep.ifF {cd : ClassFile.Cond} {x : Int32} (d : AtJ G.bytes pc (.ifCond cd) nx tgt) (h : if_icmp.holds cd x 0 = false) : WStep G (pc, L, .int x :: S, σ, u) (nx, L, S, σ, u) := by
  obtain ⟨o, d, rfl, h0, h1⟩ := d
  exact WStep.pure fun hA hx hby _ k => XS.ifNo hA hx rfl (hb hby d) rfl ((if0 _ _).trans h) k
theorem WStep.nonnullT {a : Addr} (d : AtJ G.bytes pc .ifnonnull nx tgt) : WStep G (pc, L, .ref a :: S, σ, u) (tgt, L, S, σ, u) := by
  obtain ⟨o, d, rfl, h0, h1⟩ := d
  exact WStep.pure fun hA hx hby _ k => XS.ifnonnullYes hA hx rfl (pc0 := pc) (pc' := tgt) rfl (hb hby d) rfl h0 h1 k
theorem WStep.nonnullF (d : AtJ G.bytes pc .ifnonnull nx tgt) : WStep G (pc, L, .null :: S, σ, u) (nx, L, S, σ, u) := by
  obtain ⟨o, d, rfl, h0, h1⟩ := d
  exact WStep.pure fun hA hx hby _ k => XS.ifnonnullNo hA hx rfl (hb hby d) rfl k
end Pure
section Forks
variable {G : WMC} {pc nx tgt u : Nat} {L : List Slot} {S : List Value} {σ : WHp} {Q : Option Value → WHp → Nat → Prop}
theorem WGo.lt {x y : Int32} (d : AtJ G.bytes pc (.if_icmp .lt) nx tgt) (h1 : x < y → WGo G (tgt, L, S, σ, u) Q) (h2 : ¬ x < y → WGo G (nx, L, S, σ, u) Q) : WGo G (pc, L, .int y :: .int x :: S, σ, u) Q := by
  by_cases h : x < y
  · exact (h1 h).s (WStep.icmpT d (tlt h).1)
  · exact (h2 h).s (WStep.icmpF d (flt h).1)
theorem WGo.ge {x y : Int32} (d : AtJ G.bytes pc (.if_icmp .ge) nx tgt) (h1 : ¬ x < y → WGo G (tgt, L, S, σ, u) Q) (h2 : x < y → WGo G (nx, L, S, σ, u) Q) : WGo G (pc, L, .int y :: .int x :: S, σ, u) Q := by
  by_cases h : x < y
  · exact (h2 h).s (WStep.icmpF d (tlt h).2.1)
  · exact (h1 h).s (WStep.icmpT d (flt h).2.1)
theorem WGo.ge0 {x : Int32} (d : AtJ G.bytes pc (.ifCond .ge) nx tgt) (h1 : ¬ x < 0 → WGo G (tgt, L, S, σ, u) Q) (h2 : x < 0 → WGo G (nx, L, S, σ, u) Q) : WGo G (pc, L, .int x :: S, σ, u) Q := by
  by_cases h : x < 0
  · exact (h2 h).s (WStep.ifF d (tlt h).2.1)
  · exact (h1 h).s (WStep.ifT d (flt h).2.1)
theorem WGo.geL {x y : Int64} (d : AtJ G.bytes pc (.ifCond .ge) nx tgt) (h1 : ¬ x < y → WGo G (tgt, L, S, σ, u) Q) (h2 : x < y → WGo G (nx, L, S, σ, u) Q) : WGo G (pc, L, .int (lcmpW x y) :: S, σ, u) Q := by
  exact WGo.ge0 d (fun h => h1 fun q => h ((lw_lt x y).mpr q)) (fun h => h2 ((lw_lt x y).mp h))
theorem WGo.gt {x y : Int32} (d : AtJ G.bytes pc (.if_icmp .gt) nx tgt) (h1 : y < x → WGo G (tgt, L, S, σ, u) Q) (h2 : ¬ y < x → WGo G (nx, L, S, σ, u) Q) : WGo G (pc, L, .int y :: .int x :: S, σ, u) Q := by
  by_cases h : y < x
  · exact (h1 h).s (WStep.icmpT d (tlt h).2.2.1)
  · exact (h2 h).s (WStep.icmpF d (flt h).2.2.1)
theorem WGo.le {x y : Int32} (d : AtJ G.bytes pc (.if_icmp .le) nx tgt) (h1 : ¬ y < x → WGo G (tgt, L, S, σ, u) Q) (h2 : y < x → WGo G (nx, L, S, σ, u) Q) : WGo G (pc, L, .int y :: .int x :: S, σ, u) Q := by
  by_cases h : y < x
  · exact (h2 h).s (WStep.icmpF d (tlt h).2.2.2)
  · exact (h1 h).s (WStep.icmpT d (flt h).2.2.2)
theorem WGo.eq {x y : Int32} (d : AtJ G.bytes pc (.if_icmp .eq) nx tgt) (h1 : x = y → WGo G (tgt, L, S, σ, u) Q) (h2 : ¬ x = y → WGo G (nx, L, S, σ, u) Q) : WGo G (pc, L, .int y :: .int x :: S, σ, u) Q := by
  by_cases h : x = y
  · exact (h1 h).s (WStep.icmpT d (teq h).1)
  · exact (h2 h).s (WStep.icmpF d (feq h).1)
theorem WGo.ne {x y : Int32} (d : AtJ G.bytes pc (.if_icmp .ne) nx tgt) (h1 : ¬ x = y → WGo G (tgt, L, S, σ, u) Q) (h2 : x = y → WGo G (nx, L, S, σ, u) Q) : WGo G (pc, L, .int y :: .int x :: S, σ, u) Q := by
  by_cases h : x = y
  · exact (h2 h).s (WStep.icmpF d (teq h).2)
  · exact (h1 h).s (WStep.icmpT d (feq h).2)
theorem WGo.ne0 {x : Int32} (d : AtJ G.bytes pc (.ifCond .ne) nx tgt) (h1 : ¬ x = 0 → WGo G (tgt, L, S, σ, u) Q) (h2 : x = 0 → WGo G (nx, L, S, σ, u) Q) : WGo G (pc, L, .int x :: S, σ, u) Q := by
  by_cases h : x = 0
  · exact (h2 h).s (WStep.ifF d (teq h).2)
  · exact (h1 h).s (WStep.ifT d (feq h).2)
theorem WGo.neL {x y : Int64} (d : AtJ G.bytes pc (.ifCond .ne) nx tgt) (h1 : ¬ x = y → WGo G (tgt, L, S, σ, u) Q) (h2 : x = y → WGo G (nx, L, S, σ, u) Q) : WGo G (pc, L, .int (lcmpW x y) :: S, σ, u) Q := by
  exact WGo.ne0 d (fun h => h1 fun q => h ((lw_eq x y).mpr q)) (fun h => h2 ((lw_eq x y).mp h))
end Forks
end Jvm.Sy
namespace Jvm.Sy
open Jvm Jvm.ClassFile Sem Op Lib Jvm.Free Jvm.Stand Jvm.LawKit Jvm.RoadKit Bundle
def entL : List Value → List Slot
  | [] => []
  | v :: r => if v.category = 2 then .val v :: .second :: entL r else .val v :: entL r
def entryL (args : List Value) (maxL : Nat) : List Slot := entL args ++ List.replicate (maxL - (entL args).length) .unset
theorem fill_eq {ρ : Nat → Nat} : ∀ (args : List Value) (acc : Array Slot), (gS ρ args).foldl (fun acc v => if v.category = 2 then (acc.push (.val v)).push .second else acc.push (.val v)) acc = acc ++ ((entL args).map (gs ρ)).toArray
  | [], acc => by simp [gS, entL]
  | v :: r, acc => by
    have ih := fill_eq (ρ := ρ) r
    simp only [gS, List.map_cons, List.foldl_cons, cat_gv] at ih ⊢
    rw [ih]
    by_cases q : v.category = 2
    · simp [entL, q, gs]
    · simp [entL, q, gs]
theorem entry_eq {ρ : Nat → Nat} (args : List Value) (maxL : Nat) : argsToLocals (gS ρ args).toArray maxL = gL ρ (entryL args maxL) := by
  have h := fill_eq (ρ := ρ) args #[]
  simp only [argsToLocals, List.foldl_toArray', List.size_toArray] at *
  rw [h]
  simp [gL, entryL, gs]
theorem entryF_eq {ρ : Nat → Nat} (m : MethodId) (args : List Value) (maxL : Nat) : entryFrame m (gS ρ args).toArray maxL = mkF m 0 (gL ρ (entryL args maxL)) [] := by
  show ({ method := m, pc := 0, locals := argsToLocals _ maxL, stack := [], locked := none } : JFrame) = _
  rw [entry_eq]
section Ret
variable {G : WMC} {pc nx u : Nat} {L : List Slot} {S : List Value} {σ : WHp} {Q : Option Value → WHp → Nat → Prop}
theorem WRun.of {v : Option Value} {A : WCfg} (h0 : G.ret = none → v = none)
    (h : ∀ {p : Program} {l : Launch} {e : Env} {R : Room} {s : State} {m : MethodId} {args : Array Value} {below : List Frame} {meth : Method} {c : Code} {T : State} {locs : List Loc} {ce sl : Nat}, WCtx G p R s m meth c → Stand p l e R s m args below meth c T locs ce sl →
      ∀ fs, (∀ (f : JFrame) (acts : List Action), f.method = m → f.locked = none → f.entered = [] → (doReturn e (T.setTop f) acts (v.map (gv G.ρ))).1 = T.setFrames fs) → Steps p.tables e below (T.setTop (frm G m A)) (T.setFrames fs)) :
    WRun G A v A.2.2.2.1 A.2.2.2.2 := by
  refine ⟨Nat.le_refl _, Nat.le_refl _, h0, fun p l e R s m args below meth c hC hc hs T hT => ⟨T, hT, fun fs hr => ?_⟩⟩
  obtain ⟨locs, ce, sl, h1, h2, X, D, N⟩ := hT
  exact h hC X fs hr
theorem WGo.ireturn (t : FieldType) {z : Int32} (d : AtI G.bytes pc .ireturn 1 nx) (hret : G.ret = some t) (ht : t = .int ∨ t = .boolean ∨ t = .byte ∨ t = .char ∨ t = .short) (q : Q (some (narrow t (.int z))) σ u) : WGo G (pc, L, .int z :: S, σ, u) Q := by
  refine ⟨_, _, _, q, WRun.of (A := (pc, L, .int z :: S, σ, u)) (fun h => by rw [hret] at h; cases h) fun hC X fs hr => ?_⟩
  have hm := hC.2.2.2.2.2.1.trans hret
  rcases ht with rfl | ht
  · exact retOut X hC.1 hm rfl (Or.inl ⟨rfl, Or.inl rfl, _, rfl⟩) (hb hC.2.1 d.1) hr
  · have hn : narrow t (.int z) = .int (nar t z) := by rcases ht with rfl | rfl | rfl | rfl <;> rfl
    rw [hn] at hr
    exact retN X hC.1 hm ht (hb hC.2.1 d.1) hr
theorem WGo.areturn (t : FieldType) {z : Value} (d : AtI G.bytes pc .areturn 1 nx) (hret : G.ret = some t) (ht : t.isReference = true) (hz : z.isRef = true) (q : Q (some z) σ u) : WGo G (pc, L, z :: S, σ, u) Q := by
  refine ⟨_, _, _, q, WRun.of (A := (pc, L, z :: S, σ, u)) (fun h => by rw [hret] at h; cases h) fun hC X fs hr => ?_⟩
  refine retOut X hC.1 (hC.2.2.2.2.2.1.trans hret) ?_ (Or.inr (Or.inr (Or.inr (Or.inr ⟨rfl, ht, isRef_gv.trans hz⟩)))) (hb hC.2.1 d.1) hr
  cases t <;> first | rfl | cases ht
theorem WGo.vreturn (d : AtI G.bytes pc .return_ 1 nx) (hret : G.ret = none) (q : Q none σ u) : WGo G (pc, L, [], σ, u) Q := by
  refine ⟨_, _, _, q, WRun.of (A := (pc, L, [], σ, u)) (fun _ => rfl) fun hC X fs hr => ?_⟩
  exact X.returnOut hC.1 (hC.2.2.2.2.2.1.trans hret) (hb hC.2.1 d.1) hr
end Ret
theorem met_of {l : Launch} {G : WMC} {y : MethodName} {argsL : List Value} {σ σ' : WHp} {u u' : Nat} {v : Option Value} {ws : List Jvm.Cond} {h : Heap}
    (hy1 : G.own = y.cls) (hy2 : G.nm = y.name) (hj : G.j0 = σ.length) (hu : G.u0 = u) (hpl : plainFor y = true) (hρ : ∀ k, k < 1000 → G.ρ k = G.n0 + k) (hinj : ∀ i j, G.ρ i = G.ρ j → i = j)
    (H : WRun G (0, entryL argsL G.ml, [], σ, u) v σ' u') (D : WDen G.Z G.ρ G.n0 σ h) (RM : Room) (hR1 : G.fr ≤ RM.frames) (hR2 : σ'.length - σ.length ≤ RM.cells) (hR3 : u' - u ≤ RM.slots) (hR4 : G.lo ≤ RM.locals) :
    MetFree l y (head1 (Jvm.Cond.code y G.bytes G.ml G.ret :: ws) RM) (fun a U => a = (gS G.ρ argsL).toArray ∧ G.Z.Warmed39 U.vm ∧ U.heap = h) (fun _ _ _ _ _ => True)
      (fun _ U o U' => ∃ w L, o = .returned w ∧ (w = v.map (gv G.ρ) ∧ Fr G.n0 L ∧ WDen G.Z G.ρ G.n0 σ' U'.heap) ∧ FrameEnd U o U' L (σ'.length - σ.length) (u' - u)) := by
  refine MetFree.of_bodySF hpl hisR ?_
  intro p e s m args below meth c s₁ Bd hml0 hP hK
  obtain ⟨rfl, hZ, hh⟩ := hP
  have X0 : Stand p l e RM s m (gS G.ρ argsL).toArray below meth c s₁ [] 0 0 := Stand.of_body Bd
  have e0 : s₁.heap = h := by rw [← hh, Bd.state]; rfl
  obtain ⟨a1, a2, a0, a3⟩ := H
  have a1' : σ.length ≤ σ'.length := a1
  have a2' : u ≤ u' := a2
  obtain ⟨T', ⟨locs, ce, sl, q1, q2, X, D', N⟩, st⟩ := a3 p l e RM s m _ below meth c ⟨Bd.exec, Bd.bytes, hZ, by rw [hy1]; exact findClass_of_methodNamed Bd.named, (name_of_methodNamed Bd.named Bd.method).1.trans hy2.symm, Bd.returns, hml0, by rw [hh, hj]; exact D.1, hρ, hinj, hR1, hR4⟩ (by omega) (by omega) s₁ ⟨[], 0, 0, hj.symm, hu.symm, X0, by rw [e0]; exact D, Fr.nil _⟩
  obtain ⟨fs, hr, hrun, hended, hW, hsame⟩ := X.leave (v := v.map (gv G.ρ)) (fun hn => by rw [a0 (Bd.returns ▸ hn)]; rfl)
  refine ⟨_, _, ?_, hrun, hended, _, _, rfl, ⟨rfl, N, D'⟩, ⟨_, rfl⟩, hW, hsame.mono (by omega) (by omega)⟩
  rw [entryF_eq]
  exact st fs hr
def WCallee (Z : State) (a0 : Array Value) (y : MethodName) (Gc : WMC) (n : Nat) : Prop :=
  plainFor y = true ∧ (y.cls ≠ "java/lang/invoke/MethodHandle" ∧ y.cls ≠ "java/lang/invoke/VarHandle") ∧ Gc.own = y.cls ∧ Gc.nm = y.name ∧ Gc.Z = Z ∧ (Jvm.Cond.initialized y.cls).before a0 Z = true ∧ (Jvm.Cond.code y Gc.bytes Gc.ml Gc.ret).before a0 Z = true ∧ (∀ sig, parseMethodDescriptor y.desc = some sig → n = sig.parameters.length)
theorem backFor {p : Program} {l : Launch} {e : Env} {R : Room} {s : State} {args : Array Value} {below : List Frame} {Gc : WMC} {y : MethodName} {a0 : Array Value} {argsL : List Value} {σ σ' : WHp} {u u' W n : Nat} {v : Option Value} {h : Heap}
    (C : WCallee Gc.Z a0 y Gc n) (hj : Gc.j0 = σ.length) (hu : Gc.u0 = u) (hρ : ∀ k, k < 1000 → Gc.ρ k = Gc.n0 + k) (hinj : ∀ i j, Gc.ρ i = Gc.ρ j → i = j)
    (H : WRun Gc (0, entryL argsL Gc.ml, [], σ, u) v σ' u') (D : WDen Gc.Z Gc.ρ Gc.n0 σ h) (hZ : Gc.Z.Warmed39 s.vm) (hf : Gc.fr + 1 ≤ R.frames) (hl : W + (Gc.ml + 11) + Gc.lo ≤ R.locals) :
    Back l R p e below s args y 3 W (fun A a => a = (gS Gc.ρ argsL).toArray ∧ A.U.heap = h ∧ A.cells + (σ'.length - σ.length) ≤ R.cells ∧ A.slots + (u' - u) ≤ R.slots)
      (fun A _ w B => ∃ L, (w = v.map (gv Gc.ρ) ∧ Fr Gc.n0 L ∧ WDen Gc.Z Gc.ρ Gc.n0 σ' B.U.heap) ∧ B.locs = A.locs ++ L ∧ B.cells = A.cells + (σ'.length - σ.length) ∧ B.slots = A.slots + (u' - u)) :=
  backOf (rm := { frames := Gc.fr, cells := σ'.length - σ.length, slots := u' - u, locals := Gc.lo }) (Q := fun w h' L => w = v.map (gv Gc.ρ) ∧ Fr Gc.n0 L ∧ WDen Gc.Z Gc.ρ Gc.n0 σ' h') (met_of C.2.2.1 C.2.2.2.1 hj hu C.1 hρ hinj H D _ (Nat.le_refl _) (Nat.le_refl _) (Nat.le_refl _) (Nat.le_refl _)) hZ C.2.2.2.2.2.2.1 C.2.2.2.2.2.1 hf hl
theorem toL {ρ : Nat → Nat} (v : Option Value) (S : List Value) : gS ρ (v.toList ++ S) = (v.map (gv ρ)).toList ++ gS ρ S := by cases v <;> rfl
section Calls
variable {G Gc : WMC} {pc nx u idx n : Nat} {L : List Slot} {S Sf argsL : List Value} {σ : WHp} {Q Qc : Option Value → WHp → Nat → Prop} {y : MethodName} {a0 : Array Value}
theorem WGo.callS (d : AtI G.bytes pc (.invokestatic idx) 3 nx) (C : WCallee G.Z a0 y Gc n) (wl : (Jvm.Cond.methodLink G.own idx y).before a0 G.Z = true) (ws : (Jvm.Cond.static y).before a0 G.Z = true)
    (H : WGo Gc (0, entryL argsL Gc.ml, [], σ, u) Qc) (hG : Gc.1 = G.1) (hj : Gc.j0 = σ.length) (hu : Gc.u0 = u) (hn : argsL.length = n) (hS : Sf = argsL.reverse ++ S) (hL : L.length = G.ml) (hf : Gc.fr + 1 ≤ G.fr) (hl : (S.map Value.category).sum + (Gc.ml + 11) + Gc.lo ≤ G.lo)
    (K : ∀ v σ' u', Qc v σ' u' → WGo G (nx, L, v.toList ++ S, σ', u') Q) : WGo G (pc, L, Sf, σ, u) Q := by
  obtain ⟨v, σ', u', q, r⟩ := H
  refine (K v σ' u' q).s ?_
  have m1 : σ.length ≤ σ'.length := r.1
  have m2 : u ≤ u' := r.2.1
  refine ⟨m1, m2, fun p l e R s m args below meth c hC hc hs T hT => ?_⟩
  obtain ⟨hx, hby, hZ, hown, hnm, hret, hml, hs0, hρ, hinj, hfr, hlo⟩ := hC
  obtain ⟨locs, ce, sl, h1, h2, X, D, N⟩ := hT
  have eZ : Gc.Z = G.Z := congrArg (·.1) hG
  have eρ : Gc.ρ = G.ρ := congrArg (·.2.1) hG
  have en : Gc.n0 = G.n0 := congrArg (·.2.2) hG
  have h1' : σ.length = G.j0 + ce := h1
  have h2' : u = G.u0 + sl := h2
  have hc' : σ'.length ≤ G.j0 + R.cells := hc
  have hs' : u' ≤ G.u0 + R.slots := hs
  have Bk := backFor (p := p) (l := l) (e := e) (R := R) (s := s) (args := args) (below := below) (W := (S.map Value.category).sum) (eZ ▸ C) hj hu (by rw [eρ, en]; exact hρ) (by rw [eρ]; exact hinj) r (by rw [eZ, eρ, en]; exact D) (by rw [eZ]; exact hZ) (Nat.le_trans hf hfr) (Nat.le_trans hl hlo)
  obtain ⟨C1, C2, C3, C4, C5, C6, C7, C8⟩ := C
  rw [eρ, en, eZ] at Bk
  obtain ⟨w, vm1, ⟨T', L', k', n'⟩, -, X', ⟨Lc, ⟨hw', N', D'⟩, l', y', z'⟩, st⟩ := Jvm.LawKit.callS X hx (y := y) hown (mvT hZ wl) (mvT hZ ws) (mvT hZ C6) (mvT hZ C7) C2 Bk (g := frm G m (pc, L, Sf, σ, u)) rfl (by show (gL _ L).size = _; rw [gL_size, hL, hml]) (argsL := gS G.ρ argsL) (rest := gS G.ρ S)
    (fun sig hsig => by rw [← C8 sig hsig, ← hn]; simp [gS]) (by show gS _ Sf = _; rw [hS]; simp [gS]) (by rw [sum_gS]; show 2 * 0 + _ ≤ _; omega) (hb hby d.1) (fun _ _ => ⟨rfl, rfl, by show ce + _ ≤ _; omega, by show sl + _ ≤ _; omega⟩)
  dsimp only [Pt.U, Pt.locs, Pt.cells, Pt.slots] at X' l' y' z' st D'
  subst l' y' z' hw'
  refine ⟨T', ⟨_, _, _, ?_, ?_, X', D', N.app N'⟩, fun t k => st t ?_⟩
  · show σ'.length = _; omega
  · show u' = _; omega
  · rw [← toL]
    have := d.2
    subst this
    exact k
theorem WGo.callI {k : Nat} (d : AtI G.bytes pc (.invokespecial idx) 3 nx) (C : WCallee G.Z a0 y Gc n) (hi : y.name = "<init>") (hr : Gc.ret = none) (wl : (Jvm.Cond.methodLink G.own idx y).before a0 G.Z = true) (ws : (Jvm.Cond.instanceMethod y).before a0 G.Z = true) (hk : k < 1000)
    (H : WGo Gc (0, entryL (.ref k :: argsL) Gc.ml, [], σ, u) Qc) (hG : Gc.1 = G.1) (hj : Gc.j0 = σ.length) (hu : Gc.u0 = u) (hn : argsL.length = n) (hS : Sf = argsL.reverse ++ .ref k :: S) (hL : L.length = G.ml) (hf : Gc.fr + 1 ≤ G.fr) (hl : (S.map Value.category).sum + (Gc.ml + 11) + Gc.lo ≤ G.lo)
    (K : ∀ v σ' u', Qc v σ' u' → WGo G (nx, L, v.toList ++ S, σ', u') Q) : WGo G (pc, L, Sf, σ, u) Q := by
  obtain ⟨v, σ', u', q, r⟩ := H
  refine (K v σ' u' q).s ?_
  have m1 : σ.length ≤ σ'.length := r.1
  have m2 : u ≤ u' := r.2.1
  refine ⟨m1, m2, fun p l e R s m args below meth c hC hc hs T hT => ?_⟩
  obtain ⟨hx, hby, hZ, hown, hnm, hret, hml, hs0, hρ, hinj, hfr, hlo⟩ := hC
  obtain ⟨locs, ce, sl, h1, h2, X, D, N⟩ := hT
  have eZ : Gc.Z = G.Z := congrArg (·.1) hG
  have eρ : Gc.ρ = G.ρ := congrArg (·.2.1) hG
  have en : Gc.n0 = G.n0 := congrArg (·.2.2) hG
  have h1' : σ.length = G.j0 + ce := h1
  have h2' : u = G.u0 + sl := h2
  have hc' : σ'.length ≤ G.j0 + R.cells := hc
  have hs' : u' ≤ G.u0 + R.slots := hs
  have Bk := backFor (p := p) (l := l) (e := e) (R := R) (s := s) (args := args) (below := below) (W := (S.map Value.category).sum) (eZ ▸ C) hj hu (by rw [eρ, en]; exact hρ) (by rw [eρ]; exact hinj) r (by rw [eZ, eρ, en]; exact D) (by rw [eZ]; exact hZ) (Nat.le_trans hf hfr) (Nat.le_trans hl hlo)
  obtain ⟨C1, C2, C3, C4, C5, C6, C7, C8⟩ := C
  rw [hr] at C7
  rw [eρ, en, eZ] at Bk
  obtain ⟨w, vm1, ⟨T', L', k', n'⟩, -, X', ⟨Lc, ⟨hw', N', D'⟩, l', y', z'⟩, st⟩ := X.specialBack hx (y := y) hi hown (mvT hZ wl) (mvT hZ ws) (mvT hZ C7) C2 Bk (g := frm G m (pc, L, Sf, σ, u)) rfl (by show (gL _ L).size = _; rw [gL_size, hL, hml]) (Steps.refl _) (a := G.ρ k) (argsL := gS G.ρ argsL) (rest := gS G.ρ S)
    (fun sig hsig => by rw [← C8 sig hsig, ← hn]; simp [gS]) (by show gS _ Sf = _; rw [hS]; simp [gS, gv]) (by rw [sum_gS]; show 2 * 0 + _ ≤ _; omega) (hb hby d.1) (fun _ _ => ⟨rfl, rfl, by show ce + _ ≤ _; omega, by show sl + _ ≤ _; omega⟩)
  dsimp only [Pt.U, Pt.locs, Pt.cells, Pt.slots] at X' l' y' z' st D'
  subst l' y' z' hw'
  refine ⟨T', ⟨_, _, _, ?_, ?_, X', D', N.app N'⟩, fun t k => st.trans ?_⟩
  · show σ'.length = _; omega
  · show u' = _; omega
  · rw [← toL]
    have := d.2
    subst this
    exact k
theorem WGo.callV {k : Nat} {Cn : String} {fs : List (WKey × Value)} {z : MethodName} (d : AtI G.bytes pc (.invokevirtual idx) 3 nx) (C : WCallee G.Z a0 y Gc n) (hz : z.desc = y.desc ∧ (z.cls ≠ "java/lang/invoke/MethodHandle" ∧ z.cls ≠ "java/lang/invoke/VarHandle")) (wl : (Jvm.Cond.methodLink G.own idx z).before a0 G.Z = true) (wd : (Jvm.Cond.declares z).before a0 G.Z = true) (hnf : ∀ s, G.Z.Warmed39 s.vm → NotFace s z) (wsel : (Jvm.Cond.selects Cn z y).before a0 G.Z = true) (ws : (Jvm.Cond.instanceMethod y).before a0 G.Z = true) (hk : σ[k]? = some (.inr (Cn, fs)))
    (H : WGo Gc (0, entryL (.ref k :: argsL) Gc.ml, [], σ, u) Qc) (hG : Gc.1 = G.1) (hj : Gc.j0 = σ.length) (hu : Gc.u0 = u) (hn : argsL.length = n) (hS : Sf = argsL.reverse ++ .ref k :: S) (hL : L.length = G.ml) (hf : Gc.fr + 1 ≤ G.fr) (hl : (S.map Value.category).sum + (Gc.ml + 11) + Gc.lo ≤ G.lo)
    (K : ∀ v σ' u', Qc v σ' u' → WGo G (nx, L, v.toList ++ S, σ', u') Q) : WGo G (pc, L, Sf, σ, u) Q := by
  obtain ⟨v, σ', u', q, r⟩ := H
  refine (K v σ' u' q).s ?_
  have m1 : σ.length ≤ σ'.length := r.1
  have m2 : u ≤ u' := r.2.1
  refine ⟨m1, m2, fun p l e R s m args below meth c hC hc hs T hT => ?_⟩
  obtain ⟨hx, hby, hZ, hown, hnm, hret, hml, hs0, hρ, hinj, hfr, hlo⟩ := hC
  obtain ⟨locs, ce, sl, h1, h2, X, D, N⟩ := hT
  have eZ : Gc.Z = G.Z := congrArg (·.1) hG
  have eρ : Gc.ρ = G.ρ := congrArg (·.2.1) hG
  have en : Gc.n0 = G.n0 := congrArg (·.2.2) hG
  have h1' : σ.length = G.j0 + ce := h1
  have h2' : u = G.u0 + sl := h2
  have hc' : σ'.length ≤ G.j0 + R.cells := hc
  have hs' : u' ≤ G.u0 + R.slots := hs
  have Bk := backFor (p := p) (l := l) (e := e) (R := R) (s := s) (args := args) (below := below) (W := (S.map Value.category).sum) (eZ ▸ C) hj hu (by rw [eρ, en]; exact hρ) (by rw [eρ]; exact hinj) r (by rw [eZ, eρ, en]; exact D) (by rw [eZ]; exact hZ) (Nat.le_trans hf hfr) (Nat.le_trans hl hlo)
  obtain ⟨C1, C2, C3, C4, C5, C6, C7, C8⟩ := C
  rw [eρ, en, eZ] at Bk
  have hE : Exa G.Z T.heap (G.n0 + k) Cn := (D.2.2 k _ hk).1
  rw [← hρ k (D.lt hk)] at hE
  obtain ⟨cq, kq, qa, qb, qc⟩ := isOf hZ rfl hE
  obtain ⟨w, vm1, ⟨T', L', k', n'⟩, -, X', ⟨Lc, ⟨hw', N', D'⟩, l', y', z'⟩, st⟩ := X.virtualBack hx (y := z) (z := y) hown (mvT hZ wl) (mvT hZ wd) (hnf s hZ) (mvT hZ wsel) (mvT hZ ws) hz.2 Bk qa qc (g := frm G m (pc, L, Sf, σ, u)) rfl (by show (gL _ L).size = _; rw [gL_size, hL, hml]) (Steps.refl _) (argsL := gS G.ρ argsL) (rest := gS G.ρ S)
    (fun sig hsig => by rw [hz.1] at hsig; rw [← C8 sig hsig, ← hn]; simp [gS]) (by show gS _ Sf = _; rw [hS]; simp [gS, gv]) (by rw [sum_gS]; show 2 * 0 + _ ≤ _; omega) (hb hby d.1) (fun _ _ => ⟨rfl, rfl, by show ce + _ ≤ _; omega, by show sl + _ ≤ _; omega⟩)
  dsimp only [Pt.U, Pt.locs, Pt.cells, Pt.slots] at X' l' y' z' st D'
  subst l' y' z' hw'
  refine ⟨T', ⟨_, _, _, ?_, ?_, X', D', N.app N'⟩, fun t k => st.trans ?_⟩
  · show σ'.length = _; omega
  · show u' = _; omega
  · rw [← toL]
    have := d.2
    subst this
    exact k
end Calls
end Jvm.Sy
namespace Jvm.Sy
open Jvm Jvm.ClassFile Sem Op Lib Jvm.Free Jvm.Stand Jvm.LawKit Jvm.RoadKit Bundle
def LaidAll (Z : State) (a0 : Array Value) (C : String) : List (WKey × Value) → Prop
  | [] => True
  | f :: r => (Laid Z a0 C f.1.1 f.1.2.1 f.1.2.2 ∧ ∃ ty, parseFieldDescriptor f.1.2.2 = some ty ∧ f.2 = defaultValue ty) ∧ LaidAll Z a0 C r
theorem LaidAll.at {Z : State} {a0 : Array Value} {C : String} : ∀ {fs : List (WKey × Value)}, LaidAll Z a0 C fs → ∀ {i : Nat} {f : WKey × Value}, fs[i]? = some f → Laid Z a0 C f.1.1 f.1.2.1 f.1.2.2 ∧ ∃ ty, parseFieldDescriptor f.1.2.2 = some ty ∧ f.2 = defaultValue ty
  | [], _, i, f, h => by simp at h
  | g :: r, H, 0, f, h => by simp at h; subst h; exact H.1
  | g :: r, H, i + 1, f, h => LaidAll.at H.2 (i := i) (by simpa using h)
section HeapOps
variable {G : WMC} {pc nx tgt u idx k i n : Nat} {L : List Slot} {S : List Value} {σ : WHp} {a0 : Array Value} {v w : Value} {j : Int32} {vs : List Value} {ty : FieldType} {fs : List (WKey × Value)} {C O nm dd K : String}
theorem WStep.ldc {z : Int32} (d : AtI G.bytes pc (.ldc idx) 2 nx) (wd : (Jvm.Cond.constant G.own idx z).before a0 G.Z = true) : WStep G (pc, L, S, σ, u) (nx, L, .int z :: S, σ, u) := by
  refine ⟨Nat.le_refl _, Nat.le_refl _, fun p l e R s m args below meth c hC hc hs T hT => ?_⟩
  obtain ⟨hx, hby, hZ, hown, hnm, hret, hml, hs0, hρ, hinj, hfr, hlo⟩ := hC
  obtain ⟨locs, ce, sl, h1, h2, X, D, N⟩ := hT
  obtain ⟨d, rfl⟩ := d
  exact ⟨T, ⟨locs, ce, sl, h1, h2, X, D, N⟩, X.ldcInt hx hown (mvT hZ wd) (g := frm G m (pc, L, S, σ, u)) rfl (hb hby d)⟩
theorem WStep.initO (d : AtI G.bytes pc (.invokespecial idx) 3 nx) (w1 : (Jvm.Cond.methodLink G.own idx Lib.objectInit).before a0 G.Z = true) (w2 : (Jvm.Cond.instanceMethod Lib.objectInit).before a0 G.Z = true) (w3 : (Jvm.Cond.code Lib.objectInit ⟨#[0xb1]⟩ 1 none).before a0 G.Z = true)
    (hL : L.length = G.ml) (hf : 1 ≤ G.fr) (hl : (S.map Value.category).sum + 12 ≤ G.lo) : WStep G (pc, L, .ref k :: S, σ, u) (nx, L, S, σ, u) := by
  refine ⟨Nat.le_refl _, Nat.le_refl _, fun p l e R s m args below meth c hC hc hs T hT => ?_⟩
  obtain ⟨hx, hby, hZ, hown, hnm, hret, hml, hs0, hρ, hinj, hfr, hlo⟩ := hC
  obtain ⟨locs, ce, sl, h1, h2, X, D, N⟩ := hT
  obtain ⟨d, rfl⟩ := d
  obtain ⟨T', X', e', st⟩ := RoadKit.initO X hx hZ hown w1 w2 w3 rfl (g := frm G m (pc, L, .ref k :: S, σ, u)) rfl (by show (gL _ L).size = _; rw [gL_size, hL, hml]) rfl (hb hby d) (Nat.le_trans hf hfr) (W := (S.map Value.category).sum) (by have := sum_gS (ρ := G.ρ) S; unfold gS at this; rw [this]; show 2 * 0 + _ ≤ _; omega) (Nat.le_trans hl hlo)
  exact ⟨T', ⟨locs, ce, sl, h1, h2, X', by rw [e']; exact D, N⟩, st⟩
theorem WStep.getF (i : Nat) (d : AtI G.bytes pc (.getfield idx) 3 nx) (wd : (Jvm.Cond.fieldLink G.own idx O nm dd).before a0 G.Z = true) (hk : σ[k]? = some (.inr (C, fs))) (hi : fs[i]? = some ((O, nm, dd), v)) : WStep G (pc, L, .ref k :: S, σ, u) (nx, L, v :: S, σ, u) := by
  refine ⟨Nat.le_refl _, Nat.le_refl _, fun p l e R s m args below meth c hC hc hs T hT => ?_⟩
  obtain ⟨hx, hby, hZ, hown, hnm, hret, hml, hs0, hρ, hinj, hfr, hlo⟩ := hC
  obtain ⟨locs, ce, sl, h1, h2, X, D, N⟩ := hT
  obtain ⟨d, rfl⟩ := d
  have hko : ObjOk G.Z G.ρ T.heap (G.n0 + k) C fs := D.2.2 k _ hk
  have F := hko.2.1 i _ _ _ _ hi
  rw [← hρ k (D.lt hk)] at F
  obtain ⟨T', X', e', st⟩ := RoadKit.getF X hx hZ hown (host := "") (Or.inl wd) Via.refl rfl F (g := frm G m (pc, L, .ref k :: S, σ, u)) rfl rfl (hb hby d)
  exact ⟨T', ⟨locs, ce, sl, h1, h2, X', by rw [e']; exact D, N⟩, st⟩
theorem WStep.putF (i : Nat) (v' : Value) (d : AtI G.bytes pc (.putfield idx) 3 nx) (wd : (Jvm.Cond.fieldLink G.own idx O nm dd).before a0 G.Z = true) (hk : σ[k]? = some (.inr (C, fs))) (hi : fs[i]? = some ((O, nm, dd), w))
    (hlay : (Jvm.Cond.lays C O nm dd).before a0 G.Z = true ∨ ((Jvm.Cond.laysFinal C O nm dd).before a0 G.Z = true ∧ G.own = O ∧ G.nm = "<init>")) (wi : (Jvm.Cond.instantiable C n).before a0 G.Z = true) (hty : parseFieldDescriptor dd = some ty) (hn : narrow ty v = v') (hf : fits ty v' = true) :
    WStep G (pc, L, v :: .ref k :: S, σ, u) (nx, L, S, σ.set k (.inr (C, fs.set i ((O, nm, dd), v'))), u) := by
  refine ⟨by simp, Nat.le_refl _, fun p l e R s m args below meth c hC hc hs T hT => ?_⟩
  obtain ⟨hx, hby, hZ, hown, hnm, hret, hml, hs0, hρ, hinj, hfr, hlo⟩ := hC
  obtain ⟨locs, ce, sl, h1, h2, X, D, N⟩ := hT
  obtain ⟨d, rfl⟩ := d
  have hko : ObjOk G.Z G.ρ T.heap (G.n0 + k) C fs := D.2.2 k _ hk
  obtain ⟨E, Fs, hNe⟩ := hko
  have F := Fs i _ _ _ _ hi
  have hρk := hρ k (D.lt hk)
  obtain ⟨T', h', X', e', W, st⟩ := putFN X hx hZ hown (v := gv G.ρ v) (v' := gv G.ρ v') wd Via.refl rfl F E (hlay.imp id fun q => ⟨q.1, q.2.1, hnm.trans q.2.2⟩) wi hty (by rw [narrow_gv, hn]) (by rw [fits_gv, hf]) (g := frm G m (pc, L, v :: .ref k :: S, σ, u)) rfl (by show gv _ v :: Value.ref (G.ρ k) :: _ = _; rw [hρk]) (hb hby d)
  subst e'
  refine ⟨T', ⟨_, ce, sl, by simpa using h1, h2, X', D.put W ?_, N.app fun y hy => by cases List.mem_singleton.mp hy; exact Nat.le_add_right _ _⟩, st⟩
  have hlt := (List.getElem?_eq_some_iff.mp hi).1
  refine ⟨E.wr W, fun i' O' n' d' y hy => ?_, fun i1 i2 k1 k2 v1 v2 ne q1 q2 => ?_⟩
  · by_cases q : i' = i
    · subst q
      rw [List.getElem?_set_self hlt] at hy
      cases hy
      exact F.same W
    · rw [List.getElem?_set_ne (Ne.symm q)] at hy
      have hne : RoadKit.slotOf G.Z O' n' d' ≠ RoadKit.slotOf G.Z O nm dd := hNe i' i (O', n', d') (O, nm, dd) y w q hy hi
      exact (Fs i' O' n' d' y hy).other W (Or.inr hne)
  · have key : ∀ {i' : Nat} {k' : WKey} {v' : Value}, (fs.set i ((O, nm, dd), v'))[i']? = some (k', v1) → ∃ v'', fs[i']? = some (k', v'') := by
      intro i' k' v' hh
      by_cases q : i' = i
      · subst q
        rw [List.getElem?_set_self hlt] at hh
        cases hh
        exact ⟨_, hi⟩
      · rw [List.getElem?_set_ne (fun z => q z.symm)] at hh
        exact ⟨_, hh⟩
    have key2 : ∀ {i' : Nat} {k' : WKey} {v' : Value}, (fs.set i ((O, nm, dd), v'))[i']? = some (k', v2) → ∃ v'', fs[i']? = some (k', v'') := by
      intro i' k' v' hh
      by_cases q : i' = i
      · subst q
        rw [List.getElem?_set_self hlt] at hh
        cases hh
        exact ⟨_, hi⟩
      · rw [List.getElem?_set_ne (fun z => q z.symm)] at hh
        exact ⟨_, hh⟩
    obtain ⟨_, r1⟩ := key q1
    obtain ⟨_, r2⟩ := key2 q2
    exact hNe i1 i2 _ _ _ _ ne r1 r2
theorem WStep.newO (fs : List (WKey × Value)) (d : AtI G.bytes pc (.new idx) 3 nx) (w1 : (Jvm.Cond.classLink G.own idx C).before a0 G.Z = true) (w2 : (Jvm.Cond.instantiable C n).before a0 G.Z = true) (w3 : (Jvm.Cond.initialized C).before a0 G.Z = true)
    (hfs : LaidAll G.Z a0 C fs) (hnd : (fs.map fun f => f.1.2.1).Nodup) (hlen : σ.length = k) (hk : k < 1000) : WStep G (pc, L, S, σ, u) (nx, L, .ref k :: S, σ ++ [.inr (C, fs)], u + n) := by
  refine ⟨by simp, Nat.le_add_right _ _, fun p l e R s m args below meth c hC hc hs T hT => ?_⟩
  obtain ⟨hx, hby, hZ, hown, hnm, hret, hml, hs0, hρ, hinj, hfr, hlo⟩ := hC
  obtain ⟨locs, ce, sl, h1, h2, X, D, N⟩ := hT
  obtain ⟨d, rfl⟩ := d
  subst hlen
  have h1' : σ.length = G.j0 + ce := h1
  have h2' : u = G.u0 + sl := h2
  have hc' : σ.length + 1 ≤ G.j0 + R.cells := by simpa using hc
  have hs' : u + n ≤ G.u0 + R.slots := hs
  have eS : T.heap.size = G.n0 + σ.length := D.1
  obtain ⟨T', h', X', e', E, A, Dv, -, st⟩ := RoadKit.newO X hx hZ hown w1 w2 w3 rfl (g := frm G m (pc, L, S, σ, u)) rfl (hb hby d) (by omega) (by omega)
  subst e'
  have hsz : T'.heap.size = T.heap.size + 1 := by
    have a1 := X'.heapSize
    have a2 : T.heap.size < T'.heap.size := A.lt
    have a3 : s.heap.size = G.n0 + G.j0 := hs0
    omega
  rw [eS] at A Dv
  have eρ : G.ρ σ.length = T.heap.size := by rw [hρ _ hk, eS]
  refine ⟨T', ⟨locs, ce + 1, sl + n, by simp; omega, by show u + n = _; omega, X', D.push E hsz hk ⟨A, fun i O' n' d' y hy => ?_, fun i1 i2 k1 k2 v1 v2 ne q1 q2 => ?_⟩, N⟩, fun t kt => st t ?_⟩
  · obtain ⟨LL, ty, p1, p2⟩ := hfs.at hy
    have := Dv LL p1
    dsimp only at p2
    rw [p2, dv_gv]
    exact this
  · obtain ⟨LL, ty, p1, p2⟩ := hfs.at q1
    obtain ⟨LL', ty', p1', p2'⟩ := hfs.at q2
    refine slot_ne LL LL' (fun e => ne ?_) p1 p1'
    have b1 := (List.getElem?_eq_some_iff.mp q1).1
    have b2 := (List.getElem?_eq_some_iff.mp q2).1
    refine (List.getElem?_inj (l := fs.map fun f => f.1.2.1) (i := i1) (j := i2) (by simpa using b1) hnd).mp ?_
    rw [List.getElem?_map, List.getElem?_map, q1, q2]
    exact congrArg some e
  · rw [← eρ]; exact kt
theorem WStep.newR (n : Int32) (m : Nat) (d : AtI G.bytes pc (.anewarray idx) 3 nx) (w1 : (Jvm.Cond.classLink G.own idx C).before a0 G.Z = true) (w2 : (Jvm.Cond.arrayOver (.object C)).before a0 G.Z = true) (hn : ¬ n < 0) (hm : n.toNatClampNeg = m) (hb8 : m * 8 ≤ 536870912) (hlen : σ.length = k) (hk : k < 1000) :
    WStep G (pc, L, .int n :: S, σ, u) (nx, L, .ref k :: S, σ ++ [.inl (.object C, List.replicate m .null)], u + m) := by
  refine ⟨by simp, Nat.le_add_right _ _, fun p l e R s me args below meth c hC hc hs T hT => ?_⟩
  obtain ⟨hx, hby, hZ, hown, hnm, hret, hml, hs0, hρ, hinj, hfr, hlo⟩ := hC
  obtain ⟨locs, ce, sl, h1, h2, X, D, N⟩ := hT
  obtain ⟨d, rfl⟩ := d
  subst hlen
  have h1' : σ.length = G.j0 + ce := h1
  have h2' : u = G.u0 + sl := h2
  have hc' : σ.length + 1 ≤ G.j0 + R.cells := by simpa using hc
  have hs' : u + m ≤ G.u0 + R.slots := hs
  have eS : T.heap.size = G.n0 + σ.length := D.1
  obtain ⟨T', h', cA, X', e', E, A, hO, st⟩ := RoadKit.newR X hx hZ hown w1 w2 rfl (g := frm G me (pc, L, .int n :: S, σ, u)) rfl (hb hby d) rfl hn (cap := m) (by omega) hb8 (by omega) (by omega)
  subst e'
  have hsz : T'.heap.size = T.heap.size + 1 := by
    have a1 := X'.heapSize
    have a2 : T.heap.size < T'.heap.size := A.lt
    have a3 : s.heap.size = G.n0 + G.j0 := hs0
    omega
  rw [eS] at A
  have eρ : G.ρ σ.length = T.heap.size := by rw [hρ _ hk, eS]
  refine ⟨T', ⟨locs, ce + 1, sl + m, by simp; omega, by show u + m = _; omega, X', D.push E hsz hk ⟨_, A, ?_, ?_, ?_⟩, N⟩, fun t kt => st t ?_⟩
  · simp [newA, hm, defaultValue, gv]
  · intro C' hC; cases hC; exact hO
  · intro y hy
    rw [List.eq_of_mem_replicate hy]
    rfl
  · rw [← eρ]; exact kt
theorem WStep.alen (z : Int32) (d : AtI G.bytes pc .arraylength 1 nx) (hk : σ[k]? = some (.inl (ty, vs))) (hz : vs.length.toInt32 = z) : WStep G (pc, L, .ref k :: S, σ, u) (nx, L, .int z :: S, σ, u) := by
  refine ⟨Nat.le_refl _, Nat.le_refl _, fun p l e R s m args below meth c hC hc hs T hT => ?_⟩
  obtain ⟨hx, hby, hZ, hown, hnm, hret, hml, hs0, hρ, hinj, hfr, hlo⟩ := hC
  obtain ⟨locs, ce, sl, h1, h2, X, D, N⟩ := hT
  obtain ⟨d, rfl⟩ := d
  obtain ⟨cl, A, eC, -⟩ : ArrOk G.Z G.ρ T.heap (G.n0 + k) ty vs := D.2.2 k _ hk
  rw [← hρ k (D.lt hk)] at A
  refine ⟨T, ⟨locs, ce, sl, h1, h2, X, D, N⟩, fun t kt => X.arraylength hx A.1 (State.isArrayOf_alike hZ.alike A.2.1) (g := frm G m (pc, L, .ref k :: S, σ, u)) rfl rfl (hb hby d) t ?_⟩
  rw [ArrOk.size (ty := ty) eC, hz]
  exact kt
theorem WStep.aaload (i : Nat) (d : AtI G.bytes pc .aaload 1 nx) (hk : σ[k]? = some (.inl (ty, vs))) (hty : ty.isReference = true) (hj : ¬ j < 0) (hi : j.toNatClampNeg = i) (hv : vs[i]? = some v) : WStep G (pc, L, .int j :: .ref k :: S, σ, u) (nx, L, v :: S, σ, u) := by
  refine ⟨Nat.le_refl _, Nat.le_refl _, fun p l e R s m args below meth c hC hc hs T hT => ?_⟩
  obtain ⟨hx, hby, hZ, hown, hnm, hret, hml, hs0, hρ, hinj, hfr, hlo⟩ := hC
  obtain ⟨locs, ce, sl, h1, h2, X, D, N⟩ := hT
  obtain ⟨d, rfl⟩ := d
  obtain ⟨cl, A, eC, -⟩ : ArrOk G.Z G.ρ T.heap (G.n0 + k) ty vs := D.2.2 k _ hk
  rw [← hρ k (D.lt hk)] at A
  have hlt := (List.getElem?_eq_some_iff.mp hv).1
  exact ⟨T, ⟨locs, ce, sl, h1, h2, X, D, N⟩, fun t kt => X.aaload hx (j := j) (v := gv G.ρ v) A.1 (State.isArrayOf_alike hZ.alike A.2.1) hty A.2.2 (fun q => q.elim hj fun q => by rw [ArrOk.size (ty := ty) eC, hi] at q; omega) (by rw [hi]; exact ArrOk.at eC hv) (g := frm G m (pc, L, .int j :: .ref k :: S, σ, u)) rfl rfl (hb hby d) t kt⟩
theorem WStep.aastoreN (i : Nat) (d : AtI G.bytes pc .aastore 1 nx) (hk : σ[k]? = some (.inl (ty, vs))) (hty : ty.isReference = true) (hj : ¬ j < 0) (hi : j.toNatClampNeg = i) (hlt : i < vs.length) : WStep G (pc, L, .null :: .int j :: .ref k :: S, σ, u) (nx, L, S, σ.set k (.inl (ty, vs.set i .null)), u) := by
  refine ⟨by simp, Nat.le_refl _, fun p l e R s m args below meth c hC hc hs T hT => ?_⟩
  obtain ⟨hx, hby, hZ, hown, hnm, hret, hml, hs0, hρ, hinj, hfr, hlo⟩ := hC
  obtain ⟨locs, ce, sl, h1, h2, X, D, N⟩ := hT
  obtain ⟨d, rfl⟩ := d
  obtain ⟨cl, A, eC, hO, hF⟩ : ArrOk G.Z G.ρ T.heap (G.n0 + k) ty vs := D.2.2 k _ hk
  have hρk := hρ k (D.lt hk)
  obtain ⟨T', h', X', e', W, st⟩ := stR X hx hZ rfl A (j := j) (v := .null) (fun q => q.elim hj fun q => by rw [ArrOk.size (ty := ty) eC, hi] at q; omega) hty (Or.inl rfl) (g := frm G m (pc, L, .null :: .int j :: .ref k :: S, σ, u)) rfl (by show _ :: _ :: Value.ref (G.ρ k) :: _ = _; rw [hρk]; rfl) (hb hby d)
  subst e'
  rw [hi] at W
  exact ⟨T', ⟨_, ce, sl, by simpa using h1, h2, X', D.put W (ArrOk.set (w := .null) A eC hO hF W (by cases ty <;> first | rfl | cases hty)), N.app fun y hy => by cases List.mem_singleton.mp hy; exact Nat.le_add_right _ _⟩, st⟩
theorem WStep.aastore {k2 : Nat} (i : Nat) (d : AtI G.bytes pc .aastore 1 nx) (hk : σ[k]? = some (.inl (.object C, vs))) (hk2 : σ[k2]? = some (.inr (C, fs))) (hj : ¬ j < 0) (hi : j.toNatClampNeg = i) (hlt : i < vs.length) : WStep G (pc, L, .ref k2 :: .int j :: .ref k :: S, σ, u) (nx, L, S, σ.set k (.inl (.object C, vs.set i (.ref k2))), u) := by
  refine ⟨by simp, Nat.le_refl _, fun p l e R s m args below meth c hC hc hs T hT => ?_⟩
  obtain ⟨hx, hby, hZ, hown, hnm, hret, hml, hs0, hρ, hinj, hfr, hlo⟩ := hC
  obtain ⟨locs, ce, sl, h1, h2, X, D, N⟩ := hT
  obtain ⟨d, rfl⟩ := d
  obtain ⟨cl, A, eC, hO, hF⟩ : ArrOk G.Z G.ρ T.heap (G.n0 + k) (.object C) vs := D.2.2 k _ hk
  have hρk := hρ k (D.lt hk)
  have hE : Exa G.Z T.heap (G.n0 + k2) C := (D.2.2 k2 _ hk2).1
  rw [← hρ k2 (D.lt hk2)] at hE
  obtain ⟨T', h', X', e', W, st⟩ := stR X hx hZ rfl A (j := j) (v := .ref (G.ρ k2)) (fun q => q.elim hj fun q => by rw [ArrOk.size (ty := .object C) eC, hi] at q; omega) rfl (Sto.of A (hO C rfl) (Ins.self hE)) (g := frm G m (pc, L, .ref k2 :: .int j :: .ref k :: S, σ, u)) rfl (by show _ :: _ :: Value.ref (G.ρ k) :: _ = _; rw [hρk]; rfl) (hb hby d)
  subst e'
  rw [hi] at W
  exact ⟨T', ⟨_, ce, sl, by simpa using h1, h2, X', D.put W (ArrOk.set (w := .ref k2) A eC hO hF W rfl), N.app fun y hy => by cases List.mem_singleton.mp hy; exact Nat.le_add_right _ _⟩, st⟩
end HeapOps
end Jvm.Sy

namespace Jvm.Sy
open Jvm Jvm.RoadKit
abbrev wI (x : Int32) : Slot := .val (.int x)
abbrev wJ (x : Int64) : Slot := .val (.long x)
abbrev wR (k : Nat) : Slot := .val (.ref k)
abbrev wN : Slot := .val .null
abbrev wU : Slot := .unset
abbrev wS : Slot := .second
end Jvm.Sy


namespace Jvm.Pilot.@@N@@
open Jvm Jvm.ClassFile Sem Op Lib Jvm.Free Jvm.Stand Jvm.LawKit Jvm.RoadKit Bundle Jvm.Sy Jvm.Pilot.@@N@@.Jvm.D
theorem wd {Z : State} {a0 : Array Value} (hw : ∀ d ∈ tables_1, d.before a0 Z = true) (i : Nat) {d : Jvm.Cond} (h : tables_1[i]? = some d) : d.before a0 Z = true := hw d (List.mem_of_getElem? h)
abbrev fk0 : WKey := ("com/example/chronogate/chronogate/Event", "timestamp", "J")
abbrev fk1 : WKey := ("com/example/chronogate/chronogate/Event", "adjustments", "Ljava/util/List;")
abbrev fk2 : WKey := ("com/example/chronogate/chronogate/Event", "payload", "Ljava/lang/Object;")
abbrev fk3 : WKey := ("com/example/chronogate/chronogate/Event", "sequence", "J")
abbrev fk4 : WKey := ("com/example/chronogate/chronogate/ReleaseQueue", "heap", "[Lcom/example/chronogate/chronogate/Event;")
abbrev fk5 : WKey := ("com/example/chronogate/chronogate/ReleaseQueue", "size", "I")
abbrev cn0 : String := "com/example/chronogate/chronogate/Event"
abbrev cn1 : String := "com/example/chronogate/chronogate/ReleaseQueue"

abbrev g11 (Z : State) (ρ : Nat → Nat) (n0 j0 u0 : Nat) : WMC := ((Z, ρ, n0), ("com/example/chronogate/chronogate/ReleaseQueue", prog_24_method_6_code, "poll", (some (.object "com/example/chronogate/chronogate/Event")), 5), (j0, u0, 2, 29))
theorem a11_0 : AtI prog_24_method_6_code 0 (.aload_n 0) 1 1 := ⟨by decide +kernel, rfl⟩
theorem a11_1 : AtI prog_24_method_6_code 1 (.getfield 17) 3 4 := ⟨by decide +kernel, rfl⟩
theorem a11_4 : AtJ prog_24_method_6_code 4 (.ifCond .ne) 7 9 := ⟨5, by decide +kernel, rfl, by decide, rfl⟩
theorem a11_7 : AtI prog_24_method_6_code 7 (.aconst_null) 1 8 := ⟨by decide +kernel, rfl⟩
theorem a11_8 : AtI prog_24_method_6_code 8 (.areturn) 1 9 := ⟨by decide +kernel, rfl⟩
theorem a11_9 : AtI prog_24_method_6_code 9 (.aload_n 0) 1 10 := ⟨by decide +kernel, rfl⟩
theorem a11_10 : AtI prog_24_method_6_code 10 (.getfield 13) 3 13 := ⟨by decide +kernel, rfl⟩
theorem a11_13 : AtI prog_24_method_6_code 13 (.iconst 0) 1 14 := ⟨by decide +kernel, rfl⟩
theorem a11_14 : AtI prog_24_method_6_code 14 (.aaload) 1 15 := ⟨by decide +kernel, rfl⟩
theorem a11_15 : AtI prog_24_method_6_code 15 (.astore_n 1) 1 16 := ⟨by decide +kernel, rfl⟩
theorem a11_16 : AtI prog_24_method_6_code 16 (.aload_n 0) 1 17 := ⟨by decide +kernel, rfl⟩
theorem a11_17 : AtI prog_24_method_6_code 17 (.dup) 1 18 := ⟨by decide +kernel, rfl⟩
theorem a11_18 : AtI prog_24_method_6_code 18 (.getfield 17) 3 21 := ⟨by decide +kernel, rfl⟩
theorem a11_21 : AtI prog_24_method_6_code 21 (.iconst 1) 1 22 := ⟨by decide +kernel, rfl⟩
theorem a11_22 : AtI prog_24_method_6_code 22 (.isub) 1 23 := ⟨by decide +kernel, rfl⟩
theorem a11_23 : AtI prog_24_method_6_code 23 (.putfield 17) 3 26 := ⟨by decide +kernel, rfl⟩
theorem a11_26 : AtI prog_24_method_6_code 26 (.aload_n 0) 1 27 := ⟨by decide +kernel, rfl⟩
theorem a11_27 : AtI prog_24_method_6_code 27 (.getfield 13) 3 30 := ⟨by decide +kernel, rfl⟩
theorem a11_30 : AtI prog_24_method_6_code 30 (.aload_n 0) 1 31 := ⟨by decide +kernel, rfl⟩
theorem a11_31 : AtI prog_24_method_6_code 31 (.getfield 17) 3 34 := ⟨by decide +kernel, rfl⟩
theorem a11_34 : AtI prog_24_method_6_code 34 (.aaload) 1 35 := ⟨by decide +kernel, rfl⟩
theorem a11_35 : AtI prog_24_method_6_code 35 (.astore_n 2) 1 36 := ⟨by decide +kernel, rfl⟩
theorem a11_36 : AtI prog_24_method_6_code 36 (.aload_n 0) 1 37 := ⟨by decide +kernel, rfl⟩
theorem a11_37 : AtI prog_24_method_6_code 37 (.getfield 13) 3 40 := ⟨by decide +kernel, rfl⟩
theorem a11_40 : AtI prog_24_method_6_code 40 (.aload_n 0) 1 41 := ⟨by decide +kernel, rfl⟩
theorem a11_41 : AtI prog_24_method_6_code 41 (.getfield 17) 3 44 := ⟨by decide +kernel, rfl⟩
theorem a11_44 : AtI prog_24_method_6_code 44 (.aconst_null) 1 45 := ⟨by decide +kernel, rfl⟩
theorem a11_45 : AtI prog_24_method_6_code 45 (.aastore) 1 46 := ⟨by decide +kernel, rfl⟩
theorem a11_46 : AtI prog_24_method_6_code 46 (.iconst 0) 1 47 := ⟨by decide +kernel, rfl⟩
theorem a11_47 : AtI prog_24_method_6_code 47 (.istore_n 3) 1 48 := ⟨by decide +kernel, rfl⟩
theorem a11_48 : AtI prog_24_method_6_code 48 (.iconst 2) 1 49 := ⟨by decide +kernel, rfl⟩
theorem a11_49 : AtI prog_24_method_6_code 49 (.iload_n 3) 1 50 := ⟨by decide +kernel, rfl⟩
theorem a11_50 : AtI prog_24_method_6_code 50 (.imul) 1 51 := ⟨by decide +kernel, rfl⟩
theorem a11_51 : AtI prog_24_method_6_code 51 (.iconst 1) 1 52 := ⟨by decide +kernel, rfl⟩
theorem a11_52 : AtI prog_24_method_6_code 52 (.iadd) 1 53 := ⟨by decide +kernel, rfl⟩
theorem a11_53 : AtI prog_24_method_6_code 53 (.aload_n 0) 1 54 := ⟨by decide +kernel, rfl⟩
theorem a11_54 : AtI prog_24_method_6_code 54 (.getfield 17) 3 57 := ⟨by decide +kernel, rfl⟩
theorem a11_57 : AtJ prog_24_method_6_code 57 (.if_icmp .ge) 60 139 := ⟨82, by decide +kernel, rfl, by decide, rfl⟩
theorem a11_60 : AtI prog_24_method_6_code 60 (.iconst 2) 1 61 := ⟨by decide +kernel, rfl⟩
theorem a11_61 : AtI prog_24_method_6_code 61 (.iload_n 3) 1 62 := ⟨by decide +kernel, rfl⟩
theorem a11_62 : AtI prog_24_method_6_code 62 (.imul) 1 63 := ⟨by decide +kernel, rfl⟩
theorem a11_63 : AtI prog_24_method_6_code 63 (.iconst 1) 1 64 := ⟨by decide +kernel, rfl⟩
theorem a11_64 : AtI prog_24_method_6_code 64 (.iadd) 1 65 := ⟨by decide +kernel, rfl⟩
theorem a11_65 : AtI prog_24_method_6_code 65 (.istore 4) 2 67 := ⟨by decide +kernel, rfl⟩
theorem a11_67 : AtI prog_24_method_6_code 67 (.iload 4) 2 69 := ⟨by decide +kernel, rfl⟩
theorem a11_69 : AtI prog_24_method_6_code 69 (.iconst 1) 1 70 := ⟨by decide +kernel, rfl⟩
theorem a11_70 : AtI prog_24_method_6_code 70 (.iadd) 1 71 := ⟨by decide +kernel, rfl⟩
theorem a11_71 : AtI prog_24_method_6_code 71 (.aload_n 0) 1 72 := ⟨by decide +kernel, rfl⟩
theorem a11_72 : AtI prog_24_method_6_code 72 (.getfield 17) 3 75 := ⟨by decide +kernel, rfl⟩
theorem a11_75 : AtJ prog_24_method_6_code 75 (.if_icmp .ge) 78 103 := ⟨28, by decide +kernel, rfl, by decide, rfl⟩
theorem a11_78 : AtI prog_24_method_6_code 78 (.aload_n 0) 1 79 := ⟨by decide +kernel, rfl⟩
theorem a11_79 : AtI prog_24_method_6_code 79 (.getfield 13) 3 82 := ⟨by decide +kernel, rfl⟩
theorem a11_82 : AtI prog_24_method_6_code 82 (.iload 4) 2 84 := ⟨by decide +kernel, rfl⟩
theorem a11_84 : AtI prog_24_method_6_code 84 (.iconst 1) 1 85 := ⟨by decide +kernel, rfl⟩
theorem a11_85 : AtI prog_24_method_6_code 85 (.iadd) 1 86 := ⟨by decide +kernel, rfl⟩
theorem a11_86 : AtI prog_24_method_6_code 86 (.aaload) 1 87 := ⟨by decide +kernel, rfl⟩
theorem a11_87 : AtI prog_24_method_6_code 87 (.aload_n 0) 1 88 := ⟨by decide +kernel, rfl⟩
theorem a11_88 : AtI prog_24_method_6_code 88 (.getfield 13) 3 91 := ⟨by decide +kernel, rfl⟩
theorem a11_91 : AtI prog_24_method_6_code 91 (.iload 4) 2 93 := ⟨by decide +kernel, rfl⟩
theorem a11_93 : AtI prog_24_method_6_code 93 (.aaload) 1 94 := ⟨by decide +kernel, rfl⟩
theorem a11_94 : AtI prog_24_method_6_code 94 (.invokestatic 28) 3 97 := ⟨by decide +kernel, rfl⟩
theorem a11_97 : AtJ prog_24_method_6_code 97 (.ifCond .ge) 100 103 := ⟨6, by decide +kernel, rfl, by decide, rfl⟩
theorem a11_100 : AtI prog_24_method_6_code 100 (.iinc 4 1) 3 103 := ⟨by decide +kernel, rfl⟩
theorem a11_103 : AtI prog_24_method_6_code 103 (.aload_n 2) 1 104 := ⟨by decide +kernel, rfl⟩
theorem a11_104 : AtI prog_24_method_6_code 104 (.aload_n 0) 1 105 := ⟨by decide +kernel, rfl⟩
theorem a11_105 : AtI prog_24_method_6_code 105 (.getfield 13) 3 108 := ⟨by decide +kernel, rfl⟩
theorem a11_108 : AtI prog_24_method_6_code 108 (.iload 4) 2 110 := ⟨by decide +kernel, rfl⟩
theorem a11_110 : AtI prog_24_method_6_code 110 (.aaload) 1 111 := ⟨by decide +kernel, rfl⟩
theorem a11_111 : AtI prog_24_method_6_code 111 (.invokestatic 28) 3 114 := ⟨by decide +kernel, rfl⟩
theorem a11_114 : AtJ prog_24_method_6_code 114 (.ifCond .gt) 117 120 := ⟨6, by decide +kernel, rfl, by decide, rfl⟩
theorem a11_117 : AtJ prog_24_method_6_code 117 (.goto) 120 139 := ⟨22, by decide +kernel, rfl, by decide, rfl⟩
theorem a11_120 : AtI prog_24_method_6_code 120 (.aload_n 0) 1 121 := ⟨by decide +kernel, rfl⟩
theorem a11_121 : AtI prog_24_method_6_code 121 (.getfield 13) 3 124 := ⟨by decide +kernel, rfl⟩
theorem a11_124 : AtI prog_24_method_6_code 124 (.iload_n 3) 1 125 := ⟨by decide +kernel, rfl⟩
theorem a11_125 : AtI prog_24_method_6_code 125 (.aload_n 0) 1 126 := ⟨by decide +kernel, rfl⟩
theorem a11_126 : AtI prog_24_method_6_code 126 (.getfield 13) 3 129 := ⟨by decide +kernel, rfl⟩
theorem a11_129 : AtI prog_24_method_6_code 129 (.iload 4) 2 131 := ⟨by decide +kernel, rfl⟩
theorem a11_131 : AtI prog_24_method_6_code 131 (.aaload) 1 132 := ⟨by decide +kernel, rfl⟩
theorem a11_132 : AtI prog_24_method_6_code 132 (.aastore) 1 133 := ⟨by decide +kernel, rfl⟩
theorem a11_133 : AtI prog_24_method_6_code 133 (.iload 4) 2 135 := ⟨by decide +kernel, rfl⟩
theorem a11_135 : AtI prog_24_method_6_code 135 (.istore_n 3) 1 136 := ⟨by decide +kernel, rfl⟩
theorem a11_136 : AtJ prog_24_method_6_code 136 (.goto) 139 48 := ⟨(-88), by decide +kernel, rfl, by decide, rfl⟩
theorem a11_139 : AtI prog_24_method_6_code 139 (.aload_n 0) 1 140 := ⟨by decide +kernel, rfl⟩
theorem a11_140 : AtI prog_24_method_6_code 140 (.getfield 17) 3 143 := ⟨by decide +kernel, rfl⟩
theorem a11_143 : AtJ prog_24_method_6_code 143 (.ifCond .le) 146 153 := ⟨10, by decide +kernel, rfl, by decide, rfl⟩
theorem a11_146 : AtI prog_24_method_6_code 146 (.aload_n 0) 1 147 := ⟨by decide +kernel, rfl⟩
theorem a11_147 : AtI prog_24_method_6_code 147 (.getfield 13) 3 150 := ⟨by decide +kernel, rfl⟩
theorem a11_150 : AtI prog_24_method_6_code 150 (.iload_n 3) 1 151 := ⟨by decide +kernel, rfl⟩
theorem a11_151 : AtI prog_24_method_6_code 151 (.aload_n 2) 1 152 := ⟨by decide +kernel, rfl⟩
theorem a11_152 : AtI prog_24_method_6_code 152 (.aastore) 1 153 := ⟨by decide +kernel, rfl⟩
theorem a11_153 : AtI prog_24_method_6_code 153 (.aload_n 1) 1 154 := ⟨by decide +kernel, rfl⟩
theorem a11_154 : AtI prog_24_method_6_code 154 (.areturn) 1 155 := ⟨by decide +kernel, rfl⟩
theorem pd11 : parseMethodDescriptor "()Lcom/example/chronogate/chronogate/Event;" = some ⟨[], some (.object "com/example/chronogate/chronogate/Event")⟩ := by decide +kernel
theorem pl11 : plainFor (⟨"com/example/chronogate/chronogate/ReleaseQueue", "poll", "()Lcom/example/chronogate/chronogate/Event;"⟩ : MethodName) = true := plainFor_of_name (by first | (simp [plainName, overriddenIn]; done) | decide +kernel)
theorem ok11 {Z : State} {a0 : Array Value} (hw : ∀ d ∈ tables_1, d.before a0 Z = true) (ρ : Nat → Nat) (n0 j0 u0 : Nat) : WCallee Z a0 (⟨"com/example/chronogate/chronogate/ReleaseQueue", "poll", "()Lcom/example/chronogate/chronogate/Event;"⟩ : MethodName) (g11 Z ρ n0 j0 u0) 0 :=
  ⟨pl11, (by decide), rfl, rfl, rfl, (wd hw 20 rfl), (wd hw 65 rfl), fun sig h => by cases pd11.symm.trans h; rfl⟩
abbrev g10 (Z : State) (ρ : Nat → Nat) (n0 j0 u0 : Nat) : WMC := ((Z, ρ, n0), ("java/lang/Long", jdk_35_method_42_code, "compare", (some .int), 4), (j0, u0, 0, 0))
theorem a10_0 : AtI jdk_35_method_42_code 0 (.lload_n 0) 1 1 := ⟨by decide +kernel, rfl⟩
theorem a10_1 : AtI jdk_35_method_42_code 1 (.lload_n 2) 1 2 := ⟨by decide +kernel, rfl⟩
theorem a10_2 : AtI jdk_35_method_42_code 2 (.lcmp) 1 3 := ⟨by decide +kernel, rfl⟩
theorem a10_3 : AtJ jdk_35_method_42_code 3 (.ifCond .ge) 6 10 := ⟨7, by decide +kernel, rfl, by decide, rfl⟩
theorem a10_6 : AtI jdk_35_method_42_code 6 (.iconst (-1)) 1 7 := ⟨by decide +kernel, rfl⟩
theorem a10_7 : AtJ jdk_35_method_42_code 7 (.goto) 10 21 := ⟨14, by decide +kernel, rfl, by decide, rfl⟩
theorem a10_10 : AtI jdk_35_method_42_code 10 (.lload_n 0) 1 11 := ⟨by decide +kernel, rfl⟩
theorem a10_11 : AtI jdk_35_method_42_code 11 (.lload_n 2) 1 12 := ⟨by decide +kernel, rfl⟩
theorem a10_12 : AtI jdk_35_method_42_code 12 (.lcmp) 1 13 := ⟨by decide +kernel, rfl⟩
theorem a10_13 : AtJ jdk_35_method_42_code 13 (.ifCond .ne) 16 20 := ⟨7, by decide +kernel, rfl, by decide, rfl⟩
theorem a10_16 : AtI jdk_35_method_42_code 16 (.iconst 0) 1 17 := ⟨by decide +kernel, rfl⟩
theorem a10_17 : AtJ jdk_35_method_42_code 17 (.goto) 20 21 := ⟨4, by decide +kernel, rfl, by decide, rfl⟩
theorem a10_20 : AtI jdk_35_method_42_code 20 (.iconst 1) 1 21 := ⟨by decide +kernel, rfl⟩
theorem a10_21 : AtI jdk_35_method_42_code 21 (.ireturn) 1 22 := ⟨by decide +kernel, rfl⟩
theorem pd10 : parseMethodDescriptor "(JJ)I" = some ⟨[.long, .long], some .int⟩ := by decide +kernel
theorem pl10 : plainFor (⟨"java/lang/Long", "compare", "(JJ)I"⟩ : MethodName) = true := plainFor_of_name (by first | (simp [plainName, overriddenIn]; done) | decide +kernel)
theorem ok10 {Z : State} {a0 : Array Value} (hw : ∀ d ∈ tables_1, d.before a0 Z = true) (ρ : Nat → Nat) (n0 j0 u0 : Nat) : WCallee Z a0 (⟨"java/lang/Long", "compare", "(JJ)I"⟩ : MethodName) (g10 Z ρ n0 j0 u0) 2 :=
  ⟨pl10, (by decide), rfl, rfl, rfl, (wd hw 59 rfl), (wd hw 60 rfl), fun sig h => by cases pd10.symm.trans h; rfl⟩
abbrev g9 (Z : State) (ρ : Nat → Nat) (n0 j0 u0 : Nat) : WMC := ((Z, ρ, n0), ("com/example/chronogate/chronogate/Event", prog_8_method_6_code, "releaseOrder", (some .int), 3), (j0, u0, 1, 15))
theorem a9_0 : AtI prog_8_method_6_code 0 (.aload_n 0) 1 1 := ⟨by decide +kernel, rfl⟩
theorem a9_1 : AtI prog_8_method_6_code 1 (.getfield 7) 3 4 := ⟨by decide +kernel, rfl⟩
theorem a9_4 : AtI prog_8_method_6_code 4 (.aload_n 1) 1 5 := ⟨by decide +kernel, rfl⟩
theorem a9_5 : AtI prog_8_method_6_code 5 (.getfield 7) 3 8 := ⟨by decide +kernel, rfl⟩
theorem a9_8 : AtI prog_8_method_6_code 8 (.invokestatic 24) 3 11 := ⟨by decide +kernel, rfl⟩
theorem a9_11 : AtI prog_8_method_6_code 11 (.istore_n 2) 1 12 := ⟨by decide +kernel, rfl⟩
theorem a9_12 : AtI prog_8_method_6_code 12 (.iload_n 2) 1 13 := ⟨by decide +kernel, rfl⟩
theorem a9_13 : AtJ prog_8_method_6_code 13 (.ifCond .eq) 16 20 := ⟨7, by decide +kernel, rfl, by decide, rfl⟩
theorem a9_16 : AtI prog_8_method_6_code 16 (.iload_n 2) 1 17 := ⟨by decide +kernel, rfl⟩
theorem a9_17 : AtJ prog_8_method_6_code 17 (.goto) 20 31 := ⟨14, by decide +kernel, rfl, by decide, rfl⟩
theorem a9_20 : AtI prog_8_method_6_code 20 (.aload_n 0) 1 21 := ⟨by decide +kernel, rfl⟩
theorem a9_21 : AtI prog_8_method_6_code 21 (.getfield 21) 3 24 := ⟨by decide +kernel, rfl⟩
theorem a9_24 : AtI prog_8_method_6_code 24 (.aload_n 1) 1 25 := ⟨by decide +kernel, rfl⟩
theorem a9_25 : AtI prog_8_method_6_code 25 (.getfield 21) 3 28 := ⟨by decide +kernel, rfl⟩
theorem a9_28 : AtI prog_8_method_6_code 28 (.invokestatic 24) 3 31 := ⟨by decide +kernel, rfl⟩
theorem a9_31 : AtI prog_8_method_6_code 31 (.ireturn) 1 32 := ⟨by decide +kernel, rfl⟩
theorem pd9 : parseMethodDescriptor "(Lcom/example/chronogate/chronogate/Event;Lcom/example/chronogate/chronogate/Event;)I" = some ⟨[(.object "com/example/chronogate/chronogate/Event"), (.object "com/example/chronogate/chronogate/Event")], some .int⟩ := by decide +kernel
theorem pl9 : plainFor (⟨"com/example/chronogate/chronogate/Event", "releaseOrder", "(Lcom/example/chronogate/chronogate/Event;Lcom/example/chronogate/chronogate/Event;)I"⟩ : MethodName) = true := plainFor_of_name (by first | (simp [plainName, overriddenIn]; done) | decide +kernel)
theorem ok9 {Z : State} {a0 : Array Value} (hw : ∀ d ∈ tables_1, d.before a0 Z = true) (ρ : Nat → Nat) (n0 j0 u0 : Nat) : WCallee Z a0 (⟨"com/example/chronogate/chronogate/Event", "releaseOrder", "(Lcom/example/chronogate/chronogate/Event;Lcom/example/chronogate/chronogate/Event;)I"⟩ : MethodName) (g9 Z ρ n0 j0 u0) 2 :=
  ⟨pl9, (by decide), rfl, rfl, rfl, (wd hw 3 rfl), (wd hw 56 rfl), fun sig h => by cases pd9.symm.trans h; rfl⟩
abbrev g8 (Z : State) (ρ : Nat → Nat) (n0 j0 u0 : Nat) : WMC := ((Z, ρ, n0), ("com/example/chronogate/chronogate/ReleaseQueue", prog_24_method_2_code, "add", none, 4), (j0, u0, 2, 29))
theorem a8_0 : AtI prog_24_method_2_code 0 (.aload_n 0) 1 1 := ⟨by decide +kernel, rfl⟩
theorem a8_1 : AtI prog_24_method_2_code 1 (.getfield 17) 3 4 := ⟨by decide +kernel, rfl⟩
theorem a8_4 : AtI prog_24_method_2_code 4 (.aload_n 0) 1 5 := ⟨by decide +kernel, rfl⟩
theorem a8_5 : AtI prog_24_method_2_code 5 (.getfield 13) 3 8 := ⟨by decide +kernel, rfl⟩
theorem a8_8 : AtI prog_24_method_2_code 8 (.arraylength) 1 9 := ⟨by decide +kernel, rfl⟩
theorem a8_9 : AtJ prog_24_method_2_code 9 (.if_icmp .ne) 12 32 := ⟨23, by decide +kernel, rfl, by decide, rfl⟩
theorem a8_12 : AtI prog_24_method_2_code 12 (.aload_n 0) 1 13 := ⟨by decide +kernel, rfl⟩
theorem a8_13 : AtI prog_24_method_2_code 13 (.aload_n 0) 1 14 := ⟨by decide +kernel, rfl⟩
theorem a8_14 : AtI prog_24_method_2_code 14 (.getfield 13) 3 17 := ⟨by decide +kernel, rfl⟩
theorem a8_17 : AtI prog_24_method_2_code 17 (.iconst 2) 1 18 := ⟨by decide +kernel, rfl⟩
theorem a8_18 : AtI prog_24_method_2_code 18 (.aload_n 0) 1 19 := ⟨by decide +kernel, rfl⟩
theorem a8_19 : AtI prog_24_method_2_code 19 (.getfield 17) 3 22 := ⟨by decide +kernel, rfl⟩
theorem a8_22 : AtI prog_24_method_2_code 22 (.imul) 1 23 := ⟨by decide +kernel, rfl⟩
theorem a8_23 : AtI prog_24_method_2_code 23 (.invokestatic 21) 3 26 := ⟨by decide +kernel, rfl⟩
theorem a8_32 : AtI prog_24_method_2_code 32 (.aload_n 0) 1 33 := ⟨by decide +kernel, rfl⟩
theorem a8_33 : AtI prog_24_method_2_code 33 (.dup) 1 34 := ⟨by decide +kernel, rfl⟩
theorem a8_34 : AtI prog_24_method_2_code 34 (.getfield 17) 3 37 := ⟨by decide +kernel, rfl⟩
theorem a8_37 : AtI prog_24_method_2_code 37 (.dup_x1) 1 38 := ⟨by decide +kernel, rfl⟩
theorem a8_38 : AtI prog_24_method_2_code 38 (.iconst 1) 1 39 := ⟨by decide +kernel, rfl⟩
theorem a8_39 : AtI prog_24_method_2_code 39 (.iadd) 1 40 := ⟨by decide +kernel, rfl⟩
theorem a8_40 : AtI prog_24_method_2_code 40 (.putfield 17) 3 43 := ⟨by decide +kernel, rfl⟩
theorem a8_43 : AtI prog_24_method_2_code 43 (.istore_n 2) 1 44 := ⟨by decide +kernel, rfl⟩
theorem a8_44 : AtI prog_24_method_2_code 44 (.iload_n 2) 1 45 := ⟨by decide +kernel, rfl⟩
theorem a8_45 : AtJ prog_24_method_2_code 45 (.ifCond .le) 48 87 := ⟨42, by decide +kernel, rfl, by decide, rfl⟩
theorem a8_48 : AtI prog_24_method_2_code 48 (.iload_n 2) 1 49 := ⟨by decide +kernel, rfl⟩
theorem a8_49 : AtI prog_24_method_2_code 49 (.iconst 1) 1 50 := ⟨by decide +kernel, rfl⟩
theorem a8_50 : AtI prog_24_method_2_code 50 (.isub) 1 51 := ⟨by decide +kernel, rfl⟩
theorem a8_51 : AtI prog_24_method_2_code 51 (.iconst 2) 1 52 := ⟨by decide +kernel, rfl⟩
theorem a8_52 : AtI prog_24_method_2_code 52 (.idiv) 1 53 := ⟨by decide +kernel, rfl⟩
theorem a8_53 : AtI prog_24_method_2_code 53 (.istore_n 3) 1 54 := ⟨by decide +kernel, rfl⟩
theorem a8_54 : AtI prog_24_method_2_code 54 (.aload_n 1) 1 55 := ⟨by decide +kernel, rfl⟩
theorem a8_55 : AtI prog_24_method_2_code 55 (.aload_n 0) 1 56 := ⟨by decide +kernel, rfl⟩
theorem a8_56 : AtI prog_24_method_2_code 56 (.getfield 13) 3 59 := ⟨by decide +kernel, rfl⟩
theorem a8_59 : AtI prog_24_method_2_code 59 (.iload_n 3) 1 60 := ⟨by decide +kernel, rfl⟩
theorem a8_60 : AtI prog_24_method_2_code 60 (.aaload) 1 61 := ⟨by decide +kernel, rfl⟩
theorem a8_61 : AtI prog_24_method_2_code 61 (.invokestatic 28) 3 64 := ⟨by decide +kernel, rfl⟩
theorem a8_64 : AtJ prog_24_method_2_code 64 (.ifCond .lt) 67 70 := ⟨6, by decide +kernel, rfl, by decide, rfl⟩
theorem a8_67 : AtJ prog_24_method_2_code 67 (.goto) 70 87 := ⟨20, by decide +kernel, rfl, by decide, rfl⟩
theorem a8_70 : AtI prog_24_method_2_code 70 (.aload_n 0) 1 71 := ⟨by decide +kernel, rfl⟩
theorem a8_71 : AtI prog_24_method_2_code 71 (.getfield 13) 3 74 := ⟨by decide +kernel, rfl⟩
theorem a8_74 : AtI prog_24_method_2_code 74 (.iload_n 2) 1 75 := ⟨by decide +kernel, rfl⟩
theorem a8_75 : AtI prog_24_method_2_code 75 (.aload_n 0) 1 76 := ⟨by decide +kernel, rfl⟩
theorem a8_76 : AtI prog_24_method_2_code 76 (.getfield 13) 3 79 := ⟨by decide +kernel, rfl⟩
theorem a8_79 : AtI prog_24_method_2_code 79 (.iload_n 3) 1 80 := ⟨by decide +kernel, rfl⟩
theorem a8_80 : AtI prog_24_method_2_code 80 (.aaload) 1 81 := ⟨by decide +kernel, rfl⟩
theorem a8_81 : AtI prog_24_method_2_code 81 (.aastore) 1 82 := ⟨by decide +kernel, rfl⟩
theorem a8_82 : AtI prog_24_method_2_code 82 (.iload_n 3) 1 83 := ⟨by decide +kernel, rfl⟩
theorem a8_83 : AtI prog_24_method_2_code 83 (.istore_n 2) 1 84 := ⟨by decide +kernel, rfl⟩
theorem a8_84 : AtJ prog_24_method_2_code 84 (.goto) 87 44 := ⟨(-40), by decide +kernel, rfl, by decide, rfl⟩
theorem a8_87 : AtI prog_24_method_2_code 87 (.aload_n 0) 1 88 := ⟨by decide +kernel, rfl⟩
theorem a8_88 : AtI prog_24_method_2_code 88 (.getfield 13) 3 91 := ⟨by decide +kernel, rfl⟩
theorem a8_91 : AtI prog_24_method_2_code 91 (.iload_n 2) 1 92 := ⟨by decide +kernel, rfl⟩
theorem a8_92 : AtI prog_24_method_2_code 92 (.aload_n 1) 1 93 := ⟨by decide +kernel, rfl⟩
theorem a8_93 : AtI prog_24_method_2_code 93 (.aastore) 1 94 := ⟨by decide +kernel, rfl⟩
theorem a8_94 : AtI prog_24_method_2_code 94 (.return_) 1 95 := ⟨by decide +kernel, rfl⟩
theorem pd8 : parseMethodDescriptor "(Lcom/example/chronogate/chronogate/Event;)V" = some ⟨[(.object "com/example/chronogate/chronogate/Event")], none⟩ := by decide +kernel
theorem pl8 : plainFor (⟨"com/example/chronogate/chronogate/ReleaseQueue", "add", "(Lcom/example/chronogate/chronogate/Event;)V"⟩ : MethodName) = true := plainFor_of_name (by first | (simp [plainName, overriddenIn]; done) | decide +kernel)
theorem ok8 {Z : State} {a0 : Array Value} (hw : ∀ d ∈ tables_1, d.before a0 Z = true) (ρ : Nat → Nat) (n0 j0 u0 : Nat) : WCallee Z a0 (⟨"com/example/chronogate/chronogate/ReleaseQueue", "add", "(Lcom/example/chronogate/chronogate/Event;)V"⟩ : MethodName) (g8 Z ρ n0 j0 u0) 1 :=
  ⟨pl8, (by decide), rfl, rfl, rfl, (wd hw 20 rfl), (wd hw 52 rfl), fun sig h => by cases pd8.symm.trans h; rfl⟩
abbrev g7 (Z : State) (ρ : Nat → Nat) (n0 j0 u0 : Nat) : WMC := ((Z, ρ, n0), ("com/example/chronogate/chronogate/ReleaseQueue", prog_24_method_5_code, "peek", (some (.object "com/example/chronogate/chronogate/Event")), 1), (j0, u0, 0, 0))
theorem a7_0 : AtI prog_24_method_5_code 0 (.aload_n 0) 1 1 := ⟨by decide +kernel, rfl⟩
theorem a7_1 : AtI prog_24_method_5_code 1 (.getfield 17) 3 4 := ⟨by decide +kernel, rfl⟩
theorem a7_4 : AtJ prog_24_method_5_code 4 (.ifCond .ne) 7 11 := ⟨7, by decide +kernel, rfl, by decide, rfl⟩
theorem a7_7 : AtI prog_24_method_5_code 7 (.aconst_null) 1 8 := ⟨by decide +kernel, rfl⟩
theorem a7_8 : AtJ prog_24_method_5_code 8 (.goto) 11 17 := ⟨9, by decide +kernel, rfl, by decide, rfl⟩
theorem a7_11 : AtI prog_24_method_5_code 11 (.aload_n 0) 1 12 := ⟨by decide +kernel, rfl⟩
theorem a7_12 : AtI prog_24_method_5_code 12 (.getfield 13) 3 15 := ⟨by decide +kernel, rfl⟩
theorem a7_15 : AtI prog_24_method_5_code 15 (.iconst 0) 1 16 := ⟨by decide +kernel, rfl⟩
theorem a7_16 : AtI prog_24_method_5_code 16 (.aaload) 1 17 := ⟨by decide +kernel, rfl⟩
theorem a7_17 : AtI prog_24_method_5_code 17 (.areturn) 1 18 := ⟨by decide +kernel, rfl⟩
theorem pd7 : parseMethodDescriptor "()Lcom/example/chronogate/chronogate/Event;" = some ⟨[], some (.object "com/example/chronogate/chronogate/Event")⟩ := by decide +kernel
theorem pl7 : plainFor (⟨"com/example/chronogate/chronogate/ReleaseQueue", "peek", "()Lcom/example/chronogate/chronogate/Event;"⟩ : MethodName) = true := plainFor_of_name (by first | (simp [plainName, overriddenIn]; done) | decide +kernel)
theorem ok7 {Z : State} {a0 : Array Value} (hw : ∀ d ∈ tables_1, d.before a0 Z = true) (ρ : Nat → Nat) (n0 j0 u0 : Nat) : WCallee Z a0 (⟨"com/example/chronogate/chronogate/ReleaseQueue", "peek", "()Lcom/example/chronogate/chronogate/Event;"⟩ : MethodName) (g7 Z ρ n0 j0 u0) 0 :=
  ⟨pl7, (by decide), rfl, rfl, rfl, (wd hw 20 rfl), (wd hw 47 rfl), fun sig h => by cases pd7.symm.trans h; rfl⟩
abbrev g6 (Z : State) (ρ : Nat → Nat) (n0 j0 u0 : Nat) : WMC := ((Z, ρ, n0), ("java/lang/Math", jdk_29_method_65_code, "max", (some .int), 2), (j0, u0, 0, 0))
theorem a6_0 : AtI jdk_29_method_65_code 0 (.iload_n 0) 1 1 := ⟨by decide +kernel, rfl⟩
theorem a6_1 : AtI jdk_29_method_65_code 1 (.iload_n 1) 1 2 := ⟨by decide +kernel, rfl⟩
theorem a6_2 : AtJ jdk_29_method_65_code 2 (.if_icmp .lt) 5 9 := ⟨7, by decide +kernel, rfl, by decide, rfl⟩
theorem a6_5 : AtI jdk_29_method_65_code 5 (.iload_n 0) 1 6 := ⟨by decide +kernel, rfl⟩
theorem a6_6 : AtJ jdk_29_method_65_code 6 (.goto) 9 10 := ⟨4, by decide +kernel, rfl, by decide, rfl⟩
theorem a6_9 : AtI jdk_29_method_65_code 9 (.iload_n 1) 1 10 := ⟨by decide +kernel, rfl⟩
theorem a6_10 : AtI jdk_29_method_65_code 10 (.ireturn) 1 11 := ⟨by decide +kernel, rfl⟩
theorem pd6 : parseMethodDescriptor "(II)I" = some ⟨[.int, .int], some .int⟩ := by decide +kernel
theorem pl6 : plainFor (⟨"java/lang/Math", "max", "(II)I"⟩ : MethodName) = true := Jvm.Free.JP.mathPlain rfl (by decide +kernel)
theorem ok6 {Z : State} {a0 : Array Value} (hw : ∀ d ∈ tables_1, d.before a0 Z = true) (ρ : Nat → Nat) (n0 j0 u0 : Nat) : WCallee Z a0 (⟨"java/lang/Math", "max", "(II)I"⟩ : MethodName) (g6 Z ρ n0 j0 u0) 2 :=
  ⟨pl6, (by decide), rfl, rfl, rfl, (wd hw 41 rfl), (wd hw 42 rfl), fun sig h => by cases pd6.symm.trans h; rfl⟩
abbrev g5 (Z : State) (ρ : Nat → Nat) (n0 j0 u0 : Nat) : WMC := ((Z, ρ, n0), ("com/example/chronogate/chronogate/ReleaseQueue", prog_24_method_3_code, "isEmpty", (some .boolean), 1), (j0, u0, 0, 0))
theorem a5_0 : AtI prog_24_method_3_code 0 (.aload_n 0) 1 1 := ⟨by decide +kernel, rfl⟩
theorem a5_1 : AtI prog_24_method_3_code 1 (.getfield 17) 3 4 := ⟨by decide +kernel, rfl⟩
theorem a5_4 : AtJ prog_24_method_3_code 4 (.ifCond .ne) 7 11 := ⟨7, by decide +kernel, rfl, by decide, rfl⟩
theorem a5_7 : AtI prog_24_method_3_code 7 (.iconst 1) 1 8 := ⟨by decide +kernel, rfl⟩
theorem a5_8 : AtJ prog_24_method_3_code 8 (.goto) 11 12 := ⟨4, by decide +kernel, rfl, by decide, rfl⟩
theorem a5_11 : AtI prog_24_method_3_code 11 (.iconst 0) 1 12 := ⟨by decide +kernel, rfl⟩
theorem a5_12 : AtI prog_24_method_3_code 12 (.ireturn) 1 13 := ⟨by decide +kernel, rfl⟩
theorem pd5 : parseMethodDescriptor "()Z" = some ⟨[], some .boolean⟩ := by decide +kernel
theorem pl5 : plainFor (⟨"com/example/chronogate/chronogate/ReleaseQueue", "isEmpty", "()Z"⟩ : MethodName) = true := plainFor_of_name (by first | (simp [plainName, overriddenIn]; done) | decide +kernel)
theorem ok5 {Z : State} {a0 : Array Value} (hw : ∀ d ∈ tables_1, d.before a0 Z = true) (ρ : Nat → Nat) (n0 j0 u0 : Nat) : WCallee Z a0 (⟨"com/example/chronogate/chronogate/ReleaseQueue", "isEmpty", "()Z"⟩ : MethodName) (g5 Z ρ n0 j0 u0) 0 :=
  ⟨pl5, (by decide), rfl, rfl, rfl, (wd hw 20 rfl), (wd hw 36 rfl), fun sig h => by cases pd5.symm.trans h; rfl⟩
abbrev g4 (Z : State) (ρ : Nat → Nat) (n0 j0 u0 : Nat) : WMC := ((Z, ρ, n0), ("com/example/chronogate/chronogate/ReleaseQueue", prog_24_method_8_code, "newArray", (some (.array (.object "com/example/chronogate/chronogate/Event"))), 1), (j0, u0, 0, 0))
theorem a4_0 : AtI prog_24_method_8_code 0 (.iload_n 0) 1 1 := ⟨by decide +kernel, rfl⟩
theorem a4_1 : AtI prog_24_method_8_code 1 (.anewarray 29) 3 4 := ⟨by decide +kernel, rfl⟩
theorem a4_4 : AtI prog_24_method_8_code 4 (.areturn) 1 5 := ⟨by decide +kernel, rfl⟩
theorem pd4 : parseMethodDescriptor "(I)[Lcom/example/chronogate/chronogate/Event;" = some ⟨[.int], some (.array (.object "com/example/chronogate/chronogate/Event"))⟩ := by decide +kernel
theorem pl4 : plainFor (⟨"com/example/chronogate/chronogate/ReleaseQueue", "newArray", "(I)[Lcom/example/chronogate/chronogate/Event;"⟩ : MethodName) = true := plainFor_of_name (by first | (simp [plainName, overriddenIn]; done) | decide +kernel)
theorem ok4 {Z : State} {a0 : Array Value} (hw : ∀ d ∈ tables_1, d.before a0 Z = true) (ρ : Nat → Nat) (n0 j0 u0 : Nat) : WCallee Z a0 (⟨"com/example/chronogate/chronogate/ReleaseQueue", "newArray", "(I)[Lcom/example/chronogate/chronogate/Event;"⟩ : MethodName) (g4 Z ρ n0 j0 u0) 1 :=
  ⟨pl4, (by decide), rfl, rfl, rfl, (wd hw 20 rfl), (wd hw 27 rfl), fun sig h => by cases pd4.symm.trans h; rfl⟩
abbrev g3 (Z : State) (ρ : Nat → Nat) (n0 j0 u0 : Nat) : WMC := ((Z, ρ, n0), ("com/example/chronogate/chronogate/ReleaseQueue", prog_24_method_1_code, "<init>", none, 1), (j0, u0, 1, 13))
theorem a3_0 : AtI prog_24_method_1_code 0 (.aload_n 0) 1 1 := ⟨by decide +kernel, rfl⟩
theorem a3_1 : AtI prog_24_method_1_code 1 (.invokespecial 1) 3 4 := ⟨by decide +kernel, rfl⟩
theorem a3_4 : AtI prog_24_method_1_code 4 (.aload_n 0) 1 5 := ⟨by decide +kernel, rfl⟩
theorem a3_5 : AtI prog_24_method_1_code 5 (.bipush 8) 2 7 := ⟨by decide +kernel, rfl⟩
theorem a3_7 : AtI prog_24_method_1_code 7 (.invokestatic 9) 3 10 := ⟨by decide +kernel, rfl⟩
theorem a3_10 : AtI prog_24_method_1_code 10 (.putfield 13) 3 13 := ⟨by decide +kernel, rfl⟩
theorem a3_13 : AtI prog_24_method_1_code 13 (.return_) 1 14 := ⟨by decide +kernel, rfl⟩
theorem pd3 : parseMethodDescriptor "()V" = some ⟨[], none⟩ := by decide +kernel
theorem pl3 : plainFor (⟨"com/example/chronogate/chronogate/ReleaseQueue", "<init>", "()V"⟩ : MethodName) = true := plainFor_of_name (by first | (simp [plainName, overriddenIn]; done) | decide +kernel)
theorem ok3 {Z : State} {a0 : Array Value} (hw : ∀ d ∈ tables_1, d.before a0 Z = true) (ρ : Nat → Nat) (n0 j0 u0 : Nat) : WCallee Z a0 (⟨"com/example/chronogate/chronogate/ReleaseQueue", "<init>", "()V"⟩ : MethodName) (g3 Z ρ n0 j0 u0) 0 :=
  ⟨pl3, (by decide), rfl, rfl, rfl, (wd hw 20 rfl), (wd hw 23 rfl), fun sig h => by cases pd3.symm.trans h; rfl⟩
abbrev g1 (Z : State) (ρ : Nat → Nat) (n0 j0 u0 : Nat) : WMC := ((Z, ρ, n0), ("com/example/chronogate/chronogate/Event", prog_8_method_1_code, "<init>", none, 7), (j0, u0, 1, 12))
theorem a1_0 : AtI prog_8_method_1_code 0 (.aload_n 0) 1 1 := ⟨by decide +kernel, rfl⟩
theorem a1_1 : AtI prog_8_method_1_code 1 (.invokespecial 1) 3 4 := ⟨by decide +kernel, rfl⟩
theorem a1_4 : AtI prog_8_method_1_code 4 (.aload_n 0) 1 5 := ⟨by decide +kernel, rfl⟩
theorem a1_5 : AtI prog_8_method_1_code 5 (.lload_n 1) 1 6 := ⟨by decide +kernel, rfl⟩
theorem a1_6 : AtI prog_8_method_1_code 6 (.putfield 7) 3 9 := ⟨by decide +kernel, rfl⟩
theorem a1_9 : AtI prog_8_method_1_code 9 (.aload_n 0) 1 10 := ⟨by decide +kernel, rfl⟩
theorem a1_10 : AtI prog_8_method_1_code 10 (.aload_n 3) 1 11 := ⟨by decide +kernel, rfl⟩
theorem a1_11 : AtI prog_8_method_1_code 11 (.putfield 13) 3 14 := ⟨by decide +kernel, rfl⟩
theorem a1_14 : AtI prog_8_method_1_code 14 (.aload_n 0) 1 15 := ⟨by decide +kernel, rfl⟩
theorem a1_15 : AtI prog_8_method_1_code 15 (.aload 4) 2 17 := ⟨by decide +kernel, rfl⟩
theorem a1_17 : AtI prog_8_method_1_code 17 (.putfield 17) 3 20 := ⟨by decide +kernel, rfl⟩
theorem a1_20 : AtI prog_8_method_1_code 20 (.aload_n 0) 1 21 := ⟨by decide +kernel, rfl⟩
theorem a1_21 : AtI prog_8_method_1_code 21 (.lload 5) 2 23 := ⟨by decide +kernel, rfl⟩
theorem a1_23 : AtI prog_8_method_1_code 23 (.putfield 21) 3 26 := ⟨by decide +kernel, rfl⟩
theorem a1_26 : AtI prog_8_method_1_code 26 (.return_) 1 27 := ⟨by decide +kernel, rfl⟩
theorem pd1 : parseMethodDescriptor "(JLjava/util/List;Ljava/lang/Object;J)V" = some ⟨[.long, (.object "java/util/List"), (.object "java/lang/Object"), .long], none⟩ := by decide +kernel
theorem pl1 : plainFor (⟨"com/example/chronogate/chronogate/Event", "<init>", "(JLjava/util/List;Ljava/lang/Object;J)V"⟩ : MethodName) = true := plainFor_of_name (by first | (simp [plainName, overriddenIn]; done) | decide +kernel)
theorem ok1 {Z : State} {a0 : Array Value} (hw : ∀ d ∈ tables_1, d.before a0 Z = true) (ρ : Nat → Nat) (n0 j0 u0 : Nat) : WCallee Z a0 (⟨"com/example/chronogate/chronogate/Event", "<init>", "(JLjava/util/List;Ljava/lang/Object;J)V"⟩ : MethodName) (g1 Z ρ n0 j0 u0) 4 :=
  ⟨pl1, (by decide), rfl, rfl, rfl, (wd hw 3 rfl), (wd hw 6 rfl), fun sig h => by cases pd1.symm.trans h; rfl⟩
abbrev g0 (Z : State) (ρ : Nat → Nat) (n0 j0 u0 : Nat) : WMC := ((Z, ρ, n0), ("com/example/chronogate/chronogate/ReleaseQueueIsEmptyPinLaw", code, "law", ret, maxLocals), (j0, u0, 6, 144))
theorem a0_0 : AtI code 0 (.iload_n 0) 1 1 := ⟨by decide +kernel, rfl⟩
theorem a0_1 : AtI code 1 (.ldc 7) 2 3 := ⟨by decide +kernel, rfl⟩
theorem a0_3 : AtI code 3 (.iand) 1 4 := ⟨by decide +kernel, rfl⟩
theorem a0_4 : AtI code 4 (.iconst 3) 1 5 := ⟨by decide +kernel, rfl⟩
theorem a0_5 : AtI code 5 (.irem) 1 6 := ⟨by decide +kernel, rfl⟩
theorem a0_6 : AtI code 6 (.istore 9) 2 8 := ⟨by decide +kernel, rfl⟩
theorem a0_8 : AtI code 8 (.iload_n 0) 1 9 := ⟨by decide +kernel, rfl⟩
theorem a0_9 : AtI code 9 (.bipush 8) 2 11 := ⟨by decide +kernel, rfl⟩
theorem a0_11 : AtI code 11 (.iushr) 1 12 := ⟨by decide +kernel, rfl⟩
theorem a0_12 : AtI code 12 (.ldc 7) 2 14 := ⟨by decide +kernel, rfl⟩
theorem a0_14 : AtI code 14 (.iand) 1 15 := ⟨by decide +kernel, rfl⟩
theorem a0_15 : AtI code 15 (.iconst 3) 1 16 := ⟨by decide +kernel, rfl⟩
theorem a0_16 : AtI code 16 (.irem) 1 17 := ⟨by decide +kernel, rfl⟩
theorem a0_17 : AtI code 17 (.istore 10) 2 19 := ⟨by decide +kernel, rfl⟩
theorem a0_19 : AtI code 19 (.new 8) 3 22 := ⟨by decide +kernel, rfl⟩
theorem a0_22 : AtI code 22 (.dup) 1 23 := ⟨by decide +kernel, rfl⟩
theorem a0_23 : AtI code 23 (.lload_n 1) 1 24 := ⟨by decide +kernel, rfl⟩
theorem a0_24 : AtI code 24 (.aconst_null) 1 25 := ⟨by decide +kernel, rfl⟩
theorem a0_25 : AtI code 25 (.aconst_null) 1 26 := ⟨by decide +kernel, rfl⟩
theorem a0_26 : AtI code 26 (.lload 5) 2 28 := ⟨by decide +kernel, rfl⟩
theorem a0_28 : AtI code 28 (.invokespecial 10) 3 31 := ⟨by decide +kernel, rfl⟩
theorem a0_31 : AtI code 31 (.astore 11) 2 33 := ⟨by decide +kernel, rfl⟩
theorem a0_33 : AtI code 33 (.new 8) 3 36 := ⟨by decide +kernel, rfl⟩
theorem a0_36 : AtI code 36 (.dup) 1 37 := ⟨by decide +kernel, rfl⟩
theorem a0_37 : AtI code 37 (.lload_n 3) 1 38 := ⟨by decide +kernel, rfl⟩
theorem a0_38 : AtI code 38 (.aconst_null) 1 39 := ⟨by decide +kernel, rfl⟩
theorem a0_39 : AtI code 39 (.aconst_null) 1 40 := ⟨by decide +kernel, rfl⟩
theorem a0_40 : AtI code 40 (.lload 7) 2 42 := ⟨by decide +kernel, rfl⟩
theorem a0_42 : AtI code 42 (.invokespecial 10) 3 45 := ⟨by decide +kernel, rfl⟩
theorem a0_45 : AtI code 45 (.astore 12) 2 47 := ⟨by decide +kernel, rfl⟩
theorem a0_47 : AtI code 47 (.new 13) 3 50 := ⟨by decide +kernel, rfl⟩
theorem a0_50 : AtI code 50 (.dup) 1 51 := ⟨by decide +kernel, rfl⟩
theorem a0_51 : AtI code 51 (.invokespecial 15) 3 54 := ⟨by decide +kernel, rfl⟩
theorem a0_54 : AtI code 54 (.astore 13) 2 56 := ⟨by decide +kernel, rfl⟩
theorem a0_56 : AtI code 56 (.aload 13) 2 58 := ⟨by decide +kernel, rfl⟩
theorem a0_58 : AtI code 58 (.invokevirtual 16) 3 61 := ⟨by decide +kernel, rfl⟩
theorem a0_61 : AtI code 61 (.istore 14) 2 63 := ⟨by decide +kernel, rfl⟩
theorem a0_63 : AtI code 63 (.iload 9) 2 65 := ⟨by decide +kernel, rfl⟩
theorem a0_65 : AtI code 65 (.iconst 1) 1 66 := ⟨by decide +kernel, rfl⟩
theorem a0_66 : AtJ code 66 (.if_icmp .lt) 69 76 := ⟨10, by decide +kernel, rfl, by decide, rfl⟩
theorem a0_69 : AtI code 69 (.aload 13) 2 71 := ⟨by decide +kernel, rfl⟩
theorem a0_71 : AtI code 71 (.aload 11) 2 73 := ⟨by decide +kernel, rfl⟩
theorem a0_73 : AtI code 73 (.invokevirtual 20) 3 76 := ⟨by decide +kernel, rfl⟩
theorem a0_76 : AtI code 76 (.iload 9) 2 78 := ⟨by decide +kernel, rfl⟩
theorem a0_78 : AtI code 78 (.iconst 2) 1 79 := ⟨by decide +kernel, rfl⟩
theorem a0_79 : AtJ code 79 (.if_icmp .lt) 82 89 := ⟨10, by decide +kernel, rfl, by decide, rfl⟩
theorem a0_82 : AtI code 82 (.aload 13) 2 84 := ⟨by decide +kernel, rfl⟩
theorem a0_84 : AtI code 84 (.aload 12) 2 86 := ⟨by decide +kernel, rfl⟩
theorem a0_86 : AtI code 86 (.invokevirtual 20) 3 89 := ⟨by decide +kernel, rfl⟩
theorem a0_89 : AtI code 89 (.iload 10) 2 91 := ⟨by decide +kernel, rfl⟩
theorem a0_91 : AtI code 91 (.iconst 1) 1 92 := ⟨by decide +kernel, rfl⟩
theorem a0_92 : AtJ code 92 (.if_icmp .lt) 95 101 := ⟨9, by decide +kernel, rfl, by decide, rfl⟩
theorem a0_95 : AtI code 95 (.aload 13) 2 97 := ⟨by decide +kernel, rfl⟩
theorem a0_97 : AtI code 97 (.invokevirtual 24) 3 100 := ⟨by decide +kernel, rfl⟩
theorem a0_100 : AtI code 100 (.pop) 1 101 := ⟨by decide +kernel, rfl⟩
theorem a0_101 : AtI code 101 (.iload 10) 2 103 := ⟨by decide +kernel, rfl⟩
theorem a0_103 : AtI code 103 (.iconst 2) 1 104 := ⟨by decide +kernel, rfl⟩
theorem a0_104 : AtJ code 104 (.if_icmp .lt) 107 113 := ⟨9, by decide +kernel, rfl, by decide, rfl⟩
theorem a0_107 : AtI code 107 (.aload 13) 2 109 := ⟨by decide +kernel, rfl⟩
theorem a0_109 : AtI code 109 (.invokevirtual 24) 3 112 := ⟨by decide +kernel, rfl⟩
theorem a0_112 : AtI code 112 (.pop) 1 113 := ⟨by decide +kernel, rfl⟩
theorem a0_113 : AtI code 113 (.iconst 0) 1 114 := ⟨by decide +kernel, rfl⟩
theorem a0_114 : AtI code 114 (.iload 9) 2 116 := ⟨by decide +kernel, rfl⟩
theorem a0_116 : AtI code 116 (.iload 10) 2 118 := ⟨by decide +kernel, rfl⟩
theorem a0_118 : AtI code 118 (.isub) 1 119 := ⟨by decide +kernel, rfl⟩
theorem a0_119 : AtI code 119 (.invokestatic 28) 3 122 := ⟨by decide +kernel, rfl⟩
theorem a0_122 : AtI code 122 (.istore 15) 2 124 := ⟨by decide +kernel, rfl⟩
theorem a0_124 : AtI code 124 (.aload 13) 2 126 := ⟨by decide +kernel, rfl⟩
theorem a0_126 : AtI code 126 (.invokevirtual 16) 3 129 := ⟨by decide +kernel, rfl⟩
theorem a0_129 : AtI code 129 (.istore 16) 2 131 := ⟨by decide +kernel, rfl⟩
theorem a0_131 : AtI code 131 (.aload 13) 2 133 := ⟨by decide +kernel, rfl⟩
theorem a0_133 : AtI code 133 (.invokevirtual 34) 3 136 := ⟨by decide +kernel, rfl⟩
theorem a0_136 : AtJ code 136 (.ifnonnull) 139 143 := ⟨7, by decide +kernel, rfl, by decide, rfl⟩
theorem a0_139 : AtI code 139 (.iconst 1) 1 140 := ⟨by decide +kernel, rfl⟩
theorem a0_140 : AtJ code 140 (.goto) 143 144 := ⟨4, by decide +kernel, rfl, by decide, rfl⟩
theorem a0_143 : AtI code 143 (.iconst 0) 1 144 := ⟨by decide +kernel, rfl⟩
theorem a0_144 : AtI code 144 (.istore 17) 2 146 := ⟨by decide +kernel, rfl⟩
theorem a0_146 : AtI code 146 (.iload 14) 2 148 := ⟨by decide +kernel, rfl⟩
theorem a0_148 : AtJ code 148 (.ifCond .eq) 151 177 := ⟨29, by decide +kernel, rfl, by decide, rfl⟩
theorem a0_151 : AtI code 151 (.iload 16) 2 153 := ⟨by decide +kernel, rfl⟩
theorem a0_153 : AtI code 153 (.iload 15) 2 155 := ⟨by decide +kernel, rfl⟩
theorem a0_155 : AtJ code 155 (.ifCond .ne) 158 162 := ⟨7, by decide +kernel, rfl, by decide, rfl⟩
theorem a0_158 : AtI code 158 (.iconst 1) 1 159 := ⟨by decide +kernel, rfl⟩
theorem a0_159 : AtJ code 159 (.goto) 162 163 := ⟨4, by decide +kernel, rfl, by decide, rfl⟩
theorem a0_162 : AtI code 162 (.iconst 0) 1 163 := ⟨by decide +kernel, rfl⟩
theorem a0_163 : AtJ code 163 (.if_icmp .ne) 166 177 := ⟨14, by decide +kernel, rfl, by decide, rfl⟩
theorem a0_166 : AtI code 166 (.iload 16) 2 168 := ⟨by decide +kernel, rfl⟩
theorem a0_168 : AtI code 168 (.iload 17) 2 170 := ⟨by decide +kernel, rfl⟩
theorem a0_170 : AtJ code 170 (.if_icmp .ne) 173 177 := ⟨7, by decide +kernel, rfl, by decide, rfl⟩
theorem a0_173 : AtI code 173 (.iconst 1) 1 174 := ⟨by decide +kernel, rfl⟩
theorem a0_174 : AtJ code 174 (.goto) 177 178 := ⟨4, by decide +kernel, rfl, by decide, rfl⟩
theorem a0_177 : AtI code 177 (.iconst 0) 1 178 := ⟨by decide +kernel, rfl⟩
theorem a0_178 : AtI code 178 (.ireturn) 1 179 := ⟨by decide +kernel, rfl⟩
theorem rem3 (x k : Int32) (h : ((x &&& (2147483647 : Int32)) % (3 : Int32)) = k) : k = 0 ∨ k = 1 ∨ k = 2 := by
  have q := c_and x 2147483647 (by decide)
  have r := (c_iremV (x &&& 2147483647) 3).1 q.1 (by decide)
  rw [h] at r
  have e : (3 : Int32).toInt = 3 := rfl
  simp only [← Int32.toInt_inj, Int32.reduceToInt]
  omega
set_option maxHeartbeats 4000000 in
theorem au1_1 {Z : State} {a0 : Array Value} (hw : ∀ d ∈ tables_1, d.before a0 Z = true) (ρ : Nat → Nat) (n0 : Nat) (t1 : Int64) (s1 : Int64) (u : Nat) : WGo (g1 Z ρ n0 1 u) (0, [wR 0, wJ t1, wS, wN, wN, wJ s1, wS], [], [(.inr (cn0, [(fk0, .long 0), (fk1, .null), (fk2, .null), (fk3, .long 0)]))], u) (fun v σ' u' => v = none ∧ [(.inr (cn0, [(fk0, (.long t1)), (fk1, .null), (fk2, .null), (fk3, (.long s1))]))] = σ' ∧ u = u') := by
  refine .s (.aloadN a1_0 rfl rfl) <| .s (.initO a1_1 (wd hw 7 rfl) (wd hw 8 rfl) (wd hw 9 rfl) rfl (Nat.le_of_ble_eq_true rfl) (Nat.le_of_ble_eq_true rfl)) <| .s (.aloadN a1_4 rfl rfl) <| .s (.lloadN a1_5 rfl) <| .s (.putF (ty := .long) 0 ((.long t1)) a1_6 (wd hw 10 rfl) rfl rfl (Or.inr ⟨(wd hw 11 rfl), rfl, rfl⟩) (wd hw 2 rfl) (by decide) rfl rfl) ?_
  show WGo _ (9, [wR 0, wJ t1, wS, wN, wN, wJ s1, wS], [], [(.inr (cn0, [(fk0, (.long t1)), (fk1, .null), (fk2, .null), (fk3, .long 0)]))], u) _
  refine .s (.aloadN a1_9 rfl rfl) <| .s (.aloadN a1_10 rfl rfl) <| .s (.putF (ty := (.object "java/util/List")) 1 (.null) a1_11 (wd hw 12 rfl) rfl rfl (Or.inr ⟨(wd hw 13 rfl), rfl, rfl⟩) (wd hw 2 rfl) (by decide) rfl rfl) ?_
  show WGo _ (14, [wR 0, wJ t1, wS, wN, wN, wJ s1, wS], [], [(.inr (cn0, [(fk0, (.long t1)), (fk1, .null), (fk2, .null), (fk3, .long 0)]))], u) _
  refine .s (.aloadN a1_14 rfl rfl) <| .s (.aload a1_15 rfl rfl) <| .s (.putF (ty := (.object "java/lang/Object")) 2 (.null) a1_17 (wd hw 14 rfl) rfl rfl (Or.inr ⟨(wd hw 15 rfl), rfl, rfl⟩) (wd hw 2 rfl) (by decide) rfl rfl) ?_
  show WGo _ (20, [wR 0, wJ t1, wS, wN, wN, wJ s1, wS], [], [(.inr (cn0, [(fk0, (.long t1)), (fk1, .null), (fk2, .null), (fk3, .long 0)]))], u) _
  refine .s (.aloadN a1_20 rfl rfl) <| .s (.lload a1_21 rfl) <| .s (.putF (ty := .long) 3 ((.long s1)) a1_23 (wd hw 16 rfl) rfl rfl (Or.inr ⟨(wd hw 17 rfl), rfl, rfl⟩) (wd hw 2 rfl) (by decide) rfl rfl) ?_
  show WGo _ (26, [wR 0, wJ t1, wS, wN, wN, wJ s1, wS], [], [(.inr (cn0, [(fk0, (.long t1)), (fk1, .null), (fk2, .null), (fk3, (.long s1))]))], u) _
  refine .vreturn a1_26 rfl ?_
  exact ⟨rfl, rfl, rfl⟩
set_option maxHeartbeats 4000000 in
theorem au1_2 {Z : State} {a0 : Array Value} (hw : ∀ d ∈ tables_1, d.before a0 Z = true) (ρ : Nat → Nat) (n0 : Nat) (t1 : Int64) (t2 : Int64) (s1 : Int64) (s2 : Int64) (u : Nat) : WGo (g1 Z ρ n0 2 u) (0, [wR 1, wJ t2, wS, wN, wN, wJ s2, wS], [], [(.inr (cn0, [(fk0, (.long t1)), (fk1, .null), (fk2, .null), (fk3, (.long s1))])), (.inr (cn0, [(fk0, .long 0), (fk1, .null), (fk2, .null), (fk3, .long 0)]))], u) (fun v σ' u' => v = none ∧ [(.inr (cn0, [(fk0, (.long t1)), (fk1, .null), (fk2, .null), (fk3, (.long s1))])), (.inr (cn0, [(fk0, (.long t2)), (fk1, .null), (fk2, .null), (fk3, (.long s2))]))] = σ' ∧ u = u') := by
  refine .s (.aloadN a1_0 rfl rfl) <| .s (.initO a1_1 (wd hw 7 rfl) (wd hw 8 rfl) (wd hw 9 rfl) rfl (Nat.le_of_ble_eq_true rfl) (Nat.le_of_ble_eq_true rfl)) <| .s (.aloadN a1_4 rfl rfl) <| .s (.lloadN a1_5 rfl) <| .s (.putF (ty := .long) 0 ((.long t2)) a1_6 (wd hw 10 rfl) rfl rfl (Or.inr ⟨(wd hw 11 rfl), rfl, rfl⟩) (wd hw 2 rfl) (by decide) rfl rfl) ?_
  show WGo _ (9, [wR 1, wJ t2, wS, wN, wN, wJ s2, wS], [], [(.inr (cn0, [(fk0, (.long t1)), (fk1, .null), (fk2, .null), (fk3, (.long s1))])), (.inr (cn0, [(fk0, (.long t2)), (fk1, .null), (fk2, .null), (fk3, .long 0)]))], u) _
  refine .s (.aloadN a1_9 rfl rfl) <| .s (.aloadN a1_10 rfl rfl) <| .s (.putF (ty := (.object "java/util/List")) 1 (.null) a1_11 (wd hw 12 rfl) rfl rfl (Or.inr ⟨(wd hw 13 rfl), rfl, rfl⟩) (wd hw 2 rfl) (by decide) rfl rfl) ?_
  show WGo _ (14, [wR 1, wJ t2, wS, wN, wN, wJ s2, wS], [], [(.inr (cn0, [(fk0, (.long t1)), (fk1, .null), (fk2, .null), (fk3, (.long s1))])), (.inr (cn0, [(fk0, (.long t2)), (fk1, .null), (fk2, .null), (fk3, .long 0)]))], u) _
  refine .s (.aloadN a1_14 rfl rfl) <| .s (.aload a1_15 rfl rfl) <| .s (.putF (ty := (.object "java/lang/Object")) 2 (.null) a1_17 (wd hw 14 rfl) rfl rfl (Or.inr ⟨(wd hw 15 rfl), rfl, rfl⟩) (wd hw 2 rfl) (by decide) rfl rfl) ?_
  show WGo _ (20, [wR 1, wJ t2, wS, wN, wN, wJ s2, wS], [], [(.inr (cn0, [(fk0, (.long t1)), (fk1, .null), (fk2, .null), (fk3, (.long s1))])), (.inr (cn0, [(fk0, (.long t2)), (fk1, .null), (fk2, .null), (fk3, .long 0)]))], u) _
  refine .s (.aloadN a1_20 rfl rfl) <| .s (.lload a1_21 rfl) <| .s (.putF (ty := .long) 3 ((.long s2)) a1_23 (wd hw 16 rfl) rfl rfl (Or.inr ⟨(wd hw 17 rfl), rfl, rfl⟩) (wd hw 2 rfl) (by decide) rfl rfl) ?_
  show WGo _ (26, [wR 1, wJ t2, wS, wN, wN, wJ s2, wS], [], [(.inr (cn0, [(fk0, (.long t1)), (fk1, .null), (fk2, .null), (fk3, (.long s1))])), (.inr (cn0, [(fk0, (.long t2)), (fk1, .null), (fk2, .null), (fk3, (.long s2))]))], u) _
  refine .vreturn a1_26 rfl ?_
  exact ⟨rfl, rfl, rfl⟩
set_option maxHeartbeats 4000000 in
theorem au4_4 {Z : State} {a0 : Array Value} (hw : ∀ d ∈ tables_1, d.before a0 Z = true) (ρ : Nat → Nat) (n0 : Nat) (t1 : Int64) (t2 : Int64) (s1 : Int64) (s2 : Int64) (u : Nat) : WGo (g4 Z ρ n0 3 u) (0, [wI 8], [], [(.inr (cn0, [(fk0, (.long t1)), (fk1, .null), (fk2, .null), (fk3, (.long s1))])), (.inr (cn0, [(fk0, (.long t2)), (fk1, .null), (fk2, .null), (fk3, (.long s2))])), (.inr (cn1, [(fk4, .null), (fk5, .int 0)]))], u) (fun v σ' u' => v = some (.ref 3) ∧ [(.inr (cn0, [(fk0, (.long t1)), (fk1, .null), (fk2, .null), (fk3, (.long s1))])), (.inr (cn0, [(fk0, (.long t2)), (fk1, .null), (fk2, .null), (fk3, (.long s2))])), (.inr (cn1, [(fk4, .null), (fk5, .int 0)])), (.inl ((.object "com/example/chronogate/chronogate/Event"), [.null, .null, .null, .null, .null, .null, .null, .null]))] = σ' ∧ (u + 8) = u') := by
  refine .s (.iloadN a4_0 rfl) <| .s (.newR (k := 3) (8 : Int32) 8 a4_1 (wd hw 28 rfl) (wd hw 29 rfl) (by decide) rfl (by decide) rfl (by decide)) ?_
  show WGo _ (4, [wI 8], [.ref 3], [(.inr (cn0, [(fk0, (.long t1)), (fk1, .null), (fk2, .null), (fk3, (.long s1))])), (.inr (cn0, [(fk0, (.long t2)), (fk1, .null), (fk2, .null), (fk3, (.long s2))])), (.inr (cn1, [(fk4, .null), (fk5, .int 0)])), (.inl ((.object "com/example/chronogate/chronogate/Event"), [.null, .null, .null, .null, .null, .null, .null, .null]))], (u + 8)) _
  refine .areturn (.array (.object "com/example/chronogate/chronogate/Event")) a4_4 rfl rfl rfl ?_
  exact ⟨rfl, rfl, rfl⟩
set_option maxHeartbeats 4000000 in
theorem au3_3 {Z : State} {a0 : Array Value} (hw : ∀ d ∈ tables_1, d.before a0 Z = true) (ρ : Nat → Nat) (n0 : Nat) (t1 : Int64) (t2 : Int64) (s1 : Int64) (s2 : Int64) (u : Nat) : WGo (g3 Z ρ n0 3 u) (0, [wR 2], [], [(.inr (cn0, [(fk0, (.long t1)), (fk1, .null), (fk2, .null), (fk3, (.long s1))])), (.inr (cn0, [(fk0, (.long t2)), (fk1, .null), (fk2, .null), (fk3, (.long s2))])), (.inr (cn1, [(fk4, .null), (fk5, .int 0)]))], u) (fun v σ' u' => v = none ∧ [(.inr (cn0, [(fk0, (.long t1)), (fk1, .null), (fk2, .null), (fk3, (.long s1))])), (.inr (cn0, [(fk0, (.long t2)), (fk1, .null), (fk2, .null), (fk3, (.long s2))])), (.inr (cn1, [(fk4, .ref 3), (fk5, .int 0)])), (.inl ((.object "com/example/chronogate/chronogate/Event"), [.null, .null, .null, .null, .null, .null, .null, .null]))] = σ' ∧ (u + 8) = u') := by
  refine .s (.aloadN a3_0 rfl rfl) <| .s (.initO a3_1 (wd hw 24 rfl) (wd hw 8 rfl) (wd hw 9 rfl) rfl (Nat.le_of_ble_eq_true rfl) (Nat.le_of_ble_eq_true rfl)) <| .s (.aloadN a3_4 rfl rfl) <| .s (.bipush (8 : Int32) a3_5 rfl) ?_
  refine .callS a3_7 (ok4 hw _ _ _ _) (wd hw 25 rfl) (wd hw 26 rfl) (argsL := [.int 8]) (S := [.ref 2]) (au4_4 hw _ _ t1 t2 s1 s2 _) rfl rfl rfl rfl rfl rfl (Nat.le_of_ble_eq_true rfl) (Nat.le_of_ble_eq_true rfl) ?_
  rintro _ _ _ ⟨rfl, rfl, rfl⟩
  show WGo _ (10, [wR 2], [.ref 3, .ref 2], [(.inr (cn0, [(fk0, (.long t1)), (fk1, .null), (fk2, .null), (fk3, (.long s1))])), (.inr (cn0, [(fk0, (.long t2)), (fk1, .null), (fk2, .null), (fk3, (.long s2))])), (.inr (cn1, [(fk4, .null), (fk5, .int 0)])), (.inl ((.object "com/example/chronogate/chronogate/Event"), [.null, .null, .null, .null, .null, .null, .null, .null]))], (u + 8)) _
  refine .s (.putF (ty := (.array (.object "com/example/chronogate/chronogate/Event"))) 0 (.ref 3) a3_10 (wd hw 30 rfl) rfl rfl (Or.inl (wd hw 31 rfl)) (wd hw 19 rfl) (by decide) rfl rfl) ?_
  show WGo _ (13, [wR 2], [], [(.inr (cn0, [(fk0, (.long t1)), (fk1, .null), (fk2, .null), (fk3, (.long s1))])), (.inr (cn0, [(fk0, (.long t2)), (fk1, .null), (fk2, .null), (fk3, (.long s2))])), (.inr (cn1, [(fk4, .ref 3), (fk5, .int 0)])), (.inl ((.object "com/example/chronogate/chronogate/Event"), [.null, .null, .null, .null, .null, .null, .null, .null]))], (u + 8)) _
  refine .vreturn a3_13 rfl ?_
  exact ⟨rfl, rfl, rfl⟩
set_option maxHeartbeats 4000000 in
theorem au5_5 {Z : State} {a0 : Array Value} (hw : ∀ d ∈ tables_1, d.before a0 Z = true) (ρ : Nat → Nat) (n0 : Nat) (t1 : Int64) (t2 : Int64) (s1 : Int64) (s2 : Int64) (u : Nat) : WGo (g5 Z ρ n0 4 u) (0, [wR 2], [], [(.inr (cn0, [(fk0, (.long t1)), (fk1, .null), (fk2, .null), (fk3, (.long s1))])), (.inr (cn0, [(fk0, (.long t2)), (fk1, .null), (fk2, .null), (fk3, (.long s2))])), (.inr (cn1, [(fk4, .ref 3), (fk5, .int 0)])), (.inl ((.object "com/example/chronogate/chronogate/Event"), [.null, .null, .null, .null, .null, .null, .null, .null]))], u) (fun v σ' u' => v = some (.int 1) ∧ [(.inr (cn0, [(fk0, (.long t1)), (fk1, .null), (fk2, .null), (fk3, (.long s1))])), (.inr (cn0, [(fk0, (.long t2)), (fk1, .null), (fk2, .null), (fk3, (.long s2))])), (.inr (cn1, [(fk4, .ref 3), (fk5, .int 0)])), (.inl ((.object "com/example/chronogate/chronogate/Event"), [.null, .null, .null, .null, .null, .null, .null, .null]))] = σ' ∧ u = u') := by
  refine .s (.aloadN a5_0 rfl rfl) <| .s (.getF 1 a5_1 (wd hw 37 rfl) rfl rfl) <| .s (.ifF a5_4 (by decide)) <| .s (.iconst (1 : Int32) a5_7 rfl) <| .s (.goto a5_8) ?_
  refine .ireturn .boolean a5_12 rfl (by simp) ?_
  exact ⟨rfl, rfl, rfl⟩
set_option maxHeartbeats 4000000 in
theorem au6_6 {Z : State} {a0 : Array Value} (hw : ∀ d ∈ tables_1, d.before a0 Z = true) (ρ : Nat → Nat) (n0 : Nat) (t1 : Int64) (t2 : Int64) (s1 : Int64) (s2 : Int64) (u : Nat) : WGo (g6 Z ρ n0 4 u) (0, [wI 0, wI 0], [], [(.inr (cn0, [(fk0, (.long t1)), (fk1, .null), (fk2, .null), (fk3, (.long s1))])), (.inr (cn0, [(fk0, (.long t2)), (fk1, .null), (fk2, .null), (fk3, (.long s2))])), (.inr (cn1, [(fk4, .ref 3), (fk5, .int 0)])), (.inl ((.object "com/example/chronogate/chronogate/Event"), [.null, .null, .null, .null, .null, .null, .null, .null]))], u) (fun v σ' u' => v = some (.int 0) ∧ [(.inr (cn0, [(fk0, (.long t1)), (fk1, .null), (fk2, .null), (fk3, (.long s1))])), (.inr (cn0, [(fk0, (.long t2)), (fk1, .null), (fk2, .null), (fk3, (.long s2))])), (.inr (cn1, [(fk4, .ref 3), (fk5, .int 0)])), (.inl ((.object "com/example/chronogate/chronogate/Event"), [.null, .null, .null, .null, .null, .null, .null, .null]))] = σ' ∧ u = u') := by
  refine .s (.iloadN a6_0 rfl) <| .s (.iloadN a6_1 rfl) <| .s (.icmpF a6_2 (by decide)) <| .s (.iloadN a6_5 rfl) <| .s (.goto a6_6) ?_
  refine .ireturn .int a6_10 rfl (by simp) ?_
  exact ⟨rfl, rfl, rfl⟩
set_option maxHeartbeats 4000000 in
theorem au7_7 {Z : State} {a0 : Array Value} (hw : ∀ d ∈ tables_1, d.before a0 Z = true) (ρ : Nat → Nat) (n0 : Nat) (t1 : Int64) (t2 : Int64) (s1 : Int64) (s2 : Int64) (u : Nat) : WGo (g7 Z ρ n0 4 u) (0, [wR 2], [], [(.inr (cn0, [(fk0, (.long t1)), (fk1, .null), (fk2, .null), (fk3, (.long s1))])), (.inr (cn0, [(fk0, (.long t2)), (fk1, .null), (fk2, .null), (fk3, (.long s2))])), (.inr (cn1, [(fk4, .ref 3), (fk5, .int 0)])), (.inl ((.object "com/example/chronogate/chronogate/Event"), [.null, .null, .null, .null, .null, .null, .null, .null]))], u) (fun v σ' u' => v = some (.null) ∧ [(.inr (cn0, [(fk0, (.long t1)), (fk1, .null), (fk2, .null), (fk3, (.long s1))])), (.inr (cn0, [(fk0, (.long t2)), (fk1, .null), (fk2, .null), (fk3, (.long s2))])), (.inr (cn1, [(fk4, .ref 3), (fk5, .int 0)])), (.inl ((.object "com/example/chronogate/chronogate/Event"), [.null, .null, .null, .null, .null, .null, .null, .null]))] = σ' ∧ u = u') := by
  refine .s (.aloadN a7_0 rfl rfl) <| .s (.getF 1 a7_1 (wd hw 37 rfl) rfl rfl) <| .s (.ifF a7_4 (by decide)) <| .s (.aconstNull a7_7) <| .s (.goto a7_8) ?_
  refine .areturn (.object "com/example/chronogate/chronogate/Event") a7_17 rfl rfl rfl ?_
  exact ⟨rfl, rfl, rfl⟩
set_option maxHeartbeats 40000000 in
theorem seg00 (Z : State) (a0 : Array Value) (hw : ∀ d ∈ tables_1, d.before a0 Z = true) (n0 : Nat) (counts : Int32) (t1 t2 s1 s2 : Int64) : WGo (g0 Z (fun k => n0 + k) n0 0 0) (19, [wI counts, wJ t1, wS, wJ t2, wS, wJ s1, wS, wJ s2, wS, wI 0, wI 0, wU, wU, wU, wU, wU, wU, wU], [], [], 0) (fun v σ' u' => v = some (.int 1) ∧ σ'.length ≤ 16 ∧ u' ≤ 128) := by
  refine .s (.newO (k := 0) [(fk0, .long 0), (fk1, .null), (fk2, .null), (fk3, .long 0)] a0_19 (wd hw 1 rfl) (wd hw 2 rfl) (wd hw 3 rfl) ⟨⟨Or.inr (wd hw 11 rfl), .long, by decide, rfl⟩, ⟨Or.inr (wd hw 13 rfl), (.object "java/util/List"), by decide, rfl⟩, ⟨Or.inr (wd hw 15 rfl), (.object "java/lang/Object"), by decide, rfl⟩, ⟨Or.inr (wd hw 17 rfl), .long, by decide, rfl⟩, trivial⟩ (by decide) rfl (by decide)) ?_
  show WGo _ (22, [wI counts, wJ t1, wS, wJ t2, wS, wJ s1, wS, wJ s2, wS, wI 0, wI 0, wU, wU, wU, wU, wU, wU, wU], [.ref 0], [(.inr (cn0, [(fk0, .long 0), (fk1, .null), (fk2, .null), (fk3, .long 0)]))], 4) _
  refine .s (.dup a0_22 rfl) <| .s (.lloadN a0_23 rfl) <| .s (.aconstNull a0_24) <| .s (.aconstNull a0_25) <| .s (.lload a0_26 rfl) ?_
  refine .callI (k := 0) a0_28 (ok1 hw _ _ _ _) rfl rfl (wd hw 4 rfl) (wd hw 5 rfl) (by decide) (argsL := [(.long t1), .null, .null, (.long s1)]) (S := [.ref 0]) (au1_1 hw _ _ t1 s1 _) rfl rfl rfl rfl rfl rfl (Nat.le_of_ble_eq_true rfl) (Nat.le_of_ble_eq_true rfl) ?_
  rintro _ _ _ ⟨rfl, rfl, rfl⟩
  show WGo _ (31, [wI counts, wJ t1, wS, wJ t2, wS, wJ s1, wS, wJ s2, wS, wI 0, wI 0, wU, wU, wU, wU, wU, wU, wU], [.ref 0], [(.inr (cn0, [(fk0, (.long t1)), (fk1, .null), (fk2, .null), (fk3, (.long s1))]))], 4) _
  refine .s (.astore (L' := [wI counts, wJ t1, wS, wJ t2, wS, wJ s1, wS, wJ s2, wS, wI 0, wI 0, wR 0, wU, wU, wU, wU, wU, wU]) a0_31 rfl rfl) <| .s (.newO (k := 1) [(fk0, .long 0), (fk1, .null), (fk2, .null), (fk3, .long 0)] a0_33 (wd hw 1 rfl) (wd hw 2 rfl) (wd hw 3 rfl) ⟨⟨Or.inr (wd hw 11 rfl), .long, by decide, rfl⟩, ⟨Or.inr (wd hw 13 rfl), (.object "java/util/List"), by decide, rfl⟩, ⟨Or.inr (wd hw 15 rfl), (.object "java/lang/Object"), by decide, rfl⟩, ⟨Or.inr (wd hw 17 rfl), .long, by decide, rfl⟩, trivial⟩ (by decide) rfl (by decide)) ?_
  show WGo _ (36, [wI counts, wJ t1, wS, wJ t2, wS, wJ s1, wS, wJ s2, wS, wI 0, wI 0, wR 0, wU, wU, wU, wU, wU, wU], [.ref 1], [(.inr (cn0, [(fk0, (.long t1)), (fk1, .null), (fk2, .null), (fk3, (.long s1))])), (.inr (cn0, [(fk0, .long 0), (fk1, .null), (fk2, .null), (fk3, .long 0)]))], 8) _
  refine .s (.dup a0_36 rfl) <| .s (.lloadN a0_37 rfl) <| .s (.aconstNull a0_38) <| .s (.aconstNull a0_39) <| .s (.lload a0_40 rfl) ?_
  refine .callI (k := 1) a0_42 (ok1 hw _ _ _ _) rfl rfl (wd hw 4 rfl) (wd hw 5 rfl) (by decide) (argsL := [(.long t2), .null, .null, (.long s2)]) (S := [.ref 1]) (au1_2 hw _ _ t1 t2 s1 s2 _) rfl rfl rfl rfl rfl rfl (Nat.le_of_ble_eq_true rfl) (Nat.le_of_ble_eq_true rfl) ?_
  rintro _ _ _ ⟨rfl, rfl, rfl⟩
  show WGo _ (45, [wI counts, wJ t1, wS, wJ t2, wS, wJ s1, wS, wJ s2, wS, wI 0, wI 0, wR 0, wU, wU, wU, wU, wU, wU], [.ref 1], [(.inr (cn0, [(fk0, (.long t1)), (fk1, .null), (fk2, .null), (fk3, (.long s1))])), (.inr (cn0, [(fk0, (.long t2)), (fk1, .null), (fk2, .null), (fk3, (.long s2))]))], 8) _
  refine .s (.astore (L' := [wI counts, wJ t1, wS, wJ t2, wS, wJ s1, wS, wJ s2, wS, wI 0, wI 0, wR 0, wR 1, wU, wU, wU, wU, wU]) a0_45 rfl rfl) <| .s (.newO (k := 2) [(fk4, .null), (fk5, .int 0)] a0_47 (wd hw 18 rfl) (wd hw 19 rfl) (wd hw 20 rfl) ⟨⟨Or.inl (wd hw 31 rfl), (.array (.object "com/example/chronogate/chronogate/Event")), by decide, rfl⟩, ⟨Or.inl (wd hw 38 rfl), .int, by decide, rfl⟩, trivial⟩ (by decide) rfl (by decide)) ?_
  show WGo _ (50, [wI counts, wJ t1, wS, wJ t2, wS, wJ s1, wS, wJ s2, wS, wI 0, wI 0, wR 0, wR 1, wU, wU, wU, wU, wU], [.ref 2], [(.inr (cn0, [(fk0, (.long t1)), (fk1, .null), (fk2, .null), (fk3, (.long s1))])), (.inr (cn0, [(fk0, (.long t2)), (fk1, .null), (fk2, .null), (fk3, (.long s2))])), (.inr (cn1, [(fk4, .null), (fk5, .int 0)]))], 10) _
  refine .s (.dup a0_50 rfl) ?_
  refine .callI (k := 2) a0_51 (ok3 hw _ _ _ _) rfl rfl (wd hw 21 rfl) (wd hw 22 rfl) (by decide) (argsL := []) (S := [.ref 2]) (au3_3 hw _ _ t1 t2 s1 s2 _) rfl rfl rfl rfl rfl rfl (Nat.le_of_ble_eq_true rfl) (Nat.le_of_ble_eq_true rfl) ?_
  rintro _ _ _ ⟨rfl, rfl, rfl⟩
  show WGo _ (54, [wI counts, wJ t1, wS, wJ t2, wS, wJ s1, wS, wJ s2, wS, wI 0, wI 0, wR 0, wR 1, wU, wU, wU, wU, wU], [.ref 2], [(.inr (cn0, [(fk0, (.long t1)), (fk1, .null), (fk2, .null), (fk3, (.long s1))])), (.inr (cn0, [(fk0, (.long t2)), (fk1, .null), (fk2, .null), (fk3, (.long s2))])), (.inr (cn1, [(fk4, .ref 3), (fk5, .int 0)])), (.inl ((.object "com/example/chronogate/chronogate/Event"), [.null, .null, .null, .null, .null, .null, .null, .null]))], 18) _
  refine .s (.astore (L' := [wI counts, wJ t1, wS, wJ t2, wS, wJ s1, wS, wJ s2, wS, wI 0, wI 0, wR 0, wR 1, wR 2, wU, wU, wU, wU]) a0_54 rfl rfl) <| .s (.aload a0_56 rfl rfl) ?_
  refine .callV (k := 2) (z := (⟨"com/example/chronogate/chronogate/ReleaseQueue", "isEmpty", "()Z"⟩ : MethodName)) a0_58 (ok5 hw _ _ _ _) ⟨rfl, by decide⟩ (wd hw 32 rfl) (wd hw 33 rfl) (fun s hZ => notFace_of_selects (args := #[]) (mvT hZ (wd hw 35 rfl))) (wd hw 35 rfl) (wd hw 34 rfl) rfl (argsL := []) (S := []) (au5_5 hw _ _ t1 t2 s1 s2 _) rfl rfl rfl rfl rfl rfl (Nat.le_of_ble_eq_true rfl) (Nat.le_of_ble_eq_true rfl) ?_
  rintro _ _ _ ⟨rfl, rfl, rfl⟩
  show WGo _ (61, [wI counts, wJ t1, wS, wJ t2, wS, wJ s1, wS, wJ s2, wS, wI 0, wI 0, wR 0, wR 1, wR 2, wU, wU, wU, wU], [.int 1], [(.inr (cn0, [(fk0, (.long t1)), (fk1, .null), (fk2, .null), (fk3, (.long s1))])), (.inr (cn0, [(fk0, (.long t2)), (fk1, .null), (fk2, .null), (fk3, (.long s2))])), (.inr (cn1, [(fk4, .ref 3), (fk5, .int 0)])), (.inl ((.object "com/example/chronogate/chronogate/Event"), [.null, .null, .null, .null, .null, .null, .null, .null]))], 18) _
  refine .s (.istore (L' := [wI counts, wJ t1, wS, wJ t2, wS, wJ s1, wS, wJ s2, wS, wI 0, wI 0, wR 0, wR 1, wR 2, wI 1, wU, wU, wU]) a0_61 rfl) <| .s (.iload a0_63 rfl) <| .s (.iconst (1 : Int32) a0_65 rfl) <| .s (.icmpT a0_66 (by decide)) <| .s (.iload a0_76 rfl) <| .s (.iconst (2 : Int32) a0_78 rfl) <| .s (.icmpT a0_79 (by decide)) ?_
  refine .s (.iload a0_89 rfl) <| .s (.iconst (1 : Int32) a0_91 rfl) <| .s (.icmpT a0_92 (by decide)) <| .s (.iload a0_101 rfl) <| .s (.iconst (2 : Int32) a0_103 rfl) <| .s (.icmpT a0_104 (by decide)) <| .s (.iconst (0 : Int32) a0_113 rfl) ?_
  refine .s (.iload a0_114 rfl) <| .s (.iload a0_116 rfl) <| .s (.isub a0_118) ?_
  show WGo _ (119, [wI counts, wJ t1, wS, wJ t2, wS, wJ s1, wS, wJ s2, wS, wI 0, wI 0, wR 0, wR 1, wR 2, wI 1, wU, wU, wU], [.int 0, .int 0], [(.inr (cn0, [(fk0, (.long t1)), (fk1, .null), (fk2, .null), (fk3, (.long s1))])), (.inr (cn0, [(fk0, (.long t2)), (fk1, .null), (fk2, .null), (fk3, (.long s2))])), (.inr (cn1, [(fk4, .ref 3), (fk5, .int 0)])), (.inl ((.object "com/example/chronogate/chronogate/Event"), [.null, .null, .null, .null, .null, .null, .null, .null]))], 18) _
  refine .callS a0_119 (ok6 hw _ _ _ _) (wd hw 39 rfl) (wd hw 40 rfl) (argsL := [.int 0, .int 0]) (S := []) (au6_6 hw _ _ t1 t2 s1 s2 _) rfl rfl rfl rfl rfl rfl (Nat.le_of_ble_eq_true rfl) (Nat.le_of_ble_eq_true rfl) ?_
  rintro _ _ _ ⟨rfl, rfl, rfl⟩
  show WGo _ (122, [wI counts, wJ t1, wS, wJ t2, wS, wJ s1, wS, wJ s2, wS, wI 0, wI 0, wR 0, wR 1, wR 2, wI 1, wU, wU, wU], [.int 0], [(.inr (cn0, [(fk0, (.long t1)), (fk1, .null), (fk2, .null), (fk3, (.long s1))])), (.inr (cn0, [(fk0, (.long t2)), (fk1, .null), (fk2, .null), (fk3, (.long s2))])), (.inr (cn1, [(fk4, .ref 3), (fk5, .int 0)])), (.inl ((.object "com/example/chronogate/chronogate/Event"), [.null, .null, .null, .null, .null, .null, .null, .null]))], 18) _
  refine .s (.istore (L' := [wI counts, wJ t1, wS, wJ t2, wS, wJ s1, wS, wJ s2, wS, wI 0, wI 0, wR 0, wR 1, wR 2, wI 1, wI 0, wU, wU]) a0_122 rfl) <| .s (.aload a0_124 rfl rfl) ?_
  refine .callV (k := 2) (z := (⟨"com/example/chronogate/chronogate/ReleaseQueue", "isEmpty", "()Z"⟩ : MethodName)) a0_126 (ok5 hw _ _ _ _) ⟨rfl, by decide⟩ (wd hw 32 rfl) (wd hw 33 rfl) (fun s hZ => notFace_of_selects (args := #[]) (mvT hZ (wd hw 35 rfl))) (wd hw 35 rfl) (wd hw 34 rfl) rfl (argsL := []) (S := []) (au5_5 hw _ _ t1 t2 s1 s2 _) rfl rfl rfl rfl rfl rfl (Nat.le_of_ble_eq_true rfl) (Nat.le_of_ble_eq_true rfl) ?_
  rintro _ _ _ ⟨rfl, rfl, rfl⟩
  show WGo _ (129, [wI counts, wJ t1, wS, wJ t2, wS, wJ s1, wS, wJ s2, wS, wI 0, wI 0, wR 0, wR 1, wR 2, wI 1, wI 0, wU, wU], [.int 1], [(.inr (cn0, [(fk0, (.long t1)), (fk1, .null), (fk2, .null), (fk3, (.long s1))])), (.inr (cn0, [(fk0, (.long t2)), (fk1, .null), (fk2, .null), (fk3, (.long s2))])), (.inr (cn1, [(fk4, .ref 3), (fk5, .int 0)])), (.inl ((.object "com/example/chronogate/chronogate/Event"), [.null, .null, .null, .null, .null, .null, .null, .null]))], 18) _
  refine .s (.istore (L' := [wI counts, wJ t1, wS, wJ t2, wS, wJ s1, wS, wJ s2, wS, wI 0, wI 0, wR 0, wR 1, wR 2, wI 1, wI 0, wI 1, wU]) a0_129 rfl) <| .s (.aload a0_131 rfl rfl) ?_
  refine .callV (k := 2) (z := (⟨"com/example/chronogate/chronogate/ReleaseQueue", "peek", "()Lcom/example/chronogate/chronogate/Event;"⟩ : MethodName)) a0_133 (ok7 hw _ _ _ _) ⟨rfl, by decide⟩ (wd hw 43 rfl) (wd hw 44 rfl) (fun s hZ => notFace_of_selects (args := #[]) (mvT hZ (wd hw 46 rfl))) (wd hw 46 rfl) (wd hw 45 rfl) rfl (argsL := []) (S := []) (au7_7 hw _ _ t1 t2 s1 s2 _) rfl rfl rfl rfl rfl rfl (Nat.le_of_ble_eq_true rfl) (Nat.le_of_ble_eq_true rfl) ?_
  rintro _ _ _ ⟨rfl, rfl, rfl⟩
  show WGo _ (136, [wI counts, wJ t1, wS, wJ t2, wS, wJ s1, wS, wJ s2, wS, wI 0, wI 0, wR 0, wR 1, wR 2, wI 1, wI 0, wI 1, wU], [.null], [(.inr (cn0, [(fk0, (.long t1)), (fk1, .null), (fk2, .null), (fk3, (.long s1))])), (.inr (cn0, [(fk0, (.long t2)), (fk1, .null), (fk2, .null), (fk3, (.long s2))])), (.inr (cn1, [(fk4, .ref 3), (fk5, .int 0)])), (.inl ((.object "com/example/chronogate/chronogate/Event"), [.null, .null, .null, .null, .null, .null, .null, .null]))], 18) _
  refine .s (.nonnullF a0_136) <| .s (.iconst (1 : Int32) a0_139 rfl) <| .s (.goto a0_140) <| .s (.istore (L' := [wI counts, wJ t1, wS, wJ t2, wS, wJ s1, wS, wJ s2, wS, wI 0, wI 0, wR 0, wR 1, wR 2, wI 1, wI 0, wI 1, wI 1]) a0_144 rfl) <| .s (.iload a0_146 rfl) <| .s (.ifF a0_148 (by decide)) <| .s (.iload a0_151 rfl) ?_
  refine .s (.iload a0_153 rfl) <| .s (.ifF a0_155 (by decide)) <| .s (.iconst (1 : Int32) a0_158 rfl) <| .s (.goto a0_159) <| .s (.icmpF a0_163 (by decide)) <| .s (.iload a0_166 rfl) <| .s (.iload a0_168 rfl) ?_
  refine .s (.icmpF a0_170 (by decide)) <| .s (.iconst (1 : Int32) a0_173 rfl) <| .s (.goto a0_174) ?_
  refine .ireturn .boolean a0_178 rfl (by simp) ?_
  exact ⟨rfl, Nat.le_of_ble_eq_true rfl, Nat.le_of_ble_eq_true rfl⟩
set_option maxHeartbeats 4000000 in
theorem au11_8 {Z : State} {a0 : Array Value} (hw : ∀ d ∈ tables_1, d.before a0 Z = true) (ρ : Nat → Nat) (n0 : Nat) (t1 : Int64) (t2 : Int64) (s1 : Int64) (s2 : Int64) (u : Nat) : WGo (g11 Z ρ n0 4 u) (0, [wR 2, wU, wU, wU, wU], [], [(.inr (cn0, [(fk0, (.long t1)), (fk1, .null), (fk2, .null), (fk3, (.long s1))])), (.inr (cn0, [(fk0, (.long t2)), (fk1, .null), (fk2, .null), (fk3, (.long s2))])), (.inr (cn1, [(fk4, .ref 3), (fk5, .int 0)])), (.inl ((.object "com/example/chronogate/chronogate/Event"), [.null, .null, .null, .null, .null, .null, .null, .null]))], u) (fun v σ' u' => v = some (.null) ∧ [(.inr (cn0, [(fk0, (.long t1)), (fk1, .null), (fk2, .null), (fk3, (.long s1))])), (.inr (cn0, [(fk0, (.long t2)), (fk1, .null), (fk2, .null), (fk3, (.long s2))])), (.inr (cn1, [(fk4, .ref 3), (fk5, .int 0)])), (.inl ((.object "com/example/chronogate/chronogate/Event"), [.null, .null, .null, .null, .null, .null, .null, .null]))] = σ' ∧ u = u') := by
  refine .s (.aloadN a11_0 rfl rfl) <| .s (.getF 1 a11_1 (wd hw 37 rfl) rfl rfl) <| .s (.ifF a11_4 (by decide)) <| .s (.aconstNull a11_7) ?_
  refine .areturn (.object "com/example/chronogate/chronogate/Event") a11_8 rfl rfl rfl ?_
  exact ⟨rfl, rfl, rfl⟩
set_option maxHeartbeats 4000000 in
theorem au6_9 {Z : State} {a0 : Array Value} (hw : ∀ d ∈ tables_1, d.before a0 Z = true) (ρ : Nat → Nat) (n0 : Nat) (t1 : Int64) (t2 : Int64) (s1 : Int64) (s2 : Int64) (u : Nat) : WGo (g6 Z ρ n0 4 u) (0, [wI 0, wI (-1)], [], [(.inr (cn0, [(fk0, (.long t1)), (fk1, .null), (fk2, .null), (fk3, (.long s1))])), (.inr (cn0, [(fk0, (.long t2)), (fk1, .null), (fk2, .null), (fk3, (.long s2))])), (.inr (cn1, [(fk4, .ref 3), (fk5, .int 0)])), (.inl ((.object "com/example/chronogate/chronogate/Event"), [.null, .null, .null, .null, .null, .null, .null, .null]))], u) (fun v σ' u' => v = some (.int 0) ∧ [(.inr (cn0, [(fk0, (.long t1)), (fk1, .null), (fk2, .null), (fk3, (.long s1))])), (.inr (cn0, [(fk0, (.long t2)), (fk1, .null), (fk2, .null), (fk3, (.long s2))])), (.inr (cn1, [(fk4, .ref 3), (fk5, .int 0)])), (.inl ((.object "com/example/chronogate/chronogate/Event"), [.null, .null, .null, .null, .null, .null, .null, .null]))] = σ' ∧ u = u') := by
  refine .s (.iloadN a6_0 rfl) <| .s (.iloadN a6_1 rfl) <| .s (.icmpF a6_2 (by decide)) <| .s (.iloadN a6_5 rfl) <| .s (.goto a6_6) ?_
  refine .ireturn .int a6_10 rfl (by simp) ?_
  exact ⟨rfl, rfl, rfl⟩
set_option maxHeartbeats 40000000 in
theorem seg01 (Z : State) (a0 : Array Value) (hw : ∀ d ∈ tables_1, d.before a0 Z = true) (n0 : Nat) (counts : Int32) (t1 t2 s1 s2 : Int64) : WGo (g0 Z (fun k => n0 + k) n0 0 0) (19, [wI counts, wJ t1, wS, wJ t2, wS, wJ s1, wS, wJ s2, wS, wI 0, wI 1, wU, wU, wU, wU, wU, wU, wU], [], [], 0) (fun v σ' u' => v = some (.int 1) ∧ σ'.length ≤ 16 ∧ u' ≤ 128) := by
  refine .s (.newO (k := 0) [(fk0, .long 0), (fk1, .null), (fk2, .null), (fk3, .long 0)] a0_19 (wd hw 1 rfl) (wd hw 2 rfl) (wd hw 3 rfl) ⟨⟨Or.inr (wd hw 11 rfl), .long, by decide, rfl⟩, ⟨Or.inr (wd hw 13 rfl), (.object "java/util/List"), by decide, rfl⟩, ⟨Or.inr (wd hw 15 rfl), (.object "java/lang/Object"), by decide, rfl⟩, ⟨Or.inr (wd hw 17 rfl), .long, by decide, rfl⟩, trivial⟩ (by decide) rfl (by decide)) ?_
  show WGo _ (22, [wI counts, wJ t1, wS, wJ t2, wS, wJ s1, wS, wJ s2, wS, wI 0, wI 1, wU, wU, wU, wU, wU, wU, wU], [.ref 0], [(.inr (cn0, [(fk0, .long 0), (fk1, .null), (fk2, .null), (fk3, .long 0)]))], 4) _
  refine .s (.dup a0_22 rfl) <| .s (.lloadN a0_23 rfl) <| .s (.aconstNull a0_24) <| .s (.aconstNull a0_25) <| .s (.lload a0_26 rfl) ?_
  refine .callI (k := 0) a0_28 (ok1 hw _ _ _ _) rfl rfl (wd hw 4 rfl) (wd hw 5 rfl) (by decide) (argsL := [(.long t1), .null, .null, (.long s1)]) (S := [.ref 0]) (au1_1 hw _ _ t1 s1 _) rfl rfl rfl rfl rfl rfl (Nat.le_of_ble_eq_true rfl) (Nat.le_of_ble_eq_true rfl) ?_
  rintro _ _ _ ⟨rfl, rfl, rfl⟩
  show WGo _ (31, [wI counts, wJ t1, wS, wJ t2, wS, wJ s1, wS, wJ s2, wS, wI 0, wI 1, wU, wU, wU, wU, wU, wU, wU], [.ref 0], [(.inr (cn0, [(fk0, (.long t1)), (fk1, .null), (fk2, .null), (fk3, (.long s1))]))], 4) _
  refine .s (.astore (L' := [wI counts, wJ t1, wS, wJ t2, wS, wJ s1, wS, wJ s2, wS, wI 0, wI 1, wR 0, wU, wU, wU, wU, wU, wU]) a0_31 rfl rfl) <| .s (.newO (k := 1) [(fk0, .long 0), (fk1, .null), (fk2, .null), (fk3, .long 0)] a0_33 (wd hw 1 rfl) (wd hw 2 rfl) (wd hw 3 rfl) ⟨⟨Or.inr (wd hw 11 rfl), .long, by decide, rfl⟩, ⟨Or.inr (wd hw 13 rfl), (.object "java/util/List"), by decide, rfl⟩, ⟨Or.inr (wd hw 15 rfl), (.object "java/lang/Object"), by decide, rfl⟩, ⟨Or.inr (wd hw 17 rfl), .long, by decide, rfl⟩, trivial⟩ (by decide) rfl (by decide)) ?_
  show WGo _ (36, [wI counts, wJ t1, wS, wJ t2, wS, wJ s1, wS, wJ s2, wS, wI 0, wI 1, wR 0, wU, wU, wU, wU, wU, wU], [.ref 1], [(.inr (cn0, [(fk0, (.long t1)), (fk1, .null), (fk2, .null), (fk3, (.long s1))])), (.inr (cn0, [(fk0, .long 0), (fk1, .null), (fk2, .null), (fk3, .long 0)]))], 8) _
  refine .s (.dup a0_36 rfl) <| .s (.lloadN a0_37 rfl) <| .s (.aconstNull a0_38) <| .s (.aconstNull a0_39) <| .s (.lload a0_40 rfl) ?_
  refine .callI (k := 1) a0_42 (ok1 hw _ _ _ _) rfl rfl (wd hw 4 rfl) (wd hw 5 rfl) (by decide) (argsL := [(.long t2), .null, .null, (.long s2)]) (S := [.ref 1]) (au1_2 hw _ _ t1 t2 s1 s2 _) rfl rfl rfl rfl rfl rfl (Nat.le_of_ble_eq_true rfl) (Nat.le_of_ble_eq_true rfl) ?_
  rintro _ _ _ ⟨rfl, rfl, rfl⟩
  show WGo _ (45, [wI counts, wJ t1, wS, wJ t2, wS, wJ s1, wS, wJ s2, wS, wI 0, wI 1, wR 0, wU, wU, wU, wU, wU, wU], [.ref 1], [(.inr (cn0, [(fk0, (.long t1)), (fk1, .null), (fk2, .null), (fk3, (.long s1))])), (.inr (cn0, [(fk0, (.long t2)), (fk1, .null), (fk2, .null), (fk3, (.long s2))]))], 8) _
  refine .s (.astore (L' := [wI counts, wJ t1, wS, wJ t2, wS, wJ s1, wS, wJ s2, wS, wI 0, wI 1, wR 0, wR 1, wU, wU, wU, wU, wU]) a0_45 rfl rfl) <| .s (.newO (k := 2) [(fk4, .null), (fk5, .int 0)] a0_47 (wd hw 18 rfl) (wd hw 19 rfl) (wd hw 20 rfl) ⟨⟨Or.inl (wd hw 31 rfl), (.array (.object "com/example/chronogate/chronogate/Event")), by decide, rfl⟩, ⟨Or.inl (wd hw 38 rfl), .int, by decide, rfl⟩, trivial⟩ (by decide) rfl (by decide)) ?_
  show WGo _ (50, [wI counts, wJ t1, wS, wJ t2, wS, wJ s1, wS, wJ s2, wS, wI 0, wI 1, wR 0, wR 1, wU, wU, wU, wU, wU], [.ref 2], [(.inr (cn0, [(fk0, (.long t1)), (fk1, .null), (fk2, .null), (fk3, (.long s1))])), (.inr (cn0, [(fk0, (.long t2)), (fk1, .null), (fk2, .null), (fk3, (.long s2))])), (.inr (cn1, [(fk4, .null), (fk5, .int 0)]))], 10) _
  refine .s (.dup a0_50 rfl) ?_
  refine .callI (k := 2) a0_51 (ok3 hw _ _ _ _) rfl rfl (wd hw 21 rfl) (wd hw 22 rfl) (by decide) (argsL := []) (S := [.ref 2]) (au3_3 hw _ _ t1 t2 s1 s2 _) rfl rfl rfl rfl rfl rfl (Nat.le_of_ble_eq_true rfl) (Nat.le_of_ble_eq_true rfl) ?_
  rintro _ _ _ ⟨rfl, rfl, rfl⟩
  show WGo _ (54, [wI counts, wJ t1, wS, wJ t2, wS, wJ s1, wS, wJ s2, wS, wI 0, wI 1, wR 0, wR 1, wU, wU, wU, wU, wU], [.ref 2], [(.inr (cn0, [(fk0, (.long t1)), (fk1, .null), (fk2, .null), (fk3, (.long s1))])), (.inr (cn0, [(fk0, (.long t2)), (fk1, .null), (fk2, .null), (fk3, (.long s2))])), (.inr (cn1, [(fk4, .ref 3), (fk5, .int 0)])), (.inl ((.object "com/example/chronogate/chronogate/Event"), [.null, .null, .null, .null, .null, .null, .null, .null]))], 18) _
  refine .s (.astore (L' := [wI counts, wJ t1, wS, wJ t2, wS, wJ s1, wS, wJ s2, wS, wI 0, wI 1, wR 0, wR 1, wR 2, wU, wU, wU, wU]) a0_54 rfl rfl) <| .s (.aload a0_56 rfl rfl) ?_
  refine .callV (k := 2) (z := (⟨"com/example/chronogate/chronogate/ReleaseQueue", "isEmpty", "()Z"⟩ : MethodName)) a0_58 (ok5 hw _ _ _ _) ⟨rfl, by decide⟩ (wd hw 32 rfl) (wd hw 33 rfl) (fun s hZ => notFace_of_selects (args := #[]) (mvT hZ (wd hw 35 rfl))) (wd hw 35 rfl) (wd hw 34 rfl) rfl (argsL := []) (S := []) (au5_5 hw _ _ t1 t2 s1 s2 _) rfl rfl rfl rfl rfl rfl (Nat.le_of_ble_eq_true rfl) (Nat.le_of_ble_eq_true rfl) ?_
  rintro _ _ _ ⟨rfl, rfl, rfl⟩
  show WGo _ (61, [wI counts, wJ t1, wS, wJ t2, wS, wJ s1, wS, wJ s2, wS, wI 0, wI 1, wR 0, wR 1, wR 2, wU, wU, wU, wU], [.int 1], [(.inr (cn0, [(fk0, (.long t1)), (fk1, .null), (fk2, .null), (fk3, (.long s1))])), (.inr (cn0, [(fk0, (.long t2)), (fk1, .null), (fk2, .null), (fk3, (.long s2))])), (.inr (cn1, [(fk4, .ref 3), (fk5, .int 0)])), (.inl ((.object "com/example/chronogate/chronogate/Event"), [.null, .null, .null, .null, .null, .null, .null, .null]))], 18) _
  refine .s (.istore (L' := [wI counts, wJ t1, wS, wJ t2, wS, wJ s1, wS, wJ s2, wS, wI 0, wI 1, wR 0, wR 1, wR 2, wI 1, wU, wU, wU]) a0_61 rfl) <| .s (.iload a0_63 rfl) <| .s (.iconst (1 : Int32) a0_65 rfl) <| .s (.icmpT a0_66 (by decide)) <| .s (.iload a0_76 rfl) <| .s (.iconst (2 : Int32) a0_78 rfl) <| .s (.icmpT a0_79 (by decide)) ?_
  refine .s (.iload a0_89 rfl) <| .s (.iconst (1 : Int32) a0_91 rfl) <| .s (.icmpF a0_92 (by decide)) <| .s (.aload a0_95 rfl rfl) ?_
  refine .callV (k := 2) (z := (⟨"com/example/chronogate/chronogate/ReleaseQueue", "poll", "()Lcom/example/chronogate/chronogate/Event;"⟩ : MethodName)) a0_97 (ok11 hw _ _ _ _) ⟨rfl, by decide⟩ (wd hw 61 rfl) (wd hw 62 rfl) (fun s hZ => notFace_of_selects (args := #[]) (mvT hZ (wd hw 64 rfl))) (wd hw 64 rfl) (wd hw 63 rfl) rfl (argsL := []) (S := []) (au11_8 hw _ _ t1 t2 s1 s2 _) rfl rfl rfl rfl rfl rfl (Nat.le_of_ble_eq_true rfl) (Nat.le_of_ble_eq_true rfl) ?_
  rintro _ _ _ ⟨rfl, rfl, rfl⟩
  show WGo _ (100, [wI counts, wJ t1, wS, wJ t2, wS, wJ s1, wS, wJ s2, wS, wI 0, wI 1, wR 0, wR 1, wR 2, wI 1, wU, wU, wU], [.null], [(.inr (cn0, [(fk0, (.long t1)), (fk1, .null), (fk2, .null), (fk3, (.long s1))])), (.inr (cn0, [(fk0, (.long t2)), (fk1, .null), (fk2, .null), (fk3, (.long s2))])), (.inr (cn1, [(fk4, .ref 3), (fk5, .int 0)])), (.inl ((.object "com/example/chronogate/chronogate/Event"), [.null, .null, .null, .null, .null, .null, .null, .null]))], 18) _
  refine .s (.pop a0_100 rfl) <| .s (.iload a0_101 rfl) <| .s (.iconst (2 : Int32) a0_103 rfl) <| .s (.icmpT a0_104 (by decide)) <| .s (.iconst (0 : Int32) a0_113 rfl) <| .s (.iload a0_114 rfl) <| .s (.iload a0_116 rfl) ?_
  refine .s (.isub a0_118) ?_
  show WGo _ (119, [wI counts, wJ t1, wS, wJ t2, wS, wJ s1, wS, wJ s2, wS, wI 0, wI 1, wR 0, wR 1, wR 2, wI 1, wU, wU, wU], [.int (-1), .int 0], [(.inr (cn0, [(fk0, (.long t1)), (fk1, .null), (fk2, .null), (fk3, (.long s1))])), (.inr (cn0, [(fk0, (.long t2)), (fk1, .null), (fk2, .null), (fk3, (.long s2))])), (.inr (cn1, [(fk4, .ref 3), (fk5, .int 0)])), (.inl ((.object "com/example/chronogate/chronogate/Event"), [.null, .null, .null, .null, .null, .null, .null, .null]))], 18) _
  refine .callS a0_119 (ok6 hw _ _ _ _) (wd hw 39 rfl) (wd hw 40 rfl) (argsL := [.int 0, .int (-1)]) (S := []) (au6_9 hw _ _ t1 t2 s1 s2 _) rfl rfl rfl rfl rfl rfl (Nat.le_of_ble_eq_true rfl) (Nat.le_of_ble_eq_true rfl) ?_
  rintro _ _ _ ⟨rfl, rfl, rfl⟩
  show WGo _ (122, [wI counts, wJ t1, wS, wJ t2, wS, wJ s1, wS, wJ s2, wS, wI 0, wI 1, wR 0, wR 1, wR 2, wI 1, wU, wU, wU], [.int 0], [(.inr (cn0, [(fk0, (.long t1)), (fk1, .null), (fk2, .null), (fk3, (.long s1))])), (.inr (cn0, [(fk0, (.long t2)), (fk1, .null), (fk2, .null), (fk3, (.long s2))])), (.inr (cn1, [(fk4, .ref 3), (fk5, .int 0)])), (.inl ((.object "com/example/chronogate/chronogate/Event"), [.null, .null, .null, .null, .null, .null, .null, .null]))], 18) _
  refine .s (.istore (L' := [wI counts, wJ t1, wS, wJ t2, wS, wJ s1, wS, wJ s2, wS, wI 0, wI 1, wR 0, wR 1, wR 2, wI 1, wI 0, wU, wU]) a0_122 rfl) <| .s (.aload a0_124 rfl rfl) ?_
  refine .callV (k := 2) (z := (⟨"com/example/chronogate/chronogate/ReleaseQueue", "isEmpty", "()Z"⟩ : MethodName)) a0_126 (ok5 hw _ _ _ _) ⟨rfl, by decide⟩ (wd hw 32 rfl) (wd hw 33 rfl) (fun s hZ => notFace_of_selects (args := #[]) (mvT hZ (wd hw 35 rfl))) (wd hw 35 rfl) (wd hw 34 rfl) rfl (argsL := []) (S := []) (au5_5 hw _ _ t1 t2 s1 s2 _) rfl rfl rfl rfl rfl rfl (Nat.le_of_ble_eq_true rfl) (Nat.le_of_ble_eq_true rfl) ?_
  rintro _ _ _ ⟨rfl, rfl, rfl⟩
  show WGo _ (129, [wI counts, wJ t1, wS, wJ t2, wS, wJ s1, wS, wJ s2, wS, wI 0, wI 1, wR 0, wR 1, wR 2, wI 1, wI 0, wU, wU], [.int 1], [(.inr (cn0, [(fk0, (.long t1)), (fk1, .null), (fk2, .null), (fk3, (.long s1))])), (.inr (cn0, [(fk0, (.long t2)), (fk1, .null), (fk2, .null), (fk3, (.long s2))])), (.inr (cn1, [(fk4, .ref 3), (fk5, .int 0)])), (.inl ((.object "com/example/chronogate/chronogate/Event"), [.null, .null, .null, .null, .null, .null, .null, .null]))], 18) _
  refine .s (.istore (L' := [wI counts, wJ t1, wS, wJ t2, wS, wJ s1, wS, wJ s2, wS, wI 0, wI 1, wR 0, wR 1, wR 2, wI 1, wI 0, wI 1, wU]) a0_129 rfl) <| .s (.aload a0_131 rfl rfl) ?_
  refine .callV (k := 2) (z := (⟨"com/example/chronogate/chronogate/ReleaseQueue", "peek", "()Lcom/example/chronogate/chronogate/Event;"⟩ : MethodName)) a0_133 (ok7 hw _ _ _ _) ⟨rfl, by decide⟩ (wd hw 43 rfl) (wd hw 44 rfl) (fun s hZ => notFace_of_selects (args := #[]) (mvT hZ (wd hw 46 rfl))) (wd hw 46 rfl) (wd hw 45 rfl) rfl (argsL := []) (S := []) (au7_7 hw _ _ t1 t2 s1 s2 _) rfl rfl rfl rfl rfl rfl (Nat.le_of_ble_eq_true rfl) (Nat.le_of_ble_eq_true rfl) ?_
  rintro _ _ _ ⟨rfl, rfl, rfl⟩
  show WGo _ (136, [wI counts, wJ t1, wS, wJ t2, wS, wJ s1, wS, wJ s2, wS, wI 0, wI 1, wR 0, wR 1, wR 2, wI 1, wI 0, wI 1, wU], [.null], [(.inr (cn0, [(fk0, (.long t1)), (fk1, .null), (fk2, .null), (fk3, (.long s1))])), (.inr (cn0, [(fk0, (.long t2)), (fk1, .null), (fk2, .null), (fk3, (.long s2))])), (.inr (cn1, [(fk4, .ref 3), (fk5, .int 0)])), (.inl ((.object "com/example/chronogate/chronogate/Event"), [.null, .null, .null, .null, .null, .null, .null, .null]))], 18) _
  refine .s (.nonnullF a0_136) <| .s (.iconst (1 : Int32) a0_139 rfl) <| .s (.goto a0_140) <| .s (.istore (L' := [wI counts, wJ t1, wS, wJ t2, wS, wJ s1, wS, wJ s2, wS, wI 0, wI 1, wR 0, wR 1, wR 2, wI 1, wI 0, wI 1, wI 1]) a0_144 rfl) <| .s (.iload a0_146 rfl) <| .s (.ifF a0_148 (by decide)) <| .s (.iload a0_151 rfl) ?_
  refine .s (.iload a0_153 rfl) <| .s (.ifF a0_155 (by decide)) <| .s (.iconst (1 : Int32) a0_158 rfl) <| .s (.goto a0_159) <| .s (.icmpF a0_163 (by decide)) <| .s (.iload a0_166 rfl) <| .s (.iload a0_168 rfl) ?_
  refine .s (.icmpF a0_170 (by decide)) <| .s (.iconst (1 : Int32) a0_173 rfl) <| .s (.goto a0_174) ?_
  refine .ireturn .boolean a0_178 rfl (by simp) ?_
  exact ⟨rfl, Nat.le_of_ble_eq_true rfl, Nat.le_of_ble_eq_true rfl⟩
set_option maxHeartbeats 4000000 in
theorem au6_10 {Z : State} {a0 : Array Value} (hw : ∀ d ∈ tables_1, d.before a0 Z = true) (ρ : Nat → Nat) (n0 : Nat) (t1 : Int64) (t2 : Int64) (s1 : Int64) (s2 : Int64) (u : Nat) : WGo (g6 Z ρ n0 4 u) (0, [wI 0, wI (-2)], [], [(.inr (cn0, [(fk0, (.long t1)), (fk1, .null), (fk2, .null), (fk3, (.long s1))])), (.inr (cn0, [(fk0, (.long t2)), (fk1, .null), (fk2, .null), (fk3, (.long s2))])), (.inr (cn1, [(fk4, .ref 3), (fk5, .int 0)])), (.inl ((.object "com/example/chronogate/chronogate/Event"), [.null, .null, .null, .null, .null, .null, .null, .null]))], u) (fun v σ' u' => v = some (.int 0) ∧ [(.inr (cn0, [(fk0, (.long t1)), (fk1, .null), (fk2, .null), (fk3, (.long s1))])), (.inr (cn0, [(fk0, (.long t2)), (fk1, .null), (fk2, .null), (fk3, (.long s2))])), (.inr (cn1, [(fk4, .ref 3), (fk5, .int 0)])), (.inl ((.object "com/example/chronogate/chronogate/Event"), [.null, .null, .null, .null, .null, .null, .null, .null]))] = σ' ∧ u = u') := by
  refine .s (.iloadN a6_0 rfl) <| .s (.iloadN a6_1 rfl) <| .s (.icmpF a6_2 (by decide)) <| .s (.iloadN a6_5 rfl) <| .s (.goto a6_6) ?_
  refine .ireturn .int a6_10 rfl (by simp) ?_
  exact ⟨rfl, rfl, rfl⟩
set_option maxHeartbeats 40000000 in
theorem seg02 (Z : State) (a0 : Array Value) (hw : ∀ d ∈ tables_1, d.before a0 Z = true) (n0 : Nat) (counts : Int32) (t1 t2 s1 s2 : Int64) : WGo (g0 Z (fun k => n0 + k) n0 0 0) (19, [wI counts, wJ t1, wS, wJ t2, wS, wJ s1, wS, wJ s2, wS, wI 0, wI 2, wU, wU, wU, wU, wU, wU, wU], [], [], 0) (fun v σ' u' => v = some (.int 1) ∧ σ'.length ≤ 16 ∧ u' ≤ 128) := by
  refine .s (.newO (k := 0) [(fk0, .long 0), (fk1, .null), (fk2, .null), (fk3, .long 0)] a0_19 (wd hw 1 rfl) (wd hw 2 rfl) (wd hw 3 rfl) ⟨⟨Or.inr (wd hw 11 rfl), .long, by decide, rfl⟩, ⟨Or.inr (wd hw 13 rfl), (.object "java/util/List"), by decide, rfl⟩, ⟨Or.inr (wd hw 15 rfl), (.object "java/lang/Object"), by decide, rfl⟩, ⟨Or.inr (wd hw 17 rfl), .long, by decide, rfl⟩, trivial⟩ (by decide) rfl (by decide)) ?_
  show WGo _ (22, [wI counts, wJ t1, wS, wJ t2, wS, wJ s1, wS, wJ s2, wS, wI 0, wI 2, wU, wU, wU, wU, wU, wU, wU], [.ref 0], [(.inr (cn0, [(fk0, .long 0), (fk1, .null), (fk2, .null), (fk3, .long 0)]))], 4) _
  refine .s (.dup a0_22 rfl) <| .s (.lloadN a0_23 rfl) <| .s (.aconstNull a0_24) <| .s (.aconstNull a0_25) <| .s (.lload a0_26 rfl) ?_
  refine .callI (k := 0) a0_28 (ok1 hw _ _ _ _) rfl rfl (wd hw 4 rfl) (wd hw 5 rfl) (by decide) (argsL := [(.long t1), .null, .null, (.long s1)]) (S := [.ref 0]) (au1_1 hw _ _ t1 s1 _) rfl rfl rfl rfl rfl rfl (Nat.le_of_ble_eq_true rfl) (Nat.le_of_ble_eq_true rfl) ?_
  rintro _ _ _ ⟨rfl, rfl, rfl⟩
  show WGo _ (31, [wI counts, wJ t1, wS, wJ t2, wS, wJ s1, wS, wJ s2, wS, wI 0, wI 2, wU, wU, wU, wU, wU, wU, wU], [.ref 0], [(.inr (cn0, [(fk0, (.long t1)), (fk1, .null), (fk2, .null), (fk3, (.long s1))]))], 4) _
  refine .s (.astore (L' := [wI counts, wJ t1, wS, wJ t2, wS, wJ s1, wS, wJ s2, wS, wI 0, wI 2, wR 0, wU, wU, wU, wU, wU, wU]) a0_31 rfl rfl) <| .s (.newO (k := 1) [(fk0, .long 0), (fk1, .null), (fk2, .null), (fk3, .long 0)] a0_33 (wd hw 1 rfl) (wd hw 2 rfl) (wd hw 3 rfl) ⟨⟨Or.inr (wd hw 11 rfl), .long, by decide, rfl⟩, ⟨Or.inr (wd hw 13 rfl), (.object "java/util/List"), by decide, rfl⟩, ⟨Or.inr (wd hw 15 rfl), (.object "java/lang/Object"), by decide, rfl⟩, ⟨Or.inr (wd hw 17 rfl), .long, by decide, rfl⟩, trivial⟩ (by decide) rfl (by decide)) ?_
  show WGo _ (36, [wI counts, wJ t1, wS, wJ t2, wS, wJ s1, wS, wJ s2, wS, wI 0, wI 2, wR 0, wU, wU, wU, wU, wU, wU], [.ref 1], [(.inr (cn0, [(fk0, (.long t1)), (fk1, .null), (fk2, .null), (fk3, (.long s1))])), (.inr (cn0, [(fk0, .long 0), (fk1, .null), (fk2, .null), (fk3, .long 0)]))], 8) _
  refine .s (.dup a0_36 rfl) <| .s (.lloadN a0_37 rfl) <| .s (.aconstNull a0_38) <| .s (.aconstNull a0_39) <| .s (.lload a0_40 rfl) ?_
  refine .callI (k := 1) a0_42 (ok1 hw _ _ _ _) rfl rfl (wd hw 4 rfl) (wd hw 5 rfl) (by decide) (argsL := [(.long t2), .null, .null, (.long s2)]) (S := [.ref 1]) (au1_2 hw _ _ t1 t2 s1 s2 _) rfl rfl rfl rfl rfl rfl (Nat.le_of_ble_eq_true rfl) (Nat.le_of_ble_eq_true rfl) ?_
  rintro _ _ _ ⟨rfl, rfl, rfl⟩
  show WGo _ (45, [wI counts, wJ t1, wS, wJ t2, wS, wJ s1, wS, wJ s2, wS, wI 0, wI 2, wR 0, wU, wU, wU, wU, wU, wU], [.ref 1], [(.inr (cn0, [(fk0, (.long t1)), (fk1, .null), (fk2, .null), (fk3, (.long s1))])), (.inr (cn0, [(fk0, (.long t2)), (fk1, .null), (fk2, .null), (fk3, (.long s2))]))], 8) _
  refine .s (.astore (L' := [wI counts, wJ t1, wS, wJ t2, wS, wJ s1, wS, wJ s2, wS, wI 0, wI 2, wR 0, wR 1, wU, wU, wU, wU, wU]) a0_45 rfl rfl) <| .s (.newO (k := 2) [(fk4, .null), (fk5, .int 0)] a0_47 (wd hw 18 rfl) (wd hw 19 rfl) (wd hw 20 rfl) ⟨⟨Or.inl (wd hw 31 rfl), (.array (.object "com/example/chronogate/chronogate/Event")), by decide, rfl⟩, ⟨Or.inl (wd hw 38 rfl), .int, by decide, rfl⟩, trivial⟩ (by decide) rfl (by decide)) ?_
  show WGo _ (50, [wI counts, wJ t1, wS, wJ t2, wS, wJ s1, wS, wJ s2, wS, wI 0, wI 2, wR 0, wR 1, wU, wU, wU, wU, wU], [.ref 2], [(.inr (cn0, [(fk0, (.long t1)), (fk1, .null), (fk2, .null), (fk3, (.long s1))])), (.inr (cn0, [(fk0, (.long t2)), (fk1, .null), (fk2, .null), (fk3, (.long s2))])), (.inr (cn1, [(fk4, .null), (fk5, .int 0)]))], 10) _
  refine .s (.dup a0_50 rfl) ?_
  refine .callI (k := 2) a0_51 (ok3 hw _ _ _ _) rfl rfl (wd hw 21 rfl) (wd hw 22 rfl) (by decide) (argsL := []) (S := [.ref 2]) (au3_3 hw _ _ t1 t2 s1 s2 _) rfl rfl rfl rfl rfl rfl (Nat.le_of_ble_eq_true rfl) (Nat.le_of_ble_eq_true rfl) ?_
  rintro _ _ _ ⟨rfl, rfl, rfl⟩
  show WGo _ (54, [wI counts, wJ t1, wS, wJ t2, wS, wJ s1, wS, wJ s2, wS, wI 0, wI 2, wR 0, wR 1, wU, wU, wU, wU, wU], [.ref 2], [(.inr (cn0, [(fk0, (.long t1)), (fk1, .null), (fk2, .null), (fk3, (.long s1))])), (.inr (cn0, [(fk0, (.long t2)), (fk1, .null), (fk2, .null), (fk3, (.long s2))])), (.inr (cn1, [(fk4, .ref 3), (fk5, .int 0)])), (.inl ((.object "com/example/chronogate/chronogate/Event"), [.null, .null, .null, .null, .null, .null, .null, .null]))], 18) _
  refine .s (.astore (L' := [wI counts, wJ t1, wS, wJ t2, wS, wJ s1, wS, wJ s2, wS, wI 0, wI 2, wR 0, wR 1, wR 2, wU, wU, wU, wU]) a0_54 rfl rfl) <| .s (.aload a0_56 rfl rfl) ?_
  refine .callV (k := 2) (z := (⟨"com/example/chronogate/chronogate/ReleaseQueue", "isEmpty", "()Z"⟩ : MethodName)) a0_58 (ok5 hw _ _ _ _) ⟨rfl, by decide⟩ (wd hw 32 rfl) (wd hw 33 rfl) (fun s hZ => notFace_of_selects (args := #[]) (mvT hZ (wd hw 35 rfl))) (wd hw 35 rfl) (wd hw 34 rfl) rfl (argsL := []) (S := []) (au5_5 hw _ _ t1 t2 s1 s2 _) rfl rfl rfl rfl rfl rfl (Nat.le_of_ble_eq_true rfl) (Nat.le_of_ble_eq_true rfl) ?_
  rintro _ _ _ ⟨rfl, rfl, rfl⟩
  show WGo _ (61, [wI counts, wJ t1, wS, wJ t2, wS, wJ s1, wS, wJ s2, wS, wI 0, wI 2, wR 0, wR 1, wR 2, wU, wU, wU, wU], [.int 1], [(.inr (cn0, [(fk0, (.long t1)), (fk1, .null), (fk2, .null), (fk3, (.long s1))])), (.inr (cn0, [(fk0, (.long t2)), (fk1, .null), (fk2, .null), (fk3, (.long s2))])), (.inr (cn1, [(fk4, .ref 3), (fk5, .int 0)])), (.inl ((.object "com/example/chronogate/chronogate/Event"), [.null, .null, .null, .null, .null, .null, .null, .null]))], 18) _
  refine .s (.istore (L' := [wI counts, wJ t1, wS, wJ t2, wS, wJ s1, wS, wJ s2, wS, wI 0, wI 2, wR 0, wR 1, wR 2, wI 1, wU, wU, wU]) a0_61 rfl) <| .s (.iload a0_63 rfl) <| .s (.iconst (1 : Int32) a0_65 rfl) <| .s (.icmpT a0_66 (by decide)) <| .s (.iload a0_76 rfl) <| .s (.iconst (2 : Int32) a0_78 rfl) <| .s (.icmpT a0_79 (by decide)) ?_
  refine .s (.iload a0_89 rfl) <| .s (.iconst (1 : Int32) a0_91 rfl) <| .s (.icmpF a0_92 (by decide)) <| .s (.aload a0_95 rfl rfl) ?_
  refine .callV (k := 2) (z := (⟨"com/example/chronogate/chronogate/ReleaseQueue", "poll", "()Lcom/example/chronogate/chronogate/Event;"⟩ : MethodName)) a0_97 (ok11 hw _ _ _ _) ⟨rfl, by decide⟩ (wd hw 61 rfl) (wd hw 62 rfl) (fun s hZ => notFace_of_selects (args := #[]) (mvT hZ (wd hw 64 rfl))) (wd hw 64 rfl) (wd hw 63 rfl) rfl (argsL := []) (S := []) (au11_8 hw _ _ t1 t2 s1 s2 _) rfl rfl rfl rfl rfl rfl (Nat.le_of_ble_eq_true rfl) (Nat.le_of_ble_eq_true rfl) ?_
  rintro _ _ _ ⟨rfl, rfl, rfl⟩
  show WGo _ (100, [wI counts, wJ t1, wS, wJ t2, wS, wJ s1, wS, wJ s2, wS, wI 0, wI 2, wR 0, wR 1, wR 2, wI 1, wU, wU, wU], [.null], [(.inr (cn0, [(fk0, (.long t1)), (fk1, .null), (fk2, .null), (fk3, (.long s1))])), (.inr (cn0, [(fk0, (.long t2)), (fk1, .null), (fk2, .null), (fk3, (.long s2))])), (.inr (cn1, [(fk4, .ref 3), (fk5, .int 0)])), (.inl ((.object "com/example/chronogate/chronogate/Event"), [.null, .null, .null, .null, .null, .null, .null, .null]))], 18) _
  refine .s (.pop a0_100 rfl) <| .s (.iload a0_101 rfl) <| .s (.iconst (2 : Int32) a0_103 rfl) <| .s (.icmpF a0_104 (by decide)) <| .s (.aload a0_107 rfl rfl) ?_
  refine .callV (k := 2) (z := (⟨"com/example/chronogate/chronogate/ReleaseQueue", "poll", "()Lcom/example/chronogate/chronogate/Event;"⟩ : MethodName)) a0_109 (ok11 hw _ _ _ _) ⟨rfl, by decide⟩ (wd hw 61 rfl) (wd hw 62 rfl) (fun s hZ => notFace_of_selects (args := #[]) (mvT hZ (wd hw 64 rfl))) (wd hw 64 rfl) (wd hw 63 rfl) rfl (argsL := []) (S := []) (au11_8 hw _ _ t1 t2 s1 s2 _) rfl rfl rfl rfl rfl rfl (Nat.le_of_ble_eq_true rfl) (Nat.le_of_ble_eq_true rfl) ?_
  rintro _ _ _ ⟨rfl, rfl, rfl⟩
  show WGo _ (112, [wI counts, wJ t1, wS, wJ t2, wS, wJ s1, wS, wJ s2, wS, wI 0, wI 2, wR 0, wR 1, wR 2, wI 1, wU, wU, wU], [.null], [(.inr (cn0, [(fk0, (.long t1)), (fk1, .null), (fk2, .null), (fk3, (.long s1))])), (.inr (cn0, [(fk0, (.long t2)), (fk1, .null), (fk2, .null), (fk3, (.long s2))])), (.inr (cn1, [(fk4, .ref 3), (fk5, .int 0)])), (.inl ((.object "com/example/chronogate/chronogate/Event"), [.null, .null, .null, .null, .null, .null, .null, .null]))], 18) _
  refine .s (.pop a0_112 rfl) <| .s (.iconst (0 : Int32) a0_113 rfl) <| .s (.iload a0_114 rfl) <| .s (.iload a0_116 rfl) <| .s (.isub a0_118) ?_
  show WGo _ (119, [wI counts, wJ t1, wS, wJ t2, wS, wJ s1, wS, wJ s2, wS, wI 0, wI 2, wR 0, wR 1, wR 2, wI 1, wU, wU, wU], [.int (-2), .int 0], [(.inr (cn0, [(fk0, (.long t1)), (fk1, .null), (fk2, .null), (fk3, (.long s1))])), (.inr (cn0, [(fk0, (.long t2)), (fk1, .null), (fk2, .null), (fk3, (.long s2))])), (.inr (cn1, [(fk4, .ref 3), (fk5, .int 0)])), (.inl ((.object "com/example/chronogate/chronogate/Event"), [.null, .null, .null, .null, .null, .null, .null, .null]))], 18) _
  refine .callS a0_119 (ok6 hw _ _ _ _) (wd hw 39 rfl) (wd hw 40 rfl) (argsL := [.int 0, .int (-2)]) (S := []) (au6_10 hw _ _ t1 t2 s1 s2 _) rfl rfl rfl rfl rfl rfl (Nat.le_of_ble_eq_true rfl) (Nat.le_of_ble_eq_true rfl) ?_
  rintro _ _ _ ⟨rfl, rfl, rfl⟩
  show WGo _ (122, [wI counts, wJ t1, wS, wJ t2, wS, wJ s1, wS, wJ s2, wS, wI 0, wI 2, wR 0, wR 1, wR 2, wI 1, wU, wU, wU], [.int 0], [(.inr (cn0, [(fk0, (.long t1)), (fk1, .null), (fk2, .null), (fk3, (.long s1))])), (.inr (cn0, [(fk0, (.long t2)), (fk1, .null), (fk2, .null), (fk3, (.long s2))])), (.inr (cn1, [(fk4, .ref 3), (fk5, .int 0)])), (.inl ((.object "com/example/chronogate/chronogate/Event"), [.null, .null, .null, .null, .null, .null, .null, .null]))], 18) _
  refine .s (.istore (L' := [wI counts, wJ t1, wS, wJ t2, wS, wJ s1, wS, wJ s2, wS, wI 0, wI 2, wR 0, wR 1, wR 2, wI 1, wI 0, wU, wU]) a0_122 rfl) <| .s (.aload a0_124 rfl rfl) ?_
  refine .callV (k := 2) (z := (⟨"com/example/chronogate/chronogate/ReleaseQueue", "isEmpty", "()Z"⟩ : MethodName)) a0_126 (ok5 hw _ _ _ _) ⟨rfl, by decide⟩ (wd hw 32 rfl) (wd hw 33 rfl) (fun s hZ => notFace_of_selects (args := #[]) (mvT hZ (wd hw 35 rfl))) (wd hw 35 rfl) (wd hw 34 rfl) rfl (argsL := []) (S := []) (au5_5 hw _ _ t1 t2 s1 s2 _) rfl rfl rfl rfl rfl rfl (Nat.le_of_ble_eq_true rfl) (Nat.le_of_ble_eq_true rfl) ?_
  rintro _ _ _ ⟨rfl, rfl, rfl⟩
  show WGo _ (129, [wI counts, wJ t1, wS, wJ t2, wS, wJ s1, wS, wJ s2, wS, wI 0, wI 2, wR 0, wR 1, wR 2, wI 1, wI 0, wU, wU], [.int 1], [(.inr (cn0, [(fk0, (.long t1)), (fk1, .null), (fk2, .null), (fk3, (.long s1))])), (.inr (cn0, [(fk0, (.long t2)), (fk1, .null), (fk2, .null), (fk3, (.long s2))])), (.inr (cn1, [(fk4, .ref 3), (fk5, .int 0)])), (.inl ((.object "com/example/chronogate/chronogate/Event"), [.null, .null, .null, .null, .null, .null, .null, .null]))], 18) _
  refine .s (.istore (L' := [wI counts, wJ t1, wS, wJ t2, wS, wJ s1, wS, wJ s2, wS, wI 0, wI 2, wR 0, wR 1, wR 2, wI 1, wI 0, wI 1, wU]) a0_129 rfl) <| .s (.aload a0_131 rfl rfl) ?_
  refine .callV (k := 2) (z := (⟨"com/example/chronogate/chronogate/ReleaseQueue", "peek", "()Lcom/example/chronogate/chronogate/Event;"⟩ : MethodName)) a0_133 (ok7 hw _ _ _ _) ⟨rfl, by decide⟩ (wd hw 43 rfl) (wd hw 44 rfl) (fun s hZ => notFace_of_selects (args := #[]) (mvT hZ (wd hw 46 rfl))) (wd hw 46 rfl) (wd hw 45 rfl) rfl (argsL := []) (S := []) (au7_7 hw _ _ t1 t2 s1 s2 _) rfl rfl rfl rfl rfl rfl (Nat.le_of_ble_eq_true rfl) (Nat.le_of_ble_eq_true rfl) ?_
  rintro _ _ _ ⟨rfl, rfl, rfl⟩
  show WGo _ (136, [wI counts, wJ t1, wS, wJ t2, wS, wJ s1, wS, wJ s2, wS, wI 0, wI 2, wR 0, wR 1, wR 2, wI 1, wI 0, wI 1, wU], [.null], [(.inr (cn0, [(fk0, (.long t1)), (fk1, .null), (fk2, .null), (fk3, (.long s1))])), (.inr (cn0, [(fk0, (.long t2)), (fk1, .null), (fk2, .null), (fk3, (.long s2))])), (.inr (cn1, [(fk4, .ref 3), (fk5, .int 0)])), (.inl ((.object "com/example/chronogate/chronogate/Event"), [.null, .null, .null, .null, .null, .null, .null, .null]))], 18) _
  refine .s (.nonnullF a0_136) <| .s (.iconst (1 : Int32) a0_139 rfl) <| .s (.goto a0_140) <| .s (.istore (L' := [wI counts, wJ t1, wS, wJ t2, wS, wJ s1, wS, wJ s2, wS, wI 0, wI 2, wR 0, wR 1, wR 2, wI 1, wI 0, wI 1, wI 1]) a0_144 rfl) <| .s (.iload a0_146 rfl) <| .s (.ifF a0_148 (by decide)) <| .s (.iload a0_151 rfl) ?_
  refine .s (.iload a0_153 rfl) <| .s (.ifF a0_155 (by decide)) <| .s (.iconst (1 : Int32) a0_158 rfl) <| .s (.goto a0_159) <| .s (.icmpF a0_163 (by decide)) <| .s (.iload a0_166 rfl) <| .s (.iload a0_168 rfl) ?_
  refine .s (.icmpF a0_170 (by decide)) <| .s (.iconst (1 : Int32) a0_173 rfl) <| .s (.goto a0_174) ?_
  refine .ireturn .boolean a0_178 rfl (by simp) ?_
  exact ⟨rfl, Nat.le_of_ble_eq_true rfl, Nat.le_of_ble_eq_true rfl⟩
set_option maxHeartbeats 4000000 in
theorem au8_11 {Z : State} {a0 : Array Value} (hw : ∀ d ∈ tables_1, d.before a0 Z = true) (ρ : Nat → Nat) (n0 : Nat) (t1 : Int64) (t2 : Int64) (s1 : Int64) (s2 : Int64) (u : Nat) : WGo (g8 Z ρ n0 4 u) (0, [wR 2, wR 0, wU, wU], [], [(.inr (cn0, [(fk0, (.long t1)), (fk1, .null), (fk2, .null), (fk3, (.long s1))])), (.inr (cn0, [(fk0, (.long t2)), (fk1, .null), (fk2, .null), (fk3, (.long s2))])), (.inr (cn1, [(fk4, .ref 3), (fk5, .int 0)])), (.inl ((.object "com/example/chronogate/chronogate/Event"), [.null, .null, .null, .null, .null, .null, .null, .null]))], u) (fun v σ' u' => v = none ∧ [(.inr (cn0, [(fk0, (.long t1)), (fk1, .null), (fk2, .null), (fk3, (.long s1))])), (.inr (cn0, [(fk0, (.long t2)), (fk1, .null), (fk2, .null), (fk3, (.long s2))])), (.inr (cn1, [(fk4, .ref 3), (fk5, .int 1)])), (.inl ((.object "com/example/chronogate/chronogate/Event"), [.ref 0, .null, .null, .null, .null, .null, .null, .null]))] = σ' ∧ u = u') := by
  refine .s (.aloadN a8_0 rfl rfl) <| .s (.getF 1 a8_1 (wd hw 37 rfl) rfl rfl) <| .s (.aloadN a8_4 rfl rfl) <| .s (.getF 0 a8_5 (wd hw 30 rfl) rfl rfl) <| .s (.alen (8 : Int32) a8_8 rfl rfl) <| .s (.icmpT a8_9 (by decide)) <| .s (.aloadN a8_32 rfl rfl) ?_
  refine .s (.dup a8_33 rfl) <| .s (.getF 1 a8_34 (wd hw 37 rfl) rfl rfl) <| .s (.dupX1 a8_37 rfl rfl) <| .s (.iconst (1 : Int32) a8_38 rfl) <| .s (.iadd a8_39) ?_
  show WGo _ (40, [wR 2, wR 0, wU, wU], [.int 1, .ref 2, .int 0], [(.inr (cn0, [(fk0, (.long t1)), (fk1, .null), (fk2, .null), (fk3, (.long s1))])), (.inr (cn0, [(fk0, (.long t2)), (fk1, .null), (fk2, .null), (fk3, (.long s2))])), (.inr (cn1, [(fk4, .ref 3), (fk5, .int 0)])), (.inl ((.object "com/example/chronogate/chronogate/Event"), [.null, .null, .null, .null, .null, .null, .null, .null]))], u) _
  refine .s (.putF (ty := .int) 1 (.int 1) a8_40 (wd hw 37 rfl) rfl rfl (Or.inl (wd hw 38 rfl)) (wd hw 19 rfl) (by decide) rfl rfl) ?_
  show WGo _ (43, [wR 2, wR 0, wU, wU], [.int 0], [(.inr (cn0, [(fk0, (.long t1)), (fk1, .null), (fk2, .null), (fk3, (.long s1))])), (.inr (cn0, [(fk0, (.long t2)), (fk1, .null), (fk2, .null), (fk3, (.long s2))])), (.inr (cn1, [(fk4, .ref 3), (fk5, .int 1)])), (.inl ((.object "com/example/chronogate/chronogate/Event"), [.null, .null, .null, .null, .null, .null, .null, .null]))], u) _
  refine .s (.istoreN (L' := [wR 2, wR 0, wI 0, wU]) a8_43 rfl) <| .s (.iloadN a8_44 rfl) <| .s (.ifT a8_45 (by decide)) <| .s (.aloadN a8_87 rfl rfl) <| .s (.getF 0 a8_88 (wd hw 30 rfl) rfl rfl) <| .s (.iloadN a8_91 rfl) <| .s (.aloadN a8_92 rfl rfl) ?_
  refine .s (.aastore 0 a8_93 rfl rfl (by decide) rfl (Nat.le_of_ble_eq_true rfl)) ?_
  show WGo _ (94, [wR 2, wR 0, wI 0, wU], [], [(.inr (cn0, [(fk0, (.long t1)), (fk1, .null), (fk2, .null), (fk3, (.long s1))])), (.inr (cn0, [(fk0, (.long t2)), (fk1, .null), (fk2, .null), (fk3, (.long s2))])), (.inr (cn1, [(fk4, .ref 3), (fk5, .int 1)])), (.inl ((.object "com/example/chronogate/chronogate/Event"), [.ref 0, .null, .null, .null, .null, .null, .null, .null]))], u) _
  refine .vreturn a8_94 rfl ?_
  exact ⟨rfl, rfl, rfl⟩
set_option maxHeartbeats 4000000 in
theorem au6_12 {Z : State} {a0 : Array Value} (hw : ∀ d ∈ tables_1, d.before a0 Z = true) (ρ : Nat → Nat) (n0 : Nat) (t1 : Int64) (t2 : Int64) (s1 : Int64) (s2 : Int64) (u : Nat) : WGo (g6 Z ρ n0 4 u) (0, [wI 0, wI 1], [], [(.inr (cn0, [(fk0, (.long t1)), (fk1, .null), (fk2, .null), (fk3, (.long s1))])), (.inr (cn0, [(fk0, (.long t2)), (fk1, .null), (fk2, .null), (fk3, (.long s2))])), (.inr (cn1, [(fk4, .ref 3), (fk5, .int 1)])), (.inl ((.object "com/example/chronogate/chronogate/Event"), [.ref 0, .null, .null, .null, .null, .null, .null, .null]))], u) (fun v σ' u' => v = some (.int 1) ∧ [(.inr (cn0, [(fk0, (.long t1)), (fk1, .null), (fk2, .null), (fk3, (.long s1))])), (.inr (cn0, [(fk0, (.long t2)), (fk1, .null), (fk2, .null), (fk3, (.long s2))])), (.inr (cn1, [(fk4, .ref 3), (fk5, .int 1)])), (.inl ((.object "com/example/chronogate/chronogate/Event"), [.ref 0, .null, .null, .null, .null, .null, .null, .null]))] = σ' ∧ u = u') := by
  refine .s (.iloadN a6_0 rfl) <| .s (.iloadN a6_1 rfl) <| .s (.icmpT a6_2 (by decide)) <| .s (.iloadN a6_9 rfl) ?_
  refine .ireturn .int a6_10 rfl (by simp) ?_
  exact ⟨rfl, rfl, rfl⟩
set_option maxHeartbeats 4000000 in
theorem au5_13 {Z : State} {a0 : Array Value} (hw : ∀ d ∈ tables_1, d.before a0 Z = true) (ρ : Nat → Nat) (n0 : Nat) (t1 : Int64) (t2 : Int64) (s1 : Int64) (s2 : Int64) (u : Nat) : WGo (g5 Z ρ n0 4 u) (0, [wR 2], [], [(.inr (cn0, [(fk0, (.long t1)), (fk1, .null), (fk2, .null), (fk3, (.long s1))])), (.inr (cn0, [(fk0, (.long t2)), (fk1, .null), (fk2, .null), (fk3, (.long s2))])), (.inr (cn1, [(fk4, .ref 3), (fk5, .int 1)])), (.inl ((.object "com/example/chronogate/chronogate/Event"), [.ref 0, .null, .null, .null, .null, .null, .null, .null]))], u) (fun v σ' u' => v = some (.int 0) ∧ [(.inr (cn0, [(fk0, (.long t1)), (fk1, .null), (fk2, .null), (fk3, (.long s1))])), (.inr (cn0, [(fk0, (.long t2)), (fk1, .null), (fk2, .null), (fk3, (.long s2))])), (.inr (cn1, [(fk4, .ref 3), (fk5, .int 1)])), (.inl ((.object "com/example/chronogate/chronogate/Event"), [.ref 0, .null, .null, .null, .null, .null, .null, .null]))] = σ' ∧ u = u') := by
  refine .s (.aloadN a5_0 rfl rfl) <| .s (.getF 1 a5_1 (wd hw 37 rfl) rfl rfl) <| .s (.ifT a5_4 (by decide)) <| .s (.iconst (0 : Int32) a5_11 rfl) ?_
  refine .ireturn .boolean a5_12 rfl (by simp) ?_
  exact ⟨rfl, rfl, rfl⟩
set_option maxHeartbeats 4000000 in
theorem au7_14 {Z : State} {a0 : Array Value} (hw : ∀ d ∈ tables_1, d.before a0 Z = true) (ρ : Nat → Nat) (n0 : Nat) (t1 : Int64) (t2 : Int64) (s1 : Int64) (s2 : Int64) (u : Nat) : WGo (g7 Z ρ n0 4 u) (0, [wR 2], [], [(.inr (cn0, [(fk0, (.long t1)), (fk1, .null), (fk2, .null), (fk3, (.long s1))])), (.inr (cn0, [(fk0, (.long t2)), (fk1, .null), (fk2, .null), (fk3, (.long s2))])), (.inr (cn1, [(fk4, .ref 3), (fk5, .int 1)])), (.inl ((.object "com/example/chronogate/chronogate/Event"), [.ref 0, .null, .null, .null, .null, .null, .null, .null]))], u) (fun v σ' u' => v = some (.ref 0) ∧ [(.inr (cn0, [(fk0, (.long t1)), (fk1, .null), (fk2, .null), (fk3, (.long s1))])), (.inr (cn0, [(fk0, (.long t2)), (fk1, .null), (fk2, .null), (fk3, (.long s2))])), (.inr (cn1, [(fk4, .ref 3), (fk5, .int 1)])), (.inl ((.object "com/example/chronogate/chronogate/Event"), [.ref 0, .null, .null, .null, .null, .null, .null, .null]))] = σ' ∧ u = u') := by
  refine .s (.aloadN a7_0 rfl rfl) <| .s (.getF 1 a7_1 (wd hw 37 rfl) rfl rfl) <| .s (.ifT a7_4 (by decide)) <| .s (.aloadN a7_11 rfl rfl) <| .s (.getF 0 a7_12 (wd hw 30 rfl) rfl rfl) <| .s (.iconst (0 : Int32) a7_15 rfl) <| .s (.aaload 0 a7_16 rfl rfl (by decide) rfl rfl) ?_
  refine .areturn (.object "com/example/chronogate/chronogate/Event") a7_17 rfl rfl rfl ?_
  exact ⟨rfl, rfl, rfl⟩
set_option maxHeartbeats 40000000 in
theorem seg10 (Z : State) (a0 : Array Value) (hw : ∀ d ∈ tables_1, d.before a0 Z = true) (n0 : Nat) (counts : Int32) (t1 t2 s1 s2 : Int64) : WGo (g0 Z (fun k => n0 + k) n0 0 0) (19, [wI counts, wJ t1, wS, wJ t2, wS, wJ s1, wS, wJ s2, wS, wI 1, wI 0, wU, wU, wU, wU, wU, wU, wU], [], [], 0) (fun v σ' u' => v = some (.int 1) ∧ σ'.length ≤ 16 ∧ u' ≤ 128) := by
  refine .s (.newO (k := 0) [(fk0, .long 0), (fk1, .null), (fk2, .null), (fk3, .long 0)] a0_19 (wd hw 1 rfl) (wd hw 2 rfl) (wd hw 3 rfl) ⟨⟨Or.inr (wd hw 11 rfl), .long, by decide, rfl⟩, ⟨Or.inr (wd hw 13 rfl), (.object "java/util/List"), by decide, rfl⟩, ⟨Or.inr (wd hw 15 rfl), (.object "java/lang/Object"), by decide, rfl⟩, ⟨Or.inr (wd hw 17 rfl), .long, by decide, rfl⟩, trivial⟩ (by decide) rfl (by decide)) ?_
  show WGo _ (22, [wI counts, wJ t1, wS, wJ t2, wS, wJ s1, wS, wJ s2, wS, wI 1, wI 0, wU, wU, wU, wU, wU, wU, wU], [.ref 0], [(.inr (cn0, [(fk0, .long 0), (fk1, .null), (fk2, .null), (fk3, .long 0)]))], 4) _
  refine .s (.dup a0_22 rfl) <| .s (.lloadN a0_23 rfl) <| .s (.aconstNull a0_24) <| .s (.aconstNull a0_25) <| .s (.lload a0_26 rfl) ?_
  refine .callI (k := 0) a0_28 (ok1 hw _ _ _ _) rfl rfl (wd hw 4 rfl) (wd hw 5 rfl) (by decide) (argsL := [(.long t1), .null, .null, (.long s1)]) (S := [.ref 0]) (au1_1 hw _ _ t1 s1 _) rfl rfl rfl rfl rfl rfl (Nat.le_of_ble_eq_true rfl) (Nat.le_of_ble_eq_true rfl) ?_
  rintro _ _ _ ⟨rfl, rfl, rfl⟩
  show WGo _ (31, [wI counts, wJ t1, wS, wJ t2, wS, wJ s1, wS, wJ s2, wS, wI 1, wI 0, wU, wU, wU, wU, wU, wU, wU], [.ref 0], [(.inr (cn0, [(fk0, (.long t1)), (fk1, .null), (fk2, .null), (fk3, (.long s1))]))], 4) _
  refine .s (.astore (L' := [wI counts, wJ t1, wS, wJ t2, wS, wJ s1, wS, wJ s2, wS, wI 1, wI 0, wR 0, wU, wU, wU, wU, wU, wU]) a0_31 rfl rfl) <| .s (.newO (k := 1) [(fk0, .long 0), (fk1, .null), (fk2, .null), (fk3, .long 0)] a0_33 (wd hw 1 rfl) (wd hw 2 rfl) (wd hw 3 rfl) ⟨⟨Or.inr (wd hw 11 rfl), .long, by decide, rfl⟩, ⟨Or.inr (wd hw 13 rfl), (.object "java/util/List"), by decide, rfl⟩, ⟨Or.inr (wd hw 15 rfl), (.object "java/lang/Object"), by decide, rfl⟩, ⟨Or.inr (wd hw 17 rfl), .long, by decide, rfl⟩, trivial⟩ (by decide) rfl (by decide)) ?_
  show WGo _ (36, [wI counts, wJ t1, wS, wJ t2, wS, wJ s1, wS, wJ s2, wS, wI 1, wI 0, wR 0, wU, wU, wU, wU, wU, wU], [.ref 1], [(.inr (cn0, [(fk0, (.long t1)), (fk1, .null), (fk2, .null), (fk3, (.long s1))])), (.inr (cn0, [(fk0, .long 0), (fk1, .null), (fk2, .null), (fk3, .long 0)]))], 8) _
  refine .s (.dup a0_36 rfl) <| .s (.lloadN a0_37 rfl) <| .s (.aconstNull a0_38) <| .s (.aconstNull a0_39) <| .s (.lload a0_40 rfl) ?_
  refine .callI (k := 1) a0_42 (ok1 hw _ _ _ _) rfl rfl (wd hw 4 rfl) (wd hw 5 rfl) (by decide) (argsL := [(.long t2), .null, .null, (.long s2)]) (S := [.ref 1]) (au1_2 hw _ _ t1 t2 s1 s2 _) rfl rfl rfl rfl rfl rfl (Nat.le_of_ble_eq_true rfl) (Nat.le_of_ble_eq_true rfl) ?_
  rintro _ _ _ ⟨rfl, rfl, rfl⟩
  show WGo _ (45, [wI counts, wJ t1, wS, wJ t2, wS, wJ s1, wS, wJ s2, wS, wI 1, wI 0, wR 0, wU, wU, wU, wU, wU, wU], [.ref 1], [(.inr (cn0, [(fk0, (.long t1)), (fk1, .null), (fk2, .null), (fk3, (.long s1))])), (.inr (cn0, [(fk0, (.long t2)), (fk1, .null), (fk2, .null), (fk3, (.long s2))]))], 8) _
  refine .s (.astore (L' := [wI counts, wJ t1, wS, wJ t2, wS, wJ s1, wS, wJ s2, wS, wI 1, wI 0, wR 0, wR 1, wU, wU, wU, wU, wU]) a0_45 rfl rfl) <| .s (.newO (k := 2) [(fk4, .null), (fk5, .int 0)] a0_47 (wd hw 18 rfl) (wd hw 19 rfl) (wd hw 20 rfl) ⟨⟨Or.inl (wd hw 31 rfl), (.array (.object "com/example/chronogate/chronogate/Event")), by decide, rfl⟩, ⟨Or.inl (wd hw 38 rfl), .int, by decide, rfl⟩, trivial⟩ (by decide) rfl (by decide)) ?_
  show WGo _ (50, [wI counts, wJ t1, wS, wJ t2, wS, wJ s1, wS, wJ s2, wS, wI 1, wI 0, wR 0, wR 1, wU, wU, wU, wU, wU], [.ref 2], [(.inr (cn0, [(fk0, (.long t1)), (fk1, .null), (fk2, .null), (fk3, (.long s1))])), (.inr (cn0, [(fk0, (.long t2)), (fk1, .null), (fk2, .null), (fk3, (.long s2))])), (.inr (cn1, [(fk4, .null), (fk5, .int 0)]))], 10) _
  refine .s (.dup a0_50 rfl) ?_
  refine .callI (k := 2) a0_51 (ok3 hw _ _ _ _) rfl rfl (wd hw 21 rfl) (wd hw 22 rfl) (by decide) (argsL := []) (S := [.ref 2]) (au3_3 hw _ _ t1 t2 s1 s2 _) rfl rfl rfl rfl rfl rfl (Nat.le_of_ble_eq_true rfl) (Nat.le_of_ble_eq_true rfl) ?_
  rintro _ _ _ ⟨rfl, rfl, rfl⟩
  show WGo _ (54, [wI counts, wJ t1, wS, wJ t2, wS, wJ s1, wS, wJ s2, wS, wI 1, wI 0, wR 0, wR 1, wU, wU, wU, wU, wU], [.ref 2], [(.inr (cn0, [(fk0, (.long t1)), (fk1, .null), (fk2, .null), (fk3, (.long s1))])), (.inr (cn0, [(fk0, (.long t2)), (fk1, .null), (fk2, .null), (fk3, (.long s2))])), (.inr (cn1, [(fk4, .ref 3), (fk5, .int 0)])), (.inl ((.object "com/example/chronogate/chronogate/Event"), [.null, .null, .null, .null, .null, .null, .null, .null]))], 18) _
  refine .s (.astore (L' := [wI counts, wJ t1, wS, wJ t2, wS, wJ s1, wS, wJ s2, wS, wI 1, wI 0, wR 0, wR 1, wR 2, wU, wU, wU, wU]) a0_54 rfl rfl) <| .s (.aload a0_56 rfl rfl) ?_
  refine .callV (k := 2) (z := (⟨"com/example/chronogate/chronogate/ReleaseQueue", "isEmpty", "()Z"⟩ : MethodName)) a0_58 (ok5 hw _ _ _ _) ⟨rfl, by decide⟩ (wd hw 32 rfl) (wd hw 33 rfl) (fun s hZ => notFace_of_selects (args := #[]) (mvT hZ (wd hw 35 rfl))) (wd hw 35 rfl) (wd hw 34 rfl) rfl (argsL := []) (S := []) (au5_5 hw _ _ t1 t2 s1 s2 _) rfl rfl rfl rfl rfl rfl (Nat.le_of_ble_eq_true rfl) (Nat.le_of_ble_eq_true rfl) ?_
  rintro _ _ _ ⟨rfl, rfl, rfl⟩
  show WGo _ (61, [wI counts, wJ t1, wS, wJ t2, wS, wJ s1, wS, wJ s2, wS, wI 1, wI 0, wR 0, wR 1, wR 2, wU, wU, wU, wU], [.int 1], [(.inr (cn0, [(fk0, (.long t1)), (fk1, .null), (fk2, .null), (fk3, (.long s1))])), (.inr (cn0, [(fk0, (.long t2)), (fk1, .null), (fk2, .null), (fk3, (.long s2))])), (.inr (cn1, [(fk4, .ref 3), (fk5, .int 0)])), (.inl ((.object "com/example/chronogate/chronogate/Event"), [.null, .null, .null, .null, .null, .null, .null, .null]))], 18) _
  refine .s (.istore (L' := [wI counts, wJ t1, wS, wJ t2, wS, wJ s1, wS, wJ s2, wS, wI 1, wI 0, wR 0, wR 1, wR 2, wI 1, wU, wU, wU]) a0_61 rfl) <| .s (.iload a0_63 rfl) <| .s (.iconst (1 : Int32) a0_65 rfl) <| .s (.icmpF a0_66 (by decide)) <| .s (.aload a0_69 rfl rfl) <| .s (.aload a0_71 rfl rfl) ?_
  refine .callV (k := 2) (z := (⟨"com/example/chronogate/chronogate/ReleaseQueue", "add", "(Lcom/example/chronogate/chronogate/Event;)V"⟩ : MethodName)) a0_73 (ok8 hw _ _ _ _) ⟨rfl, by decide⟩ (wd hw 48 rfl) (wd hw 49 rfl) (fun s hZ => notFace_of_selects (args := #[]) (mvT hZ (wd hw 51 rfl))) (wd hw 51 rfl) (wd hw 50 rfl) rfl (argsL := [.ref 0]) (S := []) (au8_11 hw _ _ t1 t2 s1 s2 _) rfl rfl rfl rfl rfl rfl (Nat.le_of_ble_eq_true rfl) (Nat.le_of_ble_eq_true rfl) ?_
  rintro _ _ _ ⟨rfl, rfl, rfl⟩
  show WGo _ (76, [wI counts, wJ t1, wS, wJ t2, wS, wJ s1, wS, wJ s2, wS, wI 1, wI 0, wR 0, wR 1, wR 2, wI 1, wU, wU, wU], [], [(.inr (cn0, [(fk0, (.long t1)), (fk1, .null), (fk2, .null), (fk3, (.long s1))])), (.inr (cn0, [(fk0, (.long t2)), (fk1, .null), (fk2, .null), (fk3, (.long s2))])), (.inr (cn1, [(fk4, .ref 3), (fk5, .int 1)])), (.inl ((.object "com/example/chronogate/chronogate/Event"), [.ref 0, .null, .null, .null, .null, .null, .null, .null]))], 18) _
  refine .s (.iload a0_76 rfl) <| .s (.iconst (2 : Int32) a0_78 rfl) <| .s (.icmpT a0_79 (by decide)) <| .s (.iload a0_89 rfl) <| .s (.iconst (1 : Int32) a0_91 rfl) <| .s (.icmpT a0_92 (by decide)) <| .s (.iload a0_101 rfl) ?_
  refine .s (.iconst (2 : Int32) a0_103 rfl) <| .s (.icmpT a0_104 (by decide)) <| .s (.iconst (0 : Int32) a0_113 rfl) <| .s (.iload a0_114 rfl) <| .s (.iload a0_116 rfl) <| .s (.isub a0_118) ?_
  show WGo _ (119, [wI counts, wJ t1, wS, wJ t2, wS, wJ s1, wS, wJ s2, wS, wI 1, wI 0, wR 0, wR 1, wR 2, wI 1, wU, wU, wU], [.int 1, .int 0], [(.inr (cn0, [(fk0, (.long t1)), (fk1, .null), (fk2, .null), (fk3, (.long s1))])), (.inr (cn0, [(fk0, (.long t2)), (fk1, .null), (fk2, .null), (fk3, (.long s2))])), (.inr (cn1, [(fk4, .ref 3), (fk5, .int 1)])), (.inl ((.object "com/example/chronogate/chronogate/Event"), [.ref 0, .null, .null, .null, .null, .null, .null, .null]))], 18) _
  refine .callS a0_119 (ok6 hw _ _ _ _) (wd hw 39 rfl) (wd hw 40 rfl) (argsL := [.int 0, .int 1]) (S := []) (au6_12 hw _ _ t1 t2 s1 s2 _) rfl rfl rfl rfl rfl rfl (Nat.le_of_ble_eq_true rfl) (Nat.le_of_ble_eq_true rfl) ?_
  rintro _ _ _ ⟨rfl, rfl, rfl⟩
  show WGo _ (122, [wI counts, wJ t1, wS, wJ t2, wS, wJ s1, wS, wJ s2, wS, wI 1, wI 0, wR 0, wR 1, wR 2, wI 1, wU, wU, wU], [.int 1], [(.inr (cn0, [(fk0, (.long t1)), (fk1, .null), (fk2, .null), (fk3, (.long s1))])), (.inr (cn0, [(fk0, (.long t2)), (fk1, .null), (fk2, .null), (fk3, (.long s2))])), (.inr (cn1, [(fk4, .ref 3), (fk5, .int 1)])), (.inl ((.object "com/example/chronogate/chronogate/Event"), [.ref 0, .null, .null, .null, .null, .null, .null, .null]))], 18) _
  refine .s (.istore (L' := [wI counts, wJ t1, wS, wJ t2, wS, wJ s1, wS, wJ s2, wS, wI 1, wI 0, wR 0, wR 1, wR 2, wI 1, wI 1, wU, wU]) a0_122 rfl) <| .s (.aload a0_124 rfl rfl) ?_
  refine .callV (k := 2) (z := (⟨"com/example/chronogate/chronogate/ReleaseQueue", "isEmpty", "()Z"⟩ : MethodName)) a0_126 (ok5 hw _ _ _ _) ⟨rfl, by decide⟩ (wd hw 32 rfl) (wd hw 33 rfl) (fun s hZ => notFace_of_selects (args := #[]) (mvT hZ (wd hw 35 rfl))) (wd hw 35 rfl) (wd hw 34 rfl) rfl (argsL := []) (S := []) (au5_13 hw _ _ t1 t2 s1 s2 _) rfl rfl rfl rfl rfl rfl (Nat.le_of_ble_eq_true rfl) (Nat.le_of_ble_eq_true rfl) ?_
  rintro _ _ _ ⟨rfl, rfl, rfl⟩
  show WGo _ (129, [wI counts, wJ t1, wS, wJ t2, wS, wJ s1, wS, wJ s2, wS, wI 1, wI 0, wR 0, wR 1, wR 2, wI 1, wI 1, wU, wU], [.int 0], [(.inr (cn0, [(fk0, (.long t1)), (fk1, .null), (fk2, .null), (fk3, (.long s1))])), (.inr (cn0, [(fk0, (.long t2)), (fk1, .null), (fk2, .null), (fk3, (.long s2))])), (.inr (cn1, [(fk4, .ref 3), (fk5, .int 1)])), (.inl ((.object "com/example/chronogate/chronogate/Event"), [.ref 0, .null, .null, .null, .null, .null, .null, .null]))], 18) _
  refine .s (.istore (L' := [wI counts, wJ t1, wS, wJ t2, wS, wJ s1, wS, wJ s2, wS, wI 1, wI 0, wR 0, wR 1, wR 2, wI 1, wI 1, wI 0, wU]) a0_129 rfl) <| .s (.aload a0_131 rfl rfl) ?_
  refine .callV (k := 2) (z := (⟨"com/example/chronogate/chronogate/ReleaseQueue", "peek", "()Lcom/example/chronogate/chronogate/Event;"⟩ : MethodName)) a0_133 (ok7 hw _ _ _ _) ⟨rfl, by decide⟩ (wd hw 43 rfl) (wd hw 44 rfl) (fun s hZ => notFace_of_selects (args := #[]) (mvT hZ (wd hw 46 rfl))) (wd hw 46 rfl) (wd hw 45 rfl) rfl (argsL := []) (S := []) (au7_14 hw _ _ t1 t2 s1 s2 _) rfl rfl rfl rfl rfl rfl (Nat.le_of_ble_eq_true rfl) (Nat.le_of_ble_eq_true rfl) ?_
  rintro _ _ _ ⟨rfl, rfl, rfl⟩
  show WGo _ (136, [wI counts, wJ t1, wS, wJ t2, wS, wJ s1, wS, wJ s2, wS, wI 1, wI 0, wR 0, wR 1, wR 2, wI 1, wI 1, wI 0, wU], [.ref 0], [(.inr (cn0, [(fk0, (.long t1)), (fk1, .null), (fk2, .null), (fk3, (.long s1))])), (.inr (cn0, [(fk0, (.long t2)), (fk1, .null), (fk2, .null), (fk3, (.long s2))])), (.inr (cn1, [(fk4, .ref 3), (fk5, .int 1)])), (.inl ((.object "com/example/chronogate/chronogate/Event"), [.ref 0, .null, .null, .null, .null, .null, .null, .null]))], 18) _
  refine .s (.nonnullT a0_136) <| .s (.iconst (0 : Int32) a0_143 rfl) <| .s (.istore (L' := [wI counts, wJ t1, wS, wJ t2, wS, wJ s1, wS, wJ s2, wS, wI 1, wI 0, wR 0, wR 1, wR 2, wI 1, wI 1, wI 0, wI 0]) a0_144 rfl) <| .s (.iload a0_146 rfl) <| .s (.ifF a0_148 (by decide)) <| .s (.iload a0_151 rfl) <| .s (.iload a0_153 rfl) ?_
  refine .s (.ifT a0_155 (by decide)) <| .s (.iconst (0 : Int32) a0_162 rfl) <| .s (.icmpF a0_163 (by decide)) <| .s (.iload a0_166 rfl) <| .s (.iload a0_168 rfl) <| .s (.icmpF a0_170 (by decide)) <| .s (.iconst (1 : Int32) a0_173 rfl) ?_
  refine .s (.goto a0_174) ?_
  refine .ireturn .boolean a0_178 rfl (by simp) ?_
  exact ⟨rfl, Nat.le_of_ble_eq_true rfl, Nat.le_of_ble_eq_true rfl⟩
set_option maxHeartbeats 4000000 in
theorem au11_15 {Z : State} {a0 : Array Value} (hw : ∀ d ∈ tables_1, d.before a0 Z = true) (ρ : Nat → Nat) (n0 : Nat) (t1 : Int64) (t2 : Int64) (s1 : Int64) (s2 : Int64) (u : Nat) : WGo (g11 Z ρ n0 4 u) (0, [wR 2, wU, wU, wU, wU], [], [(.inr (cn0, [(fk0, (.long t1)), (fk1, .null), (fk2, .null), (fk3, (.long s1))])), (.inr (cn0, [(fk0, (.long t2)), (fk1, .null), (fk2, .null), (fk3, (.long s2))])), (.inr (cn1, [(fk4, .ref 3), (fk5, .int 1)])), (.inl ((.object "com/example/chronogate/chronogate/Event"), [.ref 0, .null, .null, .null, .null, .null, .null, .null]))], u) (fun v σ' u' => v = some (.ref 0) ∧ [(.inr (cn0, [(fk0, (.long t1)), (fk1, .null), (fk2, .null), (fk3, (.long s1))])), (.inr (cn0, [(fk0, (.long t2)), (fk1, .null), (fk2, .null), (fk3, (.long s2))])), (.inr (cn1, [(fk4, .ref 3), (fk5, .int 0)])), (.inl ((.object "com/example/chronogate/chronogate/Event"), [.null, .null, .null, .null, .null, .null, .null, .null]))] = σ' ∧ u = u') := by
  refine .s (.aloadN a11_0 rfl rfl) <| .s (.getF 1 a11_1 (wd hw 37 rfl) rfl rfl) <| .s (.ifT a11_4 (by decide)) <| .s (.aloadN a11_9 rfl rfl) <| .s (.getF 0 a11_10 (wd hw 30 rfl) rfl rfl) <| .s (.iconst (0 : Int32) a11_13 rfl) <| .s (.aaload 0 a11_14 rfl rfl (by decide) rfl rfl) ?_
  refine .s (.astoreN (L' := [wR 2, wR 0, wU, wU, wU]) a11_15 rfl rfl) <| .s (.aloadN a11_16 rfl rfl) <| .s (.dup a11_17 rfl) <| .s (.getF 1 a11_18 (wd hw 37 rfl) rfl rfl) <| .s (.iconst (1 : Int32) a11_21 rfl) <| .s (.isub a11_22) ?_
  show WGo _ (23, [wR 2, wR 0, wU, wU, wU], [.int 0, .ref 2], [(.inr (cn0, [(fk0, (.long t1)), (fk1, .null), (fk2, .null), (fk3, (.long s1))])), (.inr (cn0, [(fk0, (.long t2)), (fk1, .null), (fk2, .null), (fk3, (.long s2))])), (.inr (cn1, [(fk4, .ref 3), (fk5, .int 1)])), (.inl ((.object "com/example/chronogate/chronogate/Event"), [.ref 0, .null, .null, .null, .null, .null, .null, .null]))], u) _
  refine .s (.putF (ty := .int) 1 (.int 0) a11_23 (wd hw 37 rfl) rfl rfl (Or.inl (wd hw 38 rfl)) (wd hw 19 rfl) (by decide) rfl rfl) ?_
  show WGo _ (26, [wR 2, wR 0, wU, wU, wU], [], [(.inr (cn0, [(fk0, (.long t1)), (fk1, .null), (fk2, .null), (fk3, (.long s1))])), (.inr (cn0, [(fk0, (.long t2)), (fk1, .null), (fk2, .null), (fk3, (.long s2))])), (.inr (cn1, [(fk4, .ref 3), (fk5, .int 0)])), (.inl ((.object "com/example/chronogate/chronogate/Event"), [.ref 0, .null, .null, .null, .null, .null, .null, .null]))], u) _
  refine .s (.aloadN a11_26 rfl rfl) <| .s (.getF 0 a11_27 (wd hw 30 rfl) rfl rfl) <| .s (.aloadN a11_30 rfl rfl) <| .s (.getF 1 a11_31 (wd hw 37 rfl) rfl rfl) <| .s (.aaload 0 a11_34 rfl rfl (by decide) rfl rfl) <| .s (.astoreN (L' := [wR 2, wR 0, wR 0, wU, wU]) a11_35 rfl rfl) <| .s (.aloadN a11_36 rfl rfl) ?_
  refine .s (.getF 0 a11_37 (wd hw 30 rfl) rfl rfl) <| .s (.aloadN a11_40 rfl rfl) <| .s (.getF 1 a11_41 (wd hw 37 rfl) rfl rfl) <| .s (.aconstNull a11_44) <| .s (.aastoreN 0 a11_45 rfl rfl (by decide) rfl (Nat.le_of_ble_eq_true rfl)) ?_
  show WGo _ (46, [wR 2, wR 0, wR 0, wU, wU], [], [(.inr (cn0, [(fk0, (.long t1)), (fk1, .null), (fk2, .null), (fk3, (.long s1))])), (.inr (cn0, [(fk0, (.long t2)), (fk1, .null), (fk2, .null), (fk3, (.long s2))])), (.inr (cn1, [(fk4, .ref 3), (fk5, .int 0)])), (.inl ((.object "com/example/chronogate/chronogate/Event"), [.null, .null, .null, .null, .null, .null, .null, .null]))], u) _
  refine .s (.iconst (0 : Int32) a11_46 rfl) <| .s (.istoreN (L' := [wR 2, wR 0, wR 0, wI 0, wU]) a11_47 rfl) <| .s (.iconst (2 : Int32) a11_48 rfl) <| .s (.iloadN a11_49 rfl) <| .s (.imul a11_50) ?_
  show WGo _ (51, [wR 2, wR 0, wR 0, wI 0, wU], [.int 0], [(.inr (cn0, [(fk0, (.long t1)), (fk1, .null), (fk2, .null), (fk3, (.long s1))])), (.inr (cn0, [(fk0, (.long t2)), (fk1, .null), (fk2, .null), (fk3, (.long s2))])), (.inr (cn1, [(fk4, .ref 3), (fk5, .int 0)])), (.inl ((.object "com/example/chronogate/chronogate/Event"), [.null, .null, .null, .null, .null, .null, .null, .null]))], u) _
  refine .s (.iconst (1 : Int32) a11_51 rfl) <| .s (.iadd a11_52) ?_
  show WGo _ (53, [wR 2, wR 0, wR 0, wI 0, wU], [.int 1], [(.inr (cn0, [(fk0, (.long t1)), (fk1, .null), (fk2, .null), (fk3, (.long s1))])), (.inr (cn0, [(fk0, (.long t2)), (fk1, .null), (fk2, .null), (fk3, (.long s2))])), (.inr (cn1, [(fk4, .ref 3), (fk5, .int 0)])), (.inl ((.object "com/example/chronogate/chronogate/Event"), [.null, .null, .null, .null, .null, .null, .null, .null]))], u) _
  refine .s (.aloadN a11_53 rfl rfl) <| .s (.getF 1 a11_54 (wd hw 37 rfl) rfl rfl) <| .s (.icmpT a11_57 (by decide)) <| .s (.aloadN a11_139 rfl rfl) <| .s (.getF 1 a11_140 (wd hw 37 rfl) rfl rfl) <| .s (.ifT a11_143 (by decide)) <| .s (.aloadN a11_153 rfl rfl) ?_
  refine .areturn (.object "com/example/chronogate/chronogate/Event") a11_154 rfl rfl rfl ?_
  exact ⟨rfl, rfl, rfl⟩
set_option maxHeartbeats 40000000 in
theorem seg11 (Z : State) (a0 : Array Value) (hw : ∀ d ∈ tables_1, d.before a0 Z = true) (n0 : Nat) (counts : Int32) (t1 t2 s1 s2 : Int64) : WGo (g0 Z (fun k => n0 + k) n0 0 0) (19, [wI counts, wJ t1, wS, wJ t2, wS, wJ s1, wS, wJ s2, wS, wI 1, wI 1, wU, wU, wU, wU, wU, wU, wU], [], [], 0) (fun v σ' u' => v = some (.int 1) ∧ σ'.length ≤ 16 ∧ u' ≤ 128) := by
  refine .s (.newO (k := 0) [(fk0, .long 0), (fk1, .null), (fk2, .null), (fk3, .long 0)] a0_19 (wd hw 1 rfl) (wd hw 2 rfl) (wd hw 3 rfl) ⟨⟨Or.inr (wd hw 11 rfl), .long, by decide, rfl⟩, ⟨Or.inr (wd hw 13 rfl), (.object "java/util/List"), by decide, rfl⟩, ⟨Or.inr (wd hw 15 rfl), (.object "java/lang/Object"), by decide, rfl⟩, ⟨Or.inr (wd hw 17 rfl), .long, by decide, rfl⟩, trivial⟩ (by decide) rfl (by decide)) ?_
  show WGo _ (22, [wI counts, wJ t1, wS, wJ t2, wS, wJ s1, wS, wJ s2, wS, wI 1, wI 1, wU, wU, wU, wU, wU, wU, wU], [.ref 0], [(.inr (cn0, [(fk0, .long 0), (fk1, .null), (fk2, .null), (fk3, .long 0)]))], 4) _
  refine .s (.dup a0_22 rfl) <| .s (.lloadN a0_23 rfl) <| .s (.aconstNull a0_24) <| .s (.aconstNull a0_25) <| .s (.lload a0_26 rfl) ?_
  refine .callI (k := 0) a0_28 (ok1 hw _ _ _ _) rfl rfl (wd hw 4 rfl) (wd hw 5 rfl) (by decide) (argsL := [(.long t1), .null, .null, (.long s1)]) (S := [.ref 0]) (au1_1 hw _ _ t1 s1 _) rfl rfl rfl rfl rfl rfl (Nat.le_of_ble_eq_true rfl) (Nat.le_of_ble_eq_true rfl) ?_
  rintro _ _ _ ⟨rfl, rfl, rfl⟩
  show WGo _ (31, [wI counts, wJ t1, wS, wJ t2, wS, wJ s1, wS, wJ s2, wS, wI 1, wI 1, wU, wU, wU, wU, wU, wU, wU], [.ref 0], [(.inr (cn0, [(fk0, (.long t1)), (fk1, .null), (fk2, .null), (fk3, (.long s1))]))], 4) _
  refine .s (.astore (L' := [wI counts, wJ t1, wS, wJ t2, wS, wJ s1, wS, wJ s2, wS, wI 1, wI 1, wR 0, wU, wU, wU, wU, wU, wU]) a0_31 rfl rfl) <| .s (.newO (k := 1) [(fk0, .long 0), (fk1, .null), (fk2, .null), (fk3, .long 0)] a0_33 (wd hw 1 rfl) (wd hw 2 rfl) (wd hw 3 rfl) ⟨⟨Or.inr (wd hw 11 rfl), .long, by decide, rfl⟩, ⟨Or.inr (wd hw 13 rfl), (.object "java/util/List"), by decide, rfl⟩, ⟨Or.inr (wd hw 15 rfl), (.object "java/lang/Object"), by decide, rfl⟩, ⟨Or.inr (wd hw 17 rfl), .long, by decide, rfl⟩, trivial⟩ (by decide) rfl (by decide)) ?_
  show WGo _ (36, [wI counts, wJ t1, wS, wJ t2, wS, wJ s1, wS, wJ s2, wS, wI 1, wI 1, wR 0, wU, wU, wU, wU, wU, wU], [.ref 1], [(.inr (cn0, [(fk0, (.long t1)), (fk1, .null), (fk2, .null), (fk3, (.long s1))])), (.inr (cn0, [(fk0, .long 0), (fk1, .null), (fk2, .null), (fk3, .long 0)]))], 8) _
  refine .s (.dup a0_36 rfl) <| .s (.lloadN a0_37 rfl) <| .s (.aconstNull a0_38) <| .s (.aconstNull a0_39) <| .s (.lload a0_40 rfl) ?_
  refine .callI (k := 1) a0_42 (ok1 hw _ _ _ _) rfl rfl (wd hw 4 rfl) (wd hw 5 rfl) (by decide) (argsL := [(.long t2), .null, .null, (.long s2)]) (S := [.ref 1]) (au1_2 hw _ _ t1 t2 s1 s2 _) rfl rfl rfl rfl rfl rfl (Nat.le_of_ble_eq_true rfl) (Nat.le_of_ble_eq_true rfl) ?_
  rintro _ _ _ ⟨rfl, rfl, rfl⟩
  show WGo _ (45, [wI counts, wJ t1, wS, wJ t2, wS, wJ s1, wS, wJ s2, wS, wI 1, wI 1, wR 0, wU, wU, wU, wU, wU, wU], [.ref 1], [(.inr (cn0, [(fk0, (.long t1)), (fk1, .null), (fk2, .null), (fk3, (.long s1))])), (.inr (cn0, [(fk0, (.long t2)), (fk1, .null), (fk2, .null), (fk3, (.long s2))]))], 8) _
  refine .s (.astore (L' := [wI counts, wJ t1, wS, wJ t2, wS, wJ s1, wS, wJ s2, wS, wI 1, wI 1, wR 0, wR 1, wU, wU, wU, wU, wU]) a0_45 rfl rfl) <| .s (.newO (k := 2) [(fk4, .null), (fk5, .int 0)] a0_47 (wd hw 18 rfl) (wd hw 19 rfl) (wd hw 20 rfl) ⟨⟨Or.inl (wd hw 31 rfl), (.array (.object "com/example/chronogate/chronogate/Event")), by decide, rfl⟩, ⟨Or.inl (wd hw 38 rfl), .int, by decide, rfl⟩, trivial⟩ (by decide) rfl (by decide)) ?_
  show WGo _ (50, [wI counts, wJ t1, wS, wJ t2, wS, wJ s1, wS, wJ s2, wS, wI 1, wI 1, wR 0, wR 1, wU, wU, wU, wU, wU], [.ref 2], [(.inr (cn0, [(fk0, (.long t1)), (fk1, .null), (fk2, .null), (fk3, (.long s1))])), (.inr (cn0, [(fk0, (.long t2)), (fk1, .null), (fk2, .null), (fk3, (.long s2))])), (.inr (cn1, [(fk4, .null), (fk5, .int 0)]))], 10) _
  refine .s (.dup a0_50 rfl) ?_
  refine .callI (k := 2) a0_51 (ok3 hw _ _ _ _) rfl rfl (wd hw 21 rfl) (wd hw 22 rfl) (by decide) (argsL := []) (S := [.ref 2]) (au3_3 hw _ _ t1 t2 s1 s2 _) rfl rfl rfl rfl rfl rfl (Nat.le_of_ble_eq_true rfl) (Nat.le_of_ble_eq_true rfl) ?_
  rintro _ _ _ ⟨rfl, rfl, rfl⟩
  show WGo _ (54, [wI counts, wJ t1, wS, wJ t2, wS, wJ s1, wS, wJ s2, wS, wI 1, wI 1, wR 0, wR 1, wU, wU, wU, wU, wU], [.ref 2], [(.inr (cn0, [(fk0, (.long t1)), (fk1, .null), (fk2, .null), (fk3, (.long s1))])), (.inr (cn0, [(fk0, (.long t2)), (fk1, .null), (fk2, .null), (fk3, (.long s2))])), (.inr (cn1, [(fk4, .ref 3), (fk5, .int 0)])), (.inl ((.object "com/example/chronogate/chronogate/Event"), [.null, .null, .null, .null, .null, .null, .null, .null]))], 18) _
  refine .s (.astore (L' := [wI counts, wJ t1, wS, wJ t2, wS, wJ s1, wS, wJ s2, wS, wI 1, wI 1, wR 0, wR 1, wR 2, wU, wU, wU, wU]) a0_54 rfl rfl) <| .s (.aload a0_56 rfl rfl) ?_
  refine .callV (k := 2) (z := (⟨"com/example/chronogate/chronogate/ReleaseQueue", "isEmpty", "()Z"⟩ : MethodName)) a0_58 (ok5 hw _ _ _ _) ⟨rfl, by decide⟩ (wd hw 32 rfl) (wd hw 33 rfl) (fun s hZ => notFace_of_selects (args := #[]) (mvT hZ (wd hw 35 rfl))) (wd hw 35 rfl) (wd hw 34 rfl) rfl (argsL := []) (S := []) (au5_5 hw _ _ t1 t2 s1 s2 _) rfl rfl rfl rfl rfl rfl (Nat.le_of_ble_eq_true rfl) (Nat.le_of_ble_eq_true rfl) ?_
  rintro _ _ _ ⟨rfl, rfl, rfl⟩
  show WGo _ (61, [wI counts, wJ t1, wS, wJ t2, wS, wJ s1, wS, wJ s2, wS, wI 1, wI 1, wR 0, wR 1, wR 2, wU, wU, wU, wU], [.int 1], [(.inr (cn0, [(fk0, (.long t1)), (fk1, .null), (fk2, .null), (fk3, (.long s1))])), (.inr (cn0, [(fk0, (.long t2)), (fk1, .null), (fk2, .null), (fk3, (.long s2))])), (.inr (cn1, [(fk4, .ref 3), (fk5, .int 0)])), (.inl ((.object "com/example/chronogate/chronogate/Event"), [.null, .null, .null, .null, .null, .null, .null, .null]))], 18) _
  refine .s (.istore (L' := [wI counts, wJ t1, wS, wJ t2, wS, wJ s1, wS, wJ s2, wS, wI 1, wI 1, wR 0, wR 1, wR 2, wI 1, wU, wU, wU]) a0_61 rfl) <| .s (.iload a0_63 rfl) <| .s (.iconst (1 : Int32) a0_65 rfl) <| .s (.icmpF a0_66 (by decide)) <| .s (.aload a0_69 rfl rfl) <| .s (.aload a0_71 rfl rfl) ?_
  refine .callV (k := 2) (z := (⟨"com/example/chronogate/chronogate/ReleaseQueue", "add", "(Lcom/example/chronogate/chronogate/Event;)V"⟩ : MethodName)) a0_73 (ok8 hw _ _ _ _) ⟨rfl, by decide⟩ (wd hw 48 rfl) (wd hw 49 rfl) (fun s hZ => notFace_of_selects (args := #[]) (mvT hZ (wd hw 51 rfl))) (wd hw 51 rfl) (wd hw 50 rfl) rfl (argsL := [.ref 0]) (S := []) (au8_11 hw _ _ t1 t2 s1 s2 _) rfl rfl rfl rfl rfl rfl (Nat.le_of_ble_eq_true rfl) (Nat.le_of_ble_eq_true rfl) ?_
  rintro _ _ _ ⟨rfl, rfl, rfl⟩
  show WGo _ (76, [wI counts, wJ t1, wS, wJ t2, wS, wJ s1, wS, wJ s2, wS, wI 1, wI 1, wR 0, wR 1, wR 2, wI 1, wU, wU, wU], [], [(.inr (cn0, [(fk0, (.long t1)), (fk1, .null), (fk2, .null), (fk3, (.long s1))])), (.inr (cn0, [(fk0, (.long t2)), (fk1, .null), (fk2, .null), (fk3, (.long s2))])), (.inr (cn1, [(fk4, .ref 3), (fk5, .int 1)])), (.inl ((.object "com/example/chronogate/chronogate/Event"), [.ref 0, .null, .null, .null, .null, .null, .null, .null]))], 18) _
  refine .s (.iload a0_76 rfl) <| .s (.iconst (2 : Int32) a0_78 rfl) <| .s (.icmpT a0_79 (by decide)) <| .s (.iload a0_89 rfl) <| .s (.iconst (1 : Int32) a0_91 rfl) <| .s (.icmpF a0_92 (by decide)) <| .s (.aload a0_95 rfl rfl) ?_
  refine .callV (k := 2) (z := (⟨"com/example/chronogate/chronogate/ReleaseQueue", "poll", "()Lcom/example/chronogate/chronogate/Event;"⟩ : MethodName)) a0_97 (ok11 hw _ _ _ _) ⟨rfl, by decide⟩ (wd hw 61 rfl) (wd hw 62 rfl) (fun s hZ => notFace_of_selects (args := #[]) (mvT hZ (wd hw 64 rfl))) (wd hw 64 rfl) (wd hw 63 rfl) rfl (argsL := []) (S := []) (au11_15 hw _ _ t1 t2 s1 s2 _) rfl rfl rfl rfl rfl rfl (Nat.le_of_ble_eq_true rfl) (Nat.le_of_ble_eq_true rfl) ?_
  rintro _ _ _ ⟨rfl, rfl, rfl⟩
  show WGo _ (100, [wI counts, wJ t1, wS, wJ t2, wS, wJ s1, wS, wJ s2, wS, wI 1, wI 1, wR 0, wR 1, wR 2, wI 1, wU, wU, wU], [.ref 0], [(.inr (cn0, [(fk0, (.long t1)), (fk1, .null), (fk2, .null), (fk3, (.long s1))])), (.inr (cn0, [(fk0, (.long t2)), (fk1, .null), (fk2, .null), (fk3, (.long s2))])), (.inr (cn1, [(fk4, .ref 3), (fk5, .int 0)])), (.inl ((.object "com/example/chronogate/chronogate/Event"), [.null, .null, .null, .null, .null, .null, .null, .null]))], 18) _
  refine .s (.pop a0_100 rfl) <| .s (.iload a0_101 rfl) <| .s (.iconst (2 : Int32) a0_103 rfl) <| .s (.icmpT a0_104 (by decide)) <| .s (.iconst (0 : Int32) a0_113 rfl) <| .s (.iload a0_114 rfl) <| .s (.iload a0_116 rfl) ?_
  refine .s (.isub a0_118) ?_
  show WGo _ (119, [wI counts, wJ t1, wS, wJ t2, wS, wJ s1, wS, wJ s2, wS, wI 1, wI 1, wR 0, wR 1, wR 2, wI 1, wU, wU, wU], [.int 0, .int 0], [(.inr (cn0, [(fk0, (.long t1)), (fk1, .null), (fk2, .null), (fk3, (.long s1))])), (.inr (cn0, [(fk0, (.long t2)), (fk1, .null), (fk2, .null), (fk3, (.long s2))])), (.inr (cn1, [(fk4, .ref 3), (fk5, .int 0)])), (.inl ((.object "com/example/chronogate/chronogate/Event"), [.null, .null, .null, .null, .null, .null, .null, .null]))], 18) _
  refine .callS a0_119 (ok6 hw _ _ _ _) (wd hw 39 rfl) (wd hw 40 rfl) (argsL := [.int 0, .int 0]) (S := []) (au6_6 hw _ _ t1 t2 s1 s2 _) rfl rfl rfl rfl rfl rfl (Nat.le_of_ble_eq_true rfl) (Nat.le_of_ble_eq_true rfl) ?_
  rintro _ _ _ ⟨rfl, rfl, rfl⟩
  show WGo _ (122, [wI counts, wJ t1, wS, wJ t2, wS, wJ s1, wS, wJ s2, wS, wI 1, wI 1, wR 0, wR 1, wR 2, wI 1, wU, wU, wU], [.int 0], [(.inr (cn0, [(fk0, (.long t1)), (fk1, .null), (fk2, .null), (fk3, (.long s1))])), (.inr (cn0, [(fk0, (.long t2)), (fk1, .null), (fk2, .null), (fk3, (.long s2))])), (.inr (cn1, [(fk4, .ref 3), (fk5, .int 0)])), (.inl ((.object "com/example/chronogate/chronogate/Event"), [.null, .null, .null, .null, .null, .null, .null, .null]))], 18) _
  refine .s (.istore (L' := [wI counts, wJ t1, wS, wJ t2, wS, wJ s1, wS, wJ s2, wS, wI 1, wI 1, wR 0, wR 1, wR 2, wI 1, wI 0, wU, wU]) a0_122 rfl) <| .s (.aload a0_124 rfl rfl) ?_
  refine .callV (k := 2) (z := (⟨"com/example/chronogate/chronogate/ReleaseQueue", "isEmpty", "()Z"⟩ : MethodName)) a0_126 (ok5 hw _ _ _ _) ⟨rfl, by decide⟩ (wd hw 32 rfl) (wd hw 33 rfl) (fun s hZ => notFace_of_selects (args := #[]) (mvT hZ (wd hw 35 rfl))) (wd hw 35 rfl) (wd hw 34 rfl) rfl (argsL := []) (S := []) (au5_5 hw _ _ t1 t2 s1 s2 _) rfl rfl rfl rfl rfl rfl (Nat.le_of_ble_eq_true rfl) (Nat.le_of_ble_eq_true rfl) ?_
  rintro _ _ _ ⟨rfl, rfl, rfl⟩
  show WGo _ (129, [wI counts, wJ t1, wS, wJ t2, wS, wJ s1, wS, wJ s2, wS, wI 1, wI 1, wR 0, wR 1, wR 2, wI 1, wI 0, wU, wU], [.int 1], [(.inr (cn0, [(fk0, (.long t1)), (fk1, .null), (fk2, .null), (fk3, (.long s1))])), (.inr (cn0, [(fk0, (.long t2)), (fk1, .null), (fk2, .null), (fk3, (.long s2))])), (.inr (cn1, [(fk4, .ref 3), (fk5, .int 0)])), (.inl ((.object "com/example/chronogate/chronogate/Event"), [.null, .null, .null, .null, .null, .null, .null, .null]))], 18) _
  refine .s (.istore (L' := [wI counts, wJ t1, wS, wJ t2, wS, wJ s1, wS, wJ s2, wS, wI 1, wI 1, wR 0, wR 1, wR 2, wI 1, wI 0, wI 1, wU]) a0_129 rfl) <| .s (.aload a0_131 rfl rfl) ?_
  refine .callV (k := 2) (z := (⟨"com/example/chronogate/chronogate/ReleaseQueue", "peek", "()Lcom/example/chronogate/chronogate/Event;"⟩ : MethodName)) a0_133 (ok7 hw _ _ _ _) ⟨rfl, by decide⟩ (wd hw 43 rfl) (wd hw 44 rfl) (fun s hZ => notFace_of_selects (args := #[]) (mvT hZ (wd hw 46 rfl))) (wd hw 46 rfl) (wd hw 45 rfl) rfl (argsL := []) (S := []) (au7_7 hw _ _ t1 t2 s1 s2 _) rfl rfl rfl rfl rfl rfl (Nat.le_of_ble_eq_true rfl) (Nat.le_of_ble_eq_true rfl) ?_
  rintro _ _ _ ⟨rfl, rfl, rfl⟩
  show WGo _ (136, [wI counts, wJ t1, wS, wJ t2, wS, wJ s1, wS, wJ s2, wS, wI 1, wI 1, wR 0, wR 1, wR 2, wI 1, wI 0, wI 1, wU], [.null], [(.inr (cn0, [(fk0, (.long t1)), (fk1, .null), (fk2, .null), (fk3, (.long s1))])), (.inr (cn0, [(fk0, (.long t2)), (fk1, .null), (fk2, .null), (fk3, (.long s2))])), (.inr (cn1, [(fk4, .ref 3), (fk5, .int 0)])), (.inl ((.object "com/example/chronogate/chronogate/Event"), [.null, .null, .null, .null, .null, .null, .null, .null]))], 18) _
  refine .s (.nonnullF a0_136) <| .s (.iconst (1 : Int32) a0_139 rfl) <| .s (.goto a0_140) <| .s (.istore (L' := [wI counts, wJ t1, wS, wJ t2, wS, wJ s1, wS, wJ s2, wS, wI 1, wI 1, wR 0, wR 1, wR 2, wI 1, wI 0, wI 1, wI 1]) a0_144 rfl) <| .s (.iload a0_146 rfl) <| .s (.ifF a0_148 (by decide)) <| .s (.iload a0_151 rfl) ?_
  refine .s (.iload a0_153 rfl) <| .s (.ifF a0_155 (by decide)) <| .s (.iconst (1 : Int32) a0_158 rfl) <| .s (.goto a0_159) <| .s (.icmpF a0_163 (by decide)) <| .s (.iload a0_166 rfl) <| .s (.iload a0_168 rfl) ?_
  refine .s (.icmpF a0_170 (by decide)) <| .s (.iconst (1 : Int32) a0_173 rfl) <| .s (.goto a0_174) ?_
  refine .ireturn .boolean a0_178 rfl (by simp) ?_
  exact ⟨rfl, Nat.le_of_ble_eq_true rfl, Nat.le_of_ble_eq_true rfl⟩
set_option maxHeartbeats 40000000 in
theorem seg12 (Z : State) (a0 : Array Value) (hw : ∀ d ∈ tables_1, d.before a0 Z = true) (n0 : Nat) (counts : Int32) (t1 t2 s1 s2 : Int64) : WGo (g0 Z (fun k => n0 + k) n0 0 0) (19, [wI counts, wJ t1, wS, wJ t2, wS, wJ s1, wS, wJ s2, wS, wI 1, wI 2, wU, wU, wU, wU, wU, wU, wU], [], [], 0) (fun v σ' u' => v = some (.int 1) ∧ σ'.length ≤ 16 ∧ u' ≤ 128) := by
  refine .s (.newO (k := 0) [(fk0, .long 0), (fk1, .null), (fk2, .null), (fk3, .long 0)] a0_19 (wd hw 1 rfl) (wd hw 2 rfl) (wd hw 3 rfl) ⟨⟨Or.inr (wd hw 11 rfl), .long, by decide, rfl⟩, ⟨Or.inr (wd hw 13 rfl), (.object "java/util/List"), by decide, rfl⟩, ⟨Or.inr (wd hw 15 rfl), (.object "java/lang/Object"), by decide, rfl⟩, ⟨Or.inr (wd hw 17 rfl), .long, by decide, rfl⟩, trivial⟩ (by decide) rfl (by decide)) ?_
  show WGo _ (22, [wI counts, wJ t1, wS, wJ t2, wS, wJ s1, wS, wJ s2, wS, wI 1, wI 2, wU, wU, wU, wU, wU, wU, wU], [.ref 0], [(.inr (cn0, [(fk0, .long 0), (fk1, .null), (fk2, .null), (fk3, .long 0)]))], 4) _
  refine .s (.dup a0_22 rfl) <| .s (.lloadN a0_23 rfl) <| .s (.aconstNull a0_24) <| .s (.aconstNull a0_25) <| .s (.lload a0_26 rfl) ?_
  refine .callI (k := 0) a0_28 (ok1 hw _ _ _ _) rfl rfl (wd hw 4 rfl) (wd hw 5 rfl) (by decide) (argsL := [(.long t1), .null, .null, (.long s1)]) (S := [.ref 0]) (au1_1 hw _ _ t1 s1 _) rfl rfl rfl rfl rfl rfl (Nat.le_of_ble_eq_true rfl) (Nat.le_of_ble_eq_true rfl) ?_
  rintro _ _ _ ⟨rfl, rfl, rfl⟩
  show WGo _ (31, [wI counts, wJ t1, wS, wJ t2, wS, wJ s1, wS, wJ s2, wS, wI 1, wI 2, wU, wU, wU, wU, wU, wU, wU], [.ref 0], [(.inr (cn0, [(fk0, (.long t1)), (fk1, .null), (fk2, .null), (fk3, (.long s1))]))], 4) _
  refine .s (.astore (L' := [wI counts, wJ t1, wS, wJ t2, wS, wJ s1, wS, wJ s2, wS, wI 1, wI 2, wR 0, wU, wU, wU, wU, wU, wU]) a0_31 rfl rfl) <| .s (.newO (k := 1) [(fk0, .long 0), (fk1, .null), (fk2, .null), (fk3, .long 0)] a0_33 (wd hw 1 rfl) (wd hw 2 rfl) (wd hw 3 rfl) ⟨⟨Or.inr (wd hw 11 rfl), .long, by decide, rfl⟩, ⟨Or.inr (wd hw 13 rfl), (.object "java/util/List"), by decide, rfl⟩, ⟨Or.inr (wd hw 15 rfl), (.object "java/lang/Object"), by decide, rfl⟩, ⟨Or.inr (wd hw 17 rfl), .long, by decide, rfl⟩, trivial⟩ (by decide) rfl (by decide)) ?_
  show WGo _ (36, [wI counts, wJ t1, wS, wJ t2, wS, wJ s1, wS, wJ s2, wS, wI 1, wI 2, wR 0, wU, wU, wU, wU, wU, wU], [.ref 1], [(.inr (cn0, [(fk0, (.long t1)), (fk1, .null), (fk2, .null), (fk3, (.long s1))])), (.inr (cn0, [(fk0, .long 0), (fk1, .null), (fk2, .null), (fk3, .long 0)]))], 8) _
  refine .s (.dup a0_36 rfl) <| .s (.lloadN a0_37 rfl) <| .s (.aconstNull a0_38) <| .s (.aconstNull a0_39) <| .s (.lload a0_40 rfl) ?_
  refine .callI (k := 1) a0_42 (ok1 hw _ _ _ _) rfl rfl (wd hw 4 rfl) (wd hw 5 rfl) (by decide) (argsL := [(.long t2), .null, .null, (.long s2)]) (S := [.ref 1]) (au1_2 hw _ _ t1 t2 s1 s2 _) rfl rfl rfl rfl rfl rfl (Nat.le_of_ble_eq_true rfl) (Nat.le_of_ble_eq_true rfl) ?_
  rintro _ _ _ ⟨rfl, rfl, rfl⟩
  show WGo _ (45, [wI counts, wJ t1, wS, wJ t2, wS, wJ s1, wS, wJ s2, wS, wI 1, wI 2, wR 0, wU, wU, wU, wU, wU, wU], [.ref 1], [(.inr (cn0, [(fk0, (.long t1)), (fk1, .null), (fk2, .null), (fk3, (.long s1))])), (.inr (cn0, [(fk0, (.long t2)), (fk1, .null), (fk2, .null), (fk3, (.long s2))]))], 8) _
  refine .s (.astore (L' := [wI counts, wJ t1, wS, wJ t2, wS, wJ s1, wS, wJ s2, wS, wI 1, wI 2, wR 0, wR 1, wU, wU, wU, wU, wU]) a0_45 rfl rfl) <| .s (.newO (k := 2) [(fk4, .null), (fk5, .int 0)] a0_47 (wd hw 18 rfl) (wd hw 19 rfl) (wd hw 20 rfl) ⟨⟨Or.inl (wd hw 31 rfl), (.array (.object "com/example/chronogate/chronogate/Event")), by decide, rfl⟩, ⟨Or.inl (wd hw 38 rfl), .int, by decide, rfl⟩, trivial⟩ (by decide) rfl (by decide)) ?_
  show WGo _ (50, [wI counts, wJ t1, wS, wJ t2, wS, wJ s1, wS, wJ s2, wS, wI 1, wI 2, wR 0, wR 1, wU, wU, wU, wU, wU], [.ref 2], [(.inr (cn0, [(fk0, (.long t1)), (fk1, .null), (fk2, .null), (fk3, (.long s1))])), (.inr (cn0, [(fk0, (.long t2)), (fk1, .null), (fk2, .null), (fk3, (.long s2))])), (.inr (cn1, [(fk4, .null), (fk5, .int 0)]))], 10) _
  refine .s (.dup a0_50 rfl) ?_
  refine .callI (k := 2) a0_51 (ok3 hw _ _ _ _) rfl rfl (wd hw 21 rfl) (wd hw 22 rfl) (by decide) (argsL := []) (S := [.ref 2]) (au3_3 hw _ _ t1 t2 s1 s2 _) rfl rfl rfl rfl rfl rfl (Nat.le_of_ble_eq_true rfl) (Nat.le_of_ble_eq_true rfl) ?_
  rintro _ _ _ ⟨rfl, rfl, rfl⟩
  show WGo _ (54, [wI counts, wJ t1, wS, wJ t2, wS, wJ s1, wS, wJ s2, wS, wI 1, wI 2, wR 0, wR 1, wU, wU, wU, wU, wU], [.ref 2], [(.inr (cn0, [(fk0, (.long t1)), (fk1, .null), (fk2, .null), (fk3, (.long s1))])), (.inr (cn0, [(fk0, (.long t2)), (fk1, .null), (fk2, .null), (fk3, (.long s2))])), (.inr (cn1, [(fk4, .ref 3), (fk5, .int 0)])), (.inl ((.object "com/example/chronogate/chronogate/Event"), [.null, .null, .null, .null, .null, .null, .null, .null]))], 18) _
  refine .s (.astore (L' := [wI counts, wJ t1, wS, wJ t2, wS, wJ s1, wS, wJ s2, wS, wI 1, wI 2, wR 0, wR 1, wR 2, wU, wU, wU, wU]) a0_54 rfl rfl) <| .s (.aload a0_56 rfl rfl) ?_
  refine .callV (k := 2) (z := (⟨"com/example/chronogate/chronogate/ReleaseQueue", "isEmpty", "()Z"⟩ : MethodName)) a0_58 (ok5 hw _ _ _ _) ⟨rfl, by decide⟩ (wd hw 32 rfl) (wd hw 33 rfl) (fun s hZ => notFace_of_selects (args := #[]) (mvT hZ (wd hw 35 rfl))) (wd hw 35 rfl) (wd hw 34 rfl) rfl (argsL := []) (S := []) (au5_5 hw _ _ t1 t2 s1 s2 _) rfl rfl rfl rfl rfl rfl (Nat.le_of_ble_eq_true rfl) (Nat.le_of_ble_eq_true rfl) ?_
  rintro _ _ _ ⟨rfl, rfl, rfl⟩
  show WGo _ (61, [wI counts, wJ t1, wS, wJ t2, wS, wJ s1, wS, wJ s2, wS, wI 1, wI 2, wR 0, wR 1, wR 2, wU, wU, wU, wU], [.int 1], [(.inr (cn0, [(fk0, (.long t1)), (fk1, .null), (fk2, .null), (fk3, (.long s1))])), (.inr (cn0, [(fk0, (.long t2)), (fk1, .null), (fk2, .null), (fk3, (.long s2))])), (.inr (cn1, [(fk4, .ref 3), (fk5, .int 0)])), (.inl ((.object "com/example/chronogate/chronogate/Event"), [.null, .null, .null, .null, .null, .null, .null, .null]))], 18) _
  refine .s (.istore (L' := [wI counts, wJ t1, wS, wJ t2, wS, wJ s1, wS, wJ s2, wS, wI 1, wI 2, wR 0, wR 1, wR 2, wI 1, wU, wU, wU]) a0_61 rfl) <| .s (.iload a0_63 rfl) <| .s (.iconst (1 : Int32) a0_65 rfl) <| .s (.icmpF a0_66 (by decide)) <| .s (.aload a0_69 rfl rfl) <| .s (.aload a0_71 rfl rfl) ?_
  refine .callV (k := 2) (z := (⟨"com/example/chronogate/chronogate/ReleaseQueue", "add", "(Lcom/example/chronogate/chronogate/Event;)V"⟩ : MethodName)) a0_73 (ok8 hw _ _ _ _) ⟨rfl, by decide⟩ (wd hw 48 rfl) (wd hw 49 rfl) (fun s hZ => notFace_of_selects (args := #[]) (mvT hZ (wd hw 51 rfl))) (wd hw 51 rfl) (wd hw 50 rfl) rfl (argsL := [.ref 0]) (S := []) (au8_11 hw _ _ t1 t2 s1 s2 _) rfl rfl rfl rfl rfl rfl (Nat.le_of_ble_eq_true rfl) (Nat.le_of_ble_eq_true rfl) ?_
  rintro _ _ _ ⟨rfl, rfl, rfl⟩
  show WGo _ (76, [wI counts, wJ t1, wS, wJ t2, wS, wJ s1, wS, wJ s2, wS, wI 1, wI 2, wR 0, wR 1, wR 2, wI 1, wU, wU, wU], [], [(.inr (cn0, [(fk0, (.long t1)), (fk1, .null), (fk2, .null), (fk3, (.long s1))])), (.inr (cn0, [(fk0, (.long t2)), (fk1, .null), (fk2, .null), (fk3, (.long s2))])), (.inr (cn1, [(fk4, .ref 3), (fk5, .int 1)])), (.inl ((.object "com/example/chronogate/chronogate/Event"), [.ref 0, .null, .null, .null, .null, .null, .null, .null]))], 18) _
  refine .s (.iload a0_76 rfl) <| .s (.iconst (2 : Int32) a0_78 rfl) <| .s (.icmpT a0_79 (by decide)) <| .s (.iload a0_89 rfl) <| .s (.iconst (1 : Int32) a0_91 rfl) <| .s (.icmpF a0_92 (by decide)) <| .s (.aload a0_95 rfl rfl) ?_
  refine .callV (k := 2) (z := (⟨"com/example/chronogate/chronogate/ReleaseQueue", "poll", "()Lcom/example/chronogate/chronogate/Event;"⟩ : MethodName)) a0_97 (ok11 hw _ _ _ _) ⟨rfl, by decide⟩ (wd hw 61 rfl) (wd hw 62 rfl) (fun s hZ => notFace_of_selects (args := #[]) (mvT hZ (wd hw 64 rfl))) (wd hw 64 rfl) (wd hw 63 rfl) rfl (argsL := []) (S := []) (au11_15 hw _ _ t1 t2 s1 s2 _) rfl rfl rfl rfl rfl rfl (Nat.le_of_ble_eq_true rfl) (Nat.le_of_ble_eq_true rfl) ?_
  rintro _ _ _ ⟨rfl, rfl, rfl⟩
  show WGo _ (100, [wI counts, wJ t1, wS, wJ t2, wS, wJ s1, wS, wJ s2, wS, wI 1, wI 2, wR 0, wR 1, wR 2, wI 1, wU, wU, wU], [.ref 0], [(.inr (cn0, [(fk0, (.long t1)), (fk1, .null), (fk2, .null), (fk3, (.long s1))])), (.inr (cn0, [(fk0, (.long t2)), (fk1, .null), (fk2, .null), (fk3, (.long s2))])), (.inr (cn1, [(fk4, .ref 3), (fk5, .int 0)])), (.inl ((.object "com/example/chronogate/chronogate/Event"), [.null, .null, .null, .null, .null, .null, .null, .null]))], 18) _
  refine .s (.pop a0_100 rfl) <| .s (.iload a0_101 rfl) <| .s (.iconst (2 : Int32) a0_103 rfl) <| .s (.icmpF a0_104 (by decide)) <| .s (.aload a0_107 rfl rfl) ?_
  refine .callV (k := 2) (z := (⟨"com/example/chronogate/chronogate/ReleaseQueue", "poll", "()Lcom/example/chronogate/chronogate/Event;"⟩ : MethodName)) a0_109 (ok11 hw _ _ _ _) ⟨rfl, by decide⟩ (wd hw 61 rfl) (wd hw 62 rfl) (fun s hZ => notFace_of_selects (args := #[]) (mvT hZ (wd hw 64 rfl))) (wd hw 64 rfl) (wd hw 63 rfl) rfl (argsL := []) (S := []) (au11_8 hw _ _ t1 t2 s1 s2 _) rfl rfl rfl rfl rfl rfl (Nat.le_of_ble_eq_true rfl) (Nat.le_of_ble_eq_true rfl) ?_
  rintro _ _ _ ⟨rfl, rfl, rfl⟩
  show WGo _ (112, [wI counts, wJ t1, wS, wJ t2, wS, wJ s1, wS, wJ s2, wS, wI 1, wI 2, wR 0, wR 1, wR 2, wI 1, wU, wU, wU], [.null], [(.inr (cn0, [(fk0, (.long t1)), (fk1, .null), (fk2, .null), (fk3, (.long s1))])), (.inr (cn0, [(fk0, (.long t2)), (fk1, .null), (fk2, .null), (fk3, (.long s2))])), (.inr (cn1, [(fk4, .ref 3), (fk5, .int 0)])), (.inl ((.object "com/example/chronogate/chronogate/Event"), [.null, .null, .null, .null, .null, .null, .null, .null]))], 18) _
  refine .s (.pop a0_112 rfl) <| .s (.iconst (0 : Int32) a0_113 rfl) <| .s (.iload a0_114 rfl) <| .s (.iload a0_116 rfl) <| .s (.isub a0_118) ?_
  show WGo _ (119, [wI counts, wJ t1, wS, wJ t2, wS, wJ s1, wS, wJ s2, wS, wI 1, wI 2, wR 0, wR 1, wR 2, wI 1, wU, wU, wU], [.int (-1), .int 0], [(.inr (cn0, [(fk0, (.long t1)), (fk1, .null), (fk2, .null), (fk3, (.long s1))])), (.inr (cn0, [(fk0, (.long t2)), (fk1, .null), (fk2, .null), (fk3, (.long s2))])), (.inr (cn1, [(fk4, .ref 3), (fk5, .int 0)])), (.inl ((.object "com/example/chronogate/chronogate/Event"), [.null, .null, .null, .null, .null, .null, .null, .null]))], 18) _
  refine .callS a0_119 (ok6 hw _ _ _ _) (wd hw 39 rfl) (wd hw 40 rfl) (argsL := [.int 0, .int (-1)]) (S := []) (au6_9 hw _ _ t1 t2 s1 s2 _) rfl rfl rfl rfl rfl rfl (Nat.le_of_ble_eq_true rfl) (Nat.le_of_ble_eq_true rfl) ?_
  rintro _ _ _ ⟨rfl, rfl, rfl⟩
  show WGo _ (122, [wI counts, wJ t1, wS, wJ t2, wS, wJ s1, wS, wJ s2, wS, wI 1, wI 2, wR 0, wR 1, wR 2, wI 1, wU, wU, wU], [.int 0], [(.inr (cn0, [(fk0, (.long t1)), (fk1, .null), (fk2, .null), (fk3, (.long s1))])), (.inr (cn0, [(fk0, (.long t2)), (fk1, .null), (fk2, .null), (fk3, (.long s2))])), (.inr (cn1, [(fk4, .ref 3), (fk5, .int 0)])), (.inl ((.object "com/example/chronogate/chronogate/Event"), [.null, .null, .null, .null, .null, .null, .null, .null]))], 18) _
  refine .s (.istore (L' := [wI counts, wJ t1, wS, wJ t2, wS, wJ s1, wS, wJ s2, wS, wI 1, wI 2, wR 0, wR 1, wR 2, wI 1, wI 0, wU, wU]) a0_122 rfl) <| .s (.aload a0_124 rfl rfl) ?_
  refine .callV (k := 2) (z := (⟨"com/example/chronogate/chronogate/ReleaseQueue", "isEmpty", "()Z"⟩ : MethodName)) a0_126 (ok5 hw _ _ _ _) ⟨rfl, by decide⟩ (wd hw 32 rfl) (wd hw 33 rfl) (fun s hZ => notFace_of_selects (args := #[]) (mvT hZ (wd hw 35 rfl))) (wd hw 35 rfl) (wd hw 34 rfl) rfl (argsL := []) (S := []) (au5_5 hw _ _ t1 t2 s1 s2 _) rfl rfl rfl rfl rfl rfl (Nat.le_of_ble_eq_true rfl) (Nat.le_of_ble_eq_true rfl) ?_
  rintro _ _ _ ⟨rfl, rfl, rfl⟩
  show WGo _ (129, [wI counts, wJ t1, wS, wJ t2, wS, wJ s1, wS, wJ s2, wS, wI 1, wI 2, wR 0, wR 1, wR 2, wI 1, wI 0, wU, wU], [.int 1], [(.inr (cn0, [(fk0, (.long t1)), (fk1, .null), (fk2, .null), (fk3, (.long s1))])), (.inr (cn0, [(fk0, (.long t2)), (fk1, .null), (fk2, .null), (fk3, (.long s2))])), (.inr (cn1, [(fk4, .ref 3), (fk5, .int 0)])), (.inl ((.object "com/example/chronogate/chronogate/Event"), [.null, .null, .null, .null, .null, .null, .null, .null]))], 18) _
  refine .s (.istore (L' := [wI counts, wJ t1, wS, wJ t2, wS, wJ s1, wS, wJ s2, wS, wI 1, wI 2, wR 0, wR 1, wR 2, wI 1, wI 0, wI 1, wU]) a0_129 rfl) <| .s (.aload a0_131 rfl rfl) ?_
  refine .callV (k := 2) (z := (⟨"com/example/chronogate/chronogate/ReleaseQueue", "peek", "()Lcom/example/chronogate/chronogate/Event;"⟩ : MethodName)) a0_133 (ok7 hw _ _ _ _) ⟨rfl, by decide⟩ (wd hw 43 rfl) (wd hw 44 rfl) (fun s hZ => notFace_of_selects (args := #[]) (mvT hZ (wd hw 46 rfl))) (wd hw 46 rfl) (wd hw 45 rfl) rfl (argsL := []) (S := []) (au7_7 hw _ _ t1 t2 s1 s2 _) rfl rfl rfl rfl rfl rfl (Nat.le_of_ble_eq_true rfl) (Nat.le_of_ble_eq_true rfl) ?_
  rintro _ _ _ ⟨rfl, rfl, rfl⟩
  show WGo _ (136, [wI counts, wJ t1, wS, wJ t2, wS, wJ s1, wS, wJ s2, wS, wI 1, wI 2, wR 0, wR 1, wR 2, wI 1, wI 0, wI 1, wU], [.null], [(.inr (cn0, [(fk0, (.long t1)), (fk1, .null), (fk2, .null), (fk3, (.long s1))])), (.inr (cn0, [(fk0, (.long t2)), (fk1, .null), (fk2, .null), (fk3, (.long s2))])), (.inr (cn1, [(fk4, .ref 3), (fk5, .int 0)])), (.inl ((.object "com/example/chronogate/chronogate/Event"), [.null, .null, .null, .null, .null, .null, .null, .null]))], 18) _
  refine .s (.nonnullF a0_136) <| .s (.iconst (1 : Int32) a0_139 rfl) <| .s (.goto a0_140) <| .s (.istore (L' := [wI counts, wJ t1, wS, wJ t2, wS, wJ s1, wS, wJ s2, wS, wI 1, wI 2, wR 0, wR 1, wR 2, wI 1, wI 0, wI 1, wI 1]) a0_144 rfl) <| .s (.iload a0_146 rfl) <| .s (.ifF a0_148 (by decide)) <| .s (.iload a0_151 rfl) ?_
  refine .s (.iload a0_153 rfl) <| .s (.ifF a0_155 (by decide)) <| .s (.iconst (1 : Int32) a0_158 rfl) <| .s (.goto a0_159) <| .s (.icmpF a0_163 (by decide)) <| .s (.iload a0_166 rfl) <| .s (.iload a0_168 rfl) ?_
  refine .s (.icmpF a0_170 (by decide)) <| .s (.iconst (1 : Int32) a0_173 rfl) <| .s (.goto a0_174) ?_
  refine .ireturn .boolean a0_178 rfl (by simp) ?_
  exact ⟨rfl, Nat.le_of_ble_eq_true rfl, Nat.le_of_ble_eq_true rfl⟩
set_option maxHeartbeats 4000000 in
theorem au10_18 {Z : State} {a0 : Array Value} (hw : ∀ d ∈ tables_1, d.before a0 Z = true) (ρ : Nat → Nat) (n0 : Nat) (t1 : Int64) (t2 : Int64) (s1 : Int64) (s2 : Int64) (u : Nat) : WGo (g10 Z ρ n0 4 u) (0, [wJ t2, wS, wJ t1, wS], [], [(.inr (cn0, [(fk0, (.long t1)), (fk1, .null), (fk2, .null), (fk3, (.long s1))])), (.inr (cn0, [(fk0, (.long t2)), (fk1, .null), (fk2, .null), (fk3, (.long s2))])), (.inr (cn1, [(fk4, .ref 3), (fk5, .int 2)])), (.inl ((.object "com/example/chronogate/chronogate/Event"), [.ref 0, .null, .null, .null, .null, .null, .null, .null]))], u) (fun v σ' u' => (¬ t2 < t1 ∧ ¬ t2 = t1 ∧ v = some (.int 1) ∧ [(.inr (cn0, [(fk0, (.long t1)), (fk1, .null), (fk2, .null), (fk3, (.long s1))])), (.inr (cn0, [(fk0, (.long t2)), (fk1, .null), (fk2, .null), (fk3, (.long s2))])), (.inr (cn1, [(fk4, .ref 3), (fk5, .int 2)])), (.inl ((.object "com/example/chronogate/chronogate/Event"), [.ref 0, .null, .null, .null, .null, .null, .null, .null]))] = σ' ∧ u = u') ∨ (¬ t2 < t1 ∧ t2 = t1 ∧ v = some (.int 0) ∧ [(.inr (cn0, [(fk0, (.long t1)), (fk1, .null), (fk2, .null), (fk3, (.long s1))])), (.inr (cn0, [(fk0, (.long t2)), (fk1, .null), (fk2, .null), (fk3, (.long s2))])), (.inr (cn1, [(fk4, .ref 3), (fk5, .int 2)])), (.inl ((.object "com/example/chronogate/chronogate/Event"), [.ref 0, .null, .null, .null, .null, .null, .null, .null]))] = σ' ∧ u = u') ∨ (t2 < t1 ∧ v = some (.int (-1)) ∧ [(.inr (cn0, [(fk0, (.long t1)), (fk1, .null), (fk2, .null), (fk3, (.long s1))])), (.inr (cn0, [(fk0, (.long t2)), (fk1, .null), (fk2, .null), (fk3, (.long s2))])), (.inr (cn1, [(fk4, .ref 3), (fk5, .int 2)])), (.inl ((.object "com/example/chronogate/chronogate/Event"), [.ref 0, .null, .null, .null, .null, .null, .null, .null]))] = σ' ∧ u = u')) := by
  refine .s (.lloadN a10_0 rfl) <| .s (.lloadN a10_1 rfl) <| .s (.lcmp a10_2) ?_
  refine .geL a10_3 (fun h3 => ?_) (fun h3 => ?_)
  · refine .s (.lloadN a10_10 rfl) <| .s (.lloadN a10_11 rfl) <| .s (.lcmp a10_12) ?_
    refine .neL a10_13 (fun h13 => ?_) (fun h13 => ?_)
    · refine .s (.iconst (1 : Int32) a10_20 rfl) ?_
      refine .ireturn .int a10_21 rfl (by simp) ?_
      exact Or.inl ⟨h3, h13, rfl, rfl, rfl⟩
    · refine .s (.iconst (0 : Int32) a10_16 rfl) <| .s (.goto a10_17) ?_
      refine .ireturn .int a10_21 rfl (by simp) ?_
      exact Or.inr (Or.inl ⟨h3, h13, rfl, rfl, rfl⟩)
  · refine .s (.iconst (-1 : Int32) a10_6 rfl) <| .s (.goto a10_7) ?_
    refine .ireturn .int a10_21 rfl (by simp) ?_
    exact Or.inr (Or.inr (⟨h3, rfl, rfl, rfl⟩))
set_option maxHeartbeats 4000000 in
theorem au10_19 {Z : State} {a0 : Array Value} (hw : ∀ d ∈ tables_1, d.before a0 Z = true) (ρ : Nat → Nat) (n0 : Nat) (t1 : Int64) (t2 : Int64) (s1 : Int64) (s2 : Int64) (u : Nat) : WGo (g10 Z ρ n0 4 u) (0, [wJ s2, wS, wJ s1, wS], [], [(.inr (cn0, [(fk0, (.long t1)), (fk1, .null), (fk2, .null), (fk3, (.long s1))])), (.inr (cn0, [(fk0, (.long t2)), (fk1, .null), (fk2, .null), (fk3, (.long s2))])), (.inr (cn1, [(fk4, .ref 3), (fk5, .int 2)])), (.inl ((.object "com/example/chronogate/chronogate/Event"), [.ref 0, .null, .null, .null, .null, .null, .null, .null]))], u) (fun v σ' u' => (¬ s2 < s1 ∧ ¬ s2 = s1 ∧ v = some (.int 1) ∧ [(.inr (cn0, [(fk0, (.long t1)), (fk1, .null), (fk2, .null), (fk3, (.long s1))])), (.inr (cn0, [(fk0, (.long t2)), (fk1, .null), (fk2, .null), (fk3, (.long s2))])), (.inr (cn1, [(fk4, .ref 3), (fk5, .int 2)])), (.inl ((.object "com/example/chronogate/chronogate/Event"), [.ref 0, .null, .null, .null, .null, .null, .null, .null]))] = σ' ∧ u = u') ∨ (¬ s2 < s1 ∧ s2 = s1 ∧ v = some (.int 0) ∧ [(.inr (cn0, [(fk0, (.long t1)), (fk1, .null), (fk2, .null), (fk3, (.long s1))])), (.inr (cn0, [(fk0, (.long t2)), (fk1, .null), (fk2, .null), (fk3, (.long s2))])), (.inr (cn1, [(fk4, .ref 3), (fk5, .int 2)])), (.inl ((.object "com/example/chronogate/chronogate/Event"), [.ref 0, .null, .null, .null, .null, .null, .null, .null]))] = σ' ∧ u = u') ∨ (s2 < s1 ∧ v = some (.int (-1)) ∧ [(.inr (cn0, [(fk0, (.long t1)), (fk1, .null), (fk2, .null), (fk3, (.long s1))])), (.inr (cn0, [(fk0, (.long t2)), (fk1, .null), (fk2, .null), (fk3, (.long s2))])), (.inr (cn1, [(fk4, .ref 3), (fk5, .int 2)])), (.inl ((.object "com/example/chronogate/chronogate/Event"), [.ref 0, .null, .null, .null, .null, .null, .null, .null]))] = σ' ∧ u = u')) := by
  refine .s (.lloadN a10_0 rfl) <| .s (.lloadN a10_1 rfl) <| .s (.lcmp a10_2) ?_
  refine .geL a10_3 (fun h3 => ?_) (fun h3 => ?_)
  · refine .s (.lloadN a10_10 rfl) <| .s (.lloadN a10_11 rfl) <| .s (.lcmp a10_12) ?_
    refine .neL a10_13 (fun h13 => ?_) (fun h13 => ?_)
    · refine .s (.iconst (1 : Int32) a10_20 rfl) ?_
      refine .ireturn .int a10_21 rfl (by simp) ?_
      exact Or.inl ⟨h3, h13, rfl, rfl, rfl⟩
    · refine .s (.iconst (0 : Int32) a10_16 rfl) <| .s (.goto a10_17) ?_
      refine .ireturn .int a10_21 rfl (by simp) ?_
      exact Or.inr (Or.inl ⟨h3, h13, rfl, rfl, rfl⟩)
  · refine .s (.iconst (-1 : Int32) a10_6 rfl) <| .s (.goto a10_7) ?_
    refine .ireturn .int a10_21 rfl (by simp) ?_
    exact Or.inr (Or.inr (⟨h3, rfl, rfl, rfl⟩))
set_option maxHeartbeats 4000000 in
theorem au9_17 {Z : State} {a0 : Array Value} (hw : ∀ d ∈ tables_1, d.before a0 Z = true) (ρ : Nat → Nat) (n0 : Nat) (t1 : Int64) (t2 : Int64) (s1 : Int64) (s2 : Int64) (u : Nat) : WGo (g9 Z ρ n0 4 u) (0, [wR 1, wR 0, wU], [], [(.inr (cn0, [(fk0, (.long t1)), (fk1, .null), (fk2, .null), (fk3, (.long s1))])), (.inr (cn0, [(fk0, (.long t2)), (fk1, .null), (fk2, .null), (fk3, (.long s2))])), (.inr (cn1, [(fk4, .ref 3), (fk5, .int 2)])), (.inl ((.object "com/example/chronogate/chronogate/Event"), [.ref 0, .null, .null, .null, .null, .null, .null, .null]))], u) (fun v σ' u' => (¬ t2 < t1 ∧ ¬ t2 = t1 ∧ v = some (.int 1) ∧ [(.inr (cn0, [(fk0, (.long t1)), (fk1, .null), (fk2, .null), (fk3, (.long s1))])), (.inr (cn0, [(fk0, (.long t2)), (fk1, .null), (fk2, .null), (fk3, (.long s2))])), (.inr (cn1, [(fk4, .ref 3), (fk5, .int 2)])), (.inl ((.object "com/example/chronogate/chronogate/Event"), [.ref 0, .null, .null, .null, .null, .null, .null, .null]))] = σ' ∧ u = u') ∨ (¬ t2 < t1 ∧ t2 = t1 ∧ ¬ s2 < s1 ∧ ¬ s2 = s1 ∧ v = some (.int 1) ∧ [(.inr (cn0, [(fk0, (.long t1)), (fk1, .null), (fk2, .null), (fk3, (.long s1))])), (.inr (cn0, [(fk0, (.long t2)), (fk1, .null), (fk2, .null), (fk3, (.long s2))])), (.inr (cn1, [(fk4, .ref 3), (fk5, .int 2)])), (.inl ((.object "com/example/chronogate/chronogate/Event"), [.ref 0, .null, .null, .null, .null, .null, .null, .null]))] = σ' ∧ u = u') ∨ (¬ t2 < t1 ∧ t2 = t1 ∧ ¬ s2 < s1 ∧ s2 = s1 ∧ v = some (.int 0) ∧ [(.inr (cn0, [(fk0, (.long t1)), (fk1, .null), (fk2, .null), (fk3, (.long s1))])), (.inr (cn0, [(fk0, (.long t2)), (fk1, .null), (fk2, .null), (fk3, (.long s2))])), (.inr (cn1, [(fk4, .ref 3), (fk5, .int 2)])), (.inl ((.object "com/example/chronogate/chronogate/Event"), [.ref 0, .null, .null, .null, .null, .null, .null, .null]))] = σ' ∧ u = u') ∨ (¬ t2 < t1 ∧ t2 = t1 ∧ s2 < s1 ∧ v = some (.int (-1)) ∧ [(.inr (cn0, [(fk0, (.long t1)), (fk1, .null), (fk2, .null), (fk3, (.long s1))])), (.inr (cn0, [(fk0, (.long t2)), (fk1, .null), (fk2, .null), (fk3, (.long s2))])), (.inr (cn1, [(fk4, .ref 3), (fk5, .int 2)])), (.inl ((.object "com/example/chronogate/chronogate/Event"), [.ref 0, .null, .null, .null, .null, .null, .null, .null]))] = σ' ∧ u = u') ∨ (t2 < t1 ∧ v = some (.int (-1)) ∧ [(.inr (cn0, [(fk0, (.long t1)), (fk1, .null), (fk2, .null), (fk3, (.long s1))])), (.inr (cn0, [(fk0, (.long t2)), (fk1, .null), (fk2, .null), (fk3, (.long s2))])), (.inr (cn1, [(fk4, .ref 3), (fk5, .int 2)])), (.inl ((.object "com/example/chronogate/chronogate/Event"), [.ref 0, .null, .null, .null, .null, .null, .null, .null]))] = σ' ∧ u = u')) := by
  refine .s (.aloadN a9_0 rfl rfl) <| .s (.getF 0 a9_1 (wd hw 10 rfl) rfl rfl) <| .s (.aloadN a9_4 rfl rfl) <| .s (.getF 0 a9_5 (wd hw 10 rfl) rfl rfl) ?_
  refine .callS a9_8 (ok10 hw _ _ _ _) (wd hw 57 rfl) (wd hw 58 rfl) (argsL := [(.long t2), (.long t1)]) (S := []) (au10_18 hw _ _ t1 t2 s1 s2 _) rfl rfl rfl rfl rfl rfl (Nat.le_of_ble_eq_true rfl) (Nat.le_of_ble_eq_true rfl) ?_
  rintro _ _ _ (⟨q1, q2, rfl, rfl, rfl⟩ | ⟨q3, q4, rfl, rfl, rfl⟩ | ⟨q5, rfl, rfl, rfl⟩)
  · skip
    show WGo _ (11, [wR 1, wR 0, wU], [.int 1], [(.inr (cn0, [(fk0, (.long t1)), (fk1, .null), (fk2, .null), (fk3, (.long s1))])), (.inr (cn0, [(fk0, (.long t2)), (fk1, .null), (fk2, .null), (fk3, (.long s2))])), (.inr (cn1, [(fk4, .ref 3), (fk5, .int 2)])), (.inl ((.object "com/example/chronogate/chronogate/Event"), [.ref 0, .null, .null, .null, .null, .null, .null, .null]))], u) _
    refine .s (.istoreN (L' := [wR 1, wR 0, wI 1]) a9_11 rfl) <| .s (.iloadN a9_12 rfl) <| .s (.ifF a9_13 (by decide)) <| .s (.iloadN a9_16 rfl) <| .s (.goto a9_17) ?_
    refine .ireturn .int a9_31 rfl (by simp) ?_
    exact Or.inl ⟨q1, q2, rfl, rfl, rfl⟩
  · skip
    show WGo _ (11, [wR 1, wR 0, wU], [.int 0], [(.inr (cn0, [(fk0, (.long t1)), (fk1, .null), (fk2, .null), (fk3, (.long s1))])), (.inr (cn0, [(fk0, (.long t2)), (fk1, .null), (fk2, .null), (fk3, (.long s2))])), (.inr (cn1, [(fk4, .ref 3), (fk5, .int 2)])), (.inl ((.object "com/example/chronogate/chronogate/Event"), [.ref 0, .null, .null, .null, .null, .null, .null, .null]))], u) _
    refine .s (.istoreN (L' := [wR 1, wR 0, wI 0]) a9_11 rfl) <| .s (.iloadN a9_12 rfl) <| .s (.ifT a9_13 (by decide)) <| .s (.aloadN a9_20 rfl rfl) <| .s (.getF 3 a9_21 (wd hw 16 rfl) rfl rfl) <| .s (.aloadN a9_24 rfl rfl) <| .s (.getF 3 a9_25 (wd hw 16 rfl) rfl rfl) ?_
    refine .callS a9_28 (ok10 hw _ _ _ _) (wd hw 57 rfl) (wd hw 58 rfl) (argsL := [(.long s2), (.long s1)]) (S := []) (au10_19 hw _ _ t1 t2 s1 s2 _) rfl rfl rfl rfl rfl rfl (Nat.le_of_ble_eq_true rfl) (Nat.le_of_ble_eq_true rfl) ?_
    rintro _ _ _ (⟨q6, q7, rfl, rfl, rfl⟩ | ⟨q8, q9, rfl, rfl, rfl⟩ | ⟨q10, rfl, rfl, rfl⟩)
    · skip
      show WGo _ (31, [wR 1, wR 0, wI 0], [.int 1], [(.inr (cn0, [(fk0, (.long t1)), (fk1, .null), (fk2, .null), (fk3, (.long s1))])), (.inr (cn0, [(fk0, (.long t2)), (fk1, .null), (fk2, .null), (fk3, (.long s2))])), (.inr (cn1, [(fk4, .ref 3), (fk5, .int 2)])), (.inl ((.object "com/example/chronogate/chronogate/Event"), [.ref 0, .null, .null, .null, .null, .null, .null, .null]))], u) _
      refine .ireturn .int a9_31 rfl (by simp) ?_
      exact Or.inr (Or.inl ⟨q3, q4, q6, q7, rfl, rfl, rfl⟩)
    · skip
      show WGo _ (31, [wR 1, wR 0, wI 0], [.int 0], [(.inr (cn0, [(fk0, (.long t1)), (fk1, .null), (fk2, .null), (fk3, (.long s1))])), (.inr (cn0, [(fk0, (.long t2)), (fk1, .null), (fk2, .null), (fk3, (.long s2))])), (.inr (cn1, [(fk4, .ref 3), (fk5, .int 2)])), (.inl ((.object "com/example/chronogate/chronogate/Event"), [.ref 0, .null, .null, .null, .null, .null, .null, .null]))], u) _
      refine .ireturn .int a9_31 rfl (by simp) ?_
      exact Or.inr (Or.inr (Or.inl ⟨q3, q4, q8, q9, rfl, rfl, rfl⟩))
    · skip
      show WGo _ (31, [wR 1, wR 0, wI 0], [.int (-1)], [(.inr (cn0, [(fk0, (.long t1)), (fk1, .null), (fk2, .null), (fk3, (.long s1))])), (.inr (cn0, [(fk0, (.long t2)), (fk1, .null), (fk2, .null), (fk3, (.long s2))])), (.inr (cn1, [(fk4, .ref 3), (fk5, .int 2)])), (.inl ((.object "com/example/chronogate/chronogate/Event"), [.ref 0, .null, .null, .null, .null, .null, .null, .null]))], u) _
      refine .ireturn .int a9_31 rfl (by simp) ?_
      exact Or.inr (Or.inr (Or.inr (Or.inl ⟨q3, q4, q10, rfl, rfl, rfl⟩)))
  · skip
    show WGo _ (11, [wR 1, wR 0, wU], [.int (-1)], [(.inr (cn0, [(fk0, (.long t1)), (fk1, .null), (fk2, .null), (fk3, (.long s1))])), (.inr (cn0, [(fk0, (.long t2)), (fk1, .null), (fk2, .null), (fk3, (.long s2))])), (.inr (cn1, [(fk4, .ref 3), (fk5, .int 2)])), (.inl ((.object "com/example/chronogate/chronogate/Event"), [.ref 0, .null, .null, .null, .null, .null, .null, .null]))], u) _
    refine .s (.istoreN (L' := [wR 1, wR 0, wI (-1)]) a9_11 rfl) <| .s (.iloadN a9_12 rfl) <| .s (.ifF a9_13 (by decide)) <| .s (.iloadN a9_16 rfl) <| .s (.goto a9_17) ?_
    refine .ireturn .int a9_31 rfl (by simp) ?_
    exact Or.inr (Or.inr (Or.inr (Or.inr (⟨q5, rfl, rfl, rfl⟩))))
set_option maxHeartbeats 4000000 in
theorem au8_16 {Z : State} {a0 : Array Value} (hw : ∀ d ∈ tables_1, d.before a0 Z = true) (ρ : Nat → Nat) (n0 : Nat) (t1 : Int64) (t2 : Int64) (s1 : Int64) (s2 : Int64) (u : Nat) : WGo (g8 Z ρ n0 4 u) (0, [wR 2, wR 1, wU, wU], [], [(.inr (cn0, [(fk0, (.long t1)), (fk1, .null), (fk2, .null), (fk3, (.long s1))])), (.inr (cn0, [(fk0, (.long t2)), (fk1, .null), (fk2, .null), (fk3, (.long s2))])), (.inr (cn1, [(fk4, .ref 3), (fk5, .int 1)])), (.inl ((.object "com/example/chronogate/chronogate/Event"), [.ref 0, .null, .null, .null, .null, .null, .null, .null]))], u) (fun v σ' u' => (¬ t2 < t1 ∧ ¬ t2 = t1 ∧ v = none ∧ [(.inr (cn0, [(fk0, (.long t1)), (fk1, .null), (fk2, .null), (fk3, (.long s1))])), (.inr (cn0, [(fk0, (.long t2)), (fk1, .null), (fk2, .null), (fk3, (.long s2))])), (.inr (cn1, [(fk4, .ref 3), (fk5, .int 2)])), (.inl ((.object "com/example/chronogate/chronogate/Event"), [.ref 0, .ref 1, .null, .null, .null, .null, .null, .null]))] = σ' ∧ u = u') ∨ (¬ t2 < t1 ∧ t2 = t1 ∧ ¬ s2 < s1 ∧ ¬ s2 = s1 ∧ v = none ∧ [(.inr (cn0, [(fk0, (.long t1)), (fk1, .null), (fk2, .null), (fk3, (.long s1))])), (.inr (cn0, [(fk0, (.long t2)), (fk1, .null), (fk2, .null), (fk3, (.long s2))])), (.inr (cn1, [(fk4, .ref 3), (fk5, .int 2)])), (.inl ((.object "com/example/chronogate/chronogate/Event"), [.ref 0, .ref 1, .null, .null, .null, .null, .null, .null]))] = σ' ∧ u = u') ∨ (¬ t2 < t1 ∧ t2 = t1 ∧ ¬ s2 < s1 ∧ s2 = s1 ∧ v = none ∧ [(.inr (cn0, [(fk0, (.long t1)), (fk1, .null), (fk2, .null), (fk3, (.long s1))])), (.inr (cn0, [(fk0, (.long t2)), (fk1, .null), (fk2, .null), (fk3, (.long s2))])), (.inr (cn1, [(fk4, .ref 3), (fk5, .int 2)])), (.inl ((.object "com/example/chronogate/chronogate/Event"), [.ref 0, .ref 1, .null, .null, .null, .null, .null, .null]))] = σ' ∧ u = u') ∨ (¬ t2 < t1 ∧ t2 = t1 ∧ s2 < s1 ∧ v = none ∧ [(.inr (cn0, [(fk0, (.long t1)), (fk1, .null), (fk2, .null), (fk3, (.long s1))])), (.inr (cn0, [(fk0, (.long t2)), (fk1, .null), (fk2, .null), (fk3, (.long s2))])), (.inr (cn1, [(fk4, .ref 3), (fk5, .int 2)])), (.inl ((.object "com/example/chronogate/chronogate/Event"), [.ref 1, .ref 0, .null, .null, .null, .null, .null, .null]))] = σ' ∧ u = u') ∨ (t2 < t1 ∧ v = none ∧ [(.inr (cn0, [(fk0, (.long t1)), (fk1, .null), (fk2, .null), (fk3, (.long s1))])), (.inr (cn0, [(fk0, (.long t2)), (fk1, .null), (fk2, .null), (fk3, (.long s2))])), (.inr (cn1, [(fk4, .ref 3), (fk5, .int 2)])), (.inl ((.object "com/example/chronogate/chronogate/Event"), [.ref 1, .ref 0, .null, .null, .null, .null, .null, .null]))] = σ' ∧ u = u')) := by
  refine .s (.aloadN a8_0 rfl rfl) <| .s (.getF 1 a8_1 (wd hw 37 rfl) rfl rfl) <| .s (.aloadN a8_4 rfl rfl) <| .s (.getF 0 a8_5 (wd hw 30 rfl) rfl rfl) <| .s (.alen (8 : Int32) a8_8 rfl rfl) <| .s (.icmpT a8_9 (by decide)) <| .s (.aloadN a8_32 rfl rfl) ?_
  refine .s (.dup a8_33 rfl) <| .s (.getF 1 a8_34 (wd hw 37 rfl) rfl rfl) <| .s (.dupX1 a8_37 rfl rfl) <| .s (.iconst (1 : Int32) a8_38 rfl) <| .s (.iadd a8_39) ?_
  show WGo _ (40, [wR 2, wR 1, wU, wU], [.int 2, .ref 2, .int 1], [(.inr (cn0, [(fk0, (.long t1)), (fk1, .null), (fk2, .null), (fk3, (.long s1))])), (.inr (cn0, [(fk0, (.long t2)), (fk1, .null), (fk2, .null), (fk3, (.long s2))])), (.inr (cn1, [(fk4, .ref 3), (fk5, .int 1)])), (.inl ((.object "com/example/chronogate/chronogate/Event"), [.ref 0, .null, .null, .null, .null, .null, .null, .null]))], u) _
  refine .s (.putF (ty := .int) 1 (.int 2) a8_40 (wd hw 37 rfl) rfl rfl (Or.inl (wd hw 38 rfl)) (wd hw 19 rfl) (by decide) rfl rfl) ?_
  show WGo _ (43, [wR 2, wR 1, wU, wU], [.int 1], [(.inr (cn0, [(fk0, (.long t1)), (fk1, .null), (fk2, .null), (fk3, (.long s1))])), (.inr (cn0, [(fk0, (.long t2)), (fk1, .null), (fk2, .null), (fk3, (.long s2))])), (.inr (cn1, [(fk4, .ref 3), (fk5, .int 2)])), (.inl ((.object "com/example/chronogate/chronogate/Event"), [.ref 0, .null, .null, .null, .null, .null, .null, .null]))], u) _
  refine .s (.istoreN (L' := [wR 2, wR 1, wI 1, wU]) a8_43 rfl) <| .s (.iloadN a8_44 rfl) <| .s (.ifF a8_45 (by decide)) <| .s (.iloadN a8_48 rfl) <| .s (.iconst (1 : Int32) a8_49 rfl) <| .s (.isub a8_50) ?_
  show WGo _ (51, [wR 2, wR 1, wI 1, wU], [.int 0], [(.inr (cn0, [(fk0, (.long t1)), (fk1, .null), (fk2, .null), (fk3, (.long s1))])), (.inr (cn0, [(fk0, (.long t2)), (fk1, .null), (fk2, .null), (fk3, (.long s2))])), (.inr (cn1, [(fk4, .ref 3), (fk5, .int 2)])), (.inl ((.object "com/example/chronogate/chronogate/Event"), [.ref 0, .null, .null, .null, .null, .null, .null, .null]))], u) _
  refine .s (.iconst (2 : Int32) a8_51 rfl) <| .s (.idiv a8_52 (by decide)) ?_
  show WGo _ (53, [wR 2, wR 1, wI 1, wU], [.int 0], [(.inr (cn0, [(fk0, (.long t1)), (fk1, .null), (fk2, .null), (fk3, (.long s1))])), (.inr (cn0, [(fk0, (.long t2)), (fk1, .null), (fk2, .null), (fk3, (.long s2))])), (.inr (cn1, [(fk4, .ref 3), (fk5, .int 2)])), (.inl ((.object "com/example/chronogate/chronogate/Event"), [.ref 0, .null, .null, .null, .null, .null, .null, .null]))], u) _
  refine .s (.istoreN (L' := [wR 2, wR 1, wI 1, wI 0]) a8_53 rfl) <| .s (.aloadN a8_54 rfl rfl) <| .s (.aloadN a8_55 rfl rfl) <| .s (.getF 0 a8_56 (wd hw 30 rfl) rfl rfl) <| .s (.iloadN a8_59 rfl) <| .s (.aaload 0 a8_60 rfl rfl (by decide) rfl rfl) ?_
  refine .callS a8_61 (ok9 hw _ _ _ _) (wd hw 54 rfl) (wd hw 55 rfl) (argsL := [.ref 1, .ref 0]) (S := []) (au9_17 hw _ _ t1 t2 s1 s2 _) rfl rfl rfl rfl rfl rfl (Nat.le_of_ble_eq_true rfl) (Nat.le_of_ble_eq_true rfl) ?_
  rintro _ _ _ (⟨q11, q12, rfl, rfl, rfl⟩ | ⟨q13, q14, q15, q16, rfl, rfl, rfl⟩ | ⟨q17, q18, q19, q20, rfl, rfl, rfl⟩ | ⟨q21, q22, q23, rfl, rfl, rfl⟩ | ⟨q24, rfl, rfl, rfl⟩)
  · skip
    show WGo _ (64, [wR 2, wR 1, wI 1, wI 0], [.int 1], [(.inr (cn0, [(fk0, (.long t1)), (fk1, .null), (fk2, .null), (fk3, (.long s1))])), (.inr (cn0, [(fk0, (.long t2)), (fk1, .null), (fk2, .null), (fk3, (.long s2))])), (.inr (cn1, [(fk4, .ref 3), (fk5, .int 2)])), (.inl ((.object "com/example/chronogate/chronogate/Event"), [.ref 0, .null, .null, .null, .null, .null, .null, .null]))], u) _
    refine .s (.ifF a8_64 (by decide)) <| .s (.goto a8_67) <| .s (.aloadN a8_87 rfl rfl) <| .s (.getF 0 a8_88 (wd hw 30 rfl) rfl rfl) <| .s (.iloadN a8_91 rfl) <| .s (.aloadN a8_92 rfl rfl) <| .s (.aastore 1 a8_93 rfl rfl (by decide) rfl (Nat.le_of_ble_eq_true rfl)) ?_
    show WGo _ (94, [wR 2, wR 1, wI 1, wI 0], [], [(.inr (cn0, [(fk0, (.long t1)), (fk1, .null), (fk2, .null), (fk3, (.long s1))])), (.inr (cn0, [(fk0, (.long t2)), (fk1, .null), (fk2, .null), (fk3, (.long s2))])), (.inr (cn1, [(fk4, .ref 3), (fk5, .int 2)])), (.inl ((.object "com/example/chronogate/chronogate/Event"), [.ref 0, .ref 1, .null, .null, .null, .null, .null, .null]))], u) _
    refine .vreturn a8_94 rfl ?_
    exact Or.inl ⟨q11, q12, rfl, rfl, rfl⟩
  · skip
    show WGo _ (64, [wR 2, wR 1, wI 1, wI 0], [.int 1], [(.inr (cn0, [(fk0, (.long t1)), (fk1, .null), (fk2, .null), (fk3, (.long s1))])), (.inr (cn0, [(fk0, (.long t2)), (fk1, .null), (fk2, .null), (fk3, (.long s2))])), (.inr (cn1, [(fk4, .ref 3), (fk5, .int 2)])), (.inl ((.object "com/example/chronogate/chronogate/Event"), [.ref 0, .null, .null, .null, .null, .null, .null, .null]))], u) _
    refine .s (.ifF a8_64 (by decide)) <| .s (.goto a8_67) <| .s (.aloadN a8_87 rfl rfl) <| .s (.getF 0 a8_88 (wd hw 30 rfl) rfl rfl) <| .s (.iloadN a8_91 rfl) <| .s (.aloadN a8_92 rfl rfl) <| .s (.aastore 1 a8_93 rfl rfl (by decide) rfl (Nat.le_of_ble_eq_true rfl)) ?_
    show WGo _ (94, [wR 2, wR 1, wI 1, wI 0], [], [(.inr (cn0, [(fk0, (.long t1)), (fk1, .null), (fk2, .null), (fk3, (.long s1))])), (.inr (cn0, [(fk0, (.long t2)), (fk1, .null), (fk2, .null), (fk3, (.long s2))])), (.inr (cn1, [(fk4, .ref 3), (fk5, .int 2)])), (.inl ((.object "com/example/chronogate/chronogate/Event"), [.ref 0, .ref 1, .null, .null, .null, .null, .null, .null]))], u) _
    refine .vreturn a8_94 rfl ?_
    exact Or.inr (Or.inl ⟨q13, q14, q15, q16, rfl, rfl, rfl⟩)
  · skip
    show WGo _ (64, [wR 2, wR 1, wI 1, wI 0], [.int 0], [(.inr (cn0, [(fk0, (.long t1)), (fk1, .null), (fk2, .null), (fk3, (.long s1))])), (.inr (cn0, [(fk0, (.long t2)), (fk1, .null), (fk2, .null), (fk3, (.long s2))])), (.inr (cn1, [(fk4, .ref 3), (fk5, .int 2)])), (.inl ((.object "com/example/chronogate/chronogate/Event"), [.ref 0, .null, .null, .null, .null, .null, .null, .null]))], u) _
    refine .s (.ifF a8_64 (by decide)) <| .s (.goto a8_67) <| .s (.aloadN a8_87 rfl rfl) <| .s (.getF 0 a8_88 (wd hw 30 rfl) rfl rfl) <| .s (.iloadN a8_91 rfl) <| .s (.aloadN a8_92 rfl rfl) <| .s (.aastore 1 a8_93 rfl rfl (by decide) rfl (Nat.le_of_ble_eq_true rfl)) ?_
    show WGo _ (94, [wR 2, wR 1, wI 1, wI 0], [], [(.inr (cn0, [(fk0, (.long t1)), (fk1, .null), (fk2, .null), (fk3, (.long s1))])), (.inr (cn0, [(fk0, (.long t2)), (fk1, .null), (fk2, .null), (fk3, (.long s2))])), (.inr (cn1, [(fk4, .ref 3), (fk5, .int 2)])), (.inl ((.object "com/example/chronogate/chronogate/Event"), [.ref 0, .ref 1, .null, .null, .null, .null, .null, .null]))], u) _
    refine .vreturn a8_94 rfl ?_
    exact Or.inr (Or.inr (Or.inl ⟨q17, q18, q19, q20, rfl, rfl, rfl⟩))
  · skip
    show WGo _ (64, [wR 2, wR 1, wI 1, wI 0], [.int (-1)], [(.inr (cn0, [(fk0, (.long t1)), (fk1, .null), (fk2, .null), (fk3, (.long s1))])), (.inr (cn0, [(fk0, (.long t2)), (fk1, .null), (fk2, .null), (fk3, (.long s2))])), (.inr (cn1, [(fk4, .ref 3), (fk5, .int 2)])), (.inl ((.object "com/example/chronogate/chronogate/Event"), [.ref 0, .null, .null, .null, .null, .null, .null, .null]))], u) _
    refine .s (.ifT a8_64 (by decide)) <| .s (.aloadN a8_70 rfl rfl) <| .s (.getF 0 a8_71 (wd hw 30 rfl) rfl rfl) <| .s (.iloadN a8_74 rfl) <| .s (.aloadN a8_75 rfl rfl) <| .s (.getF 0 a8_76 (wd hw 30 rfl) rfl rfl) <| .s (.iloadN a8_79 rfl) ?_
    refine .s (.aaload 0 a8_80 rfl rfl (by decide) rfl rfl) <| .s (.aastore 1 a8_81 rfl rfl (by decide) rfl (Nat.le_of_ble_eq_true rfl)) ?_
    show WGo _ (82, [wR 2, wR 1, wI 1, wI 0], [], [(.inr (cn0, [(fk0, (.long t1)), (fk1, .null), (fk2, .null), (fk3, (.long s1))])), (.inr (cn0, [(fk0, (.long t2)), (fk1, .null), (fk2, .null), (fk3, (.long s2))])), (.inr (cn1, [(fk4, .ref 3), (fk5, .int 2)])), (.inl ((.object "com/example/chronogate/chronogate/Event"), [.ref 0, .ref 0, .null, .null, .null, .null, .null, .null]))], u) _
    refine .s (.iloadN a8_82 rfl) <| .s (.istoreN (L' := [wR 2, wR 1, wI 0, wI 0]) a8_83 rfl) <| .s (.goto a8_84) <| .s (.iloadN a8_44 rfl) <| .s (.ifT a8_45 (by decide)) <| .s (.aloadN a8_87 rfl rfl) <| .s (.getF 0 a8_88 (wd hw 30 rfl) rfl rfl) ?_
    refine .s (.iloadN a8_91 rfl) <| .s (.aloadN a8_92 rfl rfl) <| .s (.aastore 0 a8_93 rfl rfl (by decide) rfl (Nat.le_of_ble_eq_true rfl)) ?_
    show WGo _ (94, [wR 2, wR 1, wI 0, wI 0], [], [(.inr (cn0, [(fk0, (.long t1)), (fk1, .null), (fk2, .null), (fk3, (.long s1))])), (.inr (cn0, [(fk0, (.long t2)), (fk1, .null), (fk2, .null), (fk3, (.long s2))])), (.inr (cn1, [(fk4, .ref 3), (fk5, .int 2)])), (.inl ((.object "com/example/chronogate/chronogate/Event"), [.ref 1, .ref 0, .null, .null, .null, .null, .null, .null]))], u) _
    refine .vreturn a8_94 rfl ?_
    exact Or.inr (Or.inr (Or.inr (Or.inl ⟨q21, q22, q23, rfl, rfl, rfl⟩)))
  · skip
    show WGo _ (64, [wR 2, wR 1, wI 1, wI 0], [.int (-1)], [(.inr (cn0, [(fk0, (.long t1)), (fk1, .null), (fk2, .null), (fk3, (.long s1))])), (.inr (cn0, [(fk0, (.long t2)), (fk1, .null), (fk2, .null), (fk3, (.long s2))])), (.inr (cn1, [(fk4, .ref 3), (fk5, .int 2)])), (.inl ((.object "com/example/chronogate/chronogate/Event"), [.ref 0, .null, .null, .null, .null, .null, .null, .null]))], u) _
    refine .s (.ifT a8_64 (by decide)) <| .s (.aloadN a8_70 rfl rfl) <| .s (.getF 0 a8_71 (wd hw 30 rfl) rfl rfl) <| .s (.iloadN a8_74 rfl) <| .s (.aloadN a8_75 rfl rfl) <| .s (.getF 0 a8_76 (wd hw 30 rfl) rfl rfl) <| .s (.iloadN a8_79 rfl) ?_
    refine .s (.aaload 0 a8_80 rfl rfl (by decide) rfl rfl) <| .s (.aastore 1 a8_81 rfl rfl (by decide) rfl (Nat.le_of_ble_eq_true rfl)) ?_
    show WGo _ (82, [wR 2, wR 1, wI 1, wI 0], [], [(.inr (cn0, [(fk0, (.long t1)), (fk1, .null), (fk2, .null), (fk3, (.long s1))])), (.inr (cn0, [(fk0, (.long t2)), (fk1, .null), (fk2, .null), (fk3, (.long s2))])), (.inr (cn1, [(fk4, .ref 3), (fk5, .int 2)])), (.inl ((.object "com/example/chronogate/chronogate/Event"), [.ref 0, .ref 0, .null, .null, .null, .null, .null, .null]))], u) _
    refine .s (.iloadN a8_82 rfl) <| .s (.istoreN (L' := [wR 2, wR 1, wI 0, wI 0]) a8_83 rfl) <| .s (.goto a8_84) <| .s (.iloadN a8_44 rfl) <| .s (.ifT a8_45 (by decide)) <| .s (.aloadN a8_87 rfl rfl) <| .s (.getF 0 a8_88 (wd hw 30 rfl) rfl rfl) ?_
    refine .s (.iloadN a8_91 rfl) <| .s (.aloadN a8_92 rfl rfl) <| .s (.aastore 0 a8_93 rfl rfl (by decide) rfl (Nat.le_of_ble_eq_true rfl)) ?_
    show WGo _ (94, [wR 2, wR 1, wI 0, wI 0], [], [(.inr (cn0, [(fk0, (.long t1)), (fk1, .null), (fk2, .null), (fk3, (.long s1))])), (.inr (cn0, [(fk0, (.long t2)), (fk1, .null), (fk2, .null), (fk3, (.long s2))])), (.inr (cn1, [(fk4, .ref 3), (fk5, .int 2)])), (.inl ((.object "com/example/chronogate/chronogate/Event"), [.ref 1, .ref 0, .null, .null, .null, .null, .null, .null]))], u) _
    refine .vreturn a8_94 rfl ?_
    exact Or.inr (Or.inr (Or.inr (Or.inr (⟨q24, rfl, rfl, rfl⟩))))
set_option maxHeartbeats 4000000 in
theorem au6_20 {Z : State} {a0 : Array Value} (hw : ∀ d ∈ tables_1, d.before a0 Z = true) (ρ : Nat → Nat) (n0 : Nat) (t1 : Int64) (t2 : Int64) (s1 : Int64) (s2 : Int64) (u : Nat) : WGo (g6 Z ρ n0 4 u) (0, [wI 0, wI 2], [], [(.inr (cn0, [(fk0, (.long t1)), (fk1, .null), (fk2, .null), (fk3, (.long s1))])), (.inr (cn0, [(fk0, (.long t2)), (fk1, .null), (fk2, .null), (fk3, (.long s2))])), (.inr (cn1, [(fk4, .ref 3), (fk5, .int 2)])), (.inl ((.object "com/example/chronogate/chronogate/Event"), [.ref 0, .ref 1, .null, .null, .null, .null, .null, .null]))], u) (fun v σ' u' => v = some (.int 2) ∧ [(.inr (cn0, [(fk0, (.long t1)), (fk1, .null), (fk2, .null), (fk3, (.long s1))])), (.inr (cn0, [(fk0, (.long t2)), (fk1, .null), (fk2, .null), (fk3, (.long s2))])), (.inr (cn1, [(fk4, .ref 3), (fk5, .int 2)])), (.inl ((.object "com/example/chronogate/chronogate/Event"), [.ref 0, .ref 1, .null, .null, .null, .null, .null, .null]))] = σ' ∧ u = u') := by
  refine .s (.iloadN a6_0 rfl) <| .s (.iloadN a6_1 rfl) <| .s (.icmpT a6_2 (by decide)) <| .s (.iloadN a6_9 rfl) ?_
  refine .ireturn .int a6_10 rfl (by simp) ?_
  exact ⟨rfl, rfl, rfl⟩
set_option maxHeartbeats 4000000 in
theorem au5_21 {Z : State} {a0 : Array Value} (hw : ∀ d ∈ tables_1, d.before a0 Z = true) (ρ : Nat → Nat) (n0 : Nat) (t1 : Int64) (t2 : Int64) (s1 : Int64) (s2 : Int64) (u : Nat) : WGo (g5 Z ρ n0 4 u) (0, [wR 2], [], [(.inr (cn0, [(fk0, (.long t1)), (fk1, .null), (fk2, .null), (fk3, (.long s1))])), (.inr (cn0, [(fk0, (.long t2)), (fk1, .null), (fk2, .null), (fk3, (.long s2))])), (.inr (cn1, [(fk4, .ref 3), (fk5, .int 2)])), (.inl ((.object "com/example/chronogate/chronogate/Event"), [.ref 0, .ref 1, .null, .null, .null, .null, .null, .null]))], u) (fun v σ' u' => v = some (.int 0) ∧ [(.inr (cn0, [(fk0, (.long t1)), (fk1, .null), (fk2, .null), (fk3, (.long s1))])), (.inr (cn0, [(fk0, (.long t2)), (fk1, .null), (fk2, .null), (fk3, (.long s2))])), (.inr (cn1, [(fk4, .ref 3), (fk5, .int 2)])), (.inl ((.object "com/example/chronogate/chronogate/Event"), [.ref 0, .ref 1, .null, .null, .null, .null, .null, .null]))] = σ' ∧ u = u') := by
  refine .s (.aloadN a5_0 rfl rfl) <| .s (.getF 1 a5_1 (wd hw 37 rfl) rfl rfl) <| .s (.ifT a5_4 (by decide)) <| .s (.iconst (0 : Int32) a5_11 rfl) ?_
  refine .ireturn .boolean a5_12 rfl (by simp) ?_
  exact ⟨rfl, rfl, rfl⟩
set_option maxHeartbeats 4000000 in
theorem au7_22 {Z : State} {a0 : Array Value} (hw : ∀ d ∈ tables_1, d.before a0 Z = true) (ρ : Nat → Nat) (n0 : Nat) (t1 : Int64) (t2 : Int64) (s1 : Int64) (s2 : Int64) (u : Nat) : WGo (g7 Z ρ n0 4 u) (0, [wR 2], [], [(.inr (cn0, [(fk0, (.long t1)), (fk1, .null), (fk2, .null), (fk3, (.long s1))])), (.inr (cn0, [(fk0, (.long t2)), (fk1, .null), (fk2, .null), (fk3, (.long s2))])), (.inr (cn1, [(fk4, .ref 3), (fk5, .int 2)])), (.inl ((.object "com/example/chronogate/chronogate/Event"), [.ref 0, .ref 1, .null, .null, .null, .null, .null, .null]))], u) (fun v σ' u' => v = some (.ref 0) ∧ [(.inr (cn0, [(fk0, (.long t1)), (fk1, .null), (fk2, .null), (fk3, (.long s1))])), (.inr (cn0, [(fk0, (.long t2)), (fk1, .null), (fk2, .null), (fk3, (.long s2))])), (.inr (cn1, [(fk4, .ref 3), (fk5, .int 2)])), (.inl ((.object "com/example/chronogate/chronogate/Event"), [.ref 0, .ref 1, .null, .null, .null, .null, .null, .null]))] = σ' ∧ u = u') := by
  refine .s (.aloadN a7_0 rfl rfl) <| .s (.getF 1 a7_1 (wd hw 37 rfl) rfl rfl) <| .s (.ifT a7_4 (by decide)) <| .s (.aloadN a7_11 rfl rfl) <| .s (.getF 0 a7_12 (wd hw 30 rfl) rfl rfl) <| .s (.iconst (0 : Int32) a7_15 rfl) <| .s (.aaload 0 a7_16 rfl rfl (by decide) rfl rfl) ?_
  refine .areturn (.object "com/example/chronogate/chronogate/Event") a7_17 rfl rfl rfl ?_
  exact ⟨rfl, rfl, rfl⟩
set_option maxHeartbeats 4000000 in
theorem au6_23 {Z : State} {a0 : Array Value} (hw : ∀ d ∈ tables_1, d.before a0 Z = true) (ρ : Nat → Nat) (n0 : Nat) (t1 : Int64) (t2 : Int64) (s1 : Int64) (s2 : Int64) (u : Nat) : WGo (g6 Z ρ n0 4 u) (0, [wI 0, wI 2], [], [(.inr (cn0, [(fk0, (.long t1)), (fk1, .null), (fk2, .null), (fk3, (.long s1))])), (.inr (cn0, [(fk0, (.long t2)), (fk1, .null), (fk2, .null), (fk3, (.long s2))])), (.inr (cn1, [(fk4, .ref 3), (fk5, .int 2)])), (.inl ((.object "com/example/chronogate/chronogate/Event"), [.ref 1, .ref 0, .null, .null, .null, .null, .null, .null]))], u) (fun v σ' u' => v = some (.int 2) ∧ [(.inr (cn0, [(fk0, (.long t1)), (fk1, .null), (fk2, .null), (fk3, (.long s1))])), (.inr (cn0, [(fk0, (.long t2)), (fk1, .null), (fk2, .null), (fk3, (.long s2))])), (.inr (cn1, [(fk4, .ref 3), (fk5, .int 2)])), (.inl ((.object "com/example/chronogate/chronogate/Event"), [.ref 1, .ref 0, .null, .null, .null, .null, .null, .null]))] = σ' ∧ u = u') := by
  refine .s (.iloadN a6_0 rfl) <| .s (.iloadN a6_1 rfl) <| .s (.icmpT a6_2 (by decide)) <| .s (.iloadN a6_9 rfl) ?_
  refine .ireturn .int a6_10 rfl (by simp) ?_
  exact ⟨rfl, rfl, rfl⟩
set_option maxHeartbeats 4000000 in
theorem au5_24 {Z : State} {a0 : Array Value} (hw : ∀ d ∈ tables_1, d.before a0 Z = true) (ρ : Nat → Nat) (n0 : Nat) (t1 : Int64) (t2 : Int64) (s1 : Int64) (s2 : Int64) (u : Nat) : WGo (g5 Z ρ n0 4 u) (0, [wR 2], [], [(.inr (cn0, [(fk0, (.long t1)), (fk1, .null), (fk2, .null), (fk3, (.long s1))])), (.inr (cn0, [(fk0, (.long t2)), (fk1, .null), (fk2, .null), (fk3, (.long s2))])), (.inr (cn1, [(fk4, .ref 3), (fk5, .int 2)])), (.inl ((.object "com/example/chronogate/chronogate/Event"), [.ref 1, .ref 0, .null, .null, .null, .null, .null, .null]))], u) (fun v σ' u' => v = some (.int 0) ∧ [(.inr (cn0, [(fk0, (.long t1)), (fk1, .null), (fk2, .null), (fk3, (.long s1))])), (.inr (cn0, [(fk0, (.long t2)), (fk1, .null), (fk2, .null), (fk3, (.long s2))])), (.inr (cn1, [(fk4, .ref 3), (fk5, .int 2)])), (.inl ((.object "com/example/chronogate/chronogate/Event"), [.ref 1, .ref 0, .null, .null, .null, .null, .null, .null]))] = σ' ∧ u = u') := by
  refine .s (.aloadN a5_0 rfl rfl) <| .s (.getF 1 a5_1 (wd hw 37 rfl) rfl rfl) <| .s (.ifT a5_4 (by decide)) <| .s (.iconst (0 : Int32) a5_11 rfl) ?_
  refine .ireturn .boolean a5_12 rfl (by simp) ?_
  exact ⟨rfl, rfl, rfl⟩
set_option maxHeartbeats 4000000 in
theorem au7_25 {Z : State} {a0 : Array Value} (hw : ∀ d ∈ tables_1, d.before a0 Z = true) (ρ : Nat → Nat) (n0 : Nat) (t1 : Int64) (t2 : Int64) (s1 : Int64) (s2 : Int64) (u : Nat) : WGo (g7 Z ρ n0 4 u) (0, [wR 2], [], [(.inr (cn0, [(fk0, (.long t1)), (fk1, .null), (fk2, .null), (fk3, (.long s1))])), (.inr (cn0, [(fk0, (.long t2)), (fk1, .null), (fk2, .null), (fk3, (.long s2))])), (.inr (cn1, [(fk4, .ref 3), (fk5, .int 2)])), (.inl ((.object "com/example/chronogate/chronogate/Event"), [.ref 1, .ref 0, .null, .null, .null, .null, .null, .null]))], u) (fun v σ' u' => v = some (.ref 1) ∧ [(.inr (cn0, [(fk0, (.long t1)), (fk1, .null), (fk2, .null), (fk3, (.long s1))])), (.inr (cn0, [(fk0, (.long t2)), (fk1, .null), (fk2, .null), (fk3, (.long s2))])), (.inr (cn1, [(fk4, .ref 3), (fk5, .int 2)])), (.inl ((.object "com/example/chronogate/chronogate/Event"), [.ref 1, .ref 0, .null, .null, .null, .null, .null, .null]))] = σ' ∧ u = u') := by
  refine .s (.aloadN a7_0 rfl rfl) <| .s (.getF 1 a7_1 (wd hw 37 rfl) rfl rfl) <| .s (.ifT a7_4 (by decide)) <| .s (.aloadN a7_11 rfl rfl) <| .s (.getF 0 a7_12 (wd hw 30 rfl) rfl rfl) <| .s (.iconst (0 : Int32) a7_15 rfl) <| .s (.aaload 0 a7_16 rfl rfl (by decide) rfl rfl) ?_
  refine .areturn (.object "com/example/chronogate/chronogate/Event") a7_17 rfl rfl rfl ?_
  exact ⟨rfl, rfl, rfl⟩
set_option maxHeartbeats 40000000 in
theorem seg20 (Z : State) (a0 : Array Value) (hw : ∀ d ∈ tables_1, d.before a0 Z = true) (n0 : Nat) (counts : Int32) (t1 t2 s1 s2 : Int64) : WGo (g0 Z (fun k => n0 + k) n0 0 0) (19, [wI counts, wJ t1, wS, wJ t2, wS, wJ s1, wS, wJ s2, wS, wI 2, wI 0, wU, wU, wU, wU, wU, wU, wU], [], [], 0) (fun v σ' u' => v = some (.int 1) ∧ σ'.length ≤ 16 ∧ u' ≤ 128) := by
  refine .s (.newO (k := 0) [(fk0, .long 0), (fk1, .null), (fk2, .null), (fk3, .long 0)] a0_19 (wd hw 1 rfl) (wd hw 2 rfl) (wd hw 3 rfl) ⟨⟨Or.inr (wd hw 11 rfl), .long, by decide, rfl⟩, ⟨Or.inr (wd hw 13 rfl), (.object "java/util/List"), by decide, rfl⟩, ⟨Or.inr (wd hw 15 rfl), (.object "java/lang/Object"), by decide, rfl⟩, ⟨Or.inr (wd hw 17 rfl), .long, by decide, rfl⟩, trivial⟩ (by decide) rfl (by decide)) ?_
  show WGo _ (22, [wI counts, wJ t1, wS, wJ t2, wS, wJ s1, wS, wJ s2, wS, wI 2, wI 0, wU, wU, wU, wU, wU, wU, wU], [.ref 0], [(.inr (cn0, [(fk0, .long 0), (fk1, .null), (fk2, .null), (fk3, .long 0)]))], 4) _
  refine .s (.dup a0_22 rfl) <| .s (.lloadN a0_23 rfl) <| .s (.aconstNull a0_24) <| .s (.aconstNull a0_25) <| .s (.lload a0_26 rfl) ?_
  refine .callI (k := 0) a0_28 (ok1 hw _ _ _ _) rfl rfl (wd hw 4 rfl) (wd hw 5 rfl) (by decide) (argsL := [(.long t1), .null, .null, (.long s1)]) (S := [.ref 0]) (au1_1 hw _ _ t1 s1 _) rfl rfl rfl rfl rfl rfl (Nat.le_of_ble_eq_true rfl) (Nat.le_of_ble_eq_true rfl) ?_
  rintro _ _ _ ⟨rfl, rfl, rfl⟩
  show WGo _ (31, [wI counts, wJ t1, wS, wJ t2, wS, wJ s1, wS, wJ s2, wS, wI 2, wI 0, wU, wU, wU, wU, wU, wU, wU], [.ref 0], [(.inr (cn0, [(fk0, (.long t1)), (fk1, .null), (fk2, .null), (fk3, (.long s1))]))], 4) _
  refine .s (.astore (L' := [wI counts, wJ t1, wS, wJ t2, wS, wJ s1, wS, wJ s2, wS, wI 2, wI 0, wR 0, wU, wU, wU, wU, wU, wU]) a0_31 rfl rfl) <| .s (.newO (k := 1) [(fk0, .long 0), (fk1, .null), (fk2, .null), (fk3, .long 0)] a0_33 (wd hw 1 rfl) (wd hw 2 rfl) (wd hw 3 rfl) ⟨⟨Or.inr (wd hw 11 rfl), .long, by decide, rfl⟩, ⟨Or.inr (wd hw 13 rfl), (.object "java/util/List"), by decide, rfl⟩, ⟨Or.inr (wd hw 15 rfl), (.object "java/lang/Object"), by decide, rfl⟩, ⟨Or.inr (wd hw 17 rfl), .long, by decide, rfl⟩, trivial⟩ (by decide) rfl (by decide)) ?_
  show WGo _ (36, [wI counts, wJ t1, wS, wJ t2, wS, wJ s1, wS, wJ s2, wS, wI 2, wI 0, wR 0, wU, wU, wU, wU, wU, wU], [.ref 1], [(.inr (cn0, [(fk0, (.long t1)), (fk1, .null), (fk2, .null), (fk3, (.long s1))])), (.inr (cn0, [(fk0, .long 0), (fk1, .null), (fk2, .null), (fk3, .long 0)]))], 8) _
  refine .s (.dup a0_36 rfl) <| .s (.lloadN a0_37 rfl) <| .s (.aconstNull a0_38) <| .s (.aconstNull a0_39) <| .s (.lload a0_40 rfl) ?_
  refine .callI (k := 1) a0_42 (ok1 hw _ _ _ _) rfl rfl (wd hw 4 rfl) (wd hw 5 rfl) (by decide) (argsL := [(.long t2), .null, .null, (.long s2)]) (S := [.ref 1]) (au1_2 hw _ _ t1 t2 s1 s2 _) rfl rfl rfl rfl rfl rfl (Nat.le_of_ble_eq_true rfl) (Nat.le_of_ble_eq_true rfl) ?_
  rintro _ _ _ ⟨rfl, rfl, rfl⟩
  show WGo _ (45, [wI counts, wJ t1, wS, wJ t2, wS, wJ s1, wS, wJ s2, wS, wI 2, wI 0, wR 0, wU, wU, wU, wU, wU, wU], [.ref 1], [(.inr (cn0, [(fk0, (.long t1)), (fk1, .null), (fk2, .null), (fk3, (.long s1))])), (.inr (cn0, [(fk0, (.long t2)), (fk1, .null), (fk2, .null), (fk3, (.long s2))]))], 8) _
  refine .s (.astore (L' := [wI counts, wJ t1, wS, wJ t2, wS, wJ s1, wS, wJ s2, wS, wI 2, wI 0, wR 0, wR 1, wU, wU, wU, wU, wU]) a0_45 rfl rfl) <| .s (.newO (k := 2) [(fk4, .null), (fk5, .int 0)] a0_47 (wd hw 18 rfl) (wd hw 19 rfl) (wd hw 20 rfl) ⟨⟨Or.inl (wd hw 31 rfl), (.array (.object "com/example/chronogate/chronogate/Event")), by decide, rfl⟩, ⟨Or.inl (wd hw 38 rfl), .int, by decide, rfl⟩, trivial⟩ (by decide) rfl (by decide)) ?_
  show WGo _ (50, [wI counts, wJ t1, wS, wJ t2, wS, wJ s1, wS, wJ s2, wS, wI 2, wI 0, wR 0, wR 1, wU, wU, wU, wU, wU], [.ref 2], [(.inr (cn0, [(fk0, (.long t1)), (fk1, .null), (fk2, .null), (fk3, (.long s1))])), (.inr (cn0, [(fk0, (.long t2)), (fk1, .null), (fk2, .null), (fk3, (.long s2))])), (.inr (cn1, [(fk4, .null), (fk5, .int 0)]))], 10) _
  refine .s (.dup a0_50 rfl) ?_
  refine .callI (k := 2) a0_51 (ok3 hw _ _ _ _) rfl rfl (wd hw 21 rfl) (wd hw 22 rfl) (by decide) (argsL := []) (S := [.ref 2]) (au3_3 hw _ _ t1 t2 s1 s2 _) rfl rfl rfl rfl rfl rfl (Nat.le_of_ble_eq_true rfl) (Nat.le_of_ble_eq_true rfl) ?_
  rintro _ _ _ ⟨rfl, rfl, rfl⟩
  show WGo _ (54, [wI counts, wJ t1, wS, wJ t2, wS, wJ s1, wS, wJ s2, wS, wI 2, wI 0, wR 0, wR 1, wU, wU, wU, wU, wU], [.ref 2], [(.inr (cn0, [(fk0, (.long t1)), (fk1, .null), (fk2, .null), (fk3, (.long s1))])), (.inr (cn0, [(fk0, (.long t2)), (fk1, .null), (fk2, .null), (fk3, (.long s2))])), (.inr (cn1, [(fk4, .ref 3), (fk5, .int 0)])), (.inl ((.object "com/example/chronogate/chronogate/Event"), [.null, .null, .null, .null, .null, .null, .null, .null]))], 18) _
  refine .s (.astore (L' := [wI counts, wJ t1, wS, wJ t2, wS, wJ s1, wS, wJ s2, wS, wI 2, wI 0, wR 0, wR 1, wR 2, wU, wU, wU, wU]) a0_54 rfl rfl) <| .s (.aload a0_56 rfl rfl) ?_
  refine .callV (k := 2) (z := (⟨"com/example/chronogate/chronogate/ReleaseQueue", "isEmpty", "()Z"⟩ : MethodName)) a0_58 (ok5 hw _ _ _ _) ⟨rfl, by decide⟩ (wd hw 32 rfl) (wd hw 33 rfl) (fun s hZ => notFace_of_selects (args := #[]) (mvT hZ (wd hw 35 rfl))) (wd hw 35 rfl) (wd hw 34 rfl) rfl (argsL := []) (S := []) (au5_5 hw _ _ t1 t2 s1 s2 _) rfl rfl rfl rfl rfl rfl (Nat.le_of_ble_eq_true rfl) (Nat.le_of_ble_eq_true rfl) ?_
  rintro _ _ _ ⟨rfl, rfl, rfl⟩
  show WGo _ (61, [wI counts, wJ t1, wS, wJ t2, wS, wJ s1, wS, wJ s2, wS, wI 2, wI 0, wR 0, wR 1, wR 2, wU, wU, wU, wU], [.int 1], [(.inr (cn0, [(fk0, (.long t1)), (fk1, .null), (fk2, .null), (fk3, (.long s1))])), (.inr (cn0, [(fk0, (.long t2)), (fk1, .null), (fk2, .null), (fk3, (.long s2))])), (.inr (cn1, [(fk4, .ref 3), (fk5, .int 0)])), (.inl ((.object "com/example/chronogate/chronogate/Event"), [.null, .null, .null, .null, .null, .null, .null, .null]))], 18) _
  refine .s (.istore (L' := [wI counts, wJ t1, wS, wJ t2, wS, wJ s1, wS, wJ s2, wS, wI 2, wI 0, wR 0, wR 1, wR 2, wI 1, wU, wU, wU]) a0_61 rfl) <| .s (.iload a0_63 rfl) <| .s (.iconst (1 : Int32) a0_65 rfl) <| .s (.icmpF a0_66 (by decide)) <| .s (.aload a0_69 rfl rfl) <| .s (.aload a0_71 rfl rfl) ?_
  refine .callV (k := 2) (z := (⟨"com/example/chronogate/chronogate/ReleaseQueue", "add", "(Lcom/example/chronogate/chronogate/Event;)V"⟩ : MethodName)) a0_73 (ok8 hw _ _ _ _) ⟨rfl, by decide⟩ (wd hw 48 rfl) (wd hw 49 rfl) (fun s hZ => notFace_of_selects (args := #[]) (mvT hZ (wd hw 51 rfl))) (wd hw 51 rfl) (wd hw 50 rfl) rfl (argsL := [.ref 0]) (S := []) (au8_11 hw _ _ t1 t2 s1 s2 _) rfl rfl rfl rfl rfl rfl (Nat.le_of_ble_eq_true rfl) (Nat.le_of_ble_eq_true rfl) ?_
  rintro _ _ _ ⟨rfl, rfl, rfl⟩
  show WGo _ (76, [wI counts, wJ t1, wS, wJ t2, wS, wJ s1, wS, wJ s2, wS, wI 2, wI 0, wR 0, wR 1, wR 2, wI 1, wU, wU, wU], [], [(.inr (cn0, [(fk0, (.long t1)), (fk1, .null), (fk2, .null), (fk3, (.long s1))])), (.inr (cn0, [(fk0, (.long t2)), (fk1, .null), (fk2, .null), (fk3, (.long s2))])), (.inr (cn1, [(fk4, .ref 3), (fk5, .int 1)])), (.inl ((.object "com/example/chronogate/chronogate/Event"), [.ref 0, .null, .null, .null, .null, .null, .null, .null]))], 18) _
  refine .s (.iload a0_76 rfl) <| .s (.iconst (2 : Int32) a0_78 rfl) <| .s (.icmpF a0_79 (by decide)) <| .s (.aload a0_82 rfl rfl) <| .s (.aload a0_84 rfl rfl) ?_
  refine .callV (k := 2) (z := (⟨"com/example/chronogate/chronogate/ReleaseQueue", "add", "(Lcom/example/chronogate/chronogate/Event;)V"⟩ : MethodName)) a0_86 (ok8 hw _ _ _ _) ⟨rfl, by decide⟩ (wd hw 48 rfl) (wd hw 49 rfl) (fun s hZ => notFace_of_selects (args := #[]) (mvT hZ (wd hw 51 rfl))) (wd hw 51 rfl) (wd hw 50 rfl) rfl (argsL := [.ref 1]) (S := []) (au8_16 hw _ _ t1 t2 s1 s2 _) rfl rfl rfl rfl rfl rfl (Nat.le_of_ble_eq_true rfl) (Nat.le_of_ble_eq_true rfl) ?_
  rintro _ _ _ (⟨q25, q26, rfl, rfl, rfl⟩ | ⟨q27, q28, q29, q30, rfl, rfl, rfl⟩ | ⟨q31, q32, q33, q34, rfl, rfl, rfl⟩ | ⟨q35, q36, q37, rfl, rfl, rfl⟩ | ⟨q38, rfl, rfl, rfl⟩)
  · skip
    show WGo _ (89, [wI counts, wJ t1, wS, wJ t2, wS, wJ s1, wS, wJ s2, wS, wI 2, wI 0, wR 0, wR 1, wR 2, wI 1, wU, wU, wU], [], [(.inr (cn0, [(fk0, (.long t1)), (fk1, .null), (fk2, .null), (fk3, (.long s1))])), (.inr (cn0, [(fk0, (.long t2)), (fk1, .null), (fk2, .null), (fk3, (.long s2))])), (.inr (cn1, [(fk4, .ref 3), (fk5, .int 2)])), (.inl ((.object "com/example/chronogate/chronogate/Event"), [.ref 0, .ref 1, .null, .null, .null, .null, .null, .null]))], 18) _
    refine .s (.iload a0_89 rfl) <| .s (.iconst (1 : Int32) a0_91 rfl) <| .s (.icmpT a0_92 (by decide)) <| .s (.iload a0_101 rfl) <| .s (.iconst (2 : Int32) a0_103 rfl) <| .s (.icmpT a0_104 (by decide)) <| .s (.iconst (0 : Int32) a0_113 rfl) ?_
    refine .s (.iload a0_114 rfl) <| .s (.iload a0_116 rfl) <| .s (.isub a0_118) ?_
    show WGo _ (119, [wI counts, wJ t1, wS, wJ t2, wS, wJ s1, wS, wJ s2, wS, wI 2, wI 0, wR 0, wR 1, wR 2, wI 1, wU, wU, wU], [.int 2, .int 0], [(.inr (cn0, [(fk0, (.long t1)), (fk1, .null), (fk2, .null), (fk3, (.long s1))])), (.inr (cn0, [(fk0, (.long t2)), (fk1, .null), (fk2, .null), (fk3, (.long s2))])), (.inr (cn1, [(fk4, .ref 3), (fk5, .int 2)])), (.inl ((.object "com/example/chronogate/chronogate/Event"), [.ref 0, .ref 1, .null, .null, .null, .null, .null, .null]))], 18) _
    refine .callS a0_119 (ok6 hw _ _ _ _) (wd hw 39 rfl) (wd hw 40 rfl) (argsL := [.int 0, .int 2]) (S := []) (au6_20 hw _ _ t1 t2 s1 s2 _) rfl rfl rfl rfl rfl rfl (Nat.le_of_ble_eq_true rfl) (Nat.le_of_ble_eq_true rfl) ?_
    rintro _ _ _ ⟨rfl, rfl, rfl⟩
    show WGo _ (122, [wI counts, wJ t1, wS, wJ t2, wS, wJ s1, wS, wJ s2, wS, wI 2, wI 0, wR 0, wR 1, wR 2, wI 1, wU, wU, wU], [.int 2], [(.inr (cn0, [(fk0, (.long t1)), (fk1, .null), (fk2, .null), (fk3, (.long s1))])), (.inr (cn0, [(fk0, (.long t2)), (fk1, .null), (fk2, .null), (fk3, (.long s2))])), (.inr (cn1, [(fk4, .ref 3), (fk5, .int 2)])), (.inl ((.object "com/example/chronogate/chronogate/Event"), [.ref 0, .ref 1, .null, .null, .null, .null, .null, .null]))], 18) _
    refine .s (.istore (L' := [wI counts, wJ t1, wS, wJ t2, wS, wJ s1, wS, wJ s2, wS, wI 2, wI 0, wR 0, wR 1, wR 2, wI 1, wI 2, wU, wU]) a0_122 rfl) <| .s (.aload a0_124 rfl rfl) ?_
    refine .callV (k := 2) (z := (⟨"com/example/chronogate/chronogate/ReleaseQueue", "isEmpty", "()Z"⟩ : MethodName)) a0_126 (ok5 hw _ _ _ _) ⟨rfl, by decide⟩ (wd hw 32 rfl) (wd hw 33 rfl) (fun s hZ => notFace_of_selects (args := #[]) (mvT hZ (wd hw 35 rfl))) (wd hw 35 rfl) (wd hw 34 rfl) rfl (argsL := []) (S := []) (au5_21 hw _ _ t1 t2 s1 s2 _) rfl rfl rfl rfl rfl rfl (Nat.le_of_ble_eq_true rfl) (Nat.le_of_ble_eq_true rfl) ?_
    rintro _ _ _ ⟨rfl, rfl, rfl⟩
    show WGo _ (129, [wI counts, wJ t1, wS, wJ t2, wS, wJ s1, wS, wJ s2, wS, wI 2, wI 0, wR 0, wR 1, wR 2, wI 1, wI 2, wU, wU], [.int 0], [(.inr (cn0, [(fk0, (.long t1)), (fk1, .null), (fk2, .null), (fk3, (.long s1))])), (.inr (cn0, [(fk0, (.long t2)), (fk1, .null), (fk2, .null), (fk3, (.long s2))])), (.inr (cn1, [(fk4, .ref 3), (fk5, .int 2)])), (.inl ((.object "com/example/chronogate/chronogate/Event"), [.ref 0, .ref 1, .null, .null, .null, .null, .null, .null]))], 18) _
    refine .s (.istore (L' := [wI counts, wJ t1, wS, wJ t2, wS, wJ s1, wS, wJ s2, wS, wI 2, wI 0, wR 0, wR 1, wR 2, wI 1, wI 2, wI 0, wU]) a0_129 rfl) <| .s (.aload a0_131 rfl rfl) ?_
    refine .callV (k := 2) (z := (⟨"com/example/chronogate/chronogate/ReleaseQueue", "peek", "()Lcom/example/chronogate/chronogate/Event;"⟩ : MethodName)) a0_133 (ok7 hw _ _ _ _) ⟨rfl, by decide⟩ (wd hw 43 rfl) (wd hw 44 rfl) (fun s hZ => notFace_of_selects (args := #[]) (mvT hZ (wd hw 46 rfl))) (wd hw 46 rfl) (wd hw 45 rfl) rfl (argsL := []) (S := []) (au7_22 hw _ _ t1 t2 s1 s2 _) rfl rfl rfl rfl rfl rfl (Nat.le_of_ble_eq_true rfl) (Nat.le_of_ble_eq_true rfl) ?_
    rintro _ _ _ ⟨rfl, rfl, rfl⟩
    show WGo _ (136, [wI counts, wJ t1, wS, wJ t2, wS, wJ s1, wS, wJ s2, wS, wI 2, wI 0, wR 0, wR 1, wR 2, wI 1, wI 2, wI 0, wU], [.ref 0], [(.inr (cn0, [(fk0, (.long t1)), (fk1, .null), (fk2, .null), (fk3, (.long s1))])), (.inr (cn0, [(fk0, (.long t2)), (fk1, .null), (fk2, .null), (fk3, (.long s2))])), (.inr (cn1, [(fk4, .ref 3), (fk5, .int 2)])), (.inl ((.object "com/example/chronogate/chronogate/Event"), [.ref 0, .ref 1, .null, .null, .null, .null, .null, .null]))], 18) _
    refine .s (.nonnullT a0_136) <| .s (.iconst (0 : Int32) a0_143 rfl) <| .s (.istore (L' := [wI counts, wJ t1, wS, wJ t2, wS, wJ s1, wS, wJ s2, wS, wI 2, wI 0, wR 0, wR 1, wR 2, wI 1, wI 2, wI 0, wI 0]) a0_144 rfl) <| .s (.iload a0_146 rfl) <| .s (.ifF a0_148 (by decide)) <| .s (.iload a0_151 rfl) <| .s (.iload a0_153 rfl) ?_
    refine .s (.ifT a0_155 (by decide)) <| .s (.iconst (0 : Int32) a0_162 rfl) <| .s (.icmpF a0_163 (by decide)) <| .s (.iload a0_166 rfl) <| .s (.iload a0_168 rfl) <| .s (.icmpF a0_170 (by decide)) <| .s (.iconst (1 : Int32) a0_173 rfl) ?_
    refine .s (.goto a0_174) ?_
    refine .ireturn .boolean a0_178 rfl (by simp) ?_
    exact ⟨rfl, Nat.le_of_ble_eq_true rfl, Nat.le_of_ble_eq_true rfl⟩
  · skip
    show WGo _ (89, [wI counts, wJ t1, wS, wJ t2, wS, wJ s1, wS, wJ s2, wS, wI 2, wI 0, wR 0, wR 1, wR 2, wI 1, wU, wU, wU], [], [(.inr (cn0, [(fk0, (.long t1)), (fk1, .null), (fk2, .null), (fk3, (.long s1))])), (.inr (cn0, [(fk0, (.long t2)), (fk1, .null), (fk2, .null), (fk3, (.long s2))])), (.inr (cn1, [(fk4, .ref 3), (fk5, .int 2)])), (.inl ((.object "com/example/chronogate/chronogate/Event"), [.ref 0, .ref 1, .null, .null, .null, .null, .null, .null]))], 18) _
    refine .s (.iload a0_89 rfl) <| .s (.iconst (1 : Int32) a0_91 rfl) <| .s (.icmpT a0_92 (by decide)) <| .s (.iload a0_101 rfl) <| .s (.iconst (2 : Int32) a0_103 rfl) <| .s (.icmpT a0_104 (by decide)) <| .s (.iconst (0 : Int32) a0_113 rfl) ?_
    refine .s (.iload a0_114 rfl) <| .s (.iload a0_116 rfl) <| .s (.isub a0_118) ?_
    show WGo _ (119, [wI counts, wJ t1, wS, wJ t2, wS, wJ s1, wS, wJ s2, wS, wI 2, wI 0, wR 0, wR 1, wR 2, wI 1, wU, wU, wU], [.int 2, .int 0], [(.inr (cn0, [(fk0, (.long t1)), (fk1, .null), (fk2, .null), (fk3, (.long s1))])), (.inr (cn0, [(fk0, (.long t2)), (fk1, .null), (fk2, .null), (fk3, (.long s2))])), (.inr (cn1, [(fk4, .ref 3), (fk5, .int 2)])), (.inl ((.object "com/example/chronogate/chronogate/Event"), [.ref 0, .ref 1, .null, .null, .null, .null, .null, .null]))], 18) _
    refine .callS a0_119 (ok6 hw _ _ _ _) (wd hw 39 rfl) (wd hw 40 rfl) (argsL := [.int 0, .int 2]) (S := []) (au6_20 hw _ _ t1 t2 s1 s2 _) rfl rfl rfl rfl rfl rfl (Nat.le_of_ble_eq_true rfl) (Nat.le_of_ble_eq_true rfl) ?_
    rintro _ _ _ ⟨rfl, rfl, rfl⟩
    show WGo _ (122, [wI counts, wJ t1, wS, wJ t2, wS, wJ s1, wS, wJ s2, wS, wI 2, wI 0, wR 0, wR 1, wR 2, wI 1, wU, wU, wU], [.int 2], [(.inr (cn0, [(fk0, (.long t1)), (fk1, .null), (fk2, .null), (fk3, (.long s1))])), (.inr (cn0, [(fk0, (.long t2)), (fk1, .null), (fk2, .null), (fk3, (.long s2))])), (.inr (cn1, [(fk4, .ref 3), (fk5, .int 2)])), (.inl ((.object "com/example/chronogate/chronogate/Event"), [.ref 0, .ref 1, .null, .null, .null, .null, .null, .null]))], 18) _
    refine .s (.istore (L' := [wI counts, wJ t1, wS, wJ t2, wS, wJ s1, wS, wJ s2, wS, wI 2, wI 0, wR 0, wR 1, wR 2, wI 1, wI 2, wU, wU]) a0_122 rfl) <| .s (.aload a0_124 rfl rfl) ?_
    refine .callV (k := 2) (z := (⟨"com/example/chronogate/chronogate/ReleaseQueue", "isEmpty", "()Z"⟩ : MethodName)) a0_126 (ok5 hw _ _ _ _) ⟨rfl, by decide⟩ (wd hw 32 rfl) (wd hw 33 rfl) (fun s hZ => notFace_of_selects (args := #[]) (mvT hZ (wd hw 35 rfl))) (wd hw 35 rfl) (wd hw 34 rfl) rfl (argsL := []) (S := []) (au5_21 hw _ _ t1 t2 s1 s2 _) rfl rfl rfl rfl rfl rfl (Nat.le_of_ble_eq_true rfl) (Nat.le_of_ble_eq_true rfl) ?_
    rintro _ _ _ ⟨rfl, rfl, rfl⟩
    show WGo _ (129, [wI counts, wJ t1, wS, wJ t2, wS, wJ s1, wS, wJ s2, wS, wI 2, wI 0, wR 0, wR 1, wR 2, wI 1, wI 2, wU, wU], [.int 0], [(.inr (cn0, [(fk0, (.long t1)), (fk1, .null), (fk2, .null), (fk3, (.long s1))])), (.inr (cn0, [(fk0, (.long t2)), (fk1, .null), (fk2, .null), (fk3, (.long s2))])), (.inr (cn1, [(fk4, .ref 3), (fk5, .int 2)])), (.inl ((.object "com/example/chronogate/chronogate/Event"), [.ref 0, .ref 1, .null, .null, .null, .null, .null, .null]))], 18) _
    refine .s (.istore (L' := [wI counts, wJ t1, wS, wJ t2, wS, wJ s1, wS, wJ s2, wS, wI 2, wI 0, wR 0, wR 1, wR 2, wI 1, wI 2, wI 0, wU]) a0_129 rfl) <| .s (.aload a0_131 rfl rfl) ?_
    refine .callV (k := 2) (z := (⟨"com/example/chronogate/chronogate/ReleaseQueue", "peek", "()Lcom/example/chronogate/chronogate/Event;"⟩ : MethodName)) a0_133 (ok7 hw _ _ _ _) ⟨rfl, by decide⟩ (wd hw 43 rfl) (wd hw 44 rfl) (fun s hZ => notFace_of_selects (args := #[]) (mvT hZ (wd hw 46 rfl))) (wd hw 46 rfl) (wd hw 45 rfl) rfl (argsL := []) (S := []) (au7_22 hw _ _ t1 t2 s1 s2 _) rfl rfl rfl rfl rfl rfl (Nat.le_of_ble_eq_true rfl) (Nat.le_of_ble_eq_true rfl) ?_
    rintro _ _ _ ⟨rfl, rfl, rfl⟩
    show WGo _ (136, [wI counts, wJ t1, wS, wJ t2, wS, wJ s1, wS, wJ s2, wS, wI 2, wI 0, wR 0, wR 1, wR 2, wI 1, wI 2, wI 0, wU], [.ref 0], [(.inr (cn0, [(fk0, (.long t1)), (fk1, .null), (fk2, .null), (fk3, (.long s1))])), (.inr (cn0, [(fk0, (.long t2)), (fk1, .null), (fk2, .null), (fk3, (.long s2))])), (.inr (cn1, [(fk4, .ref 3), (fk5, .int 2)])), (.inl ((.object "com/example/chronogate/chronogate/Event"), [.ref 0, .ref 1, .null, .null, .null, .null, .null, .null]))], 18) _
    refine .s (.nonnullT a0_136) <| .s (.iconst (0 : Int32) a0_143 rfl) <| .s (.istore (L' := [wI counts, wJ t1, wS, wJ t2, wS, wJ s1, wS, wJ s2, wS, wI 2, wI 0, wR 0, wR 1, wR 2, wI 1, wI 2, wI 0, wI 0]) a0_144 rfl) <| .s (.iload a0_146 rfl) <| .s (.ifF a0_148 (by decide)) <| .s (.iload a0_151 rfl) <| .s (.iload a0_153 rfl) ?_
    refine .s (.ifT a0_155 (by decide)) <| .s (.iconst (0 : Int32) a0_162 rfl) <| .s (.icmpF a0_163 (by decide)) <| .s (.iload a0_166 rfl) <| .s (.iload a0_168 rfl) <| .s (.icmpF a0_170 (by decide)) <| .s (.iconst (1 : Int32) a0_173 rfl) ?_
    refine .s (.goto a0_174) ?_
    refine .ireturn .boolean a0_178 rfl (by simp) ?_
    exact ⟨rfl, Nat.le_of_ble_eq_true rfl, Nat.le_of_ble_eq_true rfl⟩
  · skip
    show WGo _ (89, [wI counts, wJ t1, wS, wJ t2, wS, wJ s1, wS, wJ s2, wS, wI 2, wI 0, wR 0, wR 1, wR 2, wI 1, wU, wU, wU], [], [(.inr (cn0, [(fk0, (.long t1)), (fk1, .null), (fk2, .null), (fk3, (.long s1))])), (.inr (cn0, [(fk0, (.long t2)), (fk1, .null), (fk2, .null), (fk3, (.long s2))])), (.inr (cn1, [(fk4, .ref 3), (fk5, .int 2)])), (.inl ((.object "com/example/chronogate/chronogate/Event"), [.ref 0, .ref 1, .null, .null, .null, .null, .null, .null]))], 18) _
    refine .s (.iload a0_89 rfl) <| .s (.iconst (1 : Int32) a0_91 rfl) <| .s (.icmpT a0_92 (by decide)) <| .s (.iload a0_101 rfl) <| .s (.iconst (2 : Int32) a0_103 rfl) <| .s (.icmpT a0_104 (by decide)) <| .s (.iconst (0 : Int32) a0_113 rfl) ?_
    refine .s (.iload a0_114 rfl) <| .s (.iload a0_116 rfl) <| .s (.isub a0_118) ?_
    show WGo _ (119, [wI counts, wJ t1, wS, wJ t2, wS, wJ s1, wS, wJ s2, wS, wI 2, wI 0, wR 0, wR 1, wR 2, wI 1, wU, wU, wU], [.int 2, .int 0], [(.inr (cn0, [(fk0, (.long t1)), (fk1, .null), (fk2, .null), (fk3, (.long s1))])), (.inr (cn0, [(fk0, (.long t2)), (fk1, .null), (fk2, .null), (fk3, (.long s2))])), (.inr (cn1, [(fk4, .ref 3), (fk5, .int 2)])), (.inl ((.object "com/example/chronogate/chronogate/Event"), [.ref 0, .ref 1, .null, .null, .null, .null, .null, .null]))], 18) _
    refine .callS a0_119 (ok6 hw _ _ _ _) (wd hw 39 rfl) (wd hw 40 rfl) (argsL := [.int 0, .int 2]) (S := []) (au6_20 hw _ _ t1 t2 s1 s2 _) rfl rfl rfl rfl rfl rfl (Nat.le_of_ble_eq_true rfl) (Nat.le_of_ble_eq_true rfl) ?_
    rintro _ _ _ ⟨rfl, rfl, rfl⟩
    show WGo _ (122, [wI counts, wJ t1, wS, wJ t2, wS, wJ s1, wS, wJ s2, wS, wI 2, wI 0, wR 0, wR 1, wR 2, wI 1, wU, wU, wU], [.int 2], [(.inr (cn0, [(fk0, (.long t1)), (fk1, .null), (fk2, .null), (fk3, (.long s1))])), (.inr (cn0, [(fk0, (.long t2)), (fk1, .null), (fk2, .null), (fk3, (.long s2))])), (.inr (cn1, [(fk4, .ref 3), (fk5, .int 2)])), (.inl ((.object "com/example/chronogate/chronogate/Event"), [.ref 0, .ref 1, .null, .null, .null, .null, .null, .null]))], 18) _
    refine .s (.istore (L' := [wI counts, wJ t1, wS, wJ t2, wS, wJ s1, wS, wJ s2, wS, wI 2, wI 0, wR 0, wR 1, wR 2, wI 1, wI 2, wU, wU]) a0_122 rfl) <| .s (.aload a0_124 rfl rfl) ?_
    refine .callV (k := 2) (z := (⟨"com/example/chronogate/chronogate/ReleaseQueue", "isEmpty", "()Z"⟩ : MethodName)) a0_126 (ok5 hw _ _ _ _) ⟨rfl, by decide⟩ (wd hw 32 rfl) (wd hw 33 rfl) (fun s hZ => notFace_of_selects (args := #[]) (mvT hZ (wd hw 35 rfl))) (wd hw 35 rfl) (wd hw 34 rfl) rfl (argsL := []) (S := []) (au5_21 hw _ _ t1 t2 s1 s2 _) rfl rfl rfl rfl rfl rfl (Nat.le_of_ble_eq_true rfl) (Nat.le_of_ble_eq_true rfl) ?_
    rintro _ _ _ ⟨rfl, rfl, rfl⟩
    show WGo _ (129, [wI counts, wJ t1, wS, wJ t2, wS, wJ s1, wS, wJ s2, wS, wI 2, wI 0, wR 0, wR 1, wR 2, wI 1, wI 2, wU, wU], [.int 0], [(.inr (cn0, [(fk0, (.long t1)), (fk1, .null), (fk2, .null), (fk3, (.long s1))])), (.inr (cn0, [(fk0, (.long t2)), (fk1, .null), (fk2, .null), (fk3, (.long s2))])), (.inr (cn1, [(fk4, .ref 3), (fk5, .int 2)])), (.inl ((.object "com/example/chronogate/chronogate/Event"), [.ref 0, .ref 1, .null, .null, .null, .null, .null, .null]))], 18) _
    refine .s (.istore (L' := [wI counts, wJ t1, wS, wJ t2, wS, wJ s1, wS, wJ s2, wS, wI 2, wI 0, wR 0, wR 1, wR 2, wI 1, wI 2, wI 0, wU]) a0_129 rfl) <| .s (.aload a0_131 rfl rfl) ?_
    refine .callV (k := 2) (z := (⟨"com/example/chronogate/chronogate/ReleaseQueue", "peek", "()Lcom/example/chronogate/chronogate/Event;"⟩ : MethodName)) a0_133 (ok7 hw _ _ _ _) ⟨rfl, by decide⟩ (wd hw 43 rfl) (wd hw 44 rfl) (fun s hZ => notFace_of_selects (args := #[]) (mvT hZ (wd hw 46 rfl))) (wd hw 46 rfl) (wd hw 45 rfl) rfl (argsL := []) (S := []) (au7_22 hw _ _ t1 t2 s1 s2 _) rfl rfl rfl rfl rfl rfl (Nat.le_of_ble_eq_true rfl) (Nat.le_of_ble_eq_true rfl) ?_
    rintro _ _ _ ⟨rfl, rfl, rfl⟩
    show WGo _ (136, [wI counts, wJ t1, wS, wJ t2, wS, wJ s1, wS, wJ s2, wS, wI 2, wI 0, wR 0, wR 1, wR 2, wI 1, wI 2, wI 0, wU], [.ref 0], [(.inr (cn0, [(fk0, (.long t1)), (fk1, .null), (fk2, .null), (fk3, (.long s1))])), (.inr (cn0, [(fk0, (.long t2)), (fk1, .null), (fk2, .null), (fk3, (.long s2))])), (.inr (cn1, [(fk4, .ref 3), (fk5, .int 2)])), (.inl ((.object "com/example/chronogate/chronogate/Event"), [.ref 0, .ref 1, .null, .null, .null, .null, .null, .null]))], 18) _
    refine .s (.nonnullT a0_136) <| .s (.iconst (0 : Int32) a0_143 rfl) <| .s (.istore (L' := [wI counts, wJ t1, wS, wJ t2, wS, wJ s1, wS, wJ s2, wS, wI 2, wI 0, wR 0, wR 1, wR 2, wI 1, wI 2, wI 0, wI 0]) a0_144 rfl) <| .s (.iload a0_146 rfl) <| .s (.ifF a0_148 (by decide)) <| .s (.iload a0_151 rfl) <| .s (.iload a0_153 rfl) ?_
    refine .s (.ifT a0_155 (by decide)) <| .s (.iconst (0 : Int32) a0_162 rfl) <| .s (.icmpF a0_163 (by decide)) <| .s (.iload a0_166 rfl) <| .s (.iload a0_168 rfl) <| .s (.icmpF a0_170 (by decide)) <| .s (.iconst (1 : Int32) a0_173 rfl) ?_
    refine .s (.goto a0_174) ?_
    refine .ireturn .boolean a0_178 rfl (by simp) ?_
    exact ⟨rfl, Nat.le_of_ble_eq_true rfl, Nat.le_of_ble_eq_true rfl⟩
  · skip
    show WGo _ (89, [wI counts, wJ t1, wS, wJ t2, wS, wJ s1, wS, wJ s2, wS, wI 2, wI 0, wR 0, wR 1, wR 2, wI 1, wU, wU, wU], [], [(.inr (cn0, [(fk0, (.long t1)), (fk1, .null), (fk2, .null), (fk3, (.long s1))])), (.inr (cn0, [(fk0, (.long t2)), (fk1, .null), (fk2, .null), (fk3, (.long s2))])), (.inr (cn1, [(fk4, .ref 3), (fk5, .int 2)])), (.inl ((.object "com/example/chronogate/chronogate/Event"), [.ref 1, .ref 0, .null, .null, .null, .null, .null, .null]))], 18) _
    refine .s (.iload a0_89 rfl) <| .s (.iconst (1 : Int32) a0_91 rfl) <| .s (.icmpT a0_92 (by decide)) <| .s (.iload a0_101 rfl) <| .s (.iconst (2 : Int32) a0_103 rfl) <| .s (.icmpT a0_104 (by decide)) <| .s (.iconst (0 : Int32) a0_113 rfl) ?_
    refine .s (.iload a0_114 rfl) <| .s (.iload a0_116 rfl) <| .s (.isub a0_118) ?_
    show WGo _ (119, [wI counts, wJ t1, wS, wJ t2, wS, wJ s1, wS, wJ s2, wS, wI 2, wI 0, wR 0, wR 1, wR 2, wI 1, wU, wU, wU], [.int 2, .int 0], [(.inr (cn0, [(fk0, (.long t1)), (fk1, .null), (fk2, .null), (fk3, (.long s1))])), (.inr (cn0, [(fk0, (.long t2)), (fk1, .null), (fk2, .null), (fk3, (.long s2))])), (.inr (cn1, [(fk4, .ref 3), (fk5, .int 2)])), (.inl ((.object "com/example/chronogate/chronogate/Event"), [.ref 1, .ref 0, .null, .null, .null, .null, .null, .null]))], 18) _
    refine .callS a0_119 (ok6 hw _ _ _ _) (wd hw 39 rfl) (wd hw 40 rfl) (argsL := [.int 0, .int 2]) (S := []) (au6_23 hw _ _ t1 t2 s1 s2 _) rfl rfl rfl rfl rfl rfl (Nat.le_of_ble_eq_true rfl) (Nat.le_of_ble_eq_true rfl) ?_
    rintro _ _ _ ⟨rfl, rfl, rfl⟩
    show WGo _ (122, [wI counts, wJ t1, wS, wJ t2, wS, wJ s1, wS, wJ s2, wS, wI 2, wI 0, wR 0, wR 1, wR 2, wI 1, wU, wU, wU], [.int 2], [(.inr (cn0, [(fk0, (.long t1)), (fk1, .null), (fk2, .null), (fk3, (.long s1))])), (.inr (cn0, [(fk0, (.long t2)), (fk1, .null), (fk2, .null), (fk3, (.long s2))])), (.inr (cn1, [(fk4, .ref 3), (fk5, .int 2)])), (.inl ((.object "com/example/chronogate/chronogate/Event"), [.ref 1, .ref 0, .null, .null, .null, .null, .null, .null]))], 18) _
    refine .s (.istore (L' := [wI counts, wJ t1, wS, wJ t2, wS, wJ s1, wS, wJ s2, wS, wI 2, wI 0, wR 0, wR 1, wR 2, wI 1, wI 2, wU, wU]) a0_122 rfl) <| .s (.aload a0_124 rfl rfl) ?_
    refine .callV (k := 2) (z := (⟨"com/example/chronogate/chronogate/ReleaseQueue", "isEmpty", "()Z"⟩ : MethodName)) a0_126 (ok5 hw _ _ _ _) ⟨rfl, by decide⟩ (wd hw 32 rfl) (wd hw 33 rfl) (fun s hZ => notFace_of_selects (args := #[]) (mvT hZ (wd hw 35 rfl))) (wd hw 35 rfl) (wd hw 34 rfl) rfl (argsL := []) (S := []) (au5_24 hw _ _ t1 t2 s1 s2 _) rfl rfl rfl rfl rfl rfl (Nat.le_of_ble_eq_true rfl) (Nat.le_of_ble_eq_true rfl) ?_
    rintro _ _ _ ⟨rfl, rfl, rfl⟩
    show WGo _ (129, [wI counts, wJ t1, wS, wJ t2, wS, wJ s1, wS, wJ s2, wS, wI 2, wI 0, wR 0, wR 1, wR 2, wI 1, wI 2, wU, wU], [.int 0], [(.inr (cn0, [(fk0, (.long t1)), (fk1, .null), (fk2, .null), (fk3, (.long s1))])), (.inr (cn0, [(fk0, (.long t2)), (fk1, .null), (fk2, .null), (fk3, (.long s2))])), (.inr (cn1, [(fk4, .ref 3), (fk5, .int 2)])), (.inl ((.object "com/example/chronogate/chronogate/Event"), [.ref 1, .ref 0, .null, .null, .null, .null, .null, .null]))], 18) _
    refine .s (.istore (L' := [wI counts, wJ t1, wS, wJ t2, wS, wJ s1, wS, wJ s2, wS, wI 2, wI 0, wR 0, wR 1, wR 2, wI 1, wI 2, wI 0, wU]) a0_129 rfl) <| .s (.aload a0_131 rfl rfl) ?_
    refine .callV (k := 2) (z := (⟨"com/example/chronogate/chronogate/ReleaseQueue", "peek", "()Lcom/example/chronogate/chronogate/Event;"⟩ : MethodName)) a0_133 (ok7 hw _ _ _ _) ⟨rfl, by decide⟩ (wd hw 43 rfl) (wd hw 44 rfl) (fun s hZ => notFace_of_selects (args := #[]) (mvT hZ (wd hw 46 rfl))) (wd hw 46 rfl) (wd hw 45 rfl) rfl (argsL := []) (S := []) (au7_25 hw _ _ t1 t2 s1 s2 _) rfl rfl rfl rfl rfl rfl (Nat.le_of_ble_eq_true rfl) (Nat.le_of_ble_eq_true rfl) ?_
    rintro _ _ _ ⟨rfl, rfl, rfl⟩
    show WGo _ (136, [wI counts, wJ t1, wS, wJ t2, wS, wJ s1, wS, wJ s2, wS, wI 2, wI 0, wR 0, wR 1, wR 2, wI 1, wI 2, wI 0, wU], [.ref 1], [(.inr (cn0, [(fk0, (.long t1)), (fk1, .null), (fk2, .null), (fk3, (.long s1))])), (.inr (cn0, [(fk0, (.long t2)), (fk1, .null), (fk2, .null), (fk3, (.long s2))])), (.inr (cn1, [(fk4, .ref 3), (fk5, .int 2)])), (.inl ((.object "com/example/chronogate/chronogate/Event"), [.ref 1, .ref 0, .null, .null, .null, .null, .null, .null]))], 18) _
    refine .s (.nonnullT a0_136) <| .s (.iconst (0 : Int32) a0_143 rfl) <| .s (.istore (L' := [wI counts, wJ t1, wS, wJ t2, wS, wJ s1, wS, wJ s2, wS, wI 2, wI 0, wR 0, wR 1, wR 2, wI 1, wI 2, wI 0, wI 0]) a0_144 rfl) <| .s (.iload a0_146 rfl) <| .s (.ifF a0_148 (by decide)) <| .s (.iload a0_151 rfl) <| .s (.iload a0_153 rfl) ?_
    refine .s (.ifT a0_155 (by decide)) <| .s (.iconst (0 : Int32) a0_162 rfl) <| .s (.icmpF a0_163 (by decide)) <| .s (.iload a0_166 rfl) <| .s (.iload a0_168 rfl) <| .s (.icmpF a0_170 (by decide)) <| .s (.iconst (1 : Int32) a0_173 rfl) ?_
    refine .s (.goto a0_174) ?_
    refine .ireturn .boolean a0_178 rfl (by simp) ?_
    exact ⟨rfl, Nat.le_of_ble_eq_true rfl, Nat.le_of_ble_eq_true rfl⟩
  · skip
    show WGo _ (89, [wI counts, wJ t1, wS, wJ t2, wS, wJ s1, wS, wJ s2, wS, wI 2, wI 0, wR 0, wR 1, wR 2, wI 1, wU, wU, wU], [], [(.inr (cn0, [(fk0, (.long t1)), (fk1, .null), (fk2, .null), (fk3, (.long s1))])), (.inr (cn0, [(fk0, (.long t2)), (fk1, .null), (fk2, .null), (fk3, (.long s2))])), (.inr (cn1, [(fk4, .ref 3), (fk5, .int 2)])), (.inl ((.object "com/example/chronogate/chronogate/Event"), [.ref 1, .ref 0, .null, .null, .null, .null, .null, .null]))], 18) _
    refine .s (.iload a0_89 rfl) <| .s (.iconst (1 : Int32) a0_91 rfl) <| .s (.icmpT a0_92 (by decide)) <| .s (.iload a0_101 rfl) <| .s (.iconst (2 : Int32) a0_103 rfl) <| .s (.icmpT a0_104 (by decide)) <| .s (.iconst (0 : Int32) a0_113 rfl) ?_
    refine .s (.iload a0_114 rfl) <| .s (.iload a0_116 rfl) <| .s (.isub a0_118) ?_
    show WGo _ (119, [wI counts, wJ t1, wS, wJ t2, wS, wJ s1, wS, wJ s2, wS, wI 2, wI 0, wR 0, wR 1, wR 2, wI 1, wU, wU, wU], [.int 2, .int 0], [(.inr (cn0, [(fk0, (.long t1)), (fk1, .null), (fk2, .null), (fk3, (.long s1))])), (.inr (cn0, [(fk0, (.long t2)), (fk1, .null), (fk2, .null), (fk3, (.long s2))])), (.inr (cn1, [(fk4, .ref 3), (fk5, .int 2)])), (.inl ((.object "com/example/chronogate/chronogate/Event"), [.ref 1, .ref 0, .null, .null, .null, .null, .null, .null]))], 18) _
    refine .callS a0_119 (ok6 hw _ _ _ _) (wd hw 39 rfl) (wd hw 40 rfl) (argsL := [.int 0, .int 2]) (S := []) (au6_23 hw _ _ t1 t2 s1 s2 _) rfl rfl rfl rfl rfl rfl (Nat.le_of_ble_eq_true rfl) (Nat.le_of_ble_eq_true rfl) ?_
    rintro _ _ _ ⟨rfl, rfl, rfl⟩
    show WGo _ (122, [wI counts, wJ t1, wS, wJ t2, wS, wJ s1, wS, wJ s2, wS, wI 2, wI 0, wR 0, wR 1, wR 2, wI 1, wU, wU, wU], [.int 2], [(.inr (cn0, [(fk0, (.long t1)), (fk1, .null), (fk2, .null), (fk3, (.long s1))])), (.inr (cn0, [(fk0, (.long t2)), (fk1, .null), (fk2, .null), (fk3, (.long s2))])), (.inr (cn1, [(fk4, .ref 3), (fk5, .int 2)])), (.inl ((.object "com/example/chronogate/chronogate/Event"), [.ref 1, .ref 0, .null, .null, .null, .null, .null, .null]))], 18) _
    refine .s (.istore (L' := [wI counts, wJ t1, wS, wJ t2, wS, wJ s1, wS, wJ s2, wS, wI 2, wI 0, wR 0, wR 1, wR 2, wI 1, wI 2, wU, wU]) a0_122 rfl) <| .s (.aload a0_124 rfl rfl) ?_
    refine .callV (k := 2) (z := (⟨"com/example/chronogate/chronogate/ReleaseQueue", "isEmpty", "()Z"⟩ : MethodName)) a0_126 (ok5 hw _ _ _ _) ⟨rfl, by decide⟩ (wd hw 32 rfl) (wd hw 33 rfl) (fun s hZ => notFace_of_selects (args := #[]) (mvT hZ (wd hw 35 rfl))) (wd hw 35 rfl) (wd hw 34 rfl) rfl (argsL := []) (S := []) (au5_24 hw _ _ t1 t2 s1 s2 _) rfl rfl rfl rfl rfl rfl (Nat.le_of_ble_eq_true rfl) (Nat.le_of_ble_eq_true rfl) ?_
    rintro _ _ _ ⟨rfl, rfl, rfl⟩
    show WGo _ (129, [wI counts, wJ t1, wS, wJ t2, wS, wJ s1, wS, wJ s2, wS, wI 2, wI 0, wR 0, wR 1, wR 2, wI 1, wI 2, wU, wU], [.int 0], [(.inr (cn0, [(fk0, (.long t1)), (fk1, .null), (fk2, .null), (fk3, (.long s1))])), (.inr (cn0, [(fk0, (.long t2)), (fk1, .null), (fk2, .null), (fk3, (.long s2))])), (.inr (cn1, [(fk4, .ref 3), (fk5, .int 2)])), (.inl ((.object "com/example/chronogate/chronogate/Event"), [.ref 1, .ref 0, .null, .null, .null, .null, .null, .null]))], 18) _
    refine .s (.istore (L' := [wI counts, wJ t1, wS, wJ t2, wS, wJ s1, wS, wJ s2, wS, wI 2, wI 0, wR 0, wR 1, wR 2, wI 1, wI 2, wI 0, wU]) a0_129 rfl) <| .s (.aload a0_131 rfl rfl) ?_
    refine .callV (k := 2) (z := (⟨"com/example/chronogate/chronogate/ReleaseQueue", "peek", "()Lcom/example/chronogate/chronogate/Event;"⟩ : MethodName)) a0_133 (ok7 hw _ _ _ _) ⟨rfl, by decide⟩ (wd hw 43 rfl) (wd hw 44 rfl) (fun s hZ => notFace_of_selects (args := #[]) (mvT hZ (wd hw 46 rfl))) (wd hw 46 rfl) (wd hw 45 rfl) rfl (argsL := []) (S := []) (au7_25 hw _ _ t1 t2 s1 s2 _) rfl rfl rfl rfl rfl rfl (Nat.le_of_ble_eq_true rfl) (Nat.le_of_ble_eq_true rfl) ?_
    rintro _ _ _ ⟨rfl, rfl, rfl⟩
    show WGo _ (136, [wI counts, wJ t1, wS, wJ t2, wS, wJ s1, wS, wJ s2, wS, wI 2, wI 0, wR 0, wR 1, wR 2, wI 1, wI 2, wI 0, wU], [.ref 1], [(.inr (cn0, [(fk0, (.long t1)), (fk1, .null), (fk2, .null), (fk3, (.long s1))])), (.inr (cn0, [(fk0, (.long t2)), (fk1, .null), (fk2, .null), (fk3, (.long s2))])), (.inr (cn1, [(fk4, .ref 3), (fk5, .int 2)])), (.inl ((.object "com/example/chronogate/chronogate/Event"), [.ref 1, .ref 0, .null, .null, .null, .null, .null, .null]))], 18) _
    refine .s (.nonnullT a0_136) <| .s (.iconst (0 : Int32) a0_143 rfl) <| .s (.istore (L' := [wI counts, wJ t1, wS, wJ t2, wS, wJ s1, wS, wJ s2, wS, wI 2, wI 0, wR 0, wR 1, wR 2, wI 1, wI 2, wI 0, wI 0]) a0_144 rfl) <| .s (.iload a0_146 rfl) <| .s (.ifF a0_148 (by decide)) <| .s (.iload a0_151 rfl) <| .s (.iload a0_153 rfl) ?_
    refine .s (.ifT a0_155 (by decide)) <| .s (.iconst (0 : Int32) a0_162 rfl) <| .s (.icmpF a0_163 (by decide)) <| .s (.iload a0_166 rfl) <| .s (.iload a0_168 rfl) <| .s (.icmpF a0_170 (by decide)) <| .s (.iconst (1 : Int32) a0_173 rfl) ?_
    refine .s (.goto a0_174) ?_
    refine .ireturn .boolean a0_178 rfl (by simp) ?_
    exact ⟨rfl, Nat.le_of_ble_eq_true rfl, Nat.le_of_ble_eq_true rfl⟩
set_option maxHeartbeats 4000000 in
theorem au11_26 {Z : State} {a0 : Array Value} (hw : ∀ d ∈ tables_1, d.before a0 Z = true) (ρ : Nat → Nat) (n0 : Nat) (t1 : Int64) (t2 : Int64) (s1 : Int64) (s2 : Int64) (u : Nat) : WGo (g11 Z ρ n0 4 u) (0, [wR 2, wU, wU, wU, wU], [], [(.inr (cn0, [(fk0, (.long t1)), (fk1, .null), (fk2, .null), (fk3, (.long s1))])), (.inr (cn0, [(fk0, (.long t2)), (fk1, .null), (fk2, .null), (fk3, (.long s2))])), (.inr (cn1, [(fk4, .ref 3), (fk5, .int 2)])), (.inl ((.object "com/example/chronogate/chronogate/Event"), [.ref 0, .ref 1, .null, .null, .null, .null, .null, .null]))], u) (fun v σ' u' => v = some (.ref 0) ∧ [(.inr (cn0, [(fk0, (.long t1)), (fk1, .null), (fk2, .null), (fk3, (.long s1))])), (.inr (cn0, [(fk0, (.long t2)), (fk1, .null), (fk2, .null), (fk3, (.long s2))])), (.inr (cn1, [(fk4, .ref 3), (fk5, .int 1)])), (.inl ((.object "com/example/chronogate/chronogate/Event"), [.ref 1, .null, .null, .null, .null, .null, .null, .null]))] = σ' ∧ u = u') := by
  refine .s (.aloadN a11_0 rfl rfl) <| .s (.getF 1 a11_1 (wd hw 37 rfl) rfl rfl) <| .s (.ifT a11_4 (by decide)) <| .s (.aloadN a11_9 rfl rfl) <| .s (.getF 0 a11_10 (wd hw 30 rfl) rfl rfl) <| .s (.iconst (0 : Int32) a11_13 rfl) <| .s (.aaload 0 a11_14 rfl rfl (by decide) rfl rfl) ?_
  refine .s (.astoreN (L' := [wR 2, wR 0, wU, wU, wU]) a11_15 rfl rfl) <| .s (.aloadN a11_16 rfl rfl) <| .s (.dup a11_17 rfl) <| .s (.getF 1 a11_18 (wd hw 37 rfl) rfl rfl) <| .s (.iconst (1 : Int32) a11_21 rfl) <| .s (.isub a11_22) ?_
  show WGo _ (23, [wR 2, wR 0, wU, wU, wU], [.int 1, .ref 2], [(.inr (cn0, [(fk0, (.long t1)), (fk1, .null), (fk2, .null), (fk3, (.long s1))])), (.inr (cn0, [(fk0, (.long t2)), (fk1, .null), (fk2, .null), (fk3, (.long s2))])), (.inr (cn1, [(fk4, .ref 3), (fk5, .int 2)])), (.inl ((.object "com/example/chronogate/chronogate/Event"), [.ref 0, .ref 1, .null, .null, .null, .null, .null, .null]))], u) _
  refine .s (.putF (ty := .int) 1 (.int 1) a11_23 (wd hw 37 rfl) rfl rfl (Or.inl (wd hw 38 rfl)) (wd hw 19 rfl) (by decide) rfl rfl) ?_
  show WGo _ (26, [wR 2, wR 0, wU, wU, wU], [], [(.inr (cn0, [(fk0, (.long t1)), (fk1, .null), (fk2, .null), (fk3, (.long s1))])), (.inr (cn0, [(fk0, (.long t2)), (fk1, .null), (fk2, .null), (fk3, (.long s2))])), (.inr (cn1, [(fk4, .ref 3), (fk5, .int 1)])), (.inl ((.object "com/example/chronogate/chronogate/Event"), [.ref 0, .ref 1, .null, .null, .null, .null, .null, .null]))], u) _
  refine .s (.aloadN a11_26 rfl rfl) <| .s (.getF 0 a11_27 (wd hw 30 rfl) rfl rfl) <| .s (.aloadN a11_30 rfl rfl) <| .s (.getF 1 a11_31 (wd hw 37 rfl) rfl rfl) <| .s (.aaload 1 a11_34 rfl rfl (by decide) rfl rfl) <| .s (.astoreN (L' := [wR 2, wR 0, wR 1, wU, wU]) a11_35 rfl rfl) <| .s (.aloadN a11_36 rfl rfl) ?_
  refine .s (.getF 0 a11_37 (wd hw 30 rfl) rfl rfl) <| .s (.aloadN a11_40 rfl rfl) <| .s (.getF 1 a11_41 (wd hw 37 rfl) rfl rfl) <| .s (.aconstNull a11_44) <| .s (.aastoreN 1 a11_45 rfl rfl (by decide) rfl (Nat.le_of_ble_eq_true rfl)) ?_
  show WGo _ (46, [wR 2, wR 0, wR 1, wU, wU], [], [(.inr (cn0, [(fk0, (.long t1)), (fk1, .null), (fk2, .null), (fk3, (.long s1))])), (.inr (cn0, [(fk0, (.long t2)), (fk1, .null), (fk2, .null), (fk3, (.long s2))])), (.inr (cn1, [(fk4, .ref 3), (fk5, .int 1)])), (.inl ((.object "com/example/chronogate/chronogate/Event"), [.ref 0, .null, .null, .null, .null, .null, .null, .null]))], u) _
  refine .s (.iconst (0 : Int32) a11_46 rfl) <| .s (.istoreN (L' := [wR 2, wR 0, wR 1, wI 0, wU]) a11_47 rfl) <| .s (.iconst (2 : Int32) a11_48 rfl) <| .s (.iloadN a11_49 rfl) <| .s (.imul a11_50) ?_
  show WGo _ (51, [wR 2, wR 0, wR 1, wI 0, wU], [.int 0], [(.inr (cn0, [(fk0, (.long t1)), (fk1, .null), (fk2, .null), (fk3, (.long s1))])), (.inr (cn0, [(fk0, (.long t2)), (fk1, .null), (fk2, .null), (fk3, (.long s2))])), (.inr (cn1, [(fk4, .ref 3), (fk5, .int 1)])), (.inl ((.object "com/example/chronogate/chronogate/Event"), [.ref 0, .null, .null, .null, .null, .null, .null, .null]))], u) _
  refine .s (.iconst (1 : Int32) a11_51 rfl) <| .s (.iadd a11_52) ?_
  show WGo _ (53, [wR 2, wR 0, wR 1, wI 0, wU], [.int 1], [(.inr (cn0, [(fk0, (.long t1)), (fk1, .null), (fk2, .null), (fk3, (.long s1))])), (.inr (cn0, [(fk0, (.long t2)), (fk1, .null), (fk2, .null), (fk3, (.long s2))])), (.inr (cn1, [(fk4, .ref 3), (fk5, .int 1)])), (.inl ((.object "com/example/chronogate/chronogate/Event"), [.ref 0, .null, .null, .null, .null, .null, .null, .null]))], u) _
  refine .s (.aloadN a11_53 rfl rfl) <| .s (.getF 1 a11_54 (wd hw 37 rfl) rfl rfl) <| .s (.icmpT a11_57 (by decide)) <| .s (.aloadN a11_139 rfl rfl) <| .s (.getF 1 a11_140 (wd hw 37 rfl) rfl rfl) <| .s (.ifF a11_143 (by decide)) <| .s (.aloadN a11_146 rfl rfl) ?_
  refine .s (.getF 0 a11_147 (wd hw 30 rfl) rfl rfl) <| .s (.iloadN a11_150 rfl) <| .s (.aloadN a11_151 rfl rfl) <| .s (.aastore 0 a11_152 rfl rfl (by decide) rfl (Nat.le_of_ble_eq_true rfl)) ?_
  show WGo _ (153, [wR 2, wR 0, wR 1, wI 0, wU], [], [(.inr (cn0, [(fk0, (.long t1)), (fk1, .null), (fk2, .null), (fk3, (.long s1))])), (.inr (cn0, [(fk0, (.long t2)), (fk1, .null), (fk2, .null), (fk3, (.long s2))])), (.inr (cn1, [(fk4, .ref 3), (fk5, .int 1)])), (.inl ((.object "com/example/chronogate/chronogate/Event"), [.ref 1, .null, .null, .null, .null, .null, .null, .null]))], u) _
  refine .s (.aloadN a11_153 rfl rfl) ?_
  refine .areturn (.object "com/example/chronogate/chronogate/Event") a11_154 rfl rfl rfl ?_
  exact ⟨rfl, rfl, rfl⟩
set_option maxHeartbeats 4000000 in
theorem au6_27 {Z : State} {a0 : Array Value} (hw : ∀ d ∈ tables_1, d.before a0 Z = true) (ρ : Nat → Nat) (n0 : Nat) (t1 : Int64) (t2 : Int64) (s1 : Int64) (s2 : Int64) (u : Nat) : WGo (g6 Z ρ n0 4 u) (0, [wI 0, wI 1], [], [(.inr (cn0, [(fk0, (.long t1)), (fk1, .null), (fk2, .null), (fk3, (.long s1))])), (.inr (cn0, [(fk0, (.long t2)), (fk1, .null), (fk2, .null), (fk3, (.long s2))])), (.inr (cn1, [(fk4, .ref 3), (fk5, .int 1)])), (.inl ((.object "com/example/chronogate/chronogate/Event"), [.ref 1, .null, .null, .null, .null, .null, .null, .null]))], u) (fun v σ' u' => v = some (.int 1) ∧ [(.inr (cn0, [(fk0, (.long t1)), (fk1, .null), (fk2, .null), (fk3, (.long s1))])), (.inr (cn0, [(fk0, (.long t2)), (fk1, .null), (fk2, .null), (fk3, (.long s2))])), (.inr (cn1, [(fk4, .ref 3), (fk5, .int 1)])), (.inl ((.object "com/example/chronogate/chronogate/Event"), [.ref 1, .null, .null, .null, .null, .null, .null, .null]))] = σ' ∧ u = u') := by
  refine .s (.iloadN a6_0 rfl) <| .s (.iloadN a6_1 rfl) <| .s (.icmpT a6_2 (by decide)) <| .s (.iloadN a6_9 rfl) ?_
  refine .ireturn .int a6_10 rfl (by simp) ?_
  exact ⟨rfl, rfl, rfl⟩
set_option maxHeartbeats 4000000 in
theorem au5_28 {Z : State} {a0 : Array Value} (hw : ∀ d ∈ tables_1, d.before a0 Z = true) (ρ : Nat → Nat) (n0 : Nat) (t1 : Int64) (t2 : Int64) (s1 : Int64) (s2 : Int64) (u : Nat) : WGo (g5 Z ρ n0 4 u) (0, [wR 2], [], [(.inr (cn0, [(fk0, (.long t1)), (fk1, .null), (fk2, .null), (fk3, (.long s1))])), (.inr (cn0, [(fk0, (.long t2)), (fk1, .null), (fk2, .null), (fk3, (.long s2))])), (.inr (cn1, [(fk4, .ref 3), (fk5, .int 1)])), (.inl ((.object "com/example/chronogate/chronogate/Event"), [.ref 1, .null, .null, .null, .null, .null, .null, .null]))], u) (fun v σ' u' => v = some (.int 0) ∧ [(.inr (cn0, [(fk0, (.long t1)), (fk1, .null), (fk2, .null), (fk3, (.long s1))])), (.inr (cn0, [(fk0, (.long t2)), (fk1, .null), (fk2, .null), (fk3, (.long s2))])), (.inr (cn1, [(fk4, .ref 3), (fk5, .int 1)])), (.inl ((.object "com/example/chronogate/chronogate/Event"), [.ref 1, .null, .null, .null, .null, .null, .null, .null]))] = σ' ∧ u = u') := by
  refine .s (.aloadN a5_0 rfl rfl) <| .s (.getF 1 a5_1 (wd hw 37 rfl) rfl rfl) <| .s (.ifT a5_4 (by decide)) <| .s (.iconst (0 : Int32) a5_11 rfl) ?_
  refine .ireturn .boolean a5_12 rfl (by simp) ?_
  exact ⟨rfl, rfl, rfl⟩
set_option maxHeartbeats 4000000 in
theorem au7_29 {Z : State} {a0 : Array Value} (hw : ∀ d ∈ tables_1, d.before a0 Z = true) (ρ : Nat → Nat) (n0 : Nat) (t1 : Int64) (t2 : Int64) (s1 : Int64) (s2 : Int64) (u : Nat) : WGo (g7 Z ρ n0 4 u) (0, [wR 2], [], [(.inr (cn0, [(fk0, (.long t1)), (fk1, .null), (fk2, .null), (fk3, (.long s1))])), (.inr (cn0, [(fk0, (.long t2)), (fk1, .null), (fk2, .null), (fk3, (.long s2))])), (.inr (cn1, [(fk4, .ref 3), (fk5, .int 1)])), (.inl ((.object "com/example/chronogate/chronogate/Event"), [.ref 1, .null, .null, .null, .null, .null, .null, .null]))], u) (fun v σ' u' => v = some (.ref 1) ∧ [(.inr (cn0, [(fk0, (.long t1)), (fk1, .null), (fk2, .null), (fk3, (.long s1))])), (.inr (cn0, [(fk0, (.long t2)), (fk1, .null), (fk2, .null), (fk3, (.long s2))])), (.inr (cn1, [(fk4, .ref 3), (fk5, .int 1)])), (.inl ((.object "com/example/chronogate/chronogate/Event"), [.ref 1, .null, .null, .null, .null, .null, .null, .null]))] = σ' ∧ u = u') := by
  refine .s (.aloadN a7_0 rfl rfl) <| .s (.getF 1 a7_1 (wd hw 37 rfl) rfl rfl) <| .s (.ifT a7_4 (by decide)) <| .s (.aloadN a7_11 rfl rfl) <| .s (.getF 0 a7_12 (wd hw 30 rfl) rfl rfl) <| .s (.iconst (0 : Int32) a7_15 rfl) <| .s (.aaload 0 a7_16 rfl rfl (by decide) rfl rfl) ?_
  refine .areturn (.object "com/example/chronogate/chronogate/Event") a7_17 rfl rfl rfl ?_
  exact ⟨rfl, rfl, rfl⟩
set_option maxHeartbeats 4000000 in
theorem au11_30 {Z : State} {a0 : Array Value} (hw : ∀ d ∈ tables_1, d.before a0 Z = true) (ρ : Nat → Nat) (n0 : Nat) (t1 : Int64) (t2 : Int64) (s1 : Int64) (s2 : Int64) (u : Nat) : WGo (g11 Z ρ n0 4 u) (0, [wR 2, wU, wU, wU, wU], [], [(.inr (cn0, [(fk0, (.long t1)), (fk1, .null), (fk2, .null), (fk3, (.long s1))])), (.inr (cn0, [(fk0, (.long t2)), (fk1, .null), (fk2, .null), (fk3, (.long s2))])), (.inr (cn1, [(fk4, .ref 3), (fk5, .int 2)])), (.inl ((.object "com/example/chronogate/chronogate/Event"), [.ref 1, .ref 0, .null, .null, .null, .null, .null, .null]))], u) (fun v σ' u' => v = some (.ref 1) ∧ [(.inr (cn0, [(fk0, (.long t1)), (fk1, .null), (fk2, .null), (fk3, (.long s1))])), (.inr (cn0, [(fk0, (.long t2)), (fk1, .null), (fk2, .null), (fk3, (.long s2))])), (.inr (cn1, [(fk4, .ref 3), (fk5, .int 1)])), (.inl ((.object "com/example/chronogate/chronogate/Event"), [.ref 0, .null, .null, .null, .null, .null, .null, .null]))] = σ' ∧ u = u') := by
  refine .s (.aloadN a11_0 rfl rfl) <| .s (.getF 1 a11_1 (wd hw 37 rfl) rfl rfl) <| .s (.ifT a11_4 (by decide)) <| .s (.aloadN a11_9 rfl rfl) <| .s (.getF 0 a11_10 (wd hw 30 rfl) rfl rfl) <| .s (.iconst (0 : Int32) a11_13 rfl) <| .s (.aaload 0 a11_14 rfl rfl (by decide) rfl rfl) ?_
  refine .s (.astoreN (L' := [wR 2, wR 1, wU, wU, wU]) a11_15 rfl rfl) <| .s (.aloadN a11_16 rfl rfl) <| .s (.dup a11_17 rfl) <| .s (.getF 1 a11_18 (wd hw 37 rfl) rfl rfl) <| .s (.iconst (1 : Int32) a11_21 rfl) <| .s (.isub a11_22) ?_
  show WGo _ (23, [wR 2, wR 1, wU, wU, wU], [.int 1, .ref 2], [(.inr (cn0, [(fk0, (.long t1)), (fk1, .null), (fk2, .null), (fk3, (.long s1))])), (.inr (cn0, [(fk0, (.long t2)), (fk1, .null), (fk2, .null), (fk3, (.long s2))])), (.inr (cn1, [(fk4, .ref 3), (fk5, .int 2)])), (.inl ((.object "com/example/chronogate/chronogate/Event"), [.ref 1, .ref 0, .null, .null, .null, .null, .null, .null]))], u) _
  refine .s (.putF (ty := .int) 1 (.int 1) a11_23 (wd hw 37 rfl) rfl rfl (Or.inl (wd hw 38 rfl)) (wd hw 19 rfl) (by decide) rfl rfl) ?_
  show WGo _ (26, [wR 2, wR 1, wU, wU, wU], [], [(.inr (cn0, [(fk0, (.long t1)), (fk1, .null), (fk2, .null), (fk3, (.long s1))])), (.inr (cn0, [(fk0, (.long t2)), (fk1, .null), (fk2, .null), (fk3, (.long s2))])), (.inr (cn1, [(fk4, .ref 3), (fk5, .int 1)])), (.inl ((.object "com/example/chronogate/chronogate/Event"), [.ref 1, .ref 0, .null, .null, .null, .null, .null, .null]))], u) _
  refine .s (.aloadN a11_26 rfl rfl) <| .s (.getF 0 a11_27 (wd hw 30 rfl) rfl rfl) <| .s (.aloadN a11_30 rfl rfl) <| .s (.getF 1 a11_31 (wd hw 37 rfl) rfl rfl) <| .s (.aaload 1 a11_34 rfl rfl (by decide) rfl rfl) <| .s (.astoreN (L' := [wR 2, wR 1, wR 0, wU, wU]) a11_35 rfl rfl) <| .s (.aloadN a11_36 rfl rfl) ?_
  refine .s (.getF 0 a11_37 (wd hw 30 rfl) rfl rfl) <| .s (.aloadN a11_40 rfl rfl) <| .s (.getF 1 a11_41 (wd hw 37 rfl) rfl rfl) <| .s (.aconstNull a11_44) <| .s (.aastoreN 1 a11_45 rfl rfl (by decide) rfl (Nat.le_of_ble_eq_true rfl)) ?_
  show WGo _ (46, [wR 2, wR 1, wR 0, wU, wU], [], [(.inr (cn0, [(fk0, (.long t1)), (fk1, .null), (fk2, .null), (fk3, (.long s1))])), (.inr (cn0, [(fk0, (.long t2)), (fk1, .null), (fk2, .null), (fk3, (.long s2))])), (.inr (cn1, [(fk4, .ref 3), (fk5, .int 1)])), (.inl ((.object "com/example/chronogate/chronogate/Event"), [.ref 1, .null, .null, .null, .null, .null, .null, .null]))], u) _
  refine .s (.iconst (0 : Int32) a11_46 rfl) <| .s (.istoreN (L' := [wR 2, wR 1, wR 0, wI 0, wU]) a11_47 rfl) <| .s (.iconst (2 : Int32) a11_48 rfl) <| .s (.iloadN a11_49 rfl) <| .s (.imul a11_50) ?_
  show WGo _ (51, [wR 2, wR 1, wR 0, wI 0, wU], [.int 0], [(.inr (cn0, [(fk0, (.long t1)), (fk1, .null), (fk2, .null), (fk3, (.long s1))])), (.inr (cn0, [(fk0, (.long t2)), (fk1, .null), (fk2, .null), (fk3, (.long s2))])), (.inr (cn1, [(fk4, .ref 3), (fk5, .int 1)])), (.inl ((.object "com/example/chronogate/chronogate/Event"), [.ref 1, .null, .null, .null, .null, .null, .null, .null]))], u) _
  refine .s (.iconst (1 : Int32) a11_51 rfl) <| .s (.iadd a11_52) ?_
  show WGo _ (53, [wR 2, wR 1, wR 0, wI 0, wU], [.int 1], [(.inr (cn0, [(fk0, (.long t1)), (fk1, .null), (fk2, .null), (fk3, (.long s1))])), (.inr (cn0, [(fk0, (.long t2)), (fk1, .null), (fk2, .null), (fk3, (.long s2))])), (.inr (cn1, [(fk4, .ref 3), (fk5, .int 1)])), (.inl ((.object "com/example/chronogate/chronogate/Event"), [.ref 1, .null, .null, .null, .null, .null, .null, .null]))], u) _
  refine .s (.aloadN a11_53 rfl rfl) <| .s (.getF 1 a11_54 (wd hw 37 rfl) rfl rfl) <| .s (.icmpT a11_57 (by decide)) <| .s (.aloadN a11_139 rfl rfl) <| .s (.getF 1 a11_140 (wd hw 37 rfl) rfl rfl) <| .s (.ifF a11_143 (by decide)) <| .s (.aloadN a11_146 rfl rfl) ?_
  refine .s (.getF 0 a11_147 (wd hw 30 rfl) rfl rfl) <| .s (.iloadN a11_150 rfl) <| .s (.aloadN a11_151 rfl rfl) <| .s (.aastore 0 a11_152 rfl rfl (by decide) rfl (Nat.le_of_ble_eq_true rfl)) ?_
  show WGo _ (153, [wR 2, wR 1, wR 0, wI 0, wU], [], [(.inr (cn0, [(fk0, (.long t1)), (fk1, .null), (fk2, .null), (fk3, (.long s1))])), (.inr (cn0, [(fk0, (.long t2)), (fk1, .null), (fk2, .null), (fk3, (.long s2))])), (.inr (cn1, [(fk4, .ref 3), (fk5, .int 1)])), (.inl ((.object "com/example/chronogate/chronogate/Event"), [.ref 0, .null, .null, .null, .null, .null, .null, .null]))], u) _
  refine .s (.aloadN a11_153 rfl rfl) ?_
  refine .areturn (.object "com/example/chronogate/chronogate/Event") a11_154 rfl rfl rfl ?_
  exact ⟨rfl, rfl, rfl⟩
set_option maxHeartbeats 40000000 in
theorem seg21 (Z : State) (a0 : Array Value) (hw : ∀ d ∈ tables_1, d.before a0 Z = true) (n0 : Nat) (counts : Int32) (t1 t2 s1 s2 : Int64) : WGo (g0 Z (fun k => n0 + k) n0 0 0) (19, [wI counts, wJ t1, wS, wJ t2, wS, wJ s1, wS, wJ s2, wS, wI 2, wI 1, wU, wU, wU, wU, wU, wU, wU], [], [], 0) (fun v σ' u' => v = some (.int 1) ∧ σ'.length ≤ 16 ∧ u' ≤ 128) := by
  refine .s (.newO (k := 0) [(fk0, .long 0), (fk1, .null), (fk2, .null), (fk3, .long 0)] a0_19 (wd hw 1 rfl) (wd hw 2 rfl) (wd hw 3 rfl) ⟨⟨Or.inr (wd hw 11 rfl), .long, by decide, rfl⟩, ⟨Or.inr (wd hw 13 rfl), (.object "java/util/List"), by decide, rfl⟩, ⟨Or.inr (wd hw 15 rfl), (.object "java/lang/Object"), by decide, rfl⟩, ⟨Or.inr (wd hw 17 rfl), .long, by decide, rfl⟩, trivial⟩ (by decide) rfl (by decide)) ?_
  show WGo _ (22, [wI counts, wJ t1, wS, wJ t2, wS, wJ s1, wS, wJ s2, wS, wI 2, wI 1, wU, wU, wU, wU, wU, wU, wU], [.ref 0], [(.inr (cn0, [(fk0, .long 0), (fk1, .null), (fk2, .null), (fk3, .long 0)]))], 4) _
  refine .s (.dup a0_22 rfl) <| .s (.lloadN a0_23 rfl) <| .s (.aconstNull a0_24) <| .s (.aconstNull a0_25) <| .s (.lload a0_26 rfl) ?_
  refine .callI (k := 0) a0_28 (ok1 hw _ _ _ _) rfl rfl (wd hw 4 rfl) (wd hw 5 rfl) (by decide) (argsL := [(.long t1), .null, .null, (.long s1)]) (S := [.ref 0]) (au1_1 hw _ _ t1 s1 _) rfl rfl rfl rfl rfl rfl (Nat.le_of_ble_eq_true rfl) (Nat.le_of_ble_eq_true rfl) ?_
  rintro _ _ _ ⟨rfl, rfl, rfl⟩
  show WGo _ (31, [wI counts, wJ t1, wS, wJ t2, wS, wJ s1, wS, wJ s2, wS, wI 2, wI 1, wU, wU, wU, wU, wU, wU, wU], [.ref 0], [(.inr (cn0, [(fk0, (.long t1)), (fk1, .null), (fk2, .null), (fk3, (.long s1))]))], 4) _
  refine .s (.astore (L' := [wI counts, wJ t1, wS, wJ t2, wS, wJ s1, wS, wJ s2, wS, wI 2, wI 1, wR 0, wU, wU, wU, wU, wU, wU]) a0_31 rfl rfl) <| .s (.newO (k := 1) [(fk0, .long 0), (fk1, .null), (fk2, .null), (fk3, .long 0)] a0_33 (wd hw 1 rfl) (wd hw 2 rfl) (wd hw 3 rfl) ⟨⟨Or.inr (wd hw 11 rfl), .long, by decide, rfl⟩, ⟨Or.inr (wd hw 13 rfl), (.object "java/util/List"), by decide, rfl⟩, ⟨Or.inr (wd hw 15 rfl), (.object "java/lang/Object"), by decide, rfl⟩, ⟨Or.inr (wd hw 17 rfl), .long, by decide, rfl⟩, trivial⟩ (by decide) rfl (by decide)) ?_
  show WGo _ (36, [wI counts, wJ t1, wS, wJ t2, wS, wJ s1, wS, wJ s2, wS, wI 2, wI 1, wR 0, wU, wU, wU, wU, wU, wU], [.ref 1], [(.inr (cn0, [(fk0, (.long t1)), (fk1, .null), (fk2, .null), (fk3, (.long s1))])), (.inr (cn0, [(fk0, .long 0), (fk1, .null), (fk2, .null), (fk3, .long 0)]))], 8) _
  refine .s (.dup a0_36 rfl) <| .s (.lloadN a0_37 rfl) <| .s (.aconstNull a0_38) <| .s (.aconstNull a0_39) <| .s (.lload a0_40 rfl) ?_
  refine .callI (k := 1) a0_42 (ok1 hw _ _ _ _) rfl rfl (wd hw 4 rfl) (wd hw 5 rfl) (by decide) (argsL := [(.long t2), .null, .null, (.long s2)]) (S := [.ref 1]) (au1_2 hw _ _ t1 t2 s1 s2 _) rfl rfl rfl rfl rfl rfl (Nat.le_of_ble_eq_true rfl) (Nat.le_of_ble_eq_true rfl) ?_
  rintro _ _ _ ⟨rfl, rfl, rfl⟩
  show WGo _ (45, [wI counts, wJ t1, wS, wJ t2, wS, wJ s1, wS, wJ s2, wS, wI 2, wI 1, wR 0, wU, wU, wU, wU, wU, wU], [.ref 1], [(.inr (cn0, [(fk0, (.long t1)), (fk1, .null), (fk2, .null), (fk3, (.long s1))])), (.inr (cn0, [(fk0, (.long t2)), (fk1, .null), (fk2, .null), (fk3, (.long s2))]))], 8) _
  refine .s (.astore (L' := [wI counts, wJ t1, wS, wJ t2, wS, wJ s1, wS, wJ s2, wS, wI 2, wI 1, wR 0, wR 1, wU, wU, wU, wU, wU]) a0_45 rfl rfl) <| .s (.newO (k := 2) [(fk4, .null), (fk5, .int 0)] a0_47 (wd hw 18 rfl) (wd hw 19 rfl) (wd hw 20 rfl) ⟨⟨Or.inl (wd hw 31 rfl), (.array (.object "com/example/chronogate/chronogate/Event")), by decide, rfl⟩, ⟨Or.inl (wd hw 38 rfl), .int, by decide, rfl⟩, trivial⟩ (by decide) rfl (by decide)) ?_
  show WGo _ (50, [wI counts, wJ t1, wS, wJ t2, wS, wJ s1, wS, wJ s2, wS, wI 2, wI 1, wR 0, wR 1, wU, wU, wU, wU, wU], [.ref 2], [(.inr (cn0, [(fk0, (.long t1)), (fk1, .null), (fk2, .null), (fk3, (.long s1))])), (.inr (cn0, [(fk0, (.long t2)), (fk1, .null), (fk2, .null), (fk3, (.long s2))])), (.inr (cn1, [(fk4, .null), (fk5, .int 0)]))], 10) _
  refine .s (.dup a0_50 rfl) ?_
  refine .callI (k := 2) a0_51 (ok3 hw _ _ _ _) rfl rfl (wd hw 21 rfl) (wd hw 22 rfl) (by decide) (argsL := []) (S := [.ref 2]) (au3_3 hw _ _ t1 t2 s1 s2 _) rfl rfl rfl rfl rfl rfl (Nat.le_of_ble_eq_true rfl) (Nat.le_of_ble_eq_true rfl) ?_
  rintro _ _ _ ⟨rfl, rfl, rfl⟩
  show WGo _ (54, [wI counts, wJ t1, wS, wJ t2, wS, wJ s1, wS, wJ s2, wS, wI 2, wI 1, wR 0, wR 1, wU, wU, wU, wU, wU], [.ref 2], [(.inr (cn0, [(fk0, (.long t1)), (fk1, .null), (fk2, .null), (fk3, (.long s1))])), (.inr (cn0, [(fk0, (.long t2)), (fk1, .null), (fk2, .null), (fk3, (.long s2))])), (.inr (cn1, [(fk4, .ref 3), (fk5, .int 0)])), (.inl ((.object "com/example/chronogate/chronogate/Event"), [.null, .null, .null, .null, .null, .null, .null, .null]))], 18) _
  refine .s (.astore (L' := [wI counts, wJ t1, wS, wJ t2, wS, wJ s1, wS, wJ s2, wS, wI 2, wI 1, wR 0, wR 1, wR 2, wU, wU, wU, wU]) a0_54 rfl rfl) <| .s (.aload a0_56 rfl rfl) ?_
  refine .callV (k := 2) (z := (⟨"com/example/chronogate/chronogate/ReleaseQueue", "isEmpty", "()Z"⟩ : MethodName)) a0_58 (ok5 hw _ _ _ _) ⟨rfl, by decide⟩ (wd hw 32 rfl) (wd hw 33 rfl) (fun s hZ => notFace_of_selects (args := #[]) (mvT hZ (wd hw 35 rfl))) (wd hw 35 rfl) (wd hw 34 rfl) rfl (argsL := []) (S := []) (au5_5 hw _ _ t1 t2 s1 s2 _) rfl rfl rfl rfl rfl rfl (Nat.le_of_ble_eq_true rfl) (Nat.le_of_ble_eq_true rfl) ?_
  rintro _ _ _ ⟨rfl, rfl, rfl⟩
  show WGo _ (61, [wI counts, wJ t1, wS, wJ t2, wS, wJ s1, wS, wJ s2, wS, wI 2, wI 1, wR 0, wR 1, wR 2, wU, wU, wU, wU], [.int 1], [(.inr (cn0, [(fk0, (.long t1)), (fk1, .null), (fk2, .null), (fk3, (.long s1))])), (.inr (cn0, [(fk0, (.long t2)), (fk1, .null), (fk2, .null), (fk3, (.long s2))])), (.inr (cn1, [(fk4, .ref 3), (fk5, .int 0)])), (.inl ((.object "com/example/chronogate/chronogate/Event"), [.null, .null, .null, .null, .null, .null, .null, .null]))], 18) _
  refine .s (.istore (L' := [wI counts, wJ t1, wS, wJ t2, wS, wJ s1, wS, wJ s2, wS, wI 2, wI 1, wR 0, wR 1, wR 2, wI 1, wU, wU, wU]) a0_61 rfl) <| .s (.iload a0_63 rfl) <| .s (.iconst (1 : Int32) a0_65 rfl) <| .s (.icmpF a0_66 (by decide)) <| .s (.aload a0_69 rfl rfl) <| .s (.aload a0_71 rfl rfl) ?_
  refine .callV (k := 2) (z := (⟨"com/example/chronogate/chronogate/ReleaseQueue", "add", "(Lcom/example/chronogate/chronogate/Event;)V"⟩ : MethodName)) a0_73 (ok8 hw _ _ _ _) ⟨rfl, by decide⟩ (wd hw 48 rfl) (wd hw 49 rfl) (fun s hZ => notFace_of_selects (args := #[]) (mvT hZ (wd hw 51 rfl))) (wd hw 51 rfl) (wd hw 50 rfl) rfl (argsL := [.ref 0]) (S := []) (au8_11 hw _ _ t1 t2 s1 s2 _) rfl rfl rfl rfl rfl rfl (Nat.le_of_ble_eq_true rfl) (Nat.le_of_ble_eq_true rfl) ?_
  rintro _ _ _ ⟨rfl, rfl, rfl⟩
  show WGo _ (76, [wI counts, wJ t1, wS, wJ t2, wS, wJ s1, wS, wJ s2, wS, wI 2, wI 1, wR 0, wR 1, wR 2, wI 1, wU, wU, wU], [], [(.inr (cn0, [(fk0, (.long t1)), (fk1, .null), (fk2, .null), (fk3, (.long s1))])), (.inr (cn0, [(fk0, (.long t2)), (fk1, .null), (fk2, .null), (fk3, (.long s2))])), (.inr (cn1, [(fk4, .ref 3), (fk5, .int 1)])), (.inl ((.object "com/example/chronogate/chronogate/Event"), [.ref 0, .null, .null, .null, .null, .null, .null, .null]))], 18) _
  refine .s (.iload a0_76 rfl) <| .s (.iconst (2 : Int32) a0_78 rfl) <| .s (.icmpF a0_79 (by decide)) <| .s (.aload a0_82 rfl rfl) <| .s (.aload a0_84 rfl rfl) ?_
  refine .callV (k := 2) (z := (⟨"com/example/chronogate/chronogate/ReleaseQueue", "add", "(Lcom/example/chronogate/chronogate/Event;)V"⟩ : MethodName)) a0_86 (ok8 hw _ _ _ _) ⟨rfl, by decide⟩ (wd hw 48 rfl) (wd hw 49 rfl) (fun s hZ => notFace_of_selects (args := #[]) (mvT hZ (wd hw 51 rfl))) (wd hw 51 rfl) (wd hw 50 rfl) rfl (argsL := [.ref 1]) (S := []) (au8_16 hw _ _ t1 t2 s1 s2 _) rfl rfl rfl rfl rfl rfl (Nat.le_of_ble_eq_true rfl) (Nat.le_of_ble_eq_true rfl) ?_
  rintro _ _ _ (⟨q39, q40, rfl, rfl, rfl⟩ | ⟨q41, q42, q43, q44, rfl, rfl, rfl⟩ | ⟨q45, q46, q47, q48, rfl, rfl, rfl⟩ | ⟨q49, q50, q51, rfl, rfl, rfl⟩ | ⟨q52, rfl, rfl, rfl⟩)
  · skip
    show WGo _ (89, [wI counts, wJ t1, wS, wJ t2, wS, wJ s1, wS, wJ s2, wS, wI 2, wI 1, wR 0, wR 1, wR 2, wI 1, wU, wU, wU], [], [(.inr (cn0, [(fk0, (.long t1)), (fk1, .null), (fk2, .null), (fk3, (.long s1))])), (.inr (cn0, [(fk0, (.long t2)), (fk1, .null), (fk2, .null), (fk3, (.long s2))])), (.inr (cn1, [(fk4, .ref 3), (fk5, .int 2)])), (.inl ((.object "com/example/chronogate/chronogate/Event"), [.ref 0, .ref 1, .null, .null, .null, .null, .null, .null]))], 18) _
    refine .s (.iload a0_89 rfl) <| .s (.iconst (1 : Int32) a0_91 rfl) <| .s (.icmpF a0_92 (by decide)) <| .s (.aload a0_95 rfl rfl) ?_
    refine .callV (k := 2) (z := (⟨"com/example/chronogate/chronogate/ReleaseQueue", "poll", "()Lcom/example/chronogate/chronogate/Event;"⟩ : MethodName)) a0_97 (ok11 hw _ _ _ _) ⟨rfl, by decide⟩ (wd hw 61 rfl) (wd hw 62 rfl) (fun s hZ => notFace_of_selects (args := #[]) (mvT hZ (wd hw 64 rfl))) (wd hw 64 rfl) (wd hw 63 rfl) rfl (argsL := []) (S := []) (au11_26 hw _ _ t1 t2 s1 s2 _) rfl rfl rfl rfl rfl rfl (Nat.le_of_ble_eq_true rfl) (Nat.le_of_ble_eq_true rfl) ?_
    rintro _ _ _ ⟨rfl, rfl, rfl⟩
    show WGo _ (100, [wI counts, wJ t1, wS, wJ t2, wS, wJ s1, wS, wJ s2, wS, wI 2, wI 1, wR 0, wR 1, wR 2, wI 1, wU, wU, wU], [.ref 0], [(.inr (cn0, [(fk0, (.long t1)), (fk1, .null), (fk2, .null), (fk3, (.long s1))])), (.inr (cn0, [(fk0, (.long t2)), (fk1, .null), (fk2, .null), (fk3, (.long s2))])), (.inr (cn1, [(fk4, .ref 3), (fk5, .int 1)])), (.inl ((.object "com/example/chronogate/chronogate/Event"), [.ref 1, .null, .null, .null, .null, .null, .null, .null]))], 18) _
    refine .s (.pop a0_100 rfl) <| .s (.iload a0_101 rfl) <| .s (.iconst (2 : Int32) a0_103 rfl) <| .s (.icmpT a0_104 (by decide)) <| .s (.iconst (0 : Int32) a0_113 rfl) <| .s (.iload a0_114 rfl) <| .s (.iload a0_116 rfl) ?_
    refine .s (.isub a0_118) ?_
    show WGo _ (119, [wI counts, wJ t1, wS, wJ t2, wS, wJ s1, wS, wJ s2, wS, wI 2, wI 1, wR 0, wR 1, wR 2, wI 1, wU, wU, wU], [.int 1, .int 0], [(.inr (cn0, [(fk0, (.long t1)), (fk1, .null), (fk2, .null), (fk3, (.long s1))])), (.inr (cn0, [(fk0, (.long t2)), (fk1, .null), (fk2, .null), (fk3, (.long s2))])), (.inr (cn1, [(fk4, .ref 3), (fk5, .int 1)])), (.inl ((.object "com/example/chronogate/chronogate/Event"), [.ref 1, .null, .null, .null, .null, .null, .null, .null]))], 18) _
    refine .callS a0_119 (ok6 hw _ _ _ _) (wd hw 39 rfl) (wd hw 40 rfl) (argsL := [.int 0, .int 1]) (S := []) (au6_27 hw _ _ t1 t2 s1 s2 _) rfl rfl rfl rfl rfl rfl (Nat.le_of_ble_eq_true rfl) (Nat.le_of_ble_eq_true rfl) ?_
    rintro _ _ _ ⟨rfl, rfl, rfl⟩
    show WGo _ (122, [wI counts, wJ t1, wS, wJ t2, wS, wJ s1, wS, wJ s2, wS, wI 2, wI 1, wR 0, wR 1, wR 2, wI 1, wU, wU, wU], [.int 1], [(.inr (cn0, [(fk0, (.long t1)), (fk1, .null), (fk2, .null), (fk3, (.long s1))])), (.inr (cn0, [(fk0, (.long t2)), (fk1, .null), (fk2, .null), (fk3, (.long s2))])), (.inr (cn1, [(fk4, .ref 3), (fk5, .int 1)])), (.inl ((.object "com/example/chronogate/chronogate/Event"), [.ref 1, .null, .null, .null, .null, .null, .null, .null]))], 18) _
    refine .s (.istore (L' := [wI counts, wJ t1, wS, wJ t2, wS, wJ s1, wS, wJ s2, wS, wI 2, wI 1, wR 0, wR 1, wR 2, wI 1, wI 1, wU, wU]) a0_122 rfl) <| .s (.aload a0_124 rfl rfl) ?_
    refine .callV (k := 2) (z := (⟨"com/example/chronogate/chronogate/ReleaseQueue", "isEmpty", "()Z"⟩ : MethodName)) a0_126 (ok5 hw _ _ _ _) ⟨rfl, by decide⟩ (wd hw 32 rfl) (wd hw 33 rfl) (fun s hZ => notFace_of_selects (args := #[]) (mvT hZ (wd hw 35 rfl))) (wd hw 35 rfl) (wd hw 34 rfl) rfl (argsL := []) (S := []) (au5_28 hw _ _ t1 t2 s1 s2 _) rfl rfl rfl rfl rfl rfl (Nat.le_of_ble_eq_true rfl) (Nat.le_of_ble_eq_true rfl) ?_
    rintro _ _ _ ⟨rfl, rfl, rfl⟩
    show WGo _ (129, [wI counts, wJ t1, wS, wJ t2, wS, wJ s1, wS, wJ s2, wS, wI 2, wI 1, wR 0, wR 1, wR 2, wI 1, wI 1, wU, wU], [.int 0], [(.inr (cn0, [(fk0, (.long t1)), (fk1, .null), (fk2, .null), (fk3, (.long s1))])), (.inr (cn0, [(fk0, (.long t2)), (fk1, .null), (fk2, .null), (fk3, (.long s2))])), (.inr (cn1, [(fk4, .ref 3), (fk5, .int 1)])), (.inl ((.object "com/example/chronogate/chronogate/Event"), [.ref 1, .null, .null, .null, .null, .null, .null, .null]))], 18) _
    refine .s (.istore (L' := [wI counts, wJ t1, wS, wJ t2, wS, wJ s1, wS, wJ s2, wS, wI 2, wI 1, wR 0, wR 1, wR 2, wI 1, wI 1, wI 0, wU]) a0_129 rfl) <| .s (.aload a0_131 rfl rfl) ?_
    refine .callV (k := 2) (z := (⟨"com/example/chronogate/chronogate/ReleaseQueue", "peek", "()Lcom/example/chronogate/chronogate/Event;"⟩ : MethodName)) a0_133 (ok7 hw _ _ _ _) ⟨rfl, by decide⟩ (wd hw 43 rfl) (wd hw 44 rfl) (fun s hZ => notFace_of_selects (args := #[]) (mvT hZ (wd hw 46 rfl))) (wd hw 46 rfl) (wd hw 45 rfl) rfl (argsL := []) (S := []) (au7_29 hw _ _ t1 t2 s1 s2 _) rfl rfl rfl rfl rfl rfl (Nat.le_of_ble_eq_true rfl) (Nat.le_of_ble_eq_true rfl) ?_
    rintro _ _ _ ⟨rfl, rfl, rfl⟩
    show WGo _ (136, [wI counts, wJ t1, wS, wJ t2, wS, wJ s1, wS, wJ s2, wS, wI 2, wI 1, wR 0, wR 1, wR 2, wI 1, wI 1, wI 0, wU], [.ref 1], [(.inr (cn0, [(fk0, (.long t1)), (fk1, .null), (fk2, .null), (fk3, (.long s1))])), (.inr (cn0, [(fk0, (.long t2)), (fk1, .null), (fk2, .null), (fk3, (.long s2))])), (.inr (cn1, [(fk4, .ref 3), (fk5, .int 1)])), (.inl ((.object "com/example/chronogate/chronogate/Event"), [.ref 1, .null, .null, .null, .null, .null, .null, .null]))], 18) _
    refine .s (.nonnullT a0_136) <| .s (.iconst (0 : Int32) a0_143 rfl) <| .s (.istore (L' := [wI counts, wJ t1, wS, wJ t2, wS, wJ s1, wS, wJ s2, wS, wI 2, wI 1, wR 0, wR 1, wR 2, wI 1, wI 1, wI 0, wI 0]) a0_144 rfl) <| .s (.iload a0_146 rfl) <| .s (.ifF a0_148 (by decide)) <| .s (.iload a0_151 rfl) <| .s (.iload a0_153 rfl) ?_
    refine .s (.ifT a0_155 (by decide)) <| .s (.iconst (0 : Int32) a0_162 rfl) <| .s (.icmpF a0_163 (by decide)) <| .s (.iload a0_166 rfl) <| .s (.iload a0_168 rfl) <| .s (.icmpF a0_170 (by decide)) <| .s (.iconst (1 : Int32) a0_173 rfl) ?_
    refine .s (.goto a0_174) ?_
    refine .ireturn .boolean a0_178 rfl (by simp) ?_
    exact ⟨rfl, Nat.le_of_ble_eq_true rfl, Nat.le_of_ble_eq_true rfl⟩
  · skip
    show WGo _ (89, [wI counts, wJ t1, wS, wJ t2, wS, wJ s1, wS, wJ s2, wS, wI 2, wI 1, wR 0, wR 1, wR 2, wI 1, wU, wU, wU], [], [(.inr (cn0, [(fk0, (.long t1)), (fk1, .null), (fk2, .null), (fk3, (.long s1))])), (.inr (cn0, [(fk0, (.long t2)), (fk1, .null), (fk2, .null), (fk3, (.long s2))])), (.inr (cn1, [(fk4, .ref 3), (fk5, .int 2)])), (.inl ((.object "com/example/chronogate/chronogate/Event"), [.ref 0, .ref 1, .null, .null, .null, .null, .null, .null]))], 18) _
    refine .s (.iload a0_89 rfl) <| .s (.iconst (1 : Int32) a0_91 rfl) <| .s (.icmpF a0_92 (by decide)) <| .s (.aload a0_95 rfl rfl) ?_
    refine .callV (k := 2) (z := (⟨"com/example/chronogate/chronogate/ReleaseQueue", "poll", "()Lcom/example/chronogate/chronogate/Event;"⟩ : MethodName)) a0_97 (ok11 hw _ _ _ _) ⟨rfl, by decide⟩ (wd hw 61 rfl) (wd hw 62 rfl) (fun s hZ => notFace_of_selects (args := #[]) (mvT hZ (wd hw 64 rfl))) (wd hw 64 rfl) (wd hw 63 rfl) rfl (argsL := []) (S := []) (au11_26 hw _ _ t1 t2 s1 s2 _) rfl rfl rfl rfl rfl rfl (Nat.le_of_ble_eq_true rfl) (Nat.le_of_ble_eq_true rfl) ?_
    rintro _ _ _ ⟨rfl, rfl, rfl⟩
    show WGo _ (100, [wI counts, wJ t1, wS, wJ t2, wS, wJ s1, wS, wJ s2, wS, wI 2, wI 1, wR 0, wR 1, wR 2, wI 1, wU, wU, wU], [.ref 0], [(.inr (cn0, [(fk0, (.long t1)), (fk1, .null), (fk2, .null), (fk3, (.long s1))])), (.inr (cn0, [(fk0, (.long t2)), (fk1, .null), (fk2, .null), (fk3, (.long s2))])), (.inr (cn1, [(fk4, .ref 3), (fk5, .int 1)])), (.inl ((.object "com/example/chronogate/chronogate/Event"), [.ref 1, .null, .null, .null, .null, .null, .null, .null]))], 18) _
    refine .s (.pop a0_100 rfl) <| .s (.iload a0_101 rfl) <| .s (.iconst (2 : Int32) a0_103 rfl) <| .s (.icmpT a0_104 (by decide)) <| .s (.iconst (0 : Int32) a0_113 rfl) <| .s (.iload a0_114 rfl) <| .s (.iload a0_116 rfl) ?_
    refine .s (.isub a0_118) ?_
    show WGo _ (119, [wI counts, wJ t1, wS, wJ t2, wS, wJ s1, wS, wJ s2, wS, wI 2, wI 1, wR 0, wR 1, wR 2, wI 1, wU, wU, wU], [.int 1, .int 0], [(.inr (cn0, [(fk0, (.long t1)), (fk1, .null), (fk2, .null), (fk3, (.long s1))])), (.inr (cn0, [(fk0, (.long t2)), (fk1, .null), (fk2, .null), (fk3, (.long s2))])), (.inr (cn1, [(fk4, .ref 3), (fk5, .int 1)])), (.inl ((.object "com/example/chronogate/chronogate/Event"), [.ref 1, .null, .null, .null, .null, .null, .null, .null]))], 18) _
    refine .callS a0_119 (ok6 hw _ _ _ _) (wd hw 39 rfl) (wd hw 40 rfl) (argsL := [.int 0, .int 1]) (S := []) (au6_27 hw _ _ t1 t2 s1 s2 _) rfl rfl rfl rfl rfl rfl (Nat.le_of_ble_eq_true rfl) (Nat.le_of_ble_eq_true rfl) ?_
    rintro _ _ _ ⟨rfl, rfl, rfl⟩
    show WGo _ (122, [wI counts, wJ t1, wS, wJ t2, wS, wJ s1, wS, wJ s2, wS, wI 2, wI 1, wR 0, wR 1, wR 2, wI 1, wU, wU, wU], [.int 1], [(.inr (cn0, [(fk0, (.long t1)), (fk1, .null), (fk2, .null), (fk3, (.long s1))])), (.inr (cn0, [(fk0, (.long t2)), (fk1, .null), (fk2, .null), (fk3, (.long s2))])), (.inr (cn1, [(fk4, .ref 3), (fk5, .int 1)])), (.inl ((.object "com/example/chronogate/chronogate/Event"), [.ref 1, .null, .null, .null, .null, .null, .null, .null]))], 18) _
    refine .s (.istore (L' := [wI counts, wJ t1, wS, wJ t2, wS, wJ s1, wS, wJ s2, wS, wI 2, wI 1, wR 0, wR 1, wR 2, wI 1, wI 1, wU, wU]) a0_122 rfl) <| .s (.aload a0_124 rfl rfl) ?_
    refine .callV (k := 2) (z := (⟨"com/example/chronogate/chronogate/ReleaseQueue", "isEmpty", "()Z"⟩ : MethodName)) a0_126 (ok5 hw _ _ _ _) ⟨rfl, by decide⟩ (wd hw 32 rfl) (wd hw 33 rfl) (fun s hZ => notFace_of_selects (args := #[]) (mvT hZ (wd hw 35 rfl))) (wd hw 35 rfl) (wd hw 34 rfl) rfl (argsL := []) (S := []) (au5_28 hw _ _ t1 t2 s1 s2 _) rfl rfl rfl rfl rfl rfl (Nat.le_of_ble_eq_true rfl) (Nat.le_of_ble_eq_true rfl) ?_
    rintro _ _ _ ⟨rfl, rfl, rfl⟩
    show WGo _ (129, [wI counts, wJ t1, wS, wJ t2, wS, wJ s1, wS, wJ s2, wS, wI 2, wI 1, wR 0, wR 1, wR 2, wI 1, wI 1, wU, wU], [.int 0], [(.inr (cn0, [(fk0, (.long t1)), (fk1, .null), (fk2, .null), (fk3, (.long s1))])), (.inr (cn0, [(fk0, (.long t2)), (fk1, .null), (fk2, .null), (fk3, (.long s2))])), (.inr (cn1, [(fk4, .ref 3), (fk5, .int 1)])), (.inl ((.object "com/example/chronogate/chronogate/Event"), [.ref 1, .null, .null, .null, .null, .null, .null, .null]))], 18) _
    refine .s (.istore (L' := [wI counts, wJ t1, wS, wJ t2, wS, wJ s1, wS, wJ s2, wS, wI 2, wI 1, wR 0, wR 1, wR 2, wI 1, wI 1, wI 0, wU]) a0_129 rfl) <| .s (.aload a0_131 rfl rfl) ?_
    refine .callV (k := 2) (z := (⟨"com/example/chronogate/chronogate/ReleaseQueue", "peek", "()Lcom/example/chronogate/chronogate/Event;"⟩ : MethodName)) a0_133 (ok7 hw _ _ _ _) ⟨rfl, by decide⟩ (wd hw 43 rfl) (wd hw 44 rfl) (fun s hZ => notFace_of_selects (args := #[]) (mvT hZ (wd hw 46 rfl))) (wd hw 46 rfl) (wd hw 45 rfl) rfl (argsL := []) (S := []) (au7_29 hw _ _ t1 t2 s1 s2 _) rfl rfl rfl rfl rfl rfl (Nat.le_of_ble_eq_true rfl) (Nat.le_of_ble_eq_true rfl) ?_
    rintro _ _ _ ⟨rfl, rfl, rfl⟩
    show WGo _ (136, [wI counts, wJ t1, wS, wJ t2, wS, wJ s1, wS, wJ s2, wS, wI 2, wI 1, wR 0, wR 1, wR 2, wI 1, wI 1, wI 0, wU], [.ref 1], [(.inr (cn0, [(fk0, (.long t1)), (fk1, .null), (fk2, .null), (fk3, (.long s1))])), (.inr (cn0, [(fk0, (.long t2)), (fk1, .null), (fk2, .null), (fk3, (.long s2))])), (.inr (cn1, [(fk4, .ref 3), (fk5, .int 1)])), (.inl ((.object "com/example/chronogate/chronogate/Event"), [.ref 1, .null, .null, .null, .null, .null, .null, .null]))], 18) _
    refine .s (.nonnullT a0_136) <| .s (.iconst (0 : Int32) a0_143 rfl) <| .s (.istore (L' := [wI counts, wJ t1, wS, wJ t2, wS, wJ s1, wS, wJ s2, wS, wI 2, wI 1, wR 0, wR 1, wR 2, wI 1, wI 1, wI 0, wI 0]) a0_144 rfl) <| .s (.iload a0_146 rfl) <| .s (.ifF a0_148 (by decide)) <| .s (.iload a0_151 rfl) <| .s (.iload a0_153 rfl) ?_
    refine .s (.ifT a0_155 (by decide)) <| .s (.iconst (0 : Int32) a0_162 rfl) <| .s (.icmpF a0_163 (by decide)) <| .s (.iload a0_166 rfl) <| .s (.iload a0_168 rfl) <| .s (.icmpF a0_170 (by decide)) <| .s (.iconst (1 : Int32) a0_173 rfl) ?_
    refine .s (.goto a0_174) ?_
    refine .ireturn .boolean a0_178 rfl (by simp) ?_
    exact ⟨rfl, Nat.le_of_ble_eq_true rfl, Nat.le_of_ble_eq_true rfl⟩
  · skip
    show WGo _ (89, [wI counts, wJ t1, wS, wJ t2, wS, wJ s1, wS, wJ s2, wS, wI 2, wI 1, wR 0, wR 1, wR 2, wI 1, wU, wU, wU], [], [(.inr (cn0, [(fk0, (.long t1)), (fk1, .null), (fk2, .null), (fk3, (.long s1))])), (.inr (cn0, [(fk0, (.long t2)), (fk1, .null), (fk2, .null), (fk3, (.long s2))])), (.inr (cn1, [(fk4, .ref 3), (fk5, .int 2)])), (.inl ((.object "com/example/chronogate/chronogate/Event"), [.ref 0, .ref 1, .null, .null, .null, .null, .null, .null]))], 18) _
    refine .s (.iload a0_89 rfl) <| .s (.iconst (1 : Int32) a0_91 rfl) <| .s (.icmpF a0_92 (by decide)) <| .s (.aload a0_95 rfl rfl) ?_
    refine .callV (k := 2) (z := (⟨"com/example/chronogate/chronogate/ReleaseQueue", "poll", "()Lcom/example/chronogate/chronogate/Event;"⟩ : MethodName)) a0_97 (ok11 hw _ _ _ _) ⟨rfl, by decide⟩ (wd hw 61 rfl) (wd hw 62 rfl) (fun s hZ => notFace_of_selects (args := #[]) (mvT hZ (wd hw 64 rfl))) (wd hw 64 rfl) (wd hw 63 rfl) rfl (argsL := []) (S := []) (au11_26 hw _ _ t1 t2 s1 s2 _) rfl rfl rfl rfl rfl rfl (Nat.le_of_ble_eq_true rfl) (Nat.le_of_ble_eq_true rfl) ?_
    rintro _ _ _ ⟨rfl, rfl, rfl⟩
    show WGo _ (100, [wI counts, wJ t1, wS, wJ t2, wS, wJ s1, wS, wJ s2, wS, wI 2, wI 1, wR 0, wR 1, wR 2, wI 1, wU, wU, wU], [.ref 0], [(.inr (cn0, [(fk0, (.long t1)), (fk1, .null), (fk2, .null), (fk3, (.long s1))])), (.inr (cn0, [(fk0, (.long t2)), (fk1, .null), (fk2, .null), (fk3, (.long s2))])), (.inr (cn1, [(fk4, .ref 3), (fk5, .int 1)])), (.inl ((.object "com/example/chronogate/chronogate/Event"), [.ref 1, .null, .null, .null, .null, .null, .null, .null]))], 18) _
    refine .s (.pop a0_100 rfl) <| .s (.iload a0_101 rfl) <| .s (.iconst (2 : Int32) a0_103 rfl) <| .s (.icmpT a0_104 (by decide)) <| .s (.iconst (0 : Int32) a0_113 rfl) <| .s (.iload a0_114 rfl) <| .s (.iload a0_116 rfl) ?_
    refine .s (.isub a0_118) ?_
    show WGo _ (119, [wI counts, wJ t1, wS, wJ t2, wS, wJ s1, wS, wJ s2, wS, wI 2, wI 1, wR 0, wR 1, wR 2, wI 1, wU, wU, wU], [.int 1, .int 0], [(.inr (cn0, [(fk0, (.long t1)), (fk1, .null), (fk2, .null), (fk3, (.long s1))])), (.inr (cn0, [(fk0, (.long t2)), (fk1, .null), (fk2, .null), (fk3, (.long s2))])), (.inr (cn1, [(fk4, .ref 3), (fk5, .int 1)])), (.inl ((.object "com/example/chronogate/chronogate/Event"), [.ref 1, .null, .null, .null, .null, .null, .null, .null]))], 18) _
    refine .callS a0_119 (ok6 hw _ _ _ _) (wd hw 39 rfl) (wd hw 40 rfl) (argsL := [.int 0, .int 1]) (S := []) (au6_27 hw _ _ t1 t2 s1 s2 _) rfl rfl rfl rfl rfl rfl (Nat.le_of_ble_eq_true rfl) (Nat.le_of_ble_eq_true rfl) ?_
    rintro _ _ _ ⟨rfl, rfl, rfl⟩
    show WGo _ (122, [wI counts, wJ t1, wS, wJ t2, wS, wJ s1, wS, wJ s2, wS, wI 2, wI 1, wR 0, wR 1, wR 2, wI 1, wU, wU, wU], [.int 1], [(.inr (cn0, [(fk0, (.long t1)), (fk1, .null), (fk2, .null), (fk3, (.long s1))])), (.inr (cn0, [(fk0, (.long t2)), (fk1, .null), (fk2, .null), (fk3, (.long s2))])), (.inr (cn1, [(fk4, .ref 3), (fk5, .int 1)])), (.inl ((.object "com/example/chronogate/chronogate/Event"), [.ref 1, .null, .null, .null, .null, .null, .null, .null]))], 18) _
    refine .s (.istore (L' := [wI counts, wJ t1, wS, wJ t2, wS, wJ s1, wS, wJ s2, wS, wI 2, wI 1, wR 0, wR 1, wR 2, wI 1, wI 1, wU, wU]) a0_122 rfl) <| .s (.aload a0_124 rfl rfl) ?_
    refine .callV (k := 2) (z := (⟨"com/example/chronogate/chronogate/ReleaseQueue", "isEmpty", "()Z"⟩ : MethodName)) a0_126 (ok5 hw _ _ _ _) ⟨rfl, by decide⟩ (wd hw 32 rfl) (wd hw 33 rfl) (fun s hZ => notFace_of_selects (args := #[]) (mvT hZ (wd hw 35 rfl))) (wd hw 35 rfl) (wd hw 34 rfl) rfl (argsL := []) (S := []) (au5_28 hw _ _ t1 t2 s1 s2 _) rfl rfl rfl rfl rfl rfl (Nat.le_of_ble_eq_true rfl) (Nat.le_of_ble_eq_true rfl) ?_
    rintro _ _ _ ⟨rfl, rfl, rfl⟩
    show WGo _ (129, [wI counts, wJ t1, wS, wJ t2, wS, wJ s1, wS, wJ s2, wS, wI 2, wI 1, wR 0, wR 1, wR 2, wI 1, wI 1, wU, wU], [.int 0], [(.inr (cn0, [(fk0, (.long t1)), (fk1, .null), (fk2, .null), (fk3, (.long s1))])), (.inr (cn0, [(fk0, (.long t2)), (fk1, .null), (fk2, .null), (fk3, (.long s2))])), (.inr (cn1, [(fk4, .ref 3), (fk5, .int 1)])), (.inl ((.object "com/example/chronogate/chronogate/Event"), [.ref 1, .null, .null, .null, .null, .null, .null, .null]))], 18) _
    refine .s (.istore (L' := [wI counts, wJ t1, wS, wJ t2, wS, wJ s1, wS, wJ s2, wS, wI 2, wI 1, wR 0, wR 1, wR 2, wI 1, wI 1, wI 0, wU]) a0_129 rfl) <| .s (.aload a0_131 rfl rfl) ?_
    refine .callV (k := 2) (z := (⟨"com/example/chronogate/chronogate/ReleaseQueue", "peek", "()Lcom/example/chronogate/chronogate/Event;"⟩ : MethodName)) a0_133 (ok7 hw _ _ _ _) ⟨rfl, by decide⟩ (wd hw 43 rfl) (wd hw 44 rfl) (fun s hZ => notFace_of_selects (args := #[]) (mvT hZ (wd hw 46 rfl))) (wd hw 46 rfl) (wd hw 45 rfl) rfl (argsL := []) (S := []) (au7_29 hw _ _ t1 t2 s1 s2 _) rfl rfl rfl rfl rfl rfl (Nat.le_of_ble_eq_true rfl) (Nat.le_of_ble_eq_true rfl) ?_
    rintro _ _ _ ⟨rfl, rfl, rfl⟩
    show WGo _ (136, [wI counts, wJ t1, wS, wJ t2, wS, wJ s1, wS, wJ s2, wS, wI 2, wI 1, wR 0, wR 1, wR 2, wI 1, wI 1, wI 0, wU], [.ref 1], [(.inr (cn0, [(fk0, (.long t1)), (fk1, .null), (fk2, .null), (fk3, (.long s1))])), (.inr (cn0, [(fk0, (.long t2)), (fk1, .null), (fk2, .null), (fk3, (.long s2))])), (.inr (cn1, [(fk4, .ref 3), (fk5, .int 1)])), (.inl ((.object "com/example/chronogate/chronogate/Event"), [.ref 1, .null, .null, .null, .null, .null, .null, .null]))], 18) _
    refine .s (.nonnullT a0_136) <| .s (.iconst (0 : Int32) a0_143 rfl) <| .s (.istore (L' := [wI counts, wJ t1, wS, wJ t2, wS, wJ s1, wS, wJ s2, wS, wI 2, wI 1, wR 0, wR 1, wR 2, wI 1, wI 1, wI 0, wI 0]) a0_144 rfl) <| .s (.iload a0_146 rfl) <| .s (.ifF a0_148 (by decide)) <| .s (.iload a0_151 rfl) <| .s (.iload a0_153 rfl) ?_
    refine .s (.ifT a0_155 (by decide)) <| .s (.iconst (0 : Int32) a0_162 rfl) <| .s (.icmpF a0_163 (by decide)) <| .s (.iload a0_166 rfl) <| .s (.iload a0_168 rfl) <| .s (.icmpF a0_170 (by decide)) <| .s (.iconst (1 : Int32) a0_173 rfl) ?_
    refine .s (.goto a0_174) ?_
    refine .ireturn .boolean a0_178 rfl (by simp) ?_
    exact ⟨rfl, Nat.le_of_ble_eq_true rfl, Nat.le_of_ble_eq_true rfl⟩
  · skip
    show WGo _ (89, [wI counts, wJ t1, wS, wJ t2, wS, wJ s1, wS, wJ s2, wS, wI 2, wI 1, wR 0, wR 1, wR 2, wI 1, wU, wU, wU], [], [(.inr (cn0, [(fk0, (.long t1)), (fk1, .null), (fk2, .null), (fk3, (.long s1))])), (.inr (cn0, [(fk0, (.long t2)), (fk1, .null), (fk2, .null), (fk3, (.long s2))])), (.inr (cn1, [(fk4, .ref 3), (fk5, .int 2)])), (.inl ((.object "com/example/chronogate/chronogate/Event"), [.ref 1, .ref 0, .null, .null, .null, .null, .null, .null]))], 18) _
    refine .s (.iload a0_89 rfl) <| .s (.iconst (1 : Int32) a0_91 rfl) <| .s (.icmpF a0_92 (by decide)) <| .s (.aload a0_95 rfl rfl) ?_
    refine .callV (k := 2) (z := (⟨"com/example/chronogate/chronogate/ReleaseQueue", "poll", "()Lcom/example/chronogate/chronogate/Event;"⟩ : MethodName)) a0_97 (ok11 hw _ _ _ _) ⟨rfl, by decide⟩ (wd hw 61 rfl) (wd hw 62 rfl) (fun s hZ => notFace_of_selects (args := #[]) (mvT hZ (wd hw 64 rfl))) (wd hw 64 rfl) (wd hw 63 rfl) rfl (argsL := []) (S := []) (au11_30 hw _ _ t1 t2 s1 s2 _) rfl rfl rfl rfl rfl rfl (Nat.le_of_ble_eq_true rfl) (Nat.le_of_ble_eq_true rfl) ?_
    rintro _ _ _ ⟨rfl, rfl, rfl⟩
    show WGo _ (100, [wI counts, wJ t1, wS, wJ t2, wS, wJ s1, wS, wJ s2, wS, wI 2, wI 1, wR 0, wR 1, wR 2, wI 1, wU, wU, wU], [.ref 1], [(.inr (cn0, [(fk0, (.long t1)), (fk1, .null), (fk2, .null), (fk3, (.long s1))])), (.inr (cn0, [(fk0, (.long t2)), (fk1, .null), (fk2, .null), (fk3, (.long s2))])), (.inr (cn1, [(fk4, .ref 3), (fk5, .int 1)])), (.inl ((.object "com/example/chronogate/chronogate/Event"), [.ref 0, .null, .null, .null, .null, .null, .null, .null]))], 18) _
    refine .s (.pop a0_100 rfl) <| .s (.iload a0_101 rfl) <| .s (.iconst (2 : Int32) a0_103 rfl) <| .s (.icmpT a0_104 (by decide)) <| .s (.iconst (0 : Int32) a0_113 rfl) <| .s (.iload a0_114 rfl) <| .s (.iload a0_116 rfl) ?_
    refine .s (.isub a0_118) ?_
    show WGo _ (119, [wI counts, wJ t1, wS, wJ t2, wS, wJ s1, wS, wJ s2, wS, wI 2, wI 1, wR 0, wR 1, wR 2, wI 1, wU, wU, wU], [.int 1, .int 0], [(.inr (cn0, [(fk0, (.long t1)), (fk1, .null), (fk2, .null), (fk3, (.long s1))])), (.inr (cn0, [(fk0, (.long t2)), (fk1, .null), (fk2, .null), (fk3, (.long s2))])), (.inr (cn1, [(fk4, .ref 3), (fk5, .int 1)])), (.inl ((.object "com/example/chronogate/chronogate/Event"), [.ref 0, .null, .null, .null, .null, .null, .null, .null]))], 18) _
    refine .callS a0_119 (ok6 hw _ _ _ _) (wd hw 39 rfl) (wd hw 40 rfl) (argsL := [.int 0, .int 1]) (S := []) (au6_12 hw _ _ t1 t2 s1 s2 _) rfl rfl rfl rfl rfl rfl (Nat.le_of_ble_eq_true rfl) (Nat.le_of_ble_eq_true rfl) ?_
    rintro _ _ _ ⟨rfl, rfl, rfl⟩
    show WGo _ (122, [wI counts, wJ t1, wS, wJ t2, wS, wJ s1, wS, wJ s2, wS, wI 2, wI 1, wR 0, wR 1, wR 2, wI 1, wU, wU, wU], [.int 1], [(.inr (cn0, [(fk0, (.long t1)), (fk1, .null), (fk2, .null), (fk3, (.long s1))])), (.inr (cn0, [(fk0, (.long t2)), (fk1, .null), (fk2, .null), (fk3, (.long s2))])), (.inr (cn1, [(fk4, .ref 3), (fk5, .int 1)])), (.inl ((.object "com/example/chronogate/chronogate/Event"), [.ref 0, .null, .null, .null, .null, .null, .null, .null]))], 18) _
    refine .s (.istore (L' := [wI counts, wJ t1, wS, wJ t2, wS, wJ s1, wS, wJ s2, wS, wI 2, wI 1, wR 0, wR 1, wR 2, wI 1, wI 1, wU, wU]) a0_122 rfl) <| .s (.aload a0_124 rfl rfl) ?_
    refine .callV (k := 2) (z := (⟨"com/example/chronogate/chronogate/ReleaseQueue", "isEmpty", "()Z"⟩ : MethodName)) a0_126 (ok5 hw _ _ _ _) ⟨rfl, by decide⟩ (wd hw 32 rfl) (wd hw 33 rfl) (fun s hZ => notFace_of_selects (args := #[]) (mvT hZ (wd hw 35 rfl))) (wd hw 35 rfl) (wd hw 34 rfl) rfl (argsL := []) (S := []) (au5_13 hw _ _ t1 t2 s1 s2 _) rfl rfl rfl rfl rfl rfl (Nat.le_of_ble_eq_true rfl) (Nat.le_of_ble_eq_true rfl) ?_
    rintro _ _ _ ⟨rfl, rfl, rfl⟩
    show WGo _ (129, [wI counts, wJ t1, wS, wJ t2, wS, wJ s1, wS, wJ s2, wS, wI 2, wI 1, wR 0, wR 1, wR 2, wI 1, wI 1, wU, wU], [.int 0], [(.inr (cn0, [(fk0, (.long t1)), (fk1, .null), (fk2, .null), (fk3, (.long s1))])), (.inr (cn0, [(fk0, (.long t2)), (fk1, .null), (fk2, .null), (fk3, (.long s2))])), (.inr (cn1, [(fk4, .ref 3), (fk5, .int 1)])), (.inl ((.object "com/example/chronogate/chronogate/Event"), [.ref 0, .null, .null, .null, .null, .null, .null, .null]))], 18) _
    refine .s (.istore (L' := [wI counts, wJ t1, wS, wJ t2, wS, wJ s1, wS, wJ s2, wS, wI 2, wI 1, wR 0, wR 1, wR 2, wI 1, wI 1, wI 0, wU]) a0_129 rfl) <| .s (.aload a0_131 rfl rfl) ?_
    refine .callV (k := 2) (z := (⟨"com/example/chronogate/chronogate/ReleaseQueue", "peek", "()Lcom/example/chronogate/chronogate/Event;"⟩ : MethodName)) a0_133 (ok7 hw _ _ _ _) ⟨rfl, by decide⟩ (wd hw 43 rfl) (wd hw 44 rfl) (fun s hZ => notFace_of_selects (args := #[]) (mvT hZ (wd hw 46 rfl))) (wd hw 46 rfl) (wd hw 45 rfl) rfl (argsL := []) (S := []) (au7_14 hw _ _ t1 t2 s1 s2 _) rfl rfl rfl rfl rfl rfl (Nat.le_of_ble_eq_true rfl) (Nat.le_of_ble_eq_true rfl) ?_
    rintro _ _ _ ⟨rfl, rfl, rfl⟩
    show WGo _ (136, [wI counts, wJ t1, wS, wJ t2, wS, wJ s1, wS, wJ s2, wS, wI 2, wI 1, wR 0, wR 1, wR 2, wI 1, wI 1, wI 0, wU], [.ref 0], [(.inr (cn0, [(fk0, (.long t1)), (fk1, .null), (fk2, .null), (fk3, (.long s1))])), (.inr (cn0, [(fk0, (.long t2)), (fk1, .null), (fk2, .null), (fk3, (.long s2))])), (.inr (cn1, [(fk4, .ref 3), (fk5, .int 1)])), (.inl ((.object "com/example/chronogate/chronogate/Event"), [.ref 0, .null, .null, .null, .null, .null, .null, .null]))], 18) _
    refine .s (.nonnullT a0_136) <| .s (.iconst (0 : Int32) a0_143 rfl) <| .s (.istore (L' := [wI counts, wJ t1, wS, wJ t2, wS, wJ s1, wS, wJ s2, wS, wI 2, wI 1, wR 0, wR 1, wR 2, wI 1, wI 1, wI 0, wI 0]) a0_144 rfl) <| .s (.iload a0_146 rfl) <| .s (.ifF a0_148 (by decide)) <| .s (.iload a0_151 rfl) <| .s (.iload a0_153 rfl) ?_
    refine .s (.ifT a0_155 (by decide)) <| .s (.iconst (0 : Int32) a0_162 rfl) <| .s (.icmpF a0_163 (by decide)) <| .s (.iload a0_166 rfl) <| .s (.iload a0_168 rfl) <| .s (.icmpF a0_170 (by decide)) <| .s (.iconst (1 : Int32) a0_173 rfl) ?_
    refine .s (.goto a0_174) ?_
    refine .ireturn .boolean a0_178 rfl (by simp) ?_
    exact ⟨rfl, Nat.le_of_ble_eq_true rfl, Nat.le_of_ble_eq_true rfl⟩
  · skip
    show WGo _ (89, [wI counts, wJ t1, wS, wJ t2, wS, wJ s1, wS, wJ s2, wS, wI 2, wI 1, wR 0, wR 1, wR 2, wI 1, wU, wU, wU], [], [(.inr (cn0, [(fk0, (.long t1)), (fk1, .null), (fk2, .null), (fk3, (.long s1))])), (.inr (cn0, [(fk0, (.long t2)), (fk1, .null), (fk2, .null), (fk3, (.long s2))])), (.inr (cn1, [(fk4, .ref 3), (fk5, .int 2)])), (.inl ((.object "com/example/chronogate/chronogate/Event"), [.ref 1, .ref 0, .null, .null, .null, .null, .null, .null]))], 18) _
    refine .s (.iload a0_89 rfl) <| .s (.iconst (1 : Int32) a0_91 rfl) <| .s (.icmpF a0_92 (by decide)) <| .s (.aload a0_95 rfl rfl) ?_
    refine .callV (k := 2) (z := (⟨"com/example/chronogate/chronogate/ReleaseQueue", "poll", "()Lcom/example/chronogate/chronogate/Event;"⟩ : MethodName)) a0_97 (ok11 hw _ _ _ _) ⟨rfl, by decide⟩ (wd hw 61 rfl) (wd hw 62 rfl) (fun s hZ => notFace_of_selects (args := #[]) (mvT hZ (wd hw 64 rfl))) (wd hw 64 rfl) (wd hw 63 rfl) rfl (argsL := []) (S := []) (au11_30 hw _ _ t1 t2 s1 s2 _) rfl rfl rfl rfl rfl rfl (Nat.le_of_ble_eq_true rfl) (Nat.le_of_ble_eq_true rfl) ?_
    rintro _ _ _ ⟨rfl, rfl, rfl⟩
    show WGo _ (100, [wI counts, wJ t1, wS, wJ t2, wS, wJ s1, wS, wJ s2, wS, wI 2, wI 1, wR 0, wR 1, wR 2, wI 1, wU, wU, wU], [.ref 1], [(.inr (cn0, [(fk0, (.long t1)), (fk1, .null), (fk2, .null), (fk3, (.long s1))])), (.inr (cn0, [(fk0, (.long t2)), (fk1, .null), (fk2, .null), (fk3, (.long s2))])), (.inr (cn1, [(fk4, .ref 3), (fk5, .int 1)])), (.inl ((.object "com/example/chronogate/chronogate/Event"), [.ref 0, .null, .null, .null, .null, .null, .null, .null]))], 18) _
    refine .s (.pop a0_100 rfl) <| .s (.iload a0_101 rfl) <| .s (.iconst (2 : Int32) a0_103 rfl) <| .s (.icmpT a0_104 (by decide)) <| .s (.iconst (0 : Int32) a0_113 rfl) <| .s (.iload a0_114 rfl) <| .s (.iload a0_116 rfl) ?_
    refine .s (.isub a0_118) ?_
    show WGo _ (119, [wI counts, wJ t1, wS, wJ t2, wS, wJ s1, wS, wJ s2, wS, wI 2, wI 1, wR 0, wR 1, wR 2, wI 1, wU, wU, wU], [.int 1, .int 0], [(.inr (cn0, [(fk0, (.long t1)), (fk1, .null), (fk2, .null), (fk3, (.long s1))])), (.inr (cn0, [(fk0, (.long t2)), (fk1, .null), (fk2, .null), (fk3, (.long s2))])), (.inr (cn1, [(fk4, .ref 3), (fk5, .int 1)])), (.inl ((.object "com/example/chronogate/chronogate/Event"), [.ref 0, .null, .null, .null, .null, .null, .null, .null]))], 18) _
    refine .callS a0_119 (ok6 hw _ _ _ _) (wd hw 39 rfl) (wd hw 40 rfl) (argsL := [.int 0, .int 1]) (S := []) (au6_12 hw _ _ t1 t2 s1 s2 _) rfl rfl rfl rfl rfl rfl (Nat.le_of_ble_eq_true rfl) (Nat.le_of_ble_eq_true rfl) ?_
    rintro _ _ _ ⟨rfl, rfl, rfl⟩
    show WGo _ (122, [wI counts, wJ t1, wS, wJ t2, wS, wJ s1, wS, wJ s2, wS, wI 2, wI 1, wR 0, wR 1, wR 2, wI 1, wU, wU, wU], [.int 1], [(.inr (cn0, [(fk0, (.long t1)), (fk1, .null), (fk2, .null), (fk3, (.long s1))])), (.inr (cn0, [(fk0, (.long t2)), (fk1, .null), (fk2, .null), (fk3, (.long s2))])), (.inr (cn1, [(fk4, .ref 3), (fk5, .int 1)])), (.inl ((.object "com/example/chronogate/chronogate/Event"), [.ref 0, .null, .null, .null, .null, .null, .null, .null]))], 18) _
    refine .s (.istore (L' := [wI counts, wJ t1, wS, wJ t2, wS, wJ s1, wS, wJ s2, wS, wI 2, wI 1, wR 0, wR 1, wR 2, wI 1, wI 1, wU, wU]) a0_122 rfl) <| .s (.aload a0_124 rfl rfl) ?_
    refine .callV (k := 2) (z := (⟨"com/example/chronogate/chronogate/ReleaseQueue", "isEmpty", "()Z"⟩ : MethodName)) a0_126 (ok5 hw _ _ _ _) ⟨rfl, by decide⟩ (wd hw 32 rfl) (wd hw 33 rfl) (fun s hZ => notFace_of_selects (args := #[]) (mvT hZ (wd hw 35 rfl))) (wd hw 35 rfl) (wd hw 34 rfl) rfl (argsL := []) (S := []) (au5_13 hw _ _ t1 t2 s1 s2 _) rfl rfl rfl rfl rfl rfl (Nat.le_of_ble_eq_true rfl) (Nat.le_of_ble_eq_true rfl) ?_
    rintro _ _ _ ⟨rfl, rfl, rfl⟩
    show WGo _ (129, [wI counts, wJ t1, wS, wJ t2, wS, wJ s1, wS, wJ s2, wS, wI 2, wI 1, wR 0, wR 1, wR 2, wI 1, wI 1, wU, wU], [.int 0], [(.inr (cn0, [(fk0, (.long t1)), (fk1, .null), (fk2, .null), (fk3, (.long s1))])), (.inr (cn0, [(fk0, (.long t2)), (fk1, .null), (fk2, .null), (fk3, (.long s2))])), (.inr (cn1, [(fk4, .ref 3), (fk5, .int 1)])), (.inl ((.object "com/example/chronogate/chronogate/Event"), [.ref 0, .null, .null, .null, .null, .null, .null, .null]))], 18) _
    refine .s (.istore (L' := [wI counts, wJ t1, wS, wJ t2, wS, wJ s1, wS, wJ s2, wS, wI 2, wI 1, wR 0, wR 1, wR 2, wI 1, wI 1, wI 0, wU]) a0_129 rfl) <| .s (.aload a0_131 rfl rfl) ?_
    refine .callV (k := 2) (z := (⟨"com/example/chronogate/chronogate/ReleaseQueue", "peek", "()Lcom/example/chronogate/chronogate/Event;"⟩ : MethodName)) a0_133 (ok7 hw _ _ _ _) ⟨rfl, by decide⟩ (wd hw 43 rfl) (wd hw 44 rfl) (fun s hZ => notFace_of_selects (args := #[]) (mvT hZ (wd hw 46 rfl))) (wd hw 46 rfl) (wd hw 45 rfl) rfl (argsL := []) (S := []) (au7_14 hw _ _ t1 t2 s1 s2 _) rfl rfl rfl rfl rfl rfl (Nat.le_of_ble_eq_true rfl) (Nat.le_of_ble_eq_true rfl) ?_
    rintro _ _ _ ⟨rfl, rfl, rfl⟩
    show WGo _ (136, [wI counts, wJ t1, wS, wJ t2, wS, wJ s1, wS, wJ s2, wS, wI 2, wI 1, wR 0, wR 1, wR 2, wI 1, wI 1, wI 0, wU], [.ref 0], [(.inr (cn0, [(fk0, (.long t1)), (fk1, .null), (fk2, .null), (fk3, (.long s1))])), (.inr (cn0, [(fk0, (.long t2)), (fk1, .null), (fk2, .null), (fk3, (.long s2))])), (.inr (cn1, [(fk4, .ref 3), (fk5, .int 1)])), (.inl ((.object "com/example/chronogate/chronogate/Event"), [.ref 0, .null, .null, .null, .null, .null, .null, .null]))], 18) _
    refine .s (.nonnullT a0_136) <| .s (.iconst (0 : Int32) a0_143 rfl) <| .s (.istore (L' := [wI counts, wJ t1, wS, wJ t2, wS, wJ s1, wS, wJ s2, wS, wI 2, wI 1, wR 0, wR 1, wR 2, wI 1, wI 1, wI 0, wI 0]) a0_144 rfl) <| .s (.iload a0_146 rfl) <| .s (.ifF a0_148 (by decide)) <| .s (.iload a0_151 rfl) <| .s (.iload a0_153 rfl) ?_
    refine .s (.ifT a0_155 (by decide)) <| .s (.iconst (0 : Int32) a0_162 rfl) <| .s (.icmpF a0_163 (by decide)) <| .s (.iload a0_166 rfl) <| .s (.iload a0_168 rfl) <| .s (.icmpF a0_170 (by decide)) <| .s (.iconst (1 : Int32) a0_173 rfl) ?_
    refine .s (.goto a0_174) ?_
    refine .ireturn .boolean a0_178 rfl (by simp) ?_
    exact ⟨rfl, Nat.le_of_ble_eq_true rfl, Nat.le_of_ble_eq_true rfl⟩
set_option maxHeartbeats 4000000 in
theorem au11_31 {Z : State} {a0 : Array Value} (hw : ∀ d ∈ tables_1, d.before a0 Z = true) (ρ : Nat → Nat) (n0 : Nat) (t1 : Int64) (t2 : Int64) (s1 : Int64) (s2 : Int64) (u : Nat) : WGo (g11 Z ρ n0 4 u) (0, [wR 2, wU, wU, wU, wU], [], [(.inr (cn0, [(fk0, (.long t1)), (fk1, .null), (fk2, .null), (fk3, (.long s1))])), (.inr (cn0, [(fk0, (.long t2)), (fk1, .null), (fk2, .null), (fk3, (.long s2))])), (.inr (cn1, [(fk4, .ref 3), (fk5, .int 1)])), (.inl ((.object "com/example/chronogate/chronogate/Event"), [.ref 1, .null, .null, .null, .null, .null, .null, .null]))], u) (fun v σ' u' => v = some (.ref 1) ∧ [(.inr (cn0, [(fk0, (.long t1)), (fk1, .null), (fk2, .null), (fk3, (.long s1))])), (.inr (cn0, [(fk0, (.long t2)), (fk1, .null), (fk2, .null), (fk3, (.long s2))])), (.inr (cn1, [(fk4, .ref 3), (fk5, .int 0)])), (.inl ((.object "com/example/chronogate/chronogate/Event"), [.null, .null, .null, .null, .null, .null, .null, .null]))] = σ' ∧ u = u') := by
  refine .s (.aloadN a11_0 rfl rfl) <| .s (.getF 1 a11_1 (wd hw 37 rfl) rfl rfl) <| .s (.ifT a11_4 (by decide)) <| .s (.aloadN a11_9 rfl rfl) <| .s (.getF 0 a11_10 (wd hw 30 rfl) rfl rfl) <| .s (.iconst (0 : Int32) a11_13 rfl) <| .s (.aaload 0 a11_14 rfl rfl (by decide) rfl rfl) ?_
  refine .s (.astoreN (L' := [wR 2, wR 1, wU, wU, wU]) a11_15 rfl rfl) <| .s (.aloadN a11_16 rfl rfl) <| .s (.dup a11_17 rfl) <| .s (.getF 1 a11_18 (wd hw 37 rfl) rfl rfl) <| .s (.iconst (1 : Int32) a11_21 rfl) <| .s (.isub a11_22) ?_
  show WGo _ (23, [wR 2, wR 1, wU, wU, wU], [.int 0, .ref 2], [(.inr (cn0, [(fk0, (.long t1)), (fk1, .null), (fk2, .null), (fk3, (.long s1))])), (.inr (cn0, [(fk0, (.long t2)), (fk1, .null), (fk2, .null), (fk3, (.long s2))])), (.inr (cn1, [(fk4, .ref 3), (fk5, .int 1)])), (.inl ((.object "com/example/chronogate/chronogate/Event"), [.ref 1, .null, .null, .null, .null, .null, .null, .null]))], u) _
  refine .s (.putF (ty := .int) 1 (.int 0) a11_23 (wd hw 37 rfl) rfl rfl (Or.inl (wd hw 38 rfl)) (wd hw 19 rfl) (by decide) rfl rfl) ?_
  show WGo _ (26, [wR 2, wR 1, wU, wU, wU], [], [(.inr (cn0, [(fk0, (.long t1)), (fk1, .null), (fk2, .null), (fk3, (.long s1))])), (.inr (cn0, [(fk0, (.long t2)), (fk1, .null), (fk2, .null), (fk3, (.long s2))])), (.inr (cn1, [(fk4, .ref 3), (fk5, .int 0)])), (.inl ((.object "com/example/chronogate/chronogate/Event"), [.ref 1, .null, .null, .null, .null, .null, .null, .null]))], u) _
  refine .s (.aloadN a11_26 rfl rfl) <| .s (.getF 0 a11_27 (wd hw 30 rfl) rfl rfl) <| .s (.aloadN a11_30 rfl rfl) <| .s (.getF 1 a11_31 (wd hw 37 rfl) rfl rfl) <| .s (.aaload 0 a11_34 rfl rfl (by decide) rfl rfl) <| .s (.astoreN (L' := [wR 2, wR 1, wR 1, wU, wU]) a11_35 rfl rfl) <| .s (.aloadN a11_36 rfl rfl) ?_
  refine .s (.getF 0 a11_37 (wd hw 30 rfl) rfl rfl) <| .s (.aloadN a11_40 rfl rfl) <| .s (.getF 1 a11_41 (wd hw 37 rfl) rfl rfl) <| .s (.aconstNull a11_44) <| .s (.aastoreN 0 a11_45 rfl rfl (by decide) rfl (Nat.le_of_ble_eq_true rfl)) ?_
  show WGo _ (46, [wR 2, wR 1, wR 1, wU, wU], [], [(.inr (cn0, [(fk0, (.long t1)), (fk1, .null), (fk2, .null), (fk3, (.long s1))])), (.inr (cn0, [(fk0, (.long t2)), (fk1, .null), (fk2, .null), (fk3, (.long s2))])), (.inr (cn1, [(fk4, .ref 3), (fk5, .int 0)])), (.inl ((.object "com/example/chronogate/chronogate/Event"), [.null, .null, .null, .null, .null, .null, .null, .null]))], u) _
  refine .s (.iconst (0 : Int32) a11_46 rfl) <| .s (.istoreN (L' := [wR 2, wR 1, wR 1, wI 0, wU]) a11_47 rfl) <| .s (.iconst (2 : Int32) a11_48 rfl) <| .s (.iloadN a11_49 rfl) <| .s (.imul a11_50) ?_
  show WGo _ (51, [wR 2, wR 1, wR 1, wI 0, wU], [.int 0], [(.inr (cn0, [(fk0, (.long t1)), (fk1, .null), (fk2, .null), (fk3, (.long s1))])), (.inr (cn0, [(fk0, (.long t2)), (fk1, .null), (fk2, .null), (fk3, (.long s2))])), (.inr (cn1, [(fk4, .ref 3), (fk5, .int 0)])), (.inl ((.object "com/example/chronogate/chronogate/Event"), [.null, .null, .null, .null, .null, .null, .null, .null]))], u) _
  refine .s (.iconst (1 : Int32) a11_51 rfl) <| .s (.iadd a11_52) ?_
  show WGo _ (53, [wR 2, wR 1, wR 1, wI 0, wU], [.int 1], [(.inr (cn0, [(fk0, (.long t1)), (fk1, .null), (fk2, .null), (fk3, (.long s1))])), (.inr (cn0, [(fk0, (.long t2)), (fk1, .null), (fk2, .null), (fk3, (.long s2))])), (.inr (cn1, [(fk4, .ref 3), (fk5, .int 0)])), (.inl ((.object "com/example/chronogate/chronogate/Event"), [.null, .null, .null, .null, .null, .null, .null, .null]))], u) _
  refine .s (.aloadN a11_53 rfl rfl) <| .s (.getF 1 a11_54 (wd hw 37 rfl) rfl rfl) <| .s (.icmpT a11_57 (by decide)) <| .s (.aloadN a11_139 rfl rfl) <| .s (.getF 1 a11_140 (wd hw 37 rfl) rfl rfl) <| .s (.ifT a11_143 (by decide)) <| .s (.aloadN a11_153 rfl rfl) ?_
  refine .areturn (.object "com/example/chronogate/chronogate/Event") a11_154 rfl rfl rfl ?_
  exact ⟨rfl, rfl, rfl⟩
set_option maxHeartbeats 40000000 in
theorem seg22 (Z : State) (a0 : Array Value) (hw : ∀ d ∈ tables_1, d.before a0 Z = true) (n0 : Nat) (counts : Int32) (t1 t2 s1 s2 : Int64) : WGo (g0 Z (fun k => n0 + k) n0 0 0) (19, [wI counts, wJ t1, wS, wJ t2, wS, wJ s1, wS, wJ s2, wS, wI 2, wI 2, wU, wU, wU, wU, wU, wU, wU], [], [], 0) (fun v σ' u' => v = some (.int 1) ∧ σ'.length ≤ 16 ∧ u' ≤ 128) := by
  refine .s (.newO (k := 0) [(fk0, .long 0), (fk1, .null), (fk2, .null), (fk3, .long 0)] a0_19 (wd hw 1 rfl) (wd hw 2 rfl) (wd hw 3 rfl) ⟨⟨Or.inr (wd hw 11 rfl), .long, by decide, rfl⟩, ⟨Or.inr (wd hw 13 rfl), (.object "java/util/List"), by decide, rfl⟩, ⟨Or.inr (wd hw 15 rfl), (.object "java/lang/Object"), by decide, rfl⟩, ⟨Or.inr (wd hw 17 rfl), .long, by decide, rfl⟩, trivial⟩ (by decide) rfl (by decide)) ?_
  show WGo _ (22, [wI counts, wJ t1, wS, wJ t2, wS, wJ s1, wS, wJ s2, wS, wI 2, wI 2, wU, wU, wU, wU, wU, wU, wU], [.ref 0], [(.inr (cn0, [(fk0, .long 0), (fk1, .null), (fk2, .null), (fk3, .long 0)]))], 4) _
  refine .s (.dup a0_22 rfl) <| .s (.lloadN a0_23 rfl) <| .s (.aconstNull a0_24) <| .s (.aconstNull a0_25) <| .s (.lload a0_26 rfl) ?_
  refine .callI (k := 0) a0_28 (ok1 hw _ _ _ _) rfl rfl (wd hw 4 rfl) (wd hw 5 rfl) (by decide) (argsL := [(.long t1), .null, .null, (.long s1)]) (S := [.ref 0]) (au1_1 hw _ _ t1 s1 _) rfl rfl rfl rfl rfl rfl (Nat.le_of_ble_eq_true rfl) (Nat.le_of_ble_eq_true rfl) ?_
  rintro _ _ _ ⟨rfl, rfl, rfl⟩
  show WGo _ (31, [wI counts, wJ t1, wS, wJ t2, wS, wJ s1, wS, wJ s2, wS, wI 2, wI 2, wU, wU, wU, wU, wU, wU, wU], [.ref 0], [(.inr (cn0, [(fk0, (.long t1)), (fk1, .null), (fk2, .null), (fk3, (.long s1))]))], 4) _
  refine .s (.astore (L' := [wI counts, wJ t1, wS, wJ t2, wS, wJ s1, wS, wJ s2, wS, wI 2, wI 2, wR 0, wU, wU, wU, wU, wU, wU]) a0_31 rfl rfl) <| .s (.newO (k := 1) [(fk0, .long 0), (fk1, .null), (fk2, .null), (fk3, .long 0)] a0_33 (wd hw 1 rfl) (wd hw 2 rfl) (wd hw 3 rfl) ⟨⟨Or.inr (wd hw 11 rfl), .long, by decide, rfl⟩, ⟨Or.inr (wd hw 13 rfl), (.object "java/util/List"), by decide, rfl⟩, ⟨Or.inr (wd hw 15 rfl), (.object "java/lang/Object"), by decide, rfl⟩, ⟨Or.inr (wd hw 17 rfl), .long, by decide, rfl⟩, trivial⟩ (by decide) rfl (by decide)) ?_
  show WGo _ (36, [wI counts, wJ t1, wS, wJ t2, wS, wJ s1, wS, wJ s2, wS, wI 2, wI 2, wR 0, wU, wU, wU, wU, wU, wU], [.ref 1], [(.inr (cn0, [(fk0, (.long t1)), (fk1, .null), (fk2, .null), (fk3, (.long s1))])), (.inr (cn0, [(fk0, .long 0), (fk1, .null), (fk2, .null), (fk3, .long 0)]))], 8) _
  refine .s (.dup a0_36 rfl) <| .s (.lloadN a0_37 rfl) <| .s (.aconstNull a0_38) <| .s (.aconstNull a0_39) <| .s (.lload a0_40 rfl) ?_
  refine .callI (k := 1) a0_42 (ok1 hw _ _ _ _) rfl rfl (wd hw 4 rfl) (wd hw 5 rfl) (by decide) (argsL := [(.long t2), .null, .null, (.long s2)]) (S := [.ref 1]) (au1_2 hw _ _ t1 t2 s1 s2 _) rfl rfl rfl rfl rfl rfl (Nat.le_of_ble_eq_true rfl) (Nat.le_of_ble_eq_true rfl) ?_
  rintro _ _ _ ⟨rfl, rfl, rfl⟩
  show WGo _ (45, [wI counts, wJ t1, wS, wJ t2, wS, wJ s1, wS, wJ s2, wS, wI 2, wI 2, wR 0, wU, wU, wU, wU, wU, wU], [.ref 1], [(.inr (cn0, [(fk0, (.long t1)), (fk1, .null), (fk2, .null), (fk3, (.long s1))])), (.inr (cn0, [(fk0, (.long t2)), (fk1, .null), (fk2, .null), (fk3, (.long s2))]))], 8) _
  refine .s (.astore (L' := [wI counts, wJ t1, wS, wJ t2, wS, wJ s1, wS, wJ s2, wS, wI 2, wI 2, wR 0, wR 1, wU, wU, wU, wU, wU]) a0_45 rfl rfl) <| .s (.newO (k := 2) [(fk4, .null), (fk5, .int 0)] a0_47 (wd hw 18 rfl) (wd hw 19 rfl) (wd hw 20 rfl) ⟨⟨Or.inl (wd hw 31 rfl), (.array (.object "com/example/chronogate/chronogate/Event")), by decide, rfl⟩, ⟨Or.inl (wd hw 38 rfl), .int, by decide, rfl⟩, trivial⟩ (by decide) rfl (by decide)) ?_
  show WGo _ (50, [wI counts, wJ t1, wS, wJ t2, wS, wJ s1, wS, wJ s2, wS, wI 2, wI 2, wR 0, wR 1, wU, wU, wU, wU, wU], [.ref 2], [(.inr (cn0, [(fk0, (.long t1)), (fk1, .null), (fk2, .null), (fk3, (.long s1))])), (.inr (cn0, [(fk0, (.long t2)), (fk1, .null), (fk2, .null), (fk3, (.long s2))])), (.inr (cn1, [(fk4, .null), (fk5, .int 0)]))], 10) _
  refine .s (.dup a0_50 rfl) ?_
  refine .callI (k := 2) a0_51 (ok3 hw _ _ _ _) rfl rfl (wd hw 21 rfl) (wd hw 22 rfl) (by decide) (argsL := []) (S := [.ref 2]) (au3_3 hw _ _ t1 t2 s1 s2 _) rfl rfl rfl rfl rfl rfl (Nat.le_of_ble_eq_true rfl) (Nat.le_of_ble_eq_true rfl) ?_
  rintro _ _ _ ⟨rfl, rfl, rfl⟩
  show WGo _ (54, [wI counts, wJ t1, wS, wJ t2, wS, wJ s1, wS, wJ s2, wS, wI 2, wI 2, wR 0, wR 1, wU, wU, wU, wU, wU], [.ref 2], [(.inr (cn0, [(fk0, (.long t1)), (fk1, .null), (fk2, .null), (fk3, (.long s1))])), (.inr (cn0, [(fk0, (.long t2)), (fk1, .null), (fk2, .null), (fk3, (.long s2))])), (.inr (cn1, [(fk4, .ref 3), (fk5, .int 0)])), (.inl ((.object "com/example/chronogate/chronogate/Event"), [.null, .null, .null, .null, .null, .null, .null, .null]))], 18) _
  refine .s (.astore (L' := [wI counts, wJ t1, wS, wJ t2, wS, wJ s1, wS, wJ s2, wS, wI 2, wI 2, wR 0, wR 1, wR 2, wU, wU, wU, wU]) a0_54 rfl rfl) <| .s (.aload a0_56 rfl rfl) ?_
  refine .callV (k := 2) (z := (⟨"com/example/chronogate/chronogate/ReleaseQueue", "isEmpty", "()Z"⟩ : MethodName)) a0_58 (ok5 hw _ _ _ _) ⟨rfl, by decide⟩ (wd hw 32 rfl) (wd hw 33 rfl) (fun s hZ => notFace_of_selects (args := #[]) (mvT hZ (wd hw 35 rfl))) (wd hw 35 rfl) (wd hw 34 rfl) rfl (argsL := []) (S := []) (au5_5 hw _ _ t1 t2 s1 s2 _) rfl rfl rfl rfl rfl rfl (Nat.le_of_ble_eq_true rfl) (Nat.le_of_ble_eq_true rfl) ?_
  rintro _ _ _ ⟨rfl, rfl, rfl⟩
  show WGo _ (61, [wI counts, wJ t1, wS, wJ t2, wS, wJ s1, wS, wJ s2, wS, wI 2, wI 2, wR 0, wR 1, wR 2, wU, wU, wU, wU], [.int 1], [(.inr (cn0, [(fk0, (.long t1)), (fk1, .null), (fk2, .null), (fk3, (.long s1))])), (.inr (cn0, [(fk0, (.long t2)), (fk1, .null), (fk2, .null), (fk3, (.long s2))])), (.inr (cn1, [(fk4, .ref 3), (fk5, .int 0)])), (.inl ((.object "com/example/chronogate/chronogate/Event"), [.null, .null, .null, .null, .null, .null, .null, .null]))], 18) _
  refine .s (.istore (L' := [wI counts, wJ t1, wS, wJ t2, wS, wJ s1, wS, wJ s2, wS, wI 2, wI 2, wR 0, wR 1, wR 2, wI 1, wU, wU, wU]) a0_61 rfl) <| .s (.iload a0_63 rfl) <| .s (.iconst (1 : Int32) a0_65 rfl) <| .s (.icmpF a0_66 (by decide)) <| .s (.aload a0_69 rfl rfl) <| .s (.aload a0_71 rfl rfl) ?_
  refine .callV (k := 2) (z := (⟨"com/example/chronogate/chronogate/ReleaseQueue", "add", "(Lcom/example/chronogate/chronogate/Event;)V"⟩ : MethodName)) a0_73 (ok8 hw _ _ _ _) ⟨rfl, by decide⟩ (wd hw 48 rfl) (wd hw 49 rfl) (fun s hZ => notFace_of_selects (args := #[]) (mvT hZ (wd hw 51 rfl))) (wd hw 51 rfl) (wd hw 50 rfl) rfl (argsL := [.ref 0]) (S := []) (au8_11 hw _ _ t1 t2 s1 s2 _) rfl rfl rfl rfl rfl rfl (Nat.le_of_ble_eq_true rfl) (Nat.le_of_ble_eq_true rfl) ?_
  rintro _ _ _ ⟨rfl, rfl, rfl⟩
  show WGo _ (76, [wI counts, wJ t1, wS, wJ t2, wS, wJ s1, wS, wJ s2, wS, wI 2, wI 2, wR 0, wR 1, wR 2, wI 1, wU, wU, wU], [], [(.inr (cn0, [(fk0, (.long t1)), (fk1, .null), (fk2, .null), (fk3, (.long s1))])), (.inr (cn0, [(fk0, (.long t2)), (fk1, .null), (fk2, .null), (fk3, (.long s2))])), (.inr (cn1, [(fk4, .ref 3), (fk5, .int 1)])), (.inl ((.object "com/example/chronogate/chronogate/Event"), [.ref 0, .null, .null, .null, .null, .null, .null, .null]))], 18) _
  refine .s (.iload a0_76 rfl) <| .s (.iconst (2 : Int32) a0_78 rfl) <| .s (.icmpF a0_79 (by decide)) <| .s (.aload a0_82 rfl rfl) <| .s (.aload a0_84 rfl rfl) ?_
  refine .callV (k := 2) (z := (⟨"com/example/chronogate/chronogate/ReleaseQueue", "add", "(Lcom/example/chronogate/chronogate/Event;)V"⟩ : MethodName)) a0_86 (ok8 hw _ _ _ _) ⟨rfl, by decide⟩ (wd hw 48 rfl) (wd hw 49 rfl) (fun s hZ => notFace_of_selects (args := #[]) (mvT hZ (wd hw 51 rfl))) (wd hw 51 rfl) (wd hw 50 rfl) rfl (argsL := [.ref 1]) (S := []) (au8_16 hw _ _ t1 t2 s1 s2 _) rfl rfl rfl rfl rfl rfl (Nat.le_of_ble_eq_true rfl) (Nat.le_of_ble_eq_true rfl) ?_
  rintro _ _ _ (⟨q53, q54, rfl, rfl, rfl⟩ | ⟨q55, q56, q57, q58, rfl, rfl, rfl⟩ | ⟨q59, q60, q61, q62, rfl, rfl, rfl⟩ | ⟨q63, q64, q65, rfl, rfl, rfl⟩ | ⟨q66, rfl, rfl, rfl⟩)
  · skip
    show WGo _ (89, [wI counts, wJ t1, wS, wJ t2, wS, wJ s1, wS, wJ s2, wS, wI 2, wI 2, wR 0, wR 1, wR 2, wI 1, wU, wU, wU], [], [(.inr (cn0, [(fk0, (.long t1)), (fk1, .null), (fk2, .null), (fk3, (.long s1))])), (.inr (cn0, [(fk0, (.long t2)), (fk1, .null), (fk2, .null), (fk3, (.long s2))])), (.inr (cn1, [(fk4, .ref 3), (fk5, .int 2)])), (.inl ((.object "com/example/chronogate/chronogate/Event"), [.ref 0, .ref 1, .null, .null, .null, .null, .null, .null]))], 18) _
    refine .s (.iload a0_89 rfl) <| .s (.iconst (1 : Int32) a0_91 rfl) <| .s (.icmpF a0_92 (by decide)) <| .s (.aload a0_95 rfl rfl) ?_
    refine .callV (k := 2) (z := (⟨"com/example/chronogate/chronogate/ReleaseQueue", "poll", "()Lcom/example/chronogate/chronogate/Event;"⟩ : MethodName)) a0_97 (ok11 hw _ _ _ _) ⟨rfl, by decide⟩ (wd hw 61 rfl) (wd hw 62 rfl) (fun s hZ => notFace_of_selects (args := #[]) (mvT hZ (wd hw 64 rfl))) (wd hw 64 rfl) (wd hw 63 rfl) rfl (argsL := []) (S := []) (au11_26 hw _ _ t1 t2 s1 s2 _) rfl rfl rfl rfl rfl rfl (Nat.le_of_ble_eq_true rfl) (Nat.le_of_ble_eq_true rfl) ?_
    rintro _ _ _ ⟨rfl, rfl, rfl⟩
    show WGo _ (100, [wI counts, wJ t1, wS, wJ t2, wS, wJ s1, wS, wJ s2, wS, wI 2, wI 2, wR 0, wR 1, wR 2, wI 1, wU, wU, wU], [.ref 0], [(.inr (cn0, [(fk0, (.long t1)), (fk1, .null), (fk2, .null), (fk3, (.long s1))])), (.inr (cn0, [(fk0, (.long t2)), (fk1, .null), (fk2, .null), (fk3, (.long s2))])), (.inr (cn1, [(fk4, .ref 3), (fk5, .int 1)])), (.inl ((.object "com/example/chronogate/chronogate/Event"), [.ref 1, .null, .null, .null, .null, .null, .null, .null]))], 18) _
    refine .s (.pop a0_100 rfl) <| .s (.iload a0_101 rfl) <| .s (.iconst (2 : Int32) a0_103 rfl) <| .s (.icmpF a0_104 (by decide)) <| .s (.aload a0_107 rfl rfl) ?_
    refine .callV (k := 2) (z := (⟨"com/example/chronogate/chronogate/ReleaseQueue", "poll", "()Lcom/example/chronogate/chronogate/Event;"⟩ : MethodName)) a0_109 (ok11 hw _ _ _ _) ⟨rfl, by decide⟩ (wd hw 61 rfl) (wd hw 62 rfl) (fun s hZ => notFace_of_selects (args := #[]) (mvT hZ (wd hw 64 rfl))) (wd hw 64 rfl) (wd hw 63 rfl) rfl (argsL := []) (S := []) (au11_31 hw _ _ t1 t2 s1 s2 _) rfl rfl rfl rfl rfl rfl (Nat.le_of_ble_eq_true rfl) (Nat.le_of_ble_eq_true rfl) ?_
    rintro _ _ _ ⟨rfl, rfl, rfl⟩
    show WGo _ (112, [wI counts, wJ t1, wS, wJ t2, wS, wJ s1, wS, wJ s2, wS, wI 2, wI 2, wR 0, wR 1, wR 2, wI 1, wU, wU, wU], [.ref 1], [(.inr (cn0, [(fk0, (.long t1)), (fk1, .null), (fk2, .null), (fk3, (.long s1))])), (.inr (cn0, [(fk0, (.long t2)), (fk1, .null), (fk2, .null), (fk3, (.long s2))])), (.inr (cn1, [(fk4, .ref 3), (fk5, .int 0)])), (.inl ((.object "com/example/chronogate/chronogate/Event"), [.null, .null, .null, .null, .null, .null, .null, .null]))], 18) _
    refine .s (.pop a0_112 rfl) <| .s (.iconst (0 : Int32) a0_113 rfl) <| .s (.iload a0_114 rfl) <| .s (.iload a0_116 rfl) <| .s (.isub a0_118) ?_
    show WGo _ (119, [wI counts, wJ t1, wS, wJ t2, wS, wJ s1, wS, wJ s2, wS, wI 2, wI 2, wR 0, wR 1, wR 2, wI 1, wU, wU, wU], [.int 0, .int 0], [(.inr (cn0, [(fk0, (.long t1)), (fk1, .null), (fk2, .null), (fk3, (.long s1))])), (.inr (cn0, [(fk0, (.long t2)), (fk1, .null), (fk2, .null), (fk3, (.long s2))])), (.inr (cn1, [(fk4, .ref 3), (fk5, .int 0)])), (.inl ((.object "com/example/chronogate/chronogate/Event"), [.null, .null, .null, .null, .null, .null, .null, .null]))], 18) _
    refine .callS a0_119 (ok6 hw _ _ _ _) (wd hw 39 rfl) (wd hw 40 rfl) (argsL := [.int 0, .int 0]) (S := []) (au6_6 hw _ _ t1 t2 s1 s2 _) rfl rfl rfl rfl rfl rfl (Nat.le_of_ble_eq_true rfl) (Nat.le_of_ble_eq_true rfl) ?_
    rintro _ _ _ ⟨rfl, rfl, rfl⟩
    show WGo _ (122, [wI counts, wJ t1, wS, wJ t2, wS, wJ s1, wS, wJ s2, wS, wI 2, wI 2, wR 0, wR 1, wR 2, wI 1, wU, wU, wU], [.int 0], [(.inr (cn0, [(fk0, (.long t1)), (fk1, .null), (fk2, .null), (fk3, (.long s1))])), (.inr (cn0, [(fk0, (.long t2)), (fk1, .null), (fk2, .null), (fk3, (.long s2))])), (.inr (cn1, [(fk4, .ref 3), (fk5, .int 0)])), (.inl ((.object "com/example/chronogate/chronogate/Event"), [.null, .null, .null, .null, .null, .null, .null, .null]))], 18) _
    refine .s (.istore (L' := [wI counts, wJ t1, wS, wJ t2, wS, wJ s1, wS, wJ s2, wS, wI 2, wI 2, wR 0, wR 1, wR 2, wI 1, wI 0, wU, wU]) a0_122 rfl) <| .s (.aload a0_124 rfl rfl) ?_
    refine .callV (k := 2) (z := (⟨"com/example/chronogate/chronogate/ReleaseQueue", "isEmpty", "()Z"⟩ : MethodName)) a0_126 (ok5 hw _ _ _ _) ⟨rfl, by decide⟩ (wd hw 32 rfl) (wd hw 33 rfl) (fun s hZ => notFace_of_selects (args := #[]) (mvT hZ (wd hw 35 rfl))) (wd hw 35 rfl) (wd hw 34 rfl) rfl (argsL := []) (S := []) (au5_5 hw _ _ t1 t2 s1 s2 _) rfl rfl rfl rfl rfl rfl (Nat.le_of_ble_eq_true rfl) (Nat.le_of_ble_eq_true rfl) ?_
    rintro _ _ _ ⟨rfl, rfl, rfl⟩
    show WGo _ (129, [wI counts, wJ t1, wS, wJ t2, wS, wJ s1, wS, wJ s2, wS, wI 2, wI 2, wR 0, wR 1, wR 2, wI 1, wI 0, wU, wU], [.int 1], [(.inr (cn0, [(fk0, (.long t1)), (fk1, .null), (fk2, .null), (fk3, (.long s1))])), (.inr (cn0, [(fk0, (.long t2)), (fk1, .null), (fk2, .null), (fk3, (.long s2))])), (.inr (cn1, [(fk4, .ref 3), (fk5, .int 0)])), (.inl ((.object "com/example/chronogate/chronogate/Event"), [.null, .null, .null, .null, .null, .null, .null, .null]))], 18) _
    refine .s (.istore (L' := [wI counts, wJ t1, wS, wJ t2, wS, wJ s1, wS, wJ s2, wS, wI 2, wI 2, wR 0, wR 1, wR 2, wI 1, wI 0, wI 1, wU]) a0_129 rfl) <| .s (.aload a0_131 rfl rfl) ?_
    refine .callV (k := 2) (z := (⟨"com/example/chronogate/chronogate/ReleaseQueue", "peek", "()Lcom/example/chronogate/chronogate/Event;"⟩ : MethodName)) a0_133 (ok7 hw _ _ _ _) ⟨rfl, by decide⟩ (wd hw 43 rfl) (wd hw 44 rfl) (fun s hZ => notFace_of_selects (args := #[]) (mvT hZ (wd hw 46 rfl))) (wd hw 46 rfl) (wd hw 45 rfl) rfl (argsL := []) (S := []) (au7_7 hw _ _ t1 t2 s1 s2 _) rfl rfl rfl rfl rfl rfl (Nat.le_of_ble_eq_true rfl) (Nat.le_of_ble_eq_true rfl) ?_
    rintro _ _ _ ⟨rfl, rfl, rfl⟩
    show WGo _ (136, [wI counts, wJ t1, wS, wJ t2, wS, wJ s1, wS, wJ s2, wS, wI 2, wI 2, wR 0, wR 1, wR 2, wI 1, wI 0, wI 1, wU], [.null], [(.inr (cn0, [(fk0, (.long t1)), (fk1, .null), (fk2, .null), (fk3, (.long s1))])), (.inr (cn0, [(fk0, (.long t2)), (fk1, .null), (fk2, .null), (fk3, (.long s2))])), (.inr (cn1, [(fk4, .ref 3), (fk5, .int 0)])), (.inl ((.object "com/example/chronogate/chronogate/Event"), [.null, .null, .null, .null, .null, .null, .null, .null]))], 18) _
    refine .s (.nonnullF a0_136) <| .s (.iconst (1 : Int32) a0_139 rfl) <| .s (.goto a0_140) <| .s (.istore (L' := [wI counts, wJ t1, wS, wJ t2, wS, wJ s1, wS, wJ s2, wS, wI 2, wI 2, wR 0, wR 1, wR 2, wI 1, wI 0, wI 1, wI 1]) a0_144 rfl) <| .s (.iload a0_146 rfl) <| .s (.ifF a0_148 (by decide)) <| .s (.iload a0_151 rfl) ?_
    refine .s (.iload a0_153 rfl) <| .s (.ifF a0_155 (by decide)) <| .s (.iconst (1 : Int32) a0_158 rfl) <| .s (.goto a0_159) <| .s (.icmpF a0_163 (by decide)) <| .s (.iload a0_166 rfl) <| .s (.iload a0_168 rfl) ?_
    refine .s (.icmpF a0_170 (by decide)) <| .s (.iconst (1 : Int32) a0_173 rfl) <| .s (.goto a0_174) ?_
    refine .ireturn .boolean a0_178 rfl (by simp) ?_
    exact ⟨rfl, Nat.le_of_ble_eq_true rfl, Nat.le_of_ble_eq_true rfl⟩
  · skip
    show WGo _ (89, [wI counts, wJ t1, wS, wJ t2, wS, wJ s1, wS, wJ s2, wS, wI 2, wI 2, wR 0, wR 1, wR 2, wI 1, wU, wU, wU], [], [(.inr (cn0, [(fk0, (.long t1)), (fk1, .null), (fk2, .null), (fk3, (.long s1))])), (.inr (cn0, [(fk0, (.long t2)), (fk1, .null), (fk2, .null), (fk3, (.long s2))])), (.inr (cn1, [(fk4, .ref 3), (fk5, .int 2)])), (.inl ((.object "com/example/chronogate/chronogate/Event"), [.ref 0, .ref 1, .null, .null, .null, .null, .null, .null]))], 18) _
    refine .s (.iload a0_89 rfl) <| .s (.iconst (1 : Int32) a0_91 rfl) <| .s (.icmpF a0_92 (by decide)) <| .s (.aload a0_95 rfl rfl) ?_
    refine .callV (k := 2) (z := (⟨"com/example/chronogate/chronogate/ReleaseQueue", "poll", "()Lcom/example/chronogate/chronogate/Event;"⟩ : MethodName)) a0_97 (ok11 hw _ _ _ _) ⟨rfl, by decide⟩ (wd hw 61 rfl) (wd hw 62 rfl) (fun s hZ => notFace_of_selects (args := #[]) (mvT hZ (wd hw 64 rfl))) (wd hw 64 rfl) (wd hw 63 rfl) rfl (argsL := []) (S := []) (au11_26 hw _ _ t1 t2 s1 s2 _) rfl rfl rfl rfl rfl rfl (Nat.le_of_ble_eq_true rfl) (Nat.le_of_ble_eq_true rfl) ?_
    rintro _ _ _ ⟨rfl, rfl, rfl⟩
    show WGo _ (100, [wI counts, wJ t1, wS, wJ t2, wS, wJ s1, wS, wJ s2, wS, wI 2, wI 2, wR 0, wR 1, wR 2, wI 1, wU, wU, wU], [.ref 0], [(.inr (cn0, [(fk0, (.long t1)), (fk1, .null), (fk2, .null), (fk3, (.long s1))])), (.inr (cn0, [(fk0, (.long t2)), (fk1, .null), (fk2, .null), (fk3, (.long s2))])), (.inr (cn1, [(fk4, .ref 3), (fk5, .int 1)])), (.inl ((.object "com/example/chronogate/chronogate/Event"), [.ref 1, .null, .null, .null, .null, .null, .null, .null]))], 18) _
    refine .s (.pop a0_100 rfl) <| .s (.iload a0_101 rfl) <| .s (.iconst (2 : Int32) a0_103 rfl) <| .s (.icmpF a0_104 (by decide)) <| .s (.aload a0_107 rfl rfl) ?_
    refine .callV (k := 2) (z := (⟨"com/example/chronogate/chronogate/ReleaseQueue", "poll", "()Lcom/example/chronogate/chronogate/Event;"⟩ : MethodName)) a0_109 (ok11 hw _ _ _ _) ⟨rfl, by decide⟩ (wd hw 61 rfl) (wd hw 62 rfl) (fun s hZ => notFace_of_selects (args := #[]) (mvT hZ (wd hw 64 rfl))) (wd hw 64 rfl) (wd hw 63 rfl) rfl (argsL := []) (S := []) (au11_31 hw _ _ t1 t2 s1 s2 _) rfl rfl rfl rfl rfl rfl (Nat.le_of_ble_eq_true rfl) (Nat.le_of_ble_eq_true rfl) ?_
    rintro _ _ _ ⟨rfl, rfl, rfl⟩
    show WGo _ (112, [wI counts, wJ t1, wS, wJ t2, wS, wJ s1, wS, wJ s2, wS, wI 2, wI 2, wR 0, wR 1, wR 2, wI 1, wU, wU, wU], [.ref 1], [(.inr (cn0, [(fk0, (.long t1)), (fk1, .null), (fk2, .null), (fk3, (.long s1))])), (.inr (cn0, [(fk0, (.long t2)), (fk1, .null), (fk2, .null), (fk3, (.long s2))])), (.inr (cn1, [(fk4, .ref 3), (fk5, .int 0)])), (.inl ((.object "com/example/chronogate/chronogate/Event"), [.null, .null, .null, .null, .null, .null, .null, .null]))], 18) _
    refine .s (.pop a0_112 rfl) <| .s (.iconst (0 : Int32) a0_113 rfl) <| .s (.iload a0_114 rfl) <| .s (.iload a0_116 rfl) <| .s (.isub a0_118) ?_
    show WGo _ (119, [wI counts, wJ t1, wS, wJ t2, wS, wJ s1, wS, wJ s2, wS, wI 2, wI 2, wR 0, wR 1, wR 2, wI 1, wU, wU, wU], [.int 0, .int 0], [(.inr (cn0, [(fk0, (.long t1)), (fk1, .null), (fk2, .null), (fk3, (.long s1))])), (.inr (cn0, [(fk0, (.long t2)), (fk1, .null), (fk2, .null), (fk3, (.long s2))])), (.inr (cn1, [(fk4, .ref 3), (fk5, .int 0)])), (.inl ((.object "com/example/chronogate/chronogate/Event"), [.null, .null, .null, .null, .null, .null, .null, .null]))], 18) _
    refine .callS a0_119 (ok6 hw _ _ _ _) (wd hw 39 rfl) (wd hw 40 rfl) (argsL := [.int 0, .int 0]) (S := []) (au6_6 hw _ _ t1 t2 s1 s2 _) rfl rfl rfl rfl rfl rfl (Nat.le_of_ble_eq_true rfl) (Nat.le_of_ble_eq_true rfl) ?_
    rintro _ _ _ ⟨rfl, rfl, rfl⟩
    show WGo _ (122, [wI counts, wJ t1, wS, wJ t2, wS, wJ s1, wS, wJ s2, wS, wI 2, wI 2, wR 0, wR 1, wR 2, wI 1, wU, wU, wU], [.int 0], [(.inr (cn0, [(fk0, (.long t1)), (fk1, .null), (fk2, .null), (fk3, (.long s1))])), (.inr (cn0, [(fk0, (.long t2)), (fk1, .null), (fk2, .null), (fk3, (.long s2))])), (.inr (cn1, [(fk4, .ref 3), (fk5, .int 0)])), (.inl ((.object "com/example/chronogate/chronogate/Event"), [.null, .null, .null, .null, .null, .null, .null, .null]))], 18) _
    refine .s (.istore (L' := [wI counts, wJ t1, wS, wJ t2, wS, wJ s1, wS, wJ s2, wS, wI 2, wI 2, wR 0, wR 1, wR 2, wI 1, wI 0, wU, wU]) a0_122 rfl) <| .s (.aload a0_124 rfl rfl) ?_
    refine .callV (k := 2) (z := (⟨"com/example/chronogate/chronogate/ReleaseQueue", "isEmpty", "()Z"⟩ : MethodName)) a0_126 (ok5 hw _ _ _ _) ⟨rfl, by decide⟩ (wd hw 32 rfl) (wd hw 33 rfl) (fun s hZ => notFace_of_selects (args := #[]) (mvT hZ (wd hw 35 rfl))) (wd hw 35 rfl) (wd hw 34 rfl) rfl (argsL := []) (S := []) (au5_5 hw _ _ t1 t2 s1 s2 _) rfl rfl rfl rfl rfl rfl (Nat.le_of_ble_eq_true rfl) (Nat.le_of_ble_eq_true rfl) ?_
    rintro _ _ _ ⟨rfl, rfl, rfl⟩
    show WGo _ (129, [wI counts, wJ t1, wS, wJ t2, wS, wJ s1, wS, wJ s2, wS, wI 2, wI 2, wR 0, wR 1, wR 2, wI 1, wI 0, wU, wU], [.int 1], [(.inr (cn0, [(fk0, (.long t1)), (fk1, .null), (fk2, .null), (fk3, (.long s1))])), (.inr (cn0, [(fk0, (.long t2)), (fk1, .null), (fk2, .null), (fk3, (.long s2))])), (.inr (cn1, [(fk4, .ref 3), (fk5, .int 0)])), (.inl ((.object "com/example/chronogate/chronogate/Event"), [.null, .null, .null, .null, .null, .null, .null, .null]))], 18) _
    refine .s (.istore (L' := [wI counts, wJ t1, wS, wJ t2, wS, wJ s1, wS, wJ s2, wS, wI 2, wI 2, wR 0, wR 1, wR 2, wI 1, wI 0, wI 1, wU]) a0_129 rfl) <| .s (.aload a0_131 rfl rfl) ?_
    refine .callV (k := 2) (z := (⟨"com/example/chronogate/chronogate/ReleaseQueue", "peek", "()Lcom/example/chronogate/chronogate/Event;"⟩ : MethodName)) a0_133 (ok7 hw _ _ _ _) ⟨rfl, by decide⟩ (wd hw 43 rfl) (wd hw 44 rfl) (fun s hZ => notFace_of_selects (args := #[]) (mvT hZ (wd hw 46 rfl))) (wd hw 46 rfl) (wd hw 45 rfl) rfl (argsL := []) (S := []) (au7_7 hw _ _ t1 t2 s1 s2 _) rfl rfl rfl rfl rfl rfl (Nat.le_of_ble_eq_true rfl) (Nat.le_of_ble_eq_true rfl) ?_
    rintro _ _ _ ⟨rfl, rfl, rfl⟩
    show WGo _ (136, [wI counts, wJ t1, wS, wJ t2, wS, wJ s1, wS, wJ s2, wS, wI 2, wI 2, wR 0, wR 1, wR 2, wI 1, wI 0, wI 1, wU], [.null], [(.inr (cn0, [(fk0, (.long t1)), (fk1, .null), (fk2, .null), (fk3, (.long s1))])), (.inr (cn0, [(fk0, (.long t2)), (fk1, .null), (fk2, .null), (fk3, (.long s2))])), (.inr (cn1, [(fk4, .ref 3), (fk5, .int 0)])), (.inl ((.object "com/example/chronogate/chronogate/Event"), [.null, .null, .null, .null, .null, .null, .null, .null]))], 18) _
    refine .s (.nonnullF a0_136) <| .s (.iconst (1 : Int32) a0_139 rfl) <| .s (.goto a0_140) <| .s (.istore (L' := [wI counts, wJ t1, wS, wJ t2, wS, wJ s1, wS, wJ s2, wS, wI 2, wI 2, wR 0, wR 1, wR 2, wI 1, wI 0, wI 1, wI 1]) a0_144 rfl) <| .s (.iload a0_146 rfl) <| .s (.ifF a0_148 (by decide)) <| .s (.iload a0_151 rfl) ?_
    refine .s (.iload a0_153 rfl) <| .s (.ifF a0_155 (by decide)) <| .s (.iconst (1 : Int32) a0_158 rfl) <| .s (.goto a0_159) <| .s (.icmpF a0_163 (by decide)) <| .s (.iload a0_166 rfl) <| .s (.iload a0_168 rfl) ?_
    refine .s (.icmpF a0_170 (by decide)) <| .s (.iconst (1 : Int32) a0_173 rfl) <| .s (.goto a0_174) ?_
    refine .ireturn .boolean a0_178 rfl (by simp) ?_
    exact ⟨rfl, Nat.le_of_ble_eq_true rfl, Nat.le_of_ble_eq_true rfl⟩
  · skip
    show WGo _ (89, [wI counts, wJ t1, wS, wJ t2, wS, wJ s1, wS, wJ s2, wS, wI 2, wI 2, wR 0, wR 1, wR 2, wI 1, wU, wU, wU], [], [(.inr (cn0, [(fk0, (.long t1)), (fk1, .null), (fk2, .null), (fk3, (.long s1))])), (.inr (cn0, [(fk0, (.long t2)), (fk1, .null), (fk2, .null), (fk3, (.long s2))])), (.inr (cn1, [(fk4, .ref 3), (fk5, .int 2)])), (.inl ((.object "com/example/chronogate/chronogate/Event"), [.ref 0, .ref 1, .null, .null, .null, .null, .null, .null]))], 18) _
    refine .s (.iload a0_89 rfl) <| .s (.iconst (1 : Int32) a0_91 rfl) <| .s (.icmpF a0_92 (by decide)) <| .s (.aload a0_95 rfl rfl) ?_
    refine .callV (k := 2) (z := (⟨"com/example/chronogate/chronogate/ReleaseQueue", "poll", "()Lcom/example/chronogate/chronogate/Event;"⟩ : MethodName)) a0_97 (ok11 hw _ _ _ _) ⟨rfl, by decide⟩ (wd hw 61 rfl) (wd hw 62 rfl) (fun s hZ => notFace_of_selects (args := #[]) (mvT hZ (wd hw 64 rfl))) (wd hw 64 rfl) (wd hw 63 rfl) rfl (argsL := []) (S := []) (au11_26 hw _ _ t1 t2 s1 s2 _) rfl rfl rfl rfl rfl rfl (Nat.le_of_ble_eq_true rfl) (Nat.le_of_ble_eq_true rfl) ?_
    rintro _ _ _ ⟨rfl, rfl, rfl⟩
    show WGo _ (100, [wI counts, wJ t1, wS, wJ t2, wS, wJ s1, wS, wJ s2, wS, wI 2, wI 2, wR 0, wR 1, wR 2, wI 1, wU, wU, wU], [.ref 0], [(.inr (cn0, [(fk0, (.long t1)), (fk1, .null), (fk2, .null), (fk3, (.long s1))])), (.inr (cn0, [(fk0, (.long t2)), (fk1, .null), (fk2, .null), (fk3, (.long s2))])), (.inr (cn1, [(fk4, .ref 3), (fk5, .int 1)])), (.inl ((.object "com/example/chronogate/chronogate/Event"), [.ref 1, .null, .null, .null, .null, .null, .null, .null]))], 18) _
    refine .s (.pop a0_100 rfl) <| .s (.iload a0_101 rfl) <| .s (.iconst (2 : Int32) a0_103 rfl) <| .s (.icmpF a0_104 (by decide)) <| .s (.aload a0_107 rfl rfl) ?_
    refine .callV (k := 2) (z := (⟨"com/example/chronogate/chronogate/ReleaseQueue", "poll", "()Lcom/example/chronogate/chronogate/Event;"⟩ : MethodName)) a0_109 (ok11 hw _ _ _ _) ⟨rfl, by decide⟩ (wd hw 61 rfl) (wd hw 62 rfl) (fun s hZ => notFace_of_selects (args := #[]) (mvT hZ (wd hw 64 rfl))) (wd hw 64 rfl) (wd hw 63 rfl) rfl (argsL := []) (S := []) (au11_31 hw _ _ t1 t2 s1 s2 _) rfl rfl rfl rfl rfl rfl (Nat.le_of_ble_eq_true rfl) (Nat.le_of_ble_eq_true rfl) ?_
    rintro _ _ _ ⟨rfl, rfl, rfl⟩
    show WGo _ (112, [wI counts, wJ t1, wS, wJ t2, wS, wJ s1, wS, wJ s2, wS, wI 2, wI 2, wR 0, wR 1, wR 2, wI 1, wU, wU, wU], [.ref 1], [(.inr (cn0, [(fk0, (.long t1)), (fk1, .null), (fk2, .null), (fk3, (.long s1))])), (.inr (cn0, [(fk0, (.long t2)), (fk1, .null), (fk2, .null), (fk3, (.long s2))])), (.inr (cn1, [(fk4, .ref 3), (fk5, .int 0)])), (.inl ((.object "com/example/chronogate/chronogate/Event"), [.null, .null, .null, .null, .null, .null, .null, .null]))], 18) _
    refine .s (.pop a0_112 rfl) <| .s (.iconst (0 : Int32) a0_113 rfl) <| .s (.iload a0_114 rfl) <| .s (.iload a0_116 rfl) <| .s (.isub a0_118) ?_
    show WGo _ (119, [wI counts, wJ t1, wS, wJ t2, wS, wJ s1, wS, wJ s2, wS, wI 2, wI 2, wR 0, wR 1, wR 2, wI 1, wU, wU, wU], [.int 0, .int 0], [(.inr (cn0, [(fk0, (.long t1)), (fk1, .null), (fk2, .null), (fk3, (.long s1))])), (.inr (cn0, [(fk0, (.long t2)), (fk1, .null), (fk2, .null), (fk3, (.long s2))])), (.inr (cn1, [(fk4, .ref 3), (fk5, .int 0)])), (.inl ((.object "com/example/chronogate/chronogate/Event"), [.null, .null, .null, .null, .null, .null, .null, .null]))], 18) _
    refine .callS a0_119 (ok6 hw _ _ _ _) (wd hw 39 rfl) (wd hw 40 rfl) (argsL := [.int 0, .int 0]) (S := []) (au6_6 hw _ _ t1 t2 s1 s2 _) rfl rfl rfl rfl rfl rfl (Nat.le_of_ble_eq_true rfl) (Nat.le_of_ble_eq_true rfl) ?_
    rintro _ _ _ ⟨rfl, rfl, rfl⟩
    show WGo _ (122, [wI counts, wJ t1, wS, wJ t2, wS, wJ s1, wS, wJ s2, wS, wI 2, wI 2, wR 0, wR 1, wR 2, wI 1, wU, wU, wU], [.int 0], [(.inr (cn0, [(fk0, (.long t1)), (fk1, .null), (fk2, .null), (fk3, (.long s1))])), (.inr (cn0, [(fk0, (.long t2)), (fk1, .null), (fk2, .null), (fk3, (.long s2))])), (.inr (cn1, [(fk4, .ref 3), (fk5, .int 0)])), (.inl ((.object "com/example/chronogate/chronogate/Event"), [.null, .null, .null, .null, .null, .null, .null, .null]))], 18) _
    refine .s (.istore (L' := [wI counts, wJ t1, wS, wJ t2, wS, wJ s1, wS, wJ s2, wS, wI 2, wI 2, wR 0, wR 1, wR 2, wI 1, wI 0, wU, wU]) a0_122 rfl) <| .s (.aload a0_124 rfl rfl) ?_
    refine .callV (k := 2) (z := (⟨"com/example/chronogate/chronogate/ReleaseQueue", "isEmpty", "()Z"⟩ : MethodName)) a0_126 (ok5 hw _ _ _ _) ⟨rfl, by decide⟩ (wd hw 32 rfl) (wd hw 33 rfl) (fun s hZ => notFace_of_selects (args := #[]) (mvT hZ (wd hw 35 rfl))) (wd hw 35 rfl) (wd hw 34 rfl) rfl (argsL := []) (S := []) (au5_5 hw _ _ t1 t2 s1 s2 _) rfl rfl rfl rfl rfl rfl (Nat.le_of_ble_eq_true rfl) (Nat.le_of_ble_eq_true rfl) ?_
    rintro _ _ _ ⟨rfl, rfl, rfl⟩
    show WGo _ (129, [wI counts, wJ t1, wS, wJ t2, wS, wJ s1, wS, wJ s2, wS, wI 2, wI 2, wR 0, wR 1, wR 2, wI 1, wI 0, wU, wU], [.int 1], [(.inr (cn0, [(fk0, (.long t1)), (fk1, .null), (fk2, .null), (fk3, (.long s1))])), (.inr (cn0, [(fk0, (.long t2)), (fk1, .null), (fk2, .null), (fk3, (.long s2))])), (.inr (cn1, [(fk4, .ref 3), (fk5, .int 0)])), (.inl ((.object "com/example/chronogate/chronogate/Event"), [.null, .null, .null, .null, .null, .null, .null, .null]))], 18) _
    refine .s (.istore (L' := [wI counts, wJ t1, wS, wJ t2, wS, wJ s1, wS, wJ s2, wS, wI 2, wI 2, wR 0, wR 1, wR 2, wI 1, wI 0, wI 1, wU]) a0_129 rfl) <| .s (.aload a0_131 rfl rfl) ?_
    refine .callV (k := 2) (z := (⟨"com/example/chronogate/chronogate/ReleaseQueue", "peek", "()Lcom/example/chronogate/chronogate/Event;"⟩ : MethodName)) a0_133 (ok7 hw _ _ _ _) ⟨rfl, by decide⟩ (wd hw 43 rfl) (wd hw 44 rfl) (fun s hZ => notFace_of_selects (args := #[]) (mvT hZ (wd hw 46 rfl))) (wd hw 46 rfl) (wd hw 45 rfl) rfl (argsL := []) (S := []) (au7_7 hw _ _ t1 t2 s1 s2 _) rfl rfl rfl rfl rfl rfl (Nat.le_of_ble_eq_true rfl) (Nat.le_of_ble_eq_true rfl) ?_
    rintro _ _ _ ⟨rfl, rfl, rfl⟩
    show WGo _ (136, [wI counts, wJ t1, wS, wJ t2, wS, wJ s1, wS, wJ s2, wS, wI 2, wI 2, wR 0, wR 1, wR 2, wI 1, wI 0, wI 1, wU], [.null], [(.inr (cn0, [(fk0, (.long t1)), (fk1, .null), (fk2, .null), (fk3, (.long s1))])), (.inr (cn0, [(fk0, (.long t2)), (fk1, .null), (fk2, .null), (fk3, (.long s2))])), (.inr (cn1, [(fk4, .ref 3), (fk5, .int 0)])), (.inl ((.object "com/example/chronogate/chronogate/Event"), [.null, .null, .null, .null, .null, .null, .null, .null]))], 18) _
    refine .s (.nonnullF a0_136) <| .s (.iconst (1 : Int32) a0_139 rfl) <| .s (.goto a0_140) <| .s (.istore (L' := [wI counts, wJ t1, wS, wJ t2, wS, wJ s1, wS, wJ s2, wS, wI 2, wI 2, wR 0, wR 1, wR 2, wI 1, wI 0, wI 1, wI 1]) a0_144 rfl) <| .s (.iload a0_146 rfl) <| .s (.ifF a0_148 (by decide)) <| .s (.iload a0_151 rfl) ?_
    refine .s (.iload a0_153 rfl) <| .s (.ifF a0_155 (by decide)) <| .s (.iconst (1 : Int32) a0_158 rfl) <| .s (.goto a0_159) <| .s (.icmpF a0_163 (by decide)) <| .s (.iload a0_166 rfl) <| .s (.iload a0_168 rfl) ?_
    refine .s (.icmpF a0_170 (by decide)) <| .s (.iconst (1 : Int32) a0_173 rfl) <| .s (.goto a0_174) ?_
    refine .ireturn .boolean a0_178 rfl (by simp) ?_
    exact ⟨rfl, Nat.le_of_ble_eq_true rfl, Nat.le_of_ble_eq_true rfl⟩
  · skip
    show WGo _ (89, [wI counts, wJ t1, wS, wJ t2, wS, wJ s1, wS, wJ s2, wS, wI 2, wI 2, wR 0, wR 1, wR 2, wI 1, wU, wU, wU], [], [(.inr (cn0, [(fk0, (.long t1)), (fk1, .null), (fk2, .null), (fk3, (.long s1))])), (.inr (cn0, [(fk0, (.long t2)), (fk1, .null), (fk2, .null), (fk3, (.long s2))])), (.inr (cn1, [(fk4, .ref 3), (fk5, .int 2)])), (.inl ((.object "com/example/chronogate/chronogate/Event"), [.ref 1, .ref 0, .null, .null, .null, .null, .null, .null]))], 18) _
    refine .s (.iload a0_89 rfl) <| .s (.iconst (1 : Int32) a0_91 rfl) <| .s (.icmpF a0_92 (by decide)) <| .s (.aload a0_95 rfl rfl) ?_
    refine .callV (k := 2) (z := (⟨"com/example/chronogate/chronogate/ReleaseQueue", "poll", "()Lcom/example/chronogate/chronogate/Event;"⟩ : MethodName)) a0_97 (ok11 hw _ _ _ _) ⟨rfl, by decide⟩ (wd hw 61 rfl) (wd hw 62 rfl) (fun s hZ => notFace_of_selects (args := #[]) (mvT hZ (wd hw 64 rfl))) (wd hw 64 rfl) (wd hw 63 rfl) rfl (argsL := []) (S := []) (au11_30 hw _ _ t1 t2 s1 s2 _) rfl rfl rfl rfl rfl rfl (Nat.le_of_ble_eq_true rfl) (Nat.le_of_ble_eq_true rfl) ?_
    rintro _ _ _ ⟨rfl, rfl, rfl⟩
    show WGo _ (100, [wI counts, wJ t1, wS, wJ t2, wS, wJ s1, wS, wJ s2, wS, wI 2, wI 2, wR 0, wR 1, wR 2, wI 1, wU, wU, wU], [.ref 1], [(.inr (cn0, [(fk0, (.long t1)), (fk1, .null), (fk2, .null), (fk3, (.long s1))])), (.inr (cn0, [(fk0, (.long t2)), (fk1, .null), (fk2, .null), (fk3, (.long s2))])), (.inr (cn1, [(fk4, .ref 3), (fk5, .int 1)])), (.inl ((.object "com/example/chronogate/chronogate/Event"), [.ref 0, .null, .null, .null, .null, .null, .null, .null]))], 18) _
    refine .s (.pop a0_100 rfl) <| .s (.iload a0_101 rfl) <| .s (.iconst (2 : Int32) a0_103 rfl) <| .s (.icmpF a0_104 (by decide)) <| .s (.aload a0_107 rfl rfl) ?_
    refine .callV (k := 2) (z := (⟨"com/example/chronogate/chronogate/ReleaseQueue", "poll", "()Lcom/example/chronogate/chronogate/Event;"⟩ : MethodName)) a0_109 (ok11 hw _ _ _ _) ⟨rfl, by decide⟩ (wd hw 61 rfl) (wd hw 62 rfl) (fun s hZ => notFace_of_selects (args := #[]) (mvT hZ (wd hw 64 rfl))) (wd hw 64 rfl) (wd hw 63 rfl) rfl (argsL := []) (S := []) (au11_15 hw _ _ t1 t2 s1 s2 _) rfl rfl rfl rfl rfl rfl (Nat.le_of_ble_eq_true rfl) (Nat.le_of_ble_eq_true rfl) ?_
    rintro _ _ _ ⟨rfl, rfl, rfl⟩
    show WGo _ (112, [wI counts, wJ t1, wS, wJ t2, wS, wJ s1, wS, wJ s2, wS, wI 2, wI 2, wR 0, wR 1, wR 2, wI 1, wU, wU, wU], [.ref 0], [(.inr (cn0, [(fk0, (.long t1)), (fk1, .null), (fk2, .null), (fk3, (.long s1))])), (.inr (cn0, [(fk0, (.long t2)), (fk1, .null), (fk2, .null), (fk3, (.long s2))])), (.inr (cn1, [(fk4, .ref 3), (fk5, .int 0)])), (.inl ((.object "com/example/chronogate/chronogate/Event"), [.null, .null, .null, .null, .null, .null, .null, .null]))], 18) _
    refine .s (.pop a0_112 rfl) <| .s (.iconst (0 : Int32) a0_113 rfl) <| .s (.iload a0_114 rfl) <| .s (.iload a0_116 rfl) <| .s (.isub a0_118) ?_
    show WGo _ (119, [wI counts, wJ t1, wS, wJ t2, wS, wJ s1, wS, wJ s2, wS, wI 2, wI 2, wR 0, wR 1, wR 2, wI 1, wU, wU, wU], [.int 0, .int 0], [(.inr (cn0, [(fk0, (.long t1)), (fk1, .null), (fk2, .null), (fk3, (.long s1))])), (.inr (cn0, [(fk0, (.long t2)), (fk1, .null), (fk2, .null), (fk3, (.long s2))])), (.inr (cn1, [(fk4, .ref 3), (fk5, .int 0)])), (.inl ((.object "com/example/chronogate/chronogate/Event"), [.null, .null, .null, .null, .null, .null, .null, .null]))], 18) _
    refine .callS a0_119 (ok6 hw _ _ _ _) (wd hw 39 rfl) (wd hw 40 rfl) (argsL := [.int 0, .int 0]) (S := []) (au6_6 hw _ _ t1 t2 s1 s2 _) rfl rfl rfl rfl rfl rfl (Nat.le_of_ble_eq_true rfl) (Nat.le_of_ble_eq_true rfl) ?_
    rintro _ _ _ ⟨rfl, rfl, rfl⟩
    show WGo _ (122, [wI counts, wJ t1, wS, wJ t2, wS, wJ s1, wS, wJ s2, wS, wI 2, wI 2, wR 0, wR 1, wR 2, wI 1, wU, wU, wU], [.int 0], [(.inr (cn0, [(fk0, (.long t1)), (fk1, .null), (fk2, .null), (fk3, (.long s1))])), (.inr (cn0, [(fk0, (.long t2)), (fk1, .null), (fk2, .null), (fk3, (.long s2))])), (.inr (cn1, [(fk4, .ref 3), (fk5, .int 0)])), (.inl ((.object "com/example/chronogate/chronogate/Event"), [.null, .null, .null, .null, .null, .null, .null, .null]))], 18) _
    refine .s (.istore (L' := [wI counts, wJ t1, wS, wJ t2, wS, wJ s1, wS, wJ s2, wS, wI 2, wI 2, wR 0, wR 1, wR 2, wI 1, wI 0, wU, wU]) a0_122 rfl) <| .s (.aload a0_124 rfl rfl) ?_
    refine .callV (k := 2) (z := (⟨"com/example/chronogate/chronogate/ReleaseQueue", "isEmpty", "()Z"⟩ : MethodName)) a0_126 (ok5 hw _ _ _ _) ⟨rfl, by decide⟩ (wd hw 32 rfl) (wd hw 33 rfl) (fun s hZ => notFace_of_selects (args := #[]) (mvT hZ (wd hw 35 rfl))) (wd hw 35 rfl) (wd hw 34 rfl) rfl (argsL := []) (S := []) (au5_5 hw _ _ t1 t2 s1 s2 _) rfl rfl rfl rfl rfl rfl (Nat.le_of_ble_eq_true rfl) (Nat.le_of_ble_eq_true rfl) ?_
    rintro _ _ _ ⟨rfl, rfl, rfl⟩
    show WGo _ (129, [wI counts, wJ t1, wS, wJ t2, wS, wJ s1, wS, wJ s2, wS, wI 2, wI 2, wR 0, wR 1, wR 2, wI 1, wI 0, wU, wU], [.int 1], [(.inr (cn0, [(fk0, (.long t1)), (fk1, .null), (fk2, .null), (fk3, (.long s1))])), (.inr (cn0, [(fk0, (.long t2)), (fk1, .null), (fk2, .null), (fk3, (.long s2))])), (.inr (cn1, [(fk4, .ref 3), (fk5, .int 0)])), (.inl ((.object "com/example/chronogate/chronogate/Event"), [.null, .null, .null, .null, .null, .null, .null, .null]))], 18) _
    refine .s (.istore (L' := [wI counts, wJ t1, wS, wJ t2, wS, wJ s1, wS, wJ s2, wS, wI 2, wI 2, wR 0, wR 1, wR 2, wI 1, wI 0, wI 1, wU]) a0_129 rfl) <| .s (.aload a0_131 rfl rfl) ?_
    refine .callV (k := 2) (z := (⟨"com/example/chronogate/chronogate/ReleaseQueue", "peek", "()Lcom/example/chronogate/chronogate/Event;"⟩ : MethodName)) a0_133 (ok7 hw _ _ _ _) ⟨rfl, by decide⟩ (wd hw 43 rfl) (wd hw 44 rfl) (fun s hZ => notFace_of_selects (args := #[]) (mvT hZ (wd hw 46 rfl))) (wd hw 46 rfl) (wd hw 45 rfl) rfl (argsL := []) (S := []) (au7_7 hw _ _ t1 t2 s1 s2 _) rfl rfl rfl rfl rfl rfl (Nat.le_of_ble_eq_true rfl) (Nat.le_of_ble_eq_true rfl) ?_
    rintro _ _ _ ⟨rfl, rfl, rfl⟩
    show WGo _ (136, [wI counts, wJ t1, wS, wJ t2, wS, wJ s1, wS, wJ s2, wS, wI 2, wI 2, wR 0, wR 1, wR 2, wI 1, wI 0, wI 1, wU], [.null], [(.inr (cn0, [(fk0, (.long t1)), (fk1, .null), (fk2, .null), (fk3, (.long s1))])), (.inr (cn0, [(fk0, (.long t2)), (fk1, .null), (fk2, .null), (fk3, (.long s2))])), (.inr (cn1, [(fk4, .ref 3), (fk5, .int 0)])), (.inl ((.object "com/example/chronogate/chronogate/Event"), [.null, .null, .null, .null, .null, .null, .null, .null]))], 18) _
    refine .s (.nonnullF a0_136) <| .s (.iconst (1 : Int32) a0_139 rfl) <| .s (.goto a0_140) <| .s (.istore (L' := [wI counts, wJ t1, wS, wJ t2, wS, wJ s1, wS, wJ s2, wS, wI 2, wI 2, wR 0, wR 1, wR 2, wI 1, wI 0, wI 1, wI 1]) a0_144 rfl) <| .s (.iload a0_146 rfl) <| .s (.ifF a0_148 (by decide)) <| .s (.iload a0_151 rfl) ?_
    refine .s (.iload a0_153 rfl) <| .s (.ifF a0_155 (by decide)) <| .s (.iconst (1 : Int32) a0_158 rfl) <| .s (.goto a0_159) <| .s (.icmpF a0_163 (by decide)) <| .s (.iload a0_166 rfl) <| .s (.iload a0_168 rfl) ?_
    refine .s (.icmpF a0_170 (by decide)) <| .s (.iconst (1 : Int32) a0_173 rfl) <| .s (.goto a0_174) ?_
    refine .ireturn .boolean a0_178 rfl (by simp) ?_
    exact ⟨rfl, Nat.le_of_ble_eq_true rfl, Nat.le_of_ble_eq_true rfl⟩
  · skip
    show WGo _ (89, [wI counts, wJ t1, wS, wJ t2, wS, wJ s1, wS, wJ s2, wS, wI 2, wI 2, wR 0, wR 1, wR 2, wI 1, wU, wU, wU], [], [(.inr (cn0, [(fk0, (.long t1)), (fk1, .null), (fk2, .null), (fk3, (.long s1))])), (.inr (cn0, [(fk0, (.long t2)), (fk1, .null), (fk2, .null), (fk3, (.long s2))])), (.inr (cn1, [(fk4, .ref 3), (fk5, .int 2)])), (.inl ((.object "com/example/chronogate/chronogate/Event"), [.ref 1, .ref 0, .null, .null, .null, .null, .null, .null]))], 18) _
    refine .s (.iload a0_89 rfl) <| .s (.iconst (1 : Int32) a0_91 rfl) <| .s (.icmpF a0_92 (by decide)) <| .s (.aload a0_95 rfl rfl) ?_
    refine .callV (k := 2) (z := (⟨"com/example/chronogate/chronogate/ReleaseQueue", "poll", "()Lcom/example/chronogate/chronogate/Event;"⟩ : MethodName)) a0_97 (ok11 hw _ _ _ _) ⟨rfl, by decide⟩ (wd hw 61 rfl) (wd hw 62 rfl) (fun s hZ => notFace_of_selects (args := #[]) (mvT hZ (wd hw 64 rfl))) (wd hw 64 rfl) (wd hw 63 rfl) rfl (argsL := []) (S := []) (au11_30 hw _ _ t1 t2 s1 s2 _) rfl rfl rfl rfl rfl rfl (Nat.le_of_ble_eq_true rfl) (Nat.le_of_ble_eq_true rfl) ?_
    rintro _ _ _ ⟨rfl, rfl, rfl⟩
    show WGo _ (100, [wI counts, wJ t1, wS, wJ t2, wS, wJ s1, wS, wJ s2, wS, wI 2, wI 2, wR 0, wR 1, wR 2, wI 1, wU, wU, wU], [.ref 1], [(.inr (cn0, [(fk0, (.long t1)), (fk1, .null), (fk2, .null), (fk3, (.long s1))])), (.inr (cn0, [(fk0, (.long t2)), (fk1, .null), (fk2, .null), (fk3, (.long s2))])), (.inr (cn1, [(fk4, .ref 3), (fk5, .int 1)])), (.inl ((.object "com/example/chronogate/chronogate/Event"), [.ref 0, .null, .null, .null, .null, .null, .null, .null]))], 18) _
    refine .s (.pop a0_100 rfl) <| .s (.iload a0_101 rfl) <| .s (.iconst (2 : Int32) a0_103 rfl) <| .s (.icmpF a0_104 (by decide)) <| .s (.aload a0_107 rfl rfl) ?_
    refine .callV (k := 2) (z := (⟨"com/example/chronogate/chronogate/ReleaseQueue", "poll", "()Lcom/example/chronogate/chronogate/Event;"⟩ : MethodName)) a0_109 (ok11 hw _ _ _ _) ⟨rfl, by decide⟩ (wd hw 61 rfl) (wd hw 62 rfl) (fun s hZ => notFace_of_selects (args := #[]) (mvT hZ (wd hw 64 rfl))) (wd hw 64 rfl) (wd hw 63 rfl) rfl (argsL := []) (S := []) (au11_15 hw _ _ t1 t2 s1 s2 _) rfl rfl rfl rfl rfl rfl (Nat.le_of_ble_eq_true rfl) (Nat.le_of_ble_eq_true rfl) ?_
    rintro _ _ _ ⟨rfl, rfl, rfl⟩
    show WGo _ (112, [wI counts, wJ t1, wS, wJ t2, wS, wJ s1, wS, wJ s2, wS, wI 2, wI 2, wR 0, wR 1, wR 2, wI 1, wU, wU, wU], [.ref 0], [(.inr (cn0, [(fk0, (.long t1)), (fk1, .null), (fk2, .null), (fk3, (.long s1))])), (.inr (cn0, [(fk0, (.long t2)), (fk1, .null), (fk2, .null), (fk3, (.long s2))])), (.inr (cn1, [(fk4, .ref 3), (fk5, .int 0)])), (.inl ((.object "com/example/chronogate/chronogate/Event"), [.null, .null, .null, .null, .null, .null, .null, .null]))], 18) _
    refine .s (.pop a0_112 rfl) <| .s (.iconst (0 : Int32) a0_113 rfl) <| .s (.iload a0_114 rfl) <| .s (.iload a0_116 rfl) <| .s (.isub a0_118) ?_
    show WGo _ (119, [wI counts, wJ t1, wS, wJ t2, wS, wJ s1, wS, wJ s2, wS, wI 2, wI 2, wR 0, wR 1, wR 2, wI 1, wU, wU, wU], [.int 0, .int 0], [(.inr (cn0, [(fk0, (.long t1)), (fk1, .null), (fk2, .null), (fk3, (.long s1))])), (.inr (cn0, [(fk0, (.long t2)), (fk1, .null), (fk2, .null), (fk3, (.long s2))])), (.inr (cn1, [(fk4, .ref 3), (fk5, .int 0)])), (.inl ((.object "com/example/chronogate/chronogate/Event"), [.null, .null, .null, .null, .null, .null, .null, .null]))], 18) _
    refine .callS a0_119 (ok6 hw _ _ _ _) (wd hw 39 rfl) (wd hw 40 rfl) (argsL := [.int 0, .int 0]) (S := []) (au6_6 hw _ _ t1 t2 s1 s2 _) rfl rfl rfl rfl rfl rfl (Nat.le_of_ble_eq_true rfl) (Nat.le_of_ble_eq_true rfl) ?_
    rintro _ _ _ ⟨rfl, rfl, rfl⟩
    show WGo _ (122, [wI counts, wJ t1, wS, wJ t2, wS, wJ s1, wS, wJ s2, wS, wI 2, wI 2, wR 0, wR 1, wR 2, wI 1, wU, wU, wU], [.int 0], [(.inr (cn0, [(fk0, (.long t1)), (fk1, .null), (fk2, .null), (fk3, (.long s1))])), (.inr (cn0, [(fk0, (.long t2)), (fk1, .null), (fk2, .null), (fk3, (.long s2))])), (.inr (cn1, [(fk4, .ref 3), (fk5, .int 0)])), (.inl ((.object "com/example/chronogate/chronogate/Event"), [.null, .null, .null, .null, .null, .null, .null, .null]))], 18) _
    refine .s (.istore (L' := [wI counts, wJ t1, wS, wJ t2, wS, wJ s1, wS, wJ s2, wS, wI 2, wI 2, wR 0, wR 1, wR 2, wI 1, wI 0, wU, wU]) a0_122 rfl) <| .s (.aload a0_124 rfl rfl) ?_
    refine .callV (k := 2) (z := (⟨"com/example/chronogate/chronogate/ReleaseQueue", "isEmpty", "()Z"⟩ : MethodName)) a0_126 (ok5 hw _ _ _ _) ⟨rfl, by decide⟩ (wd hw 32 rfl) (wd hw 33 rfl) (fun s hZ => notFace_of_selects (args := #[]) (mvT hZ (wd hw 35 rfl))) (wd hw 35 rfl) (wd hw 34 rfl) rfl (argsL := []) (S := []) (au5_5 hw _ _ t1 t2 s1 s2 _) rfl rfl rfl rfl rfl rfl (Nat.le_of_ble_eq_true rfl) (Nat.le_of_ble_eq_true rfl) ?_
    rintro _ _ _ ⟨rfl, rfl, rfl⟩
    show WGo _ (129, [wI counts, wJ t1, wS, wJ t2, wS, wJ s1, wS, wJ s2, wS, wI 2, wI 2, wR 0, wR 1, wR 2, wI 1, wI 0, wU, wU], [.int 1], [(.inr (cn0, [(fk0, (.long t1)), (fk1, .null), (fk2, .null), (fk3, (.long s1))])), (.inr (cn0, [(fk0, (.long t2)), (fk1, .null), (fk2, .null), (fk3, (.long s2))])), (.inr (cn1, [(fk4, .ref 3), (fk5, .int 0)])), (.inl ((.object "com/example/chronogate/chronogate/Event"), [.null, .null, .null, .null, .null, .null, .null, .null]))], 18) _
    refine .s (.istore (L' := [wI counts, wJ t1, wS, wJ t2, wS, wJ s1, wS, wJ s2, wS, wI 2, wI 2, wR 0, wR 1, wR 2, wI 1, wI 0, wI 1, wU]) a0_129 rfl) <| .s (.aload a0_131 rfl rfl) ?_
    refine .callV (k := 2) (z := (⟨"com/example/chronogate/chronogate/ReleaseQueue", "peek", "()Lcom/example/chronogate/chronogate/Event;"⟩ : MethodName)) a0_133 (ok7 hw _ _ _ _) ⟨rfl, by decide⟩ (wd hw 43 rfl) (wd hw 44 rfl) (fun s hZ => notFace_of_selects (args := #[]) (mvT hZ (wd hw 46 rfl))) (wd hw 46 rfl) (wd hw 45 rfl) rfl (argsL := []) (S := []) (au7_7 hw _ _ t1 t2 s1 s2 _) rfl rfl rfl rfl rfl rfl (Nat.le_of_ble_eq_true rfl) (Nat.le_of_ble_eq_true rfl) ?_
    rintro _ _ _ ⟨rfl, rfl, rfl⟩
    show WGo _ (136, [wI counts, wJ t1, wS, wJ t2, wS, wJ s1, wS, wJ s2, wS, wI 2, wI 2, wR 0, wR 1, wR 2, wI 1, wI 0, wI 1, wU], [.null], [(.inr (cn0, [(fk0, (.long t1)), (fk1, .null), (fk2, .null), (fk3, (.long s1))])), (.inr (cn0, [(fk0, (.long t2)), (fk1, .null), (fk2, .null), (fk3, (.long s2))])), (.inr (cn1, [(fk4, .ref 3), (fk5, .int 0)])), (.inl ((.object "com/example/chronogate/chronogate/Event"), [.null, .null, .null, .null, .null, .null, .null, .null]))], 18) _
    refine .s (.nonnullF a0_136) <| .s (.iconst (1 : Int32) a0_139 rfl) <| .s (.goto a0_140) <| .s (.istore (L' := [wI counts, wJ t1, wS, wJ t2, wS, wJ s1, wS, wJ s2, wS, wI 2, wI 2, wR 0, wR 1, wR 2, wI 1, wI 0, wI 1, wI 1]) a0_144 rfl) <| .s (.iload a0_146 rfl) <| .s (.ifF a0_148 (by decide)) <| .s (.iload a0_151 rfl) ?_
    refine .s (.iload a0_153 rfl) <| .s (.ifF a0_155 (by decide)) <| .s (.iconst (1 : Int32) a0_158 rfl) <| .s (.goto a0_159) <| .s (.icmpF a0_163 (by decide)) <| .s (.iload a0_166 rfl) <| .s (.iload a0_168 rfl) ?_
    refine .s (.icmpF a0_170 (by decide)) <| .s (.iconst (1 : Int32) a0_173 rfl) <| .s (.goto a0_174) ?_
    refine .ireturn .boolean a0_178 rfl (by simp) ?_
    exact ⟨rfl, Nat.le_of_ble_eq_true rfl, Nat.le_of_ble_eq_true rfl⟩
theorem law_go (Z : State) (a0 : Array Value) (hw : ∀ d ∈ tables_1, d.before a0 Z = true) (n0 : Nat) (counts : Int32) (t1 t2 s1 s2 : Int64) : WGo (g0 Z (fun k => n0 + k) n0 0 0) (0, [wI counts, wJ t1, wS, wJ t2, wS, wJ s1, wS, wJ s2, wS, wU, wU, wU, wU, wU, wU, wU, wU, wU], [], [], 0) (fun v σ' u' => v = some (.int 1) ∧ σ'.length ≤ 16 ∧ u' ≤ 128) := by
  refine .s (.iloadN a0_0 rfl) <| .s (.ldc a0_1 (wd hw 0 rfl)) <| .s (.iand a0_3) <| .s (.iconst (3 : Int32) a0_4 rfl) <| .s (.irem a0_5 (by decide)) ?_
  generalize hg_k : ((counts &&& (2147483647 : Int32)) % (3 : Int32)) = k
  obtain hs := rem3 _ _ hg_k
  rcases hs with rfl | rfl | rfl
  · show WGo _ (6, [wI counts, wJ t1, wS, wJ t2, wS, wJ s1, wS, wJ s2, wS, wU, wU, wU, wU, wU, wU, wU, wU, wU], [.int 0], [], 0) _
    refine .s (.istore (L' := [wI counts, wJ t1, wS, wJ t2, wS, wJ s1, wS, wJ s2, wS, wI 0, wU, wU, wU, wU, wU, wU, wU, wU]) a0_6 rfl) <| .s (.iloadN a0_8 rfl) <| .s (.bipush (8 : Int32) a0_9 rfl) <| .s (.iushr a0_11) <| .s (.ldc a0_12 (wd hw 0 rfl)) <| .s (.iand a0_14) <| .s (.iconst (3 : Int32) a0_15 rfl) ?_
    refine .s (.irem a0_16 (by decide)) ?_
    generalize hg_m : ((((counts.toUInt32 >>> ((8 : Int32) &&& 31).toUInt32).toInt32) &&& (2147483647 : Int32)) % (3 : Int32)) = m
    obtain hs := rem3 _ _ hg_m
    rcases hs with rfl | rfl | rfl
    · show WGo _ (17, [wI counts, wJ t1, wS, wJ t2, wS, wJ s1, wS, wJ s2, wS, wI 0, wU, wU, wU, wU, wU, wU, wU, wU], [.int 0], [], 0) _
      refine .s (.istore (L' := [wI counts, wJ t1, wS, wJ t2, wS, wJ s1, wS, wJ s2, wS, wI 0, wI 0, wU, wU, wU, wU, wU, wU, wU]) a0_17 rfl) ?_
      exact seg00 Z a0 hw n0 counts t1 t2 s1 s2
    · show WGo _ (17, [wI counts, wJ t1, wS, wJ t2, wS, wJ s1, wS, wJ s2, wS, wI 0, wU, wU, wU, wU, wU, wU, wU, wU], [.int 1], [], 0) _
      refine .s (.istore (L' := [wI counts, wJ t1, wS, wJ t2, wS, wJ s1, wS, wJ s2, wS, wI 0, wI 1, wU, wU, wU, wU, wU, wU, wU]) a0_17 rfl) ?_
      exact seg01 Z a0 hw n0 counts t1 t2 s1 s2
    · show WGo _ (17, [wI counts, wJ t1, wS, wJ t2, wS, wJ s1, wS, wJ s2, wS, wI 0, wU, wU, wU, wU, wU, wU, wU, wU], [.int 2], [], 0) _
      refine .s (.istore (L' := [wI counts, wJ t1, wS, wJ t2, wS, wJ s1, wS, wJ s2, wS, wI 0, wI 2, wU, wU, wU, wU, wU, wU, wU]) a0_17 rfl) ?_
      exact seg02 Z a0 hw n0 counts t1 t2 s1 s2
  · show WGo _ (6, [wI counts, wJ t1, wS, wJ t2, wS, wJ s1, wS, wJ s2, wS, wU, wU, wU, wU, wU, wU, wU, wU, wU], [.int 1], [], 0) _
    refine .s (.istore (L' := [wI counts, wJ t1, wS, wJ t2, wS, wJ s1, wS, wJ s2, wS, wI 1, wU, wU, wU, wU, wU, wU, wU, wU]) a0_6 rfl) <| .s (.iloadN a0_8 rfl) <| .s (.bipush (8 : Int32) a0_9 rfl) <| .s (.iushr a0_11) <| .s (.ldc a0_12 (wd hw 0 rfl)) <| .s (.iand a0_14) <| .s (.iconst (3 : Int32) a0_15 rfl) ?_
    refine .s (.irem a0_16 (by decide)) ?_
    generalize hg_m : ((((counts.toUInt32 >>> ((8 : Int32) &&& 31).toUInt32).toInt32) &&& (2147483647 : Int32)) % (3 : Int32)) = m
    obtain hs := rem3 _ _ hg_m
    rcases hs with rfl | rfl | rfl
    · show WGo _ (17, [wI counts, wJ t1, wS, wJ t2, wS, wJ s1, wS, wJ s2, wS, wI 1, wU, wU, wU, wU, wU, wU, wU, wU], [.int 0], [], 0) _
      refine .s (.istore (L' := [wI counts, wJ t1, wS, wJ t2, wS, wJ s1, wS, wJ s2, wS, wI 1, wI 0, wU, wU, wU, wU, wU, wU, wU]) a0_17 rfl) ?_
      exact seg10 Z a0 hw n0 counts t1 t2 s1 s2
    · show WGo _ (17, [wI counts, wJ t1, wS, wJ t2, wS, wJ s1, wS, wJ s2, wS, wI 1, wU, wU, wU, wU, wU, wU, wU, wU], [.int 1], [], 0) _
      refine .s (.istore (L' := [wI counts, wJ t1, wS, wJ t2, wS, wJ s1, wS, wJ s2, wS, wI 1, wI 1, wU, wU, wU, wU, wU, wU, wU]) a0_17 rfl) ?_
      exact seg11 Z a0 hw n0 counts t1 t2 s1 s2
    · show WGo _ (17, [wI counts, wJ t1, wS, wJ t2, wS, wJ s1, wS, wJ s2, wS, wI 1, wU, wU, wU, wU, wU, wU, wU, wU], [.int 2], [], 0) _
      refine .s (.istore (L' := [wI counts, wJ t1, wS, wJ t2, wS, wJ s1, wS, wJ s2, wS, wI 1, wI 2, wU, wU, wU, wU, wU, wU, wU]) a0_17 rfl) ?_
      exact seg12 Z a0 hw n0 counts t1 t2 s1 s2
  · show WGo _ (6, [wI counts, wJ t1, wS, wJ t2, wS, wJ s1, wS, wJ s2, wS, wU, wU, wU, wU, wU, wU, wU, wU, wU], [.int 2], [], 0) _
    refine .s (.istore (L' := [wI counts, wJ t1, wS, wJ t2, wS, wJ s1, wS, wJ s2, wS, wI 2, wU, wU, wU, wU, wU, wU, wU, wU]) a0_6 rfl) <| .s (.iloadN a0_8 rfl) <| .s (.bipush (8 : Int32) a0_9 rfl) <| .s (.iushr a0_11) <| .s (.ldc a0_12 (wd hw 0 rfl)) <| .s (.iand a0_14) <| .s (.iconst (3 : Int32) a0_15 rfl) ?_
    refine .s (.irem a0_16 (by decide)) ?_
    generalize hg_m : ((((counts.toUInt32 >>> ((8 : Int32) &&& 31).toUInt32).toInt32) &&& (2147483647 : Int32)) % (3 : Int32)) = m
    obtain hs := rem3 _ _ hg_m
    rcases hs with rfl | rfl | rfl
    · show WGo _ (17, [wI counts, wJ t1, wS, wJ t2, wS, wJ s1, wS, wJ s2, wS, wI 2, wU, wU, wU, wU, wU, wU, wU, wU], [.int 0], [], 0) _
      refine .s (.istore (L' := [wI counts, wJ t1, wS, wJ t2, wS, wJ s1, wS, wJ s2, wS, wI 2, wI 0, wU, wU, wU, wU, wU, wU, wU]) a0_17 rfl) ?_
      exact seg20 Z a0 hw n0 counts t1 t2 s1 s2
    · show WGo _ (17, [wI counts, wJ t1, wS, wJ t2, wS, wJ s1, wS, wJ s2, wS, wI 2, wU, wU, wU, wU, wU, wU, wU, wU], [.int 1], [], 0) _
      refine .s (.istore (L' := [wI counts, wJ t1, wS, wJ t2, wS, wJ s1, wS, wJ s2, wS, wI 2, wI 1, wU, wU, wU, wU, wU, wU, wU]) a0_17 rfl) ?_
      exact seg21 Z a0 hw n0 counts t1 t2 s1 s2
    · show WGo _ (17, [wI counts, wJ t1, wS, wJ t2, wS, wJ s1, wS, wJ s2, wS, wI 2, wU, wU, wU, wU, wU, wU, wU, wU], [.int 2], [], 0) _
      refine .s (.istore (L' := [wI counts, wJ t1, wS, wJ t2, wS, wJ s1, wS, wJ s2, wS, wI 2, wI 2, wU, wU, wU, wU, wU, wU, wU]) a0_17 rfl) ?_
      exact seg22 Z a0 hw n0 counts t1 t2 s1 s2
theorem plx : plainFor x = true := plainFor_of_name (by first | (simp [plainName, overriddenIn, x]; done) | decide +kernel)
set_option maxRecDepth 65536 in
set_option maxHeartbeats 40000000 in
theorem comes_1 {Post : Tables → Env → Array Value → State → Outcome → State → Prop} (hpost : ∀ tb e args s v u, (limb_1_1.after args s (.returned v) u = true ∧ limb_1_2.after args s (.returned v) u = true ∧ True) → FrameEnd s (.returned v) u (Jvm.fieldLocs frame_1_writes args s ++ Jvm.arrayLocs frame_1_arrays args s ++ Jvm.staticLocs frame_1_statics s) 16 128 → Post tb e args s (.returned v) u) :
    ArmFor flags0 classFile x code maxLocals ret World_1 tables_1 room_1 Calls_1 rest_1 Pre_1 Post := by
  intro l hfl _ _ p e ha hc hk s m args below hf hA hF happ hP
  obtain ⟨hcalls, hrest, hpre⟩ := hP
  obtain ⟨-, -, -, hnamed, -, -, -, hat⟩ := (Spec.applies_iff hf).mp happ
  obtain ⟨hg, hn⟩ := and_e (Cond.before_iff.mp (show (Jvm.Cond.and given_1 narrow_1).before args s = true from hpre))
  obtain ⟨gg1, gg2⟩ := and_e hg
  obtain ⟨gg3, gg4⟩ := and_e gg2
  obtain ⟨gg5, gg6⟩ := and_e gg4
  obtain ⟨gg7, gg8⟩ := and_e gg6
  obtain ⟨gg9, gg10⟩ := and_e gg8
  obtain ⟨w0, w1, w2, w3, w4, rfl⟩ : ∃ w0 w1 w2 w3 w4 : Value, args = #[w0, w1, w2, w3, w4] := by
    have hs : args.size = 5 := by simpa [Cond.value, given_1] using gg1
    obtain ⟨L⟩ := args
    match L, hs with
    | [w0, w1, w2, w3, w4], _ => exact ⟨w0, w1, w2, w3, w4, rfl⟩
  have hw := fun d (hd : d ∈ tables_1) => atoms_spec (ws := Jvm.Cond.code x code maxLocals ret :: tables_1) hat d (List.mem_cons_of_mem _ hd)
  obtain ⟨i0, ei0⟩ := is_v gg3
  obtain rfl : w0 = (.int i0) := Option.some.inj ei0
  obtain ⟨i1, ei1⟩ := isL_v gg5
  obtain rfl : w1 = (.long i1) := Option.some.inj ei1
  obtain ⟨i2, ei2⟩ := isL_v gg7
  obtain rfl : w2 = (.long i2) := Option.some.inj ei2
  obtain ⟨i3, ei3⟩ := isL_v gg9
  obtain rfl : w3 = (.long i3) := Option.some.inj ei3
  obtain ⟨i4, ei4⟩ := isL_v gg10
  obtain rfl : w4 = (.long i4) := Option.some.inj ei4
  obtain ⟨v, σ', u', ⟨rfl, hc1, hu1⟩, r⟩ := law_go s _ hw s.heap.size i0 i1 i2 i3 i4
  have D0 : WDen s (fun k => s.heap.size + k) s.heap.size [] s.heap := ⟨rfl, Nat.zero_le _, fun k o h => by cases h⟩
  obtain ⟨n, o, h1, h2, h3, _, L, rfl, ⟨rfl, N, -⟩, hq⟩ := met_of (l := l) (y := x) (ws := tables_1) (argsL := [(.int i0), (.long i1), (.long i2), (.long i3), (.long i4)]) (h := s.heap) rfl rfl rfl rfl plx (fun k _ => rfl) (fun i j h => Nat.add_left_cancel h) r D0 room_1 (Nat.le_of_ble_eq_true rfl) (Nat.le_trans (Nat.sub_le _ _) (Nat.le_trans hc1 (by decide))) (Nat.le_trans (Nat.sub_le _ _) (Nat.le_trans hu1 (by decide))) (Nat.le_of_ble_eq_true rfl) p e ha hc hk s m _ below hf ((Spec.applies_iff_loose hf).mp happ).1 ⟨rfl, State.Warmed39.refl s, rfl⟩ trivial
  refine ⟨n, _, h1, h2, h3, hpost _ _ _ _ _ _ ⟨Cond.after_iff.mpr rfl, Cond.after_iff.mpr (eq_i res_at (Term.int_eval (1)) rfl), trivial⟩ ⟨hq.1, hq.2.1, (hq.2.2.sift fun y hy => Or.inr (N y hy)).mono (Nat.le_trans (Nat.sub_le _ _) (Nat.le_trans hc1 (by decide))) (Nat.le_trans (Nat.sub_le _ _) (Nat.le_trans hu1 (by decide)))⟩⟩
theorem main_1_1 : Claimed_1_1 := comes_1 fun _ _ _ _ _ _ h hF => ⟨h.1, hF⟩
theorem main_1_2 : Claimed_1_2 := comes_1 fun _ _ _ _ _ _ h hF => ⟨h.2.1, hF⟩
end Jvm.Pilot.@@N@@
namespace Jvm.Pilot.@@N@@
open Jvm Jvm.ClassFile Sem Op Lib Jvm.Free Jvm.Stand Jvm.Pilot.@@N@@.Jvm.D
/-! MADE BY PROGRAM (witnessworld.py) out of the Statement's table words and the real class files: 18 classes; the members and pool entries that the words name. The judged class is class 1, her method 1. -/
namespace start1
open Jvm.ClassFile
def u (s : String) : CpInfo := .utf8 (stringToUtf16 s)
/-- a pool by its gaps: so many unusable entries, then the entry; so many at the end -/
def gap : Nat → List CpInfo → List CpInfo
  | 0, r => r
  | n + 1, r => .unusable :: gap n r
def poolList (es : List (Nat × CpInfo)) (last : Nat) : List CpInfo := es.foldr (fun e r => gap e.1 (e.2 :: r)) (gap last [])
def pool (es : List (Nat × CpInfo)) (last : Nat) : Array CpInfo := ⟨poolList es last⟩
def fileOf (pool : Array CpInfo) (this : Nat) (attrs : Array Attribute := #[]) (ms : Array MethodInfo := #[]) (fl : Nat := 33) (sup : Nat := 0) (ifs : Array Nat := #[]) (fds : Array FieldInfo := #[]) : ClassFile where
  minorVersion := 0
  majorVersion := 65
  constantPool := pool
  accessFlags := fl
  thisClass := this
  superClass := sup
  interfaces := ifs
  fields := fds
  methods := ms
  attributes := attrs
def plain (name : String) (sup : Option ClassId) : Class where
  name := name
  kind := .ordinary
  loader := none
  accessFlags := 33
  super := sup
  interfaces := #[]
  cf := none
  fields := #[]
  methods := #[]
  instanceTypes := #[]
  staticTypes := #[]
  resolved := #[]
  callSites := []
  init := .initialized
  statics := none
  mirror := none

def pool0 : Array CpInfo := pool [(5, u "<init>"), (0, u "()V"), (1, .class_ 10), (1, u "java/lang/Object")] 113

def k0c0 : Code := { maxStack := 0, maxLocals := 1, code := object_method_1_code, exceptionTable := #[], attributes := #[] }
def k0m0 : Method := { name := "<init>", desc := "()V", sig := { parameters := [], returnType := none }, accessFlags := 1, code := some k0c0 }
/-- java/lang/Object -/
def k0 : Class := { plain "java/lang/Object" none with
  accessFlags := 33
  interfaces := #[]
  cf := some (fileOf pool0 8 #[] #[{ accessFlags := 1, nameIndex := 5, descriptorIndex := 6, attributes := #[] }] 33 0 #[] #[])
  fields := #[]
  methods := #[k0m0]
  instanceTypes := #[]
  staticTypes := #[]
  resolved := Array.replicate 124 none
  statics := none }

def pool1 : Array CpInfo := pool [(2, .class_ 4), (0, .nameAndType 5 6), (0, u "java/lang/Object"), (0, u "<init>"), (0, u "()V"), (0, .integer 2147483647), (0, .class_ 9), (0, u "com/example/chronogate/chronogate/Event"), (0, .methodref 8 11), (0, .nameAndType 5 12), (0, u "(JLjava/util/List;Ljava/lang/Object;J)V"), (0, .class_ 14), (0, u "com/example/chronogate/chronogate/ReleaseQueue"), (0, .methodref 13 3), (0, .methodref 13 17), (0, .nameAndType 18 19), (0, u "isEmpty"), (0, u "()Z"), (0, .methodref 13 21), (0, .nameAndType 22 23), (0, u "add"), (0, u "(Lcom/example/chronogate/chronogate/Event;)V"), (0, .methodref 13 25), (0, .nameAndType 26 27), (0, u "poll"), (0, u "()Lcom/example/chronogate/chronogate/Event;"), (0, .methodref 29 30), (0, .class_ 31), (0, .nameAndType 32 33), (0, u "java/lang/Math"), (0, u "max"), (0, u "(II)I"), (0, .methodref 13 35), (0, .nameAndType 36 27), (0, u "peek"), (0, .class_ 38), (0, u "com/example/chronogate/chronogate/ReleaseQueueIsEmptyPinLaw"), (2, u "law"), (0, u "(IJJJJ)Z")] 3

def k1m0 : Method := { name := "<init>", desc := "()V", sig := { parameters := [], returnType := none }, accessFlags := 2, code := none }
def k1c1 : Code := { maxStack := 8, maxLocals := 18, code := code, exceptionTable := #[], attributes := #[] }
def k1m1 : Method := { name := "law", desc := "(IJJJJ)Z", sig := { parameters := [.int, .long, .long, .long, .long], returnType := some .boolean }, accessFlags := 9, code := some k1c1 }
/-- com/example/chronogate/chronogate/ReleaseQueueIsEmptyPinLaw -/
def k1 : Class := { plain "com/example/chronogate/chronogate/ReleaseQueueIsEmptyPinLaw" (some 0) with
  accessFlags := 49
  interfaces := #[]
  cf := some (fileOf pool1 37 #[] #[{ accessFlags := 2, nameIndex := 5, descriptorIndex := 6, attributes := #[] }, { accessFlags := 9, nameIndex := 41, descriptorIndex := 42, attributes := #[] }] 49 2 #[] #[])
  fields := #[]
  methods := #[k1m0, k1m1]
  instanceTypes := #[]
  staticTypes := #[]
  resolved := Array.replicate 46 none
  statics := none }

def pool2 : Array CpInfo := pool [(1, .methodref 2 3), (0, .class_ 4), (0, .nameAndType 5 6), (0, u "java/lang/Object"), (0, u "<init>"), (0, u "()V"), (0, .fieldref 8 9), (0, .class_ 10), (0, .nameAndType 11 12), (0, u "com/example/chronogate/chronogate/Event"), (0, u "timestamp"), (0, u "J"), (0, .fieldref 8 14), (0, .nameAndType 15 16), (0, u "adjustments"), (0, u "Ljava/util/List;"), (0, .fieldref 8 18), (0, .nameAndType 19 20), (0, u "payload"), (0, u "Ljava/lang/Object;"), (0, .fieldref 8 22), (0, .nameAndType 23 12), (0, u "sequence"), (0, .methodref 25 26), (0, .class_ 27), (0, .nameAndType 28 29), (0, u "java/lang/Long"), (0, u "compare"), (0, u "(JJ)I"), (50, u "(JLjava/util/List;Ljava/lang/Object;J)V"), (19, u "releaseOrder"), (0, u "(Lcom/example/chronogate/chronogate/Event;Lcom/example/chronogate/chronogate/Event;)I")] 15

def k2c0 : Code := { maxStack := 3, maxLocals := 7, code := prog_8_method_1_code, exceptionTable := #[], attributes := #[] }
def k2m0 : Method := { name := "<init>", desc := "(JLjava/util/List;Ljava/lang/Object;J)V", sig := { parameters := [.long, (.object "java/util/List"), (.object "java/lang/Object"), .long], returnType := none }, accessFlags := 0, code := some k2c0 }
def k2c1 : Code := { maxStack := 4, maxLocals := 3, code := prog_8_method_6_code, exceptionTable := #[], attributes := #[] }
def k2m1 : Method := { name := "releaseOrder", desc := "(Lcom/example/chronogate/chronogate/Event;Lcom/example/chronogate/chronogate/Event;)I", sig := { parameters := [(.object "com/example/chronogate/chronogate/Event"), (.object "com/example/chronogate/chronogate/Event")], returnType := some .int }, accessFlags := 8, code := some k2c1 }
/-- com/example/chronogate/chronogate/Event -/
def k2 : Class := { plain "com/example/chronogate/chronogate/Event" (some 0) with
  accessFlags := 49
  interfaces := #[]
  cf := some (fileOf pool2 8 #[] #[{ accessFlags := 0, nameIndex := 5, descriptorIndex := 80, attributes := #[] }, { accessFlags := 8, nameIndex := 100, descriptorIndex := 101, attributes := #[] }] 49 2 #[] #[{ accessFlags := 18, nameIndex := 11, descriptorIndex := 12, attributes := #[] }, { accessFlags := 18, nameIndex := 15, descriptorIndex := 16, attributes := #[] }, { accessFlags := 18, nameIndex := 19, descriptorIndex := 20, attributes := #[] }, { accessFlags := 18, nameIndex := 23, descriptorIndex := 12, attributes := #[] }])
  fields := #[{ name := "timestamp", type := .long, accessFlags := 18, slot := 0, constantValue := 0 }, { name := "adjustments", type := (.object "java/util/List"), accessFlags := 18, slot := 1, constantValue := 0 }, { name := "payload", type := (.object "java/lang/Object"), accessFlags := 18, slot := 2, constantValue := 0 }, { name := "sequence", type := .long, accessFlags := 18, slot := 3, constantValue := 0 }]
  methods := #[k2m0, k2m1]
  instanceTypes := #[.long, (.object "java/util/List"), (.object "java/lang/Object"), .long]
  staticTypes := #[]
  resolved := Array.replicate 117 none
  statics := none }

def pool3 : Array CpInfo := pool [(8, .class_ 10), (1, u "java/lang/Iterable"), (24, .class_ 36), (0, u "java/lang/Object")] 25

/-- java/lang/Iterable -/
def k3 : Class := { plain "java/lang/Iterable" (some 0) with
  accessFlags := 1537
  interfaces := #[]
  cf := some (fileOf pool3 8 #[] #[] 1537 35 #[] #[])
  fields := #[]
  methods := #[]
  instanceTypes := #[]
  staticTypes := #[]
  resolved := Array.replicate 62 none
  statics := none }

def pool4 : Array CpInfo := pool [(1, .methodref 2 3), (0, .class_ 4), (0, .nameAndType 5 6), (0, u "java/lang/Object"), (0, u "<init>"), (0, u "()V"), (0, .class_ 8), (0, u "com/example/chronogate/chronogate/ReleaseQueue"), (0, .methodref 7 10), (0, .nameAndType 11 12), (0, u "newArray"), (0, u "(I)[Lcom/example/chronogate/chronogate/Event;"), (0, .fieldref 7 14), (0, .nameAndType 15 16), (0, u "heap"), (0, u "[Lcom/example/chronogate/chronogate/Event;"), (0, .fieldref 7 18), (0, .nameAndType 19 20), (0, u "size"), (0, u "I"), (7, .methodref 29 30), (0, .class_ 31), (0, .nameAndType 32 33), (0, u "com/example/chronogate/chronogate/Event"), (0, u "releaseOrder"), (0, u "(Lcom/example/chronogate/chronogate/Event;Lcom/example/chronogate/chronogate/Event;)I"), (0, .class_ 35), (0, u "com/example/chronogate/chronogate/ReleaseQueue$1"), (3, .class_ 40), (0, u "java/lang/Iterable"), (0, u "FIRST_CAPACITY"), (6, u "add"), (0, u "(Lcom/example/chronogate/chronogate/Event;)V"), (2, u "isEmpty"), (0, u "()Z"), (1, u "peek"), (0, u "()Lcom/example/chronogate/chronogate/Event;"), (1, u "poll")] 9

def k4c0 : Code := { maxStack := 2, maxLocals := 1, code := prog_24_method_1_code, exceptionTable := #[], attributes := #[] }
def k4m0 : Method := { name := "<init>", desc := "()V", sig := { parameters := [], returnType := none }, accessFlags := 0, code := some k4c0 }
def k4c1 : Code := { maxStack := 4, maxLocals := 4, code := prog_24_method_2_code, exceptionTable := #[], attributes := #[] }
def k4m1 : Method := { name := "add", desc := "(Lcom/example/chronogate/chronogate/Event;)V", sig := { parameters := [(.object "com/example/chronogate/chronogate/Event")], returnType := none }, accessFlags := 0, code := some k4c1 }
def k4c2 : Code := { maxStack := 1, maxLocals := 1, code := prog_24_method_3_code, exceptionTable := #[], attributes := #[] }
def k4m2 : Method := { name := "isEmpty", desc := "()Z", sig := { parameters := [], returnType := some .boolean }, accessFlags := 0, code := some k4c2 }
def k4c3 : Code := { maxStack := 2, maxLocals := 1, code := prog_24_method_5_code, exceptionTable := #[], attributes := #[] }
def k4m3 : Method := { name := "peek", desc := "()Lcom/example/chronogate/chronogate/Event;", sig := { parameters := [], returnType := some (.object "com/example/chronogate/chronogate/Event") }, accessFlags := 0, code := some k4c3 }
def k4c4 : Code := { maxStack := 4, maxLocals := 5, code := prog_24_method_6_code, exceptionTable := #[], attributes := #[] }
def k4m4 : Method := { name := "poll", desc := "()Lcom/example/chronogate/chronogate/Event;", sig := { parameters := [], returnType := some (.object "com/example/chronogate/chronogate/Event") }, accessFlags := 0, code := some k4c4 }
def k4c5 : Code := { maxStack := 1, maxLocals := 1, code := prog_24_method_8_code, exceptionTable := #[], attributes := #[] }
def k4m5 : Method := { name := "newArray", desc := "(I)[Lcom/example/chronogate/chronogate/Event;", sig := { parameters := [.int], returnType := some (.array (.object "com/example/chronogate/chronogate/Event")) }, accessFlags := 10, code := some k4c5 }
/-- com/example/chronogate/chronogate/ReleaseQueue -/
def k4 : Class := { plain "com/example/chronogate/chronogate/ReleaseQueue" (some 0) with
  accessFlags := 48
  interfaces := #[3]
  cf := some (fileOf pool4 7 #[.nestMembers #[34]] #[{ accessFlags := 0, nameIndex := 5, descriptorIndex := 6, attributes := #[] }, { accessFlags := 0, nameIndex := 48, descriptorIndex := 49, attributes := #[] }, { accessFlags := 0, nameIndex := 52, descriptorIndex := 53, attributes := #[] }, { accessFlags := 0, nameIndex := 55, descriptorIndex := 56, attributes := #[] }, { accessFlags := 0, nameIndex := 58, descriptorIndex := 56, attributes := #[] }, { accessFlags := 10, nameIndex := 11, descriptorIndex := 12, attributes := #[] }] 48 2 #[39] #[{ accessFlags := 26, nameIndex := 41, descriptorIndex := 20, attributes := #[] }, { accessFlags := 2, nameIndex := 15, descriptorIndex := 16, attributes := #[] }, { accessFlags := 2, nameIndex := 19, descriptorIndex := 20, attributes := #[] }])
  fields := #[{ name := "FIRST_CAPACITY", type := .int, accessFlags := 26, slot := 0, constantValue := 0 }, { name := "heap", type := (.array (.object "com/example/chronogate/chronogate/Event")), accessFlags := 2, slot := 0, constantValue := 0 }, { name := "size", type := .int, accessFlags := 2, slot := 1, constantValue := 0 }]
  methods := #[k4m0, k4m1, k4m2, k4m3, k4m4, k4m5]
  instanceTypes := #[(.array (.object "com/example/chronogate/chronogate/Event")), .int]
  staticTypes := #[.int]
  resolved := Array.replicate 68 none
  statics := none }

def pool5 : Array CpInfo := pool [(1, .class_ 2), (0, u "java/lang/Math"), (1, .class_ 6), (1, u "java/lang/Object"), (0, u "<init>"), (0, u "()V"), (89, .class_ 100), (1, u "java/lang/Math$RandomNumberGeneratorHolder"), (71, u "negativeZeroFloatBits"), (0, u "J"), (2, u "negativeZeroDoubleBits"), (21, u "max"), (46, u "$assertionsDisabled"), (0, u "Z"), (88, u "(II)I"), (2, u "twoToTheDoubleScaleDown"), (0, u "D"), (4, u "twoToTheDoubleScaleUp"), (9, u "E"), (3, u "PI"), (2, u "TAU"), (2, u "DEGREES_TO_RADIANS"), (0, u "RADIANS_TO_DEGREES")] 94

def k5m0 : Method := { name := "<init>", desc := "()V", sig := { parameters := [], returnType := none }, accessFlags := 2, code := none }
def k5c1 : Code := { maxStack := 2, maxLocals := 2, code := jdk_29_method_65_code, exceptionTable := #[], attributes := #[] }
def k5m1 : Method := { name := "max", desc := "(II)I", sig := { parameters := [.int, .int], returnType := some .int }, accessFlags := 9, code := some k5c1 }
/-- java/lang/Math -/
def k5 : Class := { plain "java/lang/Math" (some 0) with
  accessFlags := 49
  interfaces := #[]
  cf := some (fileOf pool5 1 #[.nestMembers #[98]] #[{ accessFlags := 2, nameIndex := 7, descriptorIndex := 8, attributes := #[] }, { accessFlags := 9, nameIndex := 198, descriptorIndex := 335, attributes := #[] }] 49 4 #[] #[{ accessFlags := 25, nameIndex := 354, descriptorIndex := 339, attributes := #[] }, { accessFlags := 25, nameIndex := 358, descriptorIndex := 339, attributes := #[] }, { accessFlags := 25, nameIndex := 361, descriptorIndex := 339, attributes := #[] }, { accessFlags := 26, nameIndex := 364, descriptorIndex := 339, attributes := #[] }, { accessFlags := 26, nameIndex := 365, descriptorIndex := 339, attributes := #[] }, { accessFlags := 26, nameIndex := 172, descriptorIndex := 173, attributes := #[] }, { accessFlags := 26, nameIndex := 176, descriptorIndex := 173, attributes := #[] }, { accessFlags := 8, nameIndex := 344, descriptorIndex := 339, attributes := #[] }, { accessFlags := 8, nameIndex := 338, descriptorIndex := 339, attributes := #[] }, { accessFlags := 4120, nameIndex := 245, descriptorIndex := 246, attributes := #[] }])
  fields := #[{ name := "E", type := .double, accessFlags := 25, slot := 0, constantValue := 0 }, { name := "PI", type := .double, accessFlags := 25, slot := 1, constantValue := 0 }, { name := "TAU", type := .double, accessFlags := 25, slot := 2, constantValue := 0 }, { name := "DEGREES_TO_RADIANS", type := .double, accessFlags := 26, slot := 3, constantValue := 0 }, { name := "RADIANS_TO_DEGREES", type := .double, accessFlags := 26, slot := 4, constantValue := 0 }, { name := "negativeZeroFloatBits", type := .long, accessFlags := 26, slot := 5, constantValue := 0 }, { name := "negativeZeroDoubleBits", type := .long, accessFlags := 26, slot := 6, constantValue := 0 }, { name := "twoToTheDoubleScaleUp", type := .double, accessFlags := 8, slot := 7, constantValue := 0 }, { name := "twoToTheDoubleScaleDown", type := .double, accessFlags := 8, slot := 8, constantValue := 0 }, { name := "$assertionsDisabled", type := .boolean, accessFlags := 4120, slot := 9, constantValue := 0 }]
  methods := #[k5m0, k5m1]
  instanceTypes := #[]
  staticTypes := #[.double, .double, .double, .double, .double, .long, .long, .double, .double, .boolean]
  resolved := Array.replicate 460 none
  statics := none }

def pool6 : Array CpInfo := pool [(1, .class_ 2), (0, u "java/io/Serializable"), (0, .class_ 4), (0, u "java/lang/Object")] 2

/-- java/io/Serializable -/
def k6 : Class := { plain "java/io/Serializable" (some 0) with
  accessFlags := 1537
  interfaces := #[]
  cf := some (fileOf pool6 1 #[] #[] 1537 3 #[] #[])
  fields := #[]
  methods := #[]
  instanceTypes := #[]
  staticTypes := #[]
  resolved := Array.replicate 7 none
  statics := none }

def pool7 : Array CpInfo := pool [(2, .class_ 4), (1, u "java/lang/Object"), (0, u "<init>"), (0, u "()V"), (1, .class_ 10), (1, u "java/lang/Number"), (2, .class_ 14), (0, u "java/io/Serializable"), (0, u "serialVersionUID"), (0, u "J")] 20

def k7m0 : Method := { name := "<init>", desc := "()V", sig := { parameters := [], returnType := none }, accessFlags := 1, code := none }
/-- java/lang/Number -/
def k7 : Class := { plain "java/lang/Number" (some 0) with
  accessFlags := 1057
  interfaces := #[6]
  cf := some (fileOf pool7 8 #[] #[{ accessFlags := 1, nameIndex := 5, descriptorIndex := 6, attributes := #[] }] 1057 2 #[13] #[{ accessFlags := 26, nameIndex := 15, descriptorIndex := 16, attributes := #[] }])
  fields := #[{ name := "serialVersionUID", type := .long, accessFlags := 26, slot := 0, constantValue := 0 }]
  methods := #[k7m0]
  instanceTypes := #[]
  staticTypes := #[.long]
  resolved := Array.replicate 37 none
  statics := none }

def pool8 : Array CpInfo := pool [(1, .class_ 2), (0, u "java/lang/Comparable"), (0, .class_ 4), (0, u "java/lang/Object")] 7

/-- java/lang/Comparable -/
def k8 : Class := { plain "java/lang/Comparable" (some 0) with
  accessFlags := 1537
  interfaces := #[]
  cf := some (fileOf pool8 1 #[] #[] 1537 3 #[] #[])
  fields := #[]
  methods := #[]
  instanceTypes := #[]
  staticTypes := #[]
  resolved := Array.replicate 12 none
  statics := none }

def pool9 : Array CpInfo := pool [(1, .class_ 2), (0, u "java/lang/constant/Constable"), (0, .class_ 4), (0, u "java/lang/Object")] 6

/-- java/lang/constant/Constable -/
def k9 : Class := { plain "java/lang/constant/Constable" (some 0) with
  accessFlags := 1537
  interfaces := #[]
  cf := some (fileOf pool9 1 #[] #[] 1537 3 #[] #[])
  fields := #[]
  methods := #[]
  instanceTypes := #[]
  staticTypes := #[]
  resolved := Array.replicate 11 none
  statics := none }

def pool10 : Array CpInfo := pool [(1, .class_ 2), (0, u "java/lang/constant/ConstantDesc"), (0, .class_ 4), (0, u "java/lang/Object")] 32

/-- java/lang/constant/ConstantDesc -/
def k10 : Class := { plain "java/lang/constant/ConstantDesc" (some 0) with
  accessFlags := 1537
  interfaces := #[]
  cf := some (fileOf pool10 1 #[] #[] 1537 3 #[] #[])
  fields := #[]
  methods := #[]
  instanceTypes := #[]
  staticTypes := #[]
  resolved := Array.replicate 37 none
  statics := none }

def pool11 : Array CpInfo := pool [(1, .class_ 2), (0, u "java/lang/Long"), (232, .class_ 237), (1, u "java/lang/Long$LongCache"), (33, .class_ 272), (0, u "java/lang/Number"), (2, u "value"), (0, u "J"), (27, u "compare"), (0, u "(JJ)I"), (55, u "TYPE"), (0, u "Ljava/lang/Class;"), (0, .class_ 364), (0, u "java/lang/Comparable"), (0, .class_ 366), (0, u "java/lang/constant/Constable"), (0, .class_ 368), (0, u "java/lang/constant/ConstantDesc"), (0, u "MIN_VALUE"), (1, u "MAX_VALUE"), (4, u "SIZE"), (0, u "I"), (1, u "BYTES"), (1, u "serialVersionUID")] 142

def k11c0 : Code := { maxStack := 4, maxLocals := 4, code := jdk_35_method_42_code, exceptionTable := #[], attributes := #[] }
def k11m0 : Method := { name := "compare", desc := "(JJ)I", sig := { parameters := [.long, .long], returnType := some .int }, accessFlags := 9, code := some k11c0 }
/-- java/lang/Long -/
def k11 : Class := { plain "java/lang/Long" (some 7) with
  accessFlags := 49
  interfaces := #[8, 9, 10]
  cf := some (fileOf pool11 1 #[.nestMembers #[235]] #[{ accessFlags := 9, nameIndex := 304, descriptorIndex := 305, attributes := #[] }] 49 271 #[363, 365, 367] #[{ accessFlags := 25, nameIndex := 369, descriptorIndex := 276, attributes := #[] }, { accessFlags := 25, nameIndex := 371, descriptorIndex := 276, attributes := #[] }, { accessFlags := 25, nameIndex := 361, descriptorIndex := 362, attributes := #[] }, { accessFlags := 18, nameIndex := 275, descriptorIndex := 276, attributes := #[] }, { accessFlags := 25, nameIndex := 376, descriptorIndex := 377, attributes := #[] }, { accessFlags := 25, nameIndex := 379, descriptorIndex := 377, attributes := #[] }, { accessFlags := 26, nameIndex := 381, descriptorIndex := 276, attributes := #[] }])
  fields := #[{ name := "MIN_VALUE", type := .long, accessFlags := 25, slot := 0, constantValue := 0 }, { name := "MAX_VALUE", type := .long, accessFlags := 25, slot := 1, constantValue := 0 }, { name := "TYPE", type := (.object "java/lang/Class"), accessFlags := 25, slot := 2, constantValue := 0 }, { name := "value", type := .long, accessFlags := 18, slot := 0, constantValue := 0 }, { name := "SIZE", type := .int, accessFlags := 25, slot := 3, constantValue := 0 }, { name := "BYTES", type := .int, accessFlags := 25, slot := 4, constantValue := 0 }, { name := "serialVersionUID", type := .long, accessFlags := 26, slot := 5, constantValue := 0 }]
  methods := #[k11m0]
  instanceTypes := #[.long]
  staticTypes := #[.long, .long, (.object "java/lang/Class"), .int, .int, .long]
  resolved := Array.replicate 524 none
  statics := none }

def pool12 : Array CpInfo := pool [(1, u "java/lang/Cloneable"), (0, .class_ 1), (0, u "java/lang/Object"), (0, .class_ 3)] 3

/-- java/lang/Cloneable -/
def k12 : Class := { plain "java/lang/Cloneable" (some 0) with
  accessFlags := 1537
  interfaces := #[]
  cf := some (fileOf pool12 2 #[] #[] 1537 4 #[] #[])
  fields := #[]
  methods := #[]
  instanceTypes := #[]
  staticTypes := #[]
  resolved := Array.replicate 8 none
  statics := none }

/-- the primitive byte -/
def k13 : Class := { plain "byte" none with kind := .primitive 'B', accessFlags := 0x411 }
/-- [B -/
def k14 : Class := { plain "[B" (some 0) with kind := .array 13 .byte, interfaces := #[12, 6], accessFlags := 1041 }

/-- the primitive int -/
def k15 : Class := { plain "int" none with kind := .primitive 'I', accessFlags := 0x411 }
/-- [I -/
def k16 : Class := { plain "[I" (some 0) with kind := .array 15 .int, interfaces := #[12, 6], accessFlags := 1041 }

/-- [Lcom/example/chronogate/chronogate/Event; -/
def k17 : Class := { plain "[Lcom/example/chronogate/chronogate/Event;" (some 0) with kind := .array 2 (.object "com/example/chronogate/chronogate/Event"), interfaces := #[12, 6], accessFlags := 1041 }

def heap : Heap := #[]
def classes : Array Class := #[k0, k1, k2, k3, k4, k5, k6, k7, k8, k9, k10, k11, k12, k13, k14, k15, k16, k17]
def interned : List (Array UInt16 × Addr) := []
def slotsUsed : Nat := 0
def theMethod : MethodId := ⟨1, 1⟩
def args0 : Array Value := #[.int 5, .long 6, .long 3, .long 1, .long 2]
def aboutOver (below : List Frame) : State where
  vm := { classes := classes, interned := interned.toArray }
  heap := heap
  slotsUsed := slotsUsed
  threads := #[{ frames := .invoking theMethod args0 :: below }]
def below0 : List Frame := [.native { method := ⟨0, 0⟩, args := #[] }]
def about1 : State := aboutOver below0
def p0 : Program := .bare "" "" ""
def e0 : Env := launch0.env 0 0 0
theorem w_frames : about1.frames = Frame.invoking theMethod args0 :: below0 := rfl
set_option maxRecDepth 65536 in
theorem w_args : argsFit about1.vm theMethod args0 = true := by decide +kernel
set_option maxRecDepth 65536 in
theorem w_heap : heapFits about1 = true := by decide +kernel
set_option maxRecDepth 65536 in
theorem w_runnable : about1.curStatus? = some .runnable := by decide +kernel
set_option maxRecDepth 65536 in
theorem w_alone : about1.alone = true := by decide +kernel
set_option maxRecDepth 65536 in
theorem w_named : about1.methodNamed? x = some theMethod := by decide +kernel
set_option maxRecDepth 65536 in
theorem w_hears : about1.hears theMethod below0 = true := by decide +kernel
set_option maxRecDepth 65536 in
theorem w_ripe : about1.ripe theMethod args0 below0 = true := by decide +kernel
theorem w_running : about1.status = .running := rfl
set_option maxRecDepth 65536 in
theorem w_room : about1.hasRoom e0.platform room_1 = true :=
  launch0.hasRoom_least _ room_1 (by decide +kernel) (by decide +kernel) (by decide +kernel) (by decide +kernel) (by decide +kernel) (by decide +kernel)
theorem allAtoms_all (ts : List Jvm.Cond) (a : Array Jvm.Value) (st : Jvm.State) : (allAtoms ts).before a st = ts.all (fun c => c.before a st) := by
  induction ts with
  | nil => rfl
  | cons c t ih =>
    show (Jvm.Cond.and c (allAtoms t)).before a st = _
    rw [Jvm.Cond.before_and, ih, List.all_cons]
def words1 : List Jvm.Cond := Jvm.Cond.code x code maxLocals ret :: tables_1
/-- a 'code' word, met by the world's own term for the bytes: nothing is compared byte by byte -/
theorem code_word {y : MethodName} {bytes : ByteArray} {mx : Nat} {rt : Option FieldType} {a : Array Value} {s : State} {m : MethodId} {meth : Method} {c : Code} (h1 : s.methodNamed? y = some m) (h2 : s.vm.method? m = some meth) (h3 : meth.code = some c) (h4 : c.code = bytes)
    (h5 : (c.maxLocals == mx && c.exceptionTable.isEmpty && decide (c.maxStack ≤ mostOperands) && decide (meth.sig.returnType = rt) && !meth.locks && decide (parseMethodDescriptor y.desc = some meth.sig)) = true) : (Jvm.Cond.code y bytes mx rt).before a s = true := by
  simp only [Bool.and_eq_true, beq_iff_eq, Bool.not_eq_true', decide_eq_true_eq] at h5
  obtain ⟨⟨⟨⟨⟨g1, g2⟩, g3⟩, g4⟩, g5⟩, g6⟩ := h5
  simp [Cond.before, Cond.holds, Cond.value, h1, h2, h3, h4, g1, g2, g3, g4, g5, g6]
def isCode : Jvm.Cond → Bool
  | .code _ _ _ _ => true
  | _ => false
theorem all_split {L : List Jvm.Cond} {P : Jvm.Cond → Bool} (h1 : L.all (fun c => isCode c || P c) = true) (h2 : ∀ c ∈ L.filter isCode, P c = true) : L.all P = true := by
  refine List.all_eq_true.mpr fun c hc => ?_
  have h := List.all_eq_true.mp h1 c hc
  rcases Bool.eq_false_or_eq_true (isCode c) with hi | hi
  · exact h2 c (List.mem_filter.mpr ⟨hc, hi⟩)
  · simpa [hi] using h
set_option maxRecDepth 65536 in
theorem w_c0 : (Jvm.Cond.code x code maxLocals ret).before args0 about1 = true := code_word (m := ⟨1, 1⟩) (meth := k1m1) (c := k1c1) (by decide +kernel) rfl rfl rfl (by decide +kernel)
set_option maxRecDepth 65536 in
theorem w_c1 : (Jvm.Cond.code ({ cls := "com/example/chronogate/chronogate/Event", name := "<init>", desc := "(JLjava/util/List;Ljava/lang/Object;J)V" } : Jvm.MethodName) prog_8_method_1_code (7 : Nat) (Option.none : Option Jvm.ClassFile.FieldType)).before args0 about1 = true := code_word (m := ⟨2, 0⟩) (meth := k2m0) (c := k2c0) (by decide +kernel) rfl rfl rfl (by decide +kernel)
set_option maxRecDepth 65536 in
theorem w_c2 : (Jvm.Cond.code ({ cls := "java/lang/Object", name := "<init>", desc := "()V" } : Jvm.MethodName) object_method_1_code (1 : Nat) (Option.none : Option Jvm.ClassFile.FieldType)).before args0 about1 = true := code_word (m := ⟨0, 0⟩) (meth := k0m0) (c := k0c0) (by decide +kernel) rfl rfl rfl (by decide +kernel)
set_option maxRecDepth 65536 in
theorem w_c3 : (Jvm.Cond.code ({ cls := "com/example/chronogate/chronogate/ReleaseQueue", name := "<init>", desc := "()V" } : Jvm.MethodName) prog_24_method_1_code (1 : Nat) (Option.none : Option Jvm.ClassFile.FieldType)).before args0 about1 = true := code_word (m := ⟨4, 0⟩) (meth := k4m0) (c := k4c0) (by decide +kernel) rfl rfl rfl (by decide +kernel)
set_option maxRecDepth 65536 in
theorem w_c4 : (Jvm.Cond.code ({ cls := "com/example/chronogate/chronogate/ReleaseQueue", name := "newArray", desc := "(I)[Lcom/example/chronogate/chronogate/Event;" } : Jvm.MethodName) prog_24_method_8_code (1 : Nat) (Option.some (Jvm.ClassFile.FieldType.array (Jvm.ClassFile.FieldType.object "com/example/chronogate/chronogate/Event")))).before args0 about1 = true := code_word (m := ⟨4, 5⟩) (meth := k4m5) (c := k4c5) (by decide +kernel) rfl rfl rfl (by decide +kernel)
set_option maxRecDepth 65536 in
theorem w_c5 : (Jvm.Cond.code ({ cls := "com/example/chronogate/chronogate/ReleaseQueue", name := "isEmpty", desc := "()Z" } : Jvm.MethodName) prog_24_method_3_code (1 : Nat) (Option.some Jvm.ClassFile.FieldType.boolean)).before args0 about1 = true := code_word (m := ⟨4, 2⟩) (meth := k4m2) (c := k4c2) (by decide +kernel) rfl rfl rfl (by decide +kernel)
set_option maxRecDepth 65536 in
theorem w_c6 : (Jvm.Cond.code ({ cls := "java/lang/Math", name := "max", desc := "(II)I" } : Jvm.MethodName) jdk_29_method_65_code (2 : Nat) (Option.some Jvm.ClassFile.FieldType.int)).before args0 about1 = true := code_word (m := ⟨5, 1⟩) (meth := k5m1) (c := k5c1) (by decide +kernel) rfl rfl rfl (by decide +kernel)
set_option maxRecDepth 65536 in
theorem w_c7 : (Jvm.Cond.code ({ cls := "com/example/chronogate/chronogate/ReleaseQueue", name := "peek", desc := "()Lcom/example/chronogate/chronogate/Event;" } : Jvm.MethodName) prog_24_method_5_code (1 : Nat) (Option.some (Jvm.ClassFile.FieldType.object "com/example/chronogate/chronogate/Event"))).before args0 about1 = true := code_word (m := ⟨4, 3⟩) (meth := k4m3) (c := k4c3) (by decide +kernel) rfl rfl rfl (by decide +kernel)
set_option maxRecDepth 65536 in
theorem w_c8 : (Jvm.Cond.code ({ cls := "com/example/chronogate/chronogate/ReleaseQueue", name := "add", desc := "(Lcom/example/chronogate/chronogate/Event;)V" } : Jvm.MethodName) prog_24_method_2_code (4 : Nat) (Option.none : Option Jvm.ClassFile.FieldType)).before args0 about1 = true := code_word (m := ⟨4, 1⟩) (meth := k4m1) (c := k4c1) (by decide +kernel) rfl rfl rfl (by decide +kernel)
set_option maxRecDepth 65536 in
theorem w_c9 : (Jvm.Cond.code ({ cls := "com/example/chronogate/chronogate/Event", name := "releaseOrder", desc := "(Lcom/example/chronogate/chronogate/Event;Lcom/example/chronogate/chronogate/Event;)I" } : Jvm.MethodName) prog_8_method_6_code (3 : Nat) (Option.some Jvm.ClassFile.FieldType.int)).before args0 about1 = true := code_word (m := ⟨2, 1⟩) (meth := k2m1) (c := k2c1) (by decide +kernel) rfl rfl rfl (by decide +kernel)
set_option maxRecDepth 65536 in
theorem w_c10 : (Jvm.Cond.code ({ cls := "java/lang/Long", name := "compare", desc := "(JJ)I" } : Jvm.MethodName) jdk_35_method_42_code (4 : Nat) (Option.some Jvm.ClassFile.FieldType.int)).before args0 about1 = true := code_word (m := ⟨11, 0⟩) (meth := k11m0) (c := k11c0) (by decide +kernel) rfl rfl rfl (by decide +kernel)
set_option maxRecDepth 65536 in
theorem w_c11 : (Jvm.Cond.code ({ cls := "com/example/chronogate/chronogate/ReleaseQueue", name := "poll", desc := "()Lcom/example/chronogate/chronogate/Event;" } : Jvm.MethodName) prog_24_method_6_code (5 : Nat) (Option.some (Jvm.ClassFile.FieldType.object "com/example/chronogate/chronogate/Event"))).before args0 about1 = true := code_word (m := ⟨4, 4⟩) (meth := k4m4) (c := k4c4) (by decide +kernel) rfl rfl rfl (by decide +kernel)
def codes1 : List Jvm.Cond := [Jvm.Cond.code x code maxLocals ret, Jvm.Cond.code ({ cls := "com/example/chronogate/chronogate/Event", name := "<init>", desc := "(JLjava/util/List;Ljava/lang/Object;J)V" } : Jvm.MethodName) prog_8_method_1_code (7 : Nat) (Option.none : Option Jvm.ClassFile.FieldType), Jvm.Cond.code ({ cls := "java/lang/Object", name := "<init>", desc := "()V" } : Jvm.MethodName) object_method_1_code (1 : Nat) (Option.none : Option Jvm.ClassFile.FieldType), Jvm.Cond.code ({ cls := "com/example/chronogate/chronogate/ReleaseQueue", name := "<init>", desc := "()V" } : Jvm.MethodName) prog_24_method_1_code (1 : Nat) (Option.none : Option Jvm.ClassFile.FieldType), Jvm.Cond.code ({ cls := "com/example/chronogate/chronogate/ReleaseQueue", name := "newArray", desc := "(I)[Lcom/example/chronogate/chronogate/Event;" } : Jvm.MethodName) prog_24_method_8_code (1 : Nat) (Option.some (Jvm.ClassFile.FieldType.array (Jvm.ClassFile.FieldType.object "com/example/chronogate/chronogate/Event"))), Jvm.Cond.code ({ cls := "com/example/chronogate/chronogate/ReleaseQueue", name := "isEmpty", desc := "()Z" } : Jvm.MethodName) prog_24_method_3_code (1 : Nat) (Option.some Jvm.ClassFile.FieldType.boolean), Jvm.Cond.code ({ cls := "java/lang/Math", name := "max", desc := "(II)I" } : Jvm.MethodName) jdk_29_method_65_code (2 : Nat) (Option.some Jvm.ClassFile.FieldType.int), Jvm.Cond.code ({ cls := "com/example/chronogate/chronogate/ReleaseQueue", name := "peek", desc := "()Lcom/example/chronogate/chronogate/Event;" } : Jvm.MethodName) prog_24_method_5_code (1 : Nat) (Option.some (Jvm.ClassFile.FieldType.object "com/example/chronogate/chronogate/Event")), Jvm.Cond.code ({ cls := "com/example/chronogate/chronogate/ReleaseQueue", name := "add", desc := "(Lcom/example/chronogate/chronogate/Event;)V" } : Jvm.MethodName) prog_24_method_2_code (4 : Nat) (Option.none : Option Jvm.ClassFile.FieldType), Jvm.Cond.code ({ cls := "com/example/chronogate/chronogate/Event", name := "releaseOrder", desc := "(Lcom/example/chronogate/chronogate/Event;Lcom/example/chronogate/chronogate/Event;)I" } : Jvm.MethodName) prog_8_method_6_code (3 : Nat) (Option.some Jvm.ClassFile.FieldType.int), Jvm.Cond.code ({ cls := "java/lang/Long", name := "compare", desc := "(JJ)I" } : Jvm.MethodName) jdk_35_method_42_code (4 : Nat) (Option.some Jvm.ClassFile.FieldType.int), Jvm.Cond.code ({ cls := "com/example/chronogate/chronogate/ReleaseQueue", name := "poll", desc := "()Lcom/example/chronogate/chronogate/Event;" } : Jvm.MethodName) prog_24_method_6_code (5 : Nat) (Option.some (Jvm.ClassFile.FieldType.object "com/example/chronogate/chronogate/Event"))]
set_option maxRecDepth 65536 in
theorem codes_eq : words1.filter isCode = codes1 := rfl
theorem w_codes : ∀ c ∈ words1.filter isCode, c.before args0 about1 = true := by
  rw [codes_eq]
  intro c hc
  simp only [codes1, List.mem_cons, List.not_mem_nil, or_false] at hc
  rcases hc with rfl | rfl | rfl | rfl | rfl | rfl | rfl | rfl | rfl | rfl | rfl | rfl
  · exact w_c0
  · exact w_c1
  · exact w_c2
  · exact w_c3
  · exact w_c4
  · exact w_c5
  · exact w_c6
  · exact w_c7
  · exact w_c8
  · exact w_c9
  · exact w_c10
  · exact w_c11
set_option maxRecDepth 65536 in
theorem w_t1 : (words1.take 24).all (fun c => isCode c || c.before args0 about1) = true := by decide +kernel
set_option maxRecDepth 65536 in
theorem w_t2 : ((words1.drop 24).take 24).all (fun c => isCode c || c.before args0 about1) = true := by decide +kernel
set_option maxRecDepth 65536 in
theorem w_t3 : ((words1.drop 24).drop 24).all (fun c => isCode c || c.before args0 about1) = true := by decide +kernel
theorem w_tables : (allAtoms (Jvm.Cond.code x code maxLocals ret :: tables_1)).before args0 about1 = true := by
  rw [allAtoms_all]
  show words1.all (fun c => c.before args0 about1) = true
  refine all_split ?_ w_codes
  rw [← List.take_append_drop 24 words1, List.all_append, w_t1, ← List.take_append_drop 24 (words1.drop 24), List.all_append, w_t2, w_t3]
  rfl
set_option maxRecDepth 65536 in
theorem w_case : (Jvm.Cond.and given_1 narrow_1).before args0 about1 = true := by decide +kernel
theorem w_applies : (headSpec (Jvm.Cond.code x code maxLocals ret :: tables_1) room_1).applies x e0.platform about1 = true :=
  (Spec.applies_iff w_frames).mpr ⟨w_running, w_runnable, w_alone, w_named, w_hears, w_ripe, w_room, w_tables⟩
theorem atStart : AtStart classFile x code maxLocals ret World_1 tables_1 room_1 Calls_1 rest_1 Pre_1 launch0 p0 e0 about1 theMethod args0 below0 :=
  ⟨lists_1, trivial, launch0.admits_env _ _ _, launch0.least_env, fairChoices_fair.cas, fairChoices_fair.clock, w_frames, w_args, w_heap, w_applies, trivial, trivial, w_case⟩
end start1
theorem witness_1 : WitnessClaimed_1 := ⟨start1.p0, start1.e0, start1.about1, start1.theMethod, start1.args0, start1.below0, start1.atStart⟩
end Jvm.Pilot.@@N@@
