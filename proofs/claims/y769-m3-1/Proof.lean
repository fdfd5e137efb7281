import JvmDerived
import JvmDerived.Pilot.@@N@@Statement
import JvmDerived.Pilot.@@N@@Code
set_option linter.unusedVariables false
set_option linter.unusedSimpArgs false

namespace Jvm.Sy
open Jvm Jvm.ClassFile Sem Op Lib Jvm.Free Jvm.Stand Jvm.LawKit Jvm.RoadKit Bundle

abbrev WKey := String × String × String
abbrev WObj := (FieldType × List Value) ⊕ (String × List (WKey × Value))
abbrev WHp := List WObj
def gv (ρ : Nat → Nat) : Value → Value
  | .ref a => .ref (ρ a)
  | .int x => .int x
  | .long x => .long x
  | .float x => .float x
  | .double x => .double x
  | .null => .null
  | .retAddr q => .retAddr q
def gs (ρ : Nat → Nat) : Slot → Slot
  | .val v => .val (gv ρ v)
  | .unset => .unset
  | .second => .second
def gS (ρ : Nat → Nat) (S : List Value) : List Value := S.map (gv ρ)
def gL (ρ : Nat → Nat) (L : List Slot) : Array Slot := (L.map (gs ρ)).toArray
section Vals
variable {ρ : Nat → Nat} {v : Value} {ty : FieldType}
theorem cat_gv : (gv ρ v).category = v.category := by cases v <;> rfl
theorem isRef_gv : (gv ρ v).isRef = v.isRef := by cases v <;> rfl
theorem fits_gv : fits ty (gv ρ v) = fits ty v := by cases ty <;> cases v <;> rfl
theorem narrow_gv : narrow ty (gv ρ v) = gv ρ (narrow ty v) := by cases ty <;> cases v <;> rfl
theorem dv_gv : gv ρ (defaultValue ty) = defaultValue ty := by cases ty <;> rfl
theorem sum_gS (S : List Value) : ((gS ρ S).map fun v => v.category).sum = (S.map Value.category).sum := by
  induction S with
  | nil => rfl
  | cons a t ih => simp only [gS, List.map_cons, List.sum_cons, cat_gv] at ih ⊢; rw [ih]
theorem gL_get (L : List Slot) (k : Nat) : (gL ρ L)[k]? = (L[k]?).map (gs ρ) := by simp [gL]
theorem gL_val {L : List Slot} {k : Nat} (h : L[k]? = some (.val v)) : (gL ρ L)[k]? = some (.val (gv ρ v)) := by rw [gL_get, h]; rfl
theorem gL_size (L : List Slot) : (gL ρ L).size = L.length := by simp [gL]
end Vals
def ArrOk (Z : State) (ρ : Nat → Nat) (h : Heap) (a : Addr) (ty : FieldType) (vs : List Value) : Prop :=
  ∃ cl : Cell, Arr Z h a cl ty ∧ cl.slots.toList = vs.map (gv ρ) ∧ (∀ C, ty = .object C → Ovr Z cl.cls C) ∧ ∀ v ∈ vs, fits ty v = true
def ObjOk (Z : State) (ρ : Nat → Nat) (h : Heap) (a : Addr) (C : String) (fs : List (WKey × Value)) : Prop :=
  Exa Z h a C ∧ (∀ (i : Nat) (O n d : String) (v : Value), fs[i]? = some ((O, n, d), v) → Fld Z h a O n d (gv ρ v)) ∧
    ∀ (i j : Nat) (k1 k2 : WKey) (v1 v2 : Value), i ≠ j → fs[i]? = some (k1, v1) → fs[j]? = some (k2, v2) → RoadKit.slotOf Z k1.1 k1.2.1 k1.2.2 ≠ RoadKit.slotOf Z k2.1 k2.2.1 k2.2.2
def CellOk (Z : State) (ρ : Nat → Nat) (h : Heap) (a : Addr) : WObj → Prop
  | .inl q => ArrOk Z ρ h a q.1 q.2
  | .inr q => ObjOk Z ρ h a q.1 q.2
def WDen (Z : State) (ρ : Nat → Nat) (n0 : Nat) (σ : WHp) (h : Heap) : Prop :=
  h.size = n0 + σ.length ∧ σ.length ≤ 1000 ∧ ∀ (k : Nat) (o : WObj), σ[k]? = some o → CellOk Z ρ h (n0 + k) o
section Heaps
variable {Z : State} {ρ : Nat → Nat} {h h' : Heap} {a b : Addr} {o : WObj} {n0 k sl : Nat} {σ : WHp} {v : Value}
theorem CellOk.ext (F : CellOk Z ρ h a o) (E : Ext h h') : CellOk Z ρ h' a o := by
  rcases o with ⟨ty, vs⟩ | ⟨C, fs⟩
  · obtain ⟨cl, A, r⟩ := F; exact ⟨cl, A.ext E, r⟩
  · obtain ⟨F1, F2, F3⟩ := F; exact ⟨F1.ext E, fun i O n d v q => (F2 i O n d v q).ext E, F3⟩
theorem CellOk.other (F : CellOk Z ρ h b o) (W : Wr h h' a sl v) (q : b ≠ a) : CellOk Z ρ h' b o := by
  rcases o with ⟨ty, vs⟩ | ⟨C, fs⟩
  · obtain ⟨cl, A, r⟩ := F; exact ⟨cl, A.other W q, r⟩
  · obtain ⟨F1, F2, F3⟩ := F; exact ⟨F1.wr W, fun i O n d v y => (F2 i O n d v y).other W (Or.inl q), F3⟩
theorem WDen.push (D : WDen Z ρ n0 σ h) (E : Ext h h') (hs : h'.size = h.size + 1) (hl : σ.length < 1000) (F : CellOk Z ρ h' (n0 + σ.length) o) : WDen Z ρ n0 (σ ++ [o]) h' := by
  obtain ⟨D1, D2, D3⟩ := D
  refine ⟨by rw [hs, D1]; simp [Nat.add_assoc], by simp; omega, fun k o' hk => ?_⟩
  by_cases q : k < σ.length
  · rw [List.getElem?_append_left q] at hk; exact (D3 k o' hk).ext E
  · rw [List.getElem?_append_right (by omega)] at hk
    have e : k - σ.length = 0 := by
      rcases Nat.eq_zero_or_pos (k - σ.length) with z | z
      · exact z
      · rw [List.getElem?_eq_none (by simp; omega)] at hk; cases hk
    rw [e] at hk
    cases hk
    have e2 : k = σ.length := by omega
    rw [e2]; exact F
theorem WDen.put (D : WDen Z ρ n0 σ h) (W : Wr h h' (n0 + k) sl v) (F : CellOk Z ρ h' (n0 + k) o) : WDen Z ρ n0 (σ.set k o) h' := by
  obtain ⟨D1, D2, D3⟩ := D
  refine ⟨by rw [W.size, D1]; simp, by simp; exact D2, fun j o' hj => ?_⟩
  by_cases q : j = k
  · subst q
    rw [List.getElem?_set] at hj
    simp only [if_true] at hj
    split at hj
    · cases hj; exact F
    · cases hj
  · rw [List.getElem?_set_ne (Ne.symm q)] at hj
    exact (D3 j o' hj).other W fun e => q (Nat.add_left_cancel e)
theorem WDen.lt (D : WDen Z ρ n0 σ h) (hk : σ[k]? = some o) : k < 1000 := by
  have := (List.getElem?_eq_some_iff.mp hk).1
  have := D.2.1
  omega
theorem ArrOk.size {ty : FieldType} {vs : List Value} {cl : Cell} (e : cl.slots.toList = vs.map (gv ρ)) : cl.slots.size = vs.length := by
  have := congrArg List.length e
  simpa using this
theorem ArrOk.at {vs : List Value} {cl : Cell} (e : cl.slots.toList = vs.map (gv ρ)) {i : Nat} {w : Value} (hw : vs[i]? = some w) : cl.slots[i]? = some (gv ρ w) := by
  rw [← Array.getElem?_toList, e, List.getElem?_map, hw]; rfl
theorem ArrOk.set {ty : FieldType} {vs : List Value} {cl : Cell} (A : Arr Z h a cl ty) (e : cl.slots.toList = vs.map (gv ρ)) (hO : ∀ C, ty = .object C → Ovr Z cl.cls C) (hf : ∀ v ∈ vs, fits ty v = true) {i : Nat} {w : Value} (W : Wr h h' a i (gv ρ w)) (hw : fits ty w = true) : ArrOk Z ρ h' a ty (vs.set i w) := by
  refine ⟨cl.setSlot i (gv ρ w), A.same W, ?_, hO, fun y hy => ?_⟩
  · show (cl.slots.setIfInBounds i (gv ρ w)).toList = _
    rw [Array.toList_setIfInBounds, e, List.map_set]
  · rcases List.mem_or_eq_of_mem_set hy with q | q
    · exact hf y q
    · rw [q]; exact hw
end Heaps
abbrev WMC := (State × (Nat → Nat) × Nat) × (String × ByteArray × String × Option FieldType × Nat) × (Nat × Nat × Nat × Nat)
abbrev WMC.Z (G : WMC) : State := G.1.1
abbrev WMC.ρ (G : WMC) : Nat → Nat := G.1.2.1
abbrev WMC.n0 (G : WMC) : Nat := G.1.2.2
abbrev WMC.own (G : WMC) : String := G.2.1.1
abbrev WMC.bytes (G : WMC) : ByteArray := G.2.1.2.1
abbrev WMC.nm (G : WMC) : String := G.2.1.2.2.1
abbrev WMC.ret (G : WMC) : Option FieldType := G.2.1.2.2.2.1
abbrev WMC.ml (G : WMC) : Nat := G.2.1.2.2.2.2
abbrev WMC.j0 (G : WMC) : Nat := G.2.2.1
abbrev WMC.u0 (G : WMC) : Nat := G.2.2.2.1
abbrev WMC.fr (G : WMC) : Nat := G.2.2.2.2.1
abbrev WMC.lo (G : WMC) : Nat := G.2.2.2.2.2
abbrev WCfg := Nat × List Slot × List Value × WHp × Nat
def frm (G : WMC) (m : MethodId) (A : WCfg) : JFrame := mkF m A.1 (gL G.ρ A.2.1) (gS G.ρ A.2.2.1)
def WCtx (G : WMC) (p : Program) (R : Room) (s : State) (m : MethodId) (meth : Method) (c : Code) : Prop :=
  p.tables.exec = Jvm.exec ∧ c.code = G.bytes ∧ G.Z.Warmed39 s.vm ∧ s.vm.findClass G.own = some m.cls ∧ meth.name = G.nm ∧ meth.sig.returnType = G.ret ∧ c.maxLocals = G.ml ∧ s.heap.size = G.n0 + G.j0 ∧ (∀ k, k < 1000 → G.ρ k = G.n0 + k) ∧ (∀ i j, G.ρ i = G.ρ j → i = j) ∧ G.fr ≤ R.frames ∧ G.lo ≤ R.locals
def WHere (G : WMC) (p : Program) (l : Launch) (e : Env) (R : Room) (s : State) (m : MethodId) (args : Array Value) (below : List Frame) (meth : Method) (c : Code) (σ : WHp) (u : Nat) (T : State) : Prop :=
  ∃ locs ce sl, σ.length = G.j0 + ce ∧ u = G.u0 + sl ∧ Stand p l e R s m args below meth c T locs ce sl ∧ WDen G.Z G.ρ G.n0 σ T.heap ∧ Fr G.n0 locs
def WStep (G : WMC) (A B : WCfg) : Prop :=
  A.2.2.2.1.length ≤ B.2.2.2.1.length ∧ A.2.2.2.2 ≤ B.2.2.2.2 ∧
  ∀ (p : Program) (l : Launch) (e : Env) (R : Room) (s : State) (m : MethodId) (args : Array Value) (below : List Frame) (meth : Method) (c : Code),
    WCtx G p R s m meth c → B.2.2.2.1.length ≤ G.j0 + R.cells → B.2.2.2.2 ≤ G.u0 + R.slots →
    ∀ T, WHere G p l e R s m args below meth c A.2.2.2.1 A.2.2.2.2 T →
      ∃ T', WHere G p l e R s m args below meth c B.2.2.2.1 B.2.2.2.2 T' ∧
        ∀ target, Steps p.tables e below (T'.setTop (frm G m B)) target → Steps p.tables e below (T.setTop (frm G m A)) target
def WRun (G : WMC) (A : WCfg) (v : Option Value) (σ' : WHp) (u' : Nat) : Prop :=
  A.2.2.2.1.length ≤ σ'.length ∧ A.2.2.2.2 ≤ u' ∧ (G.ret = none → v = none) ∧
  ∀ (p : Program) (l : Launch) (e : Env) (R : Room) (s : State) (m : MethodId) (args : Array Value) (below : List Frame) (meth : Method) (c : Code),
    WCtx G p R s m meth c → σ'.length ≤ G.j0 + R.cells → u' ≤ G.u0 + R.slots →
    ∀ T, WHere G p l e R s m args below meth c A.2.2.2.1 A.2.2.2.2 T →
      ∃ T', WHere G p l e R s m args below meth c σ' u' T' ∧
        ∀ fs, (∀ (f : JFrame) (acts : List Action), f.method = m → f.locked = none → f.entered = [] → (doReturn e (T'.setTop f) acts (v.map (gv G.ρ))).1 = T'.setFrames fs) →
          Steps p.tables e below (T.setTop (frm G m A)) (T'.setFrames fs)
def WGo (G : WMC) (A : WCfg) (Q : Option Value → WHp → Nat → Prop) : Prop := ∃ v σ' u', Q v σ' u' ∧ WRun G A v σ' u'
def AtI (bytes : ByteArray) (pc : Nat) (i : Instr) (len nx : Nat) : Prop := decode bytes pc = .ok (i, len) ∧ pc + len = nx
def AtJ (bytes : ByteArray) (pc : Nat) (f : Int → Instr) (nx tgt : Nat) : Prop := ∃ o : Int, decode bytes pc = .ok (f o, 3) ∧ pc + 3 = nx ∧ 0 ≤ (pc : Int) + o ∧ ((pc : Int) + o).toNat = tgt
section Walk
variable {G : WMC} {A B C : WCfg} {Q Q' : Option Value → WHp → Nat → Prop}
theorem WStep.refl (A : WCfg) : WStep G A A := ⟨Nat.le_refl _, Nat.le_refl _, fun _ _ _ _ _ _ _ _ _ _ _ _ _ T hT => ⟨T, hT, fun _ k => k⟩⟩
theorem WStep.trans (h1 : WStep G A B) (h2 : WStep G B C) : WStep G A C := by
  obtain ⟨a1, a2, a3⟩ := h1
  obtain ⟨b1, b2, b3⟩ := h2
  refine ⟨Nat.le_trans a1 b1, Nat.le_trans a2 b2, fun p l e R s m args below meth c hC hc hs T hT => ?_⟩
  obtain ⟨T1, hT1, k1⟩ := a3 p l e R s m args below meth c hC (Nat.le_trans b1 hc) (Nat.le_trans b2 hs) T hT
  obtain ⟨T2, hT2, k2⟩ := b3 p l e R s m args below meth c hC hc hs T1 hT1
  exact ⟨T2, hT2, fun t k => k1 t (k2 t k)⟩
theorem WRun.s {v : Option Value} {σ' : WHp} {u' : Nat} (h1 : WStep G A B) (h2 : WRun G B v σ' u') : WRun G A v σ' u' := by
  obtain ⟨a1, a2, a3⟩ := h1
  obtain ⟨b1, b2, b0, b3⟩ := h2
  refine ⟨Nat.le_trans a1 b1, Nat.le_trans a2 b2, b0, fun p l e R s m args below meth c hC hc hs T hT => ?_⟩
  obtain ⟨T1, hT1, k1⟩ := a3 p l e R s m args below meth c hC (Nat.le_trans b1 hc) (Nat.le_trans b2 hs) T hT
  obtain ⟨T2, hT2, k2⟩ := b3 p l e R s m args below meth c hC hc hs T1 hT1
  exact ⟨T2, hT2, fun fs h => k1 _ (k2 fs h)⟩
theorem WGo.s (h1 : WStep G A B) (h2 : WGo G B Q) : WGo G A Q := by
  obtain ⟨v, σ', u', q, r⟩ := h2
  exact ⟨v, σ', u', q, r.s h1⟩
theorem WGo.mono (h1 : WGo G A Q) (h : ∀ v σ' u', Q v σ' u' → Q' v σ' u') : WGo G A Q' := by
  obtain ⟨v, σ', u', q, r⟩ := h1
  exact ⟨v, σ', u', h _ _ _ q, r⟩
theorem WStep.pure {pc nx : Nat} {L L' : List Slot} {S S' : List Value} {σ : WHp} {u : Nat}
    (h : ∀ {p : Program} {e : Env} {below : List Frame} {T target : State} {m : MethodId} {c : Code}, At T m c below → p.tables.exec = Jvm.exec → c.code = G.bytes → (∀ i j, G.ρ i = G.ρ j → i = j) →
      Steps p.tables e below (T.setTop (mkF m nx (gL G.ρ L') (gS G.ρ S'))) target → Steps p.tables e below (T.setTop (mkF m pc (gL G.ρ L) (gS G.ρ S))) target) :
    WStep G (pc, L, S, σ, u) (nx, L', S', σ, u) := by
  refine ⟨Nat.le_refl _, Nat.le_refl _, fun p l e R s m args below meth c hC hc hs T hT => ⟨T, hT, fun target k => ?_⟩⟩
  obtain ⟨locs, ce, sl, h1, h2, X, D, N⟩ := hT
  exact h X.here hC.1 hC.2.1 hC.2.2.2.2.2.2.2.2.2.1 k
end Walk
end Jvm.Sy
namespace Jvm.Sy
open Jvm Jvm.ClassFile Sem Op Lib Jvm.Free Jvm.Stand Jvm.LawKit Jvm.RoadKit Bundle
section Pure
variable {G : WMC} {pc nx tgt u : Nat} {L L' : List Slot} {S : List Value} {σ : WHp}
theorem WStep.iload {k : Nat} {x : Int32} (d : AtI G.bytes pc (.iload k) 2 nx) (hl : L[k]? = some (.val (.int x))) : WStep G (pc, L, S, σ, u) (nx, L, .int x :: S, σ, u) := by
  obtain ⟨d, rfl⟩ := d
  exact WStep.pure fun hA hx hby _ k => XS.iload hA hx rfl (hb hby d) (gL_val hl) k
theorem WStep.iloadN {k : Fin 4} {x : Int32} (d : AtI G.bytes pc (.iload_n k) 1 nx) (hl : L[k.val]? = some (.val (.int x))) : WStep G (pc, L, S, σ, u) (nx, L, .int x :: S, σ, u) := by
  obtain ⟨d, rfl⟩ := d
  exact WStep.pure fun hA hx hby _ k => XS.iloadN hA hx rfl (hb hby d) (gL_val hl) k
theorem WStep.aload {k : Nat} {x : Value} (d : AtI G.bytes pc (.aload k) 2 nx) (hl : L[k]? = some (.val x)) (hr : x.isRef = true) : WStep G (pc, L, S, σ, u) (nx, L, x :: S, σ, u) := by
  obtain ⟨d, rfl⟩ := d
  exact WStep.pure fun hA hx hby _ k => XS.aload hA hx rfl (hb hby d) (gL_val hl) (isRef_gv.trans hr) k
theorem WStep.aloadN {k : Fin 4} {x : Value} (d : AtI G.bytes pc (.aload_n k) 1 nx) (hl : L[k.val]? = some (.val x)) (hr : x.isRef = true) : WStep G (pc, L, S, σ, u) (nx, L, x :: S, σ, u) := by
  obtain ⟨d, rfl⟩ := d
  exact WStep.pure fun hA hx hby _ k => XS.aloadN hA hx rfl (hb hby d) (gL_val hl) (isRef_gv.trans hr) k
theorem WStep.istore {k : Nat} {x : Int32} (d : AtI G.bytes pc (.istore k) 2 nx) (hl : storeLocals (gL G.ρ L) k (.int x) = some (gL G.ρ L')) : WStep G (pc, L, .int x :: S, σ, u) (nx, L', S, σ, u) := by
  obtain ⟨d, rfl⟩ := d
  exact WStep.pure fun hA hx hby _ k => XS.istore hA hx rfl (hb hby d) rfl hl k
theorem WStep.istoreN {k : Fin 4} {x : Int32} (d : AtI G.bytes pc (.istore_n k) 1 nx) (hl : storeLocals (gL G.ρ L) k.val (.int x) = some (gL G.ρ L')) : WStep G (pc, L, .int x :: S, σ, u) (nx, L', S, σ, u) := by
  obtain ⟨d, rfl⟩ := d
  exact WStep.pure fun hA hx hby _ k => XS.istoreN hA hx rfl (hb hby d) rfl hl k
theorem WStep.astore {k : Nat} {x : Value} (d : AtI G.bytes pc (.astore k) 2 nx) (hr : x.isRef = true) (hl : storeLocals (gL G.ρ L) k (gv G.ρ x) = some (gL G.ρ L')) : WStep G (pc, L, x :: S, σ, u) (nx, L', S, σ, u) := by
  obtain ⟨d, rfl⟩ := d
  exact WStep.pure fun hA hx hby _ k => XS.astore hA hx rfl (hb hby d) rfl (isRef_gv.trans hr) hl k
theorem WStep.astoreN {k : Fin 4} {x : Value} (d : AtI G.bytes pc (.astore_n k) 1 nx) (hr : x.isRef = true) (hl : storeLocals (gL G.ρ L) k.val (gv G.ρ x) = some (gL G.ρ L')) : WStep G (pc, L, x :: S, σ, u) (nx, L', S, σ, u) := by
  obtain ⟨d, rfl⟩ := d
  exact WStep.pure fun hA hx hby _ k => XS.astoreN hA hx rfl (hb hby d) rfl (isRef_gv.trans hr) hl k
theorem WStep.iinc {k : Nat} {cst : Int} {x : Int32} (d : AtI G.bytes pc (.iinc k cst) 3 nx) (hl : L[k]? = some (.val (.int x))) (hl' : storeLocals (gL G.ρ L) k (.int (x + Int32.ofInt cst)) = some (gL G.ρ L')) : WStep G (pc, L, S, σ, u) (nx, L', S, σ, u) := by
  obtain ⟨d, rfl⟩ := d
  exact WStep.pure fun hA hx hby _ k => XS.iinc hA hx rfl (hb hby d) (gL_val hl) hl' k
theorem WStep.iconst {i : Int} (z : Int32) (d : AtI G.bytes pc (.iconst i) 1 nx) (hz : Int32.ofInt i = z) : WStep G (pc, L, S, σ, u) (nx, L, .int z :: S, σ, u) := by
  obtain ⟨d, rfl⟩ := d
  exact WStep.pure fun hA hx hby _ k => by subst hz; exact XS.iconst hA hx rfl (hb hby d) k
theorem WStep.bipush {i : Int} (z : Int32) (d : AtI G.bytes pc (.bipush i) 2 nx) (hz : (Int8.ofInt i).toInt32 = z) : WStep G (pc, L, S, σ, u) (nx, L, .int z :: S, σ, u) := by
  obtain ⟨d, rfl⟩ := d
  exact WStep.pure fun hA hx hby _ k => by subst hz; exact XS.bipush hA hx rfl (hb hby d) k
theorem WStep.sipush {i : Int} (z : Int32) (d : AtI G.bytes pc (.sipush i) 3 nx) (hz : (Int16.ofInt i).toInt32 = z) : WStep G (pc, L, S, σ, u) (nx, L, .int z :: S, σ, u) := by
  obtain ⟨d, rfl⟩ := d
  exact WStep.pure fun hA hx hby _ k => by subst hz; exact XS.sipush hA hx rfl (hb hby d) k
theorem WStep.iadd {x y : Int32} (d : AtI G.bytes pc .iadd 1 nx) : WStep G (pc, L, .int y :: .int x :: S, σ, u) (nx, L, .int (x + y) :: S, σ, u) := by
  obtain ⟨d, rfl⟩ := d
  exact WStep.pure fun hA hx hby _ k => XS.iadd hA hx rfl (hb hby d) rfl k
theorem WStep.isub {x y : Int32} (d : AtI G.bytes pc .isub 1 nx) : WStep G (pc, L, .int y :: .int x :: S, σ, u) (nx, L, .int (x - y) :: S, σ, u) := by
  obtain ⟨d, rfl⟩ := d
  exact WStep.pure fun hA hx hby _ k => XS.isub hA hx rfl (hb hby d) rfl k
theorem WStep.imul {x y : Int32} (d : AtI G.bytes pc .imul 1 nx) : WStep G (pc, L, .int y :: .int x :: S, σ, u) (nx, L, .int (x * y) :: S, σ, u) := by
  obtain ⟨d, rfl⟩ := d
  exact WStep.pure fun hA hx hby _ k => XS.imul hA hx rfl (hb hby d) rfl k
theorem WStep.iand {x y : Int32} (d : AtI G.bytes pc .iand 1 nx) : WStep G (pc, L, .int y :: .int x :: S, σ, u) (nx, L, .int (x &&& y) :: S, σ, u) := by
  obtain ⟨d, rfl⟩ := d
  exact WStep.pure fun hA hx hby _ k => XS.iand hA hx rfl (hb hby d) rfl k
theorem WStep.ior {x y : Int32} (d : AtI G.bytes pc .ior 1 nx) : WStep G (pc, L, .int y :: .int x :: S, σ, u) (nx, L, .int (x ||| y) :: S, σ, u) := by
  obtain ⟨d, rfl⟩ := d
  exact WStep.pure fun hA hx hby _ k => XS.ior hA hx rfl (hb hby d) rfl k
theorem WStep.ixor {x y : Int32} (d : AtI G.bytes pc .ixor 1 nx) : WStep G (pc, L, .int y :: .int x :: S, σ, u) (nx, L, .int (x ^^^ y) :: S, σ, u) := by
  obtain ⟨d, rfl⟩ := d
  exact WStep.pure fun hA hx hby _ k => XS.ixor hA hx rfl (hb hby d) rfl k
theorem WStep.idiv {x y : Int32} (d : AtI G.bytes pc .idiv 1 nx) (hy : y ≠ 0) : WStep G (pc, L, .int y :: .int x :: S, σ, u) (nx, L, .int (x / y) :: S, σ, u) := by
  obtain ⟨d, rfl⟩ := d
  exact WStep.pure fun hA hx hby _ k => XS.idiv hA hx rfl (hb hby d) rfl hy k
theorem WStep.irem {x y : Int32} (d : AtI G.bytes pc .irem 1 nx) (hy : y ≠ 0) : WStep G (pc, L, .int y :: .int x :: S, σ, u) (nx, L, .int (x % y) :: S, σ, u) := by
  obtain ⟨d, rfl⟩ := d
  have q : x - x / y * y = x % y := irem_eq_mod x y
  exact WStep.pure fun hA hx hby _ k => XS.irem hA hx rfl (hb hby d) rfl hy (by rw [q]; exact k)
theorem WStep.iushr {x : Int32} {y : Int32} (d : AtI G.bytes pc .iushr 1 nx) : WStep G (pc, L, .int y :: .int x :: S, σ, u) (nx, L, .int ((x.toUInt32 >>> (y &&& 31).toUInt32).toInt32) :: S, σ, u) := by
  obtain ⟨d, rfl⟩ := d
  exact WStep.pure fun hA hx hby _ k => XS.iushr hA hx rfl (hb hby d) rfl k
theorem WStep.dup {x : Value} (d : AtI G.bytes pc .dup 1 nx) (hc : x.category = 1) : WStep G (pc, L, x :: S, σ, u) (nx, L, x :: x :: S, σ, u) := by
  obtain ⟨d, rfl⟩ := d
  exact WStep.pure fun hA hx hby _ k => XS.dup hA hx rfl (hb hby d) rfl (cat_gv.trans hc) k
theorem WStep.dupX1 {x y : Value} (d : AtI G.bytes pc .dup_x1 1 nx) (hc : x.category = 1) (hc' : y.category = 1) : WStep G (pc, L, x :: y :: S, σ, u) (nx, L, x :: y :: x :: S, σ, u) := by
  obtain ⟨d, rfl⟩ := d
  exact WStep.pure fun hA hx hby _ k => XS.dupX1 hA hx rfl (hb hby d) rfl (cat_gv.trans hc) (cat_gv.trans hc') k
theorem WStep.goto (d : AtJ G.bytes pc .goto nx tgt) : WStep G (pc, L, S, σ, u) (tgt, L, S, σ, u) := by
  obtain ⟨o, d, rfl, h0, h1⟩ := d
  exact WStep.pure fun hA hx hby _ k => XS.goto hA hx rfl (pc0 := pc) (pc' := tgt) rfl (hb hby d) h0 h1 k
theorem WStep.icmpT {cd : ClassFile.Cond} {x y : Int32} (d : AtJ G.bytes pc (.if_icmp cd) nx tgt) (h : if_icmp.holds cd x y = true) : WStep G (pc, L, .int y :: .int x :: S, σ, u) (tgt, L, S, σ, u) := by
  obtain ⟨o, d, rfl, h0, h1⟩ := d
  exact WStep.pure fun hA hx hby _ k => XS.icmpYes hA hx rfl (pc0 := pc) (pc' := tgt) rfl (hb hby d) rfl h h0 h1 k
theorem WStep.icmpF {cd : ClassFile.Cond} {x y : Int32} (d : AtJ G.bytes pc (.if_icmp cd) nx tgt) (h : if_icmp.holds cd x y = false) : WStep G (pc, L, .int y :: .int x :: S, σ, u) (nx, L, S, σ, u) := by
  obtain ⟨o, d, rfl, h0, h1⟩ := d
  exact WStep.pure fun hA hx hby _ k => XS.icmpNo hA hx rfl (hb hby d) rfl h k
theorem WStep.ifT {cd : ClassFile.Cond} {x : Int32} (d : AtJ G.bytes pc (.ifCond cd) nx tgt) (h : if_icmp.holds cd x 0 = true) : WStep G (pc, L, .int x :: S, σ, u) (tgt, L, S, σ, u) := by
  obtain ⟨o, d, rfl, h0, h1⟩ := d
  exact WStep.pure fun hA hx hby _ k => XS.ifYes hA hx rfl (pc0 := pc) (pc' := tgt) rfl (hb hby d) rfl ((if0 _ _).trans h) h0 h1 k
theorem WStep.ifF {cd : ClassFile.Cond} {x : Int32} (d : AtJ G.bytes pc (.ifCond cd) nx tgt) (h : if_icmp.holds cd x 0 = false) : WStep G (pc, L, .int x :: S, σ, u) (nx, L, S, σ, u) := by
  obtain ⟨o, d, rfl, h0, h1⟩ := d
  exact WStep.pure fun hA hx hby _ k => XS.ifNo hA hx rfl (hb hby d) rfl ((if0 _ _).trans h) k
end Pure
section Forks
variable {G : WMC} {pc nx tgt u : Nat} {L : List Slot} {S : List Value} {σ : WHp} {Q : Option Value → WHp → Nat → Prop}
theorem WGo.lt {x y : Int32} (d : AtJ G.bytes pc (.if_icmp .lt) nx tgt) (h1 : x < y → WGo G (tgt, L, S, σ, u) Q) (h2 : ¬ x < y → WGo G (nx, L, S, σ, u) Q) : WGo G (pc, L, .int y :: .int x :: S, σ, u) Q := by
  by_cases h : x < y
  · exact (h1 h).s (WStep.icmpT d (tlt h).1)
  · exact (h2 h).s (WStep.icmpF d (flt h).1)
theorem WGo.ge {x y : Int32} (d : AtJ G.bytes pc (.if_icmp .ge) nx tgt) (h1 : ¬ x < y → WGo G (tgt, L, S, σ, u) Q) (h2 : x < y → WGo G (nx, L, S, σ, u) Q) : WGo G (pc, L, .int y :: .int x :: S, σ, u) Q := by
  by_cases h : x < y
  · exact (h2 h).s (WStep.icmpF d (tlt h).2.1)
  · exact (h1 h).s (WStep.icmpT d (flt h).2.1)
theorem WGo.gt {x y : Int32} (d : AtJ G.bytes pc (.if_icmp .gt) nx tgt) (h1 : y < x → WGo G (tgt, L, S, σ, u) Q) (h2 : ¬ y < x → WGo G (nx, L, S, σ, u) Q) : WGo G (pc, L, .int y :: .int x :: S, σ, u) Q := by
  by_cases h : y < x
  · exact (h1 h).s (WStep.icmpT d (tlt h).2.2.1)
  · exact (h2 h).s (WStep.icmpF d (flt h).2.2.1)
theorem WGo.le {x y : Int32} (d : AtJ G.bytes pc (.if_icmp .le) nx tgt) (h1 : ¬ y < x → WGo G (tgt, L, S, σ, u) Q) (h2 : y < x → WGo G (nx, L, S, σ, u) Q) : WGo G (pc, L, .int y :: .int x :: S, σ, u) Q := by
  by_cases h : y < x
  · exact (h2 h).s (WStep.icmpF d (tlt h).2.2.2)
  · exact (h1 h).s (WStep.icmpT d (flt h).2.2.2)
theorem WGo.eq {x y : Int32} (d : AtJ G.bytes pc (.if_icmp .eq) nx tgt) (h1 : x = y → WGo G (tgt, L, S, σ, u) Q) (h2 : ¬ x = y → WGo G (nx, L, S, σ, u) Q) : WGo G (pc, L, .int y :: .int x :: S, σ, u) Q := by
  by_cases h : x = y
  · exact (h1 h).s (WStep.icmpT d (teq h).1)
  · exact (h2 h).s (WStep.icmpF d (feq h).1)
theorem WGo.eq0 {x : Int32} (d : AtJ G.bytes pc (.ifCond .eq) nx tgt) (h1 : x = 0 → WGo G (tgt, L, S, σ, u) Q) (h2 : ¬ x = 0 → WGo G (nx, L, S, σ, u) Q) : WGo G (pc, L, .int x :: S, σ, u) Q := by
  by_cases h : x = 0
  · exact (h1 h).s (WStep.ifT d (teq h).1)
  · exact (h2 h).s (WStep.ifF d (feq h).1)
theorem WGo.ne {x y : Int32} (d : AtJ G.bytes pc (.if_icmp .ne) nx tgt) (h1 : ¬ x = y → WGo G (tgt, L, S, σ, u) Q) (h2 : x = y → WGo G (nx, L, S, σ, u) Q) : WGo G (pc, L, .int y :: .int x :: S, σ, u) Q := by
  by_cases h : x = y
  · exact (h2 h).s (WStep.icmpF d (teq h).2)
  · exact (h1 h).s (WStep.icmpT d (feq h).2)
end Forks
end Jvm.Sy
namespace Jvm.Sy
open Jvm Jvm.ClassFile Sem Op Lib Jvm.Free Jvm.Stand Jvm.LawKit Jvm.RoadKit Bundle
def entL : List Value → List Slot
  | [] => []
  | v :: r => if v.category = 2 then .val v :: .second :: entL r else .val v :: entL r
def entryL (args : List Value) (maxL : Nat) : List Slot := entL args ++ List.replicate (maxL - (entL args).length) .unset
theorem fill_eq {ρ : Nat → Nat} : ∀ (args : List Value) (acc : Array Slot), (gS ρ args).foldl (fun acc v => if v.category = 2 then (acc.push (.val v)).push .second else acc.push (.val v)) acc = acc ++ ((entL args).map (gs ρ)).toArray
  | [], acc => by simp [gS, entL]
  | v :: r, acc => by
    have ih := fill_eq (ρ := ρ) r
    simp only [gS, List.map_cons, List.foldl_cons, cat_gv] at ih ⊢
    rw [ih]
    by_cases q : v.category = 2
    · simp [entL, q, gs]
    · simp [entL, q, gs]
theorem entry_eq {ρ : Nat → Nat} (args : List Value) (maxL : Nat) : argsToLocals (gS ρ args).toArray maxL = gL ρ (entryL args maxL) := by
  have h := fill_eq (ρ := ρ) args #[]
  simp only [argsToLocals, List.foldl_toArray', List.size_toArray] at *
  rw [h]
  simp [gL, entryL, gs]
theorem entryF_eq {ρ : Nat → Nat} (m : MethodId) (args : List Value) (maxL : Nat) : entryFrame m (gS ρ args).toArray maxL = mkF m 0 (gL ρ (entryL args maxL)) [] := by
  show ({ method := m, pc := 0, locals := argsToLocals _ maxL, stack := [], locked := none } : JFrame) = _
  rw [entry_eq]
section Ret
variable {G : WMC} {pc nx u : Nat} {L : List Slot} {S : List Value} {σ : WHp} {Q : Option Value → WHp → Nat → Prop}
theorem WRun.of {v : Option Value} {A : WCfg} (h0 : G.ret = none → v = none)
    (h : ∀ {p : Program} {l : Launch} {e : Env} {R : Room} {s : State} {m : MethodId} {args : Array Value} {below : List Frame} {meth : Method} {c : Code} {T : State} {locs : List Loc} {ce sl : Nat}, WCtx G p R s m meth c → Stand p l e R s m args below meth c T locs ce sl →
      ∀ fs, (∀ (f : JFrame) (acts : List Action), f.method = m → f.locked = none → f.entered = [] → (doReturn e (T.setTop f) acts (v.map (gv G.ρ))).1 = T.setFrames fs) → Steps p.tables e below (T.setTop (frm G m A)) (T.setFrames fs)) :
    WRun G A v A.2.2.2.1 A.2.2.2.2 := by
  refine ⟨Nat.le_refl _, Nat.le_refl _, h0, fun p l e R s m args below meth c hC hc hs T hT => ⟨T, hT, fun fs hr => ?_⟩⟩
  obtain ⟨locs, ce, sl, h1, h2, X, D, N⟩ := hT
  exact h hC X fs hr
theorem WGo.ireturn (t : FieldType) {z : Int32} (d : AtI G.bytes pc .ireturn 1 nx) (hret : G.ret = some t) (ht : t = .int ∨ t = .boolean ∨ t = .byte ∨ t = .char ∨ t = .short) (q : Q (some (narrow t (.int z))) σ u) : WGo G (pc, L, .int z :: S, σ, u) Q := by
  refine ⟨_, _, _, q, WRun.of (A := (pc, L, .int z :: S, σ, u)) (fun h => by rw [hret] at h; cases h) fun hC X fs hr => ?_⟩
  have hm := hC.2.2.2.2.2.1.trans hret
  rcases ht with rfl | ht
  · exact retOut X hC.1 hm rfl (Or.inl ⟨rfl, Or.inl rfl, _, rfl⟩) (hb hC.2.1 d.1) hr
  · have hn : narrow t (.int z) = .int (nar t z) := by rcases ht with rfl | rfl | rfl | rfl <;> rfl
    rw [hn] at hr
    exact retN X hC.1 hm ht (hb hC.2.1 d.1) hr
theorem WGo.vreturn (d : AtI G.bytes pc .return_ 1 nx) (hret : G.ret = none) (q : Q none σ u) : WGo G (pc, L, [], σ, u) Q := by
  refine ⟨_, _, _, q, WRun.of (A := (pc, L, [], σ, u)) (fun _ => rfl) fun hC X fs hr => ?_⟩
  exact X.returnOut hC.1 (hC.2.2.2.2.2.1.trans hret) (hb hC.2.1 d.1) hr
end Ret
theorem met_of {l : Launch} {G : WMC} {y : MethodName} {argsL : List Value} {σ σ' : WHp} {u u' : Nat} {v : Option Value} {ws : List Jvm.Cond} {h : Heap}
    (hy1 : G.own = y.cls) (hy2 : G.nm = y.name) (hj : G.j0 = σ.length) (hu : G.u0 = u) (hpl : plainFor y = true) (hρ : ∀ k, k < 1000 → G.ρ k = G.n0 + k) (hinj : ∀ i j, G.ρ i = G.ρ j → i = j)
    (H : WRun G (0, entryL argsL G.ml, [], σ, u) v σ' u') (D : WDen G.Z G.ρ G.n0 σ h) (RM : Room) (hR1 : G.fr ≤ RM.frames) (hR2 : σ'.length - σ.length ≤ RM.cells) (hR3 : u' - u ≤ RM.slots) (hR4 : G.lo ≤ RM.locals) :
    MetFree l y (head1 (Jvm.Cond.code y G.bytes G.ml G.ret :: ws) RM) (fun a U => a = (gS G.ρ argsL).toArray ∧ G.Z.Warmed39 U.vm ∧ U.heap = h) (fun _ _ _ _ _ => True)
      (fun _ U o U' => ∃ w L, o = .returned w ∧ (w = v.map (gv G.ρ) ∧ Fr G.n0 L ∧ WDen G.Z G.ρ G.n0 σ' U'.heap) ∧ FrameEnd U o U' L (σ'.length - σ.length) (u' - u)) := by
  refine MetFree.of_bodySF hpl hisR ?_
  intro p e s m args below meth c s₁ Bd hml0 hP hK
  obtain ⟨rfl, hZ, hh⟩ := hP
  have X0 : Stand p l e RM s m (gS G.ρ argsL).toArray below meth c s₁ [] 0 0 := Stand.of_body Bd
  have e0 : s₁.heap = h := by rw [← hh, Bd.state]; rfl
  obtain ⟨a1, a2, a0, a3⟩ := H
  have a1' : σ.length ≤ σ'.length := a1
  have a2' : u ≤ u' := a2
  obtain ⟨T', ⟨locs, ce, sl, q1, q2, X, D', N⟩, st⟩ := a3 p l e RM s m _ below meth c ⟨Bd.exec, Bd.bytes, hZ, by rw [hy1]; exact findClass_of_methodNamed Bd.named, (name_of_methodNamed Bd.named Bd.method).1.trans hy2.symm, Bd.returns, hml0, by rw [hh, hj]; exact D.1, hρ, hinj, hR1, hR4⟩ (by omega) (by omega) s₁ ⟨[], 0, 0, hj.symm, hu.symm, X0, by rw [e0]; exact D, Fr.nil _⟩
  obtain ⟨fs, hr, hrun, hended, hW, hsame⟩ := X.leave (v := v.map (gv G.ρ)) (fun hn => by rw [a0 (Bd.returns ▸ hn)]; rfl)
  refine ⟨_, _, ?_, hrun, hended, _, _, rfl, ⟨rfl, N, D'⟩, ⟨_, rfl⟩, hW, hsame.mono (by omega) (by omega)⟩
  rw [entryF_eq]
  exact st fs hr
def WCallee (Z : State) (a0 : Array Value) (y : MethodName) (Gc : WMC) (n : Nat) : Prop :=
  plainFor y = true ∧ (y.cls ≠ "java/lang/invoke/MethodHandle" ∧ y.cls ≠ "java/lang/invoke/VarHandle") ∧ Gc.own = y.cls ∧ Gc.nm = y.name ∧ Gc.Z = Z ∧ (Jvm.Cond.initialized y.cls).before a0 Z = true ∧ (Jvm.Cond.code y Gc.bytes Gc.ml Gc.ret).before a0 Z = true ∧ (∀ sig, parseMethodDescriptor y.desc = some sig → n = sig.parameters.length)
theorem backFor {p : Program} {l : Launch} {e : Env} {R : Room} {s : State} {args : Array Value} {below : List Frame} {Gc : WMC} {y : MethodName} {a0 : Array Value} {argsL : List Value} {σ σ' : WHp} {u u' W n : Nat} {v : Option Value} {h : Heap}
    (C : WCallee Gc.Z a0 y Gc n) (hj : Gc.j0 = σ.length) (hu : Gc.u0 = u) (hρ : ∀ k, k < 1000 → Gc.ρ k = Gc.n0 + k) (hinj : ∀ i j, Gc.ρ i = Gc.ρ j → i = j)
    (H : WRun Gc (0, entryL argsL Gc.ml, [], σ, u) v σ' u') (D : WDen Gc.Z Gc.ρ Gc.n0 σ h) (hZ : Gc.Z.Warmed39 s.vm) (hf : Gc.fr + 1 ≤ R.frames) (hl : W + (Gc.ml + 11) + Gc.lo ≤ R.locals) :
    Back l R p e below s args y 3 W (fun A a => a = (gS Gc.ρ argsL).toArray ∧ A.U.heap = h ∧ A.cells + (σ'.length - σ.length) ≤ R.cells ∧ A.slots + (u' - u) ≤ R.slots)
      (fun A _ w B => ∃ L, (w = v.map (gv Gc.ρ) ∧ Fr Gc.n0 L ∧ WDen Gc.Z Gc.ρ Gc.n0 σ' B.U.heap) ∧ B.locs = A.locs ++ L ∧ B.cells = A.cells + (σ'.length - σ.length) ∧ B.slots = A.slots + (u' - u)) :=
  backOf (rm := { frames := Gc.fr, cells := σ'.length - σ.length, slots := u' - u, locals := Gc.lo }) (Q := fun w h' L => w = v.map (gv Gc.ρ) ∧ Fr Gc.n0 L ∧ WDen Gc.Z Gc.ρ Gc.n0 σ' h') (met_of C.2.2.1 C.2.2.2.1 hj hu C.1 hρ hinj H D _ (Nat.le_refl _) (Nat.le_refl _) (Nat.le_refl _) (Nat.le_refl _)) hZ C.2.2.2.2.2.2.1 C.2.2.2.2.2.1 hf hl
theorem toL {ρ : Nat → Nat} (v : Option Value) (S : List Value) : gS ρ (v.toList ++ S) = (v.map (gv ρ)).toList ++ gS ρ S := by cases v <;> rfl
section Calls
variable {G Gc : WMC} {pc nx u idx n : Nat} {L : List Slot} {S Sf argsL : List Value} {σ : WHp} {Q Qc : Option Value → WHp → Nat → Prop} {y : MethodName} {a0 : Array Value}
theorem WGo.callS (d : AtI G.bytes pc (.invokestatic idx) 3 nx) (C : WCallee G.Z a0 y Gc n) (wl : (Jvm.Cond.methodLink G.own idx y).before a0 G.Z = true) (ws : (Jvm.Cond.static y).before a0 G.Z = true)
    (H : WGo Gc (0, entryL argsL Gc.ml, [], σ, u) Qc) (hG : Gc.1 = G.1) (hj : Gc.j0 = σ.length) (hu : Gc.u0 = u) (hn : argsL.length = n) (hS : Sf = argsL.reverse ++ S) (hL : L.length = G.ml) (hf : Gc.fr + 1 ≤ G.fr) (hl : (S.map Value.category).sum + (Gc.ml + 11) + Gc.lo ≤ G.lo)
    (K : ∀ v σ' u', Qc v σ' u' → WGo G (nx, L, v.toList ++ S, σ', u') Q) : WGo G (pc, L, Sf, σ, u) Q := by
  obtain ⟨v, σ', u', q, r⟩ := H
  refine (K v σ' u' q).s ?_
  have m1 : σ.length ≤ σ'.length := r.1
  have m2 : u ≤ u' := r.2.1
  refine ⟨m1, m2, fun p l e R s m args below meth c hC hc hs T hT => ?_⟩
  obtain ⟨hx, hby, hZ, hown, hnm, hret, hml, hs0, hρ, hinj, hfr, hlo⟩ := hC
  obtain ⟨locs, ce, sl, h1, h2, X, D, N⟩ := hT
  have eZ : Gc.Z = G.Z := congrArg (·.1) hG
  have eρ : Gc.ρ = G.ρ := congrArg (·.2.1) hG
  have en : Gc.n0 = G.n0 := congrArg (·.2.2) hG
  have h1' : σ.length = G.j0 + ce := h1
  have h2' : u = G.u0 + sl := h2
  have hc' : σ'.length ≤ G.j0 + R.cells := hc
  have hs' : u' ≤ G.u0 + R.slots := hs
  have Bk := backFor (p := p) (l := l) (e := e) (R := R) (s := s) (args := args) (below := below) (W := (S.map Value.category).sum) (eZ ▸ C) hj hu (by rw [eρ, en]; exact hρ) (by rw [eρ]; exact hinj) r (by rw [eZ, eρ, en]; exact D) (by rw [eZ]; exact hZ) (Nat.le_trans hf hfr) (Nat.le_trans hl hlo)
  obtain ⟨C1, C2, C3, C4, C5, C6, C7, C8⟩ := C
  rw [eρ, en, eZ] at Bk
  obtain ⟨w, vm1, ⟨T', L', k', n'⟩, -, X', ⟨Lc, ⟨hw', N', D'⟩, l', y', z'⟩, st⟩ := Jvm.LawKit.callS X hx (y := y) hown (mvT hZ wl) (mvT hZ ws) (mvT hZ C6) (mvT hZ C7) C2 Bk (g := frm G m (pc, L, Sf, σ, u)) rfl (by show (gL _ L).size = _; rw [gL_size, hL, hml]) (argsL := gS G.ρ argsL) (rest := gS G.ρ S)
    (fun sig hsig => by rw [← C8 sig hsig, ← hn]; simp [gS]) (by show gS _ Sf = _; rw [hS]; simp [gS]) (by rw [sum_gS]; show 2 * 0 + _ ≤ _; omega) (hb hby d.1) (fun _ _ => ⟨rfl, rfl, by show ce + _ ≤ _; omega, by show sl + _ ≤ _; omega⟩)
  dsimp only [Pt.U, Pt.locs, Pt.cells, Pt.slots] at X' l' y' z' st D'
  subst l' y' z' hw'
  refine ⟨T', ⟨_, _, _, ?_, ?_, X', D', N.app N'⟩, fun t k => st t ?_⟩
  · show σ'.length = _; omega
  · show u' = _; omega
  · rw [← toL]
    have := d.2
    subst this
    exact k
theorem WGo.callI {k : Nat} (d : AtI G.bytes pc (.invokespecial idx) 3 nx) (C : WCallee G.Z a0 y Gc n) (hi : y.name = "<init>") (hr : Gc.ret = none) (wl : (Jvm.Cond.methodLink G.own idx y).before a0 G.Z = true) (ws : (Jvm.Cond.instanceMethod y).before a0 G.Z = true) (hk : k < 1000)
    (H : WGo Gc (0, entryL (.ref k :: argsL) Gc.ml, [], σ, u) Qc) (hG : Gc.1 = G.1) (hj : Gc.j0 = σ.length) (hu : Gc.u0 = u) (hn : argsL.length = n) (hS : Sf = argsL.reverse ++ .ref k :: S) (hL : L.length = G.ml) (hf : Gc.fr + 1 ≤ G.fr) (hl : (S.map Value.category).sum + (Gc.ml + 11) + Gc.lo ≤ G.lo)
    (K : ∀ v σ' u', Qc v σ' u' → WGo G (nx, L, v.toList ++ S, σ', u') Q) : WGo G (pc, L, Sf, σ, u) Q := by
  obtain ⟨v, σ', u', q, r⟩ := H
  refine (K v σ' u' q).s ?_
  have m1 : σ.length ≤ σ'.length := r.1
  have m2 : u ≤ u' := r.2.1
  refine ⟨m1, m2, fun p l e R s m args below meth c hC hc hs T hT => ?_⟩
  obtain ⟨hx, hby, hZ, hown, hnm, hret, hml, hs0, hρ, hinj, hfr, hlo⟩ := hC
  obtain ⟨locs, ce, sl, h1, h2, X, D, N⟩ := hT
  have eZ : Gc.Z = G.Z := congrArg (·.1) hG
  have eρ : Gc.ρ = G.ρ := congrArg (·.2.1) hG
  have en : Gc.n0 = G.n0 := congrArg (·.2.2) hG
  have h1' : σ.length = G.j0 + ce := h1
  have h2' : u = G.u0 + sl := h2
  have hc' : σ'.length ≤ G.j0 + R.cells := hc
  have hs' : u' ≤ G.u0 + R.slots := hs
  have Bk := backFor (p := p) (l := l) (e := e) (R := R) (s := s) (args := args) (below := below) (W := (S.map Value.category).sum) (eZ ▸ C) hj hu (by rw [eρ, en]; exact hρ) (by rw [eρ]; exact hinj) r (by rw [eZ, eρ, en]; exact D) (by rw [eZ]; exact hZ) (Nat.le_trans hf hfr) (Nat.le_trans hl hlo)
  obtain ⟨C1, C2, C3, C4, C5, C6, C7, C8⟩ := C
  rw [hr] at C7
  rw [eρ, en, eZ] at Bk
  obtain ⟨w, vm1, ⟨T', L', k', n'⟩, -, X', ⟨Lc, ⟨hw', N', D'⟩, l', y', z'⟩, st⟩ := X.specialBack hx (y := y) hi hown (mvT hZ wl) (mvT hZ ws) (mvT hZ C7) C2 Bk (g := frm G m (pc, L, Sf, σ, u)) rfl (by show (gL _ L).size = _; rw [gL_size, hL, hml]) (Steps.refl _) (a := G.ρ k) (argsL := gS G.ρ argsL) (rest := gS G.ρ S)
    (fun sig hsig => by rw [← C8 sig hsig, ← hn]; simp [gS]) (by show gS _ Sf = _; rw [hS]; simp [gS, gv]) (by rw [sum_gS]; show 2 * 0 + _ ≤ _; omega) (hb hby d.1) (fun _ _ => ⟨rfl, rfl, by show ce + _ ≤ _; omega, by show sl + _ ≤ _; omega⟩)
  dsimp only [Pt.U, Pt.locs, Pt.cells, Pt.slots] at X' l' y' z' st D'
  subst l' y' z' hw'
  refine ⟨T', ⟨_, _, _, ?_, ?_, X', D', N.app N'⟩, fun t k => st.trans ?_⟩
  · show σ'.length = _; omega
  · show u' = _; omega
  · rw [← toL]
    have := d.2
    subst this
    exact k
theorem WGo.callV {k : Nat} {Cn : String} {fs : List (WKey × Value)} {z : MethodName} (d : AtI G.bytes pc (.invokevirtual idx) 3 nx) (C : WCallee G.Z a0 y Gc n) (hz : z.desc = y.desc ∧ (z.cls ≠ "java/lang/invoke/MethodHandle" ∧ z.cls ≠ "java/lang/invoke/VarHandle")) (wl : (Jvm.Cond.methodLink G.own idx z).before a0 G.Z = true) (wd : (Jvm.Cond.declares z).before a0 G.Z = true) (hnf : ∀ s, G.Z.Warmed39 s.vm → NotFace s z) (wsel : (Jvm.Cond.selects Cn z y).before a0 G.Z = true) (ws : (Jvm.Cond.instanceMethod y).before a0 G.Z = true) (hk : σ[k]? = some (.inr (Cn, fs)))
    (H : WGo Gc (0, entryL (.ref k :: argsL) Gc.ml, [], σ, u) Qc) (hG : Gc.1 = G.1) (hj : Gc.j0 = σ.length) (hu : Gc.u0 = u) (hn : argsL.length = n) (hS : Sf = argsL.reverse ++ .ref k :: S) (hL : L.length = G.ml) (hf : Gc.fr + 1 ≤ G.fr) (hl : (S.map Value.category).sum + (Gc.ml + 11) + Gc.lo ≤ G.lo)
    (K : ∀ v σ' u', Qc v σ' u' → WGo G (nx, L, v.toList ++ S, σ', u') Q) : WGo G (pc, L, Sf, σ, u) Q := by
  obtain ⟨v, σ', u', q, r⟩ := H
  refine (K v σ' u' q).s ?_
  have m1 : σ.length ≤ σ'.length := r.1
  have m2 : u ≤ u' := r.2.1
  refine ⟨m1, m2, fun p l e R s m args below meth c hC hc hs T hT => ?_⟩
  obtain ⟨hx, hby, hZ, hown, hnm, hret, hml, hs0, hρ, hinj, hfr, hlo⟩ := hC
  obtain ⟨locs, ce, sl, h1, h2, X, D, N⟩ := hT
  have eZ : Gc.Z = G.Z := congrArg (·.1) hG
  have eρ : Gc.ρ = G.ρ := congrArg (·.2.1) hG
  have en : Gc.n0 = G.n0 := congrArg (·.2.2) hG
  have h1' : σ.length = G.j0 + ce := h1
  have h2' : u = G.u0 + sl := h2
  have hc' : σ'.length ≤ G.j0 + R.cells := hc
  have hs' : u' ≤ G.u0 + R.slots := hs
  have Bk := backFor (p := p) (l := l) (e := e) (R := R) (s := s) (args := args) (below := below) (W := (S.map Value.category).sum) (eZ ▸ C) hj hu (by rw [eρ, en]; exact hρ) (by rw [eρ]; exact hinj) r (by rw [eZ, eρ, en]; exact D) (by rw [eZ]; exact hZ) (Nat.le_trans hf hfr) (Nat.le_trans hl hlo)
  obtain ⟨C1, C2, C3, C4, C5, C6, C7, C8⟩ := C
  rw [eρ, en, eZ] at Bk
  have hE : Exa G.Z T.heap (G.n0 + k) Cn := (D.2.2 k _ hk).1
  rw [← hρ k (D.lt hk)] at hE
  obtain ⟨cq, kq, qa, qb, qc⟩ := isOf hZ rfl hE
  obtain ⟨w, vm1, ⟨T', L', k', n'⟩, -, X', ⟨Lc, ⟨hw', N', D'⟩, l', y', z'⟩, st⟩ := X.virtualBack hx (y := z) (z := y) hown (mvT hZ wl) (mvT hZ wd) (hnf s hZ) (mvT hZ wsel) (mvT hZ ws) hz.2 Bk qa qc (g := frm G m (pc, L, Sf, σ, u)) rfl (by show (gL _ L).size = _; rw [gL_size, hL, hml]) (Steps.refl _) (argsL := gS G.ρ argsL) (rest := gS G.ρ S)
    (fun sig hsig => by rw [hz.1] at hsig; rw [← C8 sig hsig, ← hn]; simp [gS]) (by show gS _ Sf = _; rw [hS]; simp [gS, gv]) (by rw [sum_gS]; show 2 * 0 + _ ≤ _; omega) (hb hby d.1) (fun _ _ => ⟨rfl, rfl, by show ce + _ ≤ _; omega, by show sl + _ ≤ _; omega⟩)
  dsimp only [Pt.U, Pt.locs, Pt.cells, Pt.slots] at X' l' y' z' st D'
  subst l' y' z' hw'
  refine ⟨T', ⟨_, _, _, ?_, ?_, X', D', N.app N'⟩, fun t k => st.trans ?_⟩
  · show σ'.length = _; omega
  · show u' = _; omega
  · rw [← toL]
    have := d.2
    subst this
    exact k
theorem selP {Z : State} {y : MethodName} {a0 : Array Value} {n : Nat} (wi : (Jvm.Cond.instantiable y.cls n).before a0 Z = true) (ws : (Jvm.Cond.instanceMethod y).before a0 Z = true) (wp : (Jvm.Cond.privateMethod y).before a0 Z = true) (hy : y.cls ≠ "java/lang/invoke/MethodHandle" ∧ y.cls ≠ "java/lang/invoke/VarHandle") : (Jvm.Cond.selects y.cls y y).before a0 Z = true := by
  obtain ⟨c, k, h1, h2, -, h4, -⟩ := Cond.instantiable_spec wi
  rw [Bool.or_eq_false_iff] at h4
  exact selects_self_of_private h1 h2 h4.1 (Cond.privateMethod_at wp) ws hy
theorem WGo.callP {k : Nat} {Cn : String} {fs : List (WKey × Value)} (d : AtI G.bytes pc (.invokevirtual idx) 3 nx) (C : WCallee G.Z a0 y Gc n) (wl : (Jvm.Cond.methodLink G.own idx y).before a0 G.Z = true) (ws : (Jvm.Cond.instanceMethod y).before a0 G.Z = true) (wsel : (Jvm.Cond.selects y.cls y y).before a0 G.Z = true) (wp : (Jvm.Cond.privateMethod y).before a0 G.Z = true) (hk : σ[k]? = some (.inr (Cn, fs)))
    (H : WGo Gc (0, entryL (.ref k :: argsL) Gc.ml, [], σ, u) Qc) (hG : Gc.1 = G.1) (hj : Gc.j0 = σ.length) (hu : Gc.u0 = u) (hn : argsL.length = n) (hS : Sf = argsL.reverse ++ .ref k :: S) (hL : L.length = G.ml) (hf : Gc.fr + 1 ≤ G.fr) (hl : (S.map Value.category).sum + (Gc.ml + 11) + Gc.lo ≤ G.lo)
    (K : ∀ v σ' u', Qc v σ' u' → WGo G (nx, L, v.toList ++ S, σ', u') Q) : WGo G (pc, L, Sf, σ, u) Q := by
  obtain ⟨v, σ', u', q, r⟩ := H
  refine (K v σ' u' q).s ?_
  have m1 : σ.length ≤ σ'.length := r.1
  have m2 : u ≤ u' := r.2.1
  refine ⟨m1, m2, fun p l e R s m args below meth c hC hc hs T hT => ?_⟩
  obtain ⟨hx, hby, hZ, hown, hnm, hret, hml, hs0, hρ, hinj, hfr, hlo⟩ := hC
  obtain ⟨locs, ce, sl, h1, h2, X, D, N⟩ := hT
  have eZ : Gc.Z = G.Z := congrArg (·.1) hG
  have eρ : Gc.ρ = G.ρ := congrArg (·.2.1) hG
  have en : Gc.n0 = G.n0 := congrArg (·.2.2) hG
  have h1' : σ.length = G.j0 + ce := h1
  have h2' : u = G.u0 + sl := h2
  have hc' : σ'.length ≤ G.j0 + R.cells := hc
  have hs' : u' ≤ G.u0 + R.slots := hs
  have Bk := backFor (p := p) (l := l) (e := e) (R := R) (s := s) (args := args) (below := below) (W := (S.map Value.category).sum) (eZ ▸ C) hj hu (by rw [eρ, en]; exact hρ) (by rw [eρ]; exact hinj) r (by rw [eZ, eρ, en]; exact D) (by rw [eZ]; exact hZ) (Nat.le_trans hf hfr) (Nat.le_trans hl hlo)
  obtain ⟨C1, C2, C3, C4, C5, C6, C7, C8⟩ := C
  rw [eρ, en, eZ] at Bk
  have hE : Exa G.Z T.heap (G.n0 + k) Cn := (D.2.2 k _ hk).1
  rw [← hρ k (D.lt hk)] at hE
  obtain ⟨cq, e1, e2⟩ := hE.cell
  obtain ⟨w, vm1, ⟨T', L', k', n'⟩, -, X', ⟨Lc, ⟨hw', N', D'⟩, l', y', z'⟩, st⟩ := X.privateBack hx (y := y) hown (mvT hZ wl) (mvT hZ ws) (mvT hZ wsel) (Cond.privateMethod_at (mvP hZ wp (args := #[]))) (mvT hZ C7) C2 Bk (g := frm G m (pc, L, Sf, σ, u)) rfl (by show (gL _ L).size = _; rw [gL_size, hL, hml]) (Steps.refl _) (a := G.ρ k) e1 e2 (argsL := gS G.ρ argsL) (rest := gS G.ρ S)
    (fun sig hsig => by rw [← C8 sig hsig, ← hn]; simp [gS]) (by show gS _ Sf = _; rw [hS]; simp [gS, gv]) (by rw [sum_gS]; show 2 * 0 + _ ≤ _; omega) (hb hby d.1) (fun _ _ => ⟨rfl, rfl, by show ce + _ ≤ _; omega, by show sl + _ ≤ _; omega⟩)
  dsimp only [Pt.U, Pt.locs, Pt.cells, Pt.slots] at X' l' y' z' st D'
  subst l' y' z' hw'
  refine ⟨T', ⟨_, _, _, ?_, ?_, X', D', N.app N'⟩, fun t k => st.trans ?_⟩
  · show σ'.length = _; omega
  · show u' = _; omega
  · rw [← toL]
    have := d.2
    subst this
    exact k
end Calls
end Jvm.Sy
namespace Jvm.Sy
open Jvm Jvm.ClassFile Sem Op Lib Jvm.Free Jvm.Stand Jvm.LawKit Jvm.RoadKit Bundle
def LaidAll (Z : State) (a0 : Array Value) (C : String) : List (WKey × Value) → Prop
  | [] => True
  | f :: r => (Laid Z a0 C f.1.1 f.1.2.1 f.1.2.2 ∧ ∃ ty, parseFieldDescriptor f.1.2.2 = some ty ∧ f.2 = defaultValue ty) ∧ LaidAll Z a0 C r
theorem LaidAll.at {Z : State} {a0 : Array Value} {C : String} : ∀ {fs : List (WKey × Value)}, LaidAll Z a0 C fs → ∀ {i : Nat} {f : WKey × Value}, fs[i]? = some f → Laid Z a0 C f.1.1 f.1.2.1 f.1.2.2 ∧ ∃ ty, parseFieldDescriptor f.1.2.2 = some ty ∧ f.2 = defaultValue ty
  | [], _, i, f, h => by simp at h
  | g :: r, H, 0, f, h => by simp at h; subst h; exact H.1
  | g :: r, H, i + 1, f, h => LaidAll.at H.2 (i := i) (by simpa using h)
section HeapOps
variable {G : WMC} {pc nx tgt u idx k i n : Nat} {L : List Slot} {S : List Value} {σ : WHp} {a0 : Array Value} {v w : Value} {j : Int32} {vs : List Value} {ty : FieldType} {fs : List (WKey × Value)} {C O nm dd K : String}
theorem WStep.ldc {z : Int32} (d : AtI G.bytes pc (.ldc idx) 2 nx) (wd : (Jvm.Cond.constant G.own idx z).before a0 G.Z = true) : WStep G (pc, L, S, σ, u) (nx, L, .int z :: S, σ, u) := by
  refine ⟨Nat.le_refl _, Nat.le_refl _, fun p l e R s m args below meth c hC hc hs T hT => ?_⟩
  obtain ⟨hx, hby, hZ, hown, hnm, hret, hml, hs0, hρ, hinj, hfr, hlo⟩ := hC
  obtain ⟨locs, ce, sl, h1, h2, X, D, N⟩ := hT
  obtain ⟨d, rfl⟩ := d
  exact ⟨T, ⟨locs, ce, sl, h1, h2, X, D, N⟩, X.ldcInt hx hown (mvT hZ wd) (g := frm G m (pc, L, S, σ, u)) rfl (hb hby d)⟩
theorem WStep.ldcw {z : Int32} (d : AtI G.bytes pc (.ldc_w idx) 3 nx) (wd : (Jvm.Cond.constant G.own idx z).before a0 G.Z = true) : WStep G (pc, L, S, σ, u) (nx, L, .int z :: S, σ, u) := by
  refine ⟨Nat.le_refl _, Nat.le_refl _, fun p l e R s m args below meth c hC hc hs T hT => ?_⟩
  obtain ⟨hx, hby, hZ, hown, hnm, hret, hml, hs0, hρ, hinj, hfr, hlo⟩ := hC
  obtain ⟨locs, ce, sl, h1, h2, X, D, N⟩ := hT
  obtain ⟨d, rfl⟩ := d
  exact ⟨T, ⟨locs, ce, sl, h1, h2, X, D, N⟩, X.ldcwInt hx hown (mvT hZ wd) (g := frm G m (pc, L, S, σ, u)) rfl (hb hby d)⟩
theorem WStep.initO (d : AtI G.bytes pc (.invokespecial idx) 3 nx) (w1 : (Jvm.Cond.methodLink G.own idx Lib.objectInit).before a0 G.Z = true) (w2 : (Jvm.Cond.instanceMethod Lib.objectInit).before a0 G.Z = true) (w3 : (Jvm.Cond.code Lib.objectInit ⟨#[0xb1]⟩ 1 none).before a0 G.Z = true)
    (hL : L.length = G.ml) (hf : 1 ≤ G.fr) (hl : (S.map Value.category).sum + 12 ≤ G.lo) : WStep G (pc, L, .ref k :: S, σ, u) (nx, L, S, σ, u) := by
  refine ⟨Nat.le_refl _, Nat.le_refl _, fun p l e R s m args below meth c hC hc hs T hT => ?_⟩
  obtain ⟨hx, hby, hZ, hown, hnm, hret, hml, hs0, hρ, hinj, hfr, hlo⟩ := hC
  obtain ⟨locs, ce, sl, h1, h2, X, D, N⟩ := hT
  obtain ⟨d, rfl⟩ := d
  obtain ⟨T', X', e', st⟩ := RoadKit.initO X hx hZ hown w1 w2 w3 rfl (g := frm G m (pc, L, .ref k :: S, σ, u)) rfl (by show (gL _ L).size = _; rw [gL_size, hL, hml]) rfl (hb hby d) (Nat.le_trans hf hfr) (W := (S.map Value.category).sum) (by have := sum_gS (ρ := G.ρ) S; unfold gS at this; rw [this]; show 2 * 0 + _ ≤ _; omega) (Nat.le_trans hl hlo)
  exact ⟨T', ⟨locs, ce, sl, h1, h2, X', by rw [e']; exact D, N⟩, st⟩
theorem WStep.getF (i : Nat) (d : AtI G.bytes pc (.getfield idx) 3 nx) (wd : (Jvm.Cond.fieldLink G.own idx O nm dd).before a0 G.Z = true) (hk : σ[k]? = some (.inr (C, fs))) (hi : fs[i]? = some ((O, nm, dd), v)) : WStep G (pc, L, .ref k :: S, σ, u) (nx, L, v :: S, σ, u) := by
  refine ⟨Nat.le_refl _, Nat.le_refl _, fun p l e R s m args below meth c hC hc hs T hT => ?_⟩
  obtain ⟨hx, hby, hZ, hown, hnm, hret, hml, hs0, hρ, hinj, hfr, hlo⟩ := hC
  obtain ⟨locs, ce, sl, h1, h2, X, D, N⟩ := hT
  obtain ⟨d, rfl⟩ := d
  have hko : ObjOk G.Z G.ρ T.heap (G.n0 + k) C fs := D.2.2 k _ hk
  have F := hko.2.1 i _ _ _ _ hi
  rw [← hρ k (D.lt hk)] at F
  obtain ⟨T', X', e', st⟩ := RoadKit.getF X hx hZ hown (host := "") (Or.inl wd) Via.refl rfl F (g := frm G m (pc, L, .ref k :: S, σ, u)) rfl rfl (hb hby d)
  exact ⟨T', ⟨locs, ce, sl, h1, h2, X', by rw [e']; exact D, N⟩, st⟩
theorem WStep.putF (i : Nat) (v' : Value) (d : AtI G.bytes pc (.putfield idx) 3 nx) (wd : (Jvm.Cond.fieldLink G.own idx O nm dd).before a0 G.Z = true) (hk : σ[k]? = some (.inr (C, fs))) (hi : fs[i]? = some ((O, nm, dd), w))
    (hlay : (Jvm.Cond.lays C O nm dd).before a0 G.Z = true ∨ ((Jvm.Cond.laysFinal C O nm dd).before a0 G.Z = true ∧ G.own = O ∧ G.nm = "<init>")) (wi : (Jvm.Cond.instantiable C n).before a0 G.Z = true) (hty : parseFieldDescriptor dd = some ty) (hn : narrow ty v = v') (hf : fits ty v' = true) :
    WStep G (pc, L, v :: .ref k :: S, σ, u) (nx, L, S, σ.set k (.inr (C, fs.set i ((O, nm, dd), v'))), u) := by
  refine ⟨by simp, Nat.le_refl _, fun p l e R s m args below meth c hC hc hs T hT => ?_⟩
  obtain ⟨hx, hby, hZ, hown, hnm, hret, hml, hs0, hρ, hinj, hfr, hlo⟩ := hC
  obtain ⟨locs, ce, sl, h1, h2, X, D, N⟩ := hT
  obtain ⟨d, rfl⟩ := d
  have hko : ObjOk G.Z G.ρ T.heap (G.n0 + k) C fs := D.2.2 k _ hk
  obtain ⟨E, Fs, hNe⟩ := hko
  have F := Fs i _ _ _ _ hi
  have hρk := hρ k (D.lt hk)
  obtain ⟨T', h', X', e', W, st⟩ := putFN X hx hZ hown (v := gv G.ρ v) (v' := gv G.ρ v') wd Via.refl rfl F E (hlay.imp id fun q => ⟨q.1, q.2.1, hnm.trans q.2.2⟩) wi hty (by rw [narrow_gv, hn]) (by rw [fits_gv, hf]) (g := frm G m (pc, L, v :: .ref k :: S, σ, u)) rfl (by show gv _ v :: Value.ref (G.ρ k) :: _ = _; rw [hρk]) (hb hby d)
  subst e'
  refine ⟨T', ⟨_, ce, sl, by simpa using h1, h2, X', D.put W ?_, N.app fun y hy => by cases List.mem_singleton.mp hy; exact Nat.le_add_right _ _⟩, st⟩
  have hlt := (List.getElem?_eq_some_iff.mp hi).1
  refine ⟨E.wr W, fun i' O' n' d' y hy => ?_, fun i1 i2 k1 k2 v1 v2 ne q1 q2 => ?_⟩
  · by_cases q : i' = i
    · subst q
      rw [List.getElem?_set_self hlt] at hy
      cases hy
      exact F.same W
    · rw [List.getElem?_set_ne (Ne.symm q)] at hy
      have hne : RoadKit.slotOf G.Z O' n' d' ≠ RoadKit.slotOf G.Z O nm dd := hNe i' i (O', n', d') (O, nm, dd) y w q hy hi
      exact (Fs i' O' n' d' y hy).other W (Or.inr hne)
  · have key : ∀ {i' : Nat} {k' : WKey} {v' : Value}, (fs.set i ((O, nm, dd), v'))[i']? = some (k', v1) → ∃ v'', fs[i']? = some (k', v'') := by
      intro i' k' v' hh
      by_cases q : i' = i
      · subst q
        rw [List.getElem?_set_self hlt] at hh
        cases hh
        exact ⟨_, hi⟩
      · rw [List.getElem?_set_ne (fun z => q z.symm)] at hh
        exact ⟨_, hh⟩
    have key2 : ∀ {i' : Nat} {k' : WKey} {v' : Value}, (fs.set i ((O, nm, dd), v'))[i']? = some (k', v2) → ∃ v'', fs[i']? = some (k', v'') := by
      intro i' k' v' hh
      by_cases q : i' = i
      · subst q
        rw [List.getElem?_set_self hlt] at hh
        cases hh
        exact ⟨_, hi⟩
      · rw [List.getElem?_set_ne (fun z => q z.symm)] at hh
        exact ⟨_, hh⟩
    obtain ⟨_, r1⟩ := key q1
    obtain ⟨_, r2⟩ := key2 q2
    exact hNe i1 i2 _ _ _ _ ne r1 r2
theorem WStep.newO (fs : List (WKey × Value)) (d : AtI G.bytes pc (.new idx) 3 nx) (w1 : (Jvm.Cond.classLink G.own idx C).before a0 G.Z = true) (w2 : (Jvm.Cond.instantiable C n).before a0 G.Z = true) (w3 : (Jvm.Cond.initialized C).before a0 G.Z = true)
    (hfs : LaidAll G.Z a0 C fs) (hnd : (fs.map fun f => f.1.2.1).Nodup) (hlen : σ.length = k) (hk : k < 1000) : WStep G (pc, L, S, σ, u) (nx, L, .ref k :: S, σ ++ [.inr (C, fs)], u + n) := by
  refine ⟨by simp, Nat.le_add_right _ _, fun p l e R s m args below meth c hC hc hs T hT => ?_⟩
  obtain ⟨hx, hby, hZ, hown, hnm, hret, hml, hs0, hρ, hinj, hfr, hlo⟩ := hC
  obtain ⟨locs, ce, sl, h1, h2, X, D, N⟩ := hT
  obtain ⟨d, rfl⟩ := d
  subst hlen
  have h1' : σ.length = G.j0 + ce := h1
  have h2' : u = G.u0 + sl := h2
  have hc' : σ.length + 1 ≤ G.j0 + R.cells := by simpa using hc
  have hs' : u + n ≤ G.u0 + R.slots := hs
  have eS : T.heap.size = G.n0 + σ.length := D.1
  obtain ⟨T', h', X', e', E, A, Dv, -, st⟩ := RoadKit.newO X hx hZ hown w1 w2 w3 rfl (g := frm G m (pc, L, S, σ, u)) rfl (hb hby d) (by omega) (by omega)
  subst e'
  have hsz : T'.heap.size = T.heap.size + 1 := by
    have a1 := X'.heapSize
    have a2 : T.heap.size < T'.heap.size := A.lt
    have a3 : s.heap.size = G.n0 + G.j0 := hs0
    omega
  rw [eS] at A Dv
  have eρ : G.ρ σ.length = T.heap.size := by rw [hρ _ hk, eS]
  refine ⟨T', ⟨locs, ce + 1, sl + n, by simp; omega, by show u + n = _; omega, X', D.push E hsz hk ⟨A, fun i O' n' d' y hy => ?_, fun i1 i2 k1 k2 v1 v2 ne q1 q2 => ?_⟩, N⟩, fun t kt => st t ?_⟩
  · obtain ⟨LL, ty, p1, p2⟩ := hfs.at hy
    have := Dv LL p1
    dsimp only at p2
    rw [p2, dv_gv]
    exact this
  · obtain ⟨LL, ty, p1, p2⟩ := hfs.at q1
    obtain ⟨LL', ty', p1', p2'⟩ := hfs.at q2
    refine slot_ne LL LL' (fun e => ne ?_) p1 p1'
    have b1 := (List.getElem?_eq_some_iff.mp q1).1
    have b2 := (List.getElem?_eq_some_iff.mp q2).1
    refine (List.getElem?_inj (l := fs.map fun f => f.1.2.1) (i := i1) (j := i2) (by simpa using b1) hnd).mp ?_
    rw [List.getElem?_map, List.getElem?_map, q1, q2]
    exact congrArg some e
  · rw [← eρ]; exact kt
theorem WStep.newP {aty : ArrayType} (n : Int32) (m : Nat) (d : AtI G.bytes pc (.newarray aty) 2 nx) (w1 : (Jvm.Cond.arrayClass (newarray.typeOf aty)).before a0 G.Z = true) (hn : ¬ n < 0) (hm : n.toNatClampNeg = m) (hb8 : m * 8 ≤ 536870912) (hlen : σ.length = k) (hk : k < 1000) :
    WStep G (pc, L, .int n :: S, σ, u) (nx, L, .ref k :: S, σ ++ [.inl (newarray.typeOf aty, List.replicate m (defaultValue (newarray.typeOf aty)))], u + m) := by
  refine ⟨by simp, Nat.le_add_right _ _, fun p l e R s me args below meth c hC hc hs T hT => ?_⟩
  obtain ⟨hx, hby, hZ, hown, hnm, hret, hml, hs0, hρ, hinj, hfr, hlo⟩ := hC
  obtain ⟨locs, ce, sl, h1, h2, X, D, N⟩ := hT
  obtain ⟨d, rfl⟩ := d
  subst hlen
  have h1' : σ.length = G.j0 + ce := h1
  have h2' : u = G.u0 + sl := h2
  have hc' : σ.length + 1 ≤ G.j0 + R.cells := by simpa using hc
  have hs' : u + m ≤ G.u0 + R.slots := hs
  have eS : T.heap.size = G.n0 + σ.length := D.1
  obtain ⟨T', h', cA, X', e', E, A, st⟩ := RoadKit.newP X hx hZ w1 rfl (g := frm G me (pc, L, .int n :: S, σ, u)) rfl (hb hby d) rfl hn (cap := m) (by omega) hb8 (by omega) (by omega)
  subst e'
  have hsz : T'.heap.size = T.heap.size + 1 := by
    have a1 := X'.heapSize
    have a2 : T.heap.size < T'.heap.size := A.lt
    have a3 : s.heap.size = G.n0 + G.j0 := hs0
    omega
  rw [eS] at A
  have eρ : G.ρ σ.length = T.heap.size := by rw [hρ _ hk, eS]
  refine ⟨T', ⟨locs, ce + 1, sl + m, by simp; omega, by show u + m = _; omega, X', D.push E hsz hk ⟨_, A, ?_, ?_, ?_⟩, N⟩, fun t kt => st t ?_⟩
  · simp [newA, hm, dv_gv]
  · intro C hC; cases aty <;> cases hC
  · intro y hy
    rw [List.eq_of_mem_replicate hy]
    cases aty <;> rfl
  · rw [← eρ]; exact kt
theorem WStep.alen (z : Int32) (d : AtI G.bytes pc .arraylength 1 nx) (hk : σ[k]? = some (.inl (ty, vs))) (hz : vs.length.toInt32 = z) : WStep G (pc, L, .ref k :: S, σ, u) (nx, L, .int z :: S, σ, u) := by
  refine ⟨Nat.le_refl _, Nat.le_refl _, fun p l e R s m args below meth c hC hc hs T hT => ?_⟩
  obtain ⟨hx, hby, hZ, hown, hnm, hret, hml, hs0, hρ, hinj, hfr, hlo⟩ := hC
  obtain ⟨locs, ce, sl, h1, h2, X, D, N⟩ := hT
  obtain ⟨d, rfl⟩ := d
  obtain ⟨cl, A, eC, -⟩ : ArrOk G.Z G.ρ T.heap (G.n0 + k) ty vs := D.2.2 k _ hk
  rw [← hρ k (D.lt hk)] at A
  refine ⟨T, ⟨locs, ce, sl, h1, h2, X, D, N⟩, fun t kt => X.arraylength hx A.1 (State.isArrayOf_alike hZ.alike A.2.1) (g := frm G m (pc, L, .ref k :: S, σ, u)) rfl rfl (hb hby d) t ?_⟩
  rw [ArrOk.size (ty := ty) eC, hz]
  exact kt
theorem WStep.iaload (i : Nat) (d : AtI G.bytes pc .iaload 1 nx) (hk : σ[k]? = some (.inl (.int, vs))) (hj : ¬ j < 0) (hi : j.toNatClampNeg = i) (hv : vs[i]? = some v) : WStep G (pc, L, .int j :: .ref k :: S, σ, u) (nx, L, v :: S, σ, u) := by
  refine ⟨Nat.le_refl _, Nat.le_refl _, fun p l e R s m args below meth c hC hc hs T hT => ?_⟩
  obtain ⟨hx, hby, hZ, hown, hnm, hret, hml, hs0, hρ, hinj, hfr, hlo⟩ := hC
  obtain ⟨locs, ce, sl, h1, h2, X, D, N⟩ := hT
  obtain ⟨d, rfl⟩ := d
  obtain ⟨cl, A, eC, -⟩ : ArrOk G.Z G.ρ T.heap (G.n0 + k) .int vs := D.2.2 k _ hk
  rw [← hρ k (D.lt hk)] at A
  have hlt := (List.getElem?_eq_some_iff.mp hv).1
  exact ⟨T, ⟨locs, ce, sl, h1, h2, X, D, N⟩, fun t kt => X.iaload hx (j := j) (v := gv G.ρ v) A.1 (State.isArrayOf_alike hZ.alike A.2.1) A.2.2 (fun q => q.elim hj fun q => by rw [ArrOk.size (ty := .int) eC, hi] at q; omega) (by rw [hi]; exact ArrOk.at eC hv) (g := frm G m (pc, L, .int j :: .ref k :: S, σ, u)) rfl rfl (hb hby d) t kt⟩
theorem WStep.iastore {z : Int32} (i : Nat) (d : AtI G.bytes pc .iastore 1 nx) (hk : σ[k]? = some (.inl (.int, vs))) (hj : ¬ j < 0) (hi : j.toNatClampNeg = i) (hlt : i < vs.length) : WStep G (pc, L, .int z :: .int j :: .ref k :: S, σ, u) (nx, L, S, σ.set k (.inl (.int, vs.set i (.int z))), u) := by
  refine ⟨by simp, Nat.le_refl _, fun p l e R s m args below meth c hC hc hs T hT => ?_⟩
  obtain ⟨hx, hby, hZ, hown, hnm, hret, hml, hs0, hρ, hinj, hfr, hlo⟩ := hC
  obtain ⟨locs, ce, sl, h1, h2, X, D, N⟩ := hT
  obtain ⟨d, rfl⟩ := d
  obtain ⟨cl, A, eC, hO, hF⟩ : ArrOk G.Z G.ρ T.heap (G.n0 + k) .int vs := D.2.2 k _ hk
  have hρk := hρ k (D.lt hk)
  obtain ⟨T', h', X', e', W, st⟩ := stI X hx hZ rfl A (j := j) (x := z) (fun q => q.elim hj fun q => by rw [ArrOk.size (ty := .int) eC, hi] at q; omega) (g := frm G m (pc, L, .int z :: .int j :: .ref k :: S, σ, u)) rfl (by show _ :: _ :: Value.ref (G.ρ k) :: _ = _; rw [hρk]; rfl) (hb hby d)
  subst e'
  rw [hi] at W
  exact ⟨T', ⟨_, ce, sl, by simpa using h1, h2, X', D.put W (ArrOk.set (w := .int z) A eC hO hF W (rfl)), N.app fun y hy => by cases List.mem_singleton.mp hy; exact Nat.le_add_right _ _⟩, st⟩
end HeapOps
end Jvm.Sy

namespace Jvm.Sy
open Jvm Jvm.RoadKit
abbrev wI (x : Int32) : Slot := .val (.int x)
abbrev wR (k : Nat) : Slot := .val (.ref k)
abbrev wAI (l : List Value) : WObj := .inl (.int, l)
abbrev wU : Slot := .unset
def ia (ks : List Int32) : List Value := ks.map Value.int
theorem ia_len (ks : List Int32) : (ia ks).length = ks.length := by simp [ia]
theorem ia_get {ks : List Int32} {i : Nat} {e : Int32} (h : ks[i]? = some e) : (ia ks)[i]? = some (.int e) := by simp [ia, h]
theorem ia_set (ks : List Int32) (i : Nat) (x : Int32) : (ia ks).set i (.int x) = ia (ks.set i x) := by simp [ia, List.map_set]
theorem nn {j : Int32} (h0 : 0 ≤ j.toInt) : ¬ j < 0 := by rw [Int32.lt_iff_toInt_lt]; have : (0 : Int32).toInt = 0 := rfl; omega
theorem nlt {j : Int32} {n : Nat} (h0 : 0 ≤ j.toInt) (h1 : j.toInt < n) : j.toNatClampNeg < n := by simp only [Int32.toNatClampNeg]; omega
end Jvm.Sy

namespace Jvm.Sy
open Jvm Jvm.RoadKit
abbrev WEnt := Nat × Int32 × Int32
def PPath (ks : List Int32) (N h : Nat) (key : Int32) (s : Nat) : Prop :=
  ∃ d, d < N ∧ s = (h + d) % N ∧ ∀ e, e < d → ∃ k, ks[(h + e) % N]? = some k ∧ k ≠ 0 ∧ k ≠ key
def WRep (N : Nat) (hsh : Int32 → Nat) (ks ns fl : List Int32) (E : List WEnt) : Prop :=
  ks.length = N ∧ ns.length = N ∧ 2 * fl.length = N ∧ 2 * E.length ≤ N ∧
  (∀ x ∈ E, x.1 < N ∧ ks[x.1]? = some (x.2.1 + 1) ∧ x.2.1 + 1 ≠ 0 ∧ ns[x.1]? = some x.2.2 ∧ PPath ks N (hsh x.2.1) (x.2.1 + 1) x.1) ∧
  (∀ s, s < N → ks[s]? = some 0 ∨ ∃ x ∈ E, x.1 = s) ∧
  (∀ (i : Nat) (x : WEnt), E[i]? = some x → fl[i]? = some (Int32.ofNat x.1))
def wlook : List WEnt → Int32 → Int32
  | [], _ => -1
  | e :: r, x => if e.2.1 = x then e.2.2 else wlook r x
theorem look_nil {x : Int32} : wlook [] x = -1 := rfl
theorem look_hit {s : Nat} {p n : Int32} {r : List WEnt} : wlook ((s, p, n) :: r) p = n := if_pos rfl
theorem look_miss {s : Nat} {p n x : Int32} {r : List WEnt} (h : ¬ p = x) : wlook ((s, p, n) :: r) x = wlook r x := if_neg h
theorem cover_len : ∀ (N : Nat) (E : List WEnt), (∀ s, s < N → ∃ x ∈ E, x.1 = s) → N ≤ E.length
  | 0, _, _ => Nat.zero_le _
  | N + 1, E, h => by
    obtain ⟨x, hx, ex⟩ := h N (Nat.lt_succ_self _)
    have ih := cover_len N (E.filter fun y => decide (y.1 ≠ N)) (fun s hs => by
      obtain ⟨y, hy, ey⟩ := h s (by omega)
      exact ⟨y, List.mem_filter.mpr ⟨hy, by simp; omega⟩, ey⟩)
    have h3 : (E.filter fun y => decide (y.1 ≠ N)).length < E.length := by
      rcases Nat.lt_or_ge (E.filter fun y => decide (y.1 ≠ N)).length E.length with q | q
      · exact q
      · have := List.length_filter_eq_length_iff.mp (Nat.le_antisymm (List.length_filter_le _ _) q) x hx
        simp [ex] at this
    omega
theorem full_no {N : Nat} {E : List WEnt} (h : E.length < N) : ∃ s, s < N ∧ ∀ x ∈ E, x.1 ≠ s := by
  refine Classical.byContradiction fun hc => ?_
  have := cover_len N E fun s hs => Classical.byContradiction fun q => hc ⟨s, hs, fun x hx e => q ⟨x, hx, e⟩⟩
  omega
theorem WRep.zero {N : Nat} {hsh : Int32 → Nat} {ks ns fl : List Int32} {E : List WEnt} (R : WRep N hsh ks ns fl E) (hN : 0 < N) : ∃ s, s < N ∧ ks[s]? = some 0 := by
  obtain ⟨r1, r2, r3, r4, r5, r6, r7⟩ := R
  obtain ⟨s, hs, hn⟩ := full_no (N := N) (E := E) (by omega)
  rcases r6 s hs with q | ⟨x, hx, e⟩
  · exact ⟨s, hs, q⟩
  · exact absurd e (hn x hx)
theorem WRep.nil {N : Nat} {hsh : Int32 → Nat} {ns fl : List Int32} (h1 : ns.length = N) (h2 : 2 * fl.length = N) : WRep N hsh (List.replicate N 0) ns fl [] :=
  ⟨by simp, h1, h2, by simp, fun x hx => (by cases hx), fun s hs => Or.inl (by simp [hs]), fun i x h => (by simp at h)⟩
theorem new_nil {p : Int32} : ∀ x ∈ ([] : List WEnt), ¬ x.2.1 = p := fun x hx => by cases hx
theorem new_cons {p q n : Int32} {s : Nat} {E : List WEnt} (h : ¬ q = p) (r : ∀ x ∈ E, ¬ x.2.1 = p) : ∀ x ∈ ((s, q, n) :: E), ¬ x.2.1 = p := fun x hx => (List.mem_cons.mp hx).elim (fun e => by subst e; exact h) (r x)
theorem WRep.put {N : Nat} {hsh : Int32 → Nat} {ks ns fl : List Int32} {E : List WEnt} (R : WRep N hsh ks ns fl E) {p n : Int32} {s : Nat} (hE : 2 * (E.length + 1) ≤ N) (hp : p + 1 ≠ 0) (hnew : ∀ x ∈ E, ¬ x.2.1 = p) (hs : s < N)
    (hend : ks[s]? = some 0 ∨ ks[s]? = some (p + 1)) (hpath : PPath ks N (hsh p) (p + 1) s) : WRep N hsh (ks.set s (p + 1)) (ns.set s n) (fl.set E.length (Int32.ofNat s)) (E ++ [(s, p, n)]) := by
  obtain ⟨r1, r2, r3, r4, r5, r6, r7⟩ := R
  have inj : ∀ {a b : Int32}, a + 1 = b + 1 → a = b := fun {a b} h => by
    have := congrArg (· - 1) h
    simpa [Int32.add_sub_cancel] using this
  have h0 : ks[s]? = some 0 := by
    rcases hend with q | q
    · exact q
    · rcases r6 s hs with z | ⟨x, hx, e⟩
      · exact z
      · have := (r5 x hx).2.1
        rw [e, q] at this
        exact absurd (inj (Option.some.inj this)).symm (hnew x hx)
  have hsE : ∀ x ∈ E, x.1 ≠ s := fun x hx e => by
    have := (r5 x hx).2.1
    rw [e, h0] at this
    exact (r5 x hx).2.2.1 (Option.some.inj this).symm
  refine ⟨by simp [r1], by simp [r2], by simp [r3], by simp; omega, fun x hx => ?_, fun t ht => ?_, fun i x hx => ?_⟩
  · rcases List.mem_append.mp hx with hx | hx
    · obtain ⟨a1, a2, a3, a4, d, a5, a6, a7⟩ := r5 x hx
      have ne := hsE x hx
      refine ⟨a1, by rw [List.getElem?_set_ne (Ne.symm ne)]; exact a2, a3, by rw [List.getElem?_set_ne (Ne.symm ne)]; exact a4, d, a5, a6, fun e he => ?_⟩
      obtain ⟨k, b1, b2, b3⟩ := a7 e he
      by_cases q : s = (hsh x.2.1 + e) % N
      · rw [← q, h0] at b1
        exact absurd (Option.some.inj b1).symm b2
      · exact ⟨k, by rw [List.getElem?_set_ne q]; exact b1, b2, b3⟩
    · cases List.mem_singleton.mp hx
      obtain ⟨d, a5, a6, a7⟩ := hpath
      refine ⟨hs, List.getElem?_set_self (by omega), hp, List.getElem?_set_self (by omega), d, a5, a6, fun e he => ?_⟩
      obtain ⟨k, b1, b2, b3⟩ := a7 e he
      by_cases q : s = (hsh p + e) % N
      · rw [← q, h0] at b1
        exact absurd (Option.some.inj b1).symm b2
      · exact ⟨k, by rw [List.getElem?_set_ne q]; exact b1, b2, b3⟩
  · by_cases q : t = s
    · exact Or.inr ⟨_, List.mem_append_right _ (List.mem_singleton.mpr rfl), q.symm⟩
    · rcases r6 t ht with z | ⟨x, hx, e⟩
      · exact Or.inl (by rw [List.getElem?_set_ne (Ne.symm q)]; exact z)
      · exact Or.inr ⟨x, List.mem_append_left _ hx, e⟩
  · rcases Nat.lt_or_ge i E.length with q | q
    · rw [List.getElem?_append_left q] at hx
      rw [List.getElem?_set_ne (by omega)]
      exact r7 i x hx
    · rw [List.getElem?_append_right q] at hx
      have e : i - E.length = 0 := by
        rcases Nat.eq_zero_or_pos (i - E.length) with z | z
        · exact z
        · rw [List.getElem?_eq_none (by simp; omega)] at hx; cases hx
      rw [e] at hx
      cases hx
      have e2 : i = E.length := by omega
      rw [e2]
      exact List.getElem?_set_self (by omega)
theorem WRep.get {N : Nat} {hsh : Int32 → Nat} {ks ns fl : List Int32} {E : List WEnt} (R : WRep N hsh ks ns fl E) {x : Int32} {s : Nat} {k : Int32} (hs : s < N) (hk : ks[s]? = some k) (hend : k = 0 ∨ k = x + 1) (hpath : PPath ks N (hsh x) (x + 1) s) :
    (k = 0 → wlook E x = -1) ∧ (k ≠ 0 → ns[s]? = some (wlook E x)) := by
  obtain ⟨r1, r2, r3, r4, r5, r6, r7⟩ := R
  have inj : ∀ {a b : Int32}, a + 1 = b + 1 → a = b := fun {a b} h => by
    have := congrArg (· - 1) h
    simpa [Int32.add_sub_cancel] using this
  -- an entry of x is met at just this slot
  have same : ∀ y ∈ E, y.2.1 = x → y.1 = s := by
    intro y hy e
    obtain ⟨a1, a2, a3, a4, d, a5, a6, a7⟩ := r5 y hy
    obtain ⟨d', b5, b6, b7⟩ := hpath
    rw [e] at a2 a3 a6 a7
    rcases Nat.lt_trichotomy d d' with q | q | q
    · obtain ⟨k', c1, c2, c3⟩ := b7 d q
      rw [← a6, a2] at c1
      exact absurd (Option.some.inj c1).symm c3
    · rw [a6, b6, q]
    · obtain ⟨k', c1, c2, c3⟩ := a7 d' q
      rw [← b6, hk] at c1
      cases c1
      rcases hend with z | z
      · exact absurd z c2
      · exact absurd z c3
  have lookv : ∀ {F : List WEnt}, (∀ y ∈ F, y ∈ E) → (wlook F x = -1 ∧ ∀ y ∈ F, y.2.1 ≠ x) ∨ ∃ y ∈ F, y.2.1 = x ∧ wlook F x = y.2.2 := by
    intro F hF
    induction F with
    | nil => exact Or.inl ⟨rfl, fun y hy => by cases hy⟩
    | cons y r ih =>
      by_cases q : y.2.1 = x
      · exact Or.inr ⟨y, List.mem_cons_self .., q, if_pos q⟩
      · have e : wlook (y :: r) x = wlook r x := if_neg q
        rcases ih (fun z hz => hF z (List.mem_cons_of_mem _ hz)) with ⟨z1, z2⟩ | ⟨z, z1, z2, z3⟩
        · exact Or.inl ⟨by rw [e]; exact z1, fun z hz => (List.mem_cons.mp hz).elim (fun w => w ▸ q) (z2 z)⟩
        · exact Or.inr ⟨z, List.mem_cons_of_mem _ z1, z2, by rw [e]; exact z3⟩
  rcases lookv (F := E) (fun _ h => h) with ⟨l1, l2⟩ | ⟨y, y1, y2, y3⟩
  · refine ⟨fun _ => l1, fun hk0 => ?_⟩
    rcases r6 s hs with z | ⟨y, hy, e⟩
    · rw [hk] at z; exact absurd (Option.some.inj z) hk0
    · have := (r5 y hy).2.1
      rw [e, hk] at this
      rcases hend with z | z
      · exact absurd z hk0
      · rw [z] at this
        exact absurd (inj (Option.some.inj this)).symm (l2 y hy)
  · have es := same y y1 y2
    obtain ⟨a1, a2, a3, a4, -⟩ := r5 y y1
    rw [es] at a2 a4
    refine ⟨fun hk0 => ?_, fun _ => by rw [y3]; exact a4⟩
    rw [hk, hk0] at a2
    exact absurd (Option.some.inj a2).symm a3
def whash (sh : Nat) (p : Int32) : Nat := (((p * (-1640531527 : Int32)).toInt % 4294967296) / (2 ^ sh : Nat)).toNat
theorem whash_at (p q : Int32) (sh : Nat) (hq : q.toBitVec.toNat % 32 = sh) (h0 : 0 < sh) : (((p * (-1640531527 : Int32)).toUInt32 >>> (q &&& 31).toUInt32).toInt32).toInt = (whash sh p : Int) := by
  rw [c_iushr _ q sh hq h0]
  unfold whash
  have : 0 ≤ (p * (-1640531527 : Int32)).toInt % 4294967296 / (2 ^ sh : Nat) := Int.ediv_nonneg (by omega) (Int.natCast_nonneg _)
  omega
theorem ofNat_at {s : Nat} (h : s < 1000) : ¬ (Int32.ofNat s) < 0 ∧ (Int32.ofNat s).toNatClampNeg = s := by
  have e : (Int32.ofNat s).toInt = s := Int32.toInt_ofNat_small (by omega)
  exact ⟨nn (by omega), by simp only [Int32.toNatClampNeg]; omega⟩
theorem ofNat_back {s : Int32} (h : 0 ≤ s.toInt) : Int32.ofNat s.toNatClampNeg = s := by
  apply Int32.toInt_inj.mp
  have := s.toInt_lt
  rw [Int32.toInt_ofNat_small (by simp only [Int32.toNatClampNeg]; omega)]
  simp only [Int32.toNatClampNeg]; omega
theorem step_at (t mk : Int32) (b N d h : Nat) (hb : b ≤ 31) (hm : mk.toBitVec.toNat = 2 ^ b - 1) (hN : N = 2 ^ b) (hNn : N ≤ 64) (ht : t.toInt = ((h + d) % N : Nat)) : ((t + (1 : Int32)) &&& mk).toInt = ((h + (d + 1)) % N : Nat) := by
  rw [c_mask _ mk b hb hm, ← hN]
  have e1 := c_iadd t 1
  have e2 : (1 : Int32).toInt = 1 := rfl
  have r := rng32 (t + 1)
  have hpos : 0 < N := by rw [hN]; exact Nat.two_pow_pos b
  have hlt : (h + d) % N < N := Nat.mod_lt _ hpos
  have e3 : (t + 1).toInt = t.toInt + 1 := by omega
  rw [e3, ht]
  have : (h + (d + 1)) % N = ((h + d) % N + 1) % N := by rw [← Nat.add_assoc, Nat.add_mod (h + d) 1 N, Nat.add_mod ((h + d) % N) 1 N, Nat.mod_mod]
  rw [this, Int.natCast_emod, Int.natCast_add]
  rfl
theorem all_full {N h : Nat} {ks : List Int32} {key : Int32} (hN : 0 < N) (hz : ∃ z, z < N ∧ ks[z]? = some 0) (hp : ∀ e, e < N → ∃ k, ks[(h + e) % N]? = some k ∧ k ≠ 0 ∧ k ≠ key) : False := by
  obtain ⟨z, hz1, hz2⟩ := hz
  have hm : h % N < N := Nat.mod_lt _ hN
  obtain ⟨k, k1, k2, k3⟩ := hp ((z + (N - h % N)) % N) (Nat.mod_lt _ hN)
  have e : (h + (z + (N - h % N)) % N) % N = z := by
    rw [Nat.add_mod, Nat.mod_mod, ← Nat.add_mod]
    have : h + (z + (N - h % N)) = z + N * (h / N + 1) := by
      have := Nat.div_add_mod h N
      rw [Nat.mul_add, Nat.mul_one]
      omega
    rw [this, Nat.add_mul_mod_self_left]
    exact Nat.mod_eq_of_lt hz1
  rw [e, hz2] at k1
  exact k2 (Option.some.inj k1).symm
end Jvm.Sy


namespace Jvm.Pilot.@@N@@
open Jvm Jvm.ClassFile Sem Op Lib Jvm.Free Jvm.Stand Jvm.LawKit Jvm.RoadKit Bundle Jvm.Sy Jvm.Pilot.@@N@@.Jvm.D
theorem wd {Z : State} {a0 : Array Value} (hw : ∀ d ∈ tables_1, d.before a0 Z = true) (i : Nat) {d : Jvm.Cond} (h : tables_1[i]? = some d) : d.before a0 Z = true := hw d (List.mem_of_getElem? h)
abbrev fk0 : WKey := ("com/example/tributary/tributary/facts/PlaceMap", "keys", "[I")
abbrev fk1 : WKey := ("com/example/tributary/tributary/facts/PlaceMap", "numbers", "[I")
abbrev fk2 : WKey := ("com/example/tributary/tributary/facts/PlaceMap", "filled", "[I")
abbrev fk3 : WKey := ("com/example/tributary/tributary/facts/PlaceMap", "shift", "I")
abbrev fk4 : WKey := ("com/example/tributary/tributary/facts/PlaceMap", "count", "I")
abbrev cn0 : String := "com/example/tributary/tributary/facts/PlaceMap"

abbrev g10 (Z : State) (ρ : Nat → Nat) (n0 j0 u0 : Nat) : WMC := ((Z, ρ, n0), ("com/example/tributary/tributary/facts/PlaceMap", prog_7_method_6_code, "grow", none, 7), (j0, u0, 2, 30))
theorem a10_0 : AtI prog_7_method_6_code 0 (.aload_n 0) 1 1 := ⟨by decide +kernel, rfl⟩
theorem a10_1 : AtI prog_7_method_6_code 1 (.getfield 9) 3 4 := ⟨by decide +kernel, rfl⟩
theorem a10_4 : AtI prog_7_method_6_code 4 (.astore_n 1) 1 5 := ⟨by decide +kernel, rfl⟩
theorem a10_5 : AtI prog_7_method_6_code 5 (.aload_n 0) 1 6 := ⟨by decide +kernel, rfl⟩
theorem a10_6 : AtI prog_7_method_6_code 6 (.getfield 13) 3 9 := ⟨by decide +kernel, rfl⟩
theorem a10_9 : AtI prog_7_method_6_code 9 (.astore_n 2) 1 10 := ⟨by decide +kernel, rfl⟩
theorem a10_10 : AtI prog_7_method_6_code 10 (.aload_n 0) 1 11 := ⟨by decide +kernel, rfl⟩
theorem a10_11 : AtI prog_7_method_6_code 11 (.getfield 16) 3 14 := ⟨by decide +kernel, rfl⟩
theorem a10_14 : AtI prog_7_method_6_code 14 (.astore_n 3) 1 15 := ⟨by decide +kernel, rfl⟩
theorem a10_15 : AtI prog_7_method_6_code 15 (.aload_n 0) 1 16 := ⟨by decide +kernel, rfl⟩
theorem a10_16 : AtI prog_7_method_6_code 16 (.getfield 32) 3 19 := ⟨by decide +kernel, rfl⟩
theorem a10_19 : AtI prog_7_method_6_code 19 (.istore 4) 2 21 := ⟨by decide +kernel, rfl⟩
theorem a10_21 : AtI prog_7_method_6_code 21 (.aload_n 0) 1 22 := ⟨by decide +kernel, rfl⟩
theorem a10_22 : AtI prog_7_method_6_code 22 (.iconst 2) 1 23 := ⟨by decide +kernel, rfl⟩
theorem a10_23 : AtI prog_7_method_6_code 23 (.aload_n 1) 1 24 := ⟨by decide +kernel, rfl⟩
theorem a10_24 : AtI prog_7_method_6_code 24 (.arraylength) 1 25 := ⟨by decide +kernel, rfl⟩
theorem a10_25 : AtI prog_7_method_6_code 25 (.imul) 1 26 := ⟨by decide +kernel, rfl⟩
theorem a10_26 : AtI prog_7_method_6_code 26 (.newarray .int) 2 28 := ⟨by decide +kernel, rfl⟩
theorem a10_28 : AtI prog_7_method_6_code 28 (.putfield 9) 3 31 := ⟨by decide +kernel, rfl⟩
theorem a10_31 : AtI prog_7_method_6_code 31 (.aload_n 0) 1 32 := ⟨by decide +kernel, rfl⟩
theorem a10_32 : AtI prog_7_method_6_code 32 (.aload_n 0) 1 33 := ⟨by decide +kernel, rfl⟩
theorem a10_33 : AtI prog_7_method_6_code 33 (.getfield 9) 3 36 := ⟨by decide +kernel, rfl⟩
theorem a10_36 : AtI prog_7_method_6_code 36 (.arraylength) 1 37 := ⟨by decide +kernel, rfl⟩
theorem a10_37 : AtI prog_7_method_6_code 37 (.newarray .int) 2 39 := ⟨by decide +kernel, rfl⟩
theorem a10_39 : AtI prog_7_method_6_code 39 (.putfield 13) 3 42 := ⟨by decide +kernel, rfl⟩
theorem a10_42 : AtI prog_7_method_6_code 42 (.aload_n 0) 1 43 := ⟨by decide +kernel, rfl⟩
theorem a10_43 : AtI prog_7_method_6_code 43 (.aload_n 0) 1 44 := ⟨by decide +kernel, rfl⟩
theorem a10_44 : AtI prog_7_method_6_code 44 (.getfield 9) 3 47 := ⟨by decide +kernel, rfl⟩
theorem a10_47 : AtI prog_7_method_6_code 47 (.arraylength) 1 48 := ⟨by decide +kernel, rfl⟩
theorem a10_48 : AtI prog_7_method_6_code 48 (.iconst 2) 1 49 := ⟨by decide +kernel, rfl⟩
theorem a10_49 : AtI prog_7_method_6_code 49 (.idiv) 1 50 := ⟨by decide +kernel, rfl⟩
theorem a10_50 : AtI prog_7_method_6_code 50 (.newarray .int) 2 52 := ⟨by decide +kernel, rfl⟩
theorem a10_52 : AtI prog_7_method_6_code 52 (.putfield 16) 3 55 := ⟨by decide +kernel, rfl⟩
theorem a10_55 : AtI prog_7_method_6_code 55 (.aload_n 0) 1 56 := ⟨by decide +kernel, rfl⟩
theorem a10_56 : AtI prog_7_method_6_code 56 (.iconst 0) 1 57 := ⟨by decide +kernel, rfl⟩
theorem a10_57 : AtI prog_7_method_6_code 57 (.putfield 32) 3 60 := ⟨by decide +kernel, rfl⟩
theorem a10_60 : AtI prog_7_method_6_code 60 (.aload_n 0) 1 61 := ⟨by decide +kernel, rfl⟩
theorem a10_61 : AtI prog_7_method_6_code 61 (.dup) 1 62 := ⟨by decide +kernel, rfl⟩
theorem a10_62 : AtI prog_7_method_6_code 62 (.getfield 25) 3 65 := ⟨by decide +kernel, rfl⟩
theorem a10_65 : AtI prog_7_method_6_code 65 (.iconst 1) 1 66 := ⟨by decide +kernel, rfl⟩
theorem a10_66 : AtI prog_7_method_6_code 66 (.isub) 1 67 := ⟨by decide +kernel, rfl⟩
theorem a10_67 : AtI prog_7_method_6_code 67 (.putfield 25) 3 70 := ⟨by decide +kernel, rfl⟩
theorem a10_70 : AtI prog_7_method_6_code 70 (.iconst 0) 1 71 := ⟨by decide +kernel, rfl⟩
theorem a10_71 : AtI prog_7_method_6_code 71 (.istore 5) 2 73 := ⟨by decide +kernel, rfl⟩
theorem a10_73 : AtI prog_7_method_6_code 73 (.iload 5) 2 75 := ⟨by decide +kernel, rfl⟩
theorem a10_75 : AtI prog_7_method_6_code 75 (.iload 4) 2 77 := ⟨by decide +kernel, rfl⟩
theorem a10_77 : AtJ prog_7_method_6_code 77 (.if_icmp .ge) 80 106 := ⟨29, by decide +kernel, rfl, by decide, rfl⟩
theorem a10_80 : AtI prog_7_method_6_code 80 (.aload_n 3) 1 81 := ⟨by decide +kernel, rfl⟩
theorem a10_81 : AtI prog_7_method_6_code 81 (.iload 5) 2 83 := ⟨by decide +kernel, rfl⟩
theorem a10_83 : AtI prog_7_method_6_code 83 (.iaload) 1 84 := ⟨by decide +kernel, rfl⟩
theorem a10_84 : AtI prog_7_method_6_code 84 (.istore 6) 2 86 := ⟨by decide +kernel, rfl⟩
theorem a10_86 : AtI prog_7_method_6_code 86 (.aload_n 0) 1 87 := ⟨by decide +kernel, rfl⟩
theorem a10_87 : AtI prog_7_method_6_code 87 (.aload_n 1) 1 88 := ⟨by decide +kernel, rfl⟩
theorem a10_88 : AtI prog_7_method_6_code 88 (.iload 6) 2 90 := ⟨by decide +kernel, rfl⟩
theorem a10_90 : AtI prog_7_method_6_code 90 (.iaload) 1 91 := ⟨by decide +kernel, rfl⟩
theorem a10_91 : AtI prog_7_method_6_code 91 (.iconst 1) 1 92 := ⟨by decide +kernel, rfl⟩
theorem a10_92 : AtI prog_7_method_6_code 92 (.isub) 1 93 := ⟨by decide +kernel, rfl⟩
theorem a10_93 : AtI prog_7_method_6_code 93 (.aload_n 2) 1 94 := ⟨by decide +kernel, rfl⟩
theorem a10_94 : AtI prog_7_method_6_code 94 (.iload 6) 2 96 := ⟨by decide +kernel, rfl⟩
theorem a10_96 : AtI prog_7_method_6_code 96 (.iaload) 1 97 := ⟨by decide +kernel, rfl⟩
theorem a10_97 : AtI prog_7_method_6_code 97 (.invokevirtual 39) 3 100 := ⟨by decide +kernel, rfl⟩
theorem a10_100 : AtI prog_7_method_6_code 100 (.iinc 5 1) 3 103 := ⟨by decide +kernel, rfl⟩
theorem a10_103 : AtJ prog_7_method_6_code 103 (.goto) 106 73 := ⟨(-30), by decide +kernel, rfl, by decide, rfl⟩
theorem a10_106 : AtI prog_7_method_6_code 106 (.return_) 1 107 := ⟨by decide +kernel, rfl⟩
theorem pd10 : parseMethodDescriptor "()V" = some ⟨[], none⟩ := by decide +kernel
theorem pl10 : plainFor (⟨"com/example/tributary/tributary/facts/PlaceMap", "grow", "()V"⟩ : MethodName) = true := plainFor_of_name (by first | (simp [plainName, overriddenIn]; done) | decide +kernel)
theorem ok10 {Z : State} {a0 : Array Value} (hw : ∀ d ∈ tables_1, d.before a0 Z = true) (ρ : Nat → Nat) (n0 j0 u0 : Nat) : WCallee Z a0 (⟨"com/example/tributary/tributary/facts/PlaceMap", "grow", "()V"⟩ : MethodName) (g10 Z ρ n0 j0 u0) 0 :=
  ⟨pl10, (by decide), rfl, rfl, rfl, (wd hw 4 rfl), (wd hw 55 rfl), fun sig h => by cases pd10.symm.trans h; rfl⟩
abbrev g9 (Z : State) (ρ : Nat → Nat) (n0 j0 u0 : Nat) : WMC := ((Z, ρ, n0), ("com/example/tributary/tributary/facts/PlaceMap", prog_7_method_3_code, "put", none, 4), (j0, u0, 3, 48))
theorem a9_0 : AtI prog_7_method_3_code 0 (.iconst 2) 1 1 := ⟨by decide +kernel, rfl⟩
theorem a9_1 : AtI prog_7_method_3_code 1 (.aload_n 0) 1 2 := ⟨by decide +kernel, rfl⟩
theorem a9_2 : AtI prog_7_method_3_code 2 (.getfield 32) 3 5 := ⟨by decide +kernel, rfl⟩
theorem a9_5 : AtI prog_7_method_3_code 5 (.iconst 1) 1 6 := ⟨by decide +kernel, rfl⟩
theorem a9_6 : AtI prog_7_method_3_code 6 (.iadd) 1 7 := ⟨by decide +kernel, rfl⟩
theorem a9_7 : AtI prog_7_method_3_code 7 (.imul) 1 8 := ⟨by decide +kernel, rfl⟩
theorem a9_8 : AtI prog_7_method_3_code 8 (.aload_n 0) 1 9 := ⟨by decide +kernel, rfl⟩
theorem a9_9 : AtI prog_7_method_3_code 9 (.getfield 9) 3 12 := ⟨by decide +kernel, rfl⟩
theorem a9_12 : AtI prog_7_method_3_code 12 (.arraylength) 1 13 := ⟨by decide +kernel, rfl⟩
theorem a9_13 : AtJ prog_7_method_3_code 13 (.if_icmp .le) 16 20 := ⟨7, by decide +kernel, rfl, by decide, rfl⟩
theorem a9_16 : AtI prog_7_method_3_code 16 (.aload_n 0) 1 17 := ⟨by decide +kernel, rfl⟩
theorem a9_17 : AtI prog_7_method_3_code 17 (.invokevirtual 35) 3 20 := ⟨by decide +kernel, rfl⟩
theorem a9_20 : AtI prog_7_method_3_code 20 (.aload_n 0) 1 21 := ⟨by decide +kernel, rfl⟩
theorem a9_21 : AtI prog_7_method_3_code 21 (.iload_n 1) 1 22 := ⟨by decide +kernel, rfl⟩
theorem a9_22 : AtI prog_7_method_3_code 22 (.invokevirtual 29) 3 25 := ⟨by decide +kernel, rfl⟩
theorem a9_25 : AtI prog_7_method_3_code 25 (.istore_n 3) 1 26 := ⟨by decide +kernel, rfl⟩
theorem a9_26 : AtI prog_7_method_3_code 26 (.aload_n 0) 1 27 := ⟨by decide +kernel, rfl⟩
theorem a9_27 : AtI prog_7_method_3_code 27 (.getfield 9) 3 30 := ⟨by decide +kernel, rfl⟩
theorem a9_30 : AtI prog_7_method_3_code 30 (.iload_n 3) 1 31 := ⟨by decide +kernel, rfl⟩
theorem a9_31 : AtI prog_7_method_3_code 31 (.iload_n 1) 1 32 := ⟨by decide +kernel, rfl⟩
theorem a9_32 : AtI prog_7_method_3_code 32 (.iconst 1) 1 33 := ⟨by decide +kernel, rfl⟩
theorem a9_33 : AtI prog_7_method_3_code 33 (.iadd) 1 34 := ⟨by decide +kernel, rfl⟩
theorem a9_34 : AtI prog_7_method_3_code 34 (.iastore) 1 35 := ⟨by decide +kernel, rfl⟩
theorem a9_35 : AtI prog_7_method_3_code 35 (.aload_n 0) 1 36 := ⟨by decide +kernel, rfl⟩
theorem a9_36 : AtI prog_7_method_3_code 36 (.getfield 13) 3 39 := ⟨by decide +kernel, rfl⟩
theorem a9_39 : AtI prog_7_method_3_code 39 (.iload_n 3) 1 40 := ⟨by decide +kernel, rfl⟩
theorem a9_40 : AtI prog_7_method_3_code 40 (.iload_n 2) 1 41 := ⟨by decide +kernel, rfl⟩
theorem a9_41 : AtI prog_7_method_3_code 41 (.iastore) 1 42 := ⟨by decide +kernel, rfl⟩
theorem a9_42 : AtI prog_7_method_3_code 42 (.aload_n 0) 1 43 := ⟨by decide +kernel, rfl⟩
theorem a9_43 : AtI prog_7_method_3_code 43 (.getfield 16) 3 46 := ⟨by decide +kernel, rfl⟩
theorem a9_46 : AtI prog_7_method_3_code 46 (.aload_n 0) 1 47 := ⟨by decide +kernel, rfl⟩
theorem a9_47 : AtI prog_7_method_3_code 47 (.dup) 1 48 := ⟨by decide +kernel, rfl⟩
theorem a9_48 : AtI prog_7_method_3_code 48 (.getfield 32) 3 51 := ⟨by decide +kernel, rfl⟩
theorem a9_51 : AtI prog_7_method_3_code 51 (.dup_x1) 1 52 := ⟨by decide +kernel, rfl⟩
theorem a9_52 : AtI prog_7_method_3_code 52 (.iconst 1) 1 53 := ⟨by decide +kernel, rfl⟩
theorem a9_53 : AtI prog_7_method_3_code 53 (.iadd) 1 54 := ⟨by decide +kernel, rfl⟩
theorem a9_54 : AtI prog_7_method_3_code 54 (.putfield 32) 3 57 := ⟨by decide +kernel, rfl⟩
theorem a9_57 : AtI prog_7_method_3_code 57 (.iload_n 3) 1 58 := ⟨by decide +kernel, rfl⟩
theorem a9_58 : AtI prog_7_method_3_code 58 (.iastore) 1 59 := ⟨by decide +kernel, rfl⟩
theorem a9_59 : AtI prog_7_method_3_code 59 (.return_) 1 60 := ⟨by decide +kernel, rfl⟩
theorem pd9 : parseMethodDescriptor "(II)V" = some ⟨[.int, .int], none⟩ := by decide +kernel
theorem pl9 : plainFor (⟨"com/example/tributary/tributary/facts/PlaceMap", "put", "(II)V"⟩ : MethodName) = true := plainFor_of_name (by first | (simp [plainName, overriddenIn]; done) | decide +kernel)
theorem ok9 {Z : State} {a0 : Array Value} (hw : ∀ d ∈ tables_1, d.before a0 Z = true) (ρ : Nat → Nat) (n0 j0 u0 : Nat) : WCallee Z a0 (⟨"com/example/tributary/tributary/facts/PlaceMap", "put", "(II)V"⟩ : MethodName) (g9 Z ρ n0 j0 u0) 2 :=
  ⟨pl9, (by decide), rfl, rfl, rfl, (wd hw 4 rfl), (wd hw 49 rfl), fun sig h => by cases pd9.symm.trans h; rfl⟩
abbrev g8 (Z : State) (ρ : Nat → Nat) (n0 j0 u0 : Nat) : WMC := ((Z, ρ, n0), ("com/example/tributary/tributary/facts/PlaceMapPutPinLaw", method_3_code, "nu", (some .int), 3), (j0, u0, 0, 0))
theorem a8_0 : AtI method_3_code 0 (.iload_n 0) 1 1 := ⟨by decide +kernel, rfl⟩
theorem a8_1 : AtI method_3_code 1 (.iload_n 2) 1 2 := ⟨by decide +kernel, rfl⟩
theorem a8_2 : AtI method_3_code 2 (.iload_n 1) 1 3 := ⟨by decide +kernel, rfl⟩
theorem a8_3 : AtI method_3_code 3 (.imul) 1 4 := ⟨by decide +kernel, rfl⟩
theorem a8_4 : AtI method_3_code 4 (.iadd) 1 5 := ⟨by decide +kernel, rfl⟩
theorem a8_5 : AtI method_3_code 5 (.ldc 7) 2 7 := ⟨by decide +kernel, rfl⟩
theorem a8_7 : AtI method_3_code 7 (.iand) 1 8 := ⟨by decide +kernel, rfl⟩
theorem a8_8 : AtI method_3_code 8 (.ireturn) 1 9 := ⟨by decide +kernel, rfl⟩
theorem pd8 : parseMethodDescriptor "(III)I" = some ⟨[.int, .int, .int], some .int⟩ := by decide +kernel
theorem pl8 : plainFor (⟨"com/example/tributary/tributary/facts/PlaceMapPutPinLaw", "nu", "(III)I"⟩ : MethodName) = true := plainFor_of_name (by first | (simp [plainName, overriddenIn]; done) | decide +kernel)
theorem ok8 {Z : State} {a0 : Array Value} (hw : ∀ d ∈ tables_1, d.before a0 Z = true) (ρ : Nat → Nat) (n0 j0 u0 : Nat) : WCallee Z a0 (⟨"com/example/tributary/tributary/facts/PlaceMapPutPinLaw", "nu", "(III)I"⟩ : MethodName) (g8 Z ρ n0 j0 u0) 3 :=
  ⟨pl8, (by decide), rfl, rfl, rfl, (wd hw 27 rfl), (wd hw 44 rfl), fun sig h => by cases pd8.symm.trans h; rfl⟩
abbrev g7 (Z : State) (ρ : Nat → Nat) (n0 j0 u0 : Nat) : WMC := ((Z, ρ, n0), ("com/example/tributary/tributary/facts/PlaceMapPutPinLaw", method_4_code, "expect", (some .int), 4), (j0, u0, 1, 14))
theorem a7_0 : AtI method_4_code 0 (.iload_n 2) 1 1 := ⟨by decide +kernel, rfl⟩
theorem a7_1 : AtI method_4_code 1 (.iload_n 3) 1 2 := ⟨by decide +kernel, rfl⟩
theorem a7_2 : AtJ method_4_code 2 (.if_icmp .ge) 5 12 := ⟨10, by decide +kernel, rfl, by decide, rfl⟩
theorem a7_5 : AtI method_4_code 5 (.iload_n 0) 1 6 := ⟨by decide +kernel, rfl⟩
theorem a7_6 : AtI method_4_code 6 (.iload_n 1) 1 7 := ⟨by decide +kernel, rfl⟩
theorem a7_7 : AtI method_4_code 7 (.iload_n 2) 1 8 := ⟨by decide +kernel, rfl⟩
theorem a7_8 : AtI method_4_code 8 (.invokestatic 8) 3 11 := ⟨by decide +kernel, rfl⟩
theorem a7_11 : AtI method_4_code 11 (.ireturn) 1 12 := ⟨by decide +kernel, rfl⟩
theorem a7_12 : AtI method_4_code 12 (.iconst (-1)) 1 13 := ⟨by decide +kernel, rfl⟩
theorem a7_13 : AtI method_4_code 13 (.ireturn) 1 14 := ⟨by decide +kernel, rfl⟩
theorem pd7 : parseMethodDescriptor "(IIII)I" = some ⟨[.int, .int, .int, .int], some .int⟩ := by decide +kernel
theorem pl7 : plainFor (⟨"com/example/tributary/tributary/facts/PlaceMapPutPinLaw", "expect", "(IIII)I"⟩ : MethodName) = true := plainFor_of_name (by first | (simp [plainName, overriddenIn]; done) | decide +kernel)
theorem ok7 {Z : State} {a0 : Array Value} (hw : ∀ d ∈ tables_1, d.before a0 Z = true) (ρ : Nat → Nat) (n0 j0 u0 : Nat) : WCallee Z a0 (⟨"com/example/tributary/tributary/facts/PlaceMapPutPinLaw", "expect", "(IIII)I"⟩ : MethodName) (g7 Z ρ n0 j0 u0) 4 :=
  ⟨pl7, (by decide), rfl, rfl, rfl, (wd hw 27 rfl), (wd hw 41 rfl), fun sig h => by cases pd7.symm.trans h; rfl⟩
abbrev g6 (Z : State) (ρ : Nat → Nat) (n0 j0 u0 : Nat) : WMC := ((Z, ρ, n0), ("com/example/tributary/tributary/facts/PlaceMap", prog_7_method_5_code, "slotOf", (some .int), 4), (j0, u0, 0, 0))
theorem a6_0 : AtI prog_7_method_5_code 0 (.aload_n 0) 1 1 := ⟨by decide +kernel, rfl⟩
theorem a6_1 : AtI prog_7_method_5_code 1 (.getfield 9) 3 4 := ⟨by decide +kernel, rfl⟩
theorem a6_4 : AtI prog_7_method_5_code 4 (.arraylength) 1 5 := ⟨by decide +kernel, rfl⟩
theorem a6_5 : AtI prog_7_method_5_code 5 (.iconst 1) 1 6 := ⟨by decide +kernel, rfl⟩
theorem a6_6 : AtI prog_7_method_5_code 6 (.isub) 1 7 := ⟨by decide +kernel, rfl⟩
theorem a6_7 : AtI prog_7_method_5_code 7 (.istore_n 2) 1 8 := ⟨by decide +kernel, rfl⟩
theorem a6_8 : AtI prog_7_method_5_code 8 (.iload_n 1) 1 9 := ⟨by decide +kernel, rfl⟩
theorem a6_9 : AtI prog_7_method_5_code 9 (.ldc 38) 2 11 := ⟨by decide +kernel, rfl⟩
theorem a6_11 : AtI prog_7_method_5_code 11 (.imul) 1 12 := ⟨by decide +kernel, rfl⟩
theorem a6_12 : AtI prog_7_method_5_code 12 (.aload_n 0) 1 13 := ⟨by decide +kernel, rfl⟩
theorem a6_13 : AtI prog_7_method_5_code 13 (.getfield 25) 3 16 := ⟨by decide +kernel, rfl⟩
theorem a6_16 : AtI prog_7_method_5_code 16 (.iushr) 1 17 := ⟨by decide +kernel, rfl⟩
theorem a6_17 : AtI prog_7_method_5_code 17 (.istore_n 3) 1 18 := ⟨by decide +kernel, rfl⟩
theorem a6_18 : AtI prog_7_method_5_code 18 (.aload_n 0) 1 19 := ⟨by decide +kernel, rfl⟩
theorem a6_19 : AtI prog_7_method_5_code 19 (.getfield 9) 3 22 := ⟨by decide +kernel, rfl⟩
theorem a6_22 : AtI prog_7_method_5_code 22 (.iload_n 3) 1 23 := ⟨by decide +kernel, rfl⟩
theorem a6_23 : AtI prog_7_method_5_code 23 (.iaload) 1 24 := ⟨by decide +kernel, rfl⟩
theorem a6_24 : AtJ prog_7_method_5_code 24 (.ifCond .eq) 27 48 := ⟨24, by decide +kernel, rfl, by decide, rfl⟩
theorem a6_27 : AtI prog_7_method_5_code 27 (.aload_n 0) 1 28 := ⟨by decide +kernel, rfl⟩
theorem a6_28 : AtI prog_7_method_5_code 28 (.getfield 9) 3 31 := ⟨by decide +kernel, rfl⟩
theorem a6_31 : AtI prog_7_method_5_code 31 (.iload_n 3) 1 32 := ⟨by decide +kernel, rfl⟩
theorem a6_32 : AtI prog_7_method_5_code 32 (.iaload) 1 33 := ⟨by decide +kernel, rfl⟩
theorem a6_33 : AtI prog_7_method_5_code 33 (.iload_n 1) 1 34 := ⟨by decide +kernel, rfl⟩
theorem a6_34 : AtI prog_7_method_5_code 34 (.iconst 1) 1 35 := ⟨by decide +kernel, rfl⟩
theorem a6_35 : AtI prog_7_method_5_code 35 (.iadd) 1 36 := ⟨by decide +kernel, rfl⟩
theorem a6_36 : AtJ prog_7_method_5_code 36 (.if_icmp .eq) 39 48 := ⟨12, by decide +kernel, rfl, by decide, rfl⟩
theorem a6_39 : AtI prog_7_method_5_code 39 (.iload_n 3) 1 40 := ⟨by decide +kernel, rfl⟩
theorem a6_40 : AtI prog_7_method_5_code 40 (.iconst 1) 1 41 := ⟨by decide +kernel, rfl⟩
theorem a6_41 : AtI prog_7_method_5_code 41 (.iadd) 1 42 := ⟨by decide +kernel, rfl⟩
theorem a6_42 : AtI prog_7_method_5_code 42 (.iload_n 2) 1 43 := ⟨by decide +kernel, rfl⟩
theorem a6_43 : AtI prog_7_method_5_code 43 (.iand) 1 44 := ⟨by decide +kernel, rfl⟩
theorem a6_44 : AtI prog_7_method_5_code 44 (.istore_n 3) 1 45 := ⟨by decide +kernel, rfl⟩
theorem a6_45 : AtJ prog_7_method_5_code 45 (.goto) 48 18 := ⟨(-27), by decide +kernel, rfl, by decide, rfl⟩
theorem a6_48 : AtI prog_7_method_5_code 48 (.iload_n 3) 1 49 := ⟨by decide +kernel, rfl⟩
theorem a6_49 : AtI prog_7_method_5_code 49 (.ireturn) 1 50 := ⟨by decide +kernel, rfl⟩
theorem pd6 : parseMethodDescriptor "(I)I" = some ⟨[.int], some .int⟩ := by decide +kernel
theorem pl6 : plainFor (⟨"com/example/tributary/tributary/facts/PlaceMap", "slotOf", "(I)I"⟩ : MethodName) = true := plainFor_of_name (by first | (simp [plainName, overriddenIn]; done) | decide +kernel)
theorem ok6 {Z : State} {a0 : Array Value} (hw : ∀ d ∈ tables_1, d.before a0 Z = true) (ρ : Nat → Nat) (n0 j0 u0 : Nat) : WCallee Z a0 (⟨"com/example/tributary/tributary/facts/PlaceMap", "slotOf", "(I)I"⟩ : MethodName) (g6 Z ρ n0 j0 u0) 1 :=
  ⟨pl6, (by decide), rfl, rfl, rfl, (wd hw 4 rfl), (wd hw 37 rfl), fun sig h => by cases pd6.symm.trans h; rfl⟩
abbrev g5 (Z : State) (ρ : Nat → Nat) (n0 j0 u0 : Nat) : WMC := ((Z, ρ, n0), ("com/example/tributary/tributary/facts/PlaceMap", prog_7_method_2_code, "get", (some .int), 3), (j0, u0, 1, 15))
theorem a5_0 : AtI prog_7_method_2_code 0 (.aload_n 0) 1 1 := ⟨by decide +kernel, rfl⟩
theorem a5_1 : AtI prog_7_method_2_code 1 (.iload_n 1) 1 2 := ⟨by decide +kernel, rfl⟩
theorem a5_2 : AtI prog_7_method_2_code 2 (.invokevirtual 29) 3 5 := ⟨by decide +kernel, rfl⟩
theorem a5_5 : AtI prog_7_method_2_code 5 (.istore_n 2) 1 6 := ⟨by decide +kernel, rfl⟩
theorem a5_6 : AtI prog_7_method_2_code 6 (.aload_n 0) 1 7 := ⟨by decide +kernel, rfl⟩
theorem a5_7 : AtI prog_7_method_2_code 7 (.getfield 9) 3 10 := ⟨by decide +kernel, rfl⟩
theorem a5_10 : AtI prog_7_method_2_code 10 (.iload_n 2) 1 11 := ⟨by decide +kernel, rfl⟩
theorem a5_11 : AtI prog_7_method_2_code 11 (.iaload) 1 12 := ⟨by decide +kernel, rfl⟩
theorem a5_12 : AtJ prog_7_method_2_code 12 (.ifCond .eq) 15 24 := ⟨12, by decide +kernel, rfl, by decide, rfl⟩
theorem a5_15 : AtI prog_7_method_2_code 15 (.aload_n 0) 1 16 := ⟨by decide +kernel, rfl⟩
theorem a5_16 : AtI prog_7_method_2_code 16 (.getfield 13) 3 19 := ⟨by decide +kernel, rfl⟩
theorem a5_19 : AtI prog_7_method_2_code 19 (.iload_n 2) 1 20 := ⟨by decide +kernel, rfl⟩
theorem a5_20 : AtI prog_7_method_2_code 20 (.iaload) 1 21 := ⟨by decide +kernel, rfl⟩
theorem a5_21 : AtJ prog_7_method_2_code 21 (.goto) 24 25 := ⟨4, by decide +kernel, rfl, by decide, rfl⟩
theorem a5_24 : AtI prog_7_method_2_code 24 (.iconst (-1)) 1 25 := ⟨by decide +kernel, rfl⟩
theorem a5_25 : AtI prog_7_method_2_code 25 (.ireturn) 1 26 := ⟨by decide +kernel, rfl⟩
theorem pd5 : parseMethodDescriptor "(I)I" = some ⟨[.int], some .int⟩ := by decide +kernel
theorem pl5 : plainFor (⟨"com/example/tributary/tributary/facts/PlaceMap", "get", "(I)I"⟩ : MethodName) = true := plainFor_of_name (by first | (simp [plainName, overriddenIn]; done) | decide +kernel)
theorem ok5 {Z : State} {a0 : Array Value} (hw : ∀ d ∈ tables_1, d.before a0 Z = true) (ρ : Nat → Nat) (n0 j0 u0 : Nat) : WCallee Z a0 (⟨"com/example/tributary/tributary/facts/PlaceMap", "get", "(I)I"⟩ : MethodName) (g5 Z ρ n0 j0 u0) 1 :=
  ⟨pl5, (by decide), rfl, rfl, rfl, (wd hw 4 rfl), (wd hw 33 rfl), fun sig h => by cases pd5.symm.trans h; rfl⟩
abbrev g4 (Z : State) (ρ : Nat → Nat) (n0 j0 u0 : Nat) : WMC := ((Z, ρ, n0), ("com/example/tributary/tributary/facts/PlaceMapPutPinLaw", method_2_code, "pl", (some .int), 3), (j0, u0, 0, 0))
theorem a4_0 : AtI method_2_code 0 (.iload_n 0) 1 1 := ⟨by decide +kernel, rfl⟩
theorem a4_1 : AtI method_2_code 1 (.iload_n 2) 1 2 := ⟨by decide +kernel, rfl⟩
theorem a4_2 : AtI method_2_code 2 (.iload_n 1) 1 3 := ⟨by decide +kernel, rfl⟩
theorem a4_3 : AtI method_2_code 3 (.imul) 1 4 := ⟨by decide +kernel, rfl⟩
theorem a4_4 : AtI method_2_code 4 (.iadd) 1 5 := ⟨by decide +kernel, rfl⟩
theorem a4_5 : AtI method_2_code 5 (.ldc 7) 2 7 := ⟨by decide +kernel, rfl⟩
theorem a4_7 : AtI method_2_code 7 (.iand) 1 8 := ⟨by decide +kernel, rfl⟩
theorem a4_8 : AtI method_2_code 8 (.ireturn) 1 9 := ⟨by decide +kernel, rfl⟩
theorem pd4 : parseMethodDescriptor "(III)I" = some ⟨[.int, .int, .int], some .int⟩ := by decide +kernel
theorem pl4 : plainFor (⟨"com/example/tributary/tributary/facts/PlaceMapPutPinLaw", "pl", "(III)I"⟩ : MethodName) = true := plainFor_of_name (by first | (simp [plainName, overriddenIn]; done) | decide +kernel)
theorem ok4 {Z : State} {a0 : Array Value} (hw : ∀ d ∈ tables_1, d.before a0 Z = true) (ρ : Nat → Nat) (n0 j0 u0 : Nat) : WCallee Z a0 (⟨"com/example/tributary/tributary/facts/PlaceMapPutPinLaw", "pl", "(III)I"⟩ : MethodName) (g4 Z ρ n0 j0 u0) 3 :=
  ⟨pl4, (by decide), rfl, rfl, rfl, (wd hw 27 rfl), (wd hw 28 rfl), fun sig h => by cases pd4.symm.trans h; rfl⟩
abbrev g3 (Z : State) (ρ : Nat → Nat) (n0 j0 u0 : Nat) : WMC := ((Z, ρ, n0), ("java/lang/Integer", jdk_33_method_48_code, "numberOfTrailingZeros", (some .int), 2), (j0, u0, 0, 0))
theorem a3_0 : AtI jdk_33_method_48_code 0 (.iload_n 0) 1 1 := ⟨by decide +kernel, rfl⟩
theorem a3_1 : AtI jdk_33_method_48_code 1 (.iconst (-1)) 1 2 := ⟨by decide +kernel, rfl⟩
theorem a3_2 : AtI jdk_33_method_48_code 2 (.ixor) 1 3 := ⟨by decide +kernel, rfl⟩
theorem a3_3 : AtI jdk_33_method_48_code 3 (.iload_n 0) 1 4 := ⟨by decide +kernel, rfl⟩
theorem a3_4 : AtI jdk_33_method_48_code 4 (.iconst 1) 1 5 := ⟨by decide +kernel, rfl⟩
theorem a3_5 : AtI jdk_33_method_48_code 5 (.isub) 1 6 := ⟨by decide +kernel, rfl⟩
theorem a3_6 : AtI jdk_33_method_48_code 6 (.iand) 1 7 := ⟨by decide +kernel, rfl⟩
theorem a3_7 : AtI jdk_33_method_48_code 7 (.istore_n 0) 1 8 := ⟨by decide +kernel, rfl⟩
theorem a3_8 : AtI jdk_33_method_48_code 8 (.iload_n 0) 1 9 := ⟨by decide +kernel, rfl⟩
theorem a3_9 : AtJ jdk_33_method_48_code 9 (.ifCond .gt) 12 17 := ⟨8, by decide +kernel, rfl, by decide, rfl⟩
theorem a3_12 : AtI jdk_33_method_48_code 12 (.iload_n 0) 1 13 := ⟨by decide +kernel, rfl⟩
theorem a3_13 : AtI jdk_33_method_48_code 13 (.bipush 32) 2 15 := ⟨by decide +kernel, rfl⟩
theorem a3_15 : AtI jdk_33_method_48_code 15 (.iand) 1 16 := ⟨by decide +kernel, rfl⟩
theorem a3_16 : AtI jdk_33_method_48_code 16 (.ireturn) 1 17 := ⟨by decide +kernel, rfl⟩
theorem a3_17 : AtI jdk_33_method_48_code 17 (.iconst 1) 1 18 := ⟨by decide +kernel, rfl⟩
theorem a3_18 : AtI jdk_33_method_48_code 18 (.istore_n 1) 1 19 := ⟨by decide +kernel, rfl⟩
theorem a3_19 : AtI jdk_33_method_48_code 19 (.iload_n 0) 1 20 := ⟨by decide +kernel, rfl⟩
theorem a3_20 : AtI jdk_33_method_48_code 20 (.ldc_w 264) 3 23 := ⟨by decide +kernel, rfl⟩
theorem a3_23 : AtJ jdk_33_method_48_code 23 (.if_icmp .le) 26 34 := ⟨11, by decide +kernel, rfl, by decide, rfl⟩
theorem a3_26 : AtI jdk_33_method_48_code 26 (.iinc 1 16) 3 29 := ⟨by decide +kernel, rfl⟩
theorem a3_29 : AtI jdk_33_method_48_code 29 (.iload_n 0) 1 30 := ⟨by decide +kernel, rfl⟩
theorem a3_30 : AtI jdk_33_method_48_code 30 (.bipush 16) 2 32 := ⟨by decide +kernel, rfl⟩
theorem a3_32 : AtI jdk_33_method_48_code 32 (.iushr) 1 33 := ⟨by decide +kernel, rfl⟩
theorem a3_33 : AtI jdk_33_method_48_code 33 (.istore_n 0) 1 34 := ⟨by decide +kernel, rfl⟩
theorem a3_34 : AtI jdk_33_method_48_code 34 (.iload_n 0) 1 35 := ⟨by decide +kernel, rfl⟩
theorem a3_35 : AtI jdk_33_method_48_code 35 (.sipush 256) 3 38 := ⟨by decide +kernel, rfl⟩
theorem a3_38 : AtJ jdk_33_method_48_code 38 (.if_icmp .le) 41 49 := ⟨11, by decide +kernel, rfl, by decide, rfl⟩
theorem a3_41 : AtI jdk_33_method_48_code 41 (.iinc 1 8) 3 44 := ⟨by decide +kernel, rfl⟩
theorem a3_44 : AtI jdk_33_method_48_code 44 (.iload_n 0) 1 45 := ⟨by decide +kernel, rfl⟩
theorem a3_45 : AtI jdk_33_method_48_code 45 (.bipush 8) 2 47 := ⟨by decide +kernel, rfl⟩
theorem a3_47 : AtI jdk_33_method_48_code 47 (.iushr) 1 48 := ⟨by decide +kernel, rfl⟩
theorem a3_48 : AtI jdk_33_method_48_code 48 (.istore_n 0) 1 49 := ⟨by decide +kernel, rfl⟩
theorem a3_49 : AtI jdk_33_method_48_code 49 (.iload_n 0) 1 50 := ⟨by decide +kernel, rfl⟩
theorem a3_50 : AtI jdk_33_method_48_code 50 (.bipush 16) 2 52 := ⟨by decide +kernel, rfl⟩
theorem a3_52 : AtJ jdk_33_method_48_code 52 (.if_icmp .le) 55 62 := ⟨10, by decide +kernel, rfl, by decide, rfl⟩
theorem a3_55 : AtI jdk_33_method_48_code 55 (.iinc 1 4) 3 58 := ⟨by decide +kernel, rfl⟩
theorem a3_58 : AtI jdk_33_method_48_code 58 (.iload_n 0) 1 59 := ⟨by decide +kernel, rfl⟩
theorem a3_59 : AtI jdk_33_method_48_code 59 (.iconst 4) 1 60 := ⟨by decide +kernel, rfl⟩
theorem a3_60 : AtI jdk_33_method_48_code 60 (.iushr) 1 61 := ⟨by decide +kernel, rfl⟩
theorem a3_61 : AtI jdk_33_method_48_code 61 (.istore_n 0) 1 62 := ⟨by decide +kernel, rfl⟩
theorem a3_62 : AtI jdk_33_method_48_code 62 (.iload_n 0) 1 63 := ⟨by decide +kernel, rfl⟩
theorem a3_63 : AtI jdk_33_method_48_code 63 (.iconst 4) 1 64 := ⟨by decide +kernel, rfl⟩
theorem a3_64 : AtJ jdk_33_method_48_code 64 (.if_icmp .le) 67 74 := ⟨10, by decide +kernel, rfl, by decide, rfl⟩
theorem a3_67 : AtI jdk_33_method_48_code 67 (.iinc 1 2) 3 70 := ⟨by decide +kernel, rfl⟩
theorem a3_70 : AtI jdk_33_method_48_code 70 (.iload_n 0) 1 71 := ⟨by decide +kernel, rfl⟩
theorem a3_71 : AtI jdk_33_method_48_code 71 (.iconst 2) 1 72 := ⟨by decide +kernel, rfl⟩
theorem a3_72 : AtI jdk_33_method_48_code 72 (.iushr) 1 73 := ⟨by decide +kernel, rfl⟩
theorem a3_73 : AtI jdk_33_method_48_code 73 (.istore_n 0) 1 74 := ⟨by decide +kernel, rfl⟩
theorem a3_74 : AtI jdk_33_method_48_code 74 (.iload_n 1) 1 75 := ⟨by decide +kernel, rfl⟩
theorem a3_75 : AtI jdk_33_method_48_code 75 (.iload_n 0) 1 76 := ⟨by decide +kernel, rfl⟩
theorem a3_76 : AtI jdk_33_method_48_code 76 (.iconst 1) 1 77 := ⟨by decide +kernel, rfl⟩
theorem a3_77 : AtI jdk_33_method_48_code 77 (.iushr) 1 78 := ⟨by decide +kernel, rfl⟩
theorem a3_78 : AtI jdk_33_method_48_code 78 (.iadd) 1 79 := ⟨by decide +kernel, rfl⟩
theorem a3_79 : AtI jdk_33_method_48_code 79 (.ireturn) 1 80 := ⟨by decide +kernel, rfl⟩
theorem pd3 : parseMethodDescriptor "(I)I" = some ⟨[.int], some .int⟩ := by decide +kernel
theorem pl3 : plainFor (⟨"java/lang/Integer", "numberOfTrailingZeros", "(I)I"⟩ : MethodName) = true := plainFor_of_name (by first | (simp [plainName, overriddenIn]; done) | decide +kernel)
theorem ok3 {Z : State} {a0 : Array Value} (hw : ∀ d ∈ tables_1, d.before a0 Z = true) (ρ : Nat → Nat) (n0 j0 u0 : Nat) : WCallee Z a0 (⟨"java/lang/Integer", "numberOfTrailingZeros", "(I)I"⟩ : MethodName) (g3 Z ρ n0 j0 u0) 1 :=
  ⟨pl3, (by decide), rfl, rfl, rfl, (wd hw 20 rfl), (wd hw 21 rfl), fun sig h => by cases pd3.symm.trans h; rfl⟩
abbrev g1 (Z : State) (ρ : Nat → Nat) (n0 j0 u0 : Nat) : WMC := ((Z, ρ, n0), ("com/example/tributary/tributary/facts/PlaceMap", prog_7_method_1_code, "<init>", none, 1), (j0, u0, 1, 15))
theorem a1_0 : AtI prog_7_method_1_code 0 (.aload_n 0) 1 1 := ⟨by decide +kernel, rfl⟩
theorem a1_1 : AtI prog_7_method_1_code 1 (.invokespecial 1) 3 4 := ⟨by decide +kernel, rfl⟩
theorem a1_4 : AtI prog_7_method_1_code 4 (.aload_n 0) 1 5 := ⟨by decide +kernel, rfl⟩
theorem a1_5 : AtI prog_7_method_1_code 5 (.bipush 16) 2 7 := ⟨by decide +kernel, rfl⟩
theorem a1_7 : AtI prog_7_method_1_code 7 (.newarray .int) 2 9 := ⟨by decide +kernel, rfl⟩
theorem a1_9 : AtI prog_7_method_1_code 9 (.putfield 9) 3 12 := ⟨by decide +kernel, rfl⟩
theorem a1_12 : AtI prog_7_method_1_code 12 (.aload_n 0) 1 13 := ⟨by decide +kernel, rfl⟩
theorem a1_13 : AtI prog_7_method_1_code 13 (.bipush 16) 2 15 := ⟨by decide +kernel, rfl⟩
theorem a1_15 : AtI prog_7_method_1_code 15 (.newarray .int) 2 17 := ⟨by decide +kernel, rfl⟩
theorem a1_17 : AtI prog_7_method_1_code 17 (.putfield 13) 3 20 := ⟨by decide +kernel, rfl⟩
theorem a1_20 : AtI prog_7_method_1_code 20 (.aload_n 0) 1 21 := ⟨by decide +kernel, rfl⟩
theorem a1_21 : AtI prog_7_method_1_code 21 (.bipush 8) 2 23 := ⟨by decide +kernel, rfl⟩
theorem a1_23 : AtI prog_7_method_1_code 23 (.newarray .int) 2 25 := ⟨by decide +kernel, rfl⟩
theorem a1_25 : AtI prog_7_method_1_code 25 (.putfield 16) 3 28 := ⟨by decide +kernel, rfl⟩
theorem a1_28 : AtI prog_7_method_1_code 28 (.aload_n 0) 1 29 := ⟨by decide +kernel, rfl⟩
theorem a1_29 : AtI prog_7_method_1_code 29 (.bipush 32) 2 31 := ⟨by decide +kernel, rfl⟩
theorem a1_31 : AtI prog_7_method_1_code 31 (.bipush 16) 2 33 := ⟨by decide +kernel, rfl⟩
theorem a1_33 : AtI prog_7_method_1_code 33 (.invokestatic 19) 3 36 := ⟨by decide +kernel, rfl⟩
theorem a1_36 : AtI prog_7_method_1_code 36 (.isub) 1 37 := ⟨by decide +kernel, rfl⟩
theorem a1_37 : AtI prog_7_method_1_code 37 (.putfield 25) 3 40 := ⟨by decide +kernel, rfl⟩
theorem a1_40 : AtI prog_7_method_1_code 40 (.return_) 1 41 := ⟨by decide +kernel, rfl⟩
theorem pd1 : parseMethodDescriptor "()V" = some ⟨[], none⟩ := by decide +kernel
theorem pl1 : plainFor (⟨"com/example/tributary/tributary/facts/PlaceMap", "<init>", "()V"⟩ : MethodName) = true := plainFor_of_name (by first | (simp [plainName, overriddenIn]; done) | decide +kernel)
theorem ok1 {Z : State} {a0 : Array Value} (hw : ∀ d ∈ tables_1, d.before a0 Z = true) (ρ : Nat → Nat) (n0 j0 u0 : Nat) : WCallee Z a0 (⟨"com/example/tributary/tributary/facts/PlaceMap", "<init>", "()V"⟩ : MethodName) (g1 Z ρ n0 j0 u0) 0 :=
  ⟨pl1, (by decide), rfl, rfl, rfl, (wd hw 4 rfl), (wd hw 7 rfl), fun sig h => by cases pd1.symm.trans h; rfl⟩
abbrev g0 (Z : State) (ρ : Nat → Nat) (n0 j0 u0 : Nat) : WMC := ((Z, ρ, n0), ("com/example/tributary/tributary/facts/PlaceMapPutPinLaw", code, "law", ret, maxLocals), (j0, u0, 7, 176))
theorem a0_0 : AtI code 0 (.iload_n 1) 1 1 := ⟨by decide +kernel, rfl⟩
theorem a0_1 : AtI code 1 (.iconst 1) 1 2 := ⟨by decide +kernel, rfl⟩
theorem a0_2 : AtI code 2 (.ior) 1 3 := ⟨by decide +kernel, rfl⟩
theorem a0_3 : AtI code 3 (.istore 6) 2 5 := ⟨by decide +kernel, rfl⟩
theorem a0_5 : AtI code 5 (.iload 4) 2 7 := ⟨by decide +kernel, rfl⟩
theorem a0_7 : AtI code 7 (.ldc 7) 2 9 := ⟨by decide +kernel, rfl⟩
theorem a0_9 : AtI code 9 (.iand) 1 10 := ⟨by decide +kernel, rfl⟩
theorem a0_10 : AtI code 10 (.bipush 10) 2 12 := ⟨by decide +kernel, rfl⟩
theorem a0_12 : AtI code 12 (.irem) 1 13 := ⟨by decide +kernel, rfl⟩
theorem a0_13 : AtI code 13 (.istore 7) 2 15 := ⟨by decide +kernel, rfl⟩
theorem a0_15 : AtI code 15 (.iload 5) 2 17 := ⟨by decide +kernel, rfl⟩
theorem a0_17 : AtI code 17 (.ldc 14) 2 19 := ⟨by decide +kernel, rfl⟩
theorem a0_19 : AtI code 19 (.iand) 1 20 := ⟨by decide +kernel, rfl⟩
theorem a0_20 : AtI code 20 (.bipush 10) 2 22 := ⟨by decide +kernel, rfl⟩
theorem a0_22 : AtI code 22 (.irem) 1 23 := ⟨by decide +kernel, rfl⟩
theorem a0_23 : AtI code 23 (.istore 8) 2 25 := ⟨by decide +kernel, rfl⟩
theorem a0_25 : AtI code 25 (.iload 5) 2 27 := ⟨by decide +kernel, rfl⟩
theorem a0_27 : AtI code 27 (.bipush 16) 2 29 := ⟨by decide +kernel, rfl⟩
theorem a0_29 : AtI code 29 (.iushr) 1 30 := ⟨by decide +kernel, rfl⟩
theorem a0_30 : AtI code 30 (.bipush 10) 2 32 := ⟨by decide +kernel, rfl⟩
theorem a0_32 : AtI code 32 (.irem) 1 33 := ⟨by decide +kernel, rfl⟩
theorem a0_33 : AtI code 33 (.istore 9) 2 35 := ⟨by decide +kernel, rfl⟩
theorem a0_35 : AtI code 35 (.new 15) 3 38 := ⟨by decide +kernel, rfl⟩
theorem a0_38 : AtI code 38 (.dup) 1 39 := ⟨by decide +kernel, rfl⟩
theorem a0_39 : AtI code 39 (.invokespecial 17) 3 42 := ⟨by decide +kernel, rfl⟩
theorem a0_42 : AtI code 42 (.astore 10) 2 44 := ⟨by decide +kernel, rfl⟩
theorem a0_44 : AtI code 44 (.iload 7) 2 46 := ⟨by decide +kernel, rfl⟩
theorem a0_46 : AtJ code 46 (.ifCond .le) 49 67 := ⟨21, by decide +kernel, rfl, by decide, rfl⟩
theorem a0_49 : AtI code 49 (.aload 10) 2 51 := ⟨by decide +kernel, rfl⟩
theorem a0_51 : AtI code 51 (.iload_n 0) 1 52 := ⟨by decide +kernel, rfl⟩
theorem a0_52 : AtI code 52 (.iload 6) 2 54 := ⟨by decide +kernel, rfl⟩
theorem a0_54 : AtI code 54 (.iconst 0) 1 55 := ⟨by decide +kernel, rfl⟩
theorem a0_55 : AtI code 55 (.invokestatic 18) 3 58 := ⟨by decide +kernel, rfl⟩
theorem a0_58 : AtI code 58 (.iload_n 2) 1 59 := ⟨by decide +kernel, rfl⟩
theorem a0_59 : AtI code 59 (.iload_n 3) 1 60 := ⟨by decide +kernel, rfl⟩
theorem a0_60 : AtI code 60 (.iconst 0) 1 61 := ⟨by decide +kernel, rfl⟩
theorem a0_61 : AtI code 61 (.invokestatic 8) 3 64 := ⟨by decide +kernel, rfl⟩
theorem a0_64 : AtI code 64 (.invokevirtual 21) 3 67 := ⟨by decide +kernel, rfl⟩
theorem a0_67 : AtI code 67 (.iload 7) 2 69 := ⟨by decide +kernel, rfl⟩
theorem a0_69 : AtI code 69 (.iconst 1) 1 70 := ⟨by decide +kernel, rfl⟩
theorem a0_70 : AtJ code 70 (.if_icmp .le) 73 91 := ⟨21, by decide +kernel, rfl, by decide, rfl⟩
theorem a0_73 : AtI code 73 (.aload 10) 2 75 := ⟨by decide +kernel, rfl⟩
theorem a0_75 : AtI code 75 (.iload_n 0) 1 76 := ⟨by decide +kernel, rfl⟩
theorem a0_76 : AtI code 76 (.iload 6) 2 78 := ⟨by decide +kernel, rfl⟩
theorem a0_78 : AtI code 78 (.iconst 1) 1 79 := ⟨by decide +kernel, rfl⟩
theorem a0_79 : AtI code 79 (.invokestatic 18) 3 82 := ⟨by decide +kernel, rfl⟩
theorem a0_82 : AtI code 82 (.iload_n 2) 1 83 := ⟨by decide +kernel, rfl⟩
theorem a0_83 : AtI code 83 (.iload_n 3) 1 84 := ⟨by decide +kernel, rfl⟩
theorem a0_84 : AtI code 84 (.iconst 1) 1 85 := ⟨by decide +kernel, rfl⟩
theorem a0_85 : AtI code 85 (.invokestatic 8) 3 88 := ⟨by decide +kernel, rfl⟩
theorem a0_88 : AtI code 88 (.invokevirtual 21) 3 91 := ⟨by decide +kernel, rfl⟩
theorem a0_91 : AtI code 91 (.iload 7) 2 93 := ⟨by decide +kernel, rfl⟩
theorem a0_93 : AtI code 93 (.iconst 2) 1 94 := ⟨by decide +kernel, rfl⟩
theorem a0_94 : AtJ code 94 (.if_icmp .le) 97 115 := ⟨21, by decide +kernel, rfl, by decide, rfl⟩
theorem a0_97 : AtI code 97 (.aload 10) 2 99 := ⟨by decide +kernel, rfl⟩
theorem a0_99 : AtI code 99 (.iload_n 0) 1 100 := ⟨by decide +kernel, rfl⟩
theorem a0_100 : AtI code 100 (.iload 6) 2 102 := ⟨by decide +kernel, rfl⟩
theorem a0_102 : AtI code 102 (.iconst 2) 1 103 := ⟨by decide +kernel, rfl⟩
theorem a0_103 : AtI code 103 (.invokestatic 18) 3 106 := ⟨by decide +kernel, rfl⟩
theorem a0_106 : AtI code 106 (.iload_n 2) 1 107 := ⟨by decide +kernel, rfl⟩
theorem a0_107 : AtI code 107 (.iload_n 3) 1 108 := ⟨by decide +kernel, rfl⟩
theorem a0_108 : AtI code 108 (.iconst 2) 1 109 := ⟨by decide +kernel, rfl⟩
theorem a0_109 : AtI code 109 (.invokestatic 8) 3 112 := ⟨by decide +kernel, rfl⟩
theorem a0_112 : AtI code 112 (.invokevirtual 21) 3 115 := ⟨by decide +kernel, rfl⟩
theorem a0_115 : AtI code 115 (.iload 7) 2 117 := ⟨by decide +kernel, rfl⟩
theorem a0_117 : AtI code 117 (.iconst 3) 1 118 := ⟨by decide +kernel, rfl⟩
theorem a0_118 : AtJ code 118 (.if_icmp .le) 121 139 := ⟨21, by decide +kernel, rfl, by decide, rfl⟩
theorem a0_121 : AtI code 121 (.aload 10) 2 123 := ⟨by decide +kernel, rfl⟩
theorem a0_123 : AtI code 123 (.iload_n 0) 1 124 := ⟨by decide +kernel, rfl⟩
theorem a0_124 : AtI code 124 (.iload 6) 2 126 := ⟨by decide +kernel, rfl⟩
theorem a0_126 : AtI code 126 (.iconst 3) 1 127 := ⟨by decide +kernel, rfl⟩
theorem a0_127 : AtI code 127 (.invokestatic 18) 3 130 := ⟨by decide +kernel, rfl⟩
theorem a0_130 : AtI code 130 (.iload_n 2) 1 131 := ⟨by decide +kernel, rfl⟩
theorem a0_131 : AtI code 131 (.iload_n 3) 1 132 := ⟨by decide +kernel, rfl⟩
theorem a0_132 : AtI code 132 (.iconst 3) 1 133 := ⟨by decide +kernel, rfl⟩
theorem a0_133 : AtI code 133 (.invokestatic 8) 3 136 := ⟨by decide +kernel, rfl⟩
theorem a0_136 : AtI code 136 (.invokevirtual 21) 3 139 := ⟨by decide +kernel, rfl⟩
theorem a0_139 : AtI code 139 (.iload 7) 2 141 := ⟨by decide +kernel, rfl⟩
theorem a0_141 : AtI code 141 (.iconst 4) 1 142 := ⟨by decide +kernel, rfl⟩
theorem a0_142 : AtJ code 142 (.if_icmp .le) 145 163 := ⟨21, by decide +kernel, rfl, by decide, rfl⟩
theorem a0_145 : AtI code 145 (.aload 10) 2 147 := ⟨by decide +kernel, rfl⟩
theorem a0_147 : AtI code 147 (.iload_n 0) 1 148 := ⟨by decide +kernel, rfl⟩
theorem a0_148 : AtI code 148 (.iload 6) 2 150 := ⟨by decide +kernel, rfl⟩
theorem a0_150 : AtI code 150 (.iconst 4) 1 151 := ⟨by decide +kernel, rfl⟩
theorem a0_151 : AtI code 151 (.invokestatic 18) 3 154 := ⟨by decide +kernel, rfl⟩
theorem a0_154 : AtI code 154 (.iload_n 2) 1 155 := ⟨by decide +kernel, rfl⟩
theorem a0_155 : AtI code 155 (.iload_n 3) 1 156 := ⟨by decide +kernel, rfl⟩
theorem a0_156 : AtI code 156 (.iconst 4) 1 157 := ⟨by decide +kernel, rfl⟩
theorem a0_157 : AtI code 157 (.invokestatic 8) 3 160 := ⟨by decide +kernel, rfl⟩
theorem a0_160 : AtI code 160 (.invokevirtual 21) 3 163 := ⟨by decide +kernel, rfl⟩
theorem a0_163 : AtI code 163 (.iload 7) 2 165 := ⟨by decide +kernel, rfl⟩
theorem a0_165 : AtI code 165 (.iconst 5) 1 166 := ⟨by decide +kernel, rfl⟩
theorem a0_166 : AtJ code 166 (.if_icmp .le) 169 187 := ⟨21, by decide +kernel, rfl, by decide, rfl⟩
theorem a0_169 : AtI code 169 (.aload 10) 2 171 := ⟨by decide +kernel, rfl⟩
theorem a0_171 : AtI code 171 (.iload_n 0) 1 172 := ⟨by decide +kernel, rfl⟩
theorem a0_172 : AtI code 172 (.iload 6) 2 174 := ⟨by decide +kernel, rfl⟩
theorem a0_174 : AtI code 174 (.iconst 5) 1 175 := ⟨by decide +kernel, rfl⟩
theorem a0_175 : AtI code 175 (.invokestatic 18) 3 178 := ⟨by decide +kernel, rfl⟩
theorem a0_178 : AtI code 178 (.iload_n 2) 1 179 := ⟨by decide +kernel, rfl⟩
theorem a0_179 : AtI code 179 (.iload_n 3) 1 180 := ⟨by decide +kernel, rfl⟩
theorem a0_180 : AtI code 180 (.iconst 5) 1 181 := ⟨by decide +kernel, rfl⟩
theorem a0_181 : AtI code 181 (.invokestatic 8) 3 184 := ⟨by decide +kernel, rfl⟩
theorem a0_184 : AtI code 184 (.invokevirtual 21) 3 187 := ⟨by decide +kernel, rfl⟩
theorem a0_187 : AtI code 187 (.iload 7) 2 189 := ⟨by decide +kernel, rfl⟩
theorem a0_189 : AtI code 189 (.bipush 6) 2 191 := ⟨by decide +kernel, rfl⟩
theorem a0_191 : AtJ code 191 (.if_icmp .le) 194 214 := ⟨23, by decide +kernel, rfl, by decide, rfl⟩
theorem a0_194 : AtI code 194 (.aload 10) 2 196 := ⟨by decide +kernel, rfl⟩
theorem a0_196 : AtI code 196 (.iload_n 0) 1 197 := ⟨by decide +kernel, rfl⟩
theorem a0_197 : AtI code 197 (.iload 6) 2 199 := ⟨by decide +kernel, rfl⟩
theorem a0_199 : AtI code 199 (.bipush 6) 2 201 := ⟨by decide +kernel, rfl⟩
theorem a0_201 : AtI code 201 (.invokestatic 18) 3 204 := ⟨by decide +kernel, rfl⟩
theorem a0_204 : AtI code 204 (.iload_n 2) 1 205 := ⟨by decide +kernel, rfl⟩
theorem a0_205 : AtI code 205 (.iload_n 3) 1 206 := ⟨by decide +kernel, rfl⟩
theorem a0_206 : AtI code 206 (.bipush 6) 2 208 := ⟨by decide +kernel, rfl⟩
theorem a0_208 : AtI code 208 (.invokestatic 8) 3 211 := ⟨by decide +kernel, rfl⟩
theorem a0_211 : AtI code 211 (.invokevirtual 21) 3 214 := ⟨by decide +kernel, rfl⟩
theorem a0_214 : AtI code 214 (.iload 7) 2 216 := ⟨by decide +kernel, rfl⟩
theorem a0_216 : AtI code 216 (.bipush 7) 2 218 := ⟨by decide +kernel, rfl⟩
theorem a0_218 : AtJ code 218 (.if_icmp .le) 221 241 := ⟨23, by decide +kernel, rfl, by decide, rfl⟩
theorem a0_221 : AtI code 221 (.aload 10) 2 223 := ⟨by decide +kernel, rfl⟩
theorem a0_223 : AtI code 223 (.iload_n 0) 1 224 := ⟨by decide +kernel, rfl⟩
theorem a0_224 : AtI code 224 (.iload 6) 2 226 := ⟨by decide +kernel, rfl⟩
theorem a0_226 : AtI code 226 (.bipush 7) 2 228 := ⟨by decide +kernel, rfl⟩
theorem a0_228 : AtI code 228 (.invokestatic 18) 3 231 := ⟨by decide +kernel, rfl⟩
theorem a0_231 : AtI code 231 (.iload_n 2) 1 232 := ⟨by decide +kernel, rfl⟩
theorem a0_232 : AtI code 232 (.iload_n 3) 1 233 := ⟨by decide +kernel, rfl⟩
theorem a0_233 : AtI code 233 (.bipush 7) 2 235 := ⟨by decide +kernel, rfl⟩
theorem a0_235 : AtI code 235 (.invokestatic 8) 3 238 := ⟨by decide +kernel, rfl⟩
theorem a0_238 : AtI code 238 (.invokevirtual 21) 3 241 := ⟨by decide +kernel, rfl⟩
theorem a0_241 : AtI code 241 (.iload 7) 2 243 := ⟨by decide +kernel, rfl⟩
theorem a0_243 : AtI code 243 (.bipush 8) 2 245 := ⟨by decide +kernel, rfl⟩
theorem a0_245 : AtJ code 245 (.if_icmp .le) 248 268 := ⟨23, by decide +kernel, rfl, by decide, rfl⟩
theorem a0_248 : AtI code 248 (.aload 10) 2 250 := ⟨by decide +kernel, rfl⟩
theorem a0_250 : AtI code 250 (.iload_n 0) 1 251 := ⟨by decide +kernel, rfl⟩
theorem a0_251 : AtI code 251 (.iload 6) 2 253 := ⟨by decide +kernel, rfl⟩
theorem a0_253 : AtI code 253 (.bipush 8) 2 255 := ⟨by decide +kernel, rfl⟩
theorem a0_255 : AtI code 255 (.invokestatic 18) 3 258 := ⟨by decide +kernel, rfl⟩
theorem a0_258 : AtI code 258 (.iload_n 2) 1 259 := ⟨by decide +kernel, rfl⟩
theorem a0_259 : AtI code 259 (.iload_n 3) 1 260 := ⟨by decide +kernel, rfl⟩
theorem a0_260 : AtI code 260 (.bipush 8) 2 262 := ⟨by decide +kernel, rfl⟩
theorem a0_262 : AtI code 262 (.invokestatic 8) 3 265 := ⟨by decide +kernel, rfl⟩
theorem a0_265 : AtI code 265 (.invokevirtual 21) 3 268 := ⟨by decide +kernel, rfl⟩
theorem a0_268 : AtI code 268 (.aload 10) 2 270 := ⟨by decide +kernel, rfl⟩
theorem a0_270 : AtI code 270 (.iload_n 0) 1 271 := ⟨by decide +kernel, rfl⟩
theorem a0_271 : AtI code 271 (.iload 6) 2 273 := ⟨by decide +kernel, rfl⟩
theorem a0_273 : AtI code 273 (.iload 8) 2 275 := ⟨by decide +kernel, rfl⟩
theorem a0_275 : AtI code 275 (.invokestatic 18) 3 278 := ⟨by decide +kernel, rfl⟩
theorem a0_278 : AtI code 278 (.invokevirtual 25) 3 281 := ⟨by decide +kernel, rfl⟩
theorem a0_281 : AtI code 281 (.istore 11) 2 283 := ⟨by decide +kernel, rfl⟩
theorem a0_283 : AtI code 283 (.aload 10) 2 285 := ⟨by decide +kernel, rfl⟩
theorem a0_285 : AtI code 285 (.iload_n 0) 1 286 := ⟨by decide +kernel, rfl⟩
theorem a0_286 : AtI code 286 (.iload 6) 2 288 := ⟨by decide +kernel, rfl⟩
theorem a0_288 : AtI code 288 (.iload 9) 2 290 := ⟨by decide +kernel, rfl⟩
theorem a0_290 : AtI code 290 (.invokestatic 18) 3 293 := ⟨by decide +kernel, rfl⟩
theorem a0_293 : AtI code 293 (.invokevirtual 25) 3 296 := ⟨by decide +kernel, rfl⟩
theorem a0_296 : AtI code 296 (.istore 12) 2 298 := ⟨by decide +kernel, rfl⟩
theorem a0_298 : AtI code 298 (.iload 11) 2 300 := ⟨by decide +kernel, rfl⟩
theorem a0_300 : AtI code 300 (.iload_n 2) 1 301 := ⟨by decide +kernel, rfl⟩
theorem a0_301 : AtI code 301 (.iload_n 3) 1 302 := ⟨by decide +kernel, rfl⟩
theorem a0_302 : AtI code 302 (.iload 8) 2 304 := ⟨by decide +kernel, rfl⟩
theorem a0_304 : AtI code 304 (.iload 7) 2 306 := ⟨by decide +kernel, rfl⟩
theorem a0_306 : AtI code 306 (.invokestatic 29) 3 309 := ⟨by decide +kernel, rfl⟩
theorem a0_309 : AtJ code 309 (.if_icmp .ne) 312 330 := ⟨21, by decide +kernel, rfl, by decide, rfl⟩
theorem a0_312 : AtI code 312 (.iload 12) 2 314 := ⟨by decide +kernel, rfl⟩
theorem a0_314 : AtI code 314 (.iload_n 2) 1 315 := ⟨by decide +kernel, rfl⟩
theorem a0_315 : AtI code 315 (.iload_n 3) 1 316 := ⟨by decide +kernel, rfl⟩
theorem a0_316 : AtI code 316 (.iload 9) 2 318 := ⟨by decide +kernel, rfl⟩
theorem a0_318 : AtI code 318 (.iload 7) 2 320 := ⟨by decide +kernel, rfl⟩
theorem a0_320 : AtI code 320 (.invokestatic 29) 3 323 := ⟨by decide +kernel, rfl⟩
theorem a0_323 : AtJ code 323 (.if_icmp .ne) 326 330 := ⟨7, by decide +kernel, rfl, by decide, rfl⟩
theorem a0_326 : AtI code 326 (.iconst 1) 1 327 := ⟨by decide +kernel, rfl⟩
theorem a0_327 : AtJ code 327 (.goto) 330 331 := ⟨4, by decide +kernel, rfl, by decide, rfl⟩
theorem a0_330 : AtI code 330 (.iconst 0) 1 331 := ⟨by decide +kernel, rfl⟩
theorem a0_331 : AtI code 331 (.ireturn) 1 332 := ⟨by decide +kernel, rfl⟩
abbrev g9i (Z : State) (ρ : Nat → Nat) (n0 j0 u0 : Nat) : WMC := ((Z, ρ, n0), ("com/example/tributary/tributary/facts/PlaceMap", prog_7_method_3_code, "put", none, 4), (j0, u0, 1, 15))
theorem ok9i {Z : State} {a0 : Array Value} (hw : ∀ d ∈ tables_1, d.before a0 Z = true) (ρ : Nat → Nat) (n0 j0 u0 : Nat) : WCallee Z a0 (⟨"com/example/tributary/tributary/facts/PlaceMap", "put", "(II)V"⟩ : MethodName) (g9i Z ρ n0 j0 u0) 2 :=
  ⟨pl9, (by decide), rfl, rfl, rfl, (wd hw 4 rfl), (wd hw 49 rfl), fun sig h => by cases pd9.symm.trans h; rfl⟩
def QSA (ks ns fl : List Int32) (c place : Int32) (u : Nat) (v : Option Value) (σ' : WHp) (u' : Nat) : Prop := ∃ (s k : Int32), v = some (.int s) ∧ 0 ≤ s.toInt ∧ s.toInt < 16 ∧ ks[s.toNatClampNeg]? = some k ∧ (k = 0 ∨ k = place + 1) ∧ PPath ks 16 (whash 28 place) (place + 1) s.toNatClampNeg ∧ [(.inr (cn0, [(fk0, .ref 1), (fk1, .ref 2), (fk2, .ref 3), (fk3, .int 28), (fk4, (.int c))])), (wAI (ia ks)), (wAI (ia ns)), (wAI (ia fl))] = σ' ∧ u = u'
theorem slA {Z : State} {a0 : Array Value} (hw : ∀ d ∈ tables_1, d.before a0 Z = true) (ρ : Nat → Nat) (n0 : Nat)  (place c : Int32) (ks ns fl : List Int32) (u : Nat) (hlen : ks.length = 16) (hz : ∃ z, z < 16 ∧ ks[z]? = some 0) : ∀ (m d : Nat) (t : Int32), d + m = 16 → t.toInt = ((whash 28 place + d) % 16 : Nat) → (∀ e, e < d → ∃ k, ks[(whash 28 place + e) % 16]? = some k ∧ k ≠ 0 ∧ k ≠ place + 1) → WGo (g6 Z ρ n0 4 u) (18, [wR 0, wI place, wI 15, wI t], [], [(.inr (cn0, [(fk0, .ref 1), (fk1, .ref 2), (fk2, .ref 3), (fk3, .int 28), (fk4, (.int c))])), (wAI (ia ks)), (wAI (ia ns)), (wAI (ia fl))], u) (QSA ks ns fl c place u) := by
  intro m
  induction m with
  | zero =>
    intro d t hd ht hp
    exact (all_full (by decide) hz (fun e he => hp e (by omega))).elim
  | succ m ih =>
    intro d t hd ht hp
    have hb : (whash 28 place + d) % 16 < 16 := Nat.mod_lt _ (by decide)
    have h0 : 0 ≤ t.toInt := by omega
    have h1 : t.toInt < 16 := by omega
    have ec : t.toNatClampNeg = (whash 28 place + d) % 16 := by simp only [Int32.toNatClampNeg]; omega
    obtain ⟨k, hk⟩ : ∃ k, ks[t.toNatClampNeg]? = some k := ⟨_, List.getElem?_eq_getElem (by rw [hlen]; exact nlt h0 h1)⟩
    have hpath : PPath ks 16 (whash 28 place) (place + 1) t.toNatClampNeg := ⟨d, by omega, ec, hp⟩
    refine .s (.aloadN a6_18 rfl rfl) <| .s (.getF 0 a6_19 (wd hw 12 rfl) rfl rfl) <| .s (.iloadN a6_22 rfl) <| .s (.iaload (t.toNatClampNeg) (v := (.int k)) a6_23 rfl (nn h0) rfl (ia_get hk)) ?_
    refine .eq0 a6_24 (fun h24 => ?_) (fun h24 => ?_)
    · refine .s (.iloadN a6_48 rfl) ?_
      refine .ireturn .int a6_49 rfl (by simp) ?_
      exact ⟨t, k, rfl, h0, h1, hk, Or.inl h24, hpath, rfl, rfl⟩
    · refine .s (.aloadN a6_27 rfl rfl) <| .s (.getF 0 a6_28 (wd hw 12 rfl) rfl rfl) <| .s (.iloadN a6_31 rfl) <| .s (.iaload (t.toNatClampNeg) (v := (.int k)) a6_32 rfl (nn h0) rfl (ia_get hk)) <| .s (.iloadN a6_33 rfl) <| .s (.iconst (1 : Int32) a6_34 rfl) <| .s (.iadd a6_35) ?_
      refine .eq a6_36 (fun h36 => ?_) (fun h36 => ?_)
      · refine .s (.iloadN a6_48 rfl) ?_
        refine .ireturn .int a6_49 rfl (by simp) ?_
        exact ⟨t, k, rfl, h0, h1, hk, Or.inr h36, hpath, rfl, rfl⟩
      · refine .s (.iloadN a6_39 rfl) <| .s (.iconst (1 : Int32) a6_40 rfl) <| .s (.iadd a6_41) <| .s (.iloadN a6_42 rfl) <| .s (.iand a6_43) <| .s (.istoreN (L' := [wR 0, wI place, wI 15, wI ((t + (1 : Int32)) &&& (15 : Int32))]) a6_44 rfl) <| .s (.goto a6_45) ?_
        refine ih (d + 1) _ (by omega) (step_at t 15 4 16 d _ (by decide) (by decide) rfl (by decide) ht) fun e he => ?_
        rcases Nat.lt_or_ge e d with q | q
        · exact hp e q
        · have e1 : e = d := by omega
          subst e1
          exact ⟨k, by rw [← ec]; exact hk, h24, h36⟩
theorem cslotA {Z : State} {a0 : Array Value} (hw : ∀ d ∈ tables_1, d.before a0 Z = true) (ρ : Nat → Nat) (n0 : Nat)  (place c : Int32) (ks ns fl : List Int32) (u : Nat) (hlen : ks.length = 16) (hz : ∃ z, z < 16 ∧ ks[z]? = some 0) : WGo (g6 Z ρ n0 4 u) (0, [wR 0, wI place, wU, wU], [], [(.inr (cn0, [(fk0, .ref 1), (fk1, .ref 2), (fk2, .ref 3), (fk3, .int 28), (fk4, (.int c))])), (wAI (ia ks)), (wAI (ia ns)), (wAI (ia fl))], u) (QSA ks ns fl c place u) := by
  refine .s (.aloadN a6_0 rfl rfl) <| .s (.getF 0 a6_1 (wd hw 12 rfl) rfl rfl) <| .s (.alen (16 : Int32) a6_4 rfl (by rw [ia_len, hlen]; rfl)) <| .s (.iconst (1 : Int32) a6_5 rfl) <| .s (.isub a6_6) ?_
  show WGo _ (7, [wR 0, wI place, wU, wU], [.int 15], [(.inr (cn0, [(fk0, .ref 1), (fk1, .ref 2), (fk2, .ref 3), (fk3, .int 28), (fk4, (.int c))])), (wAI (ia ks)), (wAI (ia ns)), (wAI (ia fl))], u) _
  refine .s (.istoreN (L' := [wR 0, wI place, wI 15, wU]) a6_7 rfl) <| .s (.iloadN a6_8 rfl) <| .s (.ldc a6_9 (wd hw 38 rfl)) <| .s (.imul a6_11) <| .s (.aloadN a6_12 rfl rfl) <| .s (.getF 3 a6_13 (wd hw 23 rfl) rfl rfl) <| .s (.iushr a6_16) ?_
  refine .s (.istoreN (L' := [wR 0, wI place, wI 15, wI (((place * (-1640531527 : Int32)).toUInt32 >>> ((28 : Int32) &&& 31).toUInt32).toInt32)]) a6_17 rfl) ?_
  refine slA hw ρ n0 place c ks ns fl u hlen hz 16 0 _ rfl ?_ (fun e he => absurd he (Nat.not_lt_zero e))
  rw [whash_at place 28 28 (by decide) (by decide), Nat.add_zero]
  have : whash 28 place < 16 := by unfold whash; have := Int.emod_lt_of_pos (place * (-1640531527 : Int32)).toInt (show (0 : Int) < 4294967296 by decide); have := Int.emod_nonneg (place * (-1640531527 : Int32)).toInt (show (4294967296 : Int) ≠ 0 by decide); omega
  rw [Nat.mod_eq_of_lt this]
theorem cgetA {Z : State} {a0 : Array Value} (hw : ∀ d ∈ tables_1, d.before a0 Z = true) (ρ : Nat → Nat) (n0 : Nat) (ks ns fl : List Int32) (E : List WEnt) (x c : Int32) (hR : WRep 16 (whash 28) ks ns fl E) (u : Nat) : WGo (g5 Z ρ n0 4 u) (0, [wR 0, wI x, wU], [], [(.inr (cn0, [(fk0, .ref 1), (fk1, .ref 2), (fk2, .ref 3), (fk3, .int 28), (fk4, (.int c))])), (wAI (ia ks)), (wAI (ia ns)), (wAI (ia fl))], u) (fun v σ' u' => v = some (.int (wlook E x)) ∧ [(.inr (cn0, [(fk0, .ref 1), (fk1, .ref 2), (fk2, .ref 3), (fk3, .int 28), (fk4, (.int c))])), (wAI (ia ks)), (wAI (ia ns)), (wAI (ia fl))] = σ' ∧ u = u') := by
  have hget := fun (s : Nat) (k : Int32) => WRep.get hR (x := x) (s := s) (k := k)
  refine .s (.aloadN a5_0 rfl rfl) <| .s (.iloadN a5_1 rfl) ?_
  refine .callP (k := 0) a5_2 (ok6 hw _ _ _ _) (wd hw 34 rfl) (wd hw 35 rfl) (selP (wd hw 3 rfl) (wd hw 35 rfl) (wd hw 36 rfl) (by decide)) (wd hw 36 rfl) rfl (argsL := [(.int x)]) (S := []) (cslotA hw _ _ x _ _ _ _ _ hR.1 (WRep.zero hR (by decide))) rfl rfl rfl rfl rfl rfl (Nat.le_of_ble_eq_true rfl) (Nat.le_of_ble_eq_true rfl) ?_
  rintro _ _ _ ⟨s, k, rfl, s0, s1, sk, hend, hpath, rfl, rfl⟩
  show WGo _ (5, [wR 0, wI x, wU], [(.int s)], [(.inr (cn0, [(fk0, .ref 1), (fk1, .ref 2), (fk2, .ref 3), (fk3, .int 28), (fk4, (.int c))])), (wAI (ia ks)), (wAI (ia ns)), (wAI (ia fl))], u) _
  refine .s (.istoreN (L' := [wR 0, wI x, wI s]) a5_5 rfl) <| .s (.aloadN a5_6 rfl rfl) <| .s (.getF 0 a5_7 (wd hw 12 rfl) rfl rfl) <| .s (.iloadN a5_10 rfl) <| .s (.iaload (s.toNatClampNeg) (v := (.int k)) a5_11 rfl (nn s0) rfl (ia_get sk)) ?_
  refine .eq0 a5_12 (fun h12 => ?_) (fun h12 => ?_)
  · refine .s (.iconst (-1 : Int32) a5_24 rfl) ?_
    refine .ireturn .int a5_25 rfl (by simp) ?_
    exact ⟨by rw [(hget _ _ (nlt s0 s1) sk hend hpath).1 h12]; rfl, rfl, rfl⟩
  · refine .s (.aloadN a5_15 rfl rfl) <| .s (.getF 1 a5_16 (wd hw 14 rfl) rfl rfl) <| .s (.iloadN a5_19 rfl) <| .s (.iaload (s.toNatClampNeg) (v := (.int (wlook E x))) a5_20 rfl (nn s0) rfl (ia_get ((hget _ _ (nlt s0 s1) sk hend hpath).2 h12))) <| .s (.goto a5_21) ?_
    refine .ireturn .int a5_25 rfl (by simp) ?_
    exact ⟨rfl, rfl, rfl⟩
theorem cputA_0 {Z : State} {a0 : Array Value} (hw : ∀ d ∈ tables_1, d.before a0 Z = true) (ρ : Nat → Nat) (n0 : Nat) (ks ns fl : List Int32) (E : List WEnt) (p n : Int32) (hR : WRep 16 (whash 28) ks ns fl E) (hc : E.length = 0) (hp : p + 1 ≠ 0) (hnew : ∀ x ∈ E, ¬ x.2.1 = p) (u : Nat) : WGo (g9 Z ρ n0 4 u) (0, [wR 0, wI p, wI n, wU], [], [(.inr (cn0, [(fk0, .ref 1), (fk1, .ref 2), (fk2, .ref 3), (fk3, .int 28), (fk4, .int 0)])), (wAI (ia ks)), (wAI (ia ns)), (wAI (ia fl))], u) (fun v σ' u' => ∃ (ks' ns' fl' : List Int32) (s : Nat), WRep 16 (whash 28) ks' ns' fl' (E ++ [(s, p, n)]) ∧ v = none ∧ [(.inr (cn0, [(fk0, .ref 1), (fk1, .ref 2), (fk2, .ref 3), (fk3, .int 28), (fk4, .int 1)])), (wAI (ia ks')), (wAI (ia ns')), (wAI (ia fl'))] = σ' ∧ u = u') := by
  have hlk := hR.1
  have hln := hR.2.1
  have hlf := hR.2.2.1
  refine .s (.iconst (2 : Int32) a9_0 rfl) <| .s (.aloadN a9_1 rfl rfl) <| .s (.getF 4 a9_2 (wd hw 50 rfl) rfl rfl) <| .s (.iconst (1 : Int32) a9_5 rfl) <| .s (.iadd a9_6) ?_
  show WGo _ (7, [wR 0, wI p, wI n, wU], [.int 1, .int 2], [(.inr (cn0, [(fk0, .ref 1), (fk1, .ref 2), (fk2, .ref 3), (fk3, .int 28), (fk4, .int 0)])), (wAI (ia ks)), (wAI (ia ns)), (wAI (ia fl))], u) _
  refine .s (.imul a9_7) ?_
  show WGo _ (8, [wR 0, wI p, wI n, wU], [.int 2], [(.inr (cn0, [(fk0, .ref 1), (fk1, .ref 2), (fk2, .ref 3), (fk3, .int 28), (fk4, .int 0)])), (wAI (ia ks)), (wAI (ia ns)), (wAI (ia fl))], u) _
  refine .s (.aloadN a9_8 rfl rfl) <| .s (.getF 0 a9_9 (wd hw 12 rfl) rfl rfl) <| .s (.alen (16 : Int32) a9_12 rfl (by rw [ia_len, hlk]; rfl)) <| .s (.icmpT a9_13 (by decide)) <| .s (.aloadN a9_20 rfl rfl) <| .s (.iloadN a9_21 rfl) ?_
  refine .callP (k := 0) a9_22 (ok6 hw _ _ _ _) (wd hw 34 rfl) (wd hw 35 rfl) (selP (wd hw 3 rfl) (wd hw 35 rfl) (wd hw 36 rfl) (by decide)) (wd hw 36 rfl) rfl (argsL := [(.int p)]) (S := []) (cslotA hw _ _ p _ _ _ _ _ hR.1 (WRep.zero hR (by decide))) rfl rfl rfl rfl rfl rfl (Nat.le_of_ble_eq_true rfl) (Nat.le_of_ble_eq_true rfl) ?_
  rintro _ _ _ ⟨s, k, rfl, s0, s1, sk, hend, hpath, rfl, rfl⟩
  show WGo _ (25, [wR 0, wI p, wI n, wU], [(.int s)], [(.inr (cn0, [(fk0, .ref 1), (fk1, .ref 2), (fk2, .ref 3), (fk3, .int 28), (fk4, .int 0)])), (wAI (ia ks)), (wAI (ia ns)), (wAI (ia fl))], u) _
  refine .s (.istoreN (L' := [wR 0, wI p, wI n, wI s]) a9_25 rfl) <| .s (.aloadN a9_26 rfl rfl) <| .s (.getF 0 a9_27 (wd hw 12 rfl) rfl rfl) <| .s (.iloadN a9_30 rfl) <| .s (.iloadN a9_31 rfl) <| .s (.iconst (1 : Int32) a9_32 rfl) <| .s (.iadd a9_33) ?_
  refine .s (.iastore (s.toNatClampNeg) a9_34 rfl (nn s0) rfl (by rw [ia_len, hlk]; exact nlt s0 s1)) ?_
  rw [ia_set]
  show WGo _ (35, [wR 0, wI p, wI n, wI s], [], [(.inr (cn0, [(fk0, .ref 1), (fk1, .ref 2), (fk2, .ref 3), (fk3, .int 28), (fk4, .int 0)])), (wAI (ia (ks.set s.toNatClampNeg (p + 1)))), (wAI (ia ns)), (wAI (ia fl))], u) _
  refine .s (.aloadN a9_35 rfl rfl) <| .s (.getF 1 a9_36 (wd hw 14 rfl) rfl rfl) <| .s (.iloadN a9_39 rfl) <| .s (.iloadN a9_40 rfl) <| .s (.iastore (s.toNatClampNeg) a9_41 rfl (nn s0) rfl (by rw [ia_len, hln]; exact nlt s0 s1)) ?_
  rw [ia_set]
  show WGo _ (42, [wR 0, wI p, wI n, wI s], [], [(.inr (cn0, [(fk0, .ref 1), (fk1, .ref 2), (fk2, .ref 3), (fk3, .int 28), (fk4, .int 0)])), (wAI (ia (ks.set s.toNatClampNeg (p + 1)))), (wAI (ia (ns.set s.toNatClampNeg n))), (wAI (ia fl))], u) _
  refine .s (.aloadN a9_42 rfl rfl) <| .s (.getF 2 a9_43 (wd hw 16 rfl) rfl rfl) <| .s (.aloadN a9_46 rfl rfl) <| .s (.dup a9_47 rfl) <| .s (.getF 4 a9_48 (wd hw 50 rfl) rfl rfl) <| .s (.dupX1 a9_51 rfl rfl) <| .s (.iconst (1 : Int32) a9_52 rfl) ?_
  refine .s (.iadd a9_53) ?_
  show WGo _ (54, [wR 0, wI p, wI n, wI s], [.int 1, .ref 0, .int 0, .ref 3], [(.inr (cn0, [(fk0, .ref 1), (fk1, .ref 2), (fk2, .ref 3), (fk3, .int 28), (fk4, .int 0)])), (wAI (ia (ks.set s.toNatClampNeg (p + 1)))), (wAI (ia (ns.set s.toNatClampNeg n))), (wAI (ia fl))], u) _
  refine .s (.putF (ty := .int) 4 (.int 1) a9_54 (wd hw 50 rfl) rfl rfl (Or.inl (wd hw 51 rfl)) (wd hw 3 rfl) (by decide) rfl rfl) ?_
  show WGo _ (57, [wR 0, wI p, wI n, wI s], [.int 0, .ref 3], [(.inr (cn0, [(fk0, .ref 1), (fk1, .ref 2), (fk2, .ref 3), (fk3, .int 28), (fk4, .int 1)])), (wAI (ia (ks.set s.toNatClampNeg (p + 1)))), (wAI (ia (ns.set s.toNatClampNeg n))), (wAI (ia fl))], u) _
  refine .s (.iloadN a9_57 rfl) <| .s (.iastore (0) a9_58 rfl (by decide) rfl (by rw [ia_len]; omega)) ?_
  rw [ia_set]
  show WGo _ (59, [wR 0, wI p, wI n, wI s], [], [(.inr (cn0, [(fk0, .ref 1), (fk1, .ref 2), (fk2, .ref 3), (fk3, .int 28), (fk4, .int 1)])), (wAI (ia (ks.set s.toNatClampNeg (p + 1)))), (wAI (ia (ns.set s.toNatClampNeg n))), (wAI (ia (fl.set 0 s)))], u) _
  refine .vreturn a9_59 rfl ?_
  have hput := WRep.put hR (p := p) (n := n) (s := s.toNatClampNeg) (by omega) hp hnew (nlt s0 s1) (hend.elim (fun q => Or.inl (q ▸ sk)) (fun q => Or.inr (q ▸ sk))) hpath
  rw [hc, ofNat_back s0] at hput
  exact ⟨_, _, _, _, hput, rfl, rfl, rfl⟩
theorem cputA_1 {Z : State} {a0 : Array Value} (hw : ∀ d ∈ tables_1, d.before a0 Z = true) (ρ : Nat → Nat) (n0 : Nat) (ks ns fl : List Int32) (E : List WEnt) (p n : Int32) (hR : WRep 16 (whash 28) ks ns fl E) (hc : E.length = 1) (hp : p + 1 ≠ 0) (hnew : ∀ x ∈ E, ¬ x.2.1 = p) (u : Nat) : WGo (g9 Z ρ n0 4 u) (0, [wR 0, wI p, wI n, wU], [], [(.inr (cn0, [(fk0, .ref 1), (fk1, .ref 2), (fk2, .ref 3), (fk3, .int 28), (fk4, .int 1)])), (wAI (ia ks)), (wAI (ia ns)), (wAI (ia fl))], u) (fun v σ' u' => ∃ (ks' ns' fl' : List Int32) (s : Nat), WRep 16 (whash 28) ks' ns' fl' (E ++ [(s, p, n)]) ∧ v = none ∧ [(.inr (cn0, [(fk0, .ref 1), (fk1, .ref 2), (fk2, .ref 3), (fk3, .int 28), (fk4, .int 2)])), (wAI (ia ks')), (wAI (ia ns')), (wAI (ia fl'))] = σ' ∧ u = u') := by
  have hlk := hR.1
  have hln := hR.2.1
  have hlf := hR.2.2.1
  refine .s (.iconst (2 : Int32) a9_0 rfl) <| .s (.aloadN a9_1 rfl rfl) <| .s (.getF 4 a9_2 (wd hw 50 rfl) rfl rfl) <| .s (.iconst (1 : Int32) a9_5 rfl) <| .s (.iadd a9_6) ?_
  show WGo _ (7, [wR 0, wI p, wI n, wU], [.int 2, .int 2], [(.inr (cn0, [(fk0, .ref 1), (fk1, .ref 2), (fk2, .ref 3), (fk3, .int 28), (fk4, .int 1)])), (wAI (ia ks)), (wAI (ia ns)), (wAI (ia fl))], u) _
  refine .s (.imul a9_7) ?_
  show WGo _ (8, [wR 0, wI p, wI n, wU], [.int 4], [(.inr (cn0, [(fk0, .ref 1), (fk1, .ref 2), (fk2, .ref 3), (fk3, .int 28), (fk4, .int 1)])), (wAI (ia ks)), (wAI (ia ns)), (wAI (ia fl))], u) _
  refine .s (.aloadN a9_8 rfl rfl) <| .s (.getF 0 a9_9 (wd hw 12 rfl) rfl rfl) <| .s (.alen (16 : Int32) a9_12 rfl (by rw [ia_len, hlk]; rfl)) <| .s (.icmpT a9_13 (by decide)) <| .s (.aloadN a9_20 rfl rfl) <| .s (.iloadN a9_21 rfl) ?_
  refine .callP (k := 0) a9_22 (ok6 hw _ _ _ _) (wd hw 34 rfl) (wd hw 35 rfl) (selP (wd hw 3 rfl) (wd hw 35 rfl) (wd hw 36 rfl) (by decide)) (wd hw 36 rfl) rfl (argsL := [(.int p)]) (S := []) (cslotA hw _ _ p _ _ _ _ _ hR.1 (WRep.zero hR (by decide))) rfl rfl rfl rfl rfl rfl (Nat.le_of_ble_eq_true rfl) (Nat.le_of_ble_eq_true rfl) ?_
  rintro _ _ _ ⟨s, k, rfl, s0, s1, sk, hend, hpath, rfl, rfl⟩
  show WGo _ (25, [wR 0, wI p, wI n, wU], [(.int s)], [(.inr (cn0, [(fk0, .ref 1), (fk1, .ref 2), (fk2, .ref 3), (fk3, .int 28), (fk4, .int 1)])), (wAI (ia ks)), (wAI (ia ns)), (wAI (ia fl))], u) _
  refine .s (.istoreN (L' := [wR 0, wI p, wI n, wI s]) a9_25 rfl) <| .s (.aloadN a9_26 rfl rfl) <| .s (.getF 0 a9_27 (wd hw 12 rfl) rfl rfl) <| .s (.iloadN a9_30 rfl) <| .s (.iloadN a9_31 rfl) <| .s (.iconst (1 : Int32) a9_32 rfl) <| .s (.iadd a9_33) ?_
  refine .s (.iastore (s.toNatClampNeg) a9_34 rfl (nn s0) rfl (by rw [ia_len, hlk]; exact nlt s0 s1)) ?_
  rw [ia_set]
  show WGo _ (35, [wR 0, wI p, wI n, wI s], [], [(.inr (cn0, [(fk0, .ref 1), (fk1, .ref 2), (fk2, .ref 3), (fk3, .int 28), (fk4, .int 1)])), (wAI (ia (ks.set s.toNatClampNeg (p + 1)))), (wAI (ia ns)), (wAI (ia fl))], u) _
  refine .s (.aloadN a9_35 rfl rfl) <| .s (.getF 1 a9_36 (wd hw 14 rfl) rfl rfl) <| .s (.iloadN a9_39 rfl) <| .s (.iloadN a9_40 rfl) <| .s (.iastore (s.toNatClampNeg) a9_41 rfl (nn s0) rfl (by rw [ia_len, hln]; exact nlt s0 s1)) ?_
  rw [ia_set]
  show WGo _ (42, [wR 0, wI p, wI n, wI s], [], [(.inr (cn0, [(fk0, .ref 1), (fk1, .ref 2), (fk2, .ref 3), (fk3, .int 28), (fk4, .int 1)])), (wAI (ia (ks.set s.toNatClampNeg (p + 1)))), (wAI (ia (ns.set s.toNatClampNeg n))), (wAI (ia fl))], u) _
  refine .s (.aloadN a9_42 rfl rfl) <| .s (.getF 2 a9_43 (wd hw 16 rfl) rfl rfl) <| .s (.aloadN a9_46 rfl rfl) <| .s (.dup a9_47 rfl) <| .s (.getF 4 a9_48 (wd hw 50 rfl) rfl rfl) <| .s (.dupX1 a9_51 rfl rfl) <| .s (.iconst (1 : Int32) a9_52 rfl) ?_
  refine .s (.iadd a9_53) ?_
  show WGo _ (54, [wR 0, wI p, wI n, wI s], [.int 2, .ref 0, .int 1, .ref 3], [(.inr (cn0, [(fk0, .ref 1), (fk1, .ref 2), (fk2, .ref 3), (fk3, .int 28), (fk4, .int 1)])), (wAI (ia (ks.set s.toNatClampNeg (p + 1)))), (wAI (ia (ns.set s.toNatClampNeg n))), (wAI (ia fl))], u) _
  refine .s (.putF (ty := .int) 4 (.int 2) a9_54 (wd hw 50 rfl) rfl rfl (Or.inl (wd hw 51 rfl)) (wd hw 3 rfl) (by decide) rfl rfl) ?_
  show WGo _ (57, [wR 0, wI p, wI n, wI s], [.int 1, .ref 3], [(.inr (cn0, [(fk0, .ref 1), (fk1, .ref 2), (fk2, .ref 3), (fk3, .int 28), (fk4, .int 2)])), (wAI (ia (ks.set s.toNatClampNeg (p + 1)))), (wAI (ia (ns.set s.toNatClampNeg n))), (wAI (ia fl))], u) _
  refine .s (.iloadN a9_57 rfl) <| .s (.iastore (1) a9_58 rfl (by decide) rfl (by rw [ia_len]; omega)) ?_
  rw [ia_set]
  show WGo _ (59, [wR 0, wI p, wI n, wI s], [], [(.inr (cn0, [(fk0, .ref 1), (fk1, .ref 2), (fk2, .ref 3), (fk3, .int 28), (fk4, .int 2)])), (wAI (ia (ks.set s.toNatClampNeg (p + 1)))), (wAI (ia (ns.set s.toNatClampNeg n))), (wAI (ia (fl.set 1 s)))], u) _
  refine .vreturn a9_59 rfl ?_
  have hput := WRep.put hR (p := p) (n := n) (s := s.toNatClampNeg) (by omega) hp hnew (nlt s0 s1) (hend.elim (fun q => Or.inl (q ▸ sk)) (fun q => Or.inr (q ▸ sk))) hpath
  rw [hc, ofNat_back s0] at hput
  exact ⟨_, _, _, _, hput, rfl, rfl, rfl⟩
theorem cputA_2 {Z : State} {a0 : Array Value} (hw : ∀ d ∈ tables_1, d.before a0 Z = true) (ρ : Nat → Nat) (n0 : Nat) (ks ns fl : List Int32) (E : List WEnt) (p n : Int32) (hR : WRep 16 (whash 28) ks ns fl E) (hc : E.length = 2) (hp : p + 1 ≠ 0) (hnew : ∀ x ∈ E, ¬ x.2.1 = p) (u : Nat) : WGo (g9 Z ρ n0 4 u) (0, [wR 0, wI p, wI n, wU], [], [(.inr (cn0, [(fk0, .ref 1), (fk1, .ref 2), (fk2, .ref 3), (fk3, .int 28), (fk4, .int 2)])), (wAI (ia ks)), (wAI (ia ns)), (wAI (ia fl))], u) (fun v σ' u' => ∃ (ks' ns' fl' : List Int32) (s : Nat), WRep 16 (whash 28) ks' ns' fl' (E ++ [(s, p, n)]) ∧ v = none ∧ [(.inr (cn0, [(fk0, .ref 1), (fk1, .ref 2), (fk2, .ref 3), (fk3, .int 28), (fk4, .int 3)])), (wAI (ia ks')), (wAI (ia ns')), (wAI (ia fl'))] = σ' ∧ u = u') := by
  have hlk := hR.1
  have hln := hR.2.1
  have hlf := hR.2.2.1
  refine .s (.iconst (2 : Int32) a9_0 rfl) <| .s (.aloadN a9_1 rfl rfl) <| .s (.getF 4 a9_2 (wd hw 50 rfl) rfl rfl) <| .s (.iconst (1 : Int32) a9_5 rfl) <| .s (.iadd a9_6) ?_
  show WGo _ (7, [wR 0, wI p, wI n, wU], [.int 3, .int 2], [(.inr (cn0, [(fk0, .ref 1), (fk1, .ref 2), (fk2, .ref 3), (fk3, .int 28), (fk4, .int 2)])), (wAI (ia ks)), (wAI (ia ns)), (wAI (ia fl))], u) _
  refine .s (.imul a9_7) ?_
  show WGo _ (8, [wR 0, wI p, wI n, wU], [.int 6], [(.inr (cn0, [(fk0, .ref 1), (fk1, .ref 2), (fk2, .ref 3), (fk3, .int 28), (fk4, .int 2)])), (wAI (ia ks)), (wAI (ia ns)), (wAI (ia fl))], u) _
  refine .s (.aloadN a9_8 rfl rfl) <| .s (.getF 0 a9_9 (wd hw 12 rfl) rfl rfl) <| .s (.alen (16 : Int32) a9_12 rfl (by rw [ia_len, hlk]; rfl)) <| .s (.icmpT a9_13 (by decide)) <| .s (.aloadN a9_20 rfl rfl) <| .s (.iloadN a9_21 rfl) ?_
  refine .callP (k := 0) a9_22 (ok6 hw _ _ _ _) (wd hw 34 rfl) (wd hw 35 rfl) (selP (wd hw 3 rfl) (wd hw 35 rfl) (wd hw 36 rfl) (by decide)) (wd hw 36 rfl) rfl (argsL := [(.int p)]) (S := []) (cslotA hw _ _ p _ _ _ _ _ hR.1 (WRep.zero hR (by decide))) rfl rfl rfl rfl rfl rfl (Nat.le_of_ble_eq_true rfl) (Nat.le_of_ble_eq_true rfl) ?_
  rintro _ _ _ ⟨s, k, rfl, s0, s1, sk, hend, hpath, rfl, rfl⟩
  show WGo _ (25, [wR 0, wI p, wI n, wU], [(.int s)], [(.inr (cn0, [(fk0, .ref 1), (fk1, .ref 2), (fk2, .ref 3), (fk3, .int 28), (fk4, .int 2)])), (wAI (ia ks)), (wAI (ia ns)), (wAI (ia fl))], u) _
  refine .s (.istoreN (L' := [wR 0, wI p, wI n, wI s]) a9_25 rfl) <| .s (.aloadN a9_26 rfl rfl) <| .s (.getF 0 a9_27 (wd hw 12 rfl) rfl rfl) <| .s (.iloadN a9_30 rfl) <| .s (.iloadN a9_31 rfl) <| .s (.iconst (1 : Int32) a9_32 rfl) <| .s (.iadd a9_33) ?_
  refine .s (.iastore (s.toNatClampNeg) a9_34 rfl (nn s0) rfl (by rw [ia_len, hlk]; exact nlt s0 s1)) ?_
  rw [ia_set]
  show WGo _ (35, [wR 0, wI p, wI n, wI s], [], [(.inr (cn0, [(fk0, .ref 1), (fk1, .ref 2), (fk2, .ref 3), (fk3, .int 28), (fk4, .int 2)])), (wAI (ia (ks.set s.toNatClampNeg (p + 1)))), (wAI (ia ns)), (wAI (ia fl))], u) _
  refine .s (.aloadN a9_35 rfl rfl) <| .s (.getF 1 a9_36 (wd hw 14 rfl) rfl rfl) <| .s (.iloadN a9_39 rfl) <| .s (.iloadN a9_40 rfl) <| .s (.iastore (s.toNatClampNeg) a9_41 rfl (nn s0) rfl (by rw [ia_len, hln]; exact nlt s0 s1)) ?_
  rw [ia_set]
  show WGo _ (42, [wR 0, wI p, wI n, wI s], [], [(.inr (cn0, [(fk0, .ref 1), (fk1, .ref 2), (fk2, .ref 3), (fk3, .int 28), (fk4, .int 2)])), (wAI (ia (ks.set s.toNatClampNeg (p + 1)))), (wAI (ia (ns.set s.toNatClampNeg n))), (wAI (ia fl))], u) _
  refine .s (.aloadN a9_42 rfl rfl) <| .s (.getF 2 a9_43 (wd hw 16 rfl) rfl rfl) <| .s (.aloadN a9_46 rfl rfl) <| .s (.dup a9_47 rfl) <| .s (.getF 4 a9_48 (wd hw 50 rfl) rfl rfl) <| .s (.dupX1 a9_51 rfl rfl) <| .s (.iconst (1 : Int32) a9_52 rfl) ?_
  refine .s (.iadd a9_53) ?_
  show WGo _ (54, [wR 0, wI p, wI n, wI s], [.int 3, .ref 0, .int 2, .ref 3], [(.inr (cn0, [(fk0, .ref 1), (fk1, .ref 2), (fk2, .ref 3), (fk3, .int 28), (fk4, .int 2)])), (wAI (ia (ks.set s.toNatClampNeg (p + 1)))), (wAI (ia (ns.set s.toNatClampNeg n))), (wAI (ia fl))], u) _
  refine .s (.putF (ty := .int) 4 (.int 3) a9_54 (wd hw 50 rfl) rfl rfl (Or.inl (wd hw 51 rfl)) (wd hw 3 rfl) (by decide) rfl rfl) ?_
  show WGo _ (57, [wR 0, wI p, wI n, wI s], [.int 2, .ref 3], [(.inr (cn0, [(fk0, .ref 1), (fk1, .ref 2), (fk2, .ref 3), (fk3, .int 28), (fk4, .int 3)])), (wAI (ia (ks.set s.toNatClampNeg (p + 1)))), (wAI (ia (ns.set s.toNatClampNeg n))), (wAI (ia fl))], u) _
  refine .s (.iloadN a9_57 rfl) <| .s (.iastore (2) a9_58 rfl (by decide) rfl (by rw [ia_len]; omega)) ?_
  rw [ia_set]
  show WGo _ (59, [wR 0, wI p, wI n, wI s], [], [(.inr (cn0, [(fk0, .ref 1), (fk1, .ref 2), (fk2, .ref 3), (fk3, .int 28), (fk4, .int 3)])), (wAI (ia (ks.set s.toNatClampNeg (p + 1)))), (wAI (ia (ns.set s.toNatClampNeg n))), (wAI (ia (fl.set 2 s)))], u) _
  refine .vreturn a9_59 rfl ?_
  have hput := WRep.put hR (p := p) (n := n) (s := s.toNatClampNeg) (by omega) hp hnew (nlt s0 s1) (hend.elim (fun q => Or.inl (q ▸ sk)) (fun q => Or.inr (q ▸ sk))) hpath
  rw [hc, ofNat_back s0] at hput
  exact ⟨_, _, _, _, hput, rfl, rfl, rfl⟩
theorem cputA_3 {Z : State} {a0 : Array Value} (hw : ∀ d ∈ tables_1, d.before a0 Z = true) (ρ : Nat → Nat) (n0 : Nat) (ks ns fl : List Int32) (E : List WEnt) (p n : Int32) (hR : WRep 16 (whash 28) ks ns fl E) (hc : E.length = 3) (hp : p + 1 ≠ 0) (hnew : ∀ x ∈ E, ¬ x.2.1 = p) (u : Nat) : WGo (g9 Z ρ n0 4 u) (0, [wR 0, wI p, wI n, wU], [], [(.inr (cn0, [(fk0, .ref 1), (fk1, .ref 2), (fk2, .ref 3), (fk3, .int 28), (fk4, .int 3)])), (wAI (ia ks)), (wAI (ia ns)), (wAI (ia fl))], u) (fun v σ' u' => ∃ (ks' ns' fl' : List Int32) (s : Nat), WRep 16 (whash 28) ks' ns' fl' (E ++ [(s, p, n)]) ∧ v = none ∧ [(.inr (cn0, [(fk0, .ref 1), (fk1, .ref 2), (fk2, .ref 3), (fk3, .int 28), (fk4, .int 4)])), (wAI (ia ks')), (wAI (ia ns')), (wAI (ia fl'))] = σ' ∧ u = u') := by
  have hlk := hR.1
  have hln := hR.2.1
  have hlf := hR.2.2.1
  refine .s (.iconst (2 : Int32) a9_0 rfl) <| .s (.aloadN a9_1 rfl rfl) <| .s (.getF 4 a9_2 (wd hw 50 rfl) rfl rfl) <| .s (.iconst (1 : Int32) a9_5 rfl) <| .s (.iadd a9_6) ?_
  show WGo _ (7, [wR 0, wI p, wI n, wU], [.int 4, .int 2], [(.inr (cn0, [(fk0, .ref 1), (fk1, .ref 2), (fk2, .ref 3), (fk3, .int 28), (fk4, .int 3)])), (wAI (ia ks)), (wAI (ia ns)), (wAI (ia fl))], u) _
  refine .s (.imul a9_7) ?_
  show WGo _ (8, [wR 0, wI p, wI n, wU], [.int 8], [(.inr (cn0, [(fk0, .ref 1), (fk1, .ref 2), (fk2, .ref 3), (fk3, .int 28), (fk4, .int 3)])), (wAI (ia ks)), (wAI (ia ns)), (wAI (ia fl))], u) _
  refine .s (.aloadN a9_8 rfl rfl) <| .s (.getF 0 a9_9 (wd hw 12 rfl) rfl rfl) <| .s (.alen (16 : Int32) a9_12 rfl (by rw [ia_len, hlk]; rfl)) <| .s (.icmpT a9_13 (by decide)) <| .s (.aloadN a9_20 rfl rfl) <| .s (.iloadN a9_21 rfl) ?_
  refine .callP (k := 0) a9_22 (ok6 hw _ _ _ _) (wd hw 34 rfl) (wd hw 35 rfl) (selP (wd hw 3 rfl) (wd hw 35 rfl) (wd hw 36 rfl) (by decide)) (wd hw 36 rfl) rfl (argsL := [(.int p)]) (S := []) (cslotA hw _ _ p _ _ _ _ _ hR.1 (WRep.zero hR (by decide))) rfl rfl rfl rfl rfl rfl (Nat.le_of_ble_eq_true rfl) (Nat.le_of_ble_eq_true rfl) ?_
  rintro _ _ _ ⟨s, k, rfl, s0, s1, sk, hend, hpath, rfl, rfl⟩
  show WGo _ (25, [wR 0, wI p, wI n, wU], [(.int s)], [(.inr (cn0, [(fk0, .ref 1), (fk1, .ref 2), (fk2, .ref 3), (fk3, .int 28), (fk4, .int 3)])), (wAI (ia ks)), (wAI (ia ns)), (wAI (ia fl))], u) _
  refine .s (.istoreN (L' := [wR 0, wI p, wI n, wI s]) a9_25 rfl) <| .s (.aloadN a9_26 rfl rfl) <| .s (.getF 0 a9_27 (wd hw 12 rfl) rfl rfl) <| .s (.iloadN a9_30 rfl) <| .s (.iloadN a9_31 rfl) <| .s (.iconst (1 : Int32) a9_32 rfl) <| .s (.iadd a9_33) ?_
  refine .s (.iastore (s.toNatClampNeg) a9_34 rfl (nn s0) rfl (by rw [ia_len, hlk]; exact nlt s0 s1)) ?_
  rw [ia_set]
  show WGo _ (35, [wR 0, wI p, wI n, wI s], [], [(.inr (cn0, [(fk0, .ref 1), (fk1, .ref 2), (fk2, .ref 3), (fk3, .int 28), (fk4, .int 3)])), (wAI (ia (ks.set s.toNatClampNeg (p + 1)))), (wAI (ia ns)), (wAI (ia fl))], u) _
  refine .s (.aloadN a9_35 rfl rfl) <| .s (.getF 1 a9_36 (wd hw 14 rfl) rfl rfl) <| .s (.iloadN a9_39 rfl) <| .s (.iloadN a9_40 rfl) <| .s (.iastore (s.toNatClampNeg) a9_41 rfl (nn s0) rfl (by rw [ia_len, hln]; exact nlt s0 s1)) ?_
  rw [ia_set]
  show WGo _ (42, [wR 0, wI p, wI n, wI s], [], [(.inr (cn0, [(fk0, .ref 1), (fk1, .ref 2), (fk2, .ref 3), (fk3, .int 28), (fk4, .int 3)])), (wAI (ia (ks.set s.toNatClampNeg (p + 1)))), (wAI (ia (ns.set s.toNatClampNeg n))), (wAI (ia fl))], u) _
  refine .s (.aloadN a9_42 rfl rfl) <| .s (.getF 2 a9_43 (wd hw 16 rfl) rfl rfl) <| .s (.aloadN a9_46 rfl rfl) <| .s (.dup a9_47 rfl) <| .s (.getF 4 a9_48 (wd hw 50 rfl) rfl rfl) <| .s (.dupX1 a9_51 rfl rfl) <| .s (.iconst (1 : Int32) a9_52 rfl) ?_
  refine .s (.iadd a9_53) ?_
  show WGo _ (54, [wR 0, wI p, wI n, wI s], [.int 4, .ref 0, .int 3, .ref 3], [(.inr (cn0, [(fk0, .ref 1), (fk1, .ref 2), (fk2, .ref 3), (fk3, .int 28), (fk4, .int 3)])), (wAI (ia (ks.set s.toNatClampNeg (p + 1)))), (wAI (ia (ns.set s.toNatClampNeg n))), (wAI (ia fl))], u) _
  refine .s (.putF (ty := .int) 4 (.int 4) a9_54 (wd hw 50 rfl) rfl rfl (Or.inl (wd hw 51 rfl)) (wd hw 3 rfl) (by decide) rfl rfl) ?_
  show WGo _ (57, [wR 0, wI p, wI n, wI s], [.int 3, .ref 3], [(.inr (cn0, [(fk0, .ref 1), (fk1, .ref 2), (fk2, .ref 3), (fk3, .int 28), (fk4, .int 4)])), (wAI (ia (ks.set s.toNatClampNeg (p + 1)))), (wAI (ia (ns.set s.toNatClampNeg n))), (wAI (ia fl))], u) _
  refine .s (.iloadN a9_57 rfl) <| .s (.iastore (3) a9_58 rfl (by decide) rfl (by rw [ia_len]; omega)) ?_
  rw [ia_set]
  show WGo _ (59, [wR 0, wI p, wI n, wI s], [], [(.inr (cn0, [(fk0, .ref 1), (fk1, .ref 2), (fk2, .ref 3), (fk3, .int 28), (fk4, .int 4)])), (wAI (ia (ks.set s.toNatClampNeg (p + 1)))), (wAI (ia (ns.set s.toNatClampNeg n))), (wAI (ia (fl.set 3 s)))], u) _
  refine .vreturn a9_59 rfl ?_
  have hput := WRep.put hR (p := p) (n := n) (s := s.toNatClampNeg) (by omega) hp hnew (nlt s0 s1) (hend.elim (fun q => Or.inl (q ▸ sk)) (fun q => Or.inr (q ▸ sk))) hpath
  rw [hc, ofNat_back s0] at hput
  exact ⟨_, _, _, _, hput, rfl, rfl, rfl⟩
theorem cputA_4 {Z : State} {a0 : Array Value} (hw : ∀ d ∈ tables_1, d.before a0 Z = true) (ρ : Nat → Nat) (n0 : Nat) (ks ns fl : List Int32) (E : List WEnt) (p n : Int32) (hR : WRep 16 (whash 28) ks ns fl E) (hc : E.length = 4) (hp : p + 1 ≠ 0) (hnew : ∀ x ∈ E, ¬ x.2.1 = p) (u : Nat) : WGo (g9 Z ρ n0 4 u) (0, [wR 0, wI p, wI n, wU], [], [(.inr (cn0, [(fk0, .ref 1), (fk1, .ref 2), (fk2, .ref 3), (fk3, .int 28), (fk4, .int 4)])), (wAI (ia ks)), (wAI (ia ns)), (wAI (ia fl))], u) (fun v σ' u' => ∃ (ks' ns' fl' : List Int32) (s : Nat), WRep 16 (whash 28) ks' ns' fl' (E ++ [(s, p, n)]) ∧ v = none ∧ [(.inr (cn0, [(fk0, .ref 1), (fk1, .ref 2), (fk2, .ref 3), (fk3, .int 28), (fk4, .int 5)])), (wAI (ia ks')), (wAI (ia ns')), (wAI (ia fl'))] = σ' ∧ u = u') := by
  have hlk := hR.1
  have hln := hR.2.1
  have hlf := hR.2.2.1
  refine .s (.iconst (2 : Int32) a9_0 rfl) <| .s (.aloadN a9_1 rfl rfl) <| .s (.getF 4 a9_2 (wd hw 50 rfl) rfl rfl) <| .s (.iconst (1 : Int32) a9_5 rfl) <| .s (.iadd a9_6) ?_
  show WGo _ (7, [wR 0, wI p, wI n, wU], [.int 5, .int 2], [(.inr (cn0, [(fk0, .ref 1), (fk1, .ref 2), (fk2, .ref 3), (fk3, .int 28), (fk4, .int 4)])), (wAI (ia ks)), (wAI (ia ns)), (wAI (ia fl))], u) _
  refine .s (.imul a9_7) ?_
  show WGo _ (8, [wR 0, wI p, wI n, wU], [.int 10], [(.inr (cn0, [(fk0, .ref 1), (fk1, .ref 2), (fk2, .ref 3), (fk3, .int 28), (fk4, .int 4)])), (wAI (ia ks)), (wAI (ia ns)), (wAI (ia fl))], u) _
  refine .s (.aloadN a9_8 rfl rfl) <| .s (.getF 0 a9_9 (wd hw 12 rfl) rfl rfl) <| .s (.alen (16 : Int32) a9_12 rfl (by rw [ia_len, hlk]; rfl)) <| .s (.icmpT a9_13 (by decide)) <| .s (.aloadN a9_20 rfl rfl) <| .s (.iloadN a9_21 rfl) ?_
  refine .callP (k := 0) a9_22 (ok6 hw _ _ _ _) (wd hw 34 rfl) (wd hw 35 rfl) (selP (wd hw 3 rfl) (wd hw 35 rfl) (wd hw 36 rfl) (by decide)) (wd hw 36 rfl) rfl (argsL := [(.int p)]) (S := []) (cslotA hw _ _ p _ _ _ _ _ hR.1 (WRep.zero hR (by decide))) rfl rfl rfl rfl rfl rfl (Nat.le_of_ble_eq_true rfl) (Nat.le_of_ble_eq_true rfl) ?_
  rintro _ _ _ ⟨s, k, rfl, s0, s1, sk, hend, hpath, rfl, rfl⟩
  show WGo _ (25, [wR 0, wI p, wI n, wU], [(.int s)], [(.inr (cn0, [(fk0, .ref 1), (fk1, .ref 2), (fk2, .ref 3), (fk3, .int 28), (fk4, .int 4)])), (wAI (ia ks)), (wAI (ia ns)), (wAI (ia fl))], u) _
  refine .s (.istoreN (L' := [wR 0, wI p, wI n, wI s]) a9_25 rfl) <| .s (.aloadN a9_26 rfl rfl) <| .s (.getF 0 a9_27 (wd hw 12 rfl) rfl rfl) <| .s (.iloadN a9_30 rfl) <| .s (.iloadN a9_31 rfl) <| .s (.iconst (1 : Int32) a9_32 rfl) <| .s (.iadd a9_33) ?_
  refine .s (.iastore (s.toNatClampNeg) a9_34 rfl (nn s0) rfl (by rw [ia_len, hlk]; exact nlt s0 s1)) ?_
  rw [ia_set]
  show WGo _ (35, [wR 0, wI p, wI n, wI s], [], [(.inr (cn0, [(fk0, .ref 1), (fk1, .ref 2), (fk2, .ref 3), (fk3, .int 28), (fk4, .int 4)])), (wAI (ia (ks.set s.toNatClampNeg (p + 1)))), (wAI (ia ns)), (wAI (ia fl))], u) _
  refine .s (.aloadN a9_35 rfl rfl) <| .s (.getF 1 a9_36 (wd hw 14 rfl) rfl rfl) <| .s (.iloadN a9_39 rfl) <| .s (.iloadN a9_40 rfl) <| .s (.iastore (s.toNatClampNeg) a9_41 rfl (nn s0) rfl (by rw [ia_len, hln]; exact nlt s0 s1)) ?_
  rw [ia_set]
  show WGo _ (42, [wR 0, wI p, wI n, wI s], [], [(.inr (cn0, [(fk0, .ref 1), (fk1, .ref 2), (fk2, .ref 3), (fk3, .int 28), (fk4, .int 4)])), (wAI (ia (ks.set s.toNatClampNeg (p + 1)))), (wAI (ia (ns.set s.toNatClampNeg n))), (wAI (ia fl))], u) _
  refine .s (.aloadN a9_42 rfl rfl) <| .s (.getF 2 a9_43 (wd hw 16 rfl) rfl rfl) <| .s (.aloadN a9_46 rfl rfl) <| .s (.dup a9_47 rfl) <| .s (.getF 4 a9_48 (wd hw 50 rfl) rfl rfl) <| .s (.dupX1 a9_51 rfl rfl) <| .s (.iconst (1 : Int32) a9_52 rfl) ?_
  refine .s (.iadd a9_53) ?_
  show WGo _ (54, [wR 0, wI p, wI n, wI s], [.int 5, .ref 0, .int 4, .ref 3], [(.inr (cn0, [(fk0, .ref 1), (fk1, .ref 2), (fk2, .ref 3), (fk3, .int 28), (fk4, .int 4)])), (wAI (ia (ks.set s.toNatClampNeg (p + 1)))), (wAI (ia (ns.set s.toNatClampNeg n))), (wAI (ia fl))], u) _
  refine .s (.putF (ty := .int) 4 (.int 5) a9_54 (wd hw 50 rfl) rfl rfl (Or.inl (wd hw 51 rfl)) (wd hw 3 rfl) (by decide) rfl rfl) ?_
  show WGo _ (57, [wR 0, wI p, wI n, wI s], [.int 4, .ref 3], [(.inr (cn0, [(fk0, .ref 1), (fk1, .ref 2), (fk2, .ref 3), (fk3, .int 28), (fk4, .int 5)])), (wAI (ia (ks.set s.toNatClampNeg (p + 1)))), (wAI (ia (ns.set s.toNatClampNeg n))), (wAI (ia fl))], u) _
  refine .s (.iloadN a9_57 rfl) <| .s (.iastore (4) a9_58 rfl (by decide) rfl (by rw [ia_len]; omega)) ?_
  rw [ia_set]
  show WGo _ (59, [wR 0, wI p, wI n, wI s], [], [(.inr (cn0, [(fk0, .ref 1), (fk1, .ref 2), (fk2, .ref 3), (fk3, .int 28), (fk4, .int 5)])), (wAI (ia (ks.set s.toNatClampNeg (p + 1)))), (wAI (ia (ns.set s.toNatClampNeg n))), (wAI (ia (fl.set 4 s)))], u) _
  refine .vreturn a9_59 rfl ?_
  have hput := WRep.put hR (p := p) (n := n) (s := s.toNatClampNeg) (by omega) hp hnew (nlt s0 s1) (hend.elim (fun q => Or.inl (q ▸ sk)) (fun q => Or.inr (q ▸ sk))) hpath
  rw [hc, ofNat_back s0] at hput
  exact ⟨_, _, _, _, hput, rfl, rfl, rfl⟩
theorem cputA_5 {Z : State} {a0 : Array Value} (hw : ∀ d ∈ tables_1, d.before a0 Z = true) (ρ : Nat → Nat) (n0 : Nat) (ks ns fl : List Int32) (E : List WEnt) (p n : Int32) (hR : WRep 16 (whash 28) ks ns fl E) (hc : E.length = 5) (hp : p + 1 ≠ 0) (hnew : ∀ x ∈ E, ¬ x.2.1 = p) (u : Nat) : WGo (g9 Z ρ n0 4 u) (0, [wR 0, wI p, wI n, wU], [], [(.inr (cn0, [(fk0, .ref 1), (fk1, .ref 2), (fk2, .ref 3), (fk3, .int 28), (fk4, .int 5)])), (wAI (ia ks)), (wAI (ia ns)), (wAI (ia fl))], u) (fun v σ' u' => ∃ (ks' ns' fl' : List Int32) (s : Nat), WRep 16 (whash 28) ks' ns' fl' (E ++ [(s, p, n)]) ∧ v = none ∧ [(.inr (cn0, [(fk0, .ref 1), (fk1, .ref 2), (fk2, .ref 3), (fk3, .int 28), (fk4, .int 6)])), (wAI (ia ks')), (wAI (ia ns')), (wAI (ia fl'))] = σ' ∧ u = u') := by
  have hlk := hR.1
  have hln := hR.2.1
  have hlf := hR.2.2.1
  refine .s (.iconst (2 : Int32) a9_0 rfl) <| .s (.aloadN a9_1 rfl rfl) <| .s (.getF 4 a9_2 (wd hw 50 rfl) rfl rfl) <| .s (.iconst (1 : Int32) a9_5 rfl) <| .s (.iadd a9_6) ?_
  show WGo _ (7, [wR 0, wI p, wI n, wU], [.int 6, .int 2], [(.inr (cn0, [(fk0, .ref 1), (fk1, .ref 2), (fk2, .ref 3), (fk3, .int 28), (fk4, .int 5)])), (wAI (ia ks)), (wAI (ia ns)), (wAI (ia fl))], u) _
  refine .s (.imul a9_7) ?_
  show WGo _ (8, [wR 0, wI p, wI n, wU], [.int 12], [(.inr (cn0, [(fk0, .ref 1), (fk1, .ref 2), (fk2, .ref 3), (fk3, .int 28), (fk4, .int 5)])), (wAI (ia ks)), (wAI (ia ns)), (wAI (ia fl))], u) _
  refine .s (.aloadN a9_8 rfl rfl) <| .s (.getF 0 a9_9 (wd hw 12 rfl) rfl rfl) <| .s (.alen (16 : Int32) a9_12 rfl (by rw [ia_len, hlk]; rfl)) <| .s (.icmpT a9_13 (by decide)) <| .s (.aloadN a9_20 rfl rfl) <| .s (.iloadN a9_21 rfl) ?_
  refine .callP (k := 0) a9_22 (ok6 hw _ _ _ _) (wd hw 34 rfl) (wd hw 35 rfl) (selP (wd hw 3 rfl) (wd hw 35 rfl) (wd hw 36 rfl) (by decide)) (wd hw 36 rfl) rfl (argsL := [(.int p)]) (S := []) (cslotA hw _ _ p _ _ _ _ _ hR.1 (WRep.zero hR (by decide))) rfl rfl rfl rfl rfl rfl (Nat.le_of_ble_eq_true rfl) (Nat.le_of_ble_eq_true rfl) ?_
  rintro _ _ _ ⟨s, k, rfl, s0, s1, sk, hend, hpath, rfl, rfl⟩
  show WGo _ (25, [wR 0, wI p, wI n, wU], [(.int s)], [(.inr (cn0, [(fk0, .ref 1), (fk1, .ref 2), (fk2, .ref 3), (fk3, .int 28), (fk4, .int 5)])), (wAI (ia ks)), (wAI (ia ns)), (wAI (ia fl))], u) _
  refine .s (.istoreN (L' := [wR 0, wI p, wI n, wI s]) a9_25 rfl) <| .s (.aloadN a9_26 rfl rfl) <| .s (.getF 0 a9_27 (wd hw 12 rfl) rfl rfl) <| .s (.iloadN a9_30 rfl) <| .s (.iloadN a9_31 rfl) <| .s (.iconst (1 : Int32) a9_32 rfl) <| .s (.iadd a9_33) ?_
  refine .s (.iastore (s.toNatClampNeg) a9_34 rfl (nn s0) rfl (by rw [ia_len, hlk]; exact nlt s0 s1)) ?_
  rw [ia_set]
  show WGo _ (35, [wR 0, wI p, wI n, wI s], [], [(.inr (cn0, [(fk0, .ref 1), (fk1, .ref 2), (fk2, .ref 3), (fk3, .int 28), (fk4, .int 5)])), (wAI (ia (ks.set s.toNatClampNeg (p + 1)))), (wAI (ia ns)), (wAI (ia fl))], u) _
  refine .s (.aloadN a9_35 rfl rfl) <| .s (.getF 1 a9_36 (wd hw 14 rfl) rfl rfl) <| .s (.iloadN a9_39 rfl) <| .s (.iloadN a9_40 rfl) <| .s (.iastore (s.toNatClampNeg) a9_41 rfl (nn s0) rfl (by rw [ia_len, hln]; exact nlt s0 s1)) ?_
  rw [ia_set]
  show WGo _ (42, [wR 0, wI p, wI n, wI s], [], [(.inr (cn0, [(fk0, .ref 1), (fk1, .ref 2), (fk2, .ref 3), (fk3, .int 28), (fk4, .int 5)])), (wAI (ia (ks.set s.toNatClampNeg (p + 1)))), (wAI (ia (ns.set s.toNatClampNeg n))), (wAI (ia fl))], u) _
  refine .s (.aloadN a9_42 rfl rfl) <| .s (.getF 2 a9_43 (wd hw 16 rfl) rfl rfl) <| .s (.aloadN a9_46 rfl rfl) <| .s (.dup a9_47 rfl) <| .s (.getF 4 a9_48 (wd hw 50 rfl) rfl rfl) <| .s (.dupX1 a9_51 rfl rfl) <| .s (.iconst (1 : Int32) a9_52 rfl) ?_
  refine .s (.iadd a9_53) ?_
  show WGo _ (54, [wR 0, wI p, wI n, wI s], [.int 6, .ref 0, .int 5, .ref 3], [(.inr (cn0, [(fk0, .ref 1), (fk1, .ref 2), (fk2, .ref 3), (fk3, .int 28), (fk4, .int 5)])), (wAI (ia (ks.set s.toNatClampNeg (p + 1)))), (wAI (ia (ns.set s.toNatClampNeg n))), (wAI (ia fl))], u) _
  refine .s (.putF (ty := .int) 4 (.int 6) a9_54 (wd hw 50 rfl) rfl rfl (Or.inl (wd hw 51 rfl)) (wd hw 3 rfl) (by decide) rfl rfl) ?_
  show WGo _ (57, [wR 0, wI p, wI n, wI s], [.int 5, .ref 3], [(.inr (cn0, [(fk0, .ref 1), (fk1, .ref 2), (fk2, .ref 3), (fk3, .int 28), (fk4, .int 6)])), (wAI (ia (ks.set s.toNatClampNeg (p + 1)))), (wAI (ia (ns.set s.toNatClampNeg n))), (wAI (ia fl))], u) _
  refine .s (.iloadN a9_57 rfl) <| .s (.iastore (5) a9_58 rfl (by decide) rfl (by rw [ia_len]; omega)) ?_
  rw [ia_set]
  show WGo _ (59, [wR 0, wI p, wI n, wI s], [], [(.inr (cn0, [(fk0, .ref 1), (fk1, .ref 2), (fk2, .ref 3), (fk3, .int 28), (fk4, .int 6)])), (wAI (ia (ks.set s.toNatClampNeg (p + 1)))), (wAI (ia (ns.set s.toNatClampNeg n))), (wAI (ia (fl.set 5 s)))], u) _
  refine .vreturn a9_59 rfl ?_
  have hput := WRep.put hR (p := p) (n := n) (s := s.toNatClampNeg) (by omega) hp hnew (nlt s0 s1) (hend.elim (fun q => Or.inl (q ▸ sk)) (fun q => Or.inr (q ▸ sk))) hpath
  rw [hc, ofNat_back s0] at hput
  exact ⟨_, _, _, _, hput, rfl, rfl, rfl⟩
theorem cputA_6 {Z : State} {a0 : Array Value} (hw : ∀ d ∈ tables_1, d.before a0 Z = true) (ρ : Nat → Nat) (n0 : Nat) (ks ns fl : List Int32) (E : List WEnt) (p n : Int32) (hR : WRep 16 (whash 28) ks ns fl E) (hc : E.length = 6) (hp : p + 1 ≠ 0) (hnew : ∀ x ∈ E, ¬ x.2.1 = p) (u : Nat) : WGo (g9 Z ρ n0 4 u) (0, [wR 0, wI p, wI n, wU], [], [(.inr (cn0, [(fk0, .ref 1), (fk1, .ref 2), (fk2, .ref 3), (fk3, .int 28), (fk4, .int 6)])), (wAI (ia ks)), (wAI (ia ns)), (wAI (ia fl))], u) (fun v σ' u' => ∃ (ks' ns' fl' : List Int32) (s : Nat), WRep 16 (whash 28) ks' ns' fl' (E ++ [(s, p, n)]) ∧ v = none ∧ [(.inr (cn0, [(fk0, .ref 1), (fk1, .ref 2), (fk2, .ref 3), (fk3, .int 28), (fk4, .int 7)])), (wAI (ia ks')), (wAI (ia ns')), (wAI (ia fl'))] = σ' ∧ u = u') := by
  have hlk := hR.1
  have hln := hR.2.1
  have hlf := hR.2.2.1
  refine .s (.iconst (2 : Int32) a9_0 rfl) <| .s (.aloadN a9_1 rfl rfl) <| .s (.getF 4 a9_2 (wd hw 50 rfl) rfl rfl) <| .s (.iconst (1 : Int32) a9_5 rfl) <| .s (.iadd a9_6) ?_
  show WGo _ (7, [wR 0, wI p, wI n, wU], [.int 7, .int 2], [(.inr (cn0, [(fk0, .ref 1), (fk1, .ref 2), (fk2, .ref 3), (fk3, .int 28), (fk4, .int 6)])), (wAI (ia ks)), (wAI (ia ns)), (wAI (ia fl))], u) _
  refine .s (.imul a9_7) ?_
  show WGo _ (8, [wR 0, wI p, wI n, wU], [.int 14], [(.inr (cn0, [(fk0, .ref 1), (fk1, .ref 2), (fk2, .ref 3), (fk3, .int 28), (fk4, .int 6)])), (wAI (ia ks)), (wAI (ia ns)), (wAI (ia fl))], u) _
  refine .s (.aloadN a9_8 rfl rfl) <| .s (.getF 0 a9_9 (wd hw 12 rfl) rfl rfl) <| .s (.alen (16 : Int32) a9_12 rfl (by rw [ia_len, hlk]; rfl)) <| .s (.icmpT a9_13 (by decide)) <| .s (.aloadN a9_20 rfl rfl) <| .s (.iloadN a9_21 rfl) ?_
  refine .callP (k := 0) a9_22 (ok6 hw _ _ _ _) (wd hw 34 rfl) (wd hw 35 rfl) (selP (wd hw 3 rfl) (wd hw 35 rfl) (wd hw 36 rfl) (by decide)) (wd hw 36 rfl) rfl (argsL := [(.int p)]) (S := []) (cslotA hw _ _ p _ _ _ _ _ hR.1 (WRep.zero hR (by decide))) rfl rfl rfl rfl rfl rfl (Nat.le_of_ble_eq_true rfl) (Nat.le_of_ble_eq_true rfl) ?_
  rintro _ _ _ ⟨s, k, rfl, s0, s1, sk, hend, hpath, rfl, rfl⟩
  show WGo _ (25, [wR 0, wI p, wI n, wU], [(.int s)], [(.inr (cn0, [(fk0, .ref 1), (fk1, .ref 2), (fk2, .ref 3), (fk3, .int 28), (fk4, .int 6)])), (wAI (ia ks)), (wAI (ia ns)), (wAI (ia fl))], u) _
  refine .s (.istoreN (L' := [wR 0, wI p, wI n, wI s]) a9_25 rfl) <| .s (.aloadN a9_26 rfl rfl) <| .s (.getF 0 a9_27 (wd hw 12 rfl) rfl rfl) <| .s (.iloadN a9_30 rfl) <| .s (.iloadN a9_31 rfl) <| .s (.iconst (1 : Int32) a9_32 rfl) <| .s (.iadd a9_33) ?_
  refine .s (.iastore (s.toNatClampNeg) a9_34 rfl (nn s0) rfl (by rw [ia_len, hlk]; exact nlt s0 s1)) ?_
  rw [ia_set]
  show WGo _ (35, [wR 0, wI p, wI n, wI s], [], [(.inr (cn0, [(fk0, .ref 1), (fk1, .ref 2), (fk2, .ref 3), (fk3, .int 28), (fk4, .int 6)])), (wAI (ia (ks.set s.toNatClampNeg (p + 1)))), (wAI (ia ns)), (wAI (ia fl))], u) _
  refine .s (.aloadN a9_35 rfl rfl) <| .s (.getF 1 a9_36 (wd hw 14 rfl) rfl rfl) <| .s (.iloadN a9_39 rfl) <| .s (.iloadN a9_40 rfl) <| .s (.iastore (s.toNatClampNeg) a9_41 rfl (nn s0) rfl (by rw [ia_len, hln]; exact nlt s0 s1)) ?_
  rw [ia_set]
  show WGo _ (42, [wR 0, wI p, wI n, wI s], [], [(.inr (cn0, [(fk0, .ref 1), (fk1, .ref 2), (fk2, .ref 3), (fk3, .int 28), (fk4, .int 6)])), (wAI (ia (ks.set s.toNatClampNeg (p + 1)))), (wAI (ia (ns.set s.toNatClampNeg n))), (wAI (ia fl))], u) _
  refine .s (.aloadN a9_42 rfl rfl) <| .s (.getF 2 a9_43 (wd hw 16 rfl) rfl rfl) <| .s (.aloadN a9_46 rfl rfl) <| .s (.dup a9_47 rfl) <| .s (.getF 4 a9_48 (wd hw 50 rfl) rfl rfl) <| .s (.dupX1 a9_51 rfl rfl) <| .s (.iconst (1 : Int32) a9_52 rfl) ?_
  refine .s (.iadd a9_53) ?_
  show WGo _ (54, [wR 0, wI p, wI n, wI s], [.int 7, .ref 0, .int 6, .ref 3], [(.inr (cn0, [(fk0, .ref 1), (fk1, .ref 2), (fk2, .ref 3), (fk3, .int 28), (fk4, .int 6)])), (wAI (ia (ks.set s.toNatClampNeg (p + 1)))), (wAI (ia (ns.set s.toNatClampNeg n))), (wAI (ia fl))], u) _
  refine .s (.putF (ty := .int) 4 (.int 7) a9_54 (wd hw 50 rfl) rfl rfl (Or.inl (wd hw 51 rfl)) (wd hw 3 rfl) (by decide) rfl rfl) ?_
  show WGo _ (57, [wR 0, wI p, wI n, wI s], [.int 6, .ref 3], [(.inr (cn0, [(fk0, .ref 1), (fk1, .ref 2), (fk2, .ref 3), (fk3, .int 28), (fk4, .int 7)])), (wAI (ia (ks.set s.toNatClampNeg (p + 1)))), (wAI (ia (ns.set s.toNatClampNeg n))), (wAI (ia fl))], u) _
  refine .s (.iloadN a9_57 rfl) <| .s (.iastore (6) a9_58 rfl (by decide) rfl (by rw [ia_len]; omega)) ?_
  rw [ia_set]
  show WGo _ (59, [wR 0, wI p, wI n, wI s], [], [(.inr (cn0, [(fk0, .ref 1), (fk1, .ref 2), (fk2, .ref 3), (fk3, .int 28), (fk4, .int 7)])), (wAI (ia (ks.set s.toNatClampNeg (p + 1)))), (wAI (ia (ns.set s.toNatClampNeg n))), (wAI (ia (fl.set 6 s)))], u) _
  refine .vreturn a9_59 rfl ?_
  have hput := WRep.put hR (p := p) (n := n) (s := s.toNatClampNeg) (by omega) hp hnew (nlt s0 s1) (hend.elim (fun q => Or.inl (q ▸ sk)) (fun q => Or.inr (q ▸ sk))) hpath
  rw [hc, ofNat_back s0] at hput
  exact ⟨_, _, _, _, hput, rfl, rfl, rfl⟩
theorem cputA_7 {Z : State} {a0 : Array Value} (hw : ∀ d ∈ tables_1, d.before a0 Z = true) (ρ : Nat → Nat) (n0 : Nat) (ks ns fl : List Int32) (E : List WEnt) (p n : Int32) (hR : WRep 16 (whash 28) ks ns fl E) (hc : E.length = 7) (hp : p + 1 ≠ 0) (hnew : ∀ x ∈ E, ¬ x.2.1 = p) (u : Nat) : WGo (g9 Z ρ n0 4 u) (0, [wR 0, wI p, wI n, wU], [], [(.inr (cn0, [(fk0, .ref 1), (fk1, .ref 2), (fk2, .ref 3), (fk3, .int 28), (fk4, .int 7)])), (wAI (ia ks)), (wAI (ia ns)), (wAI (ia fl))], u) (fun v σ' u' => ∃ (ks' ns' fl' : List Int32) (s : Nat), WRep 16 (whash 28) ks' ns' fl' (E ++ [(s, p, n)]) ∧ v = none ∧ [(.inr (cn0, [(fk0, .ref 1), (fk1, .ref 2), (fk2, .ref 3), (fk3, .int 28), (fk4, .int 8)])), (wAI (ia ks')), (wAI (ia ns')), (wAI (ia fl'))] = σ' ∧ u = u') := by
  have hlk := hR.1
  have hln := hR.2.1
  have hlf := hR.2.2.1
  refine .s (.iconst (2 : Int32) a9_0 rfl) <| .s (.aloadN a9_1 rfl rfl) <| .s (.getF 4 a9_2 (wd hw 50 rfl) rfl rfl) <| .s (.iconst (1 : Int32) a9_5 rfl) <| .s (.iadd a9_6) ?_
  show WGo _ (7, [wR 0, wI p, wI n, wU], [.int 8, .int 2], [(.inr (cn0, [(fk0, .ref 1), (fk1, .ref 2), (fk2, .ref 3), (fk3, .int 28), (fk4, .int 7)])), (wAI (ia ks)), (wAI (ia ns)), (wAI (ia fl))], u) _
  refine .s (.imul a9_7) ?_
  show WGo _ (8, [wR 0, wI p, wI n, wU], [.int 16], [(.inr (cn0, [(fk0, .ref 1), (fk1, .ref 2), (fk2, .ref 3), (fk3, .int 28), (fk4, .int 7)])), (wAI (ia ks)), (wAI (ia ns)), (wAI (ia fl))], u) _
  refine .s (.aloadN a9_8 rfl rfl) <| .s (.getF 0 a9_9 (wd hw 12 rfl) rfl rfl) <| .s (.alen (16 : Int32) a9_12 rfl (by rw [ia_len, hlk]; rfl)) <| .s (.icmpT a9_13 (by decide)) <| .s (.aloadN a9_20 rfl rfl) <| .s (.iloadN a9_21 rfl) ?_
  refine .callP (k := 0) a9_22 (ok6 hw _ _ _ _) (wd hw 34 rfl) (wd hw 35 rfl) (selP (wd hw 3 rfl) (wd hw 35 rfl) (wd hw 36 rfl) (by decide)) (wd hw 36 rfl) rfl (argsL := [(.int p)]) (S := []) (cslotA hw _ _ p _ _ _ _ _ hR.1 (WRep.zero hR (by decide))) rfl rfl rfl rfl rfl rfl (Nat.le_of_ble_eq_true rfl) (Nat.le_of_ble_eq_true rfl) ?_
  rintro _ _ _ ⟨s, k, rfl, s0, s1, sk, hend, hpath, rfl, rfl⟩
  show WGo _ (25, [wR 0, wI p, wI n, wU], [(.int s)], [(.inr (cn0, [(fk0, .ref 1), (fk1, .ref 2), (fk2, .ref 3), (fk3, .int 28), (fk4, .int 7)])), (wAI (ia ks)), (wAI (ia ns)), (wAI (ia fl))], u) _
  refine .s (.istoreN (L' := [wR 0, wI p, wI n, wI s]) a9_25 rfl) <| .s (.aloadN a9_26 rfl rfl) <| .s (.getF 0 a9_27 (wd hw 12 rfl) rfl rfl) <| .s (.iloadN a9_30 rfl) <| .s (.iloadN a9_31 rfl) <| .s (.iconst (1 : Int32) a9_32 rfl) <| .s (.iadd a9_33) ?_
  refine .s (.iastore (s.toNatClampNeg) a9_34 rfl (nn s0) rfl (by rw [ia_len, hlk]; exact nlt s0 s1)) ?_
  rw [ia_set]
  show WGo _ (35, [wR 0, wI p, wI n, wI s], [], [(.inr (cn0, [(fk0, .ref 1), (fk1, .ref 2), (fk2, .ref 3), (fk3, .int 28), (fk4, .int 7)])), (wAI (ia (ks.set s.toNatClampNeg (p + 1)))), (wAI (ia ns)), (wAI (ia fl))], u) _
  refine .s (.aloadN a9_35 rfl rfl) <| .s (.getF 1 a9_36 (wd hw 14 rfl) rfl rfl) <| .s (.iloadN a9_39 rfl) <| .s (.iloadN a9_40 rfl) <| .s (.iastore (s.toNatClampNeg) a9_41 rfl (nn s0) rfl (by rw [ia_len, hln]; exact nlt s0 s1)) ?_
  rw [ia_set]
  show WGo _ (42, [wR 0, wI p, wI n, wI s], [], [(.inr (cn0, [(fk0, .ref 1), (fk1, .ref 2), (fk2, .ref 3), (fk3, .int 28), (fk4, .int 7)])), (wAI (ia (ks.set s.toNatClampNeg (p + 1)))), (wAI (ia (ns.set s.toNatClampNeg n))), (wAI (ia fl))], u) _
  refine .s (.aloadN a9_42 rfl rfl) <| .s (.getF 2 a9_43 (wd hw 16 rfl) rfl rfl) <| .s (.aloadN a9_46 rfl rfl) <| .s (.dup a9_47 rfl) <| .s (.getF 4 a9_48 (wd hw 50 rfl) rfl rfl) <| .s (.dupX1 a9_51 rfl rfl) <| .s (.iconst (1 : Int32) a9_52 rfl) ?_
  refine .s (.iadd a9_53) ?_
  show WGo _ (54, [wR 0, wI p, wI n, wI s], [.int 8, .ref 0, .int 7, .ref 3], [(.inr (cn0, [(fk0, .ref 1), (fk1, .ref 2), (fk2, .ref 3), (fk3, .int 28), (fk4, .int 7)])), (wAI (ia (ks.set s.toNatClampNeg (p + 1)))), (wAI (ia (ns.set s.toNatClampNeg n))), (wAI (ia fl))], u) _
  refine .s (.putF (ty := .int) 4 (.int 8) a9_54 (wd hw 50 rfl) rfl rfl (Or.inl (wd hw 51 rfl)) (wd hw 3 rfl) (by decide) rfl rfl) ?_
  show WGo _ (57, [wR 0, wI p, wI n, wI s], [.int 7, .ref 3], [(.inr (cn0, [(fk0, .ref 1), (fk1, .ref 2), (fk2, .ref 3), (fk3, .int 28), (fk4, .int 8)])), (wAI (ia (ks.set s.toNatClampNeg (p + 1)))), (wAI (ia (ns.set s.toNatClampNeg n))), (wAI (ia fl))], u) _
  refine .s (.iloadN a9_57 rfl) <| .s (.iastore (7) a9_58 rfl (by decide) rfl (by rw [ia_len]; omega)) ?_
  rw [ia_set]
  show WGo _ (59, [wR 0, wI p, wI n, wI s], [], [(.inr (cn0, [(fk0, .ref 1), (fk1, .ref 2), (fk2, .ref 3), (fk3, .int 28), (fk4, .int 8)])), (wAI (ia (ks.set s.toNatClampNeg (p + 1)))), (wAI (ia (ns.set s.toNatClampNeg n))), (wAI (ia (fl.set 7 s)))], u) _
  refine .vreturn a9_59 rfl ?_
  have hput := WRep.put hR (p := p) (n := n) (s := s.toNatClampNeg) (by omega) hp hnew (nlt s0 s1) (hend.elim (fun q => Or.inl (q ▸ sk)) (fun q => Or.inr (q ▸ sk))) hpath
  rw [hc, ofNat_back s0] at hput
  exact ⟨_, _, _, _, hput, rfl, rfl, rfl⟩
def QSB (ks0 ns0 fl0 : List Int32) (ks ns fl : List Int32) (c place : Int32) (u : Nat) (v : Option Value) (σ' : WHp) (u' : Nat) : Prop := ∃ (s k : Int32), v = some (.int s) ∧ 0 ≤ s.toInt ∧ s.toInt < 32 ∧ ks[s.toNatClampNeg]? = some k ∧ (k = 0 ∨ k = place + 1) ∧ PPath ks 32 (whash 27 place) (place + 1) s.toNatClampNeg ∧ [(.inr (cn0, [(fk0, .ref 4), (fk1, .ref 5), (fk2, .ref 6), (fk3, .int 27), (fk4, (.int c))])), (wAI (ia ks0)), (wAI (ia ns0)), (wAI (ia fl0)), (wAI (ia ks)), (wAI (ia ns)), (wAI (ia fl))] = σ' ∧ u = u'
theorem slB {Z : State} {a0 : Array Value} (hw : ∀ d ∈ tables_1, d.before a0 Z = true) (ρ : Nat → Nat) (n0 : Nat) (ks0 ns0 fl0 : List Int32)  (place c : Int32) (ks ns fl : List Int32) (u : Nat) (hlen : ks.length = 32) (hz : ∃ z, z < 32 ∧ ks[z]? = some 0) : ∀ (m d : Nat) (t : Int32), d + m = 32 → t.toInt = ((whash 27 place + d) % 32 : Nat) → (∀ e, e < d → ∃ k, ks[(whash 27 place + e) % 32]? = some k ∧ k ≠ 0 ∧ k ≠ place + 1) → WGo (g6 Z ρ n0 7 u) (18, [wR 0, wI place, wI 31, wI t], [], [(.inr (cn0, [(fk0, .ref 4), (fk1, .ref 5), (fk2, .ref 6), (fk3, .int 27), (fk4, (.int c))])), (wAI (ia ks0)), (wAI (ia ns0)), (wAI (ia fl0)), (wAI (ia ks)), (wAI (ia ns)), (wAI (ia fl))], u) (QSB ks0 ns0 fl0 ks ns fl c place u) := by
  intro m
  induction m with
  | zero =>
    intro d t hd ht hp
    exact (all_full (by decide) hz (fun e he => hp e (by omega))).elim
  | succ m ih =>
    intro d t hd ht hp
    have hb : (whash 27 place + d) % 32 < 32 := Nat.mod_lt _ (by decide)
    have h0 : 0 ≤ t.toInt := by omega
    have h1 : t.toInt < 32 := by omega
    have ec : t.toNatClampNeg = (whash 27 place + d) % 32 := by simp only [Int32.toNatClampNeg]; omega
    obtain ⟨k, hk⟩ : ∃ k, ks[t.toNatClampNeg]? = some k := ⟨_, List.getElem?_eq_getElem (by rw [hlen]; exact nlt h0 h1)⟩
    have hpath : PPath ks 32 (whash 27 place) (place + 1) t.toNatClampNeg := ⟨d, by omega, ec, hp⟩
    refine .s (.aloadN a6_18 rfl rfl) <| .s (.getF 0 a6_19 (wd hw 12 rfl) rfl rfl) <| .s (.iloadN a6_22 rfl) <| .s (.iaload (t.toNatClampNeg) (v := (.int k)) a6_23 rfl (nn h0) rfl (ia_get hk)) ?_
    refine .eq0 a6_24 (fun h24 => ?_) (fun h24 => ?_)
    · refine .s (.iloadN a6_48 rfl) ?_
      refine .ireturn .int a6_49 rfl (by simp) ?_
      exact ⟨t, k, rfl, h0, h1, hk, Or.inl h24, hpath, rfl, rfl⟩
    · refine .s (.aloadN a6_27 rfl rfl) <| .s (.getF 0 a6_28 (wd hw 12 rfl) rfl rfl) <| .s (.iloadN a6_31 rfl) <| .s (.iaload (t.toNatClampNeg) (v := (.int k)) a6_32 rfl (nn h0) rfl (ia_get hk)) <| .s (.iloadN a6_33 rfl) <| .s (.iconst (1 : Int32) a6_34 rfl) <| .s (.iadd a6_35) ?_
      refine .eq a6_36 (fun h36 => ?_) (fun h36 => ?_)
      · refine .s (.iloadN a6_48 rfl) ?_
        refine .ireturn .int a6_49 rfl (by simp) ?_
        exact ⟨t, k, rfl, h0, h1, hk, Or.inr h36, hpath, rfl, rfl⟩
      · refine .s (.iloadN a6_39 rfl) <| .s (.iconst (1 : Int32) a6_40 rfl) <| .s (.iadd a6_41) <| .s (.iloadN a6_42 rfl) <| .s (.iand a6_43) <| .s (.istoreN (L' := [wR 0, wI place, wI 31, wI ((t + (1 : Int32)) &&& (31 : Int32))]) a6_44 rfl) <| .s (.goto a6_45) ?_
        refine ih (d + 1) _ (by omega) (step_at t 31 5 32 d _ (by decide) (by decide) rfl (by decide) ht) fun e he => ?_
        rcases Nat.lt_or_ge e d with q | q
        · exact hp e q
        · have e1 : e = d := by omega
          subst e1
          exact ⟨k, by rw [← ec]; exact hk, h24, h36⟩
theorem cslotB {Z : State} {a0 : Array Value} (hw : ∀ d ∈ tables_1, d.before a0 Z = true) (ρ : Nat → Nat) (n0 : Nat) (ks0 ns0 fl0 : List Int32)  (place c : Int32) (ks ns fl : List Int32) (u : Nat) (hlen : ks.length = 32) (hz : ∃ z, z < 32 ∧ ks[z]? = some 0) : WGo (g6 Z ρ n0 7 u) (0, [wR 0, wI place, wU, wU], [], [(.inr (cn0, [(fk0, .ref 4), (fk1, .ref 5), (fk2, .ref 6), (fk3, .int 27), (fk4, (.int c))])), (wAI (ia ks0)), (wAI (ia ns0)), (wAI (ia fl0)), (wAI (ia ks)), (wAI (ia ns)), (wAI (ia fl))], u) (QSB ks0 ns0 fl0 ks ns fl c place u) := by
  refine .s (.aloadN a6_0 rfl rfl) <| .s (.getF 0 a6_1 (wd hw 12 rfl) rfl rfl) <| .s (.alen (32 : Int32) a6_4 rfl (by rw [ia_len, hlen]; rfl)) <| .s (.iconst (1 : Int32) a6_5 rfl) <| .s (.isub a6_6) ?_
  show WGo _ (7, [wR 0, wI place, wU, wU], [.int 31], [(.inr (cn0, [(fk0, .ref 4), (fk1, .ref 5), (fk2, .ref 6), (fk3, .int 27), (fk4, (.int c))])), (wAI (ia ks0)), (wAI (ia ns0)), (wAI (ia fl0)), (wAI (ia ks)), (wAI (ia ns)), (wAI (ia fl))], u) _
  refine .s (.istoreN (L' := [wR 0, wI place, wI 31, wU]) a6_7 rfl) <| .s (.iloadN a6_8 rfl) <| .s (.ldc a6_9 (wd hw 38 rfl)) <| .s (.imul a6_11) <| .s (.aloadN a6_12 rfl rfl) <| .s (.getF 3 a6_13 (wd hw 23 rfl) rfl rfl) <| .s (.iushr a6_16) ?_
  refine .s (.istoreN (L' := [wR 0, wI place, wI 31, wI (((place * (-1640531527 : Int32)).toUInt32 >>> ((27 : Int32) &&& 31).toUInt32).toInt32)]) a6_17 rfl) ?_
  refine slB hw ρ n0 ks0 ns0 fl0 place c ks ns fl u hlen hz 32 0 _ rfl ?_ (fun e he => absurd he (Nat.not_lt_zero e))
  rw [whash_at place 27 27 (by decide) (by decide), Nat.add_zero]
  have : whash 27 place < 32 := by unfold whash; have := Int.emod_lt_of_pos (place * (-1640531527 : Int32)).toInt (show (0 : Int) < 4294967296 by decide); have := Int.emod_nonneg (place * (-1640531527 : Int32)).toInt (show (4294967296 : Int) ≠ 0 by decide); omega
  rw [Nat.mod_eq_of_lt this]
theorem cgetB {Z : State} {a0 : Array Value} (hw : ∀ d ∈ tables_1, d.before a0 Z = true) (ρ : Nat → Nat) (n0 : Nat) (ks0 ns0 fl0 : List Int32) (ks ns fl : List Int32) (E : List WEnt) (x c : Int32) (hR : WRep 32 (whash 27) ks ns fl E) (u : Nat) : WGo (g5 Z ρ n0 7 u) (0, [wR 0, wI x, wU], [], [(.inr (cn0, [(fk0, .ref 4), (fk1, .ref 5), (fk2, .ref 6), (fk3, .int 27), (fk4, (.int c))])), (wAI (ia ks0)), (wAI (ia ns0)), (wAI (ia fl0)), (wAI (ia ks)), (wAI (ia ns)), (wAI (ia fl))], u) (fun v σ' u' => v = some (.int (wlook E x)) ∧ [(.inr (cn0, [(fk0, .ref 4), (fk1, .ref 5), (fk2, .ref 6), (fk3, .int 27), (fk4, (.int c))])), (wAI (ia ks0)), (wAI (ia ns0)), (wAI (ia fl0)), (wAI (ia ks)), (wAI (ia ns)), (wAI (ia fl))] = σ' ∧ u = u') := by
  have hget := fun (s : Nat) (k : Int32) => WRep.get hR (x := x) (s := s) (k := k)
  refine .s (.aloadN a5_0 rfl rfl) <| .s (.iloadN a5_1 rfl) ?_
  refine .callP (k := 0) a5_2 (ok6 hw _ _ _ _) (wd hw 34 rfl) (wd hw 35 rfl) (selP (wd hw 3 rfl) (wd hw 35 rfl) (wd hw 36 rfl) (by decide)) (wd hw 36 rfl) rfl (argsL := [(.int x)]) (S := []) (cslotB hw _ _ ks0 ns0 fl0 x _ _ _ _ _ hR.1 (WRep.zero hR (by decide))) rfl rfl rfl rfl rfl rfl (Nat.le_of_ble_eq_true rfl) (Nat.le_of_ble_eq_true rfl) ?_
  rintro _ _ _ ⟨s, k, rfl, s0, s1, sk, hend, hpath, rfl, rfl⟩
  show WGo _ (5, [wR 0, wI x, wU], [(.int s)], [(.inr (cn0, [(fk0, .ref 4), (fk1, .ref 5), (fk2, .ref 6), (fk3, .int 27), (fk4, (.int c))])), (wAI (ia ks0)), (wAI (ia ns0)), (wAI (ia fl0)), (wAI (ia ks)), (wAI (ia ns)), (wAI (ia fl))], u) _
  refine .s (.istoreN (L' := [wR 0, wI x, wI s]) a5_5 rfl) <| .s (.aloadN a5_6 rfl rfl) <| .s (.getF 0 a5_7 (wd hw 12 rfl) rfl rfl) <| .s (.iloadN a5_10 rfl) <| .s (.iaload (s.toNatClampNeg) (v := (.int k)) a5_11 rfl (nn s0) rfl (ia_get sk)) ?_
  refine .eq0 a5_12 (fun h12 => ?_) (fun h12 => ?_)
  · refine .s (.iconst (-1 : Int32) a5_24 rfl) ?_
    refine .ireturn .int a5_25 rfl (by simp) ?_
    exact ⟨by rw [(hget _ _ (nlt s0 s1) sk hend hpath).1 h12]; rfl, rfl, rfl⟩
  · refine .s (.aloadN a5_15 rfl rfl) <| .s (.getF 1 a5_16 (wd hw 14 rfl) rfl rfl) <| .s (.iloadN a5_19 rfl) <| .s (.iaload (s.toNatClampNeg) (v := (.int (wlook E x))) a5_20 rfl (nn s0) rfl (ia_get ((hget _ _ (nlt s0 s1) sk hend hpath).2 h12))) <| .s (.goto a5_21) ?_
    refine .ireturn .int a5_25 rfl (by simp) ?_
    exact ⟨rfl, rfl, rfl⟩
theorem cputB_0 {Z : State} {a0 : Array Value} (hw : ∀ d ∈ tables_1, d.before a0 Z = true) (ρ : Nat → Nat) (n0 : Nat) (ks0 ns0 fl0 : List Int32) (ks ns fl : List Int32) (E : List WEnt) (p n : Int32) (hR : WRep 32 (whash 27) ks ns fl E) (hc : E.length = 0) (hp : p + 1 ≠ 0) (hnew : ∀ x ∈ E, ¬ x.2.1 = p) (u : Nat) : WGo (g9i Z ρ n0 7 u) (0, [wR 0, wI p, wI n, wU], [], [(.inr (cn0, [(fk0, .ref 4), (fk1, .ref 5), (fk2, .ref 6), (fk3, .int 27), (fk4, .int 0)])), (wAI (ia ks0)), (wAI (ia ns0)), (wAI (ia fl0)), (wAI (ia ks)), (wAI (ia ns)), (wAI (ia fl))], u) (fun v σ' u' => ∃ (ks' ns' fl' : List Int32) (s : Nat), WRep 32 (whash 27) ks' ns' fl' (E ++ [(s, p, n)]) ∧ v = none ∧ [(.inr (cn0, [(fk0, .ref 4), (fk1, .ref 5), (fk2, .ref 6), (fk3, .int 27), (fk4, .int 1)])), (wAI (ia ks0)), (wAI (ia ns0)), (wAI (ia fl0)), (wAI (ia ks')), (wAI (ia ns')), (wAI (ia fl'))] = σ' ∧ u = u') := by
  have hlk := hR.1
  have hln := hR.2.1
  have hlf := hR.2.2.1
  refine .s (.iconst (2 : Int32) a9_0 rfl) <| .s (.aloadN a9_1 rfl rfl) <| .s (.getF 4 a9_2 (wd hw 50 rfl) rfl rfl) <| .s (.iconst (1 : Int32) a9_5 rfl) <| .s (.iadd a9_6) ?_
  show WGo _ (7, [wR 0, wI p, wI n, wU], [.int 1, .int 2], [(.inr (cn0, [(fk0, .ref 4), (fk1, .ref 5), (fk2, .ref 6), (fk3, .int 27), (fk4, .int 0)])), (wAI (ia ks0)), (wAI (ia ns0)), (wAI (ia fl0)), (wAI (ia ks)), (wAI (ia ns)), (wAI (ia fl))], u) _
  refine .s (.imul a9_7) ?_
  show WGo _ (8, [wR 0, wI p, wI n, wU], [.int 2], [(.inr (cn0, [(fk0, .ref 4), (fk1, .ref 5), (fk2, .ref 6), (fk3, .int 27), (fk4, .int 0)])), (wAI (ia ks0)), (wAI (ia ns0)), (wAI (ia fl0)), (wAI (ia ks)), (wAI (ia ns)), (wAI (ia fl))], u) _
  refine .s (.aloadN a9_8 rfl rfl) <| .s (.getF 0 a9_9 (wd hw 12 rfl) rfl rfl) <| .s (.alen (32 : Int32) a9_12 rfl (by rw [ia_len, hlk]; rfl)) <| .s (.icmpT a9_13 (by decide)) <| .s (.aloadN a9_20 rfl rfl) <| .s (.iloadN a9_21 rfl) ?_
  refine .callP (k := 0) a9_22 (ok6 hw _ _ _ _) (wd hw 34 rfl) (wd hw 35 rfl) (selP (wd hw 3 rfl) (wd hw 35 rfl) (wd hw 36 rfl) (by decide)) (wd hw 36 rfl) rfl (argsL := [(.int p)]) (S := []) (cslotB hw _ _ ks0 ns0 fl0 p _ _ _ _ _ hR.1 (WRep.zero hR (by decide))) rfl rfl rfl rfl rfl rfl (Nat.le_of_ble_eq_true rfl) (Nat.le_of_ble_eq_true rfl) ?_
  rintro _ _ _ ⟨s, k, rfl, s0, s1, sk, hend, hpath, rfl, rfl⟩
  show WGo _ (25, [wR 0, wI p, wI n, wU], [(.int s)], [(.inr (cn0, [(fk0, .ref 4), (fk1, .ref 5), (fk2, .ref 6), (fk3, .int 27), (fk4, .int 0)])), (wAI (ia ks0)), (wAI (ia ns0)), (wAI (ia fl0)), (wAI (ia ks)), (wAI (ia ns)), (wAI (ia fl))], u) _
  refine .s (.istoreN (L' := [wR 0, wI p, wI n, wI s]) a9_25 rfl) <| .s (.aloadN a9_26 rfl rfl) <| .s (.getF 0 a9_27 (wd hw 12 rfl) rfl rfl) <| .s (.iloadN a9_30 rfl) <| .s (.iloadN a9_31 rfl) <| .s (.iconst (1 : Int32) a9_32 rfl) <| .s (.iadd a9_33) ?_
  refine .s (.iastore (s.toNatClampNeg) a9_34 rfl (nn s0) rfl (by rw [ia_len, hlk]; exact nlt s0 s1)) ?_
  rw [ia_set]
  show WGo _ (35, [wR 0, wI p, wI n, wI s], [], [(.inr (cn0, [(fk0, .ref 4), (fk1, .ref 5), (fk2, .ref 6), (fk3, .int 27), (fk4, .int 0)])), (wAI (ia ks0)), (wAI (ia ns0)), (wAI (ia fl0)), (wAI (ia (ks.set s.toNatClampNeg (p + 1)))), (wAI (ia ns)), (wAI (ia fl))], u) _
  refine .s (.aloadN a9_35 rfl rfl) <| .s (.getF 1 a9_36 (wd hw 14 rfl) rfl rfl) <| .s (.iloadN a9_39 rfl) <| .s (.iloadN a9_40 rfl) <| .s (.iastore (s.toNatClampNeg) a9_41 rfl (nn s0) rfl (by rw [ia_len, hln]; exact nlt s0 s1)) ?_
  rw [ia_set]
  show WGo _ (42, [wR 0, wI p, wI n, wI s], [], [(.inr (cn0, [(fk0, .ref 4), (fk1, .ref 5), (fk2, .ref 6), (fk3, .int 27), (fk4, .int 0)])), (wAI (ia ks0)), (wAI (ia ns0)), (wAI (ia fl0)), (wAI (ia (ks.set s.toNatClampNeg (p + 1)))), (wAI (ia (ns.set s.toNatClampNeg n))), (wAI (ia fl))], u) _
  refine .s (.aloadN a9_42 rfl rfl) <| .s (.getF 2 a9_43 (wd hw 16 rfl) rfl rfl) <| .s (.aloadN a9_46 rfl rfl) <| .s (.dup a9_47 rfl) <| .s (.getF 4 a9_48 (wd hw 50 rfl) rfl rfl) <| .s (.dupX1 a9_51 rfl rfl) <| .s (.iconst (1 : Int32) a9_52 rfl) ?_
  refine .s (.iadd a9_53) ?_
  show WGo _ (54, [wR 0, wI p, wI n, wI s], [.int 1, .ref 0, .int 0, .ref 6], [(.inr (cn0, [(fk0, .ref 4), (fk1, .ref 5), (fk2, .ref 6), (fk3, .int 27), (fk4, .int 0)])), (wAI (ia ks0)), (wAI (ia ns0)), (wAI (ia fl0)), (wAI (ia (ks.set s.toNatClampNeg (p + 1)))), (wAI (ia (ns.set s.toNatClampNeg n))), (wAI (ia fl))], u) _
  refine .s (.putF (ty := .int) 4 (.int 1) a9_54 (wd hw 50 rfl) rfl rfl (Or.inl (wd hw 51 rfl)) (wd hw 3 rfl) (by decide) rfl rfl) ?_
  show WGo _ (57, [wR 0, wI p, wI n, wI s], [.int 0, .ref 6], [(.inr (cn0, [(fk0, .ref 4), (fk1, .ref 5), (fk2, .ref 6), (fk3, .int 27), (fk4, .int 1)])), (wAI (ia ks0)), (wAI (ia ns0)), (wAI (ia fl0)), (wAI (ia (ks.set s.toNatClampNeg (p + 1)))), (wAI (ia (ns.set s.toNatClampNeg n))), (wAI (ia fl))], u) _
  refine .s (.iloadN a9_57 rfl) <| .s (.iastore (0) a9_58 rfl (by decide) rfl (by rw [ia_len]; omega)) ?_
  rw [ia_set]
  show WGo _ (59, [wR 0, wI p, wI n, wI s], [], [(.inr (cn0, [(fk0, .ref 4), (fk1, .ref 5), (fk2, .ref 6), (fk3, .int 27), (fk4, .int 1)])), (wAI (ia ks0)), (wAI (ia ns0)), (wAI (ia fl0)), (wAI (ia (ks.set s.toNatClampNeg (p + 1)))), (wAI (ia (ns.set s.toNatClampNeg n))), (wAI (ia (fl.set 0 s)))], u) _
  refine .vreturn a9_59 rfl ?_
  have hput := WRep.put hR (p := p) (n := n) (s := s.toNatClampNeg) (by omega) hp hnew (nlt s0 s1) (hend.elim (fun q => Or.inl (q ▸ sk)) (fun q => Or.inr (q ▸ sk))) hpath
  rw [hc, ofNat_back s0] at hput
  exact ⟨_, _, _, _, hput, rfl, rfl, rfl⟩
theorem cputB_1 {Z : State} {a0 : Array Value} (hw : ∀ d ∈ tables_1, d.before a0 Z = true) (ρ : Nat → Nat) (n0 : Nat) (ks0 ns0 fl0 : List Int32) (ks ns fl : List Int32) (E : List WEnt) (p n : Int32) (hR : WRep 32 (whash 27) ks ns fl E) (hc : E.length = 1) (hp : p + 1 ≠ 0) (hnew : ∀ x ∈ E, ¬ x.2.1 = p) (u : Nat) : WGo (g9i Z ρ n0 7 u) (0, [wR 0, wI p, wI n, wU], [], [(.inr (cn0, [(fk0, .ref 4), (fk1, .ref 5), (fk2, .ref 6), (fk3, .int 27), (fk4, .int 1)])), (wAI (ia ks0)), (wAI (ia ns0)), (wAI (ia fl0)), (wAI (ia ks)), (wAI (ia ns)), (wAI (ia fl))], u) (fun v σ' u' => ∃ (ks' ns' fl' : List Int32) (s : Nat), WRep 32 (whash 27) ks' ns' fl' (E ++ [(s, p, n)]) ∧ v = none ∧ [(.inr (cn0, [(fk0, .ref 4), (fk1, .ref 5), (fk2, .ref 6), (fk3, .int 27), (fk4, .int 2)])), (wAI (ia ks0)), (wAI (ia ns0)), (wAI (ia fl0)), (wAI (ia ks')), (wAI (ia ns')), (wAI (ia fl'))] = σ' ∧ u = u') := by
  have hlk := hR.1
  have hln := hR.2.1
  have hlf := hR.2.2.1
  refine .s (.iconst (2 : Int32) a9_0 rfl) <| .s (.aloadN a9_1 rfl rfl) <| .s (.getF 4 a9_2 (wd hw 50 rfl) rfl rfl) <| .s (.iconst (1 : Int32) a9_5 rfl) <| .s (.iadd a9_6) ?_
  show WGo _ (7, [wR 0, wI p, wI n, wU], [.int 2, .int 2], [(.inr (cn0, [(fk0, .ref 4), (fk1, .ref 5), (fk2, .ref 6), (fk3, .int 27), (fk4, .int 1)])), (wAI (ia ks0)), (wAI (ia ns0)), (wAI (ia fl0)), (wAI (ia ks)), (wAI (ia ns)), (wAI (ia fl))], u) _
  refine .s (.imul a9_7) ?_
  show WGo _ (8, [wR 0, wI p, wI n, wU], [.int 4], [(.inr (cn0, [(fk0, .ref 4), (fk1, .ref 5), (fk2, .ref 6), (fk3, .int 27), (fk4, .int 1)])), (wAI (ia ks0)), (wAI (ia ns0)), (wAI (ia fl0)), (wAI (ia ks)), (wAI (ia ns)), (wAI (ia fl))], u) _
  refine .s (.aloadN a9_8 rfl rfl) <| .s (.getF 0 a9_9 (wd hw 12 rfl) rfl rfl) <| .s (.alen (32 : Int32) a9_12 rfl (by rw [ia_len, hlk]; rfl)) <| .s (.icmpT a9_13 (by decide)) <| .s (.aloadN a9_20 rfl rfl) <| .s (.iloadN a9_21 rfl) ?_
  refine .callP (k := 0) a9_22 (ok6 hw _ _ _ _) (wd hw 34 rfl) (wd hw 35 rfl) (selP (wd hw 3 rfl) (wd hw 35 rfl) (wd hw 36 rfl) (by decide)) (wd hw 36 rfl) rfl (argsL := [(.int p)]) (S := []) (cslotB hw _ _ ks0 ns0 fl0 p _ _ _ _ _ hR.1 (WRep.zero hR (by decide))) rfl rfl rfl rfl rfl rfl (Nat.le_of_ble_eq_true rfl) (Nat.le_of_ble_eq_true rfl) ?_
  rintro _ _ _ ⟨s, k, rfl, s0, s1, sk, hend, hpath, rfl, rfl⟩
  show WGo _ (25, [wR 0, wI p, wI n, wU], [(.int s)], [(.inr (cn0, [(fk0, .ref 4), (fk1, .ref 5), (fk2, .ref 6), (fk3, .int 27), (fk4, .int 1)])), (wAI (ia ks0)), (wAI (ia ns0)), (wAI (ia fl0)), (wAI (ia ks)), (wAI (ia ns)), (wAI (ia fl))], u) _
  refine .s (.istoreN (L' := [wR 0, wI p, wI n, wI s]) a9_25 rfl) <| .s (.aloadN a9_26 rfl rfl) <| .s (.getF 0 a9_27 (wd hw 12 rfl) rfl rfl) <| .s (.iloadN a9_30 rfl) <| .s (.iloadN a9_31 rfl) <| .s (.iconst (1 : Int32) a9_32 rfl) <| .s (.iadd a9_33) ?_
  refine .s (.iastore (s.toNatClampNeg) a9_34 rfl (nn s0) rfl (by rw [ia_len, hlk]; exact nlt s0 s1)) ?_
  rw [ia_set]
  show WGo _ (35, [wR 0, wI p, wI n, wI s], [], [(.inr (cn0, [(fk0, .ref 4), (fk1, .ref 5), (fk2, .ref 6), (fk3, .int 27), (fk4, .int 1)])), (wAI (ia ks0)), (wAI (ia ns0)), (wAI (ia fl0)), (wAI (ia (ks.set s.toNatClampNeg (p + 1)))), (wAI (ia ns)), (wAI (ia fl))], u) _
  refine .s (.aloadN a9_35 rfl rfl) <| .s (.getF 1 a9_36 (wd hw 14 rfl) rfl rfl) <| .s (.iloadN a9_39 rfl) <| .s (.iloadN a9_40 rfl) <| .s (.iastore (s.toNatClampNeg) a9_41 rfl (nn s0) rfl (by rw [ia_len, hln]; exact nlt s0 s1)) ?_
  rw [ia_set]
  show WGo _ (42, [wR 0, wI p, wI n, wI s], [], [(.inr (cn0, [(fk0, .ref 4), (fk1, .ref 5), (fk2, .ref 6), (fk3, .int 27), (fk4, .int 1)])), (wAI (ia ks0)), (wAI (ia ns0)), (wAI (ia fl0)), (wAI (ia (ks.set s.toNatClampNeg (p + 1)))), (wAI (ia (ns.set s.toNatClampNeg n))), (wAI (ia fl))], u) _
  refine .s (.aloadN a9_42 rfl rfl) <| .s (.getF 2 a9_43 (wd hw 16 rfl) rfl rfl) <| .s (.aloadN a9_46 rfl rfl) <| .s (.dup a9_47 rfl) <| .s (.getF 4 a9_48 (wd hw 50 rfl) rfl rfl) <| .s (.dupX1 a9_51 rfl rfl) <| .s (.iconst (1 : Int32) a9_52 rfl) ?_
  refine .s (.iadd a9_53) ?_
  show WGo _ (54, [wR 0, wI p, wI n, wI s], [.int 2, .ref 0, .int 1, .ref 6], [(.inr (cn0, [(fk0, .ref 4), (fk1, .ref 5), (fk2, .ref 6), (fk3, .int 27), (fk4, .int 1)])), (wAI (ia ks0)), (wAI (ia ns0)), (wAI (ia fl0)), (wAI (ia (ks.set s.toNatClampNeg (p + 1)))), (wAI (ia (ns.set s.toNatClampNeg n))), (wAI (ia fl))], u) _
  refine .s (.putF (ty := .int) 4 (.int 2) a9_54 (wd hw 50 rfl) rfl rfl (Or.inl (wd hw 51 rfl)) (wd hw 3 rfl) (by decide) rfl rfl) ?_
  show WGo _ (57, [wR 0, wI p, wI n, wI s], [.int 1, .ref 6], [(.inr (cn0, [(fk0, .ref 4), (fk1, .ref 5), (fk2, .ref 6), (fk3, .int 27), (fk4, .int 2)])), (wAI (ia ks0)), (wAI (ia ns0)), (wAI (ia fl0)), (wAI (ia (ks.set s.toNatClampNeg (p + 1)))), (wAI (ia (ns.set s.toNatClampNeg n))), (wAI (ia fl))], u) _
  refine .s (.iloadN a9_57 rfl) <| .s (.iastore (1) a9_58 rfl (by decide) rfl (by rw [ia_len]; omega)) ?_
  rw [ia_set]
  show WGo _ (59, [wR 0, wI p, wI n, wI s], [], [(.inr (cn0, [(fk0, .ref 4), (fk1, .ref 5), (fk2, .ref 6), (fk3, .int 27), (fk4, .int 2)])), (wAI (ia ks0)), (wAI (ia ns0)), (wAI (ia fl0)), (wAI (ia (ks.set s.toNatClampNeg (p + 1)))), (wAI (ia (ns.set s.toNatClampNeg n))), (wAI (ia (fl.set 1 s)))], u) _
  refine .vreturn a9_59 rfl ?_
  have hput := WRep.put hR (p := p) (n := n) (s := s.toNatClampNeg) (by omega) hp hnew (nlt s0 s1) (hend.elim (fun q => Or.inl (q ▸ sk)) (fun q => Or.inr (q ▸ sk))) hpath
  rw [hc, ofNat_back s0] at hput
  exact ⟨_, _, _, _, hput, rfl, rfl, rfl⟩
theorem cputB_2 {Z : State} {a0 : Array Value} (hw : ∀ d ∈ tables_1, d.before a0 Z = true) (ρ : Nat → Nat) (n0 : Nat) (ks0 ns0 fl0 : List Int32) (ks ns fl : List Int32) (E : List WEnt) (p n : Int32) (hR : WRep 32 (whash 27) ks ns fl E) (hc : E.length = 2) (hp : p + 1 ≠ 0) (hnew : ∀ x ∈ E, ¬ x.2.1 = p) (u : Nat) : WGo (g9i Z ρ n0 7 u) (0, [wR 0, wI p, wI n, wU], [], [(.inr (cn0, [(fk0, .ref 4), (fk1, .ref 5), (fk2, .ref 6), (fk3, .int 27), (fk4, .int 2)])), (wAI (ia ks0)), (wAI (ia ns0)), (wAI (ia fl0)), (wAI (ia ks)), (wAI (ia ns)), (wAI (ia fl))], u) (fun v σ' u' => ∃ (ks' ns' fl' : List Int32) (s : Nat), WRep 32 (whash 27) ks' ns' fl' (E ++ [(s, p, n)]) ∧ v = none ∧ [(.inr (cn0, [(fk0, .ref 4), (fk1, .ref 5), (fk2, .ref 6), (fk3, .int 27), (fk4, .int 3)])), (wAI (ia ks0)), (wAI (ia ns0)), (wAI (ia fl0)), (wAI (ia ks')), (wAI (ia ns')), (wAI (ia fl'))] = σ' ∧ u = u') := by
  have hlk := hR.1
  have hln := hR.2.1
  have hlf := hR.2.2.1
  refine .s (.iconst (2 : Int32) a9_0 rfl) <| .s (.aloadN a9_1 rfl rfl) <| .s (.getF 4 a9_2 (wd hw 50 rfl) rfl rfl) <| .s (.iconst (1 : Int32) a9_5 rfl) <| .s (.iadd a9_6) ?_
  show WGo _ (7, [wR 0, wI p, wI n, wU], [.int 3, .int 2], [(.inr (cn0, [(fk0, .ref 4), (fk1, .ref 5), (fk2, .ref 6), (fk3, .int 27), (fk4, .int 2)])), (wAI (ia ks0)), (wAI (ia ns0)), (wAI (ia fl0)), (wAI (ia ks)), (wAI (ia ns)), (wAI (ia fl))], u) _
  refine .s (.imul a9_7) ?_
  show WGo _ (8, [wR 0, wI p, wI n, wU], [.int 6], [(.inr (cn0, [(fk0, .ref 4), (fk1, .ref 5), (fk2, .ref 6), (fk3, .int 27), (fk4, .int 2)])), (wAI (ia ks0)), (wAI (ia ns0)), (wAI (ia fl0)), (wAI (ia ks)), (wAI (ia ns)), (wAI (ia fl))], u) _
  refine .s (.aloadN a9_8 rfl rfl) <| .s (.getF 0 a9_9 (wd hw 12 rfl) rfl rfl) <| .s (.alen (32 : Int32) a9_12 rfl (by rw [ia_len, hlk]; rfl)) <| .s (.icmpT a9_13 (by decide)) <| .s (.aloadN a9_20 rfl rfl) <| .s (.iloadN a9_21 rfl) ?_
  refine .callP (k := 0) a9_22 (ok6 hw _ _ _ _) (wd hw 34 rfl) (wd hw 35 rfl) (selP (wd hw 3 rfl) (wd hw 35 rfl) (wd hw 36 rfl) (by decide)) (wd hw 36 rfl) rfl (argsL := [(.int p)]) (S := []) (cslotB hw _ _ ks0 ns0 fl0 p _ _ _ _ _ hR.1 (WRep.zero hR (by decide))) rfl rfl rfl rfl rfl rfl (Nat.le_of_ble_eq_true rfl) (Nat.le_of_ble_eq_true rfl) ?_
  rintro _ _ _ ⟨s, k, rfl, s0, s1, sk, hend, hpath, rfl, rfl⟩
  show WGo _ (25, [wR 0, wI p, wI n, wU], [(.int s)], [(.inr (cn0, [(fk0, .ref 4), (fk1, .ref 5), (fk2, .ref 6), (fk3, .int 27), (fk4, .int 2)])), (wAI (ia ks0)), (wAI (ia ns0)), (wAI (ia fl0)), (wAI (ia ks)), (wAI (ia ns)), (wAI (ia fl))], u) _
  refine .s (.istoreN (L' := [wR 0, wI p, wI n, wI s]) a9_25 rfl) <| .s (.aloadN a9_26 rfl rfl) <| .s (.getF 0 a9_27 (wd hw 12 rfl) rfl rfl) <| .s (.iloadN a9_30 rfl) <| .s (.iloadN a9_31 rfl) <| .s (.iconst (1 : Int32) a9_32 rfl) <| .s (.iadd a9_33) ?_
  refine .s (.iastore (s.toNatClampNeg) a9_34 rfl (nn s0) rfl (by rw [ia_len, hlk]; exact nlt s0 s1)) ?_
  rw [ia_set]
  show WGo _ (35, [wR 0, wI p, wI n, wI s], [], [(.inr (cn0, [(fk0, .ref 4), (fk1, .ref 5), (fk2, .ref 6), (fk3, .int 27), (fk4, .int 2)])), (wAI (ia ks0)), (wAI (ia ns0)), (wAI (ia fl0)), (wAI (ia (ks.set s.toNatClampNeg (p + 1)))), (wAI (ia ns)), (wAI (ia fl))], u) _
  refine .s (.aloadN a9_35 rfl rfl) <| .s (.getF 1 a9_36 (wd hw 14 rfl) rfl rfl) <| .s (.iloadN a9_39 rfl) <| .s (.iloadN a9_40 rfl) <| .s (.iastore (s.toNatClampNeg) a9_41 rfl (nn s0) rfl (by rw [ia_len, hln]; exact nlt s0 s1)) ?_
  rw [ia_set]
  show WGo _ (42, [wR 0, wI p, wI n, wI s], [], [(.inr (cn0, [(fk0, .ref 4), (fk1, .ref 5), (fk2, .ref 6), (fk3, .int 27), (fk4, .int 2)])), (wAI (ia ks0)), (wAI (ia ns0)), (wAI (ia fl0)), (wAI (ia (ks.set s.toNatClampNeg (p + 1)))), (wAI (ia (ns.set s.toNatClampNeg n))), (wAI (ia fl))], u) _
  refine .s (.aloadN a9_42 rfl rfl) <| .s (.getF 2 a9_43 (wd hw 16 rfl) rfl rfl) <| .s (.aloadN a9_46 rfl rfl) <| .s (.dup a9_47 rfl) <| .s (.getF 4 a9_48 (wd hw 50 rfl) rfl rfl) <| .s (.dupX1 a9_51 rfl rfl) <| .s (.iconst (1 : Int32) a9_52 rfl) ?_
  refine .s (.iadd a9_53) ?_
  show WGo _ (54, [wR 0, wI p, wI n, wI s], [.int 3, .ref 0, .int 2, .ref 6], [(.inr (cn0, [(fk0, .ref 4), (fk1, .ref 5), (fk2, .ref 6), (fk3, .int 27), (fk4, .int 2)])), (wAI (ia ks0)), (wAI (ia ns0)), (wAI (ia fl0)), (wAI (ia (ks.set s.toNatClampNeg (p + 1)))), (wAI (ia (ns.set s.toNatClampNeg n))), (wAI (ia fl))], u) _
  refine .s (.putF (ty := .int) 4 (.int 3) a9_54 (wd hw 50 rfl) rfl rfl (Or.inl (wd hw 51 rfl)) (wd hw 3 rfl) (by decide) rfl rfl) ?_
  show WGo _ (57, [wR 0, wI p, wI n, wI s], [.int 2, .ref 6], [(.inr (cn0, [(fk0, .ref 4), (fk1, .ref 5), (fk2, .ref 6), (fk3, .int 27), (fk4, .int 3)])), (wAI (ia ks0)), (wAI (ia ns0)), (wAI (ia fl0)), (wAI (ia (ks.set s.toNatClampNeg (p + 1)))), (wAI (ia (ns.set s.toNatClampNeg n))), (wAI (ia fl))], u) _
  refine .s (.iloadN a9_57 rfl) <| .s (.iastore (2) a9_58 rfl (by decide) rfl (by rw [ia_len]; omega)) ?_
  rw [ia_set]
  show WGo _ (59, [wR 0, wI p, wI n, wI s], [], [(.inr (cn0, [(fk0, .ref 4), (fk1, .ref 5), (fk2, .ref 6), (fk3, .int 27), (fk4, .int 3)])), (wAI (ia ks0)), (wAI (ia ns0)), (wAI (ia fl0)), (wAI (ia (ks.set s.toNatClampNeg (p + 1)))), (wAI (ia (ns.set s.toNatClampNeg n))), (wAI (ia (fl.set 2 s)))], u) _
  refine .vreturn a9_59 rfl ?_
  have hput := WRep.put hR (p := p) (n := n) (s := s.toNatClampNeg) (by omega) hp hnew (nlt s0 s1) (hend.elim (fun q => Or.inl (q ▸ sk)) (fun q => Or.inr (q ▸ sk))) hpath
  rw [hc, ofNat_back s0] at hput
  exact ⟨_, _, _, _, hput, rfl, rfl, rfl⟩
theorem cputB_3 {Z : State} {a0 : Array Value} (hw : ∀ d ∈ tables_1, d.before a0 Z = true) (ρ : Nat → Nat) (n0 : Nat) (ks0 ns0 fl0 : List Int32) (ks ns fl : List Int32) (E : List WEnt) (p n : Int32) (hR : WRep 32 (whash 27) ks ns fl E) (hc : E.length = 3) (hp : p + 1 ≠ 0) (hnew : ∀ x ∈ E, ¬ x.2.1 = p) (u : Nat) : WGo (g9i Z ρ n0 7 u) (0, [wR 0, wI p, wI n, wU], [], [(.inr (cn0, [(fk0, .ref 4), (fk1, .ref 5), (fk2, .ref 6), (fk3, .int 27), (fk4, .int 3)])), (wAI (ia ks0)), (wAI (ia ns0)), (wAI (ia fl0)), (wAI (ia ks)), (wAI (ia ns)), (wAI (ia fl))], u) (fun v σ' u' => ∃ (ks' ns' fl' : List Int32) (s : Nat), WRep 32 (whash 27) ks' ns' fl' (E ++ [(s, p, n)]) ∧ v = none ∧ [(.inr (cn0, [(fk0, .ref 4), (fk1, .ref 5), (fk2, .ref 6), (fk3, .int 27), (fk4, .int 4)])), (wAI (ia ks0)), (wAI (ia ns0)), (wAI (ia fl0)), (wAI (ia ks')), (wAI (ia ns')), (wAI (ia fl'))] = σ' ∧ u = u') := by
  have hlk := hR.1
  have hln := hR.2.1
  have hlf := hR.2.2.1
  refine .s (.iconst (2 : Int32) a9_0 rfl) <| .s (.aloadN a9_1 rfl rfl) <| .s (.getF 4 a9_2 (wd hw 50 rfl) rfl rfl) <| .s (.iconst (1 : Int32) a9_5 rfl) <| .s (.iadd a9_6) ?_
  show WGo _ (7, [wR 0, wI p, wI n, wU], [.int 4, .int 2], [(.inr (cn0, [(fk0, .ref 4), (fk1, .ref 5), (fk2, .ref 6), (fk3, .int 27), (fk4, .int 3)])), (wAI (ia ks0)), (wAI (ia ns0)), (wAI (ia fl0)), (wAI (ia ks)), (wAI (ia ns)), (wAI (ia fl))], u) _
  refine .s (.imul a9_7) ?_
  show WGo _ (8, [wR 0, wI p, wI n, wU], [.int 8], [(.inr (cn0, [(fk0, .ref 4), (fk1, .ref 5), (fk2, .ref 6), (fk3, .int 27), (fk4, .int 3)])), (wAI (ia ks0)), (wAI (ia ns0)), (wAI (ia fl0)), (wAI (ia ks)), (wAI (ia ns)), (wAI (ia fl))], u) _
  refine .s (.aloadN a9_8 rfl rfl) <| .s (.getF 0 a9_9 (wd hw 12 rfl) rfl rfl) <| .s (.alen (32 : Int32) a9_12 rfl (by rw [ia_len, hlk]; rfl)) <| .s (.icmpT a9_13 (by decide)) <| .s (.aloadN a9_20 rfl rfl) <| .s (.iloadN a9_21 rfl) ?_
  refine .callP (k := 0) a9_22 (ok6 hw _ _ _ _) (wd hw 34 rfl) (wd hw 35 rfl) (selP (wd hw 3 rfl) (wd hw 35 rfl) (wd hw 36 rfl) (by decide)) (wd hw 36 rfl) rfl (argsL := [(.int p)]) (S := []) (cslotB hw _ _ ks0 ns0 fl0 p _ _ _ _ _ hR.1 (WRep.zero hR (by decide))) rfl rfl rfl rfl rfl rfl (Nat.le_of_ble_eq_true rfl) (Nat.le_of_ble_eq_true rfl) ?_
  rintro _ _ _ ⟨s, k, rfl, s0, s1, sk, hend, hpath, rfl, rfl⟩
  show WGo _ (25, [wR 0, wI p, wI n, wU], [(.int s)], [(.inr (cn0, [(fk0, .ref 4), (fk1, .ref 5), (fk2, .ref 6), (fk3, .int 27), (fk4, .int 3)])), (wAI (ia ks0)), (wAI (ia ns0)), (wAI (ia fl0)), (wAI (ia ks)), (wAI (ia ns)), (wAI (ia fl))], u) _
  refine .s (.istoreN (L' := [wR 0, wI p, wI n, wI s]) a9_25 rfl) <| .s (.aloadN a9_26 rfl rfl) <| .s (.getF 0 a9_27 (wd hw 12 rfl) rfl rfl) <| .s (.iloadN a9_30 rfl) <| .s (.iloadN a9_31 rfl) <| .s (.iconst (1 : Int32) a9_32 rfl) <| .s (.iadd a9_33) ?_
  refine .s (.iastore (s.toNatClampNeg) a9_34 rfl (nn s0) rfl (by rw [ia_len, hlk]; exact nlt s0 s1)) ?_
  rw [ia_set]
  show WGo _ (35, [wR 0, wI p, wI n, wI s], [], [(.inr (cn0, [(fk0, .ref 4), (fk1, .ref 5), (fk2, .ref 6), (fk3, .int 27), (fk4, .int 3)])), (wAI (ia ks0)), (wAI (ia ns0)), (wAI (ia fl0)), (wAI (ia (ks.set s.toNatClampNeg (p + 1)))), (wAI (ia ns)), (wAI (ia fl))], u) _
  refine .s (.aloadN a9_35 rfl rfl) <| .s (.getF 1 a9_36 (wd hw 14 rfl) rfl rfl) <| .s (.iloadN a9_39 rfl) <| .s (.iloadN a9_40 rfl) <| .s (.iastore (s.toNatClampNeg) a9_41 rfl (nn s0) rfl (by rw [ia_len, hln]; exact nlt s0 s1)) ?_
  rw [ia_set]
  show WGo _ (42, [wR 0, wI p, wI n, wI s], [], [(.inr (cn0, [(fk0, .ref 4), (fk1, .ref 5), (fk2, .ref 6), (fk3, .int 27), (fk4, .int 3)])), (wAI (ia ks0)), (wAI (ia ns0)), (wAI (ia fl0)), (wAI (ia (ks.set s.toNatClampNeg (p + 1)))), (wAI (ia (ns.set s.toNatClampNeg n))), (wAI (ia fl))], u) _
  refine .s (.aloadN a9_42 rfl rfl) <| .s (.getF 2 a9_43 (wd hw 16 rfl) rfl rfl) <| .s (.aloadN a9_46 rfl rfl) <| .s (.dup a9_47 rfl) <| .s (.getF 4 a9_48 (wd hw 50 rfl) rfl rfl) <| .s (.dupX1 a9_51 rfl rfl) <| .s (.iconst (1 : Int32) a9_52 rfl) ?_
  refine .s (.iadd a9_53) ?_
  show WGo _ (54, [wR 0, wI p, wI n, wI s], [.int 4, .ref 0, .int 3, .ref 6], [(.inr (cn0, [(fk0, .ref 4), (fk1, .ref 5), (fk2, .ref 6), (fk3, .int 27), (fk4, .int 3)])), (wAI (ia ks0)), (wAI (ia ns0)), (wAI (ia fl0)), (wAI (ia (ks.set s.toNatClampNeg (p + 1)))), (wAI (ia (ns.set s.toNatClampNeg n))), (wAI (ia fl))], u) _
  refine .s (.putF (ty := .int) 4 (.int 4) a9_54 (wd hw 50 rfl) rfl rfl (Or.inl (wd hw 51 rfl)) (wd hw 3 rfl) (by decide) rfl rfl) ?_
  show WGo _ (57, [wR 0, wI p, wI n, wI s], [.int 3, .ref 6], [(.inr (cn0, [(fk0, .ref 4), (fk1, .ref 5), (fk2, .ref 6), (fk3, .int 27), (fk4, .int 4)])), (wAI (ia ks0)), (wAI (ia ns0)), (wAI (ia fl0)), (wAI (ia (ks.set s.toNatClampNeg (p + 1)))), (wAI (ia (ns.set s.toNatClampNeg n))), (wAI (ia fl))], u) _
  refine .s (.iloadN a9_57 rfl) <| .s (.iastore (3) a9_58 rfl (by decide) rfl (by rw [ia_len]; omega)) ?_
  rw [ia_set]
  show WGo _ (59, [wR 0, wI p, wI n, wI s], [], [(.inr (cn0, [(fk0, .ref 4), (fk1, .ref 5), (fk2, .ref 6), (fk3, .int 27), (fk4, .int 4)])), (wAI (ia ks0)), (wAI (ia ns0)), (wAI (ia fl0)), (wAI (ia (ks.set s.toNatClampNeg (p + 1)))), (wAI (ia (ns.set s.toNatClampNeg n))), (wAI (ia (fl.set 3 s)))], u) _
  refine .vreturn a9_59 rfl ?_
  have hput := WRep.put hR (p := p) (n := n) (s := s.toNatClampNeg) (by omega) hp hnew (nlt s0 s1) (hend.elim (fun q => Or.inl (q ▸ sk)) (fun q => Or.inr (q ▸ sk))) hpath
  rw [hc, ofNat_back s0] at hput
  exact ⟨_, _, _, _, hput, rfl, rfl, rfl⟩
theorem cputB_4 {Z : State} {a0 : Array Value} (hw : ∀ d ∈ tables_1, d.before a0 Z = true) (ρ : Nat → Nat) (n0 : Nat) (ks0 ns0 fl0 : List Int32) (ks ns fl : List Int32) (E : List WEnt) (p n : Int32) (hR : WRep 32 (whash 27) ks ns fl E) (hc : E.length = 4) (hp : p + 1 ≠ 0) (hnew : ∀ x ∈ E, ¬ x.2.1 = p) (u : Nat) : WGo (g9i Z ρ n0 7 u) (0, [wR 0, wI p, wI n, wU], [], [(.inr (cn0, [(fk0, .ref 4), (fk1, .ref 5), (fk2, .ref 6), (fk3, .int 27), (fk4, .int 4)])), (wAI (ia ks0)), (wAI (ia ns0)), (wAI (ia fl0)), (wAI (ia ks)), (wAI (ia ns)), (wAI (ia fl))], u) (fun v σ' u' => ∃ (ks' ns' fl' : List Int32) (s : Nat), WRep 32 (whash 27) ks' ns' fl' (E ++ [(s, p, n)]) ∧ v = none ∧ [(.inr (cn0, [(fk0, .ref 4), (fk1, .ref 5), (fk2, .ref 6), (fk3, .int 27), (fk4, .int 5)])), (wAI (ia ks0)), (wAI (ia ns0)), (wAI (ia fl0)), (wAI (ia ks')), (wAI (ia ns')), (wAI (ia fl'))] = σ' ∧ u = u') := by
  have hlk := hR.1
  have hln := hR.2.1
  have hlf := hR.2.2.1
  refine .s (.iconst (2 : Int32) a9_0 rfl) <| .s (.aloadN a9_1 rfl rfl) <| .s (.getF 4 a9_2 (wd hw 50 rfl) rfl rfl) <| .s (.iconst (1 : Int32) a9_5 rfl) <| .s (.iadd a9_6) ?_
  show WGo _ (7, [wR 0, wI p, wI n, wU], [.int 5, .int 2], [(.inr (cn0, [(fk0, .ref 4), (fk1, .ref 5), (fk2, .ref 6), (fk3, .int 27), (fk4, .int 4)])), (wAI (ia ks0)), (wAI (ia ns0)), (wAI (ia fl0)), (wAI (ia ks)), (wAI (ia ns)), (wAI (ia fl))], u) _
  refine .s (.imul a9_7) ?_
  show WGo _ (8, [wR 0, wI p, wI n, wU], [.int 10], [(.inr (cn0, [(fk0, .ref 4), (fk1, .ref 5), (fk2, .ref 6), (fk3, .int 27), (fk4, .int 4)])), (wAI (ia ks0)), (wAI (ia ns0)), (wAI (ia fl0)), (wAI (ia ks)), (wAI (ia ns)), (wAI (ia fl))], u) _
  refine .s (.aloadN a9_8 rfl rfl) <| .s (.getF 0 a9_9 (wd hw 12 rfl) rfl rfl) <| .s (.alen (32 : Int32) a9_12 rfl (by rw [ia_len, hlk]; rfl)) <| .s (.icmpT a9_13 (by decide)) <| .s (.aloadN a9_20 rfl rfl) <| .s (.iloadN a9_21 rfl) ?_
  refine .callP (k := 0) a9_22 (ok6 hw _ _ _ _) (wd hw 34 rfl) (wd hw 35 rfl) (selP (wd hw 3 rfl) (wd hw 35 rfl) (wd hw 36 rfl) (by decide)) (wd hw 36 rfl) rfl (argsL := [(.int p)]) (S := []) (cslotB hw _ _ ks0 ns0 fl0 p _ _ _ _ _ hR.1 (WRep.zero hR (by decide))) rfl rfl rfl rfl rfl rfl (Nat.le_of_ble_eq_true rfl) (Nat.le_of_ble_eq_true rfl) ?_
  rintro _ _ _ ⟨s, k, rfl, s0, s1, sk, hend, hpath, rfl, rfl⟩
  show WGo _ (25, [wR 0, wI p, wI n, wU], [(.int s)], [(.inr (cn0, [(fk0, .ref 4), (fk1, .ref 5), (fk2, .ref 6), (fk3, .int 27), (fk4, .int 4)])), (wAI (ia ks0)), (wAI (ia ns0)), (wAI (ia fl0)), (wAI (ia ks)), (wAI (ia ns)), (wAI (ia fl))], u) _
  refine .s (.istoreN (L' := [wR 0, wI p, wI n, wI s]) a9_25 rfl) <| .s (.aloadN a9_26 rfl rfl) <| .s (.getF 0 a9_27 (wd hw 12 rfl) rfl rfl) <| .s (.iloadN a9_30 rfl) <| .s (.iloadN a9_31 rfl) <| .s (.iconst (1 : Int32) a9_32 rfl) <| .s (.iadd a9_33) ?_
  refine .s (.iastore (s.toNatClampNeg) a9_34 rfl (nn s0) rfl (by rw [ia_len, hlk]; exact nlt s0 s1)) ?_
  rw [ia_set]
  show WGo _ (35, [wR 0, wI p, wI n, wI s], [], [(.inr (cn0, [(fk0, .ref 4), (fk1, .ref 5), (fk2, .ref 6), (fk3, .int 27), (fk4, .int 4)])), (wAI (ia ks0)), (wAI (ia ns0)), (wAI (ia fl0)), (wAI (ia (ks.set s.toNatClampNeg (p + 1)))), (wAI (ia ns)), (wAI (ia fl))], u) _
  refine .s (.aloadN a9_35 rfl rfl) <| .s (.getF 1 a9_36 (wd hw 14 rfl) rfl rfl) <| .s (.iloadN a9_39 rfl) <| .s (.iloadN a9_40 rfl) <| .s (.iastore (s.toNatClampNeg) a9_41 rfl (nn s0) rfl (by rw [ia_len, hln]; exact nlt s0 s1)) ?_
  rw [ia_set]
  show WGo _ (42, [wR 0, wI p, wI n, wI s], [], [(.inr (cn0, [(fk0, .ref 4), (fk1, .ref 5), (fk2, .ref 6), (fk3, .int 27), (fk4, .int 4)])), (wAI (ia ks0)), (wAI (ia ns0)), (wAI (ia fl0)), (wAI (ia (ks.set s.toNatClampNeg (p + 1)))), (wAI (ia (ns.set s.toNatClampNeg n))), (wAI (ia fl))], u) _
  refine .s (.aloadN a9_42 rfl rfl) <| .s (.getF 2 a9_43 (wd hw 16 rfl) rfl rfl) <| .s (.aloadN a9_46 rfl rfl) <| .s (.dup a9_47 rfl) <| .s (.getF 4 a9_48 (wd hw 50 rfl) rfl rfl) <| .s (.dupX1 a9_51 rfl rfl) <| .s (.iconst (1 : Int32) a9_52 rfl) ?_
  refine .s (.iadd a9_53) ?_
  show WGo _ (54, [wR 0, wI p, wI n, wI s], [.int 5, .ref 0, .int 4, .ref 6], [(.inr (cn0, [(fk0, .ref 4), (fk1, .ref 5), (fk2, .ref 6), (fk3, .int 27), (fk4, .int 4)])), (wAI (ia ks0)), (wAI (ia ns0)), (wAI (ia fl0)), (wAI (ia (ks.set s.toNatClampNeg (p + 1)))), (wAI (ia (ns.set s.toNatClampNeg n))), (wAI (ia fl))], u) _
  refine .s (.putF (ty := .int) 4 (.int 5) a9_54 (wd hw 50 rfl) rfl rfl (Or.inl (wd hw 51 rfl)) (wd hw 3 rfl) (by decide) rfl rfl) ?_
  show WGo _ (57, [wR 0, wI p, wI n, wI s], [.int 4, .ref 6], [(.inr (cn0, [(fk0, .ref 4), (fk1, .ref 5), (fk2, .ref 6), (fk3, .int 27), (fk4, .int 5)])), (wAI (ia ks0)), (wAI (ia ns0)), (wAI (ia fl0)), (wAI (ia (ks.set s.toNatClampNeg (p + 1)))), (wAI (ia (ns.set s.toNatClampNeg n))), (wAI (ia fl))], u) _
  refine .s (.iloadN a9_57 rfl) <| .s (.iastore (4) a9_58 rfl (by decide) rfl (by rw [ia_len]; omega)) ?_
  rw [ia_set]
  show WGo _ (59, [wR 0, wI p, wI n, wI s], [], [(.inr (cn0, [(fk0, .ref 4), (fk1, .ref 5), (fk2, .ref 6), (fk3, .int 27), (fk4, .int 5)])), (wAI (ia ks0)), (wAI (ia ns0)), (wAI (ia fl0)), (wAI (ia (ks.set s.toNatClampNeg (p + 1)))), (wAI (ia (ns.set s.toNatClampNeg n))), (wAI (ia (fl.set 4 s)))], u) _
  refine .vreturn a9_59 rfl ?_
  have hput := WRep.put hR (p := p) (n := n) (s := s.toNatClampNeg) (by omega) hp hnew (nlt s0 s1) (hend.elim (fun q => Or.inl (q ▸ sk)) (fun q => Or.inr (q ▸ sk))) hpath
  rw [hc, ofNat_back s0] at hput
  exact ⟨_, _, _, _, hput, rfl, rfl, rfl⟩
theorem cputB_5 {Z : State} {a0 : Array Value} (hw : ∀ d ∈ tables_1, d.before a0 Z = true) (ρ : Nat → Nat) (n0 : Nat) (ks0 ns0 fl0 : List Int32) (ks ns fl : List Int32) (E : List WEnt) (p n : Int32) (hR : WRep 32 (whash 27) ks ns fl E) (hc : E.length = 5) (hp : p + 1 ≠ 0) (hnew : ∀ x ∈ E, ¬ x.2.1 = p) (u : Nat) : WGo (g9i Z ρ n0 7 u) (0, [wR 0, wI p, wI n, wU], [], [(.inr (cn0, [(fk0, .ref 4), (fk1, .ref 5), (fk2, .ref 6), (fk3, .int 27), (fk4, .int 5)])), (wAI (ia ks0)), (wAI (ia ns0)), (wAI (ia fl0)), (wAI (ia ks)), (wAI (ia ns)), (wAI (ia fl))], u) (fun v σ' u' => ∃ (ks' ns' fl' : List Int32) (s : Nat), WRep 32 (whash 27) ks' ns' fl' (E ++ [(s, p, n)]) ∧ v = none ∧ [(.inr (cn0, [(fk0, .ref 4), (fk1, .ref 5), (fk2, .ref 6), (fk3, .int 27), (fk4, .int 6)])), (wAI (ia ks0)), (wAI (ia ns0)), (wAI (ia fl0)), (wAI (ia ks')), (wAI (ia ns')), (wAI (ia fl'))] = σ' ∧ u = u') := by
  have hlk := hR.1
  have hln := hR.2.1
  have hlf := hR.2.2.1
  refine .s (.iconst (2 : Int32) a9_0 rfl) <| .s (.aloadN a9_1 rfl rfl) <| .s (.getF 4 a9_2 (wd hw 50 rfl) rfl rfl) <| .s (.iconst (1 : Int32) a9_5 rfl) <| .s (.iadd a9_6) ?_
  show WGo _ (7, [wR 0, wI p, wI n, wU], [.int 6, .int 2], [(.inr (cn0, [(fk0, .ref 4), (fk1, .ref 5), (fk2, .ref 6), (fk3, .int 27), (fk4, .int 5)])), (wAI (ia ks0)), (wAI (ia ns0)), (wAI (ia fl0)), (wAI (ia ks)), (wAI (ia ns)), (wAI (ia fl))], u) _
  refine .s (.imul a9_7) ?_
  show WGo _ (8, [wR 0, wI p, wI n, wU], [.int 12], [(.inr (cn0, [(fk0, .ref 4), (fk1, .ref 5), (fk2, .ref 6), (fk3, .int 27), (fk4, .int 5)])), (wAI (ia ks0)), (wAI (ia ns0)), (wAI (ia fl0)), (wAI (ia ks)), (wAI (ia ns)), (wAI (ia fl))], u) _
  refine .s (.aloadN a9_8 rfl rfl) <| .s (.getF 0 a9_9 (wd hw 12 rfl) rfl rfl) <| .s (.alen (32 : Int32) a9_12 rfl (by rw [ia_len, hlk]; rfl)) <| .s (.icmpT a9_13 (by decide)) <| .s (.aloadN a9_20 rfl rfl) <| .s (.iloadN a9_21 rfl) ?_
  refine .callP (k := 0) a9_22 (ok6 hw _ _ _ _) (wd hw 34 rfl) (wd hw 35 rfl) (selP (wd hw 3 rfl) (wd hw 35 rfl) (wd hw 36 rfl) (by decide)) (wd hw 36 rfl) rfl (argsL := [(.int p)]) (S := []) (cslotB hw _ _ ks0 ns0 fl0 p _ _ _ _ _ hR.1 (WRep.zero hR (by decide))) rfl rfl rfl rfl rfl rfl (Nat.le_of_ble_eq_true rfl) (Nat.le_of_ble_eq_true rfl) ?_
  rintro _ _ _ ⟨s, k, rfl, s0, s1, sk, hend, hpath, rfl, rfl⟩
  show WGo _ (25, [wR 0, wI p, wI n, wU], [(.int s)], [(.inr (cn0, [(fk0, .ref 4), (fk1, .ref 5), (fk2, .ref 6), (fk3, .int 27), (fk4, .int 5)])), (wAI (ia ks0)), (wAI (ia ns0)), (wAI (ia fl0)), (wAI (ia ks)), (wAI (ia ns)), (wAI (ia fl))], u) _
  refine .s (.istoreN (L' := [wR 0, wI p, wI n, wI s]) a9_25 rfl) <| .s (.aloadN a9_26 rfl rfl) <| .s (.getF 0 a9_27 (wd hw 12 rfl) rfl rfl) <| .s (.iloadN a9_30 rfl) <| .s (.iloadN a9_31 rfl) <| .s (.iconst (1 : Int32) a9_32 rfl) <| .s (.iadd a9_33) ?_
  refine .s (.iastore (s.toNatClampNeg) a9_34 rfl (nn s0) rfl (by rw [ia_len, hlk]; exact nlt s0 s1)) ?_
  rw [ia_set]
  show WGo _ (35, [wR 0, wI p, wI n, wI s], [], [(.inr (cn0, [(fk0, .ref 4), (fk1, .ref 5), (fk2, .ref 6), (fk3, .int 27), (fk4, .int 5)])), (wAI (ia ks0)), (wAI (ia ns0)), (wAI (ia fl0)), (wAI (ia (ks.set s.toNatClampNeg (p + 1)))), (wAI (ia ns)), (wAI (ia fl))], u) _
  refine .s (.aloadN a9_35 rfl rfl) <| .s (.getF 1 a9_36 (wd hw 14 rfl) rfl rfl) <| .s (.iloadN a9_39 rfl) <| .s (.iloadN a9_40 rfl) <| .s (.iastore (s.toNatClampNeg) a9_41 rfl (nn s0) rfl (by rw [ia_len, hln]; exact nlt s0 s1)) ?_
  rw [ia_set]
  show WGo _ (42, [wR 0, wI p, wI n, wI s], [], [(.inr (cn0, [(fk0, .ref 4), (fk1, .ref 5), (fk2, .ref 6), (fk3, .int 27), (fk4, .int 5)])), (wAI (ia ks0)), (wAI (ia ns0)), (wAI (ia fl0)), (wAI (ia (ks.set s.toNatClampNeg (p + 1)))), (wAI (ia (ns.set s.toNatClampNeg n))), (wAI (ia fl))], u) _
  refine .s (.aloadN a9_42 rfl rfl) <| .s (.getF 2 a9_43 (wd hw 16 rfl) rfl rfl) <| .s (.aloadN a9_46 rfl rfl) <| .s (.dup a9_47 rfl) <| .s (.getF 4 a9_48 (wd hw 50 rfl) rfl rfl) <| .s (.dupX1 a9_51 rfl rfl) <| .s (.iconst (1 : Int32) a9_52 rfl) ?_
  refine .s (.iadd a9_53) ?_
  show WGo _ (54, [wR 0, wI p, wI n, wI s], [.int 6, .ref 0, .int 5, .ref 6], [(.inr (cn0, [(fk0, .ref 4), (fk1, .ref 5), (fk2, .ref 6), (fk3, .int 27), (fk4, .int 5)])), (wAI (ia ks0)), (wAI (ia ns0)), (wAI (ia fl0)), (wAI (ia (ks.set s.toNatClampNeg (p + 1)))), (wAI (ia (ns.set s.toNatClampNeg n))), (wAI (ia fl))], u) _
  refine .s (.putF (ty := .int) 4 (.int 6) a9_54 (wd hw 50 rfl) rfl rfl (Or.inl (wd hw 51 rfl)) (wd hw 3 rfl) (by decide) rfl rfl) ?_
  show WGo _ (57, [wR 0, wI p, wI n, wI s], [.int 5, .ref 6], [(.inr (cn0, [(fk0, .ref 4), (fk1, .ref 5), (fk2, .ref 6), (fk3, .int 27), (fk4, .int 6)])), (wAI (ia ks0)), (wAI (ia ns0)), (wAI (ia fl0)), (wAI (ia (ks.set s.toNatClampNeg (p + 1)))), (wAI (ia (ns.set s.toNatClampNeg n))), (wAI (ia fl))], u) _
  refine .s (.iloadN a9_57 rfl) <| .s (.iastore (5) a9_58 rfl (by decide) rfl (by rw [ia_len]; omega)) ?_
  rw [ia_set]
  show WGo _ (59, [wR 0, wI p, wI n, wI s], [], [(.inr (cn0, [(fk0, .ref 4), (fk1, .ref 5), (fk2, .ref 6), (fk3, .int 27), (fk4, .int 6)])), (wAI (ia ks0)), (wAI (ia ns0)), (wAI (ia fl0)), (wAI (ia (ks.set s.toNatClampNeg (p + 1)))), (wAI (ia (ns.set s.toNatClampNeg n))), (wAI (ia (fl.set 5 s)))], u) _
  refine .vreturn a9_59 rfl ?_
  have hput := WRep.put hR (p := p) (n := n) (s := s.toNatClampNeg) (by omega) hp hnew (nlt s0 s1) (hend.elim (fun q => Or.inl (q ▸ sk)) (fun q => Or.inr (q ▸ sk))) hpath
  rw [hc, ofNat_back s0] at hput
  exact ⟨_, _, _, _, hput, rfl, rfl, rfl⟩
theorem cputB_6 {Z : State} {a0 : Array Value} (hw : ∀ d ∈ tables_1, d.before a0 Z = true) (ρ : Nat → Nat) (n0 : Nat) (ks0 ns0 fl0 : List Int32) (ks ns fl : List Int32) (E : List WEnt) (p n : Int32) (hR : WRep 32 (whash 27) ks ns fl E) (hc : E.length = 6) (hp : p + 1 ≠ 0) (hnew : ∀ x ∈ E, ¬ x.2.1 = p) (u : Nat) : WGo (g9i Z ρ n0 7 u) (0, [wR 0, wI p, wI n, wU], [], [(.inr (cn0, [(fk0, .ref 4), (fk1, .ref 5), (fk2, .ref 6), (fk3, .int 27), (fk4, .int 6)])), (wAI (ia ks0)), (wAI (ia ns0)), (wAI (ia fl0)), (wAI (ia ks)), (wAI (ia ns)), (wAI (ia fl))], u) (fun v σ' u' => ∃ (ks' ns' fl' : List Int32) (s : Nat), WRep 32 (whash 27) ks' ns' fl' (E ++ [(s, p, n)]) ∧ v = none ∧ [(.inr (cn0, [(fk0, .ref 4), (fk1, .ref 5), (fk2, .ref 6), (fk3, .int 27), (fk4, .int 7)])), (wAI (ia ks0)), (wAI (ia ns0)), (wAI (ia fl0)), (wAI (ia ks')), (wAI (ia ns')), (wAI (ia fl'))] = σ' ∧ u = u') := by
  have hlk := hR.1
  have hln := hR.2.1
  have hlf := hR.2.2.1
  refine .s (.iconst (2 : Int32) a9_0 rfl) <| .s (.aloadN a9_1 rfl rfl) <| .s (.getF 4 a9_2 (wd hw 50 rfl) rfl rfl) <| .s (.iconst (1 : Int32) a9_5 rfl) <| .s (.iadd a9_6) ?_
  show WGo _ (7, [wR 0, wI p, wI n, wU], [.int 7, .int 2], [(.inr (cn0, [(fk0, .ref 4), (fk1, .ref 5), (fk2, .ref 6), (fk3, .int 27), (fk4, .int 6)])), (wAI (ia ks0)), (wAI (ia ns0)), (wAI (ia fl0)), (wAI (ia ks)), (wAI (ia ns)), (wAI (ia fl))], u) _
  refine .s (.imul a9_7) ?_
  show WGo _ (8, [wR 0, wI p, wI n, wU], [.int 14], [(.inr (cn0, [(fk0, .ref 4), (fk1, .ref 5), (fk2, .ref 6), (fk3, .int 27), (fk4, .int 6)])), (wAI (ia ks0)), (wAI (ia ns0)), (wAI (ia fl0)), (wAI (ia ks)), (wAI (ia ns)), (wAI (ia fl))], u) _
  refine .s (.aloadN a9_8 rfl rfl) <| .s (.getF 0 a9_9 (wd hw 12 rfl) rfl rfl) <| .s (.alen (32 : Int32) a9_12 rfl (by rw [ia_len, hlk]; rfl)) <| .s (.icmpT a9_13 (by decide)) <| .s (.aloadN a9_20 rfl rfl) <| .s (.iloadN a9_21 rfl) ?_
  refine .callP (k := 0) a9_22 (ok6 hw _ _ _ _) (wd hw 34 rfl) (wd hw 35 rfl) (selP (wd hw 3 rfl) (wd hw 35 rfl) (wd hw 36 rfl) (by decide)) (wd hw 36 rfl) rfl (argsL := [(.int p)]) (S := []) (cslotB hw _ _ ks0 ns0 fl0 p _ _ _ _ _ hR.1 (WRep.zero hR (by decide))) rfl rfl rfl rfl rfl rfl (Nat.le_of_ble_eq_true rfl) (Nat.le_of_ble_eq_true rfl) ?_
  rintro _ _ _ ⟨s, k, rfl, s0, s1, sk, hend, hpath, rfl, rfl⟩
  show WGo _ (25, [wR 0, wI p, wI n, wU], [(.int s)], [(.inr (cn0, [(fk0, .ref 4), (fk1, .ref 5), (fk2, .ref 6), (fk3, .int 27), (fk4, .int 6)])), (wAI (ia ks0)), (wAI (ia ns0)), (wAI (ia fl0)), (wAI (ia ks)), (wAI (ia ns)), (wAI (ia fl))], u) _
  refine .s (.istoreN (L' := [wR 0, wI p, wI n, wI s]) a9_25 rfl) <| .s (.aloadN a9_26 rfl rfl) <| .s (.getF 0 a9_27 (wd hw 12 rfl) rfl rfl) <| .s (.iloadN a9_30 rfl) <| .s (.iloadN a9_31 rfl) <| .s (.iconst (1 : Int32) a9_32 rfl) <| .s (.iadd a9_33) ?_
  refine .s (.iastore (s.toNatClampNeg) a9_34 rfl (nn s0) rfl (by rw [ia_len, hlk]; exact nlt s0 s1)) ?_
  rw [ia_set]
  show WGo _ (35, [wR 0, wI p, wI n, wI s], [], [(.inr (cn0, [(fk0, .ref 4), (fk1, .ref 5), (fk2, .ref 6), (fk3, .int 27), (fk4, .int 6)])), (wAI (ia ks0)), (wAI (ia ns0)), (wAI (ia fl0)), (wAI (ia (ks.set s.toNatClampNeg (p + 1)))), (wAI (ia ns)), (wAI (ia fl))], u) _
  refine .s (.aloadN a9_35 rfl rfl) <| .s (.getF 1 a9_36 (wd hw 14 rfl) rfl rfl) <| .s (.iloadN a9_39 rfl) <| .s (.iloadN a9_40 rfl) <| .s (.iastore (s.toNatClampNeg) a9_41 rfl (nn s0) rfl (by rw [ia_len, hln]; exact nlt s0 s1)) ?_
  rw [ia_set]
  show WGo _ (42, [wR 0, wI p, wI n, wI s], [], [(.inr (cn0, [(fk0, .ref 4), (fk1, .ref 5), (fk2, .ref 6), (fk3, .int 27), (fk4, .int 6)])), (wAI (ia ks0)), (wAI (ia ns0)), (wAI (ia fl0)), (wAI (ia (ks.set s.toNatClampNeg (p + 1)))), (wAI (ia (ns.set s.toNatClampNeg n))), (wAI (ia fl))], u) _
  refine .s (.aloadN a9_42 rfl rfl) <| .s (.getF 2 a9_43 (wd hw 16 rfl) rfl rfl) <| .s (.aloadN a9_46 rfl rfl) <| .s (.dup a9_47 rfl) <| .s (.getF 4 a9_48 (wd hw 50 rfl) rfl rfl) <| .s (.dupX1 a9_51 rfl rfl) <| .s (.iconst (1 : Int32) a9_52 rfl) ?_
  refine .s (.iadd a9_53) ?_
  show WGo _ (54, [wR 0, wI p, wI n, wI s], [.int 7, .ref 0, .int 6, .ref 6], [(.inr (cn0, [(fk0, .ref 4), (fk1, .ref 5), (fk2, .ref 6), (fk3, .int 27), (fk4, .int 6)])), (wAI (ia ks0)), (wAI (ia ns0)), (wAI (ia fl0)), (wAI (ia (ks.set s.toNatClampNeg (p + 1)))), (wAI (ia (ns.set s.toNatClampNeg n))), (wAI (ia fl))], u) _
  refine .s (.putF (ty := .int) 4 (.int 7) a9_54 (wd hw 50 rfl) rfl rfl (Or.inl (wd hw 51 rfl)) (wd hw 3 rfl) (by decide) rfl rfl) ?_
  show WGo _ (57, [wR 0, wI p, wI n, wI s], [.int 6, .ref 6], [(.inr (cn0, [(fk0, .ref 4), (fk1, .ref 5), (fk2, .ref 6), (fk3, .int 27), (fk4, .int 7)])), (wAI (ia ks0)), (wAI (ia ns0)), (wAI (ia fl0)), (wAI (ia (ks.set s.toNatClampNeg (p + 1)))), (wAI (ia (ns.set s.toNatClampNeg n))), (wAI (ia fl))], u) _
  refine .s (.iloadN a9_57 rfl) <| .s (.iastore (6) a9_58 rfl (by decide) rfl (by rw [ia_len]; omega)) ?_
  rw [ia_set]
  show WGo _ (59, [wR 0, wI p, wI n, wI s], [], [(.inr (cn0, [(fk0, .ref 4), (fk1, .ref 5), (fk2, .ref 6), (fk3, .int 27), (fk4, .int 7)])), (wAI (ia ks0)), (wAI (ia ns0)), (wAI (ia fl0)), (wAI (ia (ks.set s.toNatClampNeg (p + 1)))), (wAI (ia (ns.set s.toNatClampNeg n))), (wAI (ia (fl.set 6 s)))], u) _
  refine .vreturn a9_59 rfl ?_
  have hput := WRep.put hR (p := p) (n := n) (s := s.toNatClampNeg) (by omega) hp hnew (nlt s0 s1) (hend.elim (fun q => Or.inl (q ▸ sk)) (fun q => Or.inr (q ▸ sk))) hpath
  rw [hc, ofNat_back s0] at hput
  exact ⟨_, _, _, _, hput, rfl, rfl, rfl⟩
theorem cputB_7 {Z : State} {a0 : Array Value} (hw : ∀ d ∈ tables_1, d.before a0 Z = true) (ρ : Nat → Nat) (n0 : Nat) (ks0 ns0 fl0 : List Int32) (ks ns fl : List Int32) (E : List WEnt) (p n : Int32) (hR : WRep 32 (whash 27) ks ns fl E) (hc : E.length = 7) (hp : p + 1 ≠ 0) (hnew : ∀ x ∈ E, ¬ x.2.1 = p) (u : Nat) : WGo (g9i Z ρ n0 7 u) (0, [wR 0, wI p, wI n, wU], [], [(.inr (cn0, [(fk0, .ref 4), (fk1, .ref 5), (fk2, .ref 6), (fk3, .int 27), (fk4, .int 7)])), (wAI (ia ks0)), (wAI (ia ns0)), (wAI (ia fl0)), (wAI (ia ks)), (wAI (ia ns)), (wAI (ia fl))], u) (fun v σ' u' => ∃ (ks' ns' fl' : List Int32) (s : Nat), WRep 32 (whash 27) ks' ns' fl' (E ++ [(s, p, n)]) ∧ v = none ∧ [(.inr (cn0, [(fk0, .ref 4), (fk1, .ref 5), (fk2, .ref 6), (fk3, .int 27), (fk4, .int 8)])), (wAI (ia ks0)), (wAI (ia ns0)), (wAI (ia fl0)), (wAI (ia ks')), (wAI (ia ns')), (wAI (ia fl'))] = σ' ∧ u = u') := by
  have hlk := hR.1
  have hln := hR.2.1
  have hlf := hR.2.2.1
  refine .s (.iconst (2 : Int32) a9_0 rfl) <| .s (.aloadN a9_1 rfl rfl) <| .s (.getF 4 a9_2 (wd hw 50 rfl) rfl rfl) <| .s (.iconst (1 : Int32) a9_5 rfl) <| .s (.iadd a9_6) ?_
  show WGo _ (7, [wR 0, wI p, wI n, wU], [.int 8, .int 2], [(.inr (cn0, [(fk0, .ref 4), (fk1, .ref 5), (fk2, .ref 6), (fk3, .int 27), (fk4, .int 7)])), (wAI (ia ks0)), (wAI (ia ns0)), (wAI (ia fl0)), (wAI (ia ks)), (wAI (ia ns)), (wAI (ia fl))], u) _
  refine .s (.imul a9_7) ?_
  show WGo _ (8, [wR 0, wI p, wI n, wU], [.int 16], [(.inr (cn0, [(fk0, .ref 4), (fk1, .ref 5), (fk2, .ref 6), (fk3, .int 27), (fk4, .int 7)])), (wAI (ia ks0)), (wAI (ia ns0)), (wAI (ia fl0)), (wAI (ia ks)), (wAI (ia ns)), (wAI (ia fl))], u) _
  refine .s (.aloadN a9_8 rfl rfl) <| .s (.getF 0 a9_9 (wd hw 12 rfl) rfl rfl) <| .s (.alen (32 : Int32) a9_12 rfl (by rw [ia_len, hlk]; rfl)) <| .s (.icmpT a9_13 (by decide)) <| .s (.aloadN a9_20 rfl rfl) <| .s (.iloadN a9_21 rfl) ?_
  refine .callP (k := 0) a9_22 (ok6 hw _ _ _ _) (wd hw 34 rfl) (wd hw 35 rfl) (selP (wd hw 3 rfl) (wd hw 35 rfl) (wd hw 36 rfl) (by decide)) (wd hw 36 rfl) rfl (argsL := [(.int p)]) (S := []) (cslotB hw _ _ ks0 ns0 fl0 p _ _ _ _ _ hR.1 (WRep.zero hR (by decide))) rfl rfl rfl rfl rfl rfl (Nat.le_of_ble_eq_true rfl) (Nat.le_of_ble_eq_true rfl) ?_
  rintro _ _ _ ⟨s, k, rfl, s0, s1, sk, hend, hpath, rfl, rfl⟩
  show WGo _ (25, [wR 0, wI p, wI n, wU], [(.int s)], [(.inr (cn0, [(fk0, .ref 4), (fk1, .ref 5), (fk2, .ref 6), (fk3, .int 27), (fk4, .int 7)])), (wAI (ia ks0)), (wAI (ia ns0)), (wAI (ia fl0)), (wAI (ia ks)), (wAI (ia ns)), (wAI (ia fl))], u) _
  refine .s (.istoreN (L' := [wR 0, wI p, wI n, wI s]) a9_25 rfl) <| .s (.aloadN a9_26 rfl rfl) <| .s (.getF 0 a9_27 (wd hw 12 rfl) rfl rfl) <| .s (.iloadN a9_30 rfl) <| .s (.iloadN a9_31 rfl) <| .s (.iconst (1 : Int32) a9_32 rfl) <| .s (.iadd a9_33) ?_
  refine .s (.iastore (s.toNatClampNeg) a9_34 rfl (nn s0) rfl (by rw [ia_len, hlk]; exact nlt s0 s1)) ?_
  rw [ia_set]
  show WGo _ (35, [wR 0, wI p, wI n, wI s], [], [(.inr (cn0, [(fk0, .ref 4), (fk1, .ref 5), (fk2, .ref 6), (fk3, .int 27), (fk4, .int 7)])), (wAI (ia ks0)), (wAI (ia ns0)), (wAI (ia fl0)), (wAI (ia (ks.set s.toNatClampNeg (p + 1)))), (wAI (ia ns)), (wAI (ia fl))], u) _
  refine .s (.aloadN a9_35 rfl rfl) <| .s (.getF 1 a9_36 (wd hw 14 rfl) rfl rfl) <| .s (.iloadN a9_39 rfl) <| .s (.iloadN a9_40 rfl) <| .s (.iastore (s.toNatClampNeg) a9_41 rfl (nn s0) rfl (by rw [ia_len, hln]; exact nlt s0 s1)) ?_
  rw [ia_set]
  show WGo _ (42, [wR 0, wI p, wI n, wI s], [], [(.inr (cn0, [(fk0, .ref 4), (fk1, .ref 5), (fk2, .ref 6), (fk3, .int 27), (fk4, .int 7)])), (wAI (ia ks0)), (wAI (ia ns0)), (wAI (ia fl0)), (wAI (ia (ks.set s.toNatClampNeg (p + 1)))), (wAI (ia (ns.set s.toNatClampNeg n))), (wAI (ia fl))], u) _
  refine .s (.aloadN a9_42 rfl rfl) <| .s (.getF 2 a9_43 (wd hw 16 rfl) rfl rfl) <| .s (.aloadN a9_46 rfl rfl) <| .s (.dup a9_47 rfl) <| .s (.getF 4 a9_48 (wd hw 50 rfl) rfl rfl) <| .s (.dupX1 a9_51 rfl rfl) <| .s (.iconst (1 : Int32) a9_52 rfl) ?_
  refine .s (.iadd a9_53) ?_
  show WGo _ (54, [wR 0, wI p, wI n, wI s], [.int 8, .ref 0, .int 7, .ref 6], [(.inr (cn0, [(fk0, .ref 4), (fk1, .ref 5), (fk2, .ref 6), (fk3, .int 27), (fk4, .int 7)])), (wAI (ia ks0)), (wAI (ia ns0)), (wAI (ia fl0)), (wAI (ia (ks.set s.toNatClampNeg (p + 1)))), (wAI (ia (ns.set s.toNatClampNeg n))), (wAI (ia fl))], u) _
  refine .s (.putF (ty := .int) 4 (.int 8) a9_54 (wd hw 50 rfl) rfl rfl (Or.inl (wd hw 51 rfl)) (wd hw 3 rfl) (by decide) rfl rfl) ?_
  show WGo _ (57, [wR 0, wI p, wI n, wI s], [.int 7, .ref 6], [(.inr (cn0, [(fk0, .ref 4), (fk1, .ref 5), (fk2, .ref 6), (fk3, .int 27), (fk4, .int 8)])), (wAI (ia ks0)), (wAI (ia ns0)), (wAI (ia fl0)), (wAI (ia (ks.set s.toNatClampNeg (p + 1)))), (wAI (ia (ns.set s.toNatClampNeg n))), (wAI (ia fl))], u) _
  refine .s (.iloadN a9_57 rfl) <| .s (.iastore (7) a9_58 rfl (by decide) rfl (by rw [ia_len]; omega)) ?_
  rw [ia_set]
  show WGo _ (59, [wR 0, wI p, wI n, wI s], [], [(.inr (cn0, [(fk0, .ref 4), (fk1, .ref 5), (fk2, .ref 6), (fk3, .int 27), (fk4, .int 8)])), (wAI (ia ks0)), (wAI (ia ns0)), (wAI (ia fl0)), (wAI (ia (ks.set s.toNatClampNeg (p + 1)))), (wAI (ia (ns.set s.toNatClampNeg n))), (wAI (ia (fl.set 7 s)))], u) _
  refine .vreturn a9_59 rfl ?_
  have hput := WRep.put hR (p := p) (n := n) (s := s.toNatClampNeg) (by omega) hp hnew (nlt s0 s1) (hend.elim (fun q => Or.inl (q ▸ sk)) (fun q => Or.inr (q ▸ sk))) hpath
  rw [hc, ofNat_back s0] at hput
  exact ⟨_, _, _, _, hput, rfl, rfl, rfl⟩
set_option maxHeartbeats 40000000 in
theorem cgrow {Z : State} {a0 : Array Value} (hw : ∀ d ∈ tables_1, d.before a0 Z = true) (ρ : Nat → Nat) (n0 : Nat) (ks0 ns0 fl0 : List Int32) (s0 : Nat) (p0 v0 : Int32) (s1 : Nat) (p1 v1 : Int32) (s2 : Nat) (p2 v2 : Int32) (s3 : Nat) (p3 v3 : Int32) (s4 : Nat) (p4 v4 : Int32) (s5 : Nat) (p5 v5 : Int32) (s6 : Nat) (p6 v6 : Int32) (s7 : Nat) (p7 v7 : Int32) (hR0 : WRep 16 (whash 28) ks0 ns0 fl0 [(s0, p0, v0), (s1, p1, v1), (s2, p2, v2), (s3, p3, v3), (s4, p4, v4), (s5, p5, v5), (s6, p6, v6), (s7, p7, v7)]) (hd : ∀ (i j : Nat) (x y : WEnt), i < j → [(s0, p0, v0), (s1, p1, v1), (s2, p2, v2), (s3, p3, v3), (s4, p4, v4), (s5, p5, v5), (s6, p6, v6), (s7, p7, v7)][i]? = some x → [(s0, p0, v0), (s1, p1, v1), (s2, p2, v2), (s3, p3, v3), (s4, p4, v4), (s5, p5, v5), (s6, p6, v6), (s7, p7, v7)][j]? = some y → ¬ x.2.1 = y.2.1) (u : Nat) : WGo (g10 Z ρ n0 4 u) (0, [wR 0, wU, wU, wU, wU, wU, wU], [], [(.inr (cn0, [(fk0, .ref 1), (fk1, .ref 2), (fk2, .ref 3), (fk3, .int 28), (fk4, .int 8)])), (wAI (ia ks0)), (wAI (ia ns0)), (wAI (ia fl0))], u) (fun v σ' u' => ∃ (ks' ns' fl' : List Int32) (t0 t1 t2 t3 t4 t5 t6 t7 : Nat), WRep 32 (whash 27) ks' ns' fl' [(t0, p0, v0), (t1, p1, v1), (t2, p2, v2), (t3, p3, v3), (t4, p4, v4), (t5, p5, v5), (t6, p6, v6), (t7, p7, v7)] ∧ v = none ∧ [(.inr (cn0, [(fk0, .ref 4), (fk1, .ref 5), (fk2, .ref 6), (fk3, .int 27), (fk4, .int 8)])), (wAI (ia ks0)), (wAI (ia ns0)), (wAI (ia fl0)), (wAI (ia ks')), (wAI (ia ns')), (wAI (ia fl'))] = σ' ∧ u + 80 = u') := by
  have hlk := hR0.1
  have hln := hR0.2.1
  have hlf := hR0.2.2.1
  obtain ⟨b0, kk0, z0, nn0, -⟩ := hR0.2.2.2.2.1 (s0, p0, v0) (by simp)
  have hf0 := hR0.2.2.2.2.2.2 0 _ rfl
  have ho0 := ofNat_at (s := s0) (by have hb := b0; dsimp only at hb; omega)
  obtain ⟨b1, kk1, z1, nn1, -⟩ := hR0.2.2.2.2.1 (s1, p1, v1) (by simp)
  have hf1 := hR0.2.2.2.2.2.2 1 _ rfl
  have ho1 := ofNat_at (s := s1) (by have hb := b1; dsimp only at hb; omega)
  obtain ⟨b2, kk2, z2, nn2, -⟩ := hR0.2.2.2.2.1 (s2, p2, v2) (by simp)
  have hf2 := hR0.2.2.2.2.2.2 2 _ rfl
  have ho2 := ofNat_at (s := s2) (by have hb := b2; dsimp only at hb; omega)
  obtain ⟨b3, kk3, z3, nn3, -⟩ := hR0.2.2.2.2.1 (s3, p3, v3) (by simp)
  have hf3 := hR0.2.2.2.2.2.2 3 _ rfl
  have ho3 := ofNat_at (s := s3) (by have hb := b3; dsimp only at hb; omega)
  obtain ⟨b4, kk4, z4, nn4, -⟩ := hR0.2.2.2.2.1 (s4, p4, v4) (by simp)
  have hf4 := hR0.2.2.2.2.2.2 4 _ rfl
  have ho4 := ofNat_at (s := s4) (by have hb := b4; dsimp only at hb; omega)
  obtain ⟨b5, kk5, z5, nn5, -⟩ := hR0.2.2.2.2.1 (s5, p5, v5) (by simp)
  have hf5 := hR0.2.2.2.2.2.2 5 _ rfl
  have ho5 := ofNat_at (s := s5) (by have hb := b5; dsimp only at hb; omega)
  obtain ⟨b6, kk6, z6, nn6, -⟩ := hR0.2.2.2.2.1 (s6, p6, v6) (by simp)
  have hf6 := hR0.2.2.2.2.2.2 6 _ rfl
  have ho6 := ofNat_at (s := s6) (by have hb := b6; dsimp only at hb; omega)
  obtain ⟨b7, kk7, z7, nn7, -⟩ := hR0.2.2.2.2.1 (s7, p7, v7) (by simp)
  have hf7 := hR0.2.2.2.2.2.2 7 _ rfl
  have ho7 := ofNat_at (s := s7) (by have hb := b7; dsimp only at hb; omega)
  refine .s (.aloadN a10_0 rfl rfl) <| .s (.getF 0 a10_1 (wd hw 12 rfl) rfl rfl) <| .s (.astoreN (L' := [wR 0, wR 1, wU, wU, wU, wU, wU]) a10_4 rfl rfl) <| .s (.aloadN a10_5 rfl rfl) <| .s (.getF 1 a10_6 (wd hw 14 rfl) rfl rfl) <| .s (.astoreN (L' := [wR 0, wR 1, wR 2, wU, wU, wU, wU]) a10_9 rfl rfl) <| .s (.aloadN a10_10 rfl rfl) ?_
  refine .s (.getF 2 a10_11 (wd hw 16 rfl) rfl rfl) <| .s (.astoreN (L' := [wR 0, wR 1, wR 2, wR 3, wU, wU, wU]) a10_14 rfl rfl) <| .s (.aloadN a10_15 rfl rfl) <| .s (.getF 4 a10_16 (wd hw 50 rfl) rfl rfl) <| .s (.istore (L' := [wR 0, wR 1, wR 2, wR 3, wI 8, wU, wU]) a10_19 rfl) <| .s (.aloadN a10_21 rfl rfl) <| .s (.iconst (2 : Int32) a10_22 rfl) ?_
  refine .s (.aloadN a10_23 rfl rfl) <| .s (.alen (16 : Int32) a10_24 rfl (by rw [ia_len, hlk]; rfl)) <| .s (.imul a10_25) ?_
  show WGo _ (26, [wR 0, wR 1, wR 2, wR 3, wI 8, wU, wU], [.int 32, .ref 0], [(.inr (cn0, [(fk0, .ref 1), (fk1, .ref 2), (fk2, .ref 3), (fk3, .int 28), (fk4, .int 8)])), (wAI (ia ks0)), (wAI (ia ns0)), (wAI (ia fl0))], u) _
  refine .s (.newP (k := 4) (32 : Int32) 32 a10_26 (wd hw 11 rfl) (by decide) rfl (by decide) rfl (by decide)) ?_
  show WGo _ (28, [wR 0, wR 1, wR 2, wR 3, wI 8, wU, wU], [.ref 4, .ref 0], [(.inr (cn0, [(fk0, .ref 1), (fk1, .ref 2), (fk2, .ref 3), (fk3, .int 28), (fk4, .int 8)])), (wAI (ia ks0)), (wAI (ia ns0)), (wAI (ia fl0)), (wAI [.int 0, .int 0, .int 0, .int 0, .int 0, .int 0, .int 0, .int 0, .int 0, .int 0, .int 0, .int 0, .int 0, .int 0, .int 0, .int 0, .int 0, .int 0, .int 0, .int 0, .int 0, .int 0, .int 0, .int 0, .int 0, .int 0, .int 0, .int 0, .int 0, .int 0, .int 0, .int 0])], (u + 32)) _
  refine .s (.putF (ty := (.array .int)) 0 (.ref 4) a10_28 (wd hw 12 rfl) rfl rfl (Or.inl (wd hw 13 rfl)) (wd hw 3 rfl) (by decide) rfl rfl) ?_
  show WGo _ (31, [wR 0, wR 1, wR 2, wR 3, wI 8, wU, wU], [], [(.inr (cn0, [(fk0, .ref 4), (fk1, .ref 2), (fk2, .ref 3), (fk3, .int 28), (fk4, .int 8)])), (wAI (ia ks0)), (wAI (ia ns0)), (wAI (ia fl0)), (wAI [.int 0, .int 0, .int 0, .int 0, .int 0, .int 0, .int 0, .int 0, .int 0, .int 0, .int 0, .int 0, .int 0, .int 0, .int 0, .int 0, .int 0, .int 0, .int 0, .int 0, .int 0, .int 0, .int 0, .int 0, .int 0, .int 0, .int 0, .int 0, .int 0, .int 0, .int 0, .int 0])], (u + 32)) _
  refine .s (.aloadN a10_31 rfl rfl) <| .s (.aloadN a10_32 rfl rfl) <| .s (.getF 0 a10_33 (wd hw 12 rfl) rfl rfl) <| .s (.alen (32 : Int32) a10_36 rfl rfl) <| .s (.newP (k := 5) (32 : Int32) 32 a10_37 (wd hw 11 rfl) (by decide) rfl (by decide) rfl (by decide)) ?_
  show WGo _ (39, [wR 0, wR 1, wR 2, wR 3, wI 8, wU, wU], [.ref 5, .ref 0], [(.inr (cn0, [(fk0, .ref 4), (fk1, .ref 2), (fk2, .ref 3), (fk3, .int 28), (fk4, .int 8)])), (wAI (ia ks0)), (wAI (ia ns0)), (wAI (ia fl0)), (wAI [.int 0, .int 0, .int 0, .int 0, .int 0, .int 0, .int 0, .int 0, .int 0, .int 0, .int 0, .int 0, .int 0, .int 0, .int 0, .int 0, .int 0, .int 0, .int 0, .int 0, .int 0, .int 0, .int 0, .int 0, .int 0, .int 0, .int 0, .int 0, .int 0, .int 0, .int 0, .int 0]), (wAI [.int 0, .int 0, .int 0, .int 0, .int 0, .int 0, .int 0, .int 0, .int 0, .int 0, .int 0, .int 0, .int 0, .int 0, .int 0, .int 0, .int 0, .int 0, .int 0, .int 0, .int 0, .int 0, .int 0, .int 0, .int 0, .int 0, .int 0, .int 0, .int 0, .int 0, .int 0, .int 0])], ((u + 32) + 32)) _
  refine .s (.putF (ty := (.array .int)) 1 (.ref 5) a10_39 (wd hw 14 rfl) rfl rfl (Or.inl (wd hw 15 rfl)) (wd hw 3 rfl) (by decide) rfl rfl) ?_
  show WGo _ (42, [wR 0, wR 1, wR 2, wR 3, wI 8, wU, wU], [], [(.inr (cn0, [(fk0, .ref 4), (fk1, .ref 5), (fk2, .ref 3), (fk3, .int 28), (fk4, .int 8)])), (wAI (ia ks0)), (wAI (ia ns0)), (wAI (ia fl0)), (wAI [.int 0, .int 0, .int 0, .int 0, .int 0, .int 0, .int 0, .int 0, .int 0, .int 0, .int 0, .int 0, .int 0, .int 0, .int 0, .int 0, .int 0, .int 0, .int 0, .int 0, .int 0, .int 0, .int 0, .int 0, .int 0, .int 0, .int 0, .int 0, .int 0, .int 0, .int 0, .int 0]), (wAI [.int 0, .int 0, .int 0, .int 0, .int 0, .int 0, .int 0, .int 0, .int 0, .int 0, .int 0, .int 0, .int 0, .int 0, .int 0, .int 0, .int 0, .int 0, .int 0, .int 0, .int 0, .int 0, .int 0, .int 0, .int 0, .int 0, .int 0, .int 0, .int 0, .int 0, .int 0, .int 0])], ((u + 32) + 32)) _
  refine .s (.aloadN a10_42 rfl rfl) <| .s (.aloadN a10_43 rfl rfl) <| .s (.getF 0 a10_44 (wd hw 12 rfl) rfl rfl) <| .s (.alen (32 : Int32) a10_47 rfl rfl) <| .s (.iconst (2 : Int32) a10_48 rfl) <| .s (.idiv a10_49 (by decide)) ?_
  show WGo _ (50, [wR 0, wR 1, wR 2, wR 3, wI 8, wU, wU], [.int 16, .ref 0], [(.inr (cn0, [(fk0, .ref 4), (fk1, .ref 5), (fk2, .ref 3), (fk3, .int 28), (fk4, .int 8)])), (wAI (ia ks0)), (wAI (ia ns0)), (wAI (ia fl0)), (wAI [.int 0, .int 0, .int 0, .int 0, .int 0, .int 0, .int 0, .int 0, .int 0, .int 0, .int 0, .int 0, .int 0, .int 0, .int 0, .int 0, .int 0, .int 0, .int 0, .int 0, .int 0, .int 0, .int 0, .int 0, .int 0, .int 0, .int 0, .int 0, .int 0, .int 0, .int 0, .int 0]), (wAI [.int 0, .int 0, .int 0, .int 0, .int 0, .int 0, .int 0, .int 0, .int 0, .int 0, .int 0, .int 0, .int 0, .int 0, .int 0, .int 0, .int 0, .int 0, .int 0, .int 0, .int 0, .int 0, .int 0, .int 0, .int 0, .int 0, .int 0, .int 0, .int 0, .int 0, .int 0, .int 0])], ((u + 32) + 32)) _
  refine .s (.newP (k := 6) (16 : Int32) 16 a10_50 (wd hw 11 rfl) (by decide) rfl (by decide) rfl (by decide)) ?_
  show WGo _ (52, [wR 0, wR 1, wR 2, wR 3, wI 8, wU, wU], [.ref 6, .ref 0], [(.inr (cn0, [(fk0, .ref 4), (fk1, .ref 5), (fk2, .ref 3), (fk3, .int 28), (fk4, .int 8)])), (wAI (ia ks0)), (wAI (ia ns0)), (wAI (ia fl0)), (wAI [.int 0, .int 0, .int 0, .int 0, .int 0, .int 0, .int 0, .int 0, .int 0, .int 0, .int 0, .int 0, .int 0, .int 0, .int 0, .int 0, .int 0, .int 0, .int 0, .int 0, .int 0, .int 0, .int 0, .int 0, .int 0, .int 0, .int 0, .int 0, .int 0, .int 0, .int 0, .int 0]), (wAI [.int 0, .int 0, .int 0, .int 0, .int 0, .int 0, .int 0, .int 0, .int 0, .int 0, .int 0, .int 0, .int 0, .int 0, .int 0, .int 0, .int 0, .int 0, .int 0, .int 0, .int 0, .int 0, .int 0, .int 0, .int 0, .int 0, .int 0, .int 0, .int 0, .int 0, .int 0, .int 0]), (wAI [.int 0, .int 0, .int 0, .int 0, .int 0, .int 0, .int 0, .int 0, .int 0, .int 0, .int 0, .int 0, .int 0, .int 0, .int 0, .int 0])], (((u + 32) + 32) + 16)) _
  refine .s (.putF (ty := (.array .int)) 2 (.ref 6) a10_52 (wd hw 16 rfl) rfl rfl (Or.inl (wd hw 17 rfl)) (wd hw 3 rfl) (by decide) rfl rfl) ?_
  show WGo _ (55, [wR 0, wR 1, wR 2, wR 3, wI 8, wU, wU], [], [(.inr (cn0, [(fk0, .ref 4), (fk1, .ref 5), (fk2, .ref 6), (fk3, .int 28), (fk4, .int 8)])), (wAI (ia ks0)), (wAI (ia ns0)), (wAI (ia fl0)), (wAI [.int 0, .int 0, .int 0, .int 0, .int 0, .int 0, .int 0, .int 0, .int 0, .int 0, .int 0, .int 0, .int 0, .int 0, .int 0, .int 0, .int 0, .int 0, .int 0, .int 0, .int 0, .int 0, .int 0, .int 0, .int 0, .int 0, .int 0, .int 0, .int 0, .int 0, .int 0, .int 0]), (wAI [.int 0, .int 0, .int 0, .int 0, .int 0, .int 0, .int 0, .int 0, .int 0, .int 0, .int 0, .int 0, .int 0, .int 0, .int 0, .int 0, .int 0, .int 0, .int 0, .int 0, .int 0, .int 0, .int 0, .int 0, .int 0, .int 0, .int 0, .int 0, .int 0, .int 0, .int 0, .int 0]), (wAI [.int 0, .int 0, .int 0, .int 0, .int 0, .int 0, .int 0, .int 0, .int 0, .int 0, .int 0, .int 0, .int 0, .int 0, .int 0, .int 0])], (((u + 32) + 32) + 16)) _
  refine .s (.aloadN a10_55 rfl rfl) <| .s (.iconst (0 : Int32) a10_56 rfl) <| .s (.putF (ty := .int) 4 (.int 0) a10_57 (wd hw 50 rfl) rfl rfl (Or.inl (wd hw 51 rfl)) (wd hw 3 rfl) (by decide) rfl rfl) ?_
  show WGo _ (60, [wR 0, wR 1, wR 2, wR 3, wI 8, wU, wU], [], [(.inr (cn0, [(fk0, .ref 4), (fk1, .ref 5), (fk2, .ref 6), (fk3, .int 28), (fk4, .int 0)])), (wAI (ia ks0)), (wAI (ia ns0)), (wAI (ia fl0)), (wAI [.int 0, .int 0, .int 0, .int 0, .int 0, .int 0, .int 0, .int 0, .int 0, .int 0, .int 0, .int 0, .int 0, .int 0, .int 0, .int 0, .int 0, .int 0, .int 0, .int 0, .int 0, .int 0, .int 0, .int 0, .int 0, .int 0, .int 0, .int 0, .int 0, .int 0, .int 0, .int 0]), (wAI [.int 0, .int 0, .int 0, .int 0, .int 0, .int 0, .int 0, .int 0, .int 0, .int 0, .int 0, .int 0, .int 0, .int 0, .int 0, .int 0, .int 0, .int 0, .int 0, .int 0, .int 0, .int 0, .int 0, .int 0, .int 0, .int 0, .int 0, .int 0, .int 0, .int 0, .int 0, .int 0]), (wAI [.int 0, .int 0, .int 0, .int 0, .int 0, .int 0, .int 0, .int 0, .int 0, .int 0, .int 0, .int 0, .int 0, .int 0, .int 0, .int 0])], (((u + 32) + 32) + 16)) _
  refine .s (.aloadN a10_60 rfl rfl) <| .s (.dup a10_61 rfl) <| .s (.getF 3 a10_62 (wd hw 23 rfl) rfl rfl) <| .s (.iconst (1 : Int32) a10_65 rfl) <| .s (.isub a10_66) ?_
  show WGo _ (67, [wR 0, wR 1, wR 2, wR 3, wI 8, wU, wU], [.int 27, .ref 0], [(.inr (cn0, [(fk0, .ref 4), (fk1, .ref 5), (fk2, .ref 6), (fk3, .int 28), (fk4, .int 0)])), (wAI (ia ks0)), (wAI (ia ns0)), (wAI (ia fl0)), (wAI [.int 0, .int 0, .int 0, .int 0, .int 0, .int 0, .int 0, .int 0, .int 0, .int 0, .int 0, .int 0, .int 0, .int 0, .int 0, .int 0, .int 0, .int 0, .int 0, .int 0, .int 0, .int 0, .int 0, .int 0, .int 0, .int 0, .int 0, .int 0, .int 0, .int 0, .int 0, .int 0]), (wAI [.int 0, .int 0, .int 0, .int 0, .int 0, .int 0, .int 0, .int 0, .int 0, .int 0, .int 0, .int 0, .int 0, .int 0, .int 0, .int 0, .int 0, .int 0, .int 0, .int 0, .int 0, .int 0, .int 0, .int 0, .int 0, .int 0, .int 0, .int 0, .int 0, .int 0, .int 0, .int 0]), (wAI [.int 0, .int 0, .int 0, .int 0, .int 0, .int 0, .int 0, .int 0, .int 0, .int 0, .int 0, .int 0, .int 0, .int 0, .int 0, .int 0])], (((u + 32) + 32) + 16)) _
  refine .s (.putF (ty := .int) 3 (.int 27) a10_67 (wd hw 23 rfl) rfl rfl (Or.inl (wd hw 24 rfl)) (wd hw 3 rfl) (by decide) rfl rfl) ?_
  show WGo _ (70, [wR 0, wR 1, wR 2, wR 3, wI 8, wU, wU], [], [(.inr (cn0, [(fk0, .ref 4), (fk1, .ref 5), (fk2, .ref 6), (fk3, .int 27), (fk4, .int 0)])), (wAI (ia ks0)), (wAI (ia ns0)), (wAI (ia fl0)), (wAI [.int 0, .int 0, .int 0, .int 0, .int 0, .int 0, .int 0, .int 0, .int 0, .int 0, .int 0, .int 0, .int 0, .int 0, .int 0, .int 0, .int 0, .int 0, .int 0, .int 0, .int 0, .int 0, .int 0, .int 0, .int 0, .int 0, .int 0, .int 0, .int 0, .int 0, .int 0, .int 0]), (wAI [.int 0, .int 0, .int 0, .int 0, .int 0, .int 0, .int 0, .int 0, .int 0, .int 0, .int 0, .int 0, .int 0, .int 0, .int 0, .int 0, .int 0, .int 0, .int 0, .int 0, .int 0, .int 0, .int 0, .int 0, .int 0, .int 0, .int 0, .int 0, .int 0, .int 0, .int 0, .int 0]), (wAI [.int 0, .int 0, .int 0, .int 0, .int 0, .int 0, .int 0, .int 0, .int 0, .int 0, .int 0, .int 0, .int 0, .int 0, .int 0, .int 0])], (((u + 32) + 32) + 16)) _
  refine .s (.iconst (0 : Int32) a10_70 rfl) <| .s (.istore (L' := [wR 0, wR 1, wR 2, wR 3, wI 8, wI 0, wU]) a10_71 rfl) ?_
  have hRg : WRep 32 (whash 27) (List.replicate 32 0) (List.replicate 32 0) (List.replicate 16 0) [] := WRep.nil rfl rfl
  show WGo _ (73, [wR 0, wR 1, wR 2, wR 3, wI 8, wI 0, wU], [], [(.inr (cn0, [(fk0, .ref 4), (fk1, .ref 5), (fk2, .ref 6), (fk3, .int 27), (fk4, .int 0)])), (wAI (ia ks0)), (wAI (ia ns0)), (wAI (ia fl0)), (wAI (ia (List.replicate 32 0))), (wAI (ia (List.replicate 32 0))), (wAI (ia (List.replicate 16 0)))], (((u + 32) + 32) + 16)) _
  refine .s (.iload a10_73 rfl) <| .s (.iload a10_75 rfl) <| .s (.icmpF a10_77 (by decide)) <| .s (.aloadN a10_80 rfl rfl) <| .s (.iload a10_81 rfl) <| .s (.iaload (0) (v := (.int (Int32.ofNat s0))) a10_83 rfl (by decide) rfl (ia_get hf0)) <| .s (.istore (L' := [wR 0, wR 1, wR 2, wR 3, wI 8, wI 0, wI (Int32.ofNat s0)]) a10_84 rfl) ?_
  refine .s (.aloadN a10_86 rfl rfl) <| .s (.aloadN a10_87 rfl rfl) <| .s (.iload a10_88 rfl) <| .s (.iaload (s0) (v := (.int (p0 + 1))) a10_90 rfl ho0.1 ho0.2 (ia_get kk0)) <| .s (.iconst (1 : Int32) a10_91 rfl) <| .s (.isub a10_92) ?_
  rw [Int32.add_sub_cancel]
  refine .s (.aloadN a10_93 rfl rfl) <| .s (.iload a10_94 rfl) <| .s (.iaload (s0) (v := (.int v0)) a10_96 rfl ho0.1 ho0.2 (ia_get nn0)) ?_
  refine .callV (k := 0) (z := (⟨"com/example/tributary/tributary/facts/PlaceMap", "put", "(II)V"⟩ : MethodName)) a10_97 (ok9i hw _ _ _ _) ⟨rfl, by decide⟩ (wd hw 56 rfl) (wd hw 46 rfl) (fun s hZ => notFace_of_selects (args := #[]) (mvT hZ (wd hw 48 rfl))) (wd hw 48 rfl) (wd hw 47 rfl) rfl (argsL := [(.int p0), (.int v0)]) (S := []) (cputB_0 hw _ _ ks0 ns0 fl0 (List.replicate 32 0) (List.replicate 32 0) (List.replicate 16 0) [] p0 v0 hRg rfl z0 new_nil _) rfl rfl rfl rfl rfl rfl (Nat.le_of_ble_eq_true rfl) (Nat.le_of_ble_eq_true rfl) ?_
  rintro _ _ _ ⟨ks1, ns1, fl1, s_1, hR1', rfl, rfl, rfl⟩; have hR1 : WRep 32 (whash 27) ks1 ns1 fl1 [(s_1, p0, v0)] := hR1'
  show WGo _ (100, [wR 0, wR 1, wR 2, wR 3, wI 8, wI 0, wI (Int32.ofNat s0)], [], [(.inr (cn0, [(fk0, .ref 4), (fk1, .ref 5), (fk2, .ref 6), (fk3, .int 27), (fk4, .int 1)])), (wAI (ia ks0)), (wAI (ia ns0)), (wAI (ia fl0)), (wAI (ia ks1)), (wAI (ia ns1)), (wAI (ia fl1))], (((u + 32) + 32) + 16)) _
  refine .s (.iinc (L' := [wR 0, wR 1, wR 2, wR 3, wI 8, wI 1, wI (Int32.ofNat s0)]) a10_100 rfl rfl) <| .s (.goto a10_103) <| .s (.iload a10_73 rfl) <| .s (.iload a10_75 rfl) <| .s (.icmpF a10_77 (by decide)) <| .s (.aloadN a10_80 rfl rfl) <| .s (.iload a10_81 rfl) ?_
  refine .s (.iaload (1) (v := (.int (Int32.ofNat s1))) a10_83 rfl (by decide) rfl (ia_get hf1)) <| .s (.istore (L' := [wR 0, wR 1, wR 2, wR 3, wI 8, wI 1, wI (Int32.ofNat s1)]) a10_84 rfl) <| .s (.aloadN a10_86 rfl rfl) <| .s (.aloadN a10_87 rfl rfl) <| .s (.iload a10_88 rfl) <| .s (.iaload (s1) (v := (.int (p1 + 1))) a10_90 rfl ho1.1 ho1.2 (ia_get kk1)) <| .s (.iconst (1 : Int32) a10_91 rfl) ?_
  refine .s (.isub a10_92) ?_
  rw [Int32.add_sub_cancel]
  refine .s (.aloadN a10_93 rfl rfl) <| .s (.iload a10_94 rfl) <| .s (.iaload (s1) (v := (.int v1)) a10_96 rfl ho1.1 ho1.2 (ia_get nn1)) ?_
  refine .callV (k := 0) (z := (⟨"com/example/tributary/tributary/facts/PlaceMap", "put", "(II)V"⟩ : MethodName)) a10_97 (ok9i hw _ _ _ _) ⟨rfl, by decide⟩ (wd hw 56 rfl) (wd hw 46 rfl) (fun s hZ => notFace_of_selects (args := #[]) (mvT hZ (wd hw 48 rfl))) (wd hw 48 rfl) (wd hw 47 rfl) rfl (argsL := [(.int p1), (.int v1)]) (S := []) (cputB_1 hw _ _ ks0 ns0 fl0 ks1 ns1 fl1 [(s_1, p0, v0)] p1 v1 hR1 rfl z1 (new_cons (hd 0 1 _ _ (by decide) rfl rfl) new_nil) _) rfl rfl rfl rfl rfl rfl (Nat.le_of_ble_eq_true rfl) (Nat.le_of_ble_eq_true rfl) ?_
  rintro _ _ _ ⟨ks2, ns2, fl2, s_2, hR2', rfl, rfl, rfl⟩; have hR2 : WRep 32 (whash 27) ks2 ns2 fl2 [(s_1, p0, v0), (s_2, p1, v1)] := hR2'
  show WGo _ (100, [wR 0, wR 1, wR 2, wR 3, wI 8, wI 1, wI (Int32.ofNat s1)], [], [(.inr (cn0, [(fk0, .ref 4), (fk1, .ref 5), (fk2, .ref 6), (fk3, .int 27), (fk4, .int 2)])), (wAI (ia ks0)), (wAI (ia ns0)), (wAI (ia fl0)), (wAI (ia ks2)), (wAI (ia ns2)), (wAI (ia fl2))], (((u + 32) + 32) + 16)) _
  refine .s (.iinc (L' := [wR 0, wR 1, wR 2, wR 3, wI 8, wI 2, wI (Int32.ofNat s1)]) a10_100 rfl rfl) <| .s (.goto a10_103) <| .s (.iload a10_73 rfl) <| .s (.iload a10_75 rfl) <| .s (.icmpF a10_77 (by decide)) <| .s (.aloadN a10_80 rfl rfl) <| .s (.iload a10_81 rfl) ?_
  refine .s (.iaload (2) (v := (.int (Int32.ofNat s2))) a10_83 rfl (by decide) rfl (ia_get hf2)) <| .s (.istore (L' := [wR 0, wR 1, wR 2, wR 3, wI 8, wI 2, wI (Int32.ofNat s2)]) a10_84 rfl) <| .s (.aloadN a10_86 rfl rfl) <| .s (.aloadN a10_87 rfl rfl) <| .s (.iload a10_88 rfl) <| .s (.iaload (s2) (v := (.int (p2 + 1))) a10_90 rfl ho2.1 ho2.2 (ia_get kk2)) <| .s (.iconst (1 : Int32) a10_91 rfl) ?_
  refine .s (.isub a10_92) ?_
  rw [Int32.add_sub_cancel]
  refine .s (.aloadN a10_93 rfl rfl) <| .s (.iload a10_94 rfl) <| .s (.iaload (s2) (v := (.int v2)) a10_96 rfl ho2.1 ho2.2 (ia_get nn2)) ?_
  refine .callV (k := 0) (z := (⟨"com/example/tributary/tributary/facts/PlaceMap", "put", "(II)V"⟩ : MethodName)) a10_97 (ok9i hw _ _ _ _) ⟨rfl, by decide⟩ (wd hw 56 rfl) (wd hw 46 rfl) (fun s hZ => notFace_of_selects (args := #[]) (mvT hZ (wd hw 48 rfl))) (wd hw 48 rfl) (wd hw 47 rfl) rfl (argsL := [(.int p2), (.int v2)]) (S := []) (cputB_2 hw _ _ ks0 ns0 fl0 ks2 ns2 fl2 [(s_1, p0, v0), (s_2, p1, v1)] p2 v2 hR2 rfl z2 (new_cons (hd 0 2 _ _ (by decide) rfl rfl) (new_cons (hd 1 2 _ _ (by decide) rfl rfl) new_nil)) _) rfl rfl rfl rfl rfl rfl (Nat.le_of_ble_eq_true rfl) (Nat.le_of_ble_eq_true rfl) ?_
  rintro _ _ _ ⟨ks3, ns3, fl3, s_3, hR3', rfl, rfl, rfl⟩; have hR3 : WRep 32 (whash 27) ks3 ns3 fl3 [(s_1, p0, v0), (s_2, p1, v1), (s_3, p2, v2)] := hR3'
  show WGo _ (100, [wR 0, wR 1, wR 2, wR 3, wI 8, wI 2, wI (Int32.ofNat s2)], [], [(.inr (cn0, [(fk0, .ref 4), (fk1, .ref 5), (fk2, .ref 6), (fk3, .int 27), (fk4, .int 3)])), (wAI (ia ks0)), (wAI (ia ns0)), (wAI (ia fl0)), (wAI (ia ks3)), (wAI (ia ns3)), (wAI (ia fl3))], (((u + 32) + 32) + 16)) _
  refine .s (.iinc (L' := [wR 0, wR 1, wR 2, wR 3, wI 8, wI 3, wI (Int32.ofNat s2)]) a10_100 rfl rfl) <| .s (.goto a10_103) <| .s (.iload a10_73 rfl) <| .s (.iload a10_75 rfl) <| .s (.icmpF a10_77 (by decide)) <| .s (.aloadN a10_80 rfl rfl) <| .s (.iload a10_81 rfl) ?_
  refine .s (.iaload (3) (v := (.int (Int32.ofNat s3))) a10_83 rfl (by decide) rfl (ia_get hf3)) <| .s (.istore (L' := [wR 0, wR 1, wR 2, wR 3, wI 8, wI 3, wI (Int32.ofNat s3)]) a10_84 rfl) <| .s (.aloadN a10_86 rfl rfl) <| .s (.aloadN a10_87 rfl rfl) <| .s (.iload a10_88 rfl) <| .s (.iaload (s3) (v := (.int (p3 + 1))) a10_90 rfl ho3.1 ho3.2 (ia_get kk3)) <| .s (.iconst (1 : Int32) a10_91 rfl) ?_
  refine .s (.isub a10_92) ?_
  rw [Int32.add_sub_cancel]
  refine .s (.aloadN a10_93 rfl rfl) <| .s (.iload a10_94 rfl) <| .s (.iaload (s3) (v := (.int v3)) a10_96 rfl ho3.1 ho3.2 (ia_get nn3)) ?_
  refine .callV (k := 0) (z := (⟨"com/example/tributary/tributary/facts/PlaceMap", "put", "(II)V"⟩ : MethodName)) a10_97 (ok9i hw _ _ _ _) ⟨rfl, by decide⟩ (wd hw 56 rfl) (wd hw 46 rfl) (fun s hZ => notFace_of_selects (args := #[]) (mvT hZ (wd hw 48 rfl))) (wd hw 48 rfl) (wd hw 47 rfl) rfl (argsL := [(.int p3), (.int v3)]) (S := []) (cputB_3 hw _ _ ks0 ns0 fl0 ks3 ns3 fl3 [(s_1, p0, v0), (s_2, p1, v1), (s_3, p2, v2)] p3 v3 hR3 rfl z3 (new_cons (hd 0 3 _ _ (by decide) rfl rfl) (new_cons (hd 1 3 _ _ (by decide) rfl rfl) (new_cons (hd 2 3 _ _ (by decide) rfl rfl) new_nil))) _) rfl rfl rfl rfl rfl rfl (Nat.le_of_ble_eq_true rfl) (Nat.le_of_ble_eq_true rfl) ?_
  rintro _ _ _ ⟨ks4, ns4, fl4, s_4, hR4', rfl, rfl, rfl⟩; have hR4 : WRep 32 (whash 27) ks4 ns4 fl4 [(s_1, p0, v0), (s_2, p1, v1), (s_3, p2, v2), (s_4, p3, v3)] := hR4'
  show WGo _ (100, [wR 0, wR 1, wR 2, wR 3, wI 8, wI 3, wI (Int32.ofNat s3)], [], [(.inr (cn0, [(fk0, .ref 4), (fk1, .ref 5), (fk2, .ref 6), (fk3, .int 27), (fk4, .int 4)])), (wAI (ia ks0)), (wAI (ia ns0)), (wAI (ia fl0)), (wAI (ia ks4)), (wAI (ia ns4)), (wAI (ia fl4))], (((u + 32) + 32) + 16)) _
  refine .s (.iinc (L' := [wR 0, wR 1, wR 2, wR 3, wI 8, wI 4, wI (Int32.ofNat s3)]) a10_100 rfl rfl) <| .s (.goto a10_103) <| .s (.iload a10_73 rfl) <| .s (.iload a10_75 rfl) <| .s (.icmpF a10_77 (by decide)) <| .s (.aloadN a10_80 rfl rfl) <| .s (.iload a10_81 rfl) ?_
  refine .s (.iaload (4) (v := (.int (Int32.ofNat s4))) a10_83 rfl (by decide) rfl (ia_get hf4)) <| .s (.istore (L' := [wR 0, wR 1, wR 2, wR 3, wI 8, wI 4, wI (Int32.ofNat s4)]) a10_84 rfl) <| .s (.aloadN a10_86 rfl rfl) <| .s (.aloadN a10_87 rfl rfl) <| .s (.iload a10_88 rfl) <| .s (.iaload (s4) (v := (.int (p4 + 1))) a10_90 rfl ho4.1 ho4.2 (ia_get kk4)) <| .s (.iconst (1 : Int32) a10_91 rfl) ?_
  refine .s (.isub a10_92) ?_
  rw [Int32.add_sub_cancel]
  refine .s (.aloadN a10_93 rfl rfl) <| .s (.iload a10_94 rfl) <| .s (.iaload (s4) (v := (.int v4)) a10_96 rfl ho4.1 ho4.2 (ia_get nn4)) ?_
  refine .callV (k := 0) (z := (⟨"com/example/tributary/tributary/facts/PlaceMap", "put", "(II)V"⟩ : MethodName)) a10_97 (ok9i hw _ _ _ _) ⟨rfl, by decide⟩ (wd hw 56 rfl) (wd hw 46 rfl) (fun s hZ => notFace_of_selects (args := #[]) (mvT hZ (wd hw 48 rfl))) (wd hw 48 rfl) (wd hw 47 rfl) rfl (argsL := [(.int p4), (.int v4)]) (S := []) (cputB_4 hw _ _ ks0 ns0 fl0 ks4 ns4 fl4 [(s_1, p0, v0), (s_2, p1, v1), (s_3, p2, v2), (s_4, p3, v3)] p4 v4 hR4 rfl z4 (new_cons (hd 0 4 _ _ (by decide) rfl rfl) (new_cons (hd 1 4 _ _ (by decide) rfl rfl) (new_cons (hd 2 4 _ _ (by decide) rfl rfl) (new_cons (hd 3 4 _ _ (by decide) rfl rfl) new_nil)))) _) rfl rfl rfl rfl rfl rfl (Nat.le_of_ble_eq_true rfl) (Nat.le_of_ble_eq_true rfl) ?_
  rintro _ _ _ ⟨ks5, ns5, fl5, s_5, hR5', rfl, rfl, rfl⟩; have hR5 : WRep 32 (whash 27) ks5 ns5 fl5 [(s_1, p0, v0), (s_2, p1, v1), (s_3, p2, v2), (s_4, p3, v3), (s_5, p4, v4)] := hR5'
  show WGo _ (100, [wR 0, wR 1, wR 2, wR 3, wI 8, wI 4, wI (Int32.ofNat s4)], [], [(.inr (cn0, [(fk0, .ref 4), (fk1, .ref 5), (fk2, .ref 6), (fk3, .int 27), (fk4, .int 5)])), (wAI (ia ks0)), (wAI (ia ns0)), (wAI (ia fl0)), (wAI (ia ks5)), (wAI (ia ns5)), (wAI (ia fl5))], (((u + 32) + 32) + 16)) _
  refine .s (.iinc (L' := [wR 0, wR 1, wR 2, wR 3, wI 8, wI 5, wI (Int32.ofNat s4)]) a10_100 rfl rfl) <| .s (.goto a10_103) <| .s (.iload a10_73 rfl) <| .s (.iload a10_75 rfl) <| .s (.icmpF a10_77 (by decide)) <| .s (.aloadN a10_80 rfl rfl) <| .s (.iload a10_81 rfl) ?_
  refine .s (.iaload (5) (v := (.int (Int32.ofNat s5))) a10_83 rfl (by decide) rfl (ia_get hf5)) <| .s (.istore (L' := [wR 0, wR 1, wR 2, wR 3, wI 8, wI 5, wI (Int32.ofNat s5)]) a10_84 rfl) <| .s (.aloadN a10_86 rfl rfl) <| .s (.aloadN a10_87 rfl rfl) <| .s (.iload a10_88 rfl) <| .s (.iaload (s5) (v := (.int (p5 + 1))) a10_90 rfl ho5.1 ho5.2 (ia_get kk5)) <| .s (.iconst (1 : Int32) a10_91 rfl) ?_
  refine .s (.isub a10_92) ?_
  rw [Int32.add_sub_cancel]
  refine .s (.aloadN a10_93 rfl rfl) <| .s (.iload a10_94 rfl) <| .s (.iaload (s5) (v := (.int v5)) a10_96 rfl ho5.1 ho5.2 (ia_get nn5)) ?_
  refine .callV (k := 0) (z := (⟨"com/example/tributary/tributary/facts/PlaceMap", "put", "(II)V"⟩ : MethodName)) a10_97 (ok9i hw _ _ _ _) ⟨rfl, by decide⟩ (wd hw 56 rfl) (wd hw 46 rfl) (fun s hZ => notFace_of_selects (args := #[]) (mvT hZ (wd hw 48 rfl))) (wd hw 48 rfl) (wd hw 47 rfl) rfl (argsL := [(.int p5), (.int v5)]) (S := []) (cputB_5 hw _ _ ks0 ns0 fl0 ks5 ns5 fl5 [(s_1, p0, v0), (s_2, p1, v1), (s_3, p2, v2), (s_4, p3, v3), (s_5, p4, v4)] p5 v5 hR5 rfl z5 (new_cons (hd 0 5 _ _ (by decide) rfl rfl) (new_cons (hd 1 5 _ _ (by decide) rfl rfl) (new_cons (hd 2 5 _ _ (by decide) rfl rfl) (new_cons (hd 3 5 _ _ (by decide) rfl rfl) (new_cons (hd 4 5 _ _ (by decide) rfl rfl) new_nil))))) _) rfl rfl rfl rfl rfl rfl (Nat.le_of_ble_eq_true rfl) (Nat.le_of_ble_eq_true rfl) ?_
  rintro _ _ _ ⟨ks6, ns6, fl6, s_6, hR6', rfl, rfl, rfl⟩; have hR6 : WRep 32 (whash 27) ks6 ns6 fl6 [(s_1, p0, v0), (s_2, p1, v1), (s_3, p2, v2), (s_4, p3, v3), (s_5, p4, v4), (s_6, p5, v5)] := hR6'
  show WGo _ (100, [wR 0, wR 1, wR 2, wR 3, wI 8, wI 5, wI (Int32.ofNat s5)], [], [(.inr (cn0, [(fk0, .ref 4), (fk1, .ref 5), (fk2, .ref 6), (fk3, .int 27), (fk4, .int 6)])), (wAI (ia ks0)), (wAI (ia ns0)), (wAI (ia fl0)), (wAI (ia ks6)), (wAI (ia ns6)), (wAI (ia fl6))], (((u + 32) + 32) + 16)) _
  refine .s (.iinc (L' := [wR 0, wR 1, wR 2, wR 3, wI 8, wI 6, wI (Int32.ofNat s5)]) a10_100 rfl rfl) <| .s (.goto a10_103) <| .s (.iload a10_73 rfl) <| .s (.iload a10_75 rfl) <| .s (.icmpF a10_77 (by decide)) <| .s (.aloadN a10_80 rfl rfl) <| .s (.iload a10_81 rfl) ?_
  refine .s (.iaload (6) (v := (.int (Int32.ofNat s6))) a10_83 rfl (by decide) rfl (ia_get hf6)) <| .s (.istore (L' := [wR 0, wR 1, wR 2, wR 3, wI 8, wI 6, wI (Int32.ofNat s6)]) a10_84 rfl) <| .s (.aloadN a10_86 rfl rfl) <| .s (.aloadN a10_87 rfl rfl) <| .s (.iload a10_88 rfl) <| .s (.iaload (s6) (v := (.int (p6 + 1))) a10_90 rfl ho6.1 ho6.2 (ia_get kk6)) <| .s (.iconst (1 : Int32) a10_91 rfl) ?_
  refine .s (.isub a10_92) ?_
  rw [Int32.add_sub_cancel]
  refine .s (.aloadN a10_93 rfl rfl) <| .s (.iload a10_94 rfl) <| .s (.iaload (s6) (v := (.int v6)) a10_96 rfl ho6.1 ho6.2 (ia_get nn6)) ?_
  refine .callV (k := 0) (z := (⟨"com/example/tributary/tributary/facts/PlaceMap", "put", "(II)V"⟩ : MethodName)) a10_97 (ok9i hw _ _ _ _) ⟨rfl, by decide⟩ (wd hw 56 rfl) (wd hw 46 rfl) (fun s hZ => notFace_of_selects (args := #[]) (mvT hZ (wd hw 48 rfl))) (wd hw 48 rfl) (wd hw 47 rfl) rfl (argsL := [(.int p6), (.int v6)]) (S := []) (cputB_6 hw _ _ ks0 ns0 fl0 ks6 ns6 fl6 [(s_1, p0, v0), (s_2, p1, v1), (s_3, p2, v2), (s_4, p3, v3), (s_5, p4, v4), (s_6, p5, v5)] p6 v6 hR6 rfl z6 (new_cons (hd 0 6 _ _ (by decide) rfl rfl) (new_cons (hd 1 6 _ _ (by decide) rfl rfl) (new_cons (hd 2 6 _ _ (by decide) rfl rfl) (new_cons (hd 3 6 _ _ (by decide) rfl rfl) (new_cons (hd 4 6 _ _ (by decide) rfl rfl) (new_cons (hd 5 6 _ _ (by decide) rfl rfl) new_nil)))))) _) rfl rfl rfl rfl rfl rfl (Nat.le_of_ble_eq_true rfl) (Nat.le_of_ble_eq_true rfl) ?_
  rintro _ _ _ ⟨ks7, ns7, fl7, s_7, hR7', rfl, rfl, rfl⟩; have hR7 : WRep 32 (whash 27) ks7 ns7 fl7 [(s_1, p0, v0), (s_2, p1, v1), (s_3, p2, v2), (s_4, p3, v3), (s_5, p4, v4), (s_6, p5, v5), (s_7, p6, v6)] := hR7'
  show WGo _ (100, [wR 0, wR 1, wR 2, wR 3, wI 8, wI 6, wI (Int32.ofNat s6)], [], [(.inr (cn0, [(fk0, .ref 4), (fk1, .ref 5), (fk2, .ref 6), (fk3, .int 27), (fk4, .int 7)])), (wAI (ia ks0)), (wAI (ia ns0)), (wAI (ia fl0)), (wAI (ia ks7)), (wAI (ia ns7)), (wAI (ia fl7))], (((u + 32) + 32) + 16)) _
  refine .s (.iinc (L' := [wR 0, wR 1, wR 2, wR 3, wI 8, wI 7, wI (Int32.ofNat s6)]) a10_100 rfl rfl) <| .s (.goto a10_103) <| .s (.iload a10_73 rfl) <| .s (.iload a10_75 rfl) <| .s (.icmpF a10_77 (by decide)) <| .s (.aloadN a10_80 rfl rfl) <| .s (.iload a10_81 rfl) ?_
  refine .s (.iaload (7) (v := (.int (Int32.ofNat s7))) a10_83 rfl (by decide) rfl (ia_get hf7)) <| .s (.istore (L' := [wR 0, wR 1, wR 2, wR 3, wI 8, wI 7, wI (Int32.ofNat s7)]) a10_84 rfl) <| .s (.aloadN a10_86 rfl rfl) <| .s (.aloadN a10_87 rfl rfl) <| .s (.iload a10_88 rfl) <| .s (.iaload (s7) (v := (.int (p7 + 1))) a10_90 rfl ho7.1 ho7.2 (ia_get kk7)) <| .s (.iconst (1 : Int32) a10_91 rfl) ?_
  refine .s (.isub a10_92) ?_
  rw [Int32.add_sub_cancel]
  refine .s (.aloadN a10_93 rfl rfl) <| .s (.iload a10_94 rfl) <| .s (.iaload (s7) (v := (.int v7)) a10_96 rfl ho7.1 ho7.2 (ia_get nn7)) ?_
  refine .callV (k := 0) (z := (⟨"com/example/tributary/tributary/facts/PlaceMap", "put", "(II)V"⟩ : MethodName)) a10_97 (ok9i hw _ _ _ _) ⟨rfl, by decide⟩ (wd hw 56 rfl) (wd hw 46 rfl) (fun s hZ => notFace_of_selects (args := #[]) (mvT hZ (wd hw 48 rfl))) (wd hw 48 rfl) (wd hw 47 rfl) rfl (argsL := [(.int p7), (.int v7)]) (S := []) (cputB_7 hw _ _ ks0 ns0 fl0 ks7 ns7 fl7 [(s_1, p0, v0), (s_2, p1, v1), (s_3, p2, v2), (s_4, p3, v3), (s_5, p4, v4), (s_6, p5, v5), (s_7, p6, v6)] p7 v7 hR7 rfl z7 (new_cons (hd 0 7 _ _ (by decide) rfl rfl) (new_cons (hd 1 7 _ _ (by decide) rfl rfl) (new_cons (hd 2 7 _ _ (by decide) rfl rfl) (new_cons (hd 3 7 _ _ (by decide) rfl rfl) (new_cons (hd 4 7 _ _ (by decide) rfl rfl) (new_cons (hd 5 7 _ _ (by decide) rfl rfl) (new_cons (hd 6 7 _ _ (by decide) rfl rfl) new_nil))))))) _) rfl rfl rfl rfl rfl rfl (Nat.le_of_ble_eq_true rfl) (Nat.le_of_ble_eq_true rfl) ?_
  rintro _ _ _ ⟨ks8, ns8, fl8, s_8, hR8', rfl, rfl, rfl⟩; have hR8 : WRep 32 (whash 27) ks8 ns8 fl8 [(s_1, p0, v0), (s_2, p1, v1), (s_3, p2, v2), (s_4, p3, v3), (s_5, p4, v4), (s_6, p5, v5), (s_7, p6, v6), (s_8, p7, v7)] := hR8'
  show WGo _ (100, [wR 0, wR 1, wR 2, wR 3, wI 8, wI 7, wI (Int32.ofNat s7)], [], [(.inr (cn0, [(fk0, .ref 4), (fk1, .ref 5), (fk2, .ref 6), (fk3, .int 27), (fk4, .int 8)])), (wAI (ia ks0)), (wAI (ia ns0)), (wAI (ia fl0)), (wAI (ia ks8)), (wAI (ia ns8)), (wAI (ia fl8))], (((u + 32) + 32) + 16)) _
  refine .s (.iinc (L' := [wR 0, wR 1, wR 2, wR 3, wI 8, wI 8, wI (Int32.ofNat s7)]) a10_100 rfl rfl) <| .s (.goto a10_103) <| .s (.iload a10_73 rfl) <| .s (.iload a10_75 rfl) <| .s (.icmpT a10_77 (by decide)) ?_
  refine .vreturn a10_106 rfl ?_
  exact ⟨ks8, ns8, fl8, s_1, s_2, s_3, s_4, s_5, s_6, s_7, s_8, hR8, rfl, rfl, rfl⟩
set_option maxHeartbeats 40000000 in
theorem cput9 {Z : State} {a0 : Array Value} (hw : ∀ d ∈ tables_1, d.before a0 Z = true) (ρ : Nat → Nat) (n0 : Nat) (ks0 ns0 fl0 : List Int32) (s0 : Nat) (p0 v0 : Int32) (s1 : Nat) (p1 v1 : Int32) (s2 : Nat) (p2 v2 : Int32) (s3 : Nat) (p3 v3 : Int32) (s4 : Nat) (p4 v4 : Int32) (s5 : Nat) (p5 v5 : Int32) (s6 : Nat) (p6 v6 : Int32) (s7 : Nat) (p7 v7 : Int32) (hR0 : WRep 16 (whash 28) ks0 ns0 fl0 [(s0, p0, v0), (s1, p1, v1), (s2, p2, v2), (s3, p3, v3), (s4, p4, v4), (s5, p5, v5), (s6, p6, v6), (s7, p7, v7)]) (hd : ∀ (i j : Nat) (x y : WEnt), i < j → [(s0, p0, v0), (s1, p1, v1), (s2, p2, v2), (s3, p3, v3), (s4, p4, v4), (s5, p5, v5), (s6, p6, v6), (s7, p7, v7)][i]? = some x → [(s0, p0, v0), (s1, p1, v1), (s2, p2, v2), (s3, p3, v3), (s4, p4, v4), (s5, p5, v5), (s6, p6, v6), (s7, p7, v7)][j]? = some y → ¬ x.2.1 = y.2.1) (p n : Int32) (hp : p + 1 ≠ 0) (hnew : ∀ x ∈ [(s0, p0, v0), (s1, p1, v1), (s2, p2, v2), (s3, p3, v3), (s4, p4, v4), (s5, p5, v5), (s6, p6, v6), (s7, p7, v7)], ¬ x.2.1 = p) (u : Nat) : WGo (g9 Z ρ n0 4 u) (0, [wR 0, wI p, wI n, wU], [], [(.inr (cn0, [(fk0, .ref 1), (fk1, .ref 2), (fk2, .ref 3), (fk3, .int 28), (fk4, .int 8)])), (wAI (ia ks0)), (wAI (ia ns0)), (wAI (ia fl0))], u) (fun v σ' u' => ∃ (ks' ns' fl' : List Int32) (t0 t1 t2 t3 t4 t5 t6 t7 t8 : Nat), WRep 32 (whash 27) ks' ns' fl' [(t0, p0, v0), (t1, p1, v1), (t2, p2, v2), (t3, p3, v3), (t4, p4, v4), (t5, p5, v5), (t6, p6, v6), (t7, p7, v7), (t8, p, n)] ∧ v = none ∧ [(.inr (cn0, [(fk0, .ref 4), (fk1, .ref 5), (fk2, .ref 6), (fk3, .int 27), (fk4, .int 9)])), (wAI (ia ks0)), (wAI (ia ns0)), (wAI (ia fl0)), (wAI (ia ks')), (wAI (ia ns')), (wAI (ia fl'))] = σ' ∧ u + 80 = u') := by
  have hlk0 := hR0.1
  refine .s (.iconst (2 : Int32) a9_0 rfl) <| .s (.aloadN a9_1 rfl rfl) <| .s (.getF 4 a9_2 (wd hw 50 rfl) rfl rfl) <| .s (.iconst (1 : Int32) a9_5 rfl) <| .s (.iadd a9_6) ?_
  show WGo _ (7, [wR 0, wI p, wI n, wU], [.int 9, .int 2], [(.inr (cn0, [(fk0, .ref 1), (fk1, .ref 2), (fk2, .ref 3), (fk3, .int 28), (fk4, .int 8)])), (wAI (ia ks0)), (wAI (ia ns0)), (wAI (ia fl0))], u) _
  refine .s (.imul a9_7) ?_
  show WGo _ (8, [wR 0, wI p, wI n, wU], [.int 18], [(.inr (cn0, [(fk0, .ref 1), (fk1, .ref 2), (fk2, .ref 3), (fk3, .int 28), (fk4, .int 8)])), (wAI (ia ks0)), (wAI (ia ns0)), (wAI (ia fl0))], u) _
  refine .s (.aloadN a9_8 rfl rfl) <| .s (.getF 0 a9_9 (wd hw 12 rfl) rfl rfl) <| .s (.alen (16 : Int32) a9_12 rfl (by rw [ia_len, hlk0]; rfl)) <| .s (.icmpF a9_13 (by decide)) <| .s (.aloadN a9_16 rfl rfl) ?_
  refine .callP (k := 0) a9_17 (ok10 hw _ _ _ _) (wd hw 52 rfl) (wd hw 53 rfl) (selP (wd hw 3 rfl) (wd hw 53 rfl) (wd hw 54 rfl) (by decide)) (wd hw 54 rfl) rfl (argsL := []) (S := []) (cgrow hw _ _ ks0 ns0 fl0 s0 p0 v0 s1 p1 v1 s2 p2 v2 s3 p3 v3 s4 p4 v4 s5 p5 v5 s6 p6 v6 s7 p7 v7 hR0 hd _) rfl rfl rfl rfl rfl rfl (Nat.le_of_ble_eq_true rfl) (Nat.le_of_ble_eq_true rfl) ?_
  have hnew' := hnew
  rintro _ _ _ ⟨ks, ns, fl, t0, t1, t2, t3, t4, t5, t6, t7, hR, rfl, rfl, rfl⟩
  show WGo _ (20, [wR 0, wI p, wI n, wU], [], [(.inr (cn0, [(fk0, .ref 4), (fk1, .ref 5), (fk2, .ref 6), (fk3, .int 27), (fk4, .int 8)])), (wAI (ia ks0)), (wAI (ia ns0)), (wAI (ia fl0)), (wAI (ia ks)), (wAI (ia ns)), (wAI (ia fl))], (u + 80)) _
  refine .s (.aloadN a9_20 rfl rfl) <| .s (.iloadN a9_21 rfl) ?_
  refine .callP (k := 0) a9_22 (ok6 hw _ _ _ _) (wd hw 34 rfl) (wd hw 35 rfl) (selP (wd hw 3 rfl) (wd hw 35 rfl) (wd hw 36 rfl) (by decide)) (wd hw 36 rfl) rfl (argsL := [(.int p)]) (S := []) (cslotB hw _ _ ks0 ns0 fl0 p _ _ _ _ _ hR.1 (WRep.zero hR (by decide))) rfl rfl rfl rfl rfl rfl (Nat.le_of_ble_eq_true rfl) (Nat.le_of_ble_eq_true rfl) ?_
  rintro _ _ _ ⟨s, k, rfl, s0', s1', sk, hend, hpath, rfl, rfl⟩
  show WGo _ (25, [wR 0, wI p, wI n, wU], [(.int s)], [(.inr (cn0, [(fk0, .ref 4), (fk1, .ref 5), (fk2, .ref 6), (fk3, .int 27), (fk4, .int 8)])), (wAI (ia ks0)), (wAI (ia ns0)), (wAI (ia fl0)), (wAI (ia ks)), (wAI (ia ns)), (wAI (ia fl))], (u + 80)) _
  refine .s (.istoreN (L' := [wR 0, wI p, wI n, wI s]) a9_25 rfl) <| .s (.aloadN a9_26 rfl rfl) <| .s (.getF 0 a9_27 (wd hw 12 rfl) rfl rfl) <| .s (.iloadN a9_30 rfl) <| .s (.iloadN a9_31 rfl) <| .s (.iconst (1 : Int32) a9_32 rfl) <| .s (.iadd a9_33) ?_
  refine .s (.iastore (s.toNatClampNeg) a9_34 rfl (nn s0') rfl (by rw [ia_len, hR.1]; exact nlt s0' s1')) ?_
  rw [ia_set]
  show WGo _ (35, [wR 0, wI p, wI n, wI s], [], [(.inr (cn0, [(fk0, .ref 4), (fk1, .ref 5), (fk2, .ref 6), (fk3, .int 27), (fk4, .int 8)])), (wAI (ia ks0)), (wAI (ia ns0)), (wAI (ia fl0)), (wAI (ia (ks.set s.toNatClampNeg (p + 1)))), (wAI (ia ns)), (wAI (ia fl))], (u + 80)) _
  refine .s (.aloadN a9_35 rfl rfl) <| .s (.getF 1 a9_36 (wd hw 14 rfl) rfl rfl) <| .s (.iloadN a9_39 rfl) <| .s (.iloadN a9_40 rfl) <| .s (.iastore (s.toNatClampNeg) a9_41 rfl (nn s0') rfl (by rw [ia_len, hR.2.1]; exact nlt s0' s1')) ?_
  rw [ia_set]
  show WGo _ (42, [wR 0, wI p, wI n, wI s], [], [(.inr (cn0, [(fk0, .ref 4), (fk1, .ref 5), (fk2, .ref 6), (fk3, .int 27), (fk4, .int 8)])), (wAI (ia ks0)), (wAI (ia ns0)), (wAI (ia fl0)), (wAI (ia (ks.set s.toNatClampNeg (p + 1)))), (wAI (ia (ns.set s.toNatClampNeg n))), (wAI (ia fl))], (u + 80)) _
  refine .s (.aloadN a9_42 rfl rfl) <| .s (.getF 2 a9_43 (wd hw 16 rfl) rfl rfl) <| .s (.aloadN a9_46 rfl rfl) <| .s (.dup a9_47 rfl) <| .s (.getF 4 a9_48 (wd hw 50 rfl) rfl rfl) <| .s (.dupX1 a9_51 rfl rfl) <| .s (.iconst (1 : Int32) a9_52 rfl) ?_
  refine .s (.iadd a9_53) ?_
  show WGo _ (54, [wR 0, wI p, wI n, wI s], [.int 9, .ref 0, .int 8, .ref 6], [(.inr (cn0, [(fk0, .ref 4), (fk1, .ref 5), (fk2, .ref 6), (fk3, .int 27), (fk4, .int 8)])), (wAI (ia ks0)), (wAI (ia ns0)), (wAI (ia fl0)), (wAI (ia (ks.set s.toNatClampNeg (p + 1)))), (wAI (ia (ns.set s.toNatClampNeg n))), (wAI (ia fl))], (u + 80)) _
  refine .s (.putF (ty := .int) 4 (.int 9) a9_54 (wd hw 50 rfl) rfl rfl (Or.inl (wd hw 51 rfl)) (wd hw 3 rfl) (by decide) rfl rfl) ?_
  show WGo _ (57, [wR 0, wI p, wI n, wI s], [.int 8, .ref 6], [(.inr (cn0, [(fk0, .ref 4), (fk1, .ref 5), (fk2, .ref 6), (fk3, .int 27), (fk4, .int 9)])), (wAI (ia ks0)), (wAI (ia ns0)), (wAI (ia fl0)), (wAI (ia (ks.set s.toNatClampNeg (p + 1)))), (wAI (ia (ns.set s.toNatClampNeg n))), (wAI (ia fl))], (u + 80)) _
  refine .s (.iloadN a9_57 rfl) <| .s (.iastore (8) a9_58 rfl (by decide) rfl (by rw [ia_len]; have := hR.2.2.1; omega)) ?_
  rw [ia_set]
  show WGo _ (59, [wR 0, wI p, wI n, wI s], [], [(.inr (cn0, [(fk0, .ref 4), (fk1, .ref 5), (fk2, .ref 6), (fk3, .int 27), (fk4, .int 9)])), (wAI (ia ks0)), (wAI (ia ns0)), (wAI (ia fl0)), (wAI (ia (ks.set s.toNatClampNeg (p + 1)))), (wAI (ia (ns.set s.toNatClampNeg n))), (wAI (ia (fl.set 8 s)))], (u + 80)) _
  refine .vreturn a9_59 rfl ?_
  have hput := WRep.put hR (p := p) (n := n) (s := s.toNatClampNeg) (Nat.le_of_ble_eq_true rfl) hp (fun x hx => by
    simp only [List.mem_cons, List.not_mem_nil, or_false] at hx
    rcases hx with rfl | rfl | rfl | rfl | rfl | rfl | rfl | rfl
    · exact hnew' (s0, p0, v0) (by simp)
    · exact hnew' (s1, p1, v1) (by simp)
    · exact hnew' (s2, p2, v2) (by simp)
    · exact hnew' (s3, p3, v3) (by simp)
    · exact hnew' (s4, p4, v4) (by simp)
    · exact hnew' (s5, p5, v5) (by simp)
    · exact hnew' (s6, p6, v6) (by simp)
    · exact hnew' (s7, p7, v7) (by simp)) (nlt s0' s1') (hend.elim (fun q => Or.inl (q ▸ sk)) (fun q => Or.inr (q ▸ sk))) hpath
  rw [show List.length [(t0, p0, v0), (t1, p1, v1), (t2, p2, v2), (t3, p3, v3), (t4, p4, v4), (t5, p5, v5), (t6, p6, v6), (t7, p7, v7)] = 8 from rfl, ofNat_back s0'] at hput
  exact ⟨_, _, _, t0, t1, t2, t3, t4, t5, t6, t7, _, hput, rfl, rfl, rfl⟩
def plv (a s i : Int32) : Int32 := (a + (i * s)) &&& 2147483647
def nuv (c d i : Int32) : Int32 := (c + (i * d)) &&& 2147483647
def exv (c d i m : Int32) : Int32 := if i < m then nuv c d i else -1
theorem plv_nz (a s i : Int32) : plv a s i + 1 ≠ 0 := fun e => by
  have q := c_and (a + (i * s)) 2147483647 (by decide)
  have e1 := c_iadd (plv a s i) 1
  rw [e] at e1
  unfold plv at e1
  have e2 : (1 : Int32).toInt = 1 := rfl
  have e3 : (0 : Int32).toInt = 0 := rfl
  have e4 : (2147483647 : Int32).toInt = 2147483647 := rfl
  omega
theorem plv_at (a s i : Int32) : ∃ q : Int, (plv a s i).toInt = a.toInt + i.toInt * s.toInt + 2147483648 * q := by
  have h1 := c_mask (a + (i * s)) 2147483647 31 (by decide) (by decide)
  have h2 := c_iadd a (i * s)
  have h3 := c_imul i s
  unfold plv
  rw [h1]
  refine ⟨((a + (i * s)).toInt % (2 ^ 31 : Nat) - (a.toInt + i.toInt * s.toInt)) / 2147483648, ?_⟩
  generalize i.toInt * s.toInt = z at *
  omega
theorem plv_ne (a s i j : Int32) (x y : Int) (hi : i.toInt = x) (hj : j.toInt = y) (ho : s.toInt % 2 = 1) (hxy : (x - y) % 16 ≠ 0) : ¬ plv a s i = plv a s j := fun e => by
  obtain ⟨q1, h1⟩ := plv_at a s i
  obtain ⟨q2, h2⟩ := plv_at a s j
  rw [e, h2, hi, hj] at h1
  have h3 : (x - y) * s.toInt = 2147483648 * (q2 - q1) := by rw [Int.sub_mul, Int.mul_sub]; omega
  have h4 : ((x - y) * s.toInt) % 16 = 0 := by rw [h3]; omega
  obtain ⟨t, ht⟩ : ∃ t, s.toInt = 2 * t + 1 := ⟨s.toInt / 2, by omega⟩
  -- an odd number times what isn't a multiple of 16
  have key : ∀ (d o : Int), o % 2 = 1 → (d * o) % 16 = 0 → d % 16 = 0 := by
    intro d o h1 h2
    have e1 : (d * o) % 16 = ((d % 16) * (o % 16)) % 16 := Int.mul_emod _ _ _
    have e2 : 0 ≤ d % 16 ∧ d % 16 < 16 := by omega
    have e3 : 0 ≤ o % 16 ∧ o % 16 < 16 := by omega
    have e4 : o % 16 = 1 ∨ o % 16 = 3 ∨ o % 16 = 5 ∨ o % 16 = 7 ∨ o % 16 = 9 ∨ o % 16 = 11 ∨ o % 16 = 13 ∨ o % 16 = 15 := by omega
    rw [e1] at h2
    rcases e4 with w | w | w | w | w | w | w | w <;> rw [w] at h2 <;> omega
  exact hxy (key _ _ ho h4)
theorem odd_of (b s : Int32) (h : (b ||| (1 : Int32)) = s) : s.toInt % 2 = 1 := by
  have e : ((b ||| 1) &&& 1) = 1 := by
    apply Int32.toBitVec_inj.mp
    apply BitVec.eq_of_getLsbD_eq
    intro i hi
    simp only [Int32.toBitVec_and, Int32.toBitVec_or, BitVec.getLsbD_and, BitVec.getLsbD_or]
    cases b.toBitVec.getLsbD i <;> cases (Int32.toBitVec 1).getLsbD i <;> rfl
  have q := c_mask (b ||| 1) 1 1 (by decide) (by decide)
  rw [e, h] at q
  have e1 : (1 : Int32).toInt = 1 := rfl
  omega
theorem ten {x k : Int32} (h0 : 0 ≤ x.toInt) (h : (x % (10 : Int32)) = k) : k = 0 ∨ k = 1 ∨ k = 2 ∨ k = 3 ∨ k = 4 ∨ k = 5 ∨ k = 6 ∨ k = 7 ∨ k = 8 ∨ k = 9 := by
  have r := (c_iremV x 10).1 h0 (by decide)
  rw [h] at r
  have e : (10 : Int32).toInt = 10 := rfl
  simp only [← Int32.toInt_inj, Int32.reduceToInt]
  omega
theorem c4 {Z : State} {a0 : Array Value} (hw : ∀ d ∈ tables_1, d.before a0 Z = true) (ρ : Nat → Nat) (n0 : Nat) (a s i : Int32) (σ : WHp) (u : Nat) : WGo (g4 Z ρ n0 σ.length u) (0, [wI a, wI s, wI i], [], σ, u) (fun v σ' u' => v = some (.int (plv a s i)) ∧ σ = σ' ∧ u = u') := by
  refine .s (.iloadN a4_0 rfl) <| .s (.iloadN a4_1 rfl) <| .s (.iloadN a4_2 rfl) <| .s (.imul a4_3) <| .s (.iadd a4_4) <| .s (.ldc a4_5 (wd hw 0 rfl)) <| .s (.iand a4_7) ?_
  refine .ireturn .int a4_8 rfl (by simp) ?_
  exact ⟨rfl, rfl, rfl⟩
theorem c8 {Z : State} {a0 : Array Value} (hw : ∀ d ∈ tables_1, d.before a0 Z = true) (ρ : Nat → Nat) (n0 : Nat) (a s i : Int32) (σ : WHp) (u : Nat) : WGo (g8 Z ρ n0 σ.length u) (0, [wI a, wI s, wI i], [], σ, u) (fun v σ' u' => v = some (.int (nuv a s i)) ∧ σ = σ' ∧ u = u') := by
  refine .s (.iloadN a8_0 rfl) <| .s (.iloadN a8_1 rfl) <| .s (.iloadN a8_2 rfl) <| .s (.imul a8_3) <| .s (.iadd a8_4) <| .s (.ldc a8_5 (wd hw 0 rfl)) <| .s (.iand a8_7) ?_
  refine .ireturn .int a8_8 rfl (by simp) ?_
  exact ⟨rfl, rfl, rfl⟩
theorem c7 {Z : State} {a0 : Array Value} (hw : ∀ d ∈ tables_1, d.before a0 Z = true) (ρ : Nat → Nat) (n0 : Nat) (c d i m : Int32) (σ : WHp) (u : Nat) : WGo (g7 Z ρ n0 σ.length u) (0, [wI c, wI d, wI i, wI m], [], σ, u) (fun v σ' u' => v = some (.int (exv c d i m)) ∧ σ = σ' ∧ u = u') := by
  refine .s (.iloadN a7_0 rfl) <| .s (.iloadN a7_1 rfl) ?_
  refine .ge a7_2 (fun h2 => ?_) (fun h2 => ?_)
  · refine .s (.iconst (-1 : Int32) a7_12 rfl) ?_
    refine .ireturn .int a7_13 rfl (by simp) ?_
    exact ⟨by unfold exv; first | rw [if_pos h2]; rfl | rw [if_neg h2]; rfl, rfl, rfl⟩
  · refine .s (.iloadN a7_5 rfl) <| .s (.iloadN a7_6 rfl) <| .s (.iloadN a7_7 rfl) ?_
    refine .callS a7_8 (ok8 hw _ _ _ _) (wd hw 42 rfl) (wd hw 43 rfl) (argsL := [(.int c), (.int d), (.int i)]) (S := []) (c8 hw _ _ c d i _ _) rfl rfl rfl rfl rfl rfl (Nat.le_of_ble_eq_true rfl) (Nat.le_of_ble_eq_true rfl) ?_
    rintro _ _ _ ⟨rfl, rfl, rfl⟩
    show WGo _ (11, [wI c, wI d, wI i, wI m], [(.int (nuv c d i))], σ, u) _
    refine .ireturn .int a7_11 rfl (by simp) ?_
    exact ⟨by unfold exv; first | rw [if_pos h2]; rfl | rw [if_neg h2]; rfl, rfl, rfl⟩
theorem look0 (a s c d j : Int32) (ho : s.toInt % 2 = 1) (hj : j = 0 ∨ j = 1 ∨ j = 2 ∨ j = 3 ∨ j = 4 ∨ j = 5 ∨ j = 6 ∨ j = 7 ∨ j = 8 ∨ j = 9) : wlook [] (plv a s j) = exv c d j (0 : Int32) := by
  rcases hj with rfl | rfl | rfl | rfl | rfl | rfl | rfl | rfl | rfl | rfl
  · exact look_nil
  · exact look_nil
  · exact look_nil
  · exact look_nil
  · exact look_nil
  · exact look_nil
  · exact look_nil
  · exact look_nil
  · exact look_nil
  · exact look_nil
theorem look1 (a s c d j : Int32) (t0 : Nat) (ho : s.toInt % 2 = 1) (hj : j = 0 ∨ j = 1 ∨ j = 2 ∨ j = 3 ∨ j = 4 ∨ j = 5 ∨ j = 6 ∨ j = 7 ∨ j = 8 ∨ j = 9) : wlook [(t0, plv a s (0 : Int32), nuv c d (0 : Int32))] (plv a s j) = exv c d j (1 : Int32) := by
  rcases hj with rfl | rfl | rfl | rfl | rfl | rfl | rfl | rfl | rfl | rfl
  · exact look_hit
  · exact ((look_miss (plv_ne a s (0 : Int32) (1 : Int32) 0 1 rfl rfl ho (by decide))).trans look_nil)
  · exact ((look_miss (plv_ne a s (0 : Int32) (2 : Int32) 0 2 rfl rfl ho (by decide))).trans look_nil)
  · exact ((look_miss (plv_ne a s (0 : Int32) (3 : Int32) 0 3 rfl rfl ho (by decide))).trans look_nil)
  · exact ((look_miss (plv_ne a s (0 : Int32) (4 : Int32) 0 4 rfl rfl ho (by decide))).trans look_nil)
  · exact ((look_miss (plv_ne a s (0 : Int32) (5 : Int32) 0 5 rfl rfl ho (by decide))).trans look_nil)
  · exact ((look_miss (plv_ne a s (0 : Int32) (6 : Int32) 0 6 rfl rfl ho (by decide))).trans look_nil)
  · exact ((look_miss (plv_ne a s (0 : Int32) (7 : Int32) 0 7 rfl rfl ho (by decide))).trans look_nil)
  · exact ((look_miss (plv_ne a s (0 : Int32) (8 : Int32) 0 8 rfl rfl ho (by decide))).trans look_nil)
  · exact ((look_miss (plv_ne a s (0 : Int32) (9 : Int32) 0 9 rfl rfl ho (by decide))).trans look_nil)
theorem look2 (a s c d j : Int32) (t0 t1 : Nat) (ho : s.toInt % 2 = 1) (hj : j = 0 ∨ j = 1 ∨ j = 2 ∨ j = 3 ∨ j = 4 ∨ j = 5 ∨ j = 6 ∨ j = 7 ∨ j = 8 ∨ j = 9) : wlook [(t0, plv a s (0 : Int32), nuv c d (0 : Int32)), (t1, plv a s (1 : Int32), nuv c d (1 : Int32))] (plv a s j) = exv c d j (2 : Int32) := by
  rcases hj with rfl | rfl | rfl | rfl | rfl | rfl | rfl | rfl | rfl | rfl
  · exact look_hit
  · exact ((look_miss (plv_ne a s (0 : Int32) (1 : Int32) 0 1 rfl rfl ho (by decide))).trans look_hit)
  · exact ((look_miss (plv_ne a s (0 : Int32) (2 : Int32) 0 2 rfl rfl ho (by decide))).trans ((look_miss (plv_ne a s (1 : Int32) (2 : Int32) 1 2 rfl rfl ho (by decide))).trans look_nil))
  · exact ((look_miss (plv_ne a s (0 : Int32) (3 : Int32) 0 3 rfl rfl ho (by decide))).trans ((look_miss (plv_ne a s (1 : Int32) (3 : Int32) 1 3 rfl rfl ho (by decide))).trans look_nil))
  · exact ((look_miss (plv_ne a s (0 : Int32) (4 : Int32) 0 4 rfl rfl ho (by decide))).trans ((look_miss (plv_ne a s (1 : Int32) (4 : Int32) 1 4 rfl rfl ho (by decide))).trans look_nil))
  · exact ((look_miss (plv_ne a s (0 : Int32) (5 : Int32) 0 5 rfl rfl ho (by decide))).trans ((look_miss (plv_ne a s (1 : Int32) (5 : Int32) 1 5 rfl rfl ho (by decide))).trans look_nil))
  · exact ((look_miss (plv_ne a s (0 : Int32) (6 : Int32) 0 6 rfl rfl ho (by decide))).trans ((look_miss (plv_ne a s (1 : Int32) (6 : Int32) 1 6 rfl rfl ho (by decide))).trans look_nil))
  · exact ((look_miss (plv_ne a s (0 : Int32) (7 : Int32) 0 7 rfl rfl ho (by decide))).trans ((look_miss (plv_ne a s (1 : Int32) (7 : Int32) 1 7 rfl rfl ho (by decide))).trans look_nil))
  · exact ((look_miss (plv_ne a s (0 : Int32) (8 : Int32) 0 8 rfl rfl ho (by decide))).trans ((look_miss (plv_ne a s (1 : Int32) (8 : Int32) 1 8 rfl rfl ho (by decide))).trans look_nil))
  · exact ((look_miss (plv_ne a s (0 : Int32) (9 : Int32) 0 9 rfl rfl ho (by decide))).trans ((look_miss (plv_ne a s (1 : Int32) (9 : Int32) 1 9 rfl rfl ho (by decide))).trans look_nil))
theorem look3 (a s c d j : Int32) (t0 t1 t2 : Nat) (ho : s.toInt % 2 = 1) (hj : j = 0 ∨ j = 1 ∨ j = 2 ∨ j = 3 ∨ j = 4 ∨ j = 5 ∨ j = 6 ∨ j = 7 ∨ j = 8 ∨ j = 9) : wlook [(t0, plv a s (0 : Int32), nuv c d (0 : Int32)), (t1, plv a s (1 : Int32), nuv c d (1 : Int32)), (t2, plv a s (2 : Int32), nuv c d (2 : Int32))] (plv a s j) = exv c d j (3 : Int32) := by
  rcases hj with rfl | rfl | rfl | rfl | rfl | rfl | rfl | rfl | rfl | rfl
  · exact look_hit
  · exact ((look_miss (plv_ne a s (0 : Int32) (1 : Int32) 0 1 rfl rfl ho (by decide))).trans look_hit)
  · exact ((look_miss (plv_ne a s (0 : Int32) (2 : Int32) 0 2 rfl rfl ho (by decide))).trans ((look_miss (plv_ne a s (1 : Int32) (2 : Int32) 1 2 rfl rfl ho (by decide))).trans look_hit))
  · exact ((look_miss (plv_ne a s (0 : Int32) (3 : Int32) 0 3 rfl rfl ho (by decide))).trans ((look_miss (plv_ne a s (1 : Int32) (3 : Int32) 1 3 rfl rfl ho (by decide))).trans ((look_miss (plv_ne a s (2 : Int32) (3 : Int32) 2 3 rfl rfl ho (by decide))).trans look_nil)))
  · exact ((look_miss (plv_ne a s (0 : Int32) (4 : Int32) 0 4 rfl rfl ho (by decide))).trans ((look_miss (plv_ne a s (1 : Int32) (4 : Int32) 1 4 rfl rfl ho (by decide))).trans ((look_miss (plv_ne a s (2 : Int32) (4 : Int32) 2 4 rfl rfl ho (by decide))).trans look_nil)))
  · exact ((look_miss (plv_ne a s (0 : Int32) (5 : Int32) 0 5 rfl rfl ho (by decide))).trans ((look_miss (plv_ne a s (1 : Int32) (5 : Int32) 1 5 rfl rfl ho (by decide))).trans ((look_miss (plv_ne a s (2 : Int32) (5 : Int32) 2 5 rfl rfl ho (by decide))).trans look_nil)))
  · exact ((look_miss (plv_ne a s (0 : Int32) (6 : Int32) 0 6 rfl rfl ho (by decide))).trans ((look_miss (plv_ne a s (1 : Int32) (6 : Int32) 1 6 rfl rfl ho (by decide))).trans ((look_miss (plv_ne a s (2 : Int32) (6 : Int32) 2 6 rfl rfl ho (by decide))).trans look_nil)))
  · exact ((look_miss (plv_ne a s (0 : Int32) (7 : Int32) 0 7 rfl rfl ho (by decide))).trans ((look_miss (plv_ne a s (1 : Int32) (7 : Int32) 1 7 rfl rfl ho (by decide))).trans ((look_miss (plv_ne a s (2 : Int32) (7 : Int32) 2 7 rfl rfl ho (by decide))).trans look_nil)))
  · exact ((look_miss (plv_ne a s (0 : Int32) (8 : Int32) 0 8 rfl rfl ho (by decide))).trans ((look_miss (plv_ne a s (1 : Int32) (8 : Int32) 1 8 rfl rfl ho (by decide))).trans ((look_miss (plv_ne a s (2 : Int32) (8 : Int32) 2 8 rfl rfl ho (by decide))).trans look_nil)))
  · exact ((look_miss (plv_ne a s (0 : Int32) (9 : Int32) 0 9 rfl rfl ho (by decide))).trans ((look_miss (plv_ne a s (1 : Int32) (9 : Int32) 1 9 rfl rfl ho (by decide))).trans ((look_miss (plv_ne a s (2 : Int32) (9 : Int32) 2 9 rfl rfl ho (by decide))).trans look_nil)))
theorem look4 (a s c d j : Int32) (t0 t1 t2 t3 : Nat) (ho : s.toInt % 2 = 1) (hj : j = 0 ∨ j = 1 ∨ j = 2 ∨ j = 3 ∨ j = 4 ∨ j = 5 ∨ j = 6 ∨ j = 7 ∨ j = 8 ∨ j = 9) : wlook [(t0, plv a s (0 : Int32), nuv c d (0 : Int32)), (t1, plv a s (1 : Int32), nuv c d (1 : Int32)), (t2, plv a s (2 : Int32), nuv c d (2 : Int32)), (t3, plv a s (3 : Int32), nuv c d (3 : Int32))] (plv a s j) = exv c d j (4 : Int32) := by
  rcases hj with rfl | rfl | rfl | rfl | rfl | rfl | rfl | rfl | rfl | rfl
  · exact look_hit
  · exact ((look_miss (plv_ne a s (0 : Int32) (1 : Int32) 0 1 rfl rfl ho (by decide))).trans look_hit)
  · exact ((look_miss (plv_ne a s (0 : Int32) (2 : Int32) 0 2 rfl rfl ho (by decide))).trans ((look_miss (plv_ne a s (1 : Int32) (2 : Int32) 1 2 rfl rfl ho (by decide))).trans look_hit))
  · exact ((look_miss (plv_ne a s (0 : Int32) (3 : Int32) 0 3 rfl rfl ho (by decide))).trans ((look_miss (plv_ne a s (1 : Int32) (3 : Int32) 1 3 rfl rfl ho (by decide))).trans ((look_miss (plv_ne a s (2 : Int32) (3 : Int32) 2 3 rfl rfl ho (by decide))).trans look_hit)))
  · exact ((look_miss (plv_ne a s (0 : Int32) (4 : Int32) 0 4 rfl rfl ho (by decide))).trans ((look_miss (plv_ne a s (1 : Int32) (4 : Int32) 1 4 rfl rfl ho (by decide))).trans ((look_miss (plv_ne a s (2 : Int32) (4 : Int32) 2 4 rfl rfl ho (by decide))).trans ((look_miss (plv_ne a s (3 : Int32) (4 : Int32) 3 4 rfl rfl ho (by decide))).trans look_nil))))
  · exact ((look_miss (plv_ne a s (0 : Int32) (5 : Int32) 0 5 rfl rfl ho (by decide))).trans ((look_miss (plv_ne a s (1 : Int32) (5 : Int32) 1 5 rfl rfl ho (by decide))).trans ((look_miss (plv_ne a s (2 : Int32) (5 : Int32) 2 5 rfl rfl ho (by decide))).trans ((look_miss (plv_ne a s (3 : Int32) (5 : Int32) 3 5 rfl rfl ho (by decide))).trans look_nil))))
  · exact ((look_miss (plv_ne a s (0 : Int32) (6 : Int32) 0 6 rfl rfl ho (by decide))).trans ((look_miss (plv_ne a s (1 : Int32) (6 : Int32) 1 6 rfl rfl ho (by decide))).trans ((look_miss (plv_ne a s (2 : Int32) (6 : Int32) 2 6 rfl rfl ho (by decide))).trans ((look_miss (plv_ne a s (3 : Int32) (6 : Int32) 3 6 rfl rfl ho (by decide))).trans look_nil))))
  · exact ((look_miss (plv_ne a s (0 : Int32) (7 : Int32) 0 7 rfl rfl ho (by decide))).trans ((look_miss (plv_ne a s (1 : Int32) (7 : Int32) 1 7 rfl rfl ho (by decide))).trans ((look_miss (plv_ne a s (2 : Int32) (7 : Int32) 2 7 rfl rfl ho (by decide))).trans ((look_miss (plv_ne a s (3 : Int32) (7 : Int32) 3 7 rfl rfl ho (by decide))).trans look_nil))))
  · exact ((look_miss (plv_ne a s (0 : Int32) (8 : Int32) 0 8 rfl rfl ho (by decide))).trans ((look_miss (plv_ne a s (1 : Int32) (8 : Int32) 1 8 rfl rfl ho (by decide))).trans ((look_miss (plv_ne a s (2 : Int32) (8 : Int32) 2 8 rfl rfl ho (by decide))).trans ((look_miss (plv_ne a s (3 : Int32) (8 : Int32) 3 8 rfl rfl ho (by decide))).trans look_nil))))
  · exact ((look_miss (plv_ne a s (0 : Int32) (9 : Int32) 0 9 rfl rfl ho (by decide))).trans ((look_miss (plv_ne a s (1 : Int32) (9 : Int32) 1 9 rfl rfl ho (by decide))).trans ((look_miss (plv_ne a s (2 : Int32) (9 : Int32) 2 9 rfl rfl ho (by decide))).trans ((look_miss (plv_ne a s (3 : Int32) (9 : Int32) 3 9 rfl rfl ho (by decide))).trans look_nil))))
theorem look5 (a s c d j : Int32) (t0 t1 t2 t3 t4 : Nat) (ho : s.toInt % 2 = 1) (hj : j = 0 ∨ j = 1 ∨ j = 2 ∨ j = 3 ∨ j = 4 ∨ j = 5 ∨ j = 6 ∨ j = 7 ∨ j = 8 ∨ j = 9) : wlook [(t0, plv a s (0 : Int32), nuv c d (0 : Int32)), (t1, plv a s (1 : Int32), nuv c d (1 : Int32)), (t2, plv a s (2 : Int32), nuv c d (2 : Int32)), (t3, plv a s (3 : Int32), nuv c d (3 : Int32)), (t4, plv a s (4 : Int32), nuv c d (4 : Int32))] (plv a s j) = exv c d j (5 : Int32) := by
  rcases hj with rfl | rfl | rfl | rfl | rfl | rfl | rfl | rfl | rfl | rfl
  · exact look_hit
  · exact ((look_miss (plv_ne a s (0 : Int32) (1 : Int32) 0 1 rfl rfl ho (by decide))).trans look_hit)
  · exact ((look_miss (plv_ne a s (0 : Int32) (2 : Int32) 0 2 rfl rfl ho (by decide))).trans ((look_miss (plv_ne a s (1 : Int32) (2 : Int32) 1 2 rfl rfl ho (by decide))).trans look_hit))
  · exact ((look_miss (plv_ne a s (0 : Int32) (3 : Int32) 0 3 rfl rfl ho (by decide))).trans ((look_miss (plv_ne a s (1 : Int32) (3 : Int32) 1 3 rfl rfl ho (by decide))).trans ((look_miss (plv_ne a s (2 : Int32) (3 : Int32) 2 3 rfl rfl ho (by decide))).trans look_hit)))
  · exact ((look_miss (plv_ne a s (0 : Int32) (4 : Int32) 0 4 rfl rfl ho (by decide))).trans ((look_miss (plv_ne a s (1 : Int32) (4 : Int32) 1 4 rfl rfl ho (by decide))).trans ((look_miss (plv_ne a s (2 : Int32) (4 : Int32) 2 4 rfl rfl ho (by decide))).trans ((look_miss (plv_ne a s (3 : Int32) (4 : Int32) 3 4 rfl rfl ho (by decide))).trans look_hit))))
  · exact ((look_miss (plv_ne a s (0 : Int32) (5 : Int32) 0 5 rfl rfl ho (by decide))).trans ((look_miss (plv_ne a s (1 : Int32) (5 : Int32) 1 5 rfl rfl ho (by decide))).trans ((look_miss (plv_ne a s (2 : Int32) (5 : Int32) 2 5 rfl rfl ho (by decide))).trans ((look_miss (plv_ne a s (3 : Int32) (5 : Int32) 3 5 rfl rfl ho (by decide))).trans ((look_miss (plv_ne a s (4 : Int32) (5 : Int32) 4 5 rfl rfl ho (by decide))).trans look_nil)))))
  · exact ((look_miss (plv_ne a s (0 : Int32) (6 : Int32) 0 6 rfl rfl ho (by decide))).trans ((look_miss (plv_ne a s (1 : Int32) (6 : Int32) 1 6 rfl rfl ho (by decide))).trans ((look_miss (plv_ne a s (2 : Int32) (6 : Int32) 2 6 rfl rfl ho (by decide))).trans ((look_miss (plv_ne a s (3 : Int32) (6 : Int32) 3 6 rfl rfl ho (by decide))).trans ((look_miss (plv_ne a s (4 : Int32) (6 : Int32) 4 6 rfl rfl ho (by decide))).trans look_nil)))))
  · exact ((look_miss (plv_ne a s (0 : Int32) (7 : Int32) 0 7 rfl rfl ho (by decide))).trans ((look_miss (plv_ne a s (1 : Int32) (7 : Int32) 1 7 rfl rfl ho (by decide))).trans ((look_miss (plv_ne a s (2 : Int32) (7 : Int32) 2 7 rfl rfl ho (by decide))).trans ((look_miss (plv_ne a s (3 : Int32) (7 : Int32) 3 7 rfl rfl ho (by decide))).trans ((look_miss (plv_ne a s (4 : Int32) (7 : Int32) 4 7 rfl rfl ho (by decide))).trans look_nil)))))
  · exact ((look_miss (plv_ne a s (0 : Int32) (8 : Int32) 0 8 rfl rfl ho (by decide))).trans ((look_miss (plv_ne a s (1 : Int32) (8 : Int32) 1 8 rfl rfl ho (by decide))).trans ((look_miss (plv_ne a s (2 : Int32) (8 : Int32) 2 8 rfl rfl ho (by decide))).trans ((look_miss (plv_ne a s (3 : Int32) (8 : Int32) 3 8 rfl rfl ho (by decide))).trans ((look_miss (plv_ne a s (4 : Int32) (8 : Int32) 4 8 rfl rfl ho (by decide))).trans look_nil)))))
  · exact ((look_miss (plv_ne a s (0 : Int32) (9 : Int32) 0 9 rfl rfl ho (by decide))).trans ((look_miss (plv_ne a s (1 : Int32) (9 : Int32) 1 9 rfl rfl ho (by decide))).trans ((look_miss (plv_ne a s (2 : Int32) (9 : Int32) 2 9 rfl rfl ho (by decide))).trans ((look_miss (plv_ne a s (3 : Int32) (9 : Int32) 3 9 rfl rfl ho (by decide))).trans ((look_miss (plv_ne a s (4 : Int32) (9 : Int32) 4 9 rfl rfl ho (by decide))).trans look_nil)))))
theorem look6 (a s c d j : Int32) (t0 t1 t2 t3 t4 t5 : Nat) (ho : s.toInt % 2 = 1) (hj : j = 0 ∨ j = 1 ∨ j = 2 ∨ j = 3 ∨ j = 4 ∨ j = 5 ∨ j = 6 ∨ j = 7 ∨ j = 8 ∨ j = 9) : wlook [(t0, plv a s (0 : Int32), nuv c d (0 : Int32)), (t1, plv a s (1 : Int32), nuv c d (1 : Int32)), (t2, plv a s (2 : Int32), nuv c d (2 : Int32)), (t3, plv a s (3 : Int32), nuv c d (3 : Int32)), (t4, plv a s (4 : Int32), nuv c d (4 : Int32)), (t5, plv a s (5 : Int32), nuv c d (5 : Int32))] (plv a s j) = exv c d j (6 : Int32) := by
  rcases hj with rfl | rfl | rfl | rfl | rfl | rfl | rfl | rfl | rfl | rfl
  · exact look_hit
  · exact ((look_miss (plv_ne a s (0 : Int32) (1 : Int32) 0 1 rfl rfl ho (by decide))).trans look_hit)
  · exact ((look_miss (plv_ne a s (0 : Int32) (2 : Int32) 0 2 rfl rfl ho (by decide))).trans ((look_miss (plv_ne a s (1 : Int32) (2 : Int32) 1 2 rfl rfl ho (by decide))).trans look_hit))
  · exact ((look_miss (plv_ne a s (0 : Int32) (3 : Int32) 0 3 rfl rfl ho (by decide))).trans ((look_miss (plv_ne a s (1 : Int32) (3 : Int32) 1 3 rfl rfl ho (by decide))).trans ((look_miss (plv_ne a s (2 : Int32) (3 : Int32) 2 3 rfl rfl ho (by decide))).trans look_hit)))
  · exact ((look_miss (plv_ne a s (0 : Int32) (4 : Int32) 0 4 rfl rfl ho (by decide))).trans ((look_miss (plv_ne a s (1 : Int32) (4 : Int32) 1 4 rfl rfl ho (by decide))).trans ((look_miss (plv_ne a s (2 : Int32) (4 : Int32) 2 4 rfl rfl ho (by decide))).trans ((look_miss (plv_ne a s (3 : Int32) (4 : Int32) 3 4 rfl rfl ho (by decide))).trans look_hit))))
  · exact ((look_miss (plv_ne a s (0 : Int32) (5 : Int32) 0 5 rfl rfl ho (by decide))).trans ((look_miss (plv_ne a s (1 : Int32) (5 : Int32) 1 5 rfl rfl ho (by decide))).trans ((look_miss (plv_ne a s (2 : Int32) (5 : Int32) 2 5 rfl rfl ho (by decide))).trans ((look_miss (plv_ne a s (3 : Int32) (5 : Int32) 3 5 rfl rfl ho (by decide))).trans ((look_miss (plv_ne a s (4 : Int32) (5 : Int32) 4 5 rfl rfl ho (by decide))).trans look_hit)))))
  · exact ((look_miss (plv_ne a s (0 : Int32) (6 : Int32) 0 6 rfl rfl ho (by decide))).trans ((look_miss (plv_ne a s (1 : Int32) (6 : Int32) 1 6 rfl rfl ho (by decide))).trans ((look_miss (plv_ne a s (2 : Int32) (6 : Int32) 2 6 rfl rfl ho (by decide))).trans ((look_miss (plv_ne a s (3 : Int32) (6 : Int32) 3 6 rfl rfl ho (by decide))).trans ((look_miss (plv_ne a s (4 : Int32) (6 : Int32) 4 6 rfl rfl ho (by decide))).trans ((look_miss (plv_ne a s (5 : Int32) (6 : Int32) 5 6 rfl rfl ho (by decide))).trans look_nil))))))
  · exact ((look_miss (plv_ne a s (0 : Int32) (7 : Int32) 0 7 rfl rfl ho (by decide))).trans ((look_miss (plv_ne a s (1 : Int32) (7 : Int32) 1 7 rfl rfl ho (by decide))).trans ((look_miss (plv_ne a s (2 : Int32) (7 : Int32) 2 7 rfl rfl ho (by decide))).trans ((look_miss (plv_ne a s (3 : Int32) (7 : Int32) 3 7 rfl rfl ho (by decide))).trans ((look_miss (plv_ne a s (4 : Int32) (7 : Int32) 4 7 rfl rfl ho (by decide))).trans ((look_miss (plv_ne a s (5 : Int32) (7 : Int32) 5 7 rfl rfl ho (by decide))).trans look_nil))))))
  · exact ((look_miss (plv_ne a s (0 : Int32) (8 : Int32) 0 8 rfl rfl ho (by decide))).trans ((look_miss (plv_ne a s (1 : Int32) (8 : Int32) 1 8 rfl rfl ho (by decide))).trans ((look_miss (plv_ne a s (2 : Int32) (8 : Int32) 2 8 rfl rfl ho (by decide))).trans ((look_miss (plv_ne a s (3 : Int32) (8 : Int32) 3 8 rfl rfl ho (by decide))).trans ((look_miss (plv_ne a s (4 : Int32) (8 : Int32) 4 8 rfl rfl ho (by decide))).trans ((look_miss (plv_ne a s (5 : Int32) (8 : Int32) 5 8 rfl rfl ho (by decide))).trans look_nil))))))
  · exact ((look_miss (plv_ne a s (0 : Int32) (9 : Int32) 0 9 rfl rfl ho (by decide))).trans ((look_miss (plv_ne a s (1 : Int32) (9 : Int32) 1 9 rfl rfl ho (by decide))).trans ((look_miss (plv_ne a s (2 : Int32) (9 : Int32) 2 9 rfl rfl ho (by decide))).trans ((look_miss (plv_ne a s (3 : Int32) (9 : Int32) 3 9 rfl rfl ho (by decide))).trans ((look_miss (plv_ne a s (4 : Int32) (9 : Int32) 4 9 rfl rfl ho (by decide))).trans ((look_miss (plv_ne a s (5 : Int32) (9 : Int32) 5 9 rfl rfl ho (by decide))).trans look_nil))))))
theorem look7 (a s c d j : Int32) (t0 t1 t2 t3 t4 t5 t6 : Nat) (ho : s.toInt % 2 = 1) (hj : j = 0 ∨ j = 1 ∨ j = 2 ∨ j = 3 ∨ j = 4 ∨ j = 5 ∨ j = 6 ∨ j = 7 ∨ j = 8 ∨ j = 9) : wlook [(t0, plv a s (0 : Int32), nuv c d (0 : Int32)), (t1, plv a s (1 : Int32), nuv c d (1 : Int32)), (t2, plv a s (2 : Int32), nuv c d (2 : Int32)), (t3, plv a s (3 : Int32), nuv c d (3 : Int32)), (t4, plv a s (4 : Int32), nuv c d (4 : Int32)), (t5, plv a s (5 : Int32), nuv c d (5 : Int32)), (t6, plv a s (6 : Int32), nuv c d (6 : Int32))] (plv a s j) = exv c d j (7 : Int32) := by
  rcases hj with rfl | rfl | rfl | rfl | rfl | rfl | rfl | rfl | rfl | rfl
  · exact look_hit
  · exact ((look_miss (plv_ne a s (0 : Int32) (1 : Int32) 0 1 rfl rfl ho (by decide))).trans look_hit)
  · exact ((look_miss (plv_ne a s (0 : Int32) (2 : Int32) 0 2 rfl rfl ho (by decide))).trans ((look_miss (plv_ne a s (1 : Int32) (2 : Int32) 1 2 rfl rfl ho (by decide))).trans look_hit))
  · exact ((look_miss (plv_ne a s (0 : Int32) (3 : Int32) 0 3 rfl rfl ho (by decide))).trans ((look_miss (plv_ne a s (1 : Int32) (3 : Int32) 1 3 rfl rfl ho (by decide))).trans ((look_miss (plv_ne a s (2 : Int32) (3 : Int32) 2 3 rfl rfl ho (by decide))).trans look_hit)))
  · exact ((look_miss (plv_ne a s (0 : Int32) (4 : Int32) 0 4 rfl rfl ho (by decide))).trans ((look_miss (plv_ne a s (1 : Int32) (4 : Int32) 1 4 rfl rfl ho (by decide))).trans ((look_miss (plv_ne a s (2 : Int32) (4 : Int32) 2 4 rfl rfl ho (by decide))).trans ((look_miss (plv_ne a s (3 : Int32) (4 : Int32) 3 4 rfl rfl ho (by decide))).trans look_hit))))
  · exact ((look_miss (plv_ne a s (0 : Int32) (5 : Int32) 0 5 rfl rfl ho (by decide))).trans ((look_miss (plv_ne a s (1 : Int32) (5 : Int32) 1 5 rfl rfl ho (by decide))).trans ((look_miss (plv_ne a s (2 : Int32) (5 : Int32) 2 5 rfl rfl ho (by decide))).trans ((look_miss (plv_ne a s (3 : Int32) (5 : Int32) 3 5 rfl rfl ho (by decide))).trans ((look_miss (plv_ne a s (4 : Int32) (5 : Int32) 4 5 rfl rfl ho (by decide))).trans look_hit)))))
  · exact ((look_miss (plv_ne a s (0 : Int32) (6 : Int32) 0 6 rfl rfl ho (by decide))).trans ((look_miss (plv_ne a s (1 : Int32) (6 : Int32) 1 6 rfl rfl ho (by decide))).trans ((look_miss (plv_ne a s (2 : Int32) (6 : Int32) 2 6 rfl rfl ho (by decide))).trans ((look_miss (plv_ne a s (3 : Int32) (6 : Int32) 3 6 rfl rfl ho (by decide))).trans ((look_miss (plv_ne a s (4 : Int32) (6 : Int32) 4 6 rfl rfl ho (by decide))).trans ((look_miss (plv_ne a s (5 : Int32) (6 : Int32) 5 6 rfl rfl ho (by decide))).trans look_hit))))))
  · exact ((look_miss (plv_ne a s (0 : Int32) (7 : Int32) 0 7 rfl rfl ho (by decide))).trans ((look_miss (plv_ne a s (1 : Int32) (7 : Int32) 1 7 rfl rfl ho (by decide))).trans ((look_miss (plv_ne a s (2 : Int32) (7 : Int32) 2 7 rfl rfl ho (by decide))).trans ((look_miss (plv_ne a s (3 : Int32) (7 : Int32) 3 7 rfl rfl ho (by decide))).trans ((look_miss (plv_ne a s (4 : Int32) (7 : Int32) 4 7 rfl rfl ho (by decide))).trans ((look_miss (plv_ne a s (5 : Int32) (7 : Int32) 5 7 rfl rfl ho (by decide))).trans ((look_miss (plv_ne a s (6 : Int32) (7 : Int32) 6 7 rfl rfl ho (by decide))).trans look_nil)))))))
  · exact ((look_miss (plv_ne a s (0 : Int32) (8 : Int32) 0 8 rfl rfl ho (by decide))).trans ((look_miss (plv_ne a s (1 : Int32) (8 : Int32) 1 8 rfl rfl ho (by decide))).trans ((look_miss (plv_ne a s (2 : Int32) (8 : Int32) 2 8 rfl rfl ho (by decide))).trans ((look_miss (plv_ne a s (3 : Int32) (8 : Int32) 3 8 rfl rfl ho (by decide))).trans ((look_miss (plv_ne a s (4 : Int32) (8 : Int32) 4 8 rfl rfl ho (by decide))).trans ((look_miss (plv_ne a s (5 : Int32) (8 : Int32) 5 8 rfl rfl ho (by decide))).trans ((look_miss (plv_ne a s (6 : Int32) (8 : Int32) 6 8 rfl rfl ho (by decide))).trans look_nil)))))))
  · exact ((look_miss (plv_ne a s (0 : Int32) (9 : Int32) 0 9 rfl rfl ho (by decide))).trans ((look_miss (plv_ne a s (1 : Int32) (9 : Int32) 1 9 rfl rfl ho (by decide))).trans ((look_miss (plv_ne a s (2 : Int32) (9 : Int32) 2 9 rfl rfl ho (by decide))).trans ((look_miss (plv_ne a s (3 : Int32) (9 : Int32) 3 9 rfl rfl ho (by decide))).trans ((look_miss (plv_ne a s (4 : Int32) (9 : Int32) 4 9 rfl rfl ho (by decide))).trans ((look_miss (plv_ne a s (5 : Int32) (9 : Int32) 5 9 rfl rfl ho (by decide))).trans ((look_miss (plv_ne a s (6 : Int32) (9 : Int32) 6 9 rfl rfl ho (by decide))).trans look_nil)))))))
theorem look8 (a s c d j : Int32) (t0 t1 t2 t3 t4 t5 t6 t7 : Nat) (ho : s.toInt % 2 = 1) (hj : j = 0 ∨ j = 1 ∨ j = 2 ∨ j = 3 ∨ j = 4 ∨ j = 5 ∨ j = 6 ∨ j = 7 ∨ j = 8 ∨ j = 9) : wlook [(t0, plv a s (0 : Int32), nuv c d (0 : Int32)), (t1, plv a s (1 : Int32), nuv c d (1 : Int32)), (t2, plv a s (2 : Int32), nuv c d (2 : Int32)), (t3, plv a s (3 : Int32), nuv c d (3 : Int32)), (t4, plv a s (4 : Int32), nuv c d (4 : Int32)), (t5, plv a s (5 : Int32), nuv c d (5 : Int32)), (t6, plv a s (6 : Int32), nuv c d (6 : Int32)), (t7, plv a s (7 : Int32), nuv c d (7 : Int32))] (plv a s j) = exv c d j (8 : Int32) := by
  rcases hj with rfl | rfl | rfl | rfl | rfl | rfl | rfl | rfl | rfl | rfl
  · exact look_hit
  · exact ((look_miss (plv_ne a s (0 : Int32) (1 : Int32) 0 1 rfl rfl ho (by decide))).trans look_hit)
  · exact ((look_miss (plv_ne a s (0 : Int32) (2 : Int32) 0 2 rfl rfl ho (by decide))).trans ((look_miss (plv_ne a s (1 : Int32) (2 : Int32) 1 2 rfl rfl ho (by decide))).trans look_hit))
  · exact ((look_miss (plv_ne a s (0 : Int32) (3 : Int32) 0 3 rfl rfl ho (by decide))).trans ((look_miss (plv_ne a s (1 : Int32) (3 : Int32) 1 3 rfl rfl ho (by decide))).trans ((look_miss (plv_ne a s (2 : Int32) (3 : Int32) 2 3 rfl rfl ho (by decide))).trans look_hit)))
  · exact ((look_miss (plv_ne a s (0 : Int32) (4 : Int32) 0 4 rfl rfl ho (by decide))).trans ((look_miss (plv_ne a s (1 : Int32) (4 : Int32) 1 4 rfl rfl ho (by decide))).trans ((look_miss (plv_ne a s (2 : Int32) (4 : Int32) 2 4 rfl rfl ho (by decide))).trans ((look_miss (plv_ne a s (3 : Int32) (4 : Int32) 3 4 rfl rfl ho (by decide))).trans look_hit))))
  · exact ((look_miss (plv_ne a s (0 : Int32) (5 : Int32) 0 5 rfl rfl ho (by decide))).trans ((look_miss (plv_ne a s (1 : Int32) (5 : Int32) 1 5 rfl rfl ho (by decide))).trans ((look_miss (plv_ne a s (2 : Int32) (5 : Int32) 2 5 rfl rfl ho (by decide))).trans ((look_miss (plv_ne a s (3 : Int32) (5 : Int32) 3 5 rfl rfl ho (by decide))).trans ((look_miss (plv_ne a s (4 : Int32) (5 : Int32) 4 5 rfl rfl ho (by decide))).trans look_hit)))))
  · exact ((look_miss (plv_ne a s (0 : Int32) (6 : Int32) 0 6 rfl rfl ho (by decide))).trans ((look_miss (plv_ne a s (1 : Int32) (6 : Int32) 1 6 rfl rfl ho (by decide))).trans ((look_miss (plv_ne a s (2 : Int32) (6 : Int32) 2 6 rfl rfl ho (by decide))).trans ((look_miss (plv_ne a s (3 : Int32) (6 : Int32) 3 6 rfl rfl ho (by decide))).trans ((look_miss (plv_ne a s (4 : Int32) (6 : Int32) 4 6 rfl rfl ho (by decide))).trans ((look_miss (plv_ne a s (5 : Int32) (6 : Int32) 5 6 rfl rfl ho (by decide))).trans look_hit))))))
  · exact ((look_miss (plv_ne a s (0 : Int32) (7 : Int32) 0 7 rfl rfl ho (by decide))).trans ((look_miss (plv_ne a s (1 : Int32) (7 : Int32) 1 7 rfl rfl ho (by decide))).trans ((look_miss (plv_ne a s (2 : Int32) (7 : Int32) 2 7 rfl rfl ho (by decide))).trans ((look_miss (plv_ne a s (3 : Int32) (7 : Int32) 3 7 rfl rfl ho (by decide))).trans ((look_miss (plv_ne a s (4 : Int32) (7 : Int32) 4 7 rfl rfl ho (by decide))).trans ((look_miss (plv_ne a s (5 : Int32) (7 : Int32) 5 7 rfl rfl ho (by decide))).trans ((look_miss (plv_ne a s (6 : Int32) (7 : Int32) 6 7 rfl rfl ho (by decide))).trans look_hit)))))))
  · exact ((look_miss (plv_ne a s (0 : Int32) (8 : Int32) 0 8 rfl rfl ho (by decide))).trans ((look_miss (plv_ne a s (1 : Int32) (8 : Int32) 1 8 rfl rfl ho (by decide))).trans ((look_miss (plv_ne a s (2 : Int32) (8 : Int32) 2 8 rfl rfl ho (by decide))).trans ((look_miss (plv_ne a s (3 : Int32) (8 : Int32) 3 8 rfl rfl ho (by decide))).trans ((look_miss (plv_ne a s (4 : Int32) (8 : Int32) 4 8 rfl rfl ho (by decide))).trans ((look_miss (plv_ne a s (5 : Int32) (8 : Int32) 5 8 rfl rfl ho (by decide))).trans ((look_miss (plv_ne a s (6 : Int32) (8 : Int32) 6 8 rfl rfl ho (by decide))).trans ((look_miss (plv_ne a s (7 : Int32) (8 : Int32) 7 8 rfl rfl ho (by decide))).trans look_nil))))))))
  · exact ((look_miss (plv_ne a s (0 : Int32) (9 : Int32) 0 9 rfl rfl ho (by decide))).trans ((look_miss (plv_ne a s (1 : Int32) (9 : Int32) 1 9 rfl rfl ho (by decide))).trans ((look_miss (plv_ne a s (2 : Int32) (9 : Int32) 2 9 rfl rfl ho (by decide))).trans ((look_miss (plv_ne a s (3 : Int32) (9 : Int32) 3 9 rfl rfl ho (by decide))).trans ((look_miss (plv_ne a s (4 : Int32) (9 : Int32) 4 9 rfl rfl ho (by decide))).trans ((look_miss (plv_ne a s (5 : Int32) (9 : Int32) 5 9 rfl rfl ho (by decide))).trans ((look_miss (plv_ne a s (6 : Int32) (9 : Int32) 6 9 rfl rfl ho (by decide))).trans ((look_miss (plv_ne a s (7 : Int32) (9 : Int32) 7 9 rfl rfl ho (by decide))).trans look_nil))))))))
theorem look9 (a s c d j : Int32) (t0 t1 t2 t3 t4 t5 t6 t7 t8 : Nat) (ho : s.toInt % 2 = 1) (hj : j = 0 ∨ j = 1 ∨ j = 2 ∨ j = 3 ∨ j = 4 ∨ j = 5 ∨ j = 6 ∨ j = 7 ∨ j = 8 ∨ j = 9) : wlook [(t0, plv a s (0 : Int32), nuv c d (0 : Int32)), (t1, plv a s (1 : Int32), nuv c d (1 : Int32)), (t2, plv a s (2 : Int32), nuv c d (2 : Int32)), (t3, plv a s (3 : Int32), nuv c d (3 : Int32)), (t4, plv a s (4 : Int32), nuv c d (4 : Int32)), (t5, plv a s (5 : Int32), nuv c d (5 : Int32)), (t6, plv a s (6 : Int32), nuv c d (6 : Int32)), (t7, plv a s (7 : Int32), nuv c d (7 : Int32)), (t8, plv a s (8 : Int32), nuv c d (8 : Int32))] (plv a s j) = exv c d j (9 : Int32) := by
  rcases hj with rfl | rfl | rfl | rfl | rfl | rfl | rfl | rfl | rfl | rfl
  · exact look_hit
  · exact ((look_miss (plv_ne a s (0 : Int32) (1 : Int32) 0 1 rfl rfl ho (by decide))).trans look_hit)
  · exact ((look_miss (plv_ne a s (0 : Int32) (2 : Int32) 0 2 rfl rfl ho (by decide))).trans ((look_miss (plv_ne a s (1 : Int32) (2 : Int32) 1 2 rfl rfl ho (by decide))).trans look_hit))
  · exact ((look_miss (plv_ne a s (0 : Int32) (3 : Int32) 0 3 rfl rfl ho (by decide))).trans ((look_miss (plv_ne a s (1 : Int32) (3 : Int32) 1 3 rfl rfl ho (by decide))).trans ((look_miss (plv_ne a s (2 : Int32) (3 : Int32) 2 3 rfl rfl ho (by decide))).trans look_hit)))
  · exact ((look_miss (plv_ne a s (0 : Int32) (4 : Int32) 0 4 rfl rfl ho (by decide))).trans ((look_miss (plv_ne a s (1 : Int32) (4 : Int32) 1 4 rfl rfl ho (by decide))).trans ((look_miss (plv_ne a s (2 : Int32) (4 : Int32) 2 4 rfl rfl ho (by decide))).trans ((look_miss (plv_ne a s (3 : Int32) (4 : Int32) 3 4 rfl rfl ho (by decide))).trans look_hit))))
  · exact ((look_miss (plv_ne a s (0 : Int32) (5 : Int32) 0 5 rfl rfl ho (by decide))).trans ((look_miss (plv_ne a s (1 : Int32) (5 : Int32) 1 5 rfl rfl ho (by decide))).trans ((look_miss (plv_ne a s (2 : Int32) (5 : Int32) 2 5 rfl rfl ho (by decide))).trans ((look_miss (plv_ne a s (3 : Int32) (5 : Int32) 3 5 rfl rfl ho (by decide))).trans ((look_miss (plv_ne a s (4 : Int32) (5 : Int32) 4 5 rfl rfl ho (by decide))).trans look_hit)))))
  · exact ((look_miss (plv_ne a s (0 : Int32) (6 : Int32) 0 6 rfl rfl ho (by decide))).trans ((look_miss (plv_ne a s (1 : Int32) (6 : Int32) 1 6 rfl rfl ho (by decide))).trans ((look_miss (plv_ne a s (2 : Int32) (6 : Int32) 2 6 rfl rfl ho (by decide))).trans ((look_miss (plv_ne a s (3 : Int32) (6 : Int32) 3 6 rfl rfl ho (by decide))).trans ((look_miss (plv_ne a s (4 : Int32) (6 : Int32) 4 6 rfl rfl ho (by decide))).trans ((look_miss (plv_ne a s (5 : Int32) (6 : Int32) 5 6 rfl rfl ho (by decide))).trans look_hit))))))
  · exact ((look_miss (plv_ne a s (0 : Int32) (7 : Int32) 0 7 rfl rfl ho (by decide))).trans ((look_miss (plv_ne a s (1 : Int32) (7 : Int32) 1 7 rfl rfl ho (by decide))).trans ((look_miss (plv_ne a s (2 : Int32) (7 : Int32) 2 7 rfl rfl ho (by decide))).trans ((look_miss (plv_ne a s (3 : Int32) (7 : Int32) 3 7 rfl rfl ho (by decide))).trans ((look_miss (plv_ne a s (4 : Int32) (7 : Int32) 4 7 rfl rfl ho (by decide))).trans ((look_miss (plv_ne a s (5 : Int32) (7 : Int32) 5 7 rfl rfl ho (by decide))).trans ((look_miss (plv_ne a s (6 : Int32) (7 : Int32) 6 7 rfl rfl ho (by decide))).trans look_hit)))))))
  · exact ((look_miss (plv_ne a s (0 : Int32) (8 : Int32) 0 8 rfl rfl ho (by decide))).trans ((look_miss (plv_ne a s (1 : Int32) (8 : Int32) 1 8 rfl rfl ho (by decide))).trans ((look_miss (plv_ne a s (2 : Int32) (8 : Int32) 2 8 rfl rfl ho (by decide))).trans ((look_miss (plv_ne a s (3 : Int32) (8 : Int32) 3 8 rfl rfl ho (by decide))).trans ((look_miss (plv_ne a s (4 : Int32) (8 : Int32) 4 8 rfl rfl ho (by decide))).trans ((look_miss (plv_ne a s (5 : Int32) (8 : Int32) 5 8 rfl rfl ho (by decide))).trans ((look_miss (plv_ne a s (6 : Int32) (8 : Int32) 6 8 rfl rfl ho (by decide))).trans ((look_miss (plv_ne a s (7 : Int32) (8 : Int32) 7 8 rfl rfl ho (by decide))).trans look_hit))))))))
  · exact ((look_miss (plv_ne a s (0 : Int32) (9 : Int32) 0 9 rfl rfl ho (by decide))).trans ((look_miss (plv_ne a s (1 : Int32) (9 : Int32) 1 9 rfl rfl ho (by decide))).trans ((look_miss (plv_ne a s (2 : Int32) (9 : Int32) 2 9 rfl rfl ho (by decide))).trans ((look_miss (plv_ne a s (3 : Int32) (9 : Int32) 3 9 rfl rfl ho (by decide))).trans ((look_miss (plv_ne a s (4 : Int32) (9 : Int32) 4 9 rfl rfl ho (by decide))).trans ((look_miss (plv_ne a s (5 : Int32) (9 : Int32) 5 9 rfl rfl ho (by decide))).trans ((look_miss (plv_ne a s (6 : Int32) (9 : Int32) 6 9 rfl rfl ho (by decide))).trans ((look_miss (plv_ne a s (7 : Int32) (9 : Int32) 7 9 rfl rfl ho (by decide))).trans ((look_miss (plv_ne a s (8 : Int32) (9 : Int32) 8 9 rfl rfl ho (by decide))).trans look_nil)))))))))
theorem pw8 (a s c d : Int32) (t0 t1 t2 t3 t4 t5 t6 t7 : Nat) (ho : s.toInt % 2 = 1) : ∀ (i j : Nat) (x y : WEnt), i < j → [(t0, plv a s (0 : Int32), nuv c d (0 : Int32)), (t1, plv a s (1 : Int32), nuv c d (1 : Int32)), (t2, plv a s (2 : Int32), nuv c d (2 : Int32)), (t3, plv a s (3 : Int32), nuv c d (3 : Int32)), (t4, plv a s (4 : Int32), nuv c d (4 : Int32)), (t5, plv a s (5 : Int32), nuv c d (5 : Int32)), (t6, plv a s (6 : Int32), nuv c d (6 : Int32)), (t7, plv a s (7 : Int32), nuv c d (7 : Int32))][i]? = some x → [(t0, plv a s (0 : Int32), nuv c d (0 : Int32)), (t1, plv a s (1 : Int32), nuv c d (1 : Int32)), (t2, plv a s (2 : Int32), nuv c d (2 : Int32)), (t3, plv a s (3 : Int32), nuv c d (3 : Int32)), (t4, plv a s (4 : Int32), nuv c d (4 : Int32)), (t5, plv a s (5 : Int32), nuv c d (5 : Int32)), (t6, plv a s (6 : Int32), nuv c d (6 : Int32)), (t7, plv a s (7 : Int32), nuv c d (7 : Int32))][j]? = some y → ¬ x.2.1 = y.2.1 := by
  intro i j x y hij hx hy
  have hj : j < 8 := by
    rcases Nat.lt_or_ge j 8 with q | q
    · exact q
    · rw [List.getElem?_eq_none (by simpa using q)] at hy; cases hy
  have hj' : j = 1 ∨ j = 2 ∨ j = 3 ∨ j = 4 ∨ j = 5 ∨ j = 6 ∨ j = 7 := by omega
  rcases hj' with rfl | rfl | rfl | rfl | rfl | rfl | rfl
  · have hi : i = 0 := by omega
    rcases hi with rfl
    · cases hx; cases hy; exact plv_ne a s _ _ 0 1 rfl rfl ho (by decide)
  · have hi : i = 0 ∨ i = 1 := by omega
    rcases hi with rfl | rfl
    · cases hx; cases hy; exact plv_ne a s _ _ 0 2 rfl rfl ho (by decide)
    · cases hx; cases hy; exact plv_ne a s _ _ 1 2 rfl rfl ho (by decide)
  · have hi : i = 0 ∨ i = 1 ∨ i = 2 := by omega
    rcases hi with rfl | rfl | rfl
    · cases hx; cases hy; exact plv_ne a s _ _ 0 3 rfl rfl ho (by decide)
    · cases hx; cases hy; exact plv_ne a s _ _ 1 3 rfl rfl ho (by decide)
    · cases hx; cases hy; exact plv_ne a s _ _ 2 3 rfl rfl ho (by decide)
  · have hi : i = 0 ∨ i = 1 ∨ i = 2 ∨ i = 3 := by omega
    rcases hi with rfl | rfl | rfl | rfl
    · cases hx; cases hy; exact plv_ne a s _ _ 0 4 rfl rfl ho (by decide)
    · cases hx; cases hy; exact plv_ne a s _ _ 1 4 rfl rfl ho (by decide)
    · cases hx; cases hy; exact plv_ne a s _ _ 2 4 rfl rfl ho (by decide)
    · cases hx; cases hy; exact plv_ne a s _ _ 3 4 rfl rfl ho (by decide)
  · have hi : i = 0 ∨ i = 1 ∨ i = 2 ∨ i = 3 ∨ i = 4 := by omega
    rcases hi with rfl | rfl | rfl | rfl | rfl
    · cases hx; cases hy; exact plv_ne a s _ _ 0 5 rfl rfl ho (by decide)
    · cases hx; cases hy; exact plv_ne a s _ _ 1 5 rfl rfl ho (by decide)
    · cases hx; cases hy; exact plv_ne a s _ _ 2 5 rfl rfl ho (by decide)
    · cases hx; cases hy; exact plv_ne a s _ _ 3 5 rfl rfl ho (by decide)
    · cases hx; cases hy; exact plv_ne a s _ _ 4 5 rfl rfl ho (by decide)
  · have hi : i = 0 ∨ i = 1 ∨ i = 2 ∨ i = 3 ∨ i = 4 ∨ i = 5 := by omega
    rcases hi with rfl | rfl | rfl | rfl | rfl | rfl
    · cases hx; cases hy; exact plv_ne a s _ _ 0 6 rfl rfl ho (by decide)
    · cases hx; cases hy; exact plv_ne a s _ _ 1 6 rfl rfl ho (by decide)
    · cases hx; cases hy; exact plv_ne a s _ _ 2 6 rfl rfl ho (by decide)
    · cases hx; cases hy; exact plv_ne a s _ _ 3 6 rfl rfl ho (by decide)
    · cases hx; cases hy; exact plv_ne a s _ _ 4 6 rfl rfl ho (by decide)
    · cases hx; cases hy; exact plv_ne a s _ _ 5 6 rfl rfl ho (by decide)
  · have hi : i = 0 ∨ i = 1 ∨ i = 2 ∨ i = 3 ∨ i = 4 ∨ i = 5 ∨ i = 6 := by omega
    rcases hi with rfl | rfl | rfl | rfl | rfl | rfl | rfl
    · cases hx; cases hy; exact plv_ne a s _ _ 0 7 rfl rfl ho (by decide)
    · cases hx; cases hy; exact plv_ne a s _ _ 1 7 rfl rfl ho (by decide)
    · cases hx; cases hy; exact plv_ne a s _ _ 2 7 rfl rfl ho (by decide)
    · cases hx; cases hy; exact plv_ne a s _ _ 3 7 rfl rfl ho (by decide)
    · cases hx; cases hy; exact plv_ne a s _ _ 4 7 rfl rfl ho (by decide)
    · cases hx; cases hy; exact plv_ne a s _ _ 5 7 rfl rfl ho (by decide)
    · cases hx; cases hy; exact plv_ne a s _ _ 6 7 rfl rfl ho (by decide)
set_option maxHeartbeats 4000000 in
theorem au3_2 {Z : State} {a0 : Array Value} (hw : ∀ d ∈ tables_1, d.before a0 Z = true) (ρ : Nat → Nat) (n0 : Nat) (u : Nat) : WGo (g3 Z ρ n0 4 u) (0, [wI 16, wU], [], [(.inr (cn0, [(fk0, .ref 1), (fk1, .ref 2), (fk2, .ref 3), (fk3, .int 0), (fk4, .int 0)])), (wAI [.int 0, .int 0, .int 0, .int 0, .int 0, .int 0, .int 0, .int 0, .int 0, .int 0, .int 0, .int 0, .int 0, .int 0, .int 0, .int 0]), (wAI [.int 0, .int 0, .int 0, .int 0, .int 0, .int 0, .int 0, .int 0, .int 0, .int 0, .int 0, .int 0, .int 0, .int 0, .int 0, .int 0]), (wAI [.int 0, .int 0, .int 0, .int 0, .int 0, .int 0, .int 0, .int 0])], u) (fun v σ' u' => v = some (.int 4) ∧ [(.inr (cn0, [(fk0, .ref 1), (fk1, .ref 2), (fk2, .ref 3), (fk3, .int 0), (fk4, .int 0)])), (wAI [.int 0, .int 0, .int 0, .int 0, .int 0, .int 0, .int 0, .int 0, .int 0, .int 0, .int 0, .int 0, .int 0, .int 0, .int 0, .int 0]), (wAI [.int 0, .int 0, .int 0, .int 0, .int 0, .int 0, .int 0, .int 0, .int 0, .int 0, .int 0, .int 0, .int 0, .int 0, .int 0, .int 0]), (wAI [.int 0, .int 0, .int 0, .int 0, .int 0, .int 0, .int 0, .int 0])] = σ' ∧ u = u') := by
  refine .s (.iloadN a3_0 rfl) <| .s (.iconst (-1 : Int32) a3_1 rfl) <| .s (.ixor a3_2) ?_
  show WGo _ (3, [wI 16, wU], [.int (-17)], [(.inr (cn0, [(fk0, .ref 1), (fk1, .ref 2), (fk2, .ref 3), (fk3, .int 0), (fk4, .int 0)])), (wAI [.int 0, .int 0, .int 0, .int 0, .int 0, .int 0, .int 0, .int 0, .int 0, .int 0, .int 0, .int 0, .int 0, .int 0, .int 0, .int 0]), (wAI [.int 0, .int 0, .int 0, .int 0, .int 0, .int 0, .int 0, .int 0, .int 0, .int 0, .int 0, .int 0, .int 0, .int 0, .int 0, .int 0]), (wAI [.int 0, .int 0, .int 0, .int 0, .int 0, .int 0, .int 0, .int 0])], u) _
  refine .s (.iloadN a3_3 rfl) <| .s (.iconst (1 : Int32) a3_4 rfl) <| .s (.isub a3_5) ?_
  show WGo _ (6, [wI 16, wU], [.int 15, .int (-17)], [(.inr (cn0, [(fk0, .ref 1), (fk1, .ref 2), (fk2, .ref 3), (fk3, .int 0), (fk4, .int 0)])), (wAI [.int 0, .int 0, .int 0, .int 0, .int 0, .int 0, .int 0, .int 0, .int 0, .int 0, .int 0, .int 0, .int 0, .int 0, .int 0, .int 0]), (wAI [.int 0, .int 0, .int 0, .int 0, .int 0, .int 0, .int 0, .int 0, .int 0, .int 0, .int 0, .int 0, .int 0, .int 0, .int 0, .int 0]), (wAI [.int 0, .int 0, .int 0, .int 0, .int 0, .int 0, .int 0, .int 0])], u) _
  refine .s (.iand a3_6) ?_
  show WGo _ (7, [wI 16, wU], [.int 15], [(.inr (cn0, [(fk0, .ref 1), (fk1, .ref 2), (fk2, .ref 3), (fk3, .int 0), (fk4, .int 0)])), (wAI [.int 0, .int 0, .int 0, .int 0, .int 0, .int 0, .int 0, .int 0, .int 0, .int 0, .int 0, .int 0, .int 0, .int 0, .int 0, .int 0]), (wAI [.int 0, .int 0, .int 0, .int 0, .int 0, .int 0, .int 0, .int 0, .int 0, .int 0, .int 0, .int 0, .int 0, .int 0, .int 0, .int 0]), (wAI [.int 0, .int 0, .int 0, .int 0, .int 0, .int 0, .int 0, .int 0])], u) _
  refine .s (.istoreN (L' := [wI 15, wU]) a3_7 rfl) <| .s (.iloadN a3_8 rfl) <| .s (.ifT a3_9 (by decide)) <| .s (.iconst (1 : Int32) a3_17 rfl) <| .s (.istoreN (L' := [wI 15, wI 1]) a3_18 rfl) <| .s (.iloadN a3_19 rfl) <| .s (.ldcw a3_20 (wd hw 22 rfl)) ?_
  refine .s (.icmpT a3_23 (by decide)) <| .s (.iloadN a3_34 rfl) <| .s (.sipush (256 : Int32) a3_35 rfl) <| .s (.icmpT a3_38 (by decide)) <| .s (.iloadN a3_49 rfl) <| .s (.bipush (16 : Int32) a3_50 rfl) <| .s (.icmpT a3_52 (by decide)) ?_
  refine .s (.iloadN a3_62 rfl) <| .s (.iconst (4 : Int32) a3_63 rfl) <| .s (.icmpF a3_64 (by decide)) <| .s (.iinc (L' := [wI 15, wI 3]) a3_67 rfl rfl) <| .s (.iloadN a3_70 rfl) <| .s (.iconst (2 : Int32) a3_71 rfl) <| .s (.iushr a3_72) ?_
  show WGo _ (73, [wI 15, wI 3], [.int 3], [(.inr (cn0, [(fk0, .ref 1), (fk1, .ref 2), (fk2, .ref 3), (fk3, .int 0), (fk4, .int 0)])), (wAI [.int 0, .int 0, .int 0, .int 0, .int 0, .int 0, .int 0, .int 0, .int 0, .int 0, .int 0, .int 0, .int 0, .int 0, .int 0, .int 0]), (wAI [.int 0, .int 0, .int 0, .int 0, .int 0, .int 0, .int 0, .int 0, .int 0, .int 0, .int 0, .int 0, .int 0, .int 0, .int 0, .int 0]), (wAI [.int 0, .int 0, .int 0, .int 0, .int 0, .int 0, .int 0, .int 0])], u) _
  refine .s (.istoreN (L' := [wI 3, wI 3]) a3_73 rfl) <| .s (.iloadN a3_74 rfl) <| .s (.iloadN a3_75 rfl) <| .s (.iconst (1 : Int32) a3_76 rfl) <| .s (.iushr a3_77) ?_
  show WGo _ (78, [wI 3, wI 3], [.int 1, .int 3], [(.inr (cn0, [(fk0, .ref 1), (fk1, .ref 2), (fk2, .ref 3), (fk3, .int 0), (fk4, .int 0)])), (wAI [.int 0, .int 0, .int 0, .int 0, .int 0, .int 0, .int 0, .int 0, .int 0, .int 0, .int 0, .int 0, .int 0, .int 0, .int 0, .int 0]), (wAI [.int 0, .int 0, .int 0, .int 0, .int 0, .int 0, .int 0, .int 0, .int 0, .int 0, .int 0, .int 0, .int 0, .int 0, .int 0, .int 0]), (wAI [.int 0, .int 0, .int 0, .int 0, .int 0, .int 0, .int 0, .int 0])], u) _
  refine .s (.iadd a3_78) ?_
  show WGo _ (79, [wI 3, wI 3], [.int 4], [(.inr (cn0, [(fk0, .ref 1), (fk1, .ref 2), (fk2, .ref 3), (fk3, .int 0), (fk4, .int 0)])), (wAI [.int 0, .int 0, .int 0, .int 0, .int 0, .int 0, .int 0, .int 0, .int 0, .int 0, .int 0, .int 0, .int 0, .int 0, .int 0, .int 0]), (wAI [.int 0, .int 0, .int 0, .int 0, .int 0, .int 0, .int 0, .int 0, .int 0, .int 0, .int 0, .int 0, .int 0, .int 0, .int 0, .int 0]), (wAI [.int 0, .int 0, .int 0, .int 0, .int 0, .int 0, .int 0, .int 0])], u) _
  refine .ireturn .int a3_79 rfl (by simp) ?_
  exact ⟨rfl, rfl, rfl⟩
set_option maxHeartbeats 4000000 in
theorem au1_1 {Z : State} {a0 : Array Value} (hw : ∀ d ∈ tables_1, d.before a0 Z = true) (ρ : Nat → Nat) (n0 : Nat) (u : Nat) : WGo (g1 Z ρ n0 1 u) (0, [wR 0], [], [(.inr (cn0, [(fk0, .null), (fk1, .null), (fk2, .null), (fk3, .int 0), (fk4, .int 0)]))], u) (fun v σ' u' => v = none ∧ [(.inr (cn0, [(fk0, .ref 1), (fk1, .ref 2), (fk2, .ref 3), (fk3, .int 28), (fk4, .int 0)])), (wAI [.int 0, .int 0, .int 0, .int 0, .int 0, .int 0, .int 0, .int 0, .int 0, .int 0, .int 0, .int 0, .int 0, .int 0, .int 0, .int 0]), (wAI [.int 0, .int 0, .int 0, .int 0, .int 0, .int 0, .int 0, .int 0, .int 0, .int 0, .int 0, .int 0, .int 0, .int 0, .int 0, .int 0]), (wAI [.int 0, .int 0, .int 0, .int 0, .int 0, .int 0, .int 0, .int 0])] = σ' ∧ (((u + 16) + 16) + 8) = u') := by
  refine .s (.aloadN a1_0 rfl rfl) <| .s (.initO a1_1 (wd hw 8 rfl) (wd hw 9 rfl) (wd hw 10 rfl) rfl (Nat.le_of_ble_eq_true rfl) (Nat.le_of_ble_eq_true rfl)) <| .s (.aloadN a1_4 rfl rfl) <| .s (.bipush (16 : Int32) a1_5 rfl) <| .s (.newP (k := 1) (16 : Int32) 16 a1_7 (wd hw 11 rfl) (by decide) rfl (by decide) rfl (by decide)) ?_
  show WGo _ (9, [wR 0], [.ref 1, .ref 0], [(.inr (cn0, [(fk0, .null), (fk1, .null), (fk2, .null), (fk3, .int 0), (fk4, .int 0)])), (wAI [.int 0, .int 0, .int 0, .int 0, .int 0, .int 0, .int 0, .int 0, .int 0, .int 0, .int 0, .int 0, .int 0, .int 0, .int 0, .int 0])], (u + 16)) _
  refine .s (.putF (ty := (.array .int)) 0 (.ref 1) a1_9 (wd hw 12 rfl) rfl rfl (Or.inl (wd hw 13 rfl)) (wd hw 3 rfl) (by decide) rfl rfl) ?_
  show WGo _ (12, [wR 0], [], [(.inr (cn0, [(fk0, .ref 1), (fk1, .null), (fk2, .null), (fk3, .int 0), (fk4, .int 0)])), (wAI [.int 0, .int 0, .int 0, .int 0, .int 0, .int 0, .int 0, .int 0, .int 0, .int 0, .int 0, .int 0, .int 0, .int 0, .int 0, .int 0])], (u + 16)) _
  refine .s (.aloadN a1_12 rfl rfl) <| .s (.bipush (16 : Int32) a1_13 rfl) <| .s (.newP (k := 2) (16 : Int32) 16 a1_15 (wd hw 11 rfl) (by decide) rfl (by decide) rfl (by decide)) ?_
  show WGo _ (17, [wR 0], [.ref 2, .ref 0], [(.inr (cn0, [(fk0, .ref 1), (fk1, .null), (fk2, .null), (fk3, .int 0), (fk4, .int 0)])), (wAI [.int 0, .int 0, .int 0, .int 0, .int 0, .int 0, .int 0, .int 0, .int 0, .int 0, .int 0, .int 0, .int 0, .int 0, .int 0, .int 0]), (wAI [.int 0, .int 0, .int 0, .int 0, .int 0, .int 0, .int 0, .int 0, .int 0, .int 0, .int 0, .int 0, .int 0, .int 0, .int 0, .int 0])], ((u + 16) + 16)) _
  refine .s (.putF (ty := (.array .int)) 1 (.ref 2) a1_17 (wd hw 14 rfl) rfl rfl (Or.inl (wd hw 15 rfl)) (wd hw 3 rfl) (by decide) rfl rfl) ?_
  show WGo _ (20, [wR 0], [], [(.inr (cn0, [(fk0, .ref 1), (fk1, .ref 2), (fk2, .null), (fk3, .int 0), (fk4, .int 0)])), (wAI [.int 0, .int 0, .int 0, .int 0, .int 0, .int 0, .int 0, .int 0, .int 0, .int 0, .int 0, .int 0, .int 0, .int 0, .int 0, .int 0]), (wAI [.int 0, .int 0, .int 0, .int 0, .int 0, .int 0, .int 0, .int 0, .int 0, .int 0, .int 0, .int 0, .int 0, .int 0, .int 0, .int 0])], ((u + 16) + 16)) _
  refine .s (.aloadN a1_20 rfl rfl) <| .s (.bipush (8 : Int32) a1_21 rfl) <| .s (.newP (k := 3) (8 : Int32) 8 a1_23 (wd hw 11 rfl) (by decide) rfl (by decide) rfl (by decide)) ?_
  show WGo _ (25, [wR 0], [.ref 3, .ref 0], [(.inr (cn0, [(fk0, .ref 1), (fk1, .ref 2), (fk2, .null), (fk3, .int 0), (fk4, .int 0)])), (wAI [.int 0, .int 0, .int 0, .int 0, .int 0, .int 0, .int 0, .int 0, .int 0, .int 0, .int 0, .int 0, .int 0, .int 0, .int 0, .int 0]), (wAI [.int 0, .int 0, .int 0, .int 0, .int 0, .int 0, .int 0, .int 0, .int 0, .int 0, .int 0, .int 0, .int 0, .int 0, .int 0, .int 0]), (wAI [.int 0, .int 0, .int 0, .int 0, .int 0, .int 0, .int 0, .int 0])], (((u + 16) + 16) + 8)) _
  refine .s (.putF (ty := (.array .int)) 2 (.ref 3) a1_25 (wd hw 16 rfl) rfl rfl (Or.inl (wd hw 17 rfl)) (wd hw 3 rfl) (by decide) rfl rfl) ?_
  show WGo _ (28, [wR 0], [], [(.inr (cn0, [(fk0, .ref 1), (fk1, .ref 2), (fk2, .ref 3), (fk3, .int 0), (fk4, .int 0)])), (wAI [.int 0, .int 0, .int 0, .int 0, .int 0, .int 0, .int 0, .int 0, .int 0, .int 0, .int 0, .int 0, .int 0, .int 0, .int 0, .int 0]), (wAI [.int 0, .int 0, .int 0, .int 0, .int 0, .int 0, .int 0, .int 0, .int 0, .int 0, .int 0, .int 0, .int 0, .int 0, .int 0, .int 0]), (wAI [.int 0, .int 0, .int 0, .int 0, .int 0, .int 0, .int 0, .int 0])], (((u + 16) + 16) + 8)) _
  refine .s (.aloadN a1_28 rfl rfl) <| .s (.bipush (32 : Int32) a1_29 rfl) <| .s (.bipush (16 : Int32) a1_31 rfl) ?_
  refine .callS a1_33 (ok3 hw _ _ _ _) (wd hw 18 rfl) (wd hw 19 rfl) (argsL := [.int 16]) (S := [.int 32, .ref 0]) (au3_2 hw _ _ _) rfl rfl rfl rfl rfl rfl (Nat.le_of_ble_eq_true rfl) (Nat.le_of_ble_eq_true rfl) ?_
  rintro _ _ _ ⟨rfl, rfl, rfl⟩
  show WGo _ (36, [wR 0], [.int 4, .int 32, .ref 0], [(.inr (cn0, [(fk0, .ref 1), (fk1, .ref 2), (fk2, .ref 3), (fk3, .int 0), (fk4, .int 0)])), (wAI [.int 0, .int 0, .int 0, .int 0, .int 0, .int 0, .int 0, .int 0, .int 0, .int 0, .int 0, .int 0, .int 0, .int 0, .int 0, .int 0]), (wAI [.int 0, .int 0, .int 0, .int 0, .int 0, .int 0, .int 0, .int 0, .int 0, .int 0, .int 0, .int 0, .int 0, .int 0, .int 0, .int 0]), (wAI [.int 0, .int 0, .int 0, .int 0, .int 0, .int 0, .int 0, .int 0])], (((u + 16) + 16) + 8)) _
  refine .s (.isub a1_36) ?_
  show WGo _ (37, [wR 0], [.int 28, .ref 0], [(.inr (cn0, [(fk0, .ref 1), (fk1, .ref 2), (fk2, .ref 3), (fk3, .int 0), (fk4, .int 0)])), (wAI [.int 0, .int 0, .int 0, .int 0, .int 0, .int 0, .int 0, .int 0, .int 0, .int 0, .int 0, .int 0, .int 0, .int 0, .int 0, .int 0]), (wAI [.int 0, .int 0, .int 0, .int 0, .int 0, .int 0, .int 0, .int 0, .int 0, .int 0, .int 0, .int 0, .int 0, .int 0, .int 0, .int 0]), (wAI [.int 0, .int 0, .int 0, .int 0, .int 0, .int 0, .int 0, .int 0])], (((u + 16) + 16) + 8)) _
  refine .s (.putF (ty := .int) 3 (.int 28) a1_37 (wd hw 23 rfl) rfl rfl (Or.inl (wd hw 24 rfl)) (wd hw 3 rfl) (by decide) rfl rfl) ?_
  show WGo _ (40, [wR 0], [], [(.inr (cn0, [(fk0, .ref 1), (fk1, .ref 2), (fk2, .ref 3), (fk3, .int 28), (fk4, .int 0)])), (wAI [.int 0, .int 0, .int 0, .int 0, .int 0, .int 0, .int 0, .int 0, .int 0, .int 0, .int 0, .int 0, .int 0, .int 0, .int 0, .int 0]), (wAI [.int 0, .int 0, .int 0, .int 0, .int 0, .int 0, .int 0, .int 0, .int 0, .int 0, .int 0, .int 0, .int 0, .int 0, .int 0, .int 0]), (wAI [.int 0, .int 0, .int 0, .int 0, .int 0, .int 0, .int 0, .int 0])], (((u + 16) + 16) + 8)) _
  refine .vreturn a1_40 rfl ?_
  exact ⟨rfl, rfl, rfl⟩
set_option maxHeartbeats 40000000 in
theorem seg0 (Z : State) (a0 : Array Value) (hw : ∀ d ∈ tables_1, d.before a0 Z = true) (n0 : Nat) (a b c d e f : Int32) (s j k : Int32) (ho : s.toInt % 2 = 1) (hj : j = 0 ∨ j = 1 ∨ j = 2 ∨ j = 3 ∨ j = 4 ∨ j = 5 ∨ j = 6 ∨ j = 7 ∨ j = 8 ∨ j = 9) (hk : k = 0 ∨ k = 1 ∨ k = 2 ∨ k = 3 ∨ k = 4 ∨ k = 5 ∨ k = 6 ∨ k = 7 ∨ k = 8 ∨ k = 9) : WGo (g0 Z (fun k => n0 + k) n0 0 0) (35, [wI a, wI b, wI c, wI d, wI e, wI f, wI s, wI 0, wI j, wI k, wU, wU, wU], [], [], 0) (fun v σ' u' => v = some (.int 1) ∧ σ'.length ≤ 24 ∧ u' ≤ 320) := by
  refine .s (.newO (k := 0) [(fk0, .null), (fk1, .null), (fk2, .null), (fk3, .int 0), (fk4, .int 0)] a0_35 (wd hw 2 rfl) (wd hw 3 rfl) (wd hw 4 rfl) ⟨⟨Or.inl (wd hw 13 rfl), (.array .int), by decide, rfl⟩, ⟨Or.inl (wd hw 15 rfl), (.array .int), by decide, rfl⟩, ⟨Or.inl (wd hw 17 rfl), (.array .int), by decide, rfl⟩, ⟨Or.inl (wd hw 24 rfl), .int, by decide, rfl⟩, ⟨Or.inl (wd hw 51 rfl), .int, by decide, rfl⟩, trivial⟩ (by decide) rfl (by decide)) ?_
  show WGo _ (38, [wI a, wI b, wI c, wI d, wI e, wI f, wI s, wI 0, wI j, wI k, wU, wU, wU], [.ref 0], [(.inr (cn0, [(fk0, .null), (fk1, .null), (fk2, .null), (fk3, .int 0), (fk4, .int 0)]))], 5) _
  refine .s (.dup a0_38 rfl) ?_
  refine .callI (k := 0) a0_39 (ok1 hw _ _ _ _) rfl rfl (wd hw 5 rfl) (wd hw 6 rfl) (by decide) (argsL := []) (S := [.ref 0]) (au1_1 hw _ _ _) rfl rfl rfl rfl rfl rfl (Nat.le_of_ble_eq_true rfl) (Nat.le_of_ble_eq_true rfl) ?_
  rintro _ _ _ ⟨rfl, rfl, rfl⟩; have hR1 : WRep 16 (whash 28) (List.replicate 16 0) (List.replicate 16 0) (List.replicate 8 0) [] := WRep.nil rfl rfl
  show WGo _ (42, [wI a, wI b, wI c, wI d, wI e, wI f, wI s, wI 0, wI j, wI k, wU, wU, wU], [.ref 0], [(.inr (cn0, [(fk0, .ref 1), (fk1, .ref 2), (fk2, .ref 3), (fk3, .int 28), (fk4, .int 0)])), (wAI (ia (List.replicate 16 0))), (wAI (ia (List.replicate 16 0))), (wAI (ia (List.replicate 8 0)))], 45) _
  refine .s (.astore (L' := [wI a, wI b, wI c, wI d, wI e, wI f, wI s, wI 0, wI j, wI k, wR 0, wU, wU]) a0_42 rfl rfl) <| .s (.iload a0_44 rfl) <| .s (.ifT a0_46 (by decide)) <| .s (.iload a0_67 rfl) <| .s (.iconst (1 : Int32) a0_69 rfl) <| .s (.icmpT a0_70 (by decide)) <| .s (.iload a0_91 rfl) ?_
  refine .s (.iconst (2 : Int32) a0_93 rfl) <| .s (.icmpT a0_94 (by decide)) <| .s (.iload a0_115 rfl) <| .s (.iconst (3 : Int32) a0_117 rfl) <| .s (.icmpT a0_118 (by decide)) <| .s (.iload a0_139 rfl) <| .s (.iconst (4 : Int32) a0_141 rfl) ?_
  refine .s (.icmpT a0_142 (by decide)) <| .s (.iload a0_163 rfl) <| .s (.iconst (5 : Int32) a0_165 rfl) <| .s (.icmpT a0_166 (by decide)) <| .s (.iload a0_187 rfl) <| .s (.bipush (6 : Int32) a0_189 rfl) <| .s (.icmpT a0_191 (by decide)) ?_
  refine .s (.iload a0_214 rfl) <| .s (.bipush (7 : Int32) a0_216 rfl) <| .s (.icmpT a0_218 (by decide)) <| .s (.iload a0_241 rfl) <| .s (.bipush (8 : Int32) a0_243 rfl) <| .s (.icmpT a0_245 (by decide)) <| .s (.aload a0_268 rfl rfl) ?_
  refine .s (.iloadN a0_270 rfl) <| .s (.iload a0_271 rfl) <| .s (.iload a0_273 rfl) ?_
  refine .callS a0_275 (ok4 hw _ _ _ _) (wd hw 25 rfl) (wd hw 26 rfl) (argsL := [(.int a), (.int s), (.int j)]) (S := [.ref 0]) (c4 hw _ _ a s j _ _) rfl rfl rfl rfl rfl rfl (Nat.le_of_ble_eq_true rfl) (Nat.le_of_ble_eq_true rfl) ?_
  rintro _ _ _ ⟨rfl, rfl, rfl⟩
  show WGo _ (278, [wI a, wI b, wI c, wI d, wI e, wI f, wI s, wI 0, wI j, wI k, wR 0, wU, wU], [(.int (plv a s j)), .ref 0], [(.inr (cn0, [(fk0, .ref 1), (fk1, .ref 2), (fk2, .ref 3), (fk3, .int 28), (fk4, .int 0)])), (wAI (ia (List.replicate 16 0))), (wAI (ia (List.replicate 16 0))), (wAI (ia (List.replicate 8 0)))], 45) _
  refine .callV (k := 0) (z := (⟨"com/example/tributary/tributary/facts/PlaceMap", "get", "(I)I"⟩ : MethodName)) a0_278 (ok5 hw _ _ _ _) ⟨rfl, by decide⟩ (wd hw 29 rfl) (wd hw 30 rfl) (fun s hZ => notFace_of_selects (args := #[]) (mvT hZ (wd hw 32 rfl))) (wd hw 32 rfl) (wd hw 31 rfl) rfl (argsL := [(.int (plv a s j))]) (S := []) (cgetA hw _ _ (List.replicate 16 0) (List.replicate 16 0) (List.replicate 8 0) [] (plv a s j) 0 hR1 _) rfl rfl rfl rfl rfl rfl (Nat.le_of_ble_eq_true rfl) (Nat.le_of_ble_eq_true rfl) ?_
  rintro _ _ _ ⟨rfl, rfl, rfl⟩; rw [look0 a s c d j ho hj]
  show WGo _ (281, [wI a, wI b, wI c, wI d, wI e, wI f, wI s, wI 0, wI j, wI k, wR 0, wU, wU], [(.int (exv c d j (0 : Int32)))], [(.inr (cn0, [(fk0, .ref 1), (fk1, .ref 2), (fk2, .ref 3), (fk3, .int 28), (fk4, .int 0)])), (wAI (ia (List.replicate 16 0))), (wAI (ia (List.replicate 16 0))), (wAI (ia (List.replicate 8 0)))], 45) _
  refine .s (.istore (L' := [wI a, wI b, wI c, wI d, wI e, wI f, wI s, wI 0, wI j, wI k, wR 0, wI (exv c d j (0 : Int32)), wU]) a0_281 rfl) <| .s (.aload a0_283 rfl rfl) <| .s (.iloadN a0_285 rfl) <| .s (.iload a0_286 rfl) <| .s (.iload a0_288 rfl) ?_
  refine .callS a0_290 (ok4 hw _ _ _ _) (wd hw 25 rfl) (wd hw 26 rfl) (argsL := [(.int a), (.int s), (.int k)]) (S := [.ref 0]) (c4 hw _ _ a s k _ _) rfl rfl rfl rfl rfl rfl (Nat.le_of_ble_eq_true rfl) (Nat.le_of_ble_eq_true rfl) ?_
  rintro _ _ _ ⟨rfl, rfl, rfl⟩
  show WGo _ (293, [wI a, wI b, wI c, wI d, wI e, wI f, wI s, wI 0, wI j, wI k, wR 0, wI (exv c d j (0 : Int32)), wU], [(.int (plv a s k)), .ref 0], [(.inr (cn0, [(fk0, .ref 1), (fk1, .ref 2), (fk2, .ref 3), (fk3, .int 28), (fk4, .int 0)])), (wAI (ia (List.replicate 16 0))), (wAI (ia (List.replicate 16 0))), (wAI (ia (List.replicate 8 0)))], 45) _
  refine .callV (k := 0) (z := (⟨"com/example/tributary/tributary/facts/PlaceMap", "get", "(I)I"⟩ : MethodName)) a0_293 (ok5 hw _ _ _ _) ⟨rfl, by decide⟩ (wd hw 29 rfl) (wd hw 30 rfl) (fun s hZ => notFace_of_selects (args := #[]) (mvT hZ (wd hw 32 rfl))) (wd hw 32 rfl) (wd hw 31 rfl) rfl (argsL := [(.int (plv a s k))]) (S := []) (cgetA hw _ _ (List.replicate 16 0) (List.replicate 16 0) (List.replicate 8 0) [] (plv a s k) 0 hR1 _) rfl rfl rfl rfl rfl rfl (Nat.le_of_ble_eq_true rfl) (Nat.le_of_ble_eq_true rfl) ?_
  rintro _ _ _ ⟨rfl, rfl, rfl⟩; rw [look0 a s c d k ho hk]
  show WGo _ (296, [wI a, wI b, wI c, wI d, wI e, wI f, wI s, wI 0, wI j, wI k, wR 0, wI (exv c d j (0 : Int32)), wU], [(.int (exv c d k (0 : Int32)))], [(.inr (cn0, [(fk0, .ref 1), (fk1, .ref 2), (fk2, .ref 3), (fk3, .int 28), (fk4, .int 0)])), (wAI (ia (List.replicate 16 0))), (wAI (ia (List.replicate 16 0))), (wAI (ia (List.replicate 8 0)))], 45) _
  refine .s (.istore (L' := [wI a, wI b, wI c, wI d, wI e, wI f, wI s, wI 0, wI j, wI k, wR 0, wI (exv c d j (0 : Int32)), wI (exv c d k (0 : Int32))]) a0_296 rfl) <| .s (.iload a0_298 rfl) <| .s (.iloadN a0_300 rfl) <| .s (.iloadN a0_301 rfl) <| .s (.iload a0_302 rfl) <| .s (.iload a0_304 rfl) ?_
  refine .callS a0_306 (ok7 hw _ _ _ _) (wd hw 39 rfl) (wd hw 40 rfl) (argsL := [(.int c), (.int d), (.int j), .int 0]) (S := [(.int (exv c d j (0 : Int32)))]) (c7 hw _ _ c d j (0 : Int32) _ _) rfl rfl rfl rfl rfl rfl (Nat.le_of_ble_eq_true rfl) (Nat.le_of_ble_eq_true rfl) ?_
  rintro _ _ _ ⟨rfl, rfl, rfl⟩
  show WGo _ (309, [wI a, wI b, wI c, wI d, wI e, wI f, wI s, wI 0, wI j, wI k, wR 0, wI (exv c d j (0 : Int32)), wI (exv c d k (0 : Int32))], [(.int (exv c d j (0 : Int32))), (.int (exv c d j (0 : Int32)))], [(.inr (cn0, [(fk0, .ref 1), (fk1, .ref 2), (fk2, .ref 3), (fk3, .int 28), (fk4, .int 0)])), (wAI (ia (List.replicate 16 0))), (wAI (ia (List.replicate 16 0))), (wAI (ia (List.replicate 8 0)))], 45) _
  refine .s (.icmpF a0_309 (teq rfl).2) <| .s (.iload a0_312 rfl) <| .s (.iloadN a0_314 rfl) <| .s (.iloadN a0_315 rfl) <| .s (.iload a0_316 rfl) <| .s (.iload a0_318 rfl) ?_
  refine .callS a0_320 (ok7 hw _ _ _ _) (wd hw 39 rfl) (wd hw 40 rfl) (argsL := [(.int c), (.int d), (.int k), .int 0]) (S := [(.int (exv c d k (0 : Int32)))]) (c7 hw _ _ c d k (0 : Int32) _ _) rfl rfl rfl rfl rfl rfl (Nat.le_of_ble_eq_true rfl) (Nat.le_of_ble_eq_true rfl) ?_
  rintro _ _ _ ⟨rfl, rfl, rfl⟩
  show WGo _ (323, [wI a, wI b, wI c, wI d, wI e, wI f, wI s, wI 0, wI j, wI k, wR 0, wI (exv c d j (0 : Int32)), wI (exv c d k (0 : Int32))], [(.int (exv c d k (0 : Int32))), (.int (exv c d k (0 : Int32)))], [(.inr (cn0, [(fk0, .ref 1), (fk1, .ref 2), (fk2, .ref 3), (fk3, .int 28), (fk4, .int 0)])), (wAI (ia (List.replicate 16 0))), (wAI (ia (List.replicate 16 0))), (wAI (ia (List.replicate 8 0)))], 45) _
  refine .s (.icmpF a0_323 (teq rfl).2) <| .s (.iconst (1 : Int32) a0_326 rfl) <| .s (.goto a0_327) ?_
  refine .ireturn .boolean a0_331 rfl (by simp) ?_
  exact ⟨rfl, Nat.le_of_ble_eq_true rfl, Nat.le_of_ble_eq_true rfl⟩
set_option maxHeartbeats 40000000 in
theorem seg1 (Z : State) (a0 : Array Value) (hw : ∀ d ∈ tables_1, d.before a0 Z = true) (n0 : Nat) (a b c d e f : Int32) (s j k : Int32) (ho : s.toInt % 2 = 1) (hj : j = 0 ∨ j = 1 ∨ j = 2 ∨ j = 3 ∨ j = 4 ∨ j = 5 ∨ j = 6 ∨ j = 7 ∨ j = 8 ∨ j = 9) (hk : k = 0 ∨ k = 1 ∨ k = 2 ∨ k = 3 ∨ k = 4 ∨ k = 5 ∨ k = 6 ∨ k = 7 ∨ k = 8 ∨ k = 9) : WGo (g0 Z (fun k => n0 + k) n0 0 0) (35, [wI a, wI b, wI c, wI d, wI e, wI f, wI s, wI 1, wI j, wI k, wU, wU, wU], [], [], 0) (fun v σ' u' => v = some (.int 1) ∧ σ'.length ≤ 24 ∧ u' ≤ 320) := by
  refine .s (.newO (k := 0) [(fk0, .null), (fk1, .null), (fk2, .null), (fk3, .int 0), (fk4, .int 0)] a0_35 (wd hw 2 rfl) (wd hw 3 rfl) (wd hw 4 rfl) ⟨⟨Or.inl (wd hw 13 rfl), (.array .int), by decide, rfl⟩, ⟨Or.inl (wd hw 15 rfl), (.array .int), by decide, rfl⟩, ⟨Or.inl (wd hw 17 rfl), (.array .int), by decide, rfl⟩, ⟨Or.inl (wd hw 24 rfl), .int, by decide, rfl⟩, ⟨Or.inl (wd hw 51 rfl), .int, by decide, rfl⟩, trivial⟩ (by decide) rfl (by decide)) ?_
  show WGo _ (38, [wI a, wI b, wI c, wI d, wI e, wI f, wI s, wI 1, wI j, wI k, wU, wU, wU], [.ref 0], [(.inr (cn0, [(fk0, .null), (fk1, .null), (fk2, .null), (fk3, .int 0), (fk4, .int 0)]))], 5) _
  refine .s (.dup a0_38 rfl) ?_
  refine .callI (k := 0) a0_39 (ok1 hw _ _ _ _) rfl rfl (wd hw 5 rfl) (wd hw 6 rfl) (by decide) (argsL := []) (S := [.ref 0]) (au1_1 hw _ _ _) rfl rfl rfl rfl rfl rfl (Nat.le_of_ble_eq_true rfl) (Nat.le_of_ble_eq_true rfl) ?_
  rintro _ _ _ ⟨rfl, rfl, rfl⟩; have hR2 : WRep 16 (whash 28) (List.replicate 16 0) (List.replicate 16 0) (List.replicate 8 0) [] := WRep.nil rfl rfl
  show WGo _ (42, [wI a, wI b, wI c, wI d, wI e, wI f, wI s, wI 1, wI j, wI k, wU, wU, wU], [.ref 0], [(.inr (cn0, [(fk0, .ref 1), (fk1, .ref 2), (fk2, .ref 3), (fk3, .int 28), (fk4, .int 0)])), (wAI (ia (List.replicate 16 0))), (wAI (ia (List.replicate 16 0))), (wAI (ia (List.replicate 8 0)))], 45) _
  refine .s (.astore (L' := [wI a, wI b, wI c, wI d, wI e, wI f, wI s, wI 1, wI j, wI k, wR 0, wU, wU]) a0_42 rfl rfl) <| .s (.iload a0_44 rfl) <| .s (.ifF a0_46 (by decide)) <| .s (.aload a0_49 rfl rfl) <| .s (.iloadN a0_51 rfl) <| .s (.iload a0_52 rfl) <| .s (.iconst (0 : Int32) a0_54 rfl) ?_
  refine .callS a0_55 (ok4 hw _ _ _ _) (wd hw 25 rfl) (wd hw 26 rfl) (argsL := [(.int a), (.int s), .int 0]) (S := [.ref 0]) (c4 hw _ _ a s (0 : Int32) _ _) rfl rfl rfl rfl rfl rfl (Nat.le_of_ble_eq_true rfl) (Nat.le_of_ble_eq_true rfl) ?_
  rintro _ _ _ ⟨rfl, rfl, rfl⟩
  show WGo _ (58, [wI a, wI b, wI c, wI d, wI e, wI f, wI s, wI 1, wI j, wI k, wR 0, wU, wU], [(.int (plv a s (0 : Int32))), .ref 0], [(.inr (cn0, [(fk0, .ref 1), (fk1, .ref 2), (fk2, .ref 3), (fk3, .int 28), (fk4, .int 0)])), (wAI (ia (List.replicate 16 0))), (wAI (ia (List.replicate 16 0))), (wAI (ia (List.replicate 8 0)))], 45) _
  refine .s (.iloadN a0_58 rfl) <| .s (.iloadN a0_59 rfl) <| .s (.iconst (0 : Int32) a0_60 rfl) ?_
  refine .callS a0_61 (ok8 hw _ _ _ _) (wd hw 42 rfl) (wd hw 43 rfl) (argsL := [(.int c), (.int d), .int 0]) (S := [(.int (plv a s (0 : Int32))), .ref 0]) (c8 hw _ _ c d (0 : Int32) _ _) rfl rfl rfl rfl rfl rfl (Nat.le_of_ble_eq_true rfl) (Nat.le_of_ble_eq_true rfl) ?_
  rintro _ _ _ ⟨rfl, rfl, rfl⟩
  show WGo _ (64, [wI a, wI b, wI c, wI d, wI e, wI f, wI s, wI 1, wI j, wI k, wR 0, wU, wU], [(.int (nuv c d (0 : Int32))), (.int (plv a s (0 : Int32))), .ref 0], [(.inr (cn0, [(fk0, .ref 1), (fk1, .ref 2), (fk2, .ref 3), (fk3, .int 28), (fk4, .int 0)])), (wAI (ia (List.replicate 16 0))), (wAI (ia (List.replicate 16 0))), (wAI (ia (List.replicate 8 0)))], 45) _
  refine .callV (k := 0) (z := (⟨"com/example/tributary/tributary/facts/PlaceMap", "put", "(II)V"⟩ : MethodName)) a0_64 (ok9 hw _ _ _ _) ⟨rfl, by decide⟩ (wd hw 45 rfl) (wd hw 46 rfl) (fun s hZ => notFace_of_selects (args := #[]) (mvT hZ (wd hw 48 rfl))) (wd hw 48 rfl) (wd hw 47 rfl) rfl (argsL := [(.int (plv a s (0 : Int32))), (.int (nuv c d (0 : Int32)))]) (S := []) (cputA_0 hw _ _ (List.replicate 16 0) (List.replicate 16 0) (List.replicate 8 0) [] (plv a s (0 : Int32)) (nuv c d (0 : Int32)) hR2 rfl (plv_nz _ _ _) new_nil _) rfl rfl rfl rfl rfl rfl (Nat.le_of_ble_eq_true rfl) (Nat.le_of_ble_eq_true rfl) ?_
  rintro _ _ _ ⟨ks3, ns3, fl3, s_3, hR3', rfl, rfl, rfl⟩; have hR3 : WRep 16 (whash 28) ks3 ns3 fl3 [(s_3, (plv a s (0 : Int32)), (nuv c d (0 : Int32)))] := hR3'
  show WGo _ (67, [wI a, wI b, wI c, wI d, wI e, wI f, wI s, wI 1, wI j, wI k, wR 0, wU, wU], [], [(.inr (cn0, [(fk0, .ref 1), (fk1, .ref 2), (fk2, .ref 3), (fk3, .int 28), (fk4, .int 1)])), (wAI (ia ks3)), (wAI (ia ns3)), (wAI (ia fl3))], 45) _
  refine .s (.iload a0_67 rfl) <| .s (.iconst (1 : Int32) a0_69 rfl) <| .s (.icmpT a0_70 (by decide)) <| .s (.iload a0_91 rfl) <| .s (.iconst (2 : Int32) a0_93 rfl) <| .s (.icmpT a0_94 (by decide)) <| .s (.iload a0_115 rfl) ?_
  refine .s (.iconst (3 : Int32) a0_117 rfl) <| .s (.icmpT a0_118 (by decide)) <| .s (.iload a0_139 rfl) <| .s (.iconst (4 : Int32) a0_141 rfl) <| .s (.icmpT a0_142 (by decide)) <| .s (.iload a0_163 rfl) <| .s (.iconst (5 : Int32) a0_165 rfl) ?_
  refine .s (.icmpT a0_166 (by decide)) <| .s (.iload a0_187 rfl) <| .s (.bipush (6 : Int32) a0_189 rfl) <| .s (.icmpT a0_191 (by decide)) <| .s (.iload a0_214 rfl) <| .s (.bipush (7 : Int32) a0_216 rfl) <| .s (.icmpT a0_218 (by decide)) ?_
  refine .s (.iload a0_241 rfl) <| .s (.bipush (8 : Int32) a0_243 rfl) <| .s (.icmpT a0_245 (by decide)) <| .s (.aload a0_268 rfl rfl) <| .s (.iloadN a0_270 rfl) <| .s (.iload a0_271 rfl) <| .s (.iload a0_273 rfl) ?_
  refine .callS a0_275 (ok4 hw _ _ _ _) (wd hw 25 rfl) (wd hw 26 rfl) (argsL := [(.int a), (.int s), (.int j)]) (S := [.ref 0]) (c4 hw _ _ a s j _ _) rfl rfl rfl rfl rfl rfl (Nat.le_of_ble_eq_true rfl) (Nat.le_of_ble_eq_true rfl) ?_
  rintro _ _ _ ⟨rfl, rfl, rfl⟩
  show WGo _ (278, [wI a, wI b, wI c, wI d, wI e, wI f, wI s, wI 1, wI j, wI k, wR 0, wU, wU], [(.int (plv a s j)), .ref 0], [(.inr (cn0, [(fk0, .ref 1), (fk1, .ref 2), (fk2, .ref 3), (fk3, .int 28), (fk4, .int 1)])), (wAI (ia ks3)), (wAI (ia ns3)), (wAI (ia fl3))], 45) _
  refine .callV (k := 0) (z := (⟨"com/example/tributary/tributary/facts/PlaceMap", "get", "(I)I"⟩ : MethodName)) a0_278 (ok5 hw _ _ _ _) ⟨rfl, by decide⟩ (wd hw 29 rfl) (wd hw 30 rfl) (fun s hZ => notFace_of_selects (args := #[]) (mvT hZ (wd hw 32 rfl))) (wd hw 32 rfl) (wd hw 31 rfl) rfl (argsL := [(.int (plv a s j))]) (S := []) (cgetA hw _ _ ks3 ns3 fl3 [(s_3, (plv a s (0 : Int32)), (nuv c d (0 : Int32)))] (plv a s j) 1 hR3 _) rfl rfl rfl rfl rfl rfl (Nat.le_of_ble_eq_true rfl) (Nat.le_of_ble_eq_true rfl) ?_
  rintro _ _ _ ⟨rfl, rfl, rfl⟩; rw [look1 a s c d j s_3 ho hj]
  show WGo _ (281, [wI a, wI b, wI c, wI d, wI e, wI f, wI s, wI 1, wI j, wI k, wR 0, wU, wU], [(.int (exv c d j (1 : Int32)))], [(.inr (cn0, [(fk0, .ref 1), (fk1, .ref 2), (fk2, .ref 3), (fk3, .int 28), (fk4, .int 1)])), (wAI (ia ks3)), (wAI (ia ns3)), (wAI (ia fl3))], 45) _
  refine .s (.istore (L' := [wI a, wI b, wI c, wI d, wI e, wI f, wI s, wI 1, wI j, wI k, wR 0, wI (exv c d j (1 : Int32)), wU]) a0_281 rfl) <| .s (.aload a0_283 rfl rfl) <| .s (.iloadN a0_285 rfl) <| .s (.iload a0_286 rfl) <| .s (.iload a0_288 rfl) ?_
  refine .callS a0_290 (ok4 hw _ _ _ _) (wd hw 25 rfl) (wd hw 26 rfl) (argsL := [(.int a), (.int s), (.int k)]) (S := [.ref 0]) (c4 hw _ _ a s k _ _) rfl rfl rfl rfl rfl rfl (Nat.le_of_ble_eq_true rfl) (Nat.le_of_ble_eq_true rfl) ?_
  rintro _ _ _ ⟨rfl, rfl, rfl⟩
  show WGo _ (293, [wI a, wI b, wI c, wI d, wI e, wI f, wI s, wI 1, wI j, wI k, wR 0, wI (exv c d j (1 : Int32)), wU], [(.int (plv a s k)), .ref 0], [(.inr (cn0, [(fk0, .ref 1), (fk1, .ref 2), (fk2, .ref 3), (fk3, .int 28), (fk4, .int 1)])), (wAI (ia ks3)), (wAI (ia ns3)), (wAI (ia fl3))], 45) _
  refine .callV (k := 0) (z := (⟨"com/example/tributary/tributary/facts/PlaceMap", "get", "(I)I"⟩ : MethodName)) a0_293 (ok5 hw _ _ _ _) ⟨rfl, by decide⟩ (wd hw 29 rfl) (wd hw 30 rfl) (fun s hZ => notFace_of_selects (args := #[]) (mvT hZ (wd hw 32 rfl))) (wd hw 32 rfl) (wd hw 31 rfl) rfl (argsL := [(.int (plv a s k))]) (S := []) (cgetA hw _ _ ks3 ns3 fl3 [(s_3, (plv a s (0 : Int32)), (nuv c d (0 : Int32)))] (plv a s k) 1 hR3 _) rfl rfl rfl rfl rfl rfl (Nat.le_of_ble_eq_true rfl) (Nat.le_of_ble_eq_true rfl) ?_
  rintro _ _ _ ⟨rfl, rfl, rfl⟩; rw [look1 a s c d k s_3 ho hk]
  show WGo _ (296, [wI a, wI b, wI c, wI d, wI e, wI f, wI s, wI 1, wI j, wI k, wR 0, wI (exv c d j (1 : Int32)), wU], [(.int (exv c d k (1 : Int32)))], [(.inr (cn0, [(fk0, .ref 1), (fk1, .ref 2), (fk2, .ref 3), (fk3, .int 28), (fk4, .int 1)])), (wAI (ia ks3)), (wAI (ia ns3)), (wAI (ia fl3))], 45) _
  refine .s (.istore (L' := [wI a, wI b, wI c, wI d, wI e, wI f, wI s, wI 1, wI j, wI k, wR 0, wI (exv c d j (1 : Int32)), wI (exv c d k (1 : Int32))]) a0_296 rfl) <| .s (.iload a0_298 rfl) <| .s (.iloadN a0_300 rfl) <| .s (.iloadN a0_301 rfl) <| .s (.iload a0_302 rfl) <| .s (.iload a0_304 rfl) ?_
  refine .callS a0_306 (ok7 hw _ _ _ _) (wd hw 39 rfl) (wd hw 40 rfl) (argsL := [(.int c), (.int d), (.int j), .int 1]) (S := [(.int (exv c d j (1 : Int32)))]) (c7 hw _ _ c d j (1 : Int32) _ _) rfl rfl rfl rfl rfl rfl (Nat.le_of_ble_eq_true rfl) (Nat.le_of_ble_eq_true rfl) ?_
  rintro _ _ _ ⟨rfl, rfl, rfl⟩
  show WGo _ (309, [wI a, wI b, wI c, wI d, wI e, wI f, wI s, wI 1, wI j, wI k, wR 0, wI (exv c d j (1 : Int32)), wI (exv c d k (1 : Int32))], [(.int (exv c d j (1 : Int32))), (.int (exv c d j (1 : Int32)))], [(.inr (cn0, [(fk0, .ref 1), (fk1, .ref 2), (fk2, .ref 3), (fk3, .int 28), (fk4, .int 1)])), (wAI (ia ks3)), (wAI (ia ns3)), (wAI (ia fl3))], 45) _
  refine .s (.icmpF a0_309 (teq rfl).2) <| .s (.iload a0_312 rfl) <| .s (.iloadN a0_314 rfl) <| .s (.iloadN a0_315 rfl) <| .s (.iload a0_316 rfl) <| .s (.iload a0_318 rfl) ?_
  refine .callS a0_320 (ok7 hw _ _ _ _) (wd hw 39 rfl) (wd hw 40 rfl) (argsL := [(.int c), (.int d), (.int k), .int 1]) (S := [(.int (exv c d k (1 : Int32)))]) (c7 hw _ _ c d k (1 : Int32) _ _) rfl rfl rfl rfl rfl rfl (Nat.le_of_ble_eq_true rfl) (Nat.le_of_ble_eq_true rfl) ?_
  rintro _ _ _ ⟨rfl, rfl, rfl⟩
  show WGo _ (323, [wI a, wI b, wI c, wI d, wI e, wI f, wI s, wI 1, wI j, wI k, wR 0, wI (exv c d j (1 : Int32)), wI (exv c d k (1 : Int32))], [(.int (exv c d k (1 : Int32))), (.int (exv c d k (1 : Int32)))], [(.inr (cn0, [(fk0, .ref 1), (fk1, .ref 2), (fk2, .ref 3), (fk3, .int 28), (fk4, .int 1)])), (wAI (ia ks3)), (wAI (ia ns3)), (wAI (ia fl3))], 45) _
  refine .s (.icmpF a0_323 (teq rfl).2) <| .s (.iconst (1 : Int32) a0_326 rfl) <| .s (.goto a0_327) ?_
  refine .ireturn .boolean a0_331 rfl (by simp) ?_
  exact ⟨rfl, Nat.le_of_ble_eq_true rfl, Nat.le_of_ble_eq_true rfl⟩
set_option maxHeartbeats 40000000 in
theorem seg2 (Z : State) (a0 : Array Value) (hw : ∀ d ∈ tables_1, d.before a0 Z = true) (n0 : Nat) (a b c d e f : Int32) (s j k : Int32) (ho : s.toInt % 2 = 1) (hj : j = 0 ∨ j = 1 ∨ j = 2 ∨ j = 3 ∨ j = 4 ∨ j = 5 ∨ j = 6 ∨ j = 7 ∨ j = 8 ∨ j = 9) (hk : k = 0 ∨ k = 1 ∨ k = 2 ∨ k = 3 ∨ k = 4 ∨ k = 5 ∨ k = 6 ∨ k = 7 ∨ k = 8 ∨ k = 9) : WGo (g0 Z (fun k => n0 + k) n0 0 0) (35, [wI a, wI b, wI c, wI d, wI e, wI f, wI s, wI 2, wI j, wI k, wU, wU, wU], [], [], 0) (fun v σ' u' => v = some (.int 1) ∧ σ'.length ≤ 24 ∧ u' ≤ 320) := by
  refine .s (.newO (k := 0) [(fk0, .null), (fk1, .null), (fk2, .null), (fk3, .int 0), (fk4, .int 0)] a0_35 (wd hw 2 rfl) (wd hw 3 rfl) (wd hw 4 rfl) ⟨⟨Or.inl (wd hw 13 rfl), (.array .int), by decide, rfl⟩, ⟨Or.inl (wd hw 15 rfl), (.array .int), by decide, rfl⟩, ⟨Or.inl (wd hw 17 rfl), (.array .int), by decide, rfl⟩, ⟨Or.inl (wd hw 24 rfl), .int, by decide, rfl⟩, ⟨Or.inl (wd hw 51 rfl), .int, by decide, rfl⟩, trivial⟩ (by decide) rfl (by decide)) ?_
  show WGo _ (38, [wI a, wI b, wI c, wI d, wI e, wI f, wI s, wI 2, wI j, wI k, wU, wU, wU], [.ref 0], [(.inr (cn0, [(fk0, .null), (fk1, .null), (fk2, .null), (fk3, .int 0), (fk4, .int 0)]))], 5) _
  refine .s (.dup a0_38 rfl) ?_
  refine .callI (k := 0) a0_39 (ok1 hw _ _ _ _) rfl rfl (wd hw 5 rfl) (wd hw 6 rfl) (by decide) (argsL := []) (S := [.ref 0]) (au1_1 hw _ _ _) rfl rfl rfl rfl rfl rfl (Nat.le_of_ble_eq_true rfl) (Nat.le_of_ble_eq_true rfl) ?_
  rintro _ _ _ ⟨rfl, rfl, rfl⟩; have hR4 : WRep 16 (whash 28) (List.replicate 16 0) (List.replicate 16 0) (List.replicate 8 0) [] := WRep.nil rfl rfl
  show WGo _ (42, [wI a, wI b, wI c, wI d, wI e, wI f, wI s, wI 2, wI j, wI k, wU, wU, wU], [.ref 0], [(.inr (cn0, [(fk0, .ref 1), (fk1, .ref 2), (fk2, .ref 3), (fk3, .int 28), (fk4, .int 0)])), (wAI (ia (List.replicate 16 0))), (wAI (ia (List.replicate 16 0))), (wAI (ia (List.replicate 8 0)))], 45) _
  refine .s (.astore (L' := [wI a, wI b, wI c, wI d, wI e, wI f, wI s, wI 2, wI j, wI k, wR 0, wU, wU]) a0_42 rfl rfl) <| .s (.iload a0_44 rfl) <| .s (.ifF a0_46 (by decide)) <| .s (.aload a0_49 rfl rfl) <| .s (.iloadN a0_51 rfl) <| .s (.iload a0_52 rfl) <| .s (.iconst (0 : Int32) a0_54 rfl) ?_
  refine .callS a0_55 (ok4 hw _ _ _ _) (wd hw 25 rfl) (wd hw 26 rfl) (argsL := [(.int a), (.int s), .int 0]) (S := [.ref 0]) (c4 hw _ _ a s (0 : Int32) _ _) rfl rfl rfl rfl rfl rfl (Nat.le_of_ble_eq_true rfl) (Nat.le_of_ble_eq_true rfl) ?_
  rintro _ _ _ ⟨rfl, rfl, rfl⟩
  show WGo _ (58, [wI a, wI b, wI c, wI d, wI e, wI f, wI s, wI 2, wI j, wI k, wR 0, wU, wU], [(.int (plv a s (0 : Int32))), .ref 0], [(.inr (cn0, [(fk0, .ref 1), (fk1, .ref 2), (fk2, .ref 3), (fk3, .int 28), (fk4, .int 0)])), (wAI (ia (List.replicate 16 0))), (wAI (ia (List.replicate 16 0))), (wAI (ia (List.replicate 8 0)))], 45) _
  refine .s (.iloadN a0_58 rfl) <| .s (.iloadN a0_59 rfl) <| .s (.iconst (0 : Int32) a0_60 rfl) ?_
  refine .callS a0_61 (ok8 hw _ _ _ _) (wd hw 42 rfl) (wd hw 43 rfl) (argsL := [(.int c), (.int d), .int 0]) (S := [(.int (plv a s (0 : Int32))), .ref 0]) (c8 hw _ _ c d (0 : Int32) _ _) rfl rfl rfl rfl rfl rfl (Nat.le_of_ble_eq_true rfl) (Nat.le_of_ble_eq_true rfl) ?_
  rintro _ _ _ ⟨rfl, rfl, rfl⟩
  show WGo _ (64, [wI a, wI b, wI c, wI d, wI e, wI f, wI s, wI 2, wI j, wI k, wR 0, wU, wU], [(.int (nuv c d (0 : Int32))), (.int (plv a s (0 : Int32))), .ref 0], [(.inr (cn0, [(fk0, .ref 1), (fk1, .ref 2), (fk2, .ref 3), (fk3, .int 28), (fk4, .int 0)])), (wAI (ia (List.replicate 16 0))), (wAI (ia (List.replicate 16 0))), (wAI (ia (List.replicate 8 0)))], 45) _
  refine .callV (k := 0) (z := (⟨"com/example/tributary/tributary/facts/PlaceMap", "put", "(II)V"⟩ : MethodName)) a0_64 (ok9 hw _ _ _ _) ⟨rfl, by decide⟩ (wd hw 45 rfl) (wd hw 46 rfl) (fun s hZ => notFace_of_selects (args := #[]) (mvT hZ (wd hw 48 rfl))) (wd hw 48 rfl) (wd hw 47 rfl) rfl (argsL := [(.int (plv a s (0 : Int32))), (.int (nuv c d (0 : Int32)))]) (S := []) (cputA_0 hw _ _ (List.replicate 16 0) (List.replicate 16 0) (List.replicate 8 0) [] (plv a s (0 : Int32)) (nuv c d (0 : Int32)) hR4 rfl (plv_nz _ _ _) new_nil _) rfl rfl rfl rfl rfl rfl (Nat.le_of_ble_eq_true rfl) (Nat.le_of_ble_eq_true rfl) ?_
  rintro _ _ _ ⟨ks5, ns5, fl5, s_5, hR5', rfl, rfl, rfl⟩; have hR5 : WRep 16 (whash 28) ks5 ns5 fl5 [(s_5, (plv a s (0 : Int32)), (nuv c d (0 : Int32)))] := hR5'
  show WGo _ (67, [wI a, wI b, wI c, wI d, wI e, wI f, wI s, wI 2, wI j, wI k, wR 0, wU, wU], [], [(.inr (cn0, [(fk0, .ref 1), (fk1, .ref 2), (fk2, .ref 3), (fk3, .int 28), (fk4, .int 1)])), (wAI (ia ks5)), (wAI (ia ns5)), (wAI (ia fl5))], 45) _
  refine .s (.iload a0_67 rfl) <| .s (.iconst (1 : Int32) a0_69 rfl) <| .s (.icmpF a0_70 (by decide)) <| .s (.aload a0_73 rfl rfl) <| .s (.iloadN a0_75 rfl) <| .s (.iload a0_76 rfl) <| .s (.iconst (1 : Int32) a0_78 rfl) ?_
  refine .callS a0_79 (ok4 hw _ _ _ _) (wd hw 25 rfl) (wd hw 26 rfl) (argsL := [(.int a), (.int s), .int 1]) (S := [.ref 0]) (c4 hw _ _ a s (1 : Int32) _ _) rfl rfl rfl rfl rfl rfl (Nat.le_of_ble_eq_true rfl) (Nat.le_of_ble_eq_true rfl) ?_
  rintro _ _ _ ⟨rfl, rfl, rfl⟩
  show WGo _ (82, [wI a, wI b, wI c, wI d, wI e, wI f, wI s, wI 2, wI j, wI k, wR 0, wU, wU], [(.int (plv a s (1 : Int32))), .ref 0], [(.inr (cn0, [(fk0, .ref 1), (fk1, .ref 2), (fk2, .ref 3), (fk3, .int 28), (fk4, .int 1)])), (wAI (ia ks5)), (wAI (ia ns5)), (wAI (ia fl5))], 45) _
  refine .s (.iloadN a0_82 rfl) <| .s (.iloadN a0_83 rfl) <| .s (.iconst (1 : Int32) a0_84 rfl) ?_
  refine .callS a0_85 (ok8 hw _ _ _ _) (wd hw 42 rfl) (wd hw 43 rfl) (argsL := [(.int c), (.int d), .int 1]) (S := [(.int (plv a s (1 : Int32))), .ref 0]) (c8 hw _ _ c d (1 : Int32) _ _) rfl rfl rfl rfl rfl rfl (Nat.le_of_ble_eq_true rfl) (Nat.le_of_ble_eq_true rfl) ?_
  rintro _ _ _ ⟨rfl, rfl, rfl⟩
  show WGo _ (88, [wI a, wI b, wI c, wI d, wI e, wI f, wI s, wI 2, wI j, wI k, wR 0, wU, wU], [(.int (nuv c d (1 : Int32))), (.int (plv a s (1 : Int32))), .ref 0], [(.inr (cn0, [(fk0, .ref 1), (fk1, .ref 2), (fk2, .ref 3), (fk3, .int 28), (fk4, .int 1)])), (wAI (ia ks5)), (wAI (ia ns5)), (wAI (ia fl5))], 45) _
  refine .callV (k := 0) (z := (⟨"com/example/tributary/tributary/facts/PlaceMap", "put", "(II)V"⟩ : MethodName)) a0_88 (ok9 hw _ _ _ _) ⟨rfl, by decide⟩ (wd hw 45 rfl) (wd hw 46 rfl) (fun s hZ => notFace_of_selects (args := #[]) (mvT hZ (wd hw 48 rfl))) (wd hw 48 rfl) (wd hw 47 rfl) rfl (argsL := [(.int (plv a s (1 : Int32))), (.int (nuv c d (1 : Int32)))]) (S := []) (cputA_1 hw _ _ ks5 ns5 fl5 [(s_5, (plv a s (0 : Int32)), (nuv c d (0 : Int32)))] (plv a s (1 : Int32)) (nuv c d (1 : Int32)) hR5 rfl (plv_nz _ _ _) (new_cons (plv_ne a s _ _ 0 1 rfl rfl ho (by decide)) new_nil) _) rfl rfl rfl rfl rfl rfl (Nat.le_of_ble_eq_true rfl) (Nat.le_of_ble_eq_true rfl) ?_
  rintro _ _ _ ⟨ks6, ns6, fl6, s_6, hR6', rfl, rfl, rfl⟩; have hR6 : WRep 16 (whash 28) ks6 ns6 fl6 [(s_5, (plv a s (0 : Int32)), (nuv c d (0 : Int32))), (s_6, (plv a s (1 : Int32)), (nuv c d (1 : Int32)))] := hR6'
  show WGo _ (91, [wI a, wI b, wI c, wI d, wI e, wI f, wI s, wI 2, wI j, wI k, wR 0, wU, wU], [], [(.inr (cn0, [(fk0, .ref 1), (fk1, .ref 2), (fk2, .ref 3), (fk3, .int 28), (fk4, .int 2)])), (wAI (ia ks6)), (wAI (ia ns6)), (wAI (ia fl6))], 45) _
  refine .s (.iload a0_91 rfl) <| .s (.iconst (2 : Int32) a0_93 rfl) <| .s (.icmpT a0_94 (by decide)) <| .s (.iload a0_115 rfl) <| .s (.iconst (3 : Int32) a0_117 rfl) <| .s (.icmpT a0_118 (by decide)) <| .s (.iload a0_139 rfl) ?_
  refine .s (.iconst (4 : Int32) a0_141 rfl) <| .s (.icmpT a0_142 (by decide)) <| .s (.iload a0_163 rfl) <| .s (.iconst (5 : Int32) a0_165 rfl) <| .s (.icmpT a0_166 (by decide)) <| .s (.iload a0_187 rfl) <| .s (.bipush (6 : Int32) a0_189 rfl) ?_
  refine .s (.icmpT a0_191 (by decide)) <| .s (.iload a0_214 rfl) <| .s (.bipush (7 : Int32) a0_216 rfl) <| .s (.icmpT a0_218 (by decide)) <| .s (.iload a0_241 rfl) <| .s (.bipush (8 : Int32) a0_243 rfl) <| .s (.icmpT a0_245 (by decide)) ?_
  refine .s (.aload a0_268 rfl rfl) <| .s (.iloadN a0_270 rfl) <| .s (.iload a0_271 rfl) <| .s (.iload a0_273 rfl) ?_
  refine .callS a0_275 (ok4 hw _ _ _ _) (wd hw 25 rfl) (wd hw 26 rfl) (argsL := [(.int a), (.int s), (.int j)]) (S := [.ref 0]) (c4 hw _ _ a s j _ _) rfl rfl rfl rfl rfl rfl (Nat.le_of_ble_eq_true rfl) (Nat.le_of_ble_eq_true rfl) ?_
  rintro _ _ _ ⟨rfl, rfl, rfl⟩
  show WGo _ (278, [wI a, wI b, wI c, wI d, wI e, wI f, wI s, wI 2, wI j, wI k, wR 0, wU, wU], [(.int (plv a s j)), .ref 0], [(.inr (cn0, [(fk0, .ref 1), (fk1, .ref 2), (fk2, .ref 3), (fk3, .int 28), (fk4, .int 2)])), (wAI (ia ks6)), (wAI (ia ns6)), (wAI (ia fl6))], 45) _
  refine .callV (k := 0) (z := (⟨"com/example/tributary/tributary/facts/PlaceMap", "get", "(I)I"⟩ : MethodName)) a0_278 (ok5 hw _ _ _ _) ⟨rfl, by decide⟩ (wd hw 29 rfl) (wd hw 30 rfl) (fun s hZ => notFace_of_selects (args := #[]) (mvT hZ (wd hw 32 rfl))) (wd hw 32 rfl) (wd hw 31 rfl) rfl (argsL := [(.int (plv a s j))]) (S := []) (cgetA hw _ _ ks6 ns6 fl6 [(s_5, (plv a s (0 : Int32)), (nuv c d (0 : Int32))), (s_6, (plv a s (1 : Int32)), (nuv c d (1 : Int32)))] (plv a s j) 2 hR6 _) rfl rfl rfl rfl rfl rfl (Nat.le_of_ble_eq_true rfl) (Nat.le_of_ble_eq_true rfl) ?_
  rintro _ _ _ ⟨rfl, rfl, rfl⟩; rw [look2 a s c d j s_5 s_6 ho hj]
  show WGo _ (281, [wI a, wI b, wI c, wI d, wI e, wI f, wI s, wI 2, wI j, wI k, wR 0, wU, wU], [(.int (exv c d j (2 : Int32)))], [(.inr (cn0, [(fk0, .ref 1), (fk1, .ref 2), (fk2, .ref 3), (fk3, .int 28), (fk4, .int 2)])), (wAI (ia ks6)), (wAI (ia ns6)), (wAI (ia fl6))], 45) _
  refine .s (.istore (L' := [wI a, wI b, wI c, wI d, wI e, wI f, wI s, wI 2, wI j, wI k, wR 0, wI (exv c d j (2 : Int32)), wU]) a0_281 rfl) <| .s (.aload a0_283 rfl rfl) <| .s (.iloadN a0_285 rfl) <| .s (.iload a0_286 rfl) <| .s (.iload a0_288 rfl) ?_
  refine .callS a0_290 (ok4 hw _ _ _ _) (wd hw 25 rfl) (wd hw 26 rfl) (argsL := [(.int a), (.int s), (.int k)]) (S := [.ref 0]) (c4 hw _ _ a s k _ _) rfl rfl rfl rfl rfl rfl (Nat.le_of_ble_eq_true rfl) (Nat.le_of_ble_eq_true rfl) ?_
  rintro _ _ _ ⟨rfl, rfl, rfl⟩
  show WGo _ (293, [wI a, wI b, wI c, wI d, wI e, wI f, wI s, wI 2, wI j, wI k, wR 0, wI (exv c d j (2 : Int32)), wU], [(.int (plv a s k)), .ref 0], [(.inr (cn0, [(fk0, .ref 1), (fk1, .ref 2), (fk2, .ref 3), (fk3, .int 28), (fk4, .int 2)])), (wAI (ia ks6)), (wAI (ia ns6)), (wAI (ia fl6))], 45) _
  refine .callV (k := 0) (z := (⟨"com/example/tributary/tributary/facts/PlaceMap", "get", "(I)I"⟩ : MethodName)) a0_293 (ok5 hw _ _ _ _) ⟨rfl, by decide⟩ (wd hw 29 rfl) (wd hw 30 rfl) (fun s hZ => notFace_of_selects (args := #[]) (mvT hZ (wd hw 32 rfl))) (wd hw 32 rfl) (wd hw 31 rfl) rfl (argsL := [(.int (plv a s k))]) (S := []) (cgetA hw _ _ ks6 ns6 fl6 [(s_5, (plv a s (0 : Int32)), (nuv c d (0 : Int32))), (s_6, (plv a s (1 : Int32)), (nuv c d (1 : Int32)))] (plv a s k) 2 hR6 _) rfl rfl rfl rfl rfl rfl (Nat.le_of_ble_eq_true rfl) (Nat.le_of_ble_eq_true rfl) ?_
  rintro _ _ _ ⟨rfl, rfl, rfl⟩; rw [look2 a s c d k s_5 s_6 ho hk]
  show WGo _ (296, [wI a, wI b, wI c, wI d, wI e, wI f, wI s, wI 2, wI j, wI k, wR 0, wI (exv c d j (2 : Int32)), wU], [(.int (exv c d k (2 : Int32)))], [(.inr (cn0, [(fk0, .ref 1), (fk1, .ref 2), (fk2, .ref 3), (fk3, .int 28), (fk4, .int 2)])), (wAI (ia ks6)), (wAI (ia ns6)), (wAI (ia fl6))], 45) _
  refine .s (.istore (L' := [wI a, wI b, wI c, wI d, wI e, wI f, wI s, wI 2, wI j, wI k, wR 0, wI (exv c d j (2 : Int32)), wI (exv c d k (2 : Int32))]) a0_296 rfl) <| .s (.iload a0_298 rfl) <| .s (.iloadN a0_300 rfl) <| .s (.iloadN a0_301 rfl) <| .s (.iload a0_302 rfl) <| .s (.iload a0_304 rfl) ?_
  refine .callS a0_306 (ok7 hw _ _ _ _) (wd hw 39 rfl) (wd hw 40 rfl) (argsL := [(.int c), (.int d), (.int j), .int 2]) (S := [(.int (exv c d j (2 : Int32)))]) (c7 hw _ _ c d j (2 : Int32) _ _) rfl rfl rfl rfl rfl rfl (Nat.le_of_ble_eq_true rfl) (Nat.le_of_ble_eq_true rfl) ?_
  rintro _ _ _ ⟨rfl, rfl, rfl⟩
  show WGo _ (309, [wI a, wI b, wI c, wI d, wI e, wI f, wI s, wI 2, wI j, wI k, wR 0, wI (exv c d j (2 : Int32)), wI (exv c d k (2 : Int32))], [(.int (exv c d j (2 : Int32))), (.int (exv c d j (2 : Int32)))], [(.inr (cn0, [(fk0, .ref 1), (fk1, .ref 2), (fk2, .ref 3), (fk3, .int 28), (fk4, .int 2)])), (wAI (ia ks6)), (wAI (ia ns6)), (wAI (ia fl6))], 45) _
  refine .s (.icmpF a0_309 (teq rfl).2) <| .s (.iload a0_312 rfl) <| .s (.iloadN a0_314 rfl) <| .s (.iloadN a0_315 rfl) <| .s (.iload a0_316 rfl) <| .s (.iload a0_318 rfl) ?_
  refine .callS a0_320 (ok7 hw _ _ _ _) (wd hw 39 rfl) (wd hw 40 rfl) (argsL := [(.int c), (.int d), (.int k), .int 2]) (S := [(.int (exv c d k (2 : Int32)))]) (c7 hw _ _ c d k (2 : Int32) _ _) rfl rfl rfl rfl rfl rfl (Nat.le_of_ble_eq_true rfl) (Nat.le_of_ble_eq_true rfl) ?_
  rintro _ _ _ ⟨rfl, rfl, rfl⟩
  show WGo _ (323, [wI a, wI b, wI c, wI d, wI e, wI f, wI s, wI 2, wI j, wI k, wR 0, wI (exv c d j (2 : Int32)), wI (exv c d k (2 : Int32))], [(.int (exv c d k (2 : Int32))), (.int (exv c d k (2 : Int32)))], [(.inr (cn0, [(fk0, .ref 1), (fk1, .ref 2), (fk2, .ref 3), (fk3, .int 28), (fk4, .int 2)])), (wAI (ia ks6)), (wAI (ia ns6)), (wAI (ia fl6))], 45) _
  refine .s (.icmpF a0_323 (teq rfl).2) <| .s (.iconst (1 : Int32) a0_326 rfl) <| .s (.goto a0_327) ?_
  refine .ireturn .boolean a0_331 rfl (by simp) ?_
  exact ⟨rfl, Nat.le_of_ble_eq_true rfl, Nat.le_of_ble_eq_true rfl⟩
set_option maxHeartbeats 40000000 in
theorem seg3 (Z : State) (a0 : Array Value) (hw : ∀ d ∈ tables_1, d.before a0 Z = true) (n0 : Nat) (a b c d e f : Int32) (s j k : Int32) (ho : s.toInt % 2 = 1) (hj : j = 0 ∨ j = 1 ∨ j = 2 ∨ j = 3 ∨ j = 4 ∨ j = 5 ∨ j = 6 ∨ j = 7 ∨ j = 8 ∨ j = 9) (hk : k = 0 ∨ k = 1 ∨ k = 2 ∨ k = 3 ∨ k = 4 ∨ k = 5 ∨ k = 6 ∨ k = 7 ∨ k = 8 ∨ k = 9) : WGo (g0 Z (fun k => n0 + k) n0 0 0) (35, [wI a, wI b, wI c, wI d, wI e, wI f, wI s, wI 3, wI j, wI k, wU, wU, wU], [], [], 0) (fun v σ' u' => v = some (.int 1) ∧ σ'.length ≤ 24 ∧ u' ≤ 320) := by
  refine .s (.newO (k := 0) [(fk0, .null), (fk1, .null), (fk2, .null), (fk3, .int 0), (fk4, .int 0)] a0_35 (wd hw 2 rfl) (wd hw 3 rfl) (wd hw 4 rfl) ⟨⟨Or.inl (wd hw 13 rfl), (.array .int), by decide, rfl⟩, ⟨Or.inl (wd hw 15 rfl), (.array .int), by decide, rfl⟩, ⟨Or.inl (wd hw 17 rfl), (.array .int), by decide, rfl⟩, ⟨Or.inl (wd hw 24 rfl), .int, by decide, rfl⟩, ⟨Or.inl (wd hw 51 rfl), .int, by decide, rfl⟩, trivial⟩ (by decide) rfl (by decide)) ?_
  show WGo _ (38, [wI a, wI b, wI c, wI d, wI e, wI f, wI s, wI 3, wI j, wI k, wU, wU, wU], [.ref 0], [(.inr (cn0, [(fk0, .null), (fk1, .null), (fk2, .null), (fk3, .int 0), (fk4, .int 0)]))], 5) _
  refine .s (.dup a0_38 rfl) ?_
  refine .callI (k := 0) a0_39 (ok1 hw _ _ _ _) rfl rfl (wd hw 5 rfl) (wd hw 6 rfl) (by decide) (argsL := []) (S := [.ref 0]) (au1_1 hw _ _ _) rfl rfl rfl rfl rfl rfl (Nat.le_of_ble_eq_true rfl) (Nat.le_of_ble_eq_true rfl) ?_
  rintro _ _ _ ⟨rfl, rfl, rfl⟩; have hR7 : WRep 16 (whash 28) (List.replicate 16 0) (List.replicate 16 0) (List.replicate 8 0) [] := WRep.nil rfl rfl
  show WGo _ (42, [wI a, wI b, wI c, wI d, wI e, wI f, wI s, wI 3, wI j, wI k, wU, wU, wU], [.ref 0], [(.inr (cn0, [(fk0, .ref 1), (fk1, .ref 2), (fk2, .ref 3), (fk3, .int 28), (fk4, .int 0)])), (wAI (ia (List.replicate 16 0))), (wAI (ia (List.replicate 16 0))), (wAI (ia (List.replicate 8 0)))], 45) _
  refine .s (.astore (L' := [wI a, wI b, wI c, wI d, wI e, wI f, wI s, wI 3, wI j, wI k, wR 0, wU, wU]) a0_42 rfl rfl) <| .s (.iload a0_44 rfl) <| .s (.ifF a0_46 (by decide)) <| .s (.aload a0_49 rfl rfl) <| .s (.iloadN a0_51 rfl) <| .s (.iload a0_52 rfl) <| .s (.iconst (0 : Int32) a0_54 rfl) ?_
  refine .callS a0_55 (ok4 hw _ _ _ _) (wd hw 25 rfl) (wd hw 26 rfl) (argsL := [(.int a), (.int s), .int 0]) (S := [.ref 0]) (c4 hw _ _ a s (0 : Int32) _ _) rfl rfl rfl rfl rfl rfl (Nat.le_of_ble_eq_true rfl) (Nat.le_of_ble_eq_true rfl) ?_
  rintro _ _ _ ⟨rfl, rfl, rfl⟩
  show WGo _ (58, [wI a, wI b, wI c, wI d, wI e, wI f, wI s, wI 3, wI j, wI k, wR 0, wU, wU], [(.int (plv a s (0 : Int32))), .ref 0], [(.inr (cn0, [(fk0, .ref 1), (fk1, .ref 2), (fk2, .ref 3), (fk3, .int 28), (fk4, .int 0)])), (wAI (ia (List.replicate 16 0))), (wAI (ia (List.replicate 16 0))), (wAI (ia (List.replicate 8 0)))], 45) _
  refine .s (.iloadN a0_58 rfl) <| .s (.iloadN a0_59 rfl) <| .s (.iconst (0 : Int32) a0_60 rfl) ?_
  refine .callS a0_61 (ok8 hw _ _ _ _) (wd hw 42 rfl) (wd hw 43 rfl) (argsL := [(.int c), (.int d), .int 0]) (S := [(.int (plv a s (0 : Int32))), .ref 0]) (c8 hw _ _ c d (0 : Int32) _ _) rfl rfl rfl rfl rfl rfl (Nat.le_of_ble_eq_true rfl) (Nat.le_of_ble_eq_true rfl) ?_
  rintro _ _ _ ⟨rfl, rfl, rfl⟩
  show WGo _ (64, [wI a, wI b, wI c, wI d, wI e, wI f, wI s, wI 3, wI j, wI k, wR 0, wU, wU], [(.int (nuv c d (0 : Int32))), (.int (plv a s (0 : Int32))), .ref 0], [(.inr (cn0, [(fk0, .ref 1), (fk1, .ref 2), (fk2, .ref 3), (fk3, .int 28), (fk4, .int 0)])), (wAI (ia (List.replicate 16 0))), (wAI (ia (List.replicate 16 0))), (wAI (ia (List.replicate 8 0)))], 45) _
  refine .callV (k := 0) (z := (⟨"com/example/tributary/tributary/facts/PlaceMap", "put", "(II)V"⟩ : MethodName)) a0_64 (ok9 hw _ _ _ _) ⟨rfl, by decide⟩ (wd hw 45 rfl) (wd hw 46 rfl) (fun s hZ => notFace_of_selects (args := #[]) (mvT hZ (wd hw 48 rfl))) (wd hw 48 rfl) (wd hw 47 rfl) rfl (argsL := [(.int (plv a s (0 : Int32))), (.int (nuv c d (0 : Int32)))]) (S := []) (cputA_0 hw _ _ (List.replicate 16 0) (List.replicate 16 0) (List.replicate 8 0) [] (plv a s (0 : Int32)) (nuv c d (0 : Int32)) hR7 rfl (plv_nz _ _ _) new_nil _) rfl rfl rfl rfl rfl rfl (Nat.le_of_ble_eq_true rfl) (Nat.le_of_ble_eq_true rfl) ?_
  rintro _ _ _ ⟨ks8, ns8, fl8, s_8, hR8', rfl, rfl, rfl⟩; have hR8 : WRep 16 (whash 28) ks8 ns8 fl8 [(s_8, (plv a s (0 : Int32)), (nuv c d (0 : Int32)))] := hR8'
  show WGo _ (67, [wI a, wI b, wI c, wI d, wI e, wI f, wI s, wI 3, wI j, wI k, wR 0, wU, wU], [], [(.inr (cn0, [(fk0, .ref 1), (fk1, .ref 2), (fk2, .ref 3), (fk3, .int 28), (fk4, .int 1)])), (wAI (ia ks8)), (wAI (ia ns8)), (wAI (ia fl8))], 45) _
  refine .s (.iload a0_67 rfl) <| .s (.iconst (1 : Int32) a0_69 rfl) <| .s (.icmpF a0_70 (by decide)) <| .s (.aload a0_73 rfl rfl) <| .s (.iloadN a0_75 rfl) <| .s (.iload a0_76 rfl) <| .s (.iconst (1 : Int32) a0_78 rfl) ?_
  refine .callS a0_79 (ok4 hw _ _ _ _) (wd hw 25 rfl) (wd hw 26 rfl) (argsL := [(.int a), (.int s), .int 1]) (S := [.ref 0]) (c4 hw _ _ a s (1 : Int32) _ _) rfl rfl rfl rfl rfl rfl (Nat.le_of_ble_eq_true rfl) (Nat.le_of_ble_eq_true rfl) ?_
  rintro _ _ _ ⟨rfl, rfl, rfl⟩
  show WGo _ (82, [wI a, wI b, wI c, wI d, wI e, wI f, wI s, wI 3, wI j, wI k, wR 0, wU, wU], [(.int (plv a s (1 : Int32))), .ref 0], [(.inr (cn0, [(fk0, .ref 1), (fk1, .ref 2), (fk2, .ref 3), (fk3, .int 28), (fk4, .int 1)])), (wAI (ia ks8)), (wAI (ia ns8)), (wAI (ia fl8))], 45) _
  refine .s (.iloadN a0_82 rfl) <| .s (.iloadN a0_83 rfl) <| .s (.iconst (1 : Int32) a0_84 rfl) ?_
  refine .callS a0_85 (ok8 hw _ _ _ _) (wd hw 42 rfl) (wd hw 43 rfl) (argsL := [(.int c), (.int d), .int 1]) (S := [(.int (plv a s (1 : Int32))), .ref 0]) (c8 hw _ _ c d (1 : Int32) _ _) rfl rfl rfl rfl rfl rfl (Nat.le_of_ble_eq_true rfl) (Nat.le_of_ble_eq_true rfl) ?_
  rintro _ _ _ ⟨rfl, rfl, rfl⟩
  show WGo _ (88, [wI a, wI b, wI c, wI d, wI e, wI f, wI s, wI 3, wI j, wI k, wR 0, wU, wU], [(.int (nuv c d (1 : Int32))), (.int (plv a s (1 : Int32))), .ref 0], [(.inr (cn0, [(fk0, .ref 1), (fk1, .ref 2), (fk2, .ref 3), (fk3, .int 28), (fk4, .int 1)])), (wAI (ia ks8)), (wAI (ia ns8)), (wAI (ia fl8))], 45) _
  refine .callV (k := 0) (z := (⟨"com/example/tributary/tributary/facts/PlaceMap", "put", "(II)V"⟩ : MethodName)) a0_88 (ok9 hw _ _ _ _) ⟨rfl, by decide⟩ (wd hw 45 rfl) (wd hw 46 rfl) (fun s hZ => notFace_of_selects (args := #[]) (mvT hZ (wd hw 48 rfl))) (wd hw 48 rfl) (wd hw 47 rfl) rfl (argsL := [(.int (plv a s (1 : Int32))), (.int (nuv c d (1 : Int32)))]) (S := []) (cputA_1 hw _ _ ks8 ns8 fl8 [(s_8, (plv a s (0 : Int32)), (nuv c d (0 : Int32)))] (plv a s (1 : Int32)) (nuv c d (1 : Int32)) hR8 rfl (plv_nz _ _ _) (new_cons (plv_ne a s _ _ 0 1 rfl rfl ho (by decide)) new_nil) _) rfl rfl rfl rfl rfl rfl (Nat.le_of_ble_eq_true rfl) (Nat.le_of_ble_eq_true rfl) ?_
  rintro _ _ _ ⟨ks9, ns9, fl9, s_9, hR9', rfl, rfl, rfl⟩; have hR9 : WRep 16 (whash 28) ks9 ns9 fl9 [(s_8, (plv a s (0 : Int32)), (nuv c d (0 : Int32))), (s_9, (plv a s (1 : Int32)), (nuv c d (1 : Int32)))] := hR9'
  show WGo _ (91, [wI a, wI b, wI c, wI d, wI e, wI f, wI s, wI 3, wI j, wI k, wR 0, wU, wU], [], [(.inr (cn0, [(fk0, .ref 1), (fk1, .ref 2), (fk2, .ref 3), (fk3, .int 28), (fk4, .int 2)])), (wAI (ia ks9)), (wAI (ia ns9)), (wAI (ia fl9))], 45) _
  refine .s (.iload a0_91 rfl) <| .s (.iconst (2 : Int32) a0_93 rfl) <| .s (.icmpF a0_94 (by decide)) <| .s (.aload a0_97 rfl rfl) <| .s (.iloadN a0_99 rfl) <| .s (.iload a0_100 rfl) <| .s (.iconst (2 : Int32) a0_102 rfl) ?_
  refine .callS a0_103 (ok4 hw _ _ _ _) (wd hw 25 rfl) (wd hw 26 rfl) (argsL := [(.int a), (.int s), .int 2]) (S := [.ref 0]) (c4 hw _ _ a s (2 : Int32) _ _) rfl rfl rfl rfl rfl rfl (Nat.le_of_ble_eq_true rfl) (Nat.le_of_ble_eq_true rfl) ?_
  rintro _ _ _ ⟨rfl, rfl, rfl⟩
  show WGo _ (106, [wI a, wI b, wI c, wI d, wI e, wI f, wI s, wI 3, wI j, wI k, wR 0, wU, wU], [(.int (plv a s (2 : Int32))), .ref 0], [(.inr (cn0, [(fk0, .ref 1), (fk1, .ref 2), (fk2, .ref 3), (fk3, .int 28), (fk4, .int 2)])), (wAI (ia ks9)), (wAI (ia ns9)), (wAI (ia fl9))], 45) _
  refine .s (.iloadN a0_106 rfl) <| .s (.iloadN a0_107 rfl) <| .s (.iconst (2 : Int32) a0_108 rfl) ?_
  refine .callS a0_109 (ok8 hw _ _ _ _) (wd hw 42 rfl) (wd hw 43 rfl) (argsL := [(.int c), (.int d), .int 2]) (S := [(.int (plv a s (2 : Int32))), .ref 0]) (c8 hw _ _ c d (2 : Int32) _ _) rfl rfl rfl rfl rfl rfl (Nat.le_of_ble_eq_true rfl) (Nat.le_of_ble_eq_true rfl) ?_
  rintro _ _ _ ⟨rfl, rfl, rfl⟩
  show WGo _ (112, [wI a, wI b, wI c, wI d, wI e, wI f, wI s, wI 3, wI j, wI k, wR 0, wU, wU], [(.int (nuv c d (2 : Int32))), (.int (plv a s (2 : Int32))), .ref 0], [(.inr (cn0, [(fk0, .ref 1), (fk1, .ref 2), (fk2, .ref 3), (fk3, .int 28), (fk4, .int 2)])), (wAI (ia ks9)), (wAI (ia ns9)), (wAI (ia fl9))], 45) _
  refine .callV (k := 0) (z := (⟨"com/example/tributary/tributary/facts/PlaceMap", "put", "(II)V"⟩ : MethodName)) a0_112 (ok9 hw _ _ _ _) ⟨rfl, by decide⟩ (wd hw 45 rfl) (wd hw 46 rfl) (fun s hZ => notFace_of_selects (args := #[]) (mvT hZ (wd hw 48 rfl))) (wd hw 48 rfl) (wd hw 47 rfl) rfl (argsL := [(.int (plv a s (2 : Int32))), (.int (nuv c d (2 : Int32)))]) (S := []) (cputA_2 hw _ _ ks9 ns9 fl9 [(s_8, (plv a s (0 : Int32)), (nuv c d (0 : Int32))), (s_9, (plv a s (1 : Int32)), (nuv c d (1 : Int32)))] (plv a s (2 : Int32)) (nuv c d (2 : Int32)) hR9 rfl (plv_nz _ _ _) (new_cons (plv_ne a s _ _ 0 2 rfl rfl ho (by decide)) (new_cons (plv_ne a s _ _ 1 2 rfl rfl ho (by decide)) new_nil)) _) rfl rfl rfl rfl rfl rfl (Nat.le_of_ble_eq_true rfl) (Nat.le_of_ble_eq_true rfl) ?_
  rintro _ _ _ ⟨ks10, ns10, fl10, s_10, hR10', rfl, rfl, rfl⟩; have hR10 : WRep 16 (whash 28) ks10 ns10 fl10 [(s_8, (plv a s (0 : Int32)), (nuv c d (0 : Int32))), (s_9, (plv a s (1 : Int32)), (nuv c d (1 : Int32))), (s_10, (plv a s (2 : Int32)), (nuv c d (2 : Int32)))] := hR10'
  show WGo _ (115, [wI a, wI b, wI c, wI d, wI e, wI f, wI s, wI 3, wI j, wI k, wR 0, wU, wU], [], [(.inr (cn0, [(fk0, .ref 1), (fk1, .ref 2), (fk2, .ref 3), (fk3, .int 28), (fk4, .int 3)])), (wAI (ia ks10)), (wAI (ia ns10)), (wAI (ia fl10))], 45) _
  refine .s (.iload a0_115 rfl) <| .s (.iconst (3 : Int32) a0_117 rfl) <| .s (.icmpT a0_118 (by decide)) <| .s (.iload a0_139 rfl) <| .s (.iconst (4 : Int32) a0_141 rfl) <| .s (.icmpT a0_142 (by decide)) <| .s (.iload a0_163 rfl) ?_
  refine .s (.iconst (5 : Int32) a0_165 rfl) <| .s (.icmpT a0_166 (by decide)) <| .s (.iload a0_187 rfl) <| .s (.bipush (6 : Int32) a0_189 rfl) <| .s (.icmpT a0_191 (by decide)) <| .s (.iload a0_214 rfl) <| .s (.bipush (7 : Int32) a0_216 rfl) ?_
  refine .s (.icmpT a0_218 (by decide)) <| .s (.iload a0_241 rfl) <| .s (.bipush (8 : Int32) a0_243 rfl) <| .s (.icmpT a0_245 (by decide)) <| .s (.aload a0_268 rfl rfl) <| .s (.iloadN a0_270 rfl) <| .s (.iload a0_271 rfl) ?_
  refine .s (.iload a0_273 rfl) ?_
  refine .callS a0_275 (ok4 hw _ _ _ _) (wd hw 25 rfl) (wd hw 26 rfl) (argsL := [(.int a), (.int s), (.int j)]) (S := [.ref 0]) (c4 hw _ _ a s j _ _) rfl rfl rfl rfl rfl rfl (Nat.le_of_ble_eq_true rfl) (Nat.le_of_ble_eq_true rfl) ?_
  rintro _ _ _ ⟨rfl, rfl, rfl⟩
  show WGo _ (278, [wI a, wI b, wI c, wI d, wI e, wI f, wI s, wI 3, wI j, wI k, wR 0, wU, wU], [(.int (plv a s j)), .ref 0], [(.inr (cn0, [(fk0, .ref 1), (fk1, .ref 2), (fk2, .ref 3), (fk3, .int 28), (fk4, .int 3)])), (wAI (ia ks10)), (wAI (ia ns10)), (wAI (ia fl10))], 45) _
  refine .callV (k := 0) (z := (⟨"com/example/tributary/tributary/facts/PlaceMap", "get", "(I)I"⟩ : MethodName)) a0_278 (ok5 hw _ _ _ _) ⟨rfl, by decide⟩ (wd hw 29 rfl) (wd hw 30 rfl) (fun s hZ => notFace_of_selects (args := #[]) (mvT hZ (wd hw 32 rfl))) (wd hw 32 rfl) (wd hw 31 rfl) rfl (argsL := [(.int (plv a s j))]) (S := []) (cgetA hw _ _ ks10 ns10 fl10 [(s_8, (plv a s (0 : Int32)), (nuv c d (0 : Int32))), (s_9, (plv a s (1 : Int32)), (nuv c d (1 : Int32))), (s_10, (plv a s (2 : Int32)), (nuv c d (2 : Int32)))] (plv a s j) 3 hR10 _) rfl rfl rfl rfl rfl rfl (Nat.le_of_ble_eq_true rfl) (Nat.le_of_ble_eq_true rfl) ?_
  rintro _ _ _ ⟨rfl, rfl, rfl⟩; rw [look3 a s c d j s_8 s_9 s_10 ho hj]
  show WGo _ (281, [wI a, wI b, wI c, wI d, wI e, wI f, wI s, wI 3, wI j, wI k, wR 0, wU, wU], [(.int (exv c d j (3 : Int32)))], [(.inr (cn0, [(fk0, .ref 1), (fk1, .ref 2), (fk2, .ref 3), (fk3, .int 28), (fk4, .int 3)])), (wAI (ia ks10)), (wAI (ia ns10)), (wAI (ia fl10))], 45) _
  refine .s (.istore (L' := [wI a, wI b, wI c, wI d, wI e, wI f, wI s, wI 3, wI j, wI k, wR 0, wI (exv c d j (3 : Int32)), wU]) a0_281 rfl) <| .s (.aload a0_283 rfl rfl) <| .s (.iloadN a0_285 rfl) <| .s (.iload a0_286 rfl) <| .s (.iload a0_288 rfl) ?_
  refine .callS a0_290 (ok4 hw _ _ _ _) (wd hw 25 rfl) (wd hw 26 rfl) (argsL := [(.int a), (.int s), (.int k)]) (S := [.ref 0]) (c4 hw _ _ a s k _ _) rfl rfl rfl rfl rfl rfl (Nat.le_of_ble_eq_true rfl) (Nat.le_of_ble_eq_true rfl) ?_
  rintro _ _ _ ⟨rfl, rfl, rfl⟩
  show WGo _ (293, [wI a, wI b, wI c, wI d, wI e, wI f, wI s, wI 3, wI j, wI k, wR 0, wI (exv c d j (3 : Int32)), wU], [(.int (plv a s k)), .ref 0], [(.inr (cn0, [(fk0, .ref 1), (fk1, .ref 2), (fk2, .ref 3), (fk3, .int 28), (fk4, .int 3)])), (wAI (ia ks10)), (wAI (ia ns10)), (wAI (ia fl10))], 45) _
  refine .callV (k := 0) (z := (⟨"com/example/tributary/tributary/facts/PlaceMap", "get", "(I)I"⟩ : MethodName)) a0_293 (ok5 hw _ _ _ _) ⟨rfl, by decide⟩ (wd hw 29 rfl) (wd hw 30 rfl) (fun s hZ => notFace_of_selects (args := #[]) (mvT hZ (wd hw 32 rfl))) (wd hw 32 rfl) (wd hw 31 rfl) rfl (argsL := [(.int (plv a s k))]) (S := []) (cgetA hw _ _ ks10 ns10 fl10 [(s_8, (plv a s (0 : Int32)), (nuv c d (0 : Int32))), (s_9, (plv a s (1 : Int32)), (nuv c d (1 : Int32))), (s_10, (plv a s (2 : Int32)), (nuv c d (2 : Int32)))] (plv a s k) 3 hR10 _) rfl rfl rfl rfl rfl rfl (Nat.le_of_ble_eq_true rfl) (Nat.le_of_ble_eq_true rfl) ?_
  rintro _ _ _ ⟨rfl, rfl, rfl⟩; rw [look3 a s c d k s_8 s_9 s_10 ho hk]
  show WGo _ (296, [wI a, wI b, wI c, wI d, wI e, wI f, wI s, wI 3, wI j, wI k, wR 0, wI (exv c d j (3 : Int32)), wU], [(.int (exv c d k (3 : Int32)))], [(.inr (cn0, [(fk0, .ref 1), (fk1, .ref 2), (fk2, .ref 3), (fk3, .int 28), (fk4, .int 3)])), (wAI (ia ks10)), (wAI (ia ns10)), (wAI (ia fl10))], 45) _
  refine .s (.istore (L' := [wI a, wI b, wI c, wI d, wI e, wI f, wI s, wI 3, wI j, wI k, wR 0, wI (exv c d j (3 : Int32)), wI (exv c d k (3 : Int32))]) a0_296 rfl) <| .s (.iload a0_298 rfl) <| .s (.iloadN a0_300 rfl) <| .s (.iloadN a0_301 rfl) <| .s (.iload a0_302 rfl) <| .s (.iload a0_304 rfl) ?_
  refine .callS a0_306 (ok7 hw _ _ _ _) (wd hw 39 rfl) (wd hw 40 rfl) (argsL := [(.int c), (.int d), (.int j), .int 3]) (S := [(.int (exv c d j (3 : Int32)))]) (c7 hw _ _ c d j (3 : Int32) _ _) rfl rfl rfl rfl rfl rfl (Nat.le_of_ble_eq_true rfl) (Nat.le_of_ble_eq_true rfl) ?_
  rintro _ _ _ ⟨rfl, rfl, rfl⟩
  show WGo _ (309, [wI a, wI b, wI c, wI d, wI e, wI f, wI s, wI 3, wI j, wI k, wR 0, wI (exv c d j (3 : Int32)), wI (exv c d k (3 : Int32))], [(.int (exv c d j (3 : Int32))), (.int (exv c d j (3 : Int32)))], [(.inr (cn0, [(fk0, .ref 1), (fk1, .ref 2), (fk2, .ref 3), (fk3, .int 28), (fk4, .int 3)])), (wAI (ia ks10)), (wAI (ia ns10)), (wAI (ia fl10))], 45) _
  refine .s (.icmpF a0_309 (teq rfl).2) <| .s (.iload a0_312 rfl) <| .s (.iloadN a0_314 rfl) <| .s (.iloadN a0_315 rfl) <| .s (.iload a0_316 rfl) <| .s (.iload a0_318 rfl) ?_
  refine .callS a0_320 (ok7 hw _ _ _ _) (wd hw 39 rfl) (wd hw 40 rfl) (argsL := [(.int c), (.int d), (.int k), .int 3]) (S := [(.int (exv c d k (3 : Int32)))]) (c7 hw _ _ c d k (3 : Int32) _ _) rfl rfl rfl rfl rfl rfl (Nat.le_of_ble_eq_true rfl) (Nat.le_of_ble_eq_true rfl) ?_
  rintro _ _ _ ⟨rfl, rfl, rfl⟩
  show WGo _ (323, [wI a, wI b, wI c, wI d, wI e, wI f, wI s, wI 3, wI j, wI k, wR 0, wI (exv c d j (3 : Int32)), wI (exv c d k (3 : Int32))], [(.int (exv c d k (3 : Int32))), (.int (exv c d k (3 : Int32)))], [(.inr (cn0, [(fk0, .ref 1), (fk1, .ref 2), (fk2, .ref 3), (fk3, .int 28), (fk4, .int 3)])), (wAI (ia ks10)), (wAI (ia ns10)), (wAI (ia fl10))], 45) _
  refine .s (.icmpF a0_323 (teq rfl).2) <| .s (.iconst (1 : Int32) a0_326 rfl) <| .s (.goto a0_327) ?_
  refine .ireturn .boolean a0_331 rfl (by simp) ?_
  exact ⟨rfl, Nat.le_of_ble_eq_true rfl, Nat.le_of_ble_eq_true rfl⟩
set_option maxHeartbeats 40000000 in
theorem seg4 (Z : State) (a0 : Array Value) (hw : ∀ d ∈ tables_1, d.before a0 Z = true) (n0 : Nat) (a b c d e f : Int32) (s j k : Int32) (ho : s.toInt % 2 = 1) (hj : j = 0 ∨ j = 1 ∨ j = 2 ∨ j = 3 ∨ j = 4 ∨ j = 5 ∨ j = 6 ∨ j = 7 ∨ j = 8 ∨ j = 9) (hk : k = 0 ∨ k = 1 ∨ k = 2 ∨ k = 3 ∨ k = 4 ∨ k = 5 ∨ k = 6 ∨ k = 7 ∨ k = 8 ∨ k = 9) : WGo (g0 Z (fun k => n0 + k) n0 0 0) (35, [wI a, wI b, wI c, wI d, wI e, wI f, wI s, wI 4, wI j, wI k, wU, wU, wU], [], [], 0) (fun v σ' u' => v = some (.int 1) ∧ σ'.length ≤ 24 ∧ u' ≤ 320) := by
  refine .s (.newO (k := 0) [(fk0, .null), (fk1, .null), (fk2, .null), (fk3, .int 0), (fk4, .int 0)] a0_35 (wd hw 2 rfl) (wd hw 3 rfl) (wd hw 4 rfl) ⟨⟨Or.inl (wd hw 13 rfl), (.array .int), by decide, rfl⟩, ⟨Or.inl (wd hw 15 rfl), (.array .int), by decide, rfl⟩, ⟨Or.inl (wd hw 17 rfl), (.array .int), by decide, rfl⟩, ⟨Or.inl (wd hw 24 rfl), .int, by decide, rfl⟩, ⟨Or.inl (wd hw 51 rfl), .int, by decide, rfl⟩, trivial⟩ (by decide) rfl (by decide)) ?_
  show WGo _ (38, [wI a, wI b, wI c, wI d, wI e, wI f, wI s, wI 4, wI j, wI k, wU, wU, wU], [.ref 0], [(.inr (cn0, [(fk0, .null), (fk1, .null), (fk2, .null), (fk3, .int 0), (fk4, .int 0)]))], 5) _
  refine .s (.dup a0_38 rfl) ?_
  refine .callI (k := 0) a0_39 (ok1 hw _ _ _ _) rfl rfl (wd hw 5 rfl) (wd hw 6 rfl) (by decide) (argsL := []) (S := [.ref 0]) (au1_1 hw _ _ _) rfl rfl rfl rfl rfl rfl (Nat.le_of_ble_eq_true rfl) (Nat.le_of_ble_eq_true rfl) ?_
  rintro _ _ _ ⟨rfl, rfl, rfl⟩; have hR11 : WRep 16 (whash 28) (List.replicate 16 0) (List.replicate 16 0) (List.replicate 8 0) [] := WRep.nil rfl rfl
  show WGo _ (42, [wI a, wI b, wI c, wI d, wI e, wI f, wI s, wI 4, wI j, wI k, wU, wU, wU], [.ref 0], [(.inr (cn0, [(fk0, .ref 1), (fk1, .ref 2), (fk2, .ref 3), (fk3, .int 28), (fk4, .int 0)])), (wAI (ia (List.replicate 16 0))), (wAI (ia (List.replicate 16 0))), (wAI (ia (List.replicate 8 0)))], 45) _
  refine .s (.astore (L' := [wI a, wI b, wI c, wI d, wI e, wI f, wI s, wI 4, wI j, wI k, wR 0, wU, wU]) a0_42 rfl rfl) <| .s (.iload a0_44 rfl) <| .s (.ifF a0_46 (by decide)) <| .s (.aload a0_49 rfl rfl) <| .s (.iloadN a0_51 rfl) <| .s (.iload a0_52 rfl) <| .s (.iconst (0 : Int32) a0_54 rfl) ?_
  refine .callS a0_55 (ok4 hw _ _ _ _) (wd hw 25 rfl) (wd hw 26 rfl) (argsL := [(.int a), (.int s), .int 0]) (S := [.ref 0]) (c4 hw _ _ a s (0 : Int32) _ _) rfl rfl rfl rfl rfl rfl (Nat.le_of_ble_eq_true rfl) (Nat.le_of_ble_eq_true rfl) ?_
  rintro _ _ _ ⟨rfl, rfl, rfl⟩
  show WGo _ (58, [wI a, wI b, wI c, wI d, wI e, wI f, wI s, wI 4, wI j, wI k, wR 0, wU, wU], [(.int (plv a s (0 : Int32))), .ref 0], [(.inr (cn0, [(fk0, .ref 1), (fk1, .ref 2), (fk2, .ref 3), (fk3, .int 28), (fk4, .int 0)])), (wAI (ia (List.replicate 16 0))), (wAI (ia (List.replicate 16 0))), (wAI (ia (List.replicate 8 0)))], 45) _
  refine .s (.iloadN a0_58 rfl) <| .s (.iloadN a0_59 rfl) <| .s (.iconst (0 : Int32) a0_60 rfl) ?_
  refine .callS a0_61 (ok8 hw _ _ _ _) (wd hw 42 rfl) (wd hw 43 rfl) (argsL := [(.int c), (.int d), .int 0]) (S := [(.int (plv a s (0 : Int32))), .ref 0]) (c8 hw _ _ c d (0 : Int32) _ _) rfl rfl rfl rfl rfl rfl (Nat.le_of_ble_eq_true rfl) (Nat.le_of_ble_eq_true rfl) ?_
  rintro _ _ _ ⟨rfl, rfl, rfl⟩
  show WGo _ (64, [wI a, wI b, wI c, wI d, wI e, wI f, wI s, wI 4, wI j, wI k, wR 0, wU, wU], [(.int (nuv c d (0 : Int32))), (.int (plv a s (0 : Int32))), .ref 0], [(.inr (cn0, [(fk0, .ref 1), (fk1, .ref 2), (fk2, .ref 3), (fk3, .int 28), (fk4, .int 0)])), (wAI (ia (List.replicate 16 0))), (wAI (ia (List.replicate 16 0))), (wAI (ia (List.replicate 8 0)))], 45) _
  refine .callV (k := 0) (z := (⟨"com/example/tributary/tributary/facts/PlaceMap", "put", "(II)V"⟩ : MethodName)) a0_64 (ok9 hw _ _ _ _) ⟨rfl, by decide⟩ (wd hw 45 rfl) (wd hw 46 rfl) (fun s hZ => notFace_of_selects (args := #[]) (mvT hZ (wd hw 48 rfl))) (wd hw 48 rfl) (wd hw 47 rfl) rfl (argsL := [(.int (plv a s (0 : Int32))), (.int (nuv c d (0 : Int32)))]) (S := []) (cputA_0 hw _ _ (List.replicate 16 0) (List.replicate 16 0) (List.replicate 8 0) [] (plv a s (0 : Int32)) (nuv c d (0 : Int32)) hR11 rfl (plv_nz _ _ _) new_nil _) rfl rfl rfl rfl rfl rfl (Nat.le_of_ble_eq_true rfl) (Nat.le_of_ble_eq_true rfl) ?_
  rintro _ _ _ ⟨ks12, ns12, fl12, s_12, hR12', rfl, rfl, rfl⟩; have hR12 : WRep 16 (whash 28) ks12 ns12 fl12 [(s_12, (plv a s (0 : Int32)), (nuv c d (0 : Int32)))] := hR12'
  show WGo _ (67, [wI a, wI b, wI c, wI d, wI e, wI f, wI s, wI 4, wI j, wI k, wR 0, wU, wU], [], [(.inr (cn0, [(fk0, .ref 1), (fk1, .ref 2), (fk2, .ref 3), (fk3, .int 28), (fk4, .int 1)])), (wAI (ia ks12)), (wAI (ia ns12)), (wAI (ia fl12))], 45) _
  refine .s (.iload a0_67 rfl) <| .s (.iconst (1 : Int32) a0_69 rfl) <| .s (.icmpF a0_70 (by decide)) <| .s (.aload a0_73 rfl rfl) <| .s (.iloadN a0_75 rfl) <| .s (.iload a0_76 rfl) <| .s (.iconst (1 : Int32) a0_78 rfl) ?_
  refine .callS a0_79 (ok4 hw _ _ _ _) (wd hw 25 rfl) (wd hw 26 rfl) (argsL := [(.int a), (.int s), .int 1]) (S := [.ref 0]) (c4 hw _ _ a s (1 : Int32) _ _) rfl rfl rfl rfl rfl rfl (Nat.le_of_ble_eq_true rfl) (Nat.le_of_ble_eq_true rfl) ?_
  rintro _ _ _ ⟨rfl, rfl, rfl⟩
  show WGo _ (82, [wI a, wI b, wI c, wI d, wI e, wI f, wI s, wI 4, wI j, wI k, wR 0, wU, wU], [(.int (plv a s (1 : Int32))), .ref 0], [(.inr (cn0, [(fk0, .ref 1), (fk1, .ref 2), (fk2, .ref 3), (fk3, .int 28), (fk4, .int 1)])), (wAI (ia ks12)), (wAI (ia ns12)), (wAI (ia fl12))], 45) _
  refine .s (.iloadN a0_82 rfl) <| .s (.iloadN a0_83 rfl) <| .s (.iconst (1 : Int32) a0_84 rfl) ?_
  refine .callS a0_85 (ok8 hw _ _ _ _) (wd hw 42 rfl) (wd hw 43 rfl) (argsL := [(.int c), (.int d), .int 1]) (S := [(.int (plv a s (1 : Int32))), .ref 0]) (c8 hw _ _ c d (1 : Int32) _ _) rfl rfl rfl rfl rfl rfl (Nat.le_of_ble_eq_true rfl) (Nat.le_of_ble_eq_true rfl) ?_
  rintro _ _ _ ⟨rfl, rfl, rfl⟩
  show WGo _ (88, [wI a, wI b, wI c, wI d, wI e, wI f, wI s, wI 4, wI j, wI k, wR 0, wU, wU], [(.int (nuv c d (1 : Int32))), (.int (plv a s (1 : Int32))), .ref 0], [(.inr (cn0, [(fk0, .ref 1), (fk1, .ref 2), (fk2, .ref 3), (fk3, .int 28), (fk4, .int 1)])), (wAI (ia ks12)), (wAI (ia ns12)), (wAI (ia fl12))], 45) _
  refine .callV (k := 0) (z := (⟨"com/example/tributary/tributary/facts/PlaceMap", "put", "(II)V"⟩ : MethodName)) a0_88 (ok9 hw _ _ _ _) ⟨rfl, by decide⟩ (wd hw 45 rfl) (wd hw 46 rfl) (fun s hZ => notFace_of_selects (args := #[]) (mvT hZ (wd hw 48 rfl))) (wd hw 48 rfl) (wd hw 47 rfl) rfl (argsL := [(.int (plv a s (1 : Int32))), (.int (nuv c d (1 : Int32)))]) (S := []) (cputA_1 hw _ _ ks12 ns12 fl12 [(s_12, (plv a s (0 : Int32)), (nuv c d (0 : Int32)))] (plv a s (1 : Int32)) (nuv c d (1 : Int32)) hR12 rfl (plv_nz _ _ _) (new_cons (plv_ne a s _ _ 0 1 rfl rfl ho (by decide)) new_nil) _) rfl rfl rfl rfl rfl rfl (Nat.le_of_ble_eq_true rfl) (Nat.le_of_ble_eq_true rfl) ?_
  rintro _ _ _ ⟨ks13, ns13, fl13, s_13, hR13', rfl, rfl, rfl⟩; have hR13 : WRep 16 (whash 28) ks13 ns13 fl13 [(s_12, (plv a s (0 : Int32)), (nuv c d (0 : Int32))), (s_13, (plv a s (1 : Int32)), (nuv c d (1 : Int32)))] := hR13'
  show WGo _ (91, [wI a, wI b, wI c, wI d, wI e, wI f, wI s, wI 4, wI j, wI k, wR 0, wU, wU], [], [(.inr (cn0, [(fk0, .ref 1), (fk1, .ref 2), (fk2, .ref 3), (fk3, .int 28), (fk4, .int 2)])), (wAI (ia ks13)), (wAI (ia ns13)), (wAI (ia fl13))], 45) _
  refine .s (.iload a0_91 rfl) <| .s (.iconst (2 : Int32) a0_93 rfl) <| .s (.icmpF a0_94 (by decide)) <| .s (.aload a0_97 rfl rfl) <| .s (.iloadN a0_99 rfl) <| .s (.iload a0_100 rfl) <| .s (.iconst (2 : Int32) a0_102 rfl) ?_
  refine .callS a0_103 (ok4 hw _ _ _ _) (wd hw 25 rfl) (wd hw 26 rfl) (argsL := [(.int a), (.int s), .int 2]) (S := [.ref 0]) (c4 hw _ _ a s (2 : Int32) _ _) rfl rfl rfl rfl rfl rfl (Nat.le_of_ble_eq_true rfl) (Nat.le_of_ble_eq_true rfl) ?_
  rintro _ _ _ ⟨rfl, rfl, rfl⟩
  show WGo _ (106, [wI a, wI b, wI c, wI d, wI e, wI f, wI s, wI 4, wI j, wI k, wR 0, wU, wU], [(.int (plv a s (2 : Int32))), .ref 0], [(.inr (cn0, [(fk0, .ref 1), (fk1, .ref 2), (fk2, .ref 3), (fk3, .int 28), (fk4, .int 2)])), (wAI (ia ks13)), (wAI (ia ns13)), (wAI (ia fl13))], 45) _
  refine .s (.iloadN a0_106 rfl) <| .s (.iloadN a0_107 rfl) <| .s (.iconst (2 : Int32) a0_108 rfl) ?_
  refine .callS a0_109 (ok8 hw _ _ _ _) (wd hw 42 rfl) (wd hw 43 rfl) (argsL := [(.int c), (.int d), .int 2]) (S := [(.int (plv a s (2 : Int32))), .ref 0]) (c8 hw _ _ c d (2 : Int32) _ _) rfl rfl rfl rfl rfl rfl (Nat.le_of_ble_eq_true rfl) (Nat.le_of_ble_eq_true rfl) ?_
  rintro _ _ _ ⟨rfl, rfl, rfl⟩
  show WGo _ (112, [wI a, wI b, wI c, wI d, wI e, wI f, wI s, wI 4, wI j, wI k, wR 0, wU, wU], [(.int (nuv c d (2 : Int32))), (.int (plv a s (2 : Int32))), .ref 0], [(.inr (cn0, [(fk0, .ref 1), (fk1, .ref 2), (fk2, .ref 3), (fk3, .int 28), (fk4, .int 2)])), (wAI (ia ks13)), (wAI (ia ns13)), (wAI (ia fl13))], 45) _
  refine .callV (k := 0) (z := (⟨"com/example/tributary/tributary/facts/PlaceMap", "put", "(II)V"⟩ : MethodName)) a0_112 (ok9 hw _ _ _ _) ⟨rfl, by decide⟩ (wd hw 45 rfl) (wd hw 46 rfl) (fun s hZ => notFace_of_selects (args := #[]) (mvT hZ (wd hw 48 rfl))) (wd hw 48 rfl) (wd hw 47 rfl) rfl (argsL := [(.int (plv a s (2 : Int32))), (.int (nuv c d (2 : Int32)))]) (S := []) (cputA_2 hw _ _ ks13 ns13 fl13 [(s_12, (plv a s (0 : Int32)), (nuv c d (0 : Int32))), (s_13, (plv a s (1 : Int32)), (nuv c d (1 : Int32)))] (plv a s (2 : Int32)) (nuv c d (2 : Int32)) hR13 rfl (plv_nz _ _ _) (new_cons (plv_ne a s _ _ 0 2 rfl rfl ho (by decide)) (new_cons (plv_ne a s _ _ 1 2 rfl rfl ho (by decide)) new_nil)) _) rfl rfl rfl rfl rfl rfl (Nat.le_of_ble_eq_true rfl) (Nat.le_of_ble_eq_true rfl) ?_
  rintro _ _ _ ⟨ks14, ns14, fl14, s_14, hR14', rfl, rfl, rfl⟩; have hR14 : WRep 16 (whash 28) ks14 ns14 fl14 [(s_12, (plv a s (0 : Int32)), (nuv c d (0 : Int32))), (s_13, (plv a s (1 : Int32)), (nuv c d (1 : Int32))), (s_14, (plv a s (2 : Int32)), (nuv c d (2 : Int32)))] := hR14'
  show WGo _ (115, [wI a, wI b, wI c, wI d, wI e, wI f, wI s, wI 4, wI j, wI k, wR 0, wU, wU], [], [(.inr (cn0, [(fk0, .ref 1), (fk1, .ref 2), (fk2, .ref 3), (fk3, .int 28), (fk4, .int 3)])), (wAI (ia ks14)), (wAI (ia ns14)), (wAI (ia fl14))], 45) _
  refine .s (.iload a0_115 rfl) <| .s (.iconst (3 : Int32) a0_117 rfl) <| .s (.icmpF a0_118 (by decide)) <| .s (.aload a0_121 rfl rfl) <| .s (.iloadN a0_123 rfl) <| .s (.iload a0_124 rfl) <| .s (.iconst (3 : Int32) a0_126 rfl) ?_
  refine .callS a0_127 (ok4 hw _ _ _ _) (wd hw 25 rfl) (wd hw 26 rfl) (argsL := [(.int a), (.int s), .int 3]) (S := [.ref 0]) (c4 hw _ _ a s (3 : Int32) _ _) rfl rfl rfl rfl rfl rfl (Nat.le_of_ble_eq_true rfl) (Nat.le_of_ble_eq_true rfl) ?_
  rintro _ _ _ ⟨rfl, rfl, rfl⟩
  show WGo _ (130, [wI a, wI b, wI c, wI d, wI e, wI f, wI s, wI 4, wI j, wI k, wR 0, wU, wU], [(.int (plv a s (3 : Int32))), .ref 0], [(.inr (cn0, [(fk0, .ref 1), (fk1, .ref 2), (fk2, .ref 3), (fk3, .int 28), (fk4, .int 3)])), (wAI (ia ks14)), (wAI (ia ns14)), (wAI (ia fl14))], 45) _
  refine .s (.iloadN a0_130 rfl) <| .s (.iloadN a0_131 rfl) <| .s (.iconst (3 : Int32) a0_132 rfl) ?_
  refine .callS a0_133 (ok8 hw _ _ _ _) (wd hw 42 rfl) (wd hw 43 rfl) (argsL := [(.int c), (.int d), .int 3]) (S := [(.int (plv a s (3 : Int32))), .ref 0]) (c8 hw _ _ c d (3 : Int32) _ _) rfl rfl rfl rfl rfl rfl (Nat.le_of_ble_eq_true rfl) (Nat.le_of_ble_eq_true rfl) ?_
  rintro _ _ _ ⟨rfl, rfl, rfl⟩
  show WGo _ (136, [wI a, wI b, wI c, wI d, wI e, wI f, wI s, wI 4, wI j, wI k, wR 0, wU, wU], [(.int (nuv c d (3 : Int32))), (.int (plv a s (3 : Int32))), .ref 0], [(.inr (cn0, [(fk0, .ref 1), (fk1, .ref 2), (fk2, .ref 3), (fk3, .int 28), (fk4, .int 3)])), (wAI (ia ks14)), (wAI (ia ns14)), (wAI (ia fl14))], 45) _
  refine .callV (k := 0) (z := (⟨"com/example/tributary/tributary/facts/PlaceMap", "put", "(II)V"⟩ : MethodName)) a0_136 (ok9 hw _ _ _ _) ⟨rfl, by decide⟩ (wd hw 45 rfl) (wd hw 46 rfl) (fun s hZ => notFace_of_selects (args := #[]) (mvT hZ (wd hw 48 rfl))) (wd hw 48 rfl) (wd hw 47 rfl) rfl (argsL := [(.int (plv a s (3 : Int32))), (.int (nuv c d (3 : Int32)))]) (S := []) (cputA_3 hw _ _ ks14 ns14 fl14 [(s_12, (plv a s (0 : Int32)), (nuv c d (0 : Int32))), (s_13, (plv a s (1 : Int32)), (nuv c d (1 : Int32))), (s_14, (plv a s (2 : Int32)), (nuv c d (2 : Int32)))] (plv a s (3 : Int32)) (nuv c d (3 : Int32)) hR14 rfl (plv_nz _ _ _) (new_cons (plv_ne a s _ _ 0 3 rfl rfl ho (by decide)) (new_cons (plv_ne a s _ _ 1 3 rfl rfl ho (by decide)) (new_cons (plv_ne a s _ _ 2 3 rfl rfl ho (by decide)) new_nil))) _) rfl rfl rfl rfl rfl rfl (Nat.le_of_ble_eq_true rfl) (Nat.le_of_ble_eq_true rfl) ?_
  rintro _ _ _ ⟨ks15, ns15, fl15, s_15, hR15', rfl, rfl, rfl⟩; have hR15 : WRep 16 (whash 28) ks15 ns15 fl15 [(s_12, (plv a s (0 : Int32)), (nuv c d (0 : Int32))), (s_13, (plv a s (1 : Int32)), (nuv c d (1 : Int32))), (s_14, (plv a s (2 : Int32)), (nuv c d (2 : Int32))), (s_15, (plv a s (3 : Int32)), (nuv c d (3 : Int32)))] := hR15'
  show WGo _ (139, [wI a, wI b, wI c, wI d, wI e, wI f, wI s, wI 4, wI j, wI k, wR 0, wU, wU], [], [(.inr (cn0, [(fk0, .ref 1), (fk1, .ref 2), (fk2, .ref 3), (fk3, .int 28), (fk4, .int 4)])), (wAI (ia ks15)), (wAI (ia ns15)), (wAI (ia fl15))], 45) _
  refine .s (.iload a0_139 rfl) <| .s (.iconst (4 : Int32) a0_141 rfl) <| .s (.icmpT a0_142 (by decide)) <| .s (.iload a0_163 rfl) <| .s (.iconst (5 : Int32) a0_165 rfl) <| .s (.icmpT a0_166 (by decide)) <| .s (.iload a0_187 rfl) ?_
  refine .s (.bipush (6 : Int32) a0_189 rfl) <| .s (.icmpT a0_191 (by decide)) <| .s (.iload a0_214 rfl) <| .s (.bipush (7 : Int32) a0_216 rfl) <| .s (.icmpT a0_218 (by decide)) <| .s (.iload a0_241 rfl) <| .s (.bipush (8 : Int32) a0_243 rfl) ?_
  refine .s (.icmpT a0_245 (by decide)) <| .s (.aload a0_268 rfl rfl) <| .s (.iloadN a0_270 rfl) <| .s (.iload a0_271 rfl) <| .s (.iload a0_273 rfl) ?_
  refine .callS a0_275 (ok4 hw _ _ _ _) (wd hw 25 rfl) (wd hw 26 rfl) (argsL := [(.int a), (.int s), (.int j)]) (S := [.ref 0]) (c4 hw _ _ a s j _ _) rfl rfl rfl rfl rfl rfl (Nat.le_of_ble_eq_true rfl) (Nat.le_of_ble_eq_true rfl) ?_
  rintro _ _ _ ⟨rfl, rfl, rfl⟩
  show WGo _ (278, [wI a, wI b, wI c, wI d, wI e, wI f, wI s, wI 4, wI j, wI k, wR 0, wU, wU], [(.int (plv a s j)), .ref 0], [(.inr (cn0, [(fk0, .ref 1), (fk1, .ref 2), (fk2, .ref 3), (fk3, .int 28), (fk4, .int 4)])), (wAI (ia ks15)), (wAI (ia ns15)), (wAI (ia fl15))], 45) _
  refine .callV (k := 0) (z := (⟨"com/example/tributary/tributary/facts/PlaceMap", "get", "(I)I"⟩ : MethodName)) a0_278 (ok5 hw _ _ _ _) ⟨rfl, by decide⟩ (wd hw 29 rfl) (wd hw 30 rfl) (fun s hZ => notFace_of_selects (args := #[]) (mvT hZ (wd hw 32 rfl))) (wd hw 32 rfl) (wd hw 31 rfl) rfl (argsL := [(.int (plv a s j))]) (S := []) (cgetA hw _ _ ks15 ns15 fl15 [(s_12, (plv a s (0 : Int32)), (nuv c d (0 : Int32))), (s_13, (plv a s (1 : Int32)), (nuv c d (1 : Int32))), (s_14, (plv a s (2 : Int32)), (nuv c d (2 : Int32))), (s_15, (plv a s (3 : Int32)), (nuv c d (3 : Int32)))] (plv a s j) 4 hR15 _) rfl rfl rfl rfl rfl rfl (Nat.le_of_ble_eq_true rfl) (Nat.le_of_ble_eq_true rfl) ?_
  rintro _ _ _ ⟨rfl, rfl, rfl⟩; rw [look4 a s c d j s_12 s_13 s_14 s_15 ho hj]
  show WGo _ (281, [wI a, wI b, wI c, wI d, wI e, wI f, wI s, wI 4, wI j, wI k, wR 0, wU, wU], [(.int (exv c d j (4 : Int32)))], [(.inr (cn0, [(fk0, .ref 1), (fk1, .ref 2), (fk2, .ref 3), (fk3, .int 28), (fk4, .int 4)])), (wAI (ia ks15)), (wAI (ia ns15)), (wAI (ia fl15))], 45) _
  refine .s (.istore (L' := [wI a, wI b, wI c, wI d, wI e, wI f, wI s, wI 4, wI j, wI k, wR 0, wI (exv c d j (4 : Int32)), wU]) a0_281 rfl) <| .s (.aload a0_283 rfl rfl) <| .s (.iloadN a0_285 rfl) <| .s (.iload a0_286 rfl) <| .s (.iload a0_288 rfl) ?_
  refine .callS a0_290 (ok4 hw _ _ _ _) (wd hw 25 rfl) (wd hw 26 rfl) (argsL := [(.int a), (.int s), (.int k)]) (S := [.ref 0]) (c4 hw _ _ a s k _ _) rfl rfl rfl rfl rfl rfl (Nat.le_of_ble_eq_true rfl) (Nat.le_of_ble_eq_true rfl) ?_
  rintro _ _ _ ⟨rfl, rfl, rfl⟩
  show WGo _ (293, [wI a, wI b, wI c, wI d, wI e, wI f, wI s, wI 4, wI j, wI k, wR 0, wI (exv c d j (4 : Int32)), wU], [(.int (plv a s k)), .ref 0], [(.inr (cn0, [(fk0, .ref 1), (fk1, .ref 2), (fk2, .ref 3), (fk3, .int 28), (fk4, .int 4)])), (wAI (ia ks15)), (wAI (ia ns15)), (wAI (ia fl15))], 45) _
  refine .callV (k := 0) (z := (⟨"com/example/tributary/tributary/facts/PlaceMap", "get", "(I)I"⟩ : MethodName)) a0_293 (ok5 hw _ _ _ _) ⟨rfl, by decide⟩ (wd hw 29 rfl) (wd hw 30 rfl) (fun s hZ => notFace_of_selects (args := #[]) (mvT hZ (wd hw 32 rfl))) (wd hw 32 rfl) (wd hw 31 rfl) rfl (argsL := [(.int (plv a s k))]) (S := []) (cgetA hw _ _ ks15 ns15 fl15 [(s_12, (plv a s (0 : Int32)), (nuv c d (0 : Int32))), (s_13, (plv a s (1 : Int32)), (nuv c d (1 : Int32))), (s_14, (plv a s (2 : Int32)), (nuv c d (2 : Int32))), (s_15, (plv a s (3 : Int32)), (nuv c d (3 : Int32)))] (plv a s k) 4 hR15 _) rfl rfl rfl rfl rfl rfl (Nat.le_of_ble_eq_true rfl) (Nat.le_of_ble_eq_true rfl) ?_
  rintro _ _ _ ⟨rfl, rfl, rfl⟩; rw [look4 a s c d k s_12 s_13 s_14 s_15 ho hk]
  show WGo _ (296, [wI a, wI b, wI c, wI d, wI e, wI f, wI s, wI 4, wI j, wI k, wR 0, wI (exv c d j (4 : Int32)), wU], [(.int (exv c d k (4 : Int32)))], [(.inr (cn0, [(fk0, .ref 1), (fk1, .ref 2), (fk2, .ref 3), (fk3, .int 28), (fk4, .int 4)])), (wAI (ia ks15)), (wAI (ia ns15)), (wAI (ia fl15))], 45) _
  refine .s (.istore (L' := [wI a, wI b, wI c, wI d, wI e, wI f, wI s, wI 4, wI j, wI k, wR 0, wI (exv c d j (4 : Int32)), wI (exv c d k (4 : Int32))]) a0_296 rfl) <| .s (.iload a0_298 rfl) <| .s (.iloadN a0_300 rfl) <| .s (.iloadN a0_301 rfl) <| .s (.iload a0_302 rfl) <| .s (.iload a0_304 rfl) ?_
  refine .callS a0_306 (ok7 hw _ _ _ _) (wd hw 39 rfl) (wd hw 40 rfl) (argsL := [(.int c), (.int d), (.int j), .int 4]) (S := [(.int (exv c d j (4 : Int32)))]) (c7 hw _ _ c d j (4 : Int32) _ _) rfl rfl rfl rfl rfl rfl (Nat.le_of_ble_eq_true rfl) (Nat.le_of_ble_eq_true rfl) ?_
  rintro _ _ _ ⟨rfl, rfl, rfl⟩
  show WGo _ (309, [wI a, wI b, wI c, wI d, wI e, wI f, wI s, wI 4, wI j, wI k, wR 0, wI (exv c d j (4 : Int32)), wI (exv c d k (4 : Int32))], [(.int (exv c d j (4 : Int32))), (.int (exv c d j (4 : Int32)))], [(.inr (cn0, [(fk0, .ref 1), (fk1, .ref 2), (fk2, .ref 3), (fk3, .int 28), (fk4, .int 4)])), (wAI (ia ks15)), (wAI (ia ns15)), (wAI (ia fl15))], 45) _
  refine .s (.icmpF a0_309 (teq rfl).2) <| .s (.iload a0_312 rfl) <| .s (.iloadN a0_314 rfl) <| .s (.iloadN a0_315 rfl) <| .s (.iload a0_316 rfl) <| .s (.iload a0_318 rfl) ?_
  refine .callS a0_320 (ok7 hw _ _ _ _) (wd hw 39 rfl) (wd hw 40 rfl) (argsL := [(.int c), (.int d), (.int k), .int 4]) (S := [(.int (exv c d k (4 : Int32)))]) (c7 hw _ _ c d k (4 : Int32) _ _) rfl rfl rfl rfl rfl rfl (Nat.le_of_ble_eq_true rfl) (Nat.le_of_ble_eq_true rfl) ?_
  rintro _ _ _ ⟨rfl, rfl, rfl⟩
  show WGo _ (323, [wI a, wI b, wI c, wI d, wI e, wI f, wI s, wI 4, wI j, wI k, wR 0, wI (exv c d j (4 : Int32)), wI (exv c d k (4 : Int32))], [(.int (exv c d k (4 : Int32))), (.int (exv c d k (4 : Int32)))], [(.inr (cn0, [(fk0, .ref 1), (fk1, .ref 2), (fk2, .ref 3), (fk3, .int 28), (fk4, .int 4)])), (wAI (ia ks15)), (wAI (ia ns15)), (wAI (ia fl15))], 45) _
  refine .s (.icmpF a0_323 (teq rfl).2) <| .s (.iconst (1 : Int32) a0_326 rfl) <| .s (.goto a0_327) ?_
  refine .ireturn .boolean a0_331 rfl (by simp) ?_
  exact ⟨rfl, Nat.le_of_ble_eq_true rfl, Nat.le_of_ble_eq_true rfl⟩
set_option maxHeartbeats 40000000 in
theorem seg5 (Z : State) (a0 : Array Value) (hw : ∀ d ∈ tables_1, d.before a0 Z = true) (n0 : Nat) (a b c d e f : Int32) (s j k : Int32) (ho : s.toInt % 2 = 1) (hj : j = 0 ∨ j = 1 ∨ j = 2 ∨ j = 3 ∨ j = 4 ∨ j = 5 ∨ j = 6 ∨ j = 7 ∨ j = 8 ∨ j = 9) (hk : k = 0 ∨ k = 1 ∨ k = 2 ∨ k = 3 ∨ k = 4 ∨ k = 5 ∨ k = 6 ∨ k = 7 ∨ k = 8 ∨ k = 9) : WGo (g0 Z (fun k => n0 + k) n0 0 0) (35, [wI a, wI b, wI c, wI d, wI e, wI f, wI s, wI 5, wI j, wI k, wU, wU, wU], [], [], 0) (fun v σ' u' => v = some (.int 1) ∧ σ'.length ≤ 24 ∧ u' ≤ 320) := by
  refine .s (.newO (k := 0) [(fk0, .null), (fk1, .null), (fk2, .null), (fk3, .int 0), (fk4, .int 0)] a0_35 (wd hw 2 rfl) (wd hw 3 rfl) (wd hw 4 rfl) ⟨⟨Or.inl (wd hw 13 rfl), (.array .int), by decide, rfl⟩, ⟨Or.inl (wd hw 15 rfl), (.array .int), by decide, rfl⟩, ⟨Or.inl (wd hw 17 rfl), (.array .int), by decide, rfl⟩, ⟨Or.inl (wd hw 24 rfl), .int, by decide, rfl⟩, ⟨Or.inl (wd hw 51 rfl), .int, by decide, rfl⟩, trivial⟩ (by decide) rfl (by decide)) ?_
  show WGo _ (38, [wI a, wI b, wI c, wI d, wI e, wI f, wI s, wI 5, wI j, wI k, wU, wU, wU], [.ref 0], [(.inr (cn0, [(fk0, .null), (fk1, .null), (fk2, .null), (fk3, .int 0), (fk4, .int 0)]))], 5) _
  refine .s (.dup a0_38 rfl) ?_
  refine .callI (k := 0) a0_39 (ok1 hw _ _ _ _) rfl rfl (wd hw 5 rfl) (wd hw 6 rfl) (by decide) (argsL := []) (S := [.ref 0]) (au1_1 hw _ _ _) rfl rfl rfl rfl rfl rfl (Nat.le_of_ble_eq_true rfl) (Nat.le_of_ble_eq_true rfl) ?_
  rintro _ _ _ ⟨rfl, rfl, rfl⟩; have hR16 : WRep 16 (whash 28) (List.replicate 16 0) (List.replicate 16 0) (List.replicate 8 0) [] := WRep.nil rfl rfl
  show WGo _ (42, [wI a, wI b, wI c, wI d, wI e, wI f, wI s, wI 5, wI j, wI k, wU, wU, wU], [.ref 0], [(.inr (cn0, [(fk0, .ref 1), (fk1, .ref 2), (fk2, .ref 3), (fk3, .int 28), (fk4, .int 0)])), (wAI (ia (List.replicate 16 0))), (wAI (ia (List.replicate 16 0))), (wAI (ia (List.replicate 8 0)))], 45) _
  refine .s (.astore (L' := [wI a, wI b, wI c, wI d, wI e, wI f, wI s, wI 5, wI j, wI k, wR 0, wU, wU]) a0_42 rfl rfl) <| .s (.iload a0_44 rfl) <| .s (.ifF a0_46 (by decide)) <| .s (.aload a0_49 rfl rfl) <| .s (.iloadN a0_51 rfl) <| .s (.iload a0_52 rfl) <| .s (.iconst (0 : Int32) a0_54 rfl) ?_
  refine .callS a0_55 (ok4 hw _ _ _ _) (wd hw 25 rfl) (wd hw 26 rfl) (argsL := [(.int a), (.int s), .int 0]) (S := [.ref 0]) (c4 hw _ _ a s (0 : Int32) _ _) rfl rfl rfl rfl rfl rfl (Nat.le_of_ble_eq_true rfl) (Nat.le_of_ble_eq_true rfl) ?_
  rintro _ _ _ ⟨rfl, rfl, rfl⟩
  show WGo _ (58, [wI a, wI b, wI c, wI d, wI e, wI f, wI s, wI 5, wI j, wI k, wR 0, wU, wU], [(.int (plv a s (0 : Int32))), .ref 0], [(.inr (cn0, [(fk0, .ref 1), (fk1, .ref 2), (fk2, .ref 3), (fk3, .int 28), (fk4, .int 0)])), (wAI (ia (List.replicate 16 0))), (wAI (ia (List.replicate 16 0))), (wAI (ia (List.replicate 8 0)))], 45) _
  refine .s (.iloadN a0_58 rfl) <| .s (.iloadN a0_59 rfl) <| .s (.iconst (0 : Int32) a0_60 rfl) ?_
  refine .callS a0_61 (ok8 hw _ _ _ _) (wd hw 42 rfl) (wd hw 43 rfl) (argsL := [(.int c), (.int d), .int 0]) (S := [(.int (plv a s (0 : Int32))), .ref 0]) (c8 hw _ _ c d (0 : Int32) _ _) rfl rfl rfl rfl rfl rfl (Nat.le_of_ble_eq_true rfl) (Nat.le_of_ble_eq_true rfl) ?_
  rintro _ _ _ ⟨rfl, rfl, rfl⟩
  show WGo _ (64, [wI a, wI b, wI c, wI d, wI e, wI f, wI s, wI 5, wI j, wI k, wR 0, wU, wU], [(.int (nuv c d (0 : Int32))), (.int (plv a s (0 : Int32))), .ref 0], [(.inr (cn0, [(fk0, .ref 1), (fk1, .ref 2), (fk2, .ref 3), (fk3, .int 28), (fk4, .int 0)])), (wAI (ia (List.replicate 16 0))), (wAI (ia (List.replicate 16 0))), (wAI (ia (List.replicate 8 0)))], 45) _
  refine .callV (k := 0) (z := (⟨"com/example/tributary/tributary/facts/PlaceMap", "put", "(II)V"⟩ : MethodName)) a0_64 (ok9 hw _ _ _ _) ⟨rfl, by decide⟩ (wd hw 45 rfl) (wd hw 46 rfl) (fun s hZ => notFace_of_selects (args := #[]) (mvT hZ (wd hw 48 rfl))) (wd hw 48 rfl) (wd hw 47 rfl) rfl (argsL := [(.int (plv a s (0 : Int32))), (.int (nuv c d (0 : Int32)))]) (S := []) (cputA_0 hw _ _ (List.replicate 16 0) (List.replicate 16 0) (List.replicate 8 0) [] (plv a s (0 : Int32)) (nuv c d (0 : Int32)) hR16 rfl (plv_nz _ _ _) new_nil _) rfl rfl rfl rfl rfl rfl (Nat.le_of_ble_eq_true rfl) (Nat.le_of_ble_eq_true rfl) ?_
  rintro _ _ _ ⟨ks17, ns17, fl17, s_17, hR17', rfl, rfl, rfl⟩; have hR17 : WRep 16 (whash 28) ks17 ns17 fl17 [(s_17, (plv a s (0 : Int32)), (nuv c d (0 : Int32)))] := hR17'
  show WGo _ (67, [wI a, wI b, wI c, wI d, wI e, wI f, wI s, wI 5, wI j, wI k, wR 0, wU, wU], [], [(.inr (cn0, [(fk0, .ref 1), (fk1, .ref 2), (fk2, .ref 3), (fk3, .int 28), (fk4, .int 1)])), (wAI (ia ks17)), (wAI (ia ns17)), (wAI (ia fl17))], 45) _
  refine .s (.iload a0_67 rfl) <| .s (.iconst (1 : Int32) a0_69 rfl) <| .s (.icmpF a0_70 (by decide)) <| .s (.aload a0_73 rfl rfl) <| .s (.iloadN a0_75 rfl) <| .s (.iload a0_76 rfl) <| .s (.iconst (1 : Int32) a0_78 rfl) ?_
  refine .callS a0_79 (ok4 hw _ _ _ _) (wd hw 25 rfl) (wd hw 26 rfl) (argsL := [(.int a), (.int s), .int 1]) (S := [.ref 0]) (c4 hw _ _ a s (1 : Int32) _ _) rfl rfl rfl rfl rfl rfl (Nat.le_of_ble_eq_true rfl) (Nat.le_of_ble_eq_true rfl) ?_
  rintro _ _ _ ⟨rfl, rfl, rfl⟩
  show WGo _ (82, [wI a, wI b, wI c, wI d, wI e, wI f, wI s, wI 5, wI j, wI k, wR 0, wU, wU], [(.int (plv a s (1 : Int32))), .ref 0], [(.inr (cn0, [(fk0, .ref 1), (fk1, .ref 2), (fk2, .ref 3), (fk3, .int 28), (fk4, .int 1)])), (wAI (ia ks17)), (wAI (ia ns17)), (wAI (ia fl17))], 45) _
  refine .s (.iloadN a0_82 rfl) <| .s (.iloadN a0_83 rfl) <| .s (.iconst (1 : Int32) a0_84 rfl) ?_
  refine .callS a0_85 (ok8 hw _ _ _ _) (wd hw 42 rfl) (wd hw 43 rfl) (argsL := [(.int c), (.int d), .int 1]) (S := [(.int (plv a s (1 : Int32))), .ref 0]) (c8 hw _ _ c d (1 : Int32) _ _) rfl rfl rfl rfl rfl rfl (Nat.le_of_ble_eq_true rfl) (Nat.le_of_ble_eq_true rfl) ?_
  rintro _ _ _ ⟨rfl, rfl, rfl⟩
  show WGo _ (88, [wI a, wI b, wI c, wI d, wI e, wI f, wI s, wI 5, wI j, wI k, wR 0, wU, wU], [(.int (nuv c d (1 : Int32))), (.int (plv a s (1 : Int32))), .ref 0], [(.inr (cn0, [(fk0, .ref 1), (fk1, .ref 2), (fk2, .ref 3), (fk3, .int 28), (fk4, .int 1)])), (wAI (ia ks17)), (wAI (ia ns17)), (wAI (ia fl17))], 45) _
  refine .callV (k := 0) (z := (⟨"com/example/tributary/tributary/facts/PlaceMap", "put", "(II)V"⟩ : MethodName)) a0_88 (ok9 hw _ _ _ _) ⟨rfl, by decide⟩ (wd hw 45 rfl) (wd hw 46 rfl) (fun s hZ => notFace_of_selects (args := #[]) (mvT hZ (wd hw 48 rfl))) (wd hw 48 rfl) (wd hw 47 rfl) rfl (argsL := [(.int (plv a s (1 : Int32))), (.int (nuv c d (1 : Int32)))]) (S := []) (cputA_1 hw _ _ ks17 ns17 fl17 [(s_17, (plv a s (0 : Int32)), (nuv c d (0 : Int32)))] (plv a s (1 : Int32)) (nuv c d (1 : Int32)) hR17 rfl (plv_nz _ _ _) (new_cons (plv_ne a s _ _ 0 1 rfl rfl ho (by decide)) new_nil) _) rfl rfl rfl rfl rfl rfl (Nat.le_of_ble_eq_true rfl) (Nat.le_of_ble_eq_true rfl) ?_
  rintro _ _ _ ⟨ks18, ns18, fl18, s_18, hR18', rfl, rfl, rfl⟩; have hR18 : WRep 16 (whash 28) ks18 ns18 fl18 [(s_17, (plv a s (0 : Int32)), (nuv c d (0 : Int32))), (s_18, (plv a s (1 : Int32)), (nuv c d (1 : Int32)))] := hR18'
  show WGo _ (91, [wI a, wI b, wI c, wI d, wI e, wI f, wI s, wI 5, wI j, wI k, wR 0, wU, wU], [], [(.inr (cn0, [(fk0, .ref 1), (fk1, .ref 2), (fk2, .ref 3), (fk3, .int 28), (fk4, .int 2)])), (wAI (ia ks18)), (wAI (ia ns18)), (wAI (ia fl18))], 45) _
  refine .s (.iload a0_91 rfl) <| .s (.iconst (2 : Int32) a0_93 rfl) <| .s (.icmpF a0_94 (by decide)) <| .s (.aload a0_97 rfl rfl) <| .s (.iloadN a0_99 rfl) <| .s (.iload a0_100 rfl) <| .s (.iconst (2 : Int32) a0_102 rfl) ?_
  refine .callS a0_103 (ok4 hw _ _ _ _) (wd hw 25 rfl) (wd hw 26 rfl) (argsL := [(.int a), (.int s), .int 2]) (S := [.ref 0]) (c4 hw _ _ a s (2 : Int32) _ _) rfl rfl rfl rfl rfl rfl (Nat.le_of_ble_eq_true rfl) (Nat.le_of_ble_eq_true rfl) ?_
  rintro _ _ _ ⟨rfl, rfl, rfl⟩
  show WGo _ (106, [wI a, wI b, wI c, wI d, wI e, wI f, wI s, wI 5, wI j, wI k, wR 0, wU, wU], [(.int (plv a s (2 : Int32))), .ref 0], [(.inr (cn0, [(fk0, .ref 1), (fk1, .ref 2), (fk2, .ref 3), (fk3, .int 28), (fk4, .int 2)])), (wAI (ia ks18)), (wAI (ia ns18)), (wAI (ia fl18))], 45) _
  refine .s (.iloadN a0_106 rfl) <| .s (.iloadN a0_107 rfl) <| .s (.iconst (2 : Int32) a0_108 rfl) ?_
  refine .callS a0_109 (ok8 hw _ _ _ _) (wd hw 42 rfl) (wd hw 43 rfl) (argsL := [(.int c), (.int d), .int 2]) (S := [(.int (plv a s (2 : Int32))), .ref 0]) (c8 hw _ _ c d (2 : Int32) _ _) rfl rfl rfl rfl rfl rfl (Nat.le_of_ble_eq_true rfl) (Nat.le_of_ble_eq_true rfl) ?_
  rintro _ _ _ ⟨rfl, rfl, rfl⟩
  show WGo _ (112, [wI a, wI b, wI c, wI d, wI e, wI f, wI s, wI 5, wI j, wI k, wR 0, wU, wU], [(.int (nuv c d (2 : Int32))), (.int (plv a s (2 : Int32))), .ref 0], [(.inr (cn0, [(fk0, .ref 1), (fk1, .ref 2), (fk2, .ref 3), (fk3, .int 28), (fk4, .int 2)])), (wAI (ia ks18)), (wAI (ia ns18)), (wAI (ia fl18))], 45) _
  refine .callV (k := 0) (z := (⟨"com/example/tributary/tributary/facts/PlaceMap", "put", "(II)V"⟩ : MethodName)) a0_112 (ok9 hw _ _ _ _) ⟨rfl, by decide⟩ (wd hw 45 rfl) (wd hw 46 rfl) (fun s hZ => notFace_of_selects (args := #[]) (mvT hZ (wd hw 48 rfl))) (wd hw 48 rfl) (wd hw 47 rfl) rfl (argsL := [(.int (plv a s (2 : Int32))), (.int (nuv c d (2 : Int32)))]) (S := []) (cputA_2 hw _ _ ks18 ns18 fl18 [(s_17, (plv a s (0 : Int32)), (nuv c d (0 : Int32))), (s_18, (plv a s (1 : Int32)), (nuv c d (1 : Int32)))] (plv a s (2 : Int32)) (nuv c d (2 : Int32)) hR18 rfl (plv_nz _ _ _) (new_cons (plv_ne a s _ _ 0 2 rfl rfl ho (by decide)) (new_cons (plv_ne a s _ _ 1 2 rfl rfl ho (by decide)) new_nil)) _) rfl rfl rfl rfl rfl rfl (Nat.le_of_ble_eq_true rfl) (Nat.le_of_ble_eq_true rfl) ?_
  rintro _ _ _ ⟨ks19, ns19, fl19, s_19, hR19', rfl, rfl, rfl⟩; have hR19 : WRep 16 (whash 28) ks19 ns19 fl19 [(s_17, (plv a s (0 : Int32)), (nuv c d (0 : Int32))), (s_18, (plv a s (1 : Int32)), (nuv c d (1 : Int32))), (s_19, (plv a s (2 : Int32)), (nuv c d (2 : Int32)))] := hR19'
  show WGo _ (115, [wI a, wI b, wI c, wI d, wI e, wI f, wI s, wI 5, wI j, wI k, wR 0, wU, wU], [], [(.inr (cn0, [(fk0, .ref 1), (fk1, .ref 2), (fk2, .ref 3), (fk3, .int 28), (fk4, .int 3)])), (wAI (ia ks19)), (wAI (ia ns19)), (wAI (ia fl19))], 45) _
  refine .s (.iload a0_115 rfl) <| .s (.iconst (3 : Int32) a0_117 rfl) <| .s (.icmpF a0_118 (by decide)) <| .s (.aload a0_121 rfl rfl) <| .s (.iloadN a0_123 rfl) <| .s (.iload a0_124 rfl) <| .s (.iconst (3 : Int32) a0_126 rfl) ?_
  refine .callS a0_127 (ok4 hw _ _ _ _) (wd hw 25 rfl) (wd hw 26 rfl) (argsL := [(.int a), (.int s), .int 3]) (S := [.ref 0]) (c4 hw _ _ a s (3 : Int32) _ _) rfl rfl rfl rfl rfl rfl (Nat.le_of_ble_eq_true rfl) (Nat.le_of_ble_eq_true rfl) ?_
  rintro _ _ _ ⟨rfl, rfl, rfl⟩
  show WGo _ (130, [wI a, wI b, wI c, wI d, wI e, wI f, wI s, wI 5, wI j, wI k, wR 0, wU, wU], [(.int (plv a s (3 : Int32))), .ref 0], [(.inr (cn0, [(fk0, .ref 1), (fk1, .ref 2), (fk2, .ref 3), (fk3, .int 28), (fk4, .int 3)])), (wAI (ia ks19)), (wAI (ia ns19)), (wAI (ia fl19))], 45) _
  refine .s (.iloadN a0_130 rfl) <| .s (.iloadN a0_131 rfl) <| .s (.iconst (3 : Int32) a0_132 rfl) ?_
  refine .callS a0_133 (ok8 hw _ _ _ _) (wd hw 42 rfl) (wd hw 43 rfl) (argsL := [(.int c), (.int d), .int 3]) (S := [(.int (plv a s (3 : Int32))), .ref 0]) (c8 hw _ _ c d (3 : Int32) _ _) rfl rfl rfl rfl rfl rfl (Nat.le_of_ble_eq_true rfl) (Nat.le_of_ble_eq_true rfl) ?_
  rintro _ _ _ ⟨rfl, rfl, rfl⟩
  show WGo _ (136, [wI a, wI b, wI c, wI d, wI e, wI f, wI s, wI 5, wI j, wI k, wR 0, wU, wU], [(.int (nuv c d (3 : Int32))), (.int (plv a s (3 : Int32))), .ref 0], [(.inr (cn0, [(fk0, .ref 1), (fk1, .ref 2), (fk2, .ref 3), (fk3, .int 28), (fk4, .int 3)])), (wAI (ia ks19)), (wAI (ia ns19)), (wAI (ia fl19))], 45) _
  refine .callV (k := 0) (z := (⟨"com/example/tributary/tributary/facts/PlaceMap", "put", "(II)V"⟩ : MethodName)) a0_136 (ok9 hw _ _ _ _) ⟨rfl, by decide⟩ (wd hw 45 rfl) (wd hw 46 rfl) (fun s hZ => notFace_of_selects (args := #[]) (mvT hZ (wd hw 48 rfl))) (wd hw 48 rfl) (wd hw 47 rfl) rfl (argsL := [(.int (plv a s (3 : Int32))), (.int (nuv c d (3 : Int32)))]) (S := []) (cputA_3 hw _ _ ks19 ns19 fl19 [(s_17, (plv a s (0 : Int32)), (nuv c d (0 : Int32))), (s_18, (plv a s (1 : Int32)), (nuv c d (1 : Int32))), (s_19, (plv a s (2 : Int32)), (nuv c d (2 : Int32)))] (plv a s (3 : Int32)) (nuv c d (3 : Int32)) hR19 rfl (plv_nz _ _ _) (new_cons (plv_ne a s _ _ 0 3 rfl rfl ho (by decide)) (new_cons (plv_ne a s _ _ 1 3 rfl rfl ho (by decide)) (new_cons (plv_ne a s _ _ 2 3 rfl rfl ho (by decide)) new_nil))) _) rfl rfl rfl rfl rfl rfl (Nat.le_of_ble_eq_true rfl) (Nat.le_of_ble_eq_true rfl) ?_
  rintro _ _ _ ⟨ks20, ns20, fl20, s_20, hR20', rfl, rfl, rfl⟩; have hR20 : WRep 16 (whash 28) ks20 ns20 fl20 [(s_17, (plv a s (0 : Int32)), (nuv c d (0 : Int32))), (s_18, (plv a s (1 : Int32)), (nuv c d (1 : Int32))), (s_19, (plv a s (2 : Int32)), (nuv c d (2 : Int32))), (s_20, (plv a s (3 : Int32)), (nuv c d (3 : Int32)))] := hR20'
  show WGo _ (139, [wI a, wI b, wI c, wI d, wI e, wI f, wI s, wI 5, wI j, wI k, wR 0, wU, wU], [], [(.inr (cn0, [(fk0, .ref 1), (fk1, .ref 2), (fk2, .ref 3), (fk3, .int 28), (fk4, .int 4)])), (wAI (ia ks20)), (wAI (ia ns20)), (wAI (ia fl20))], 45) _
  refine .s (.iload a0_139 rfl) <| .s (.iconst (4 : Int32) a0_141 rfl) <| .s (.icmpF a0_142 (by decide)) <| .s (.aload a0_145 rfl rfl) <| .s (.iloadN a0_147 rfl) <| .s (.iload a0_148 rfl) <| .s (.iconst (4 : Int32) a0_150 rfl) ?_
  refine .callS a0_151 (ok4 hw _ _ _ _) (wd hw 25 rfl) (wd hw 26 rfl) (argsL := [(.int a), (.int s), .int 4]) (S := [.ref 0]) (c4 hw _ _ a s (4 : Int32) _ _) rfl rfl rfl rfl rfl rfl (Nat.le_of_ble_eq_true rfl) (Nat.le_of_ble_eq_true rfl) ?_
  rintro _ _ _ ⟨rfl, rfl, rfl⟩
  show WGo _ (154, [wI a, wI b, wI c, wI d, wI e, wI f, wI s, wI 5, wI j, wI k, wR 0, wU, wU], [(.int (plv a s (4 : Int32))), .ref 0], [(.inr (cn0, [(fk0, .ref 1), (fk1, .ref 2), (fk2, .ref 3), (fk3, .int 28), (fk4, .int 4)])), (wAI (ia ks20)), (wAI (ia ns20)), (wAI (ia fl20))], 45) _
  refine .s (.iloadN a0_154 rfl) <| .s (.iloadN a0_155 rfl) <| .s (.iconst (4 : Int32) a0_156 rfl) ?_
  refine .callS a0_157 (ok8 hw _ _ _ _) (wd hw 42 rfl) (wd hw 43 rfl) (argsL := [(.int c), (.int d), .int 4]) (S := [(.int (plv a s (4 : Int32))), .ref 0]) (c8 hw _ _ c d (4 : Int32) _ _) rfl rfl rfl rfl rfl rfl (Nat.le_of_ble_eq_true rfl) (Nat.le_of_ble_eq_true rfl) ?_
  rintro _ _ _ ⟨rfl, rfl, rfl⟩
  show WGo _ (160, [wI a, wI b, wI c, wI d, wI e, wI f, wI s, wI 5, wI j, wI k, wR 0, wU, wU], [(.int (nuv c d (4 : Int32))), (.int (plv a s (4 : Int32))), .ref 0], [(.inr (cn0, [(fk0, .ref 1), (fk1, .ref 2), (fk2, .ref 3), (fk3, .int 28), (fk4, .int 4)])), (wAI (ia ks20)), (wAI (ia ns20)), (wAI (ia fl20))], 45) _
  refine .callV (k := 0) (z := (⟨"com/example/tributary/tributary/facts/PlaceMap", "put", "(II)V"⟩ : MethodName)) a0_160 (ok9 hw _ _ _ _) ⟨rfl, by decide⟩ (wd hw 45 rfl) (wd hw 46 rfl) (fun s hZ => notFace_of_selects (args := #[]) (mvT hZ (wd hw 48 rfl))) (wd hw 48 rfl) (wd hw 47 rfl) rfl (argsL := [(.int (plv a s (4 : Int32))), (.int (nuv c d (4 : Int32)))]) (S := []) (cputA_4 hw _ _ ks20 ns20 fl20 [(s_17, (plv a s (0 : Int32)), (nuv c d (0 : Int32))), (s_18, (plv a s (1 : Int32)), (nuv c d (1 : Int32))), (s_19, (plv a s (2 : Int32)), (nuv c d (2 : Int32))), (s_20, (plv a s (3 : Int32)), (nuv c d (3 : Int32)))] (plv a s (4 : Int32)) (nuv c d (4 : Int32)) hR20 rfl (plv_nz _ _ _) (new_cons (plv_ne a s _ _ 0 4 rfl rfl ho (by decide)) (new_cons (plv_ne a s _ _ 1 4 rfl rfl ho (by decide)) (new_cons (plv_ne a s _ _ 2 4 rfl rfl ho (by decide)) (new_cons (plv_ne a s _ _ 3 4 rfl rfl ho (by decide)) new_nil)))) _) rfl rfl rfl rfl rfl rfl (Nat.le_of_ble_eq_true rfl) (Nat.le_of_ble_eq_true rfl) ?_
  rintro _ _ _ ⟨ks21, ns21, fl21, s_21, hR21', rfl, rfl, rfl⟩; have hR21 : WRep 16 (whash 28) ks21 ns21 fl21 [(s_17, (plv a s (0 : Int32)), (nuv c d (0 : Int32))), (s_18, (plv a s (1 : Int32)), (nuv c d (1 : Int32))), (s_19, (plv a s (2 : Int32)), (nuv c d (2 : Int32))), (s_20, (plv a s (3 : Int32)), (nuv c d (3 : Int32))), (s_21, (plv a s (4 : Int32)), (nuv c d (4 : Int32)))] := hR21'
  show WGo _ (163, [wI a, wI b, wI c, wI d, wI e, wI f, wI s, wI 5, wI j, wI k, wR 0, wU, wU], [], [(.inr (cn0, [(fk0, .ref 1), (fk1, .ref 2), (fk2, .ref 3), (fk3, .int 28), (fk4, .int 5)])), (wAI (ia ks21)), (wAI (ia ns21)), (wAI (ia fl21))], 45) _
  refine .s (.iload a0_163 rfl) <| .s (.iconst (5 : Int32) a0_165 rfl) <| .s (.icmpT a0_166 (by decide)) <| .s (.iload a0_187 rfl) <| .s (.bipush (6 : Int32) a0_189 rfl) <| .s (.icmpT a0_191 (by decide)) <| .s (.iload a0_214 rfl) ?_
  refine .s (.bipush (7 : Int32) a0_216 rfl) <| .s (.icmpT a0_218 (by decide)) <| .s (.iload a0_241 rfl) <| .s (.bipush (8 : Int32) a0_243 rfl) <| .s (.icmpT a0_245 (by decide)) <| .s (.aload a0_268 rfl rfl) <| .s (.iloadN a0_270 rfl) ?_
  refine .s (.iload a0_271 rfl) <| .s (.iload a0_273 rfl) ?_
  refine .callS a0_275 (ok4 hw _ _ _ _) (wd hw 25 rfl) (wd hw 26 rfl) (argsL := [(.int a), (.int s), (.int j)]) (S := [.ref 0]) (c4 hw _ _ a s j _ _) rfl rfl rfl rfl rfl rfl (Nat.le_of_ble_eq_true rfl) (Nat.le_of_ble_eq_true rfl) ?_
  rintro _ _ _ ⟨rfl, rfl, rfl⟩
  show WGo _ (278, [wI a, wI b, wI c, wI d, wI e, wI f, wI s, wI 5, wI j, wI k, wR 0, wU, wU], [(.int (plv a s j)), .ref 0], [(.inr (cn0, [(fk0, .ref 1), (fk1, .ref 2), (fk2, .ref 3), (fk3, .int 28), (fk4, .int 5)])), (wAI (ia ks21)), (wAI (ia ns21)), (wAI (ia fl21))], 45) _
  refine .callV (k := 0) (z := (⟨"com/example/tributary/tributary/facts/PlaceMap", "get", "(I)I"⟩ : MethodName)) a0_278 (ok5 hw _ _ _ _) ⟨rfl, by decide⟩ (wd hw 29 rfl) (wd hw 30 rfl) (fun s hZ => notFace_of_selects (args := #[]) (mvT hZ (wd hw 32 rfl))) (wd hw 32 rfl) (wd hw 31 rfl) rfl (argsL := [(.int (plv a s j))]) (S := []) (cgetA hw _ _ ks21 ns21 fl21 [(s_17, (plv a s (0 : Int32)), (nuv c d (0 : Int32))), (s_18, (plv a s (1 : Int32)), (nuv c d (1 : Int32))), (s_19, (plv a s (2 : Int32)), (nuv c d (2 : Int32))), (s_20, (plv a s (3 : Int32)), (nuv c d (3 : Int32))), (s_21, (plv a s (4 : Int32)), (nuv c d (4 : Int32)))] (plv a s j) 5 hR21 _) rfl rfl rfl rfl rfl rfl (Nat.le_of_ble_eq_true rfl) (Nat.le_of_ble_eq_true rfl) ?_
  rintro _ _ _ ⟨rfl, rfl, rfl⟩; rw [look5 a s c d j s_17 s_18 s_19 s_20 s_21 ho hj]
  show WGo _ (281, [wI a, wI b, wI c, wI d, wI e, wI f, wI s, wI 5, wI j, wI k, wR 0, wU, wU], [(.int (exv c d j (5 : Int32)))], [(.inr (cn0, [(fk0, .ref 1), (fk1, .ref 2), (fk2, .ref 3), (fk3, .int 28), (fk4, .int 5)])), (wAI (ia ks21)), (wAI (ia ns21)), (wAI (ia fl21))], 45) _
  refine .s (.istore (L' := [wI a, wI b, wI c, wI d, wI e, wI f, wI s, wI 5, wI j, wI k, wR 0, wI (exv c d j (5 : Int32)), wU]) a0_281 rfl) <| .s (.aload a0_283 rfl rfl) <| .s (.iloadN a0_285 rfl) <| .s (.iload a0_286 rfl) <| .s (.iload a0_288 rfl) ?_
  refine .callS a0_290 (ok4 hw _ _ _ _) (wd hw 25 rfl) (wd hw 26 rfl) (argsL := [(.int a), (.int s), (.int k)]) (S := [.ref 0]) (c4 hw _ _ a s k _ _) rfl rfl rfl rfl rfl rfl (Nat.le_of_ble_eq_true rfl) (Nat.le_of_ble_eq_true rfl) ?_
  rintro _ _ _ ⟨rfl, rfl, rfl⟩
  show WGo _ (293, [wI a, wI b, wI c, wI d, wI e, wI f, wI s, wI 5, wI j, wI k, wR 0, wI (exv c d j (5 : Int32)), wU], [(.int (plv a s k)), .ref 0], [(.inr (cn0, [(fk0, .ref 1), (fk1, .ref 2), (fk2, .ref 3), (fk3, .int 28), (fk4, .int 5)])), (wAI (ia ks21)), (wAI (ia ns21)), (wAI (ia fl21))], 45) _
  refine .callV (k := 0) (z := (⟨"com/example/tributary/tributary/facts/PlaceMap", "get", "(I)I"⟩ : MethodName)) a0_293 (ok5 hw _ _ _ _) ⟨rfl, by decide⟩ (wd hw 29 rfl) (wd hw 30 rfl) (fun s hZ => notFace_of_selects (args := #[]) (mvT hZ (wd hw 32 rfl))) (wd hw 32 rfl) (wd hw 31 rfl) rfl (argsL := [(.int (plv a s k))]) (S := []) (cgetA hw _ _ ks21 ns21 fl21 [(s_17, (plv a s (0 : Int32)), (nuv c d (0 : Int32))), (s_18, (plv a s (1 : Int32)), (nuv c d (1 : Int32))), (s_19, (plv a s (2 : Int32)), (nuv c d (2 : Int32))), (s_20, (plv a s (3 : Int32)), (nuv c d (3 : Int32))), (s_21, (plv a s (4 : Int32)), (nuv c d (4 : Int32)))] (plv a s k) 5 hR21 _) rfl rfl rfl rfl rfl rfl (Nat.le_of_ble_eq_true rfl) (Nat.le_of_ble_eq_true rfl) ?_
  rintro _ _ _ ⟨rfl, rfl, rfl⟩; rw [look5 a s c d k s_17 s_18 s_19 s_20 s_21 ho hk]
  show WGo _ (296, [wI a, wI b, wI c, wI d, wI e, wI f, wI s, wI 5, wI j, wI k, wR 0, wI (exv c d j (5 : Int32)), wU], [(.int (exv c d k (5 : Int32)))], [(.inr (cn0, [(fk0, .ref 1), (fk1, .ref 2), (fk2, .ref 3), (fk3, .int 28), (fk4, .int 5)])), (wAI (ia ks21)), (wAI (ia ns21)), (wAI (ia fl21))], 45) _
  refine .s (.istore (L' := [wI a, wI b, wI c, wI d, wI e, wI f, wI s, wI 5, wI j, wI k, wR 0, wI (exv c d j (5 : Int32)), wI (exv c d k (5 : Int32))]) a0_296 rfl) <| .s (.iload a0_298 rfl) <| .s (.iloadN a0_300 rfl) <| .s (.iloadN a0_301 rfl) <| .s (.iload a0_302 rfl) <| .s (.iload a0_304 rfl) ?_
  refine .callS a0_306 (ok7 hw _ _ _ _) (wd hw 39 rfl) (wd hw 40 rfl) (argsL := [(.int c), (.int d), (.int j), .int 5]) (S := [(.int (exv c d j (5 : Int32)))]) (c7 hw _ _ c d j (5 : Int32) _ _) rfl rfl rfl rfl rfl rfl (Nat.le_of_ble_eq_true rfl) (Nat.le_of_ble_eq_true rfl) ?_
  rintro _ _ _ ⟨rfl, rfl, rfl⟩
  show WGo _ (309, [wI a, wI b, wI c, wI d, wI e, wI f, wI s, wI 5, wI j, wI k, wR 0, wI (exv c d j (5 : Int32)), wI (exv c d k (5 : Int32))], [(.int (exv c d j (5 : Int32))), (.int (exv c d j (5 : Int32)))], [(.inr (cn0, [(fk0, .ref 1), (fk1, .ref 2), (fk2, .ref 3), (fk3, .int 28), (fk4, .int 5)])), (wAI (ia ks21)), (wAI (ia ns21)), (wAI (ia fl21))], 45) _
  refine .s (.icmpF a0_309 (teq rfl).2) <| .s (.iload a0_312 rfl) <| .s (.iloadN a0_314 rfl) <| .s (.iloadN a0_315 rfl) <| .s (.iload a0_316 rfl) <| .s (.iload a0_318 rfl) ?_
  refine .callS a0_320 (ok7 hw _ _ _ _) (wd hw 39 rfl) (wd hw 40 rfl) (argsL := [(.int c), (.int d), (.int k), .int 5]) (S := [(.int (exv c d k (5 : Int32)))]) (c7 hw _ _ c d k (5 : Int32) _ _) rfl rfl rfl rfl rfl rfl (Nat.le_of_ble_eq_true rfl) (Nat.le_of_ble_eq_true rfl) ?_
  rintro _ _ _ ⟨rfl, rfl, rfl⟩
  show WGo _ (323, [wI a, wI b, wI c, wI d, wI e, wI f, wI s, wI 5, wI j, wI k, wR 0, wI (exv c d j (5 : Int32)), wI (exv c d k (5 : Int32))], [(.int (exv c d k (5 : Int32))), (.int (exv c d k (5 : Int32)))], [(.inr (cn0, [(fk0, .ref 1), (fk1, .ref 2), (fk2, .ref 3), (fk3, .int 28), (fk4, .int 5)])), (wAI (ia ks21)), (wAI (ia ns21)), (wAI (ia fl21))], 45) _
  refine .s (.icmpF a0_323 (teq rfl).2) <| .s (.iconst (1 : Int32) a0_326 rfl) <| .s (.goto a0_327) ?_
  refine .ireturn .boolean a0_331 rfl (by simp) ?_
  exact ⟨rfl, Nat.le_of_ble_eq_true rfl, Nat.le_of_ble_eq_true rfl⟩
set_option maxHeartbeats 40000000 in
theorem seg6 (Z : State) (a0 : Array Value) (hw : ∀ d ∈ tables_1, d.before a0 Z = true) (n0 : Nat) (a b c d e f : Int32) (s j k : Int32) (ho : s.toInt % 2 = 1) (hj : j = 0 ∨ j = 1 ∨ j = 2 ∨ j = 3 ∨ j = 4 ∨ j = 5 ∨ j = 6 ∨ j = 7 ∨ j = 8 ∨ j = 9) (hk : k = 0 ∨ k = 1 ∨ k = 2 ∨ k = 3 ∨ k = 4 ∨ k = 5 ∨ k = 6 ∨ k = 7 ∨ k = 8 ∨ k = 9) : WGo (g0 Z (fun k => n0 + k) n0 0 0) (35, [wI a, wI b, wI c, wI d, wI e, wI f, wI s, wI 6, wI j, wI k, wU, wU, wU], [], [], 0) (fun v σ' u' => v = some (.int 1) ∧ σ'.length ≤ 24 ∧ u' ≤ 320) := by
  refine .s (.newO (k := 0) [(fk0, .null), (fk1, .null), (fk2, .null), (fk3, .int 0), (fk4, .int 0)] a0_35 (wd hw 2 rfl) (wd hw 3 rfl) (wd hw 4 rfl) ⟨⟨Or.inl (wd hw 13 rfl), (.array .int), by decide, rfl⟩, ⟨Or.inl (wd hw 15 rfl), (.array .int), by decide, rfl⟩, ⟨Or.inl (wd hw 17 rfl), (.array .int), by decide, rfl⟩, ⟨Or.inl (wd hw 24 rfl), .int, by decide, rfl⟩, ⟨Or.inl (wd hw 51 rfl), .int, by decide, rfl⟩, trivial⟩ (by decide) rfl (by decide)) ?_
  show WGo _ (38, [wI a, wI b, wI c, wI d, wI e, wI f, wI s, wI 6, wI j, wI k, wU, wU, wU], [.ref 0], [(.inr (cn0, [(fk0, .null), (fk1, .null), (fk2, .null), (fk3, .int 0), (fk4, .int 0)]))], 5) _
  refine .s (.dup a0_38 rfl) ?_
  refine .callI (k := 0) a0_39 (ok1 hw _ _ _ _) rfl rfl (wd hw 5 rfl) (wd hw 6 rfl) (by decide) (argsL := []) (S := [.ref 0]) (au1_1 hw _ _ _) rfl rfl rfl rfl rfl rfl (Nat.le_of_ble_eq_true rfl) (Nat.le_of_ble_eq_true rfl) ?_
  rintro _ _ _ ⟨rfl, rfl, rfl⟩; have hR22 : WRep 16 (whash 28) (List.replicate 16 0) (List.replicate 16 0) (List.replicate 8 0) [] := WRep.nil rfl rfl
  show WGo _ (42, [wI a, wI b, wI c, wI d, wI e, wI f, wI s, wI 6, wI j, wI k, wU, wU, wU], [.ref 0], [(.inr (cn0, [(fk0, .ref 1), (fk1, .ref 2), (fk2, .ref 3), (fk3, .int 28), (fk4, .int 0)])), (wAI (ia (List.replicate 16 0))), (wAI (ia (List.replicate 16 0))), (wAI (ia (List.replicate 8 0)))], 45) _
  refine .s (.astore (L' := [wI a, wI b, wI c, wI d, wI e, wI f, wI s, wI 6, wI j, wI k, wR 0, wU, wU]) a0_42 rfl rfl) <| .s (.iload a0_44 rfl) <| .s (.ifF a0_46 (by decide)) <| .s (.aload a0_49 rfl rfl) <| .s (.iloadN a0_51 rfl) <| .s (.iload a0_52 rfl) <| .s (.iconst (0 : Int32) a0_54 rfl) ?_
  refine .callS a0_55 (ok4 hw _ _ _ _) (wd hw 25 rfl) (wd hw 26 rfl) (argsL := [(.int a), (.int s), .int 0]) (S := [.ref 0]) (c4 hw _ _ a s (0 : Int32) _ _) rfl rfl rfl rfl rfl rfl (Nat.le_of_ble_eq_true rfl) (Nat.le_of_ble_eq_true rfl) ?_
  rintro _ _ _ ⟨rfl, rfl, rfl⟩
  show WGo _ (58, [wI a, wI b, wI c, wI d, wI e, wI f, wI s, wI 6, wI j, wI k, wR 0, wU, wU], [(.int (plv a s (0 : Int32))), .ref 0], [(.inr (cn0, [(fk0, .ref 1), (fk1, .ref 2), (fk2, .ref 3), (fk3, .int 28), (fk4, .int 0)])), (wAI (ia (List.replicate 16 0))), (wAI (ia (List.replicate 16 0))), (wAI (ia (List.replicate 8 0)))], 45) _
  refine .s (.iloadN a0_58 rfl) <| .s (.iloadN a0_59 rfl) <| .s (.iconst (0 : Int32) a0_60 rfl) ?_
  refine .callS a0_61 (ok8 hw _ _ _ _) (wd hw 42 rfl) (wd hw 43 rfl) (argsL := [(.int c), (.int d), .int 0]) (S := [(.int (plv a s (0 : Int32))), .ref 0]) (c8 hw _ _ c d (0 : Int32) _ _) rfl rfl rfl rfl rfl rfl (Nat.le_of_ble_eq_true rfl) (Nat.le_of_ble_eq_true rfl) ?_
  rintro _ _ _ ⟨rfl, rfl, rfl⟩
  show WGo _ (64, [wI a, wI b, wI c, wI d, wI e, wI f, wI s, wI 6, wI j, wI k, wR 0, wU, wU], [(.int (nuv c d (0 : Int32))), (.int (plv a s (0 : Int32))), .ref 0], [(.inr (cn0, [(fk0, .ref 1), (fk1, .ref 2), (fk2, .ref 3), (fk3, .int 28), (fk4, .int 0)])), (wAI (ia (List.replicate 16 0))), (wAI (ia (List.replicate 16 0))), (wAI (ia (List.replicate 8 0)))], 45) _
  refine .callV (k := 0) (z := (⟨"com/example/tributary/tributary/facts/PlaceMap", "put", "(II)V"⟩ : MethodName)) a0_64 (ok9 hw _ _ _ _) ⟨rfl, by decide⟩ (wd hw 45 rfl) (wd hw 46 rfl) (fun s hZ => notFace_of_selects (args := #[]) (mvT hZ (wd hw 48 rfl))) (wd hw 48 rfl) (wd hw 47 rfl) rfl (argsL := [(.int (plv a s (0 : Int32))), (.int (nuv c d (0 : Int32)))]) (S := []) (cputA_0 hw _ _ (List.replicate 16 0) (List.replicate 16 0) (List.replicate 8 0) [] (plv a s (0 : Int32)) (nuv c d (0 : Int32)) hR22 rfl (plv_nz _ _ _) new_nil _) rfl rfl rfl rfl rfl rfl (Nat.le_of_ble_eq_true rfl) (Nat.le_of_ble_eq_true rfl) ?_
  rintro _ _ _ ⟨ks23, ns23, fl23, s_23, hR23', rfl, rfl, rfl⟩; have hR23 : WRep 16 (whash 28) ks23 ns23 fl23 [(s_23, (plv a s (0 : Int32)), (nuv c d (0 : Int32)))] := hR23'
  show WGo _ (67, [wI a, wI b, wI c, wI d, wI e, wI f, wI s, wI 6, wI j, wI k, wR 0, wU, wU], [], [(.inr (cn0, [(fk0, .ref 1), (fk1, .ref 2), (fk2, .ref 3), (fk3, .int 28), (fk4, .int 1)])), (wAI (ia ks23)), (wAI (ia ns23)), (wAI (ia fl23))], 45) _
  refine .s (.iload a0_67 rfl) <| .s (.iconst (1 : Int32) a0_69 rfl) <| .s (.icmpF a0_70 (by decide)) <| .s (.aload a0_73 rfl rfl) <| .s (.iloadN a0_75 rfl) <| .s (.iload a0_76 rfl) <| .s (.iconst (1 : Int32) a0_78 rfl) ?_
  refine .callS a0_79 (ok4 hw _ _ _ _) (wd hw 25 rfl) (wd hw 26 rfl) (argsL := [(.int a), (.int s), .int 1]) (S := [.ref 0]) (c4 hw _ _ a s (1 : Int32) _ _) rfl rfl rfl rfl rfl rfl (Nat.le_of_ble_eq_true rfl) (Nat.le_of_ble_eq_true rfl) ?_
  rintro _ _ _ ⟨rfl, rfl, rfl⟩
  show WGo _ (82, [wI a, wI b, wI c, wI d, wI e, wI f, wI s, wI 6, wI j, wI k, wR 0, wU, wU], [(.int (plv a s (1 : Int32))), .ref 0], [(.inr (cn0, [(fk0, .ref 1), (fk1, .ref 2), (fk2, .ref 3), (fk3, .int 28), (fk4, .int 1)])), (wAI (ia ks23)), (wAI (ia ns23)), (wAI (ia fl23))], 45) _
  refine .s (.iloadN a0_82 rfl) <| .s (.iloadN a0_83 rfl) <| .s (.iconst (1 : Int32) a0_84 rfl) ?_
  refine .callS a0_85 (ok8 hw _ _ _ _) (wd hw 42 rfl) (wd hw 43 rfl) (argsL := [(.int c), (.int d), .int 1]) (S := [(.int (plv a s (1 : Int32))), .ref 0]) (c8 hw _ _ c d (1 : Int32) _ _) rfl rfl rfl rfl rfl rfl (Nat.le_of_ble_eq_true rfl) (Nat.le_of_ble_eq_true rfl) ?_
  rintro _ _ _ ⟨rfl, rfl, rfl⟩
  show WGo _ (88, [wI a, wI b, wI c, wI d, wI e, wI f, wI s, wI 6, wI j, wI k, wR 0, wU, wU], [(.int (nuv c d (1 : Int32))), (.int (plv a s (1 : Int32))), .ref 0], [(.inr (cn0, [(fk0, .ref 1), (fk1, .ref 2), (fk2, .ref 3), (fk3, .int 28), (fk4, .int 1)])), (wAI (ia ks23)), (wAI (ia ns23)), (wAI (ia fl23))], 45) _
  refine .callV (k := 0) (z := (⟨"com/example/tributary/tributary/facts/PlaceMap", "put", "(II)V"⟩ : MethodName)) a0_88 (ok9 hw _ _ _ _) ⟨rfl, by decide⟩ (wd hw 45 rfl) (wd hw 46 rfl) (fun s hZ => notFace_of_selects (args := #[]) (mvT hZ (wd hw 48 rfl))) (wd hw 48 rfl) (wd hw 47 rfl) rfl (argsL := [(.int (plv a s (1 : Int32))), (.int (nuv c d (1 : Int32)))]) (S := []) (cputA_1 hw _ _ ks23 ns23 fl23 [(s_23, (plv a s (0 : Int32)), (nuv c d (0 : Int32)))] (plv a s (1 : Int32)) (nuv c d (1 : Int32)) hR23 rfl (plv_nz _ _ _) (new_cons (plv_ne a s _ _ 0 1 rfl rfl ho (by decide)) new_nil) _) rfl rfl rfl rfl rfl rfl (Nat.le_of_ble_eq_true rfl) (Nat.le_of_ble_eq_true rfl) ?_
  rintro _ _ _ ⟨ks24, ns24, fl24, s_24, hR24', rfl, rfl, rfl⟩; have hR24 : WRep 16 (whash 28) ks24 ns24 fl24 [(s_23, (plv a s (0 : Int32)), (nuv c d (0 : Int32))), (s_24, (plv a s (1 : Int32)), (nuv c d (1 : Int32)))] := hR24'
  show WGo _ (91, [wI a, wI b, wI c, wI d, wI e, wI f, wI s, wI 6, wI j, wI k, wR 0, wU, wU], [], [(.inr (cn0, [(fk0, .ref 1), (fk1, .ref 2), (fk2, .ref 3), (fk3, .int 28), (fk4, .int 2)])), (wAI (ia ks24)), (wAI (ia ns24)), (wAI (ia fl24))], 45) _
  refine .s (.iload a0_91 rfl) <| .s (.iconst (2 : Int32) a0_93 rfl) <| .s (.icmpF a0_94 (by decide)) <| .s (.aload a0_97 rfl rfl) <| .s (.iloadN a0_99 rfl) <| .s (.iload a0_100 rfl) <| .s (.iconst (2 : Int32) a0_102 rfl) ?_
  refine .callS a0_103 (ok4 hw _ _ _ _) (wd hw 25 rfl) (wd hw 26 rfl) (argsL := [(.int a), (.int s), .int 2]) (S := [.ref 0]) (c4 hw _ _ a s (2 : Int32) _ _) rfl rfl rfl rfl rfl rfl (Nat.le_of_ble_eq_true rfl) (Nat.le_of_ble_eq_true rfl) ?_
  rintro _ _ _ ⟨rfl, rfl, rfl⟩
  show WGo _ (106, [wI a, wI b, wI c, wI d, wI e, wI f, wI s, wI 6, wI j, wI k, wR 0, wU, wU], [(.int (plv a s (2 : Int32))), .ref 0], [(.inr (cn0, [(fk0, .ref 1), (fk1, .ref 2), (fk2, .ref 3), (fk3, .int 28), (fk4, .int 2)])), (wAI (ia ks24)), (wAI (ia ns24)), (wAI (ia fl24))], 45) _
  refine .s (.iloadN a0_106 rfl) <| .s (.iloadN a0_107 rfl) <| .s (.iconst (2 : Int32) a0_108 rfl) ?_
  refine .callS a0_109 (ok8 hw _ _ _ _) (wd hw 42 rfl) (wd hw 43 rfl) (argsL := [(.int c), (.int d), .int 2]) (S := [(.int (plv a s (2 : Int32))), .ref 0]) (c8 hw _ _ c d (2 : Int32) _ _) rfl rfl rfl rfl rfl rfl (Nat.le_of_ble_eq_true rfl) (Nat.le_of_ble_eq_true rfl) ?_
  rintro _ _ _ ⟨rfl, rfl, rfl⟩
  show WGo _ (112, [wI a, wI b, wI c, wI d, wI e, wI f, wI s, wI 6, wI j, wI k, wR 0, wU, wU], [(.int (nuv c d (2 : Int32))), (.int (plv a s (2 : Int32))), .ref 0], [(.inr (cn0, [(fk0, .ref 1), (fk1, .ref 2), (fk2, .ref 3), (fk3, .int 28), (fk4, .int 2)])), (wAI (ia ks24)), (wAI (ia ns24)), (wAI (ia fl24))], 45) _
  refine .callV (k := 0) (z := (⟨"com/example/tributary/tributary/facts/PlaceMap", "put", "(II)V"⟩ : MethodName)) a0_112 (ok9 hw _ _ _ _) ⟨rfl, by decide⟩ (wd hw 45 rfl) (wd hw 46 rfl) (fun s hZ => notFace_of_selects (args := #[]) (mvT hZ (wd hw 48 rfl))) (wd hw 48 rfl) (wd hw 47 rfl) rfl (argsL := [(.int (plv a s (2 : Int32))), (.int (nuv c d (2 : Int32)))]) (S := []) (cputA_2 hw _ _ ks24 ns24 fl24 [(s_23, (plv a s (0 : Int32)), (nuv c d (0 : Int32))), (s_24, (plv a s (1 : Int32)), (nuv c d (1 : Int32)))] (plv a s (2 : Int32)) (nuv c d (2 : Int32)) hR24 rfl (plv_nz _ _ _) (new_cons (plv_ne a s _ _ 0 2 rfl rfl ho (by decide)) (new_cons (plv_ne a s _ _ 1 2 rfl rfl ho (by decide)) new_nil)) _) rfl rfl rfl rfl rfl rfl (Nat.le_of_ble_eq_true rfl) (Nat.le_of_ble_eq_true rfl) ?_
  rintro _ _ _ ⟨ks25, ns25, fl25, s_25, hR25', rfl, rfl, rfl⟩; have hR25 : WRep 16 (whash 28) ks25 ns25 fl25 [(s_23, (plv a s (0 : Int32)), (nuv c d (0 : Int32))), (s_24, (plv a s (1 : Int32)), (nuv c d (1 : Int32))), (s_25, (plv a s (2 : Int32)), (nuv c d (2 : Int32)))] := hR25'
  show WGo _ (115, [wI a, wI b, wI c, wI d, wI e, wI f, wI s, wI 6, wI j, wI k, wR 0, wU, wU], [], [(.inr (cn0, [(fk0, .ref 1), (fk1, .ref 2), (fk2, .ref 3), (fk3, .int 28), (fk4, .int 3)])), (wAI (ia ks25)), (wAI (ia ns25)), (wAI (ia fl25))], 45) _
  refine .s (.iload a0_115 rfl) <| .s (.iconst (3 : Int32) a0_117 rfl) <| .s (.icmpF a0_118 (by decide)) <| .s (.aload a0_121 rfl rfl) <| .s (.iloadN a0_123 rfl) <| .s (.iload a0_124 rfl) <| .s (.iconst (3 : Int32) a0_126 rfl) ?_
  refine .callS a0_127 (ok4 hw _ _ _ _) (wd hw 25 rfl) (wd hw 26 rfl) (argsL := [(.int a), (.int s), .int 3]) (S := [.ref 0]) (c4 hw _ _ a s (3 : Int32) _ _) rfl rfl rfl rfl rfl rfl (Nat.le_of_ble_eq_true rfl) (Nat.le_of_ble_eq_true rfl) ?_
  rintro _ _ _ ⟨rfl, rfl, rfl⟩
  show WGo _ (130, [wI a, wI b, wI c, wI d, wI e, wI f, wI s, wI 6, wI j, wI k, wR 0, wU, wU], [(.int (plv a s (3 : Int32))), .ref 0], [(.inr (cn0, [(fk0, .ref 1), (fk1, .ref 2), (fk2, .ref 3), (fk3, .int 28), (fk4, .int 3)])), (wAI (ia ks25)), (wAI (ia ns25)), (wAI (ia fl25))], 45) _
  refine .s (.iloadN a0_130 rfl) <| .s (.iloadN a0_131 rfl) <| .s (.iconst (3 : Int32) a0_132 rfl) ?_
  refine .callS a0_133 (ok8 hw _ _ _ _) (wd hw 42 rfl) (wd hw 43 rfl) (argsL := [(.int c), (.int d), .int 3]) (S := [(.int (plv a s (3 : Int32))), .ref 0]) (c8 hw _ _ c d (3 : Int32) _ _) rfl rfl rfl rfl rfl rfl (Nat.le_of_ble_eq_true rfl) (Nat.le_of_ble_eq_true rfl) ?_
  rintro _ _ _ ⟨rfl, rfl, rfl⟩
  show WGo _ (136, [wI a, wI b, wI c, wI d, wI e, wI f, wI s, wI 6, wI j, wI k, wR 0, wU, wU], [(.int (nuv c d (3 : Int32))), (.int (plv a s (3 : Int32))), .ref 0], [(.inr (cn0, [(fk0, .ref 1), (fk1, .ref 2), (fk2, .ref 3), (fk3, .int 28), (fk4, .int 3)])), (wAI (ia ks25)), (wAI (ia ns25)), (wAI (ia fl25))], 45) _
  refine .callV (k := 0) (z := (⟨"com/example/tributary/tributary/facts/PlaceMap", "put", "(II)V"⟩ : MethodName)) a0_136 (ok9 hw _ _ _ _) ⟨rfl, by decide⟩ (wd hw 45 rfl) (wd hw 46 rfl) (fun s hZ => notFace_of_selects (args := #[]) (mvT hZ (wd hw 48 rfl))) (wd hw 48 rfl) (wd hw 47 rfl) rfl (argsL := [(.int (plv a s (3 : Int32))), (.int (nuv c d (3 : Int32)))]) (S := []) (cputA_3 hw _ _ ks25 ns25 fl25 [(s_23, (plv a s (0 : Int32)), (nuv c d (0 : Int32))), (s_24, (plv a s (1 : Int32)), (nuv c d (1 : Int32))), (s_25, (plv a s (2 : Int32)), (nuv c d (2 : Int32)))] (plv a s (3 : Int32)) (nuv c d (3 : Int32)) hR25 rfl (plv_nz _ _ _) (new_cons (plv_ne a s _ _ 0 3 rfl rfl ho (by decide)) (new_cons (plv_ne a s _ _ 1 3 rfl rfl ho (by decide)) (new_cons (plv_ne a s _ _ 2 3 rfl rfl ho (by decide)) new_nil))) _) rfl rfl rfl rfl rfl rfl (Nat.le_of_ble_eq_true rfl) (Nat.le_of_ble_eq_true rfl) ?_
  rintro _ _ _ ⟨ks26, ns26, fl26, s_26, hR26', rfl, rfl, rfl⟩; have hR26 : WRep 16 (whash 28) ks26 ns26 fl26 [(s_23, (plv a s (0 : Int32)), (nuv c d (0 : Int32))), (s_24, (plv a s (1 : Int32)), (nuv c d (1 : Int32))), (s_25, (plv a s (2 : Int32)), (nuv c d (2 : Int32))), (s_26, (plv a s (3 : Int32)), (nuv c d (3 : Int32)))] := hR26'
  show WGo _ (139, [wI a, wI b, wI c, wI d, wI e, wI f, wI s, wI 6, wI j, wI k, wR 0, wU, wU], [], [(.inr (cn0, [(fk0, .ref 1), (fk1, .ref 2), (fk2, .ref 3), (fk3, .int 28), (fk4, .int 4)])), (wAI (ia ks26)), (wAI (ia ns26)), (wAI (ia fl26))], 45) _
  refine .s (.iload a0_139 rfl) <| .s (.iconst (4 : Int32) a0_141 rfl) <| .s (.icmpF a0_142 (by decide)) <| .s (.aload a0_145 rfl rfl) <| .s (.iloadN a0_147 rfl) <| .s (.iload a0_148 rfl) <| .s (.iconst (4 : Int32) a0_150 rfl) ?_
  refine .callS a0_151 (ok4 hw _ _ _ _) (wd hw 25 rfl) (wd hw 26 rfl) (argsL := [(.int a), (.int s), .int 4]) (S := [.ref 0]) (c4 hw _ _ a s (4 : Int32) _ _) rfl rfl rfl rfl rfl rfl (Nat.le_of_ble_eq_true rfl) (Nat.le_of_ble_eq_true rfl) ?_
  rintro _ _ _ ⟨rfl, rfl, rfl⟩
  show WGo _ (154, [wI a, wI b, wI c, wI d, wI e, wI f, wI s, wI 6, wI j, wI k, wR 0, wU, wU], [(.int (plv a s (4 : Int32))), .ref 0], [(.inr (cn0, [(fk0, .ref 1), (fk1, .ref 2), (fk2, .ref 3), (fk3, .int 28), (fk4, .int 4)])), (wAI (ia ks26)), (wAI (ia ns26)), (wAI (ia fl26))], 45) _
  refine .s (.iloadN a0_154 rfl) <| .s (.iloadN a0_155 rfl) <| .s (.iconst (4 : Int32) a0_156 rfl) ?_
  refine .callS a0_157 (ok8 hw _ _ _ _) (wd hw 42 rfl) (wd hw 43 rfl) (argsL := [(.int c), (.int d), .int 4]) (S := [(.int (plv a s (4 : Int32))), .ref 0]) (c8 hw _ _ c d (4 : Int32) _ _) rfl rfl rfl rfl rfl rfl (Nat.le_of_ble_eq_true rfl) (Nat.le_of_ble_eq_true rfl) ?_
  rintro _ _ _ ⟨rfl, rfl, rfl⟩
  show WGo _ (160, [wI a, wI b, wI c, wI d, wI e, wI f, wI s, wI 6, wI j, wI k, wR 0, wU, wU], [(.int (nuv c d (4 : Int32))), (.int (plv a s (4 : Int32))), .ref 0], [(.inr (cn0, [(fk0, .ref 1), (fk1, .ref 2), (fk2, .ref 3), (fk3, .int 28), (fk4, .int 4)])), (wAI (ia ks26)), (wAI (ia ns26)), (wAI (ia fl26))], 45) _
  refine .callV (k := 0) (z := (⟨"com/example/tributary/tributary/facts/PlaceMap", "put", "(II)V"⟩ : MethodName)) a0_160 (ok9 hw _ _ _ _) ⟨rfl, by decide⟩ (wd hw 45 rfl) (wd hw 46 rfl) (fun s hZ => notFace_of_selects (args := #[]) (mvT hZ (wd hw 48 rfl))) (wd hw 48 rfl) (wd hw 47 rfl) rfl (argsL := [(.int (plv a s (4 : Int32))), (.int (nuv c d (4 : Int32)))]) (S := []) (cputA_4 hw _ _ ks26 ns26 fl26 [(s_23, (plv a s (0 : Int32)), (nuv c d (0 : Int32))), (s_24, (plv a s (1 : Int32)), (nuv c d (1 : Int32))), (s_25, (plv a s (2 : Int32)), (nuv c d (2 : Int32))), (s_26, (plv a s (3 : Int32)), (nuv c d (3 : Int32)))] (plv a s (4 : Int32)) (nuv c d (4 : Int32)) hR26 rfl (plv_nz _ _ _) (new_cons (plv_ne a s _ _ 0 4 rfl rfl ho (by decide)) (new_cons (plv_ne a s _ _ 1 4 rfl rfl ho (by decide)) (new_cons (plv_ne a s _ _ 2 4 rfl rfl ho (by decide)) (new_cons (plv_ne a s _ _ 3 4 rfl rfl ho (by decide)) new_nil)))) _) rfl rfl rfl rfl rfl rfl (Nat.le_of_ble_eq_true rfl) (Nat.le_of_ble_eq_true rfl) ?_
  rintro _ _ _ ⟨ks27, ns27, fl27, s_27, hR27', rfl, rfl, rfl⟩; have hR27 : WRep 16 (whash 28) ks27 ns27 fl27 [(s_23, (plv a s (0 : Int32)), (nuv c d (0 : Int32))), (s_24, (plv a s (1 : Int32)), (nuv c d (1 : Int32))), (s_25, (plv a s (2 : Int32)), (nuv c d (2 : Int32))), (s_26, (plv a s (3 : Int32)), (nuv c d (3 : Int32))), (s_27, (plv a s (4 : Int32)), (nuv c d (4 : Int32)))] := hR27'
  show WGo _ (163, [wI a, wI b, wI c, wI d, wI e, wI f, wI s, wI 6, wI j, wI k, wR 0, wU, wU], [], [(.inr (cn0, [(fk0, .ref 1), (fk1, .ref 2), (fk2, .ref 3), (fk3, .int 28), (fk4, .int 5)])), (wAI (ia ks27)), (wAI (ia ns27)), (wAI (ia fl27))], 45) _
  refine .s (.iload a0_163 rfl) <| .s (.iconst (5 : Int32) a0_165 rfl) <| .s (.icmpF a0_166 (by decide)) <| .s (.aload a0_169 rfl rfl) <| .s (.iloadN a0_171 rfl) <| .s (.iload a0_172 rfl) <| .s (.iconst (5 : Int32) a0_174 rfl) ?_
  refine .callS a0_175 (ok4 hw _ _ _ _) (wd hw 25 rfl) (wd hw 26 rfl) (argsL := [(.int a), (.int s), .int 5]) (S := [.ref 0]) (c4 hw _ _ a s (5 : Int32) _ _) rfl rfl rfl rfl rfl rfl (Nat.le_of_ble_eq_true rfl) (Nat.le_of_ble_eq_true rfl) ?_
  rintro _ _ _ ⟨rfl, rfl, rfl⟩
  show WGo _ (178, [wI a, wI b, wI c, wI d, wI e, wI f, wI s, wI 6, wI j, wI k, wR 0, wU, wU], [(.int (plv a s (5 : Int32))), .ref 0], [(.inr (cn0, [(fk0, .ref 1), (fk1, .ref 2), (fk2, .ref 3), (fk3, .int 28), (fk4, .int 5)])), (wAI (ia ks27)), (wAI (ia ns27)), (wAI (ia fl27))], 45) _
  refine .s (.iloadN a0_178 rfl) <| .s (.iloadN a0_179 rfl) <| .s (.iconst (5 : Int32) a0_180 rfl) ?_
  refine .callS a0_181 (ok8 hw _ _ _ _) (wd hw 42 rfl) (wd hw 43 rfl) (argsL := [(.int c), (.int d), .int 5]) (S := [(.int (plv a s (5 : Int32))), .ref 0]) (c8 hw _ _ c d (5 : Int32) _ _) rfl rfl rfl rfl rfl rfl (Nat.le_of_ble_eq_true rfl) (Nat.le_of_ble_eq_true rfl) ?_
  rintro _ _ _ ⟨rfl, rfl, rfl⟩
  show WGo _ (184, [wI a, wI b, wI c, wI d, wI e, wI f, wI s, wI 6, wI j, wI k, wR 0, wU, wU], [(.int (nuv c d (5 : Int32))), (.int (plv a s (5 : Int32))), .ref 0], [(.inr (cn0, [(fk0, .ref 1), (fk1, .ref 2), (fk2, .ref 3), (fk3, .int 28), (fk4, .int 5)])), (wAI (ia ks27)), (wAI (ia ns27)), (wAI (ia fl27))], 45) _
  refine .callV (k := 0) (z := (⟨"com/example/tributary/tributary/facts/PlaceMap", "put", "(II)V"⟩ : MethodName)) a0_184 (ok9 hw _ _ _ _) ⟨rfl, by decide⟩ (wd hw 45 rfl) (wd hw 46 rfl) (fun s hZ => notFace_of_selects (args := #[]) (mvT hZ (wd hw 48 rfl))) (wd hw 48 rfl) (wd hw 47 rfl) rfl (argsL := [(.int (plv a s (5 : Int32))), (.int (nuv c d (5 : Int32)))]) (S := []) (cputA_5 hw _ _ ks27 ns27 fl27 [(s_23, (plv a s (0 : Int32)), (nuv c d (0 : Int32))), (s_24, (plv a s (1 : Int32)), (nuv c d (1 : Int32))), (s_25, (plv a s (2 : Int32)), (nuv c d (2 : Int32))), (s_26, (plv a s (3 : Int32)), (nuv c d (3 : Int32))), (s_27, (plv a s (4 : Int32)), (nuv c d (4 : Int32)))] (plv a s (5 : Int32)) (nuv c d (5 : Int32)) hR27 rfl (plv_nz _ _ _) (new_cons (plv_ne a s _ _ 0 5 rfl rfl ho (by decide)) (new_cons (plv_ne a s _ _ 1 5 rfl rfl ho (by decide)) (new_cons (plv_ne a s _ _ 2 5 rfl rfl ho (by decide)) (new_cons (plv_ne a s _ _ 3 5 rfl rfl ho (by decide)) (new_cons (plv_ne a s _ _ 4 5 rfl rfl ho (by decide)) new_nil))))) _) rfl rfl rfl rfl rfl rfl (Nat.le_of_ble_eq_true rfl) (Nat.le_of_ble_eq_true rfl) ?_
  rintro _ _ _ ⟨ks28, ns28, fl28, s_28, hR28', rfl, rfl, rfl⟩; have hR28 : WRep 16 (whash 28) ks28 ns28 fl28 [(s_23, (plv a s (0 : Int32)), (nuv c d (0 : Int32))), (s_24, (plv a s (1 : Int32)), (nuv c d (1 : Int32))), (s_25, (plv a s (2 : Int32)), (nuv c d (2 : Int32))), (s_26, (plv a s (3 : Int32)), (nuv c d (3 : Int32))), (s_27, (plv a s (4 : Int32)), (nuv c d (4 : Int32))), (s_28, (plv a s (5 : Int32)), (nuv c d (5 : Int32)))] := hR28'
  show WGo _ (187, [wI a, wI b, wI c, wI d, wI e, wI f, wI s, wI 6, wI j, wI k, wR 0, wU, wU], [], [(.inr (cn0, [(fk0, .ref 1), (fk1, .ref 2), (fk2, .ref 3), (fk3, .int 28), (fk4, .int 6)])), (wAI (ia ks28)), (wAI (ia ns28)), (wAI (ia fl28))], 45) _
  refine .s (.iload a0_187 rfl) <| .s (.bipush (6 : Int32) a0_189 rfl) <| .s (.icmpT a0_191 (by decide)) <| .s (.iload a0_214 rfl) <| .s (.bipush (7 : Int32) a0_216 rfl) <| .s (.icmpT a0_218 (by decide)) <| .s (.iload a0_241 rfl) ?_
  refine .s (.bipush (8 : Int32) a0_243 rfl) <| .s (.icmpT a0_245 (by decide)) <| .s (.aload a0_268 rfl rfl) <| .s (.iloadN a0_270 rfl) <| .s (.iload a0_271 rfl) <| .s (.iload a0_273 rfl) ?_
  refine .callS a0_275 (ok4 hw _ _ _ _) (wd hw 25 rfl) (wd hw 26 rfl) (argsL := [(.int a), (.int s), (.int j)]) (S := [.ref 0]) (c4 hw _ _ a s j _ _) rfl rfl rfl rfl rfl rfl (Nat.le_of_ble_eq_true rfl) (Nat.le_of_ble_eq_true rfl) ?_
  rintro _ _ _ ⟨rfl, rfl, rfl⟩
  show WGo _ (278, [wI a, wI b, wI c, wI d, wI e, wI f, wI s, wI 6, wI j, wI k, wR 0, wU, wU], [(.int (plv a s j)), .ref 0], [(.inr (cn0, [(fk0, .ref 1), (fk1, .ref 2), (fk2, .ref 3), (fk3, .int 28), (fk4, .int 6)])), (wAI (ia ks28)), (wAI (ia ns28)), (wAI (ia fl28))], 45) _
  refine .callV (k := 0) (z := (⟨"com/example/tributary/tributary/facts/PlaceMap", "get", "(I)I"⟩ : MethodName)) a0_278 (ok5 hw _ _ _ _) ⟨rfl, by decide⟩ (wd hw 29 rfl) (wd hw 30 rfl) (fun s hZ => notFace_of_selects (args := #[]) (mvT hZ (wd hw 32 rfl))) (wd hw 32 rfl) (wd hw 31 rfl) rfl (argsL := [(.int (plv a s j))]) (S := []) (cgetA hw _ _ ks28 ns28 fl28 [(s_23, (plv a s (0 : Int32)), (nuv c d (0 : Int32))), (s_24, (plv a s (1 : Int32)), (nuv c d (1 : Int32))), (s_25, (plv a s (2 : Int32)), (nuv c d (2 : Int32))), (s_26, (plv a s (3 : Int32)), (nuv c d (3 : Int32))), (s_27, (plv a s (4 : Int32)), (nuv c d (4 : Int32))), (s_28, (plv a s (5 : Int32)), (nuv c d (5 : Int32)))] (plv a s j) 6 hR28 _) rfl rfl rfl rfl rfl rfl (Nat.le_of_ble_eq_true rfl) (Nat.le_of_ble_eq_true rfl) ?_
  rintro _ _ _ ⟨rfl, rfl, rfl⟩; rw [look6 a s c d j s_23 s_24 s_25 s_26 s_27 s_28 ho hj]
  show WGo _ (281, [wI a, wI b, wI c, wI d, wI e, wI f, wI s, wI 6, wI j, wI k, wR 0, wU, wU], [(.int (exv c d j (6 : Int32)))], [(.inr (cn0, [(fk0, .ref 1), (fk1, .ref 2), (fk2, .ref 3), (fk3, .int 28), (fk4, .int 6)])), (wAI (ia ks28)), (wAI (ia ns28)), (wAI (ia fl28))], 45) _
  refine .s (.istore (L' := [wI a, wI b, wI c, wI d, wI e, wI f, wI s, wI 6, wI j, wI k, wR 0, wI (exv c d j (6 : Int32)), wU]) a0_281 rfl) <| .s (.aload a0_283 rfl rfl) <| .s (.iloadN a0_285 rfl) <| .s (.iload a0_286 rfl) <| .s (.iload a0_288 rfl) ?_
  refine .callS a0_290 (ok4 hw _ _ _ _) (wd hw 25 rfl) (wd hw 26 rfl) (argsL := [(.int a), (.int s), (.int k)]) (S := [.ref 0]) (c4 hw _ _ a s k _ _) rfl rfl rfl rfl rfl rfl (Nat.le_of_ble_eq_true rfl) (Nat.le_of_ble_eq_true rfl) ?_
  rintro _ _ _ ⟨rfl, rfl, rfl⟩
  show WGo _ (293, [wI a, wI b, wI c, wI d, wI e, wI f, wI s, wI 6, wI j, wI k, wR 0, wI (exv c d j (6 : Int32)), wU], [(.int (plv a s k)), .ref 0], [(.inr (cn0, [(fk0, .ref 1), (fk1, .ref 2), (fk2, .ref 3), (fk3, .int 28), (fk4, .int 6)])), (wAI (ia ks28)), (wAI (ia ns28)), (wAI (ia fl28))], 45) _
  refine .callV (k := 0) (z := (⟨"com/example/tributary/tributary/facts/PlaceMap", "get", "(I)I"⟩ : MethodName)) a0_293 (ok5 hw _ _ _ _) ⟨rfl, by decide⟩ (wd hw 29 rfl) (wd hw 30 rfl) (fun s hZ => notFace_of_selects (args := #[]) (mvT hZ (wd hw 32 rfl))) (wd hw 32 rfl) (wd hw 31 rfl) rfl (argsL := [(.int (plv a s k))]) (S := []) (cgetA hw _ _ ks28 ns28 fl28 [(s_23, (plv a s (0 : Int32)), (nuv c d (0 : Int32))), (s_24, (plv a s (1 : Int32)), (nuv c d (1 : Int32))), (s_25, (plv a s (2 : Int32)), (nuv c d (2 : Int32))), (s_26, (plv a s (3 : Int32)), (nuv c d (3 : Int32))), (s_27, (plv a s (4 : Int32)), (nuv c d (4 : Int32))), (s_28, (plv a s (5 : Int32)), (nuv c d (5 : Int32)))] (plv a s k) 6 hR28 _) rfl rfl rfl rfl rfl rfl (Nat.le_of_ble_eq_true rfl) (Nat.le_of_ble_eq_true rfl) ?_
  rintro _ _ _ ⟨rfl, rfl, rfl⟩; rw [look6 a s c d k s_23 s_24 s_25 s_26 s_27 s_28 ho hk]
  show WGo _ (296, [wI a, wI b, wI c, wI d, wI e, wI f, wI s, wI 6, wI j, wI k, wR 0, wI (exv c d j (6 : Int32)), wU], [(.int (exv c d k (6 : Int32)))], [(.inr (cn0, [(fk0, .ref 1), (fk1, .ref 2), (fk2, .ref 3), (fk3, .int 28), (fk4, .int 6)])), (wAI (ia ks28)), (wAI (ia ns28)), (wAI (ia fl28))], 45) _
  refine .s (.istore (L' := [wI a, wI b, wI c, wI d, wI e, wI f, wI s, wI 6, wI j, wI k, wR 0, wI (exv c d j (6 : Int32)), wI (exv c d k (6 : Int32))]) a0_296 rfl) <| .s (.iload a0_298 rfl) <| .s (.iloadN a0_300 rfl) <| .s (.iloadN a0_301 rfl) <| .s (.iload a0_302 rfl) <| .s (.iload a0_304 rfl) ?_
  refine .callS a0_306 (ok7 hw _ _ _ _) (wd hw 39 rfl) (wd hw 40 rfl) (argsL := [(.int c), (.int d), (.int j), .int 6]) (S := [(.int (exv c d j (6 : Int32)))]) (c7 hw _ _ c d j (6 : Int32) _ _) rfl rfl rfl rfl rfl rfl (Nat.le_of_ble_eq_true rfl) (Nat.le_of_ble_eq_true rfl) ?_
  rintro _ _ _ ⟨rfl, rfl, rfl⟩
  show WGo _ (309, [wI a, wI b, wI c, wI d, wI e, wI f, wI s, wI 6, wI j, wI k, wR 0, wI (exv c d j (6 : Int32)), wI (exv c d k (6 : Int32))], [(.int (exv c d j (6 : Int32))), (.int (exv c d j (6 : Int32)))], [(.inr (cn0, [(fk0, .ref 1), (fk1, .ref 2), (fk2, .ref 3), (fk3, .int 28), (fk4, .int 6)])), (wAI (ia ks28)), (wAI (ia ns28)), (wAI (ia fl28))], 45) _
  refine .s (.icmpF a0_309 (teq rfl).2) <| .s (.iload a0_312 rfl) <| .s (.iloadN a0_314 rfl) <| .s (.iloadN a0_315 rfl) <| .s (.iload a0_316 rfl) <| .s (.iload a0_318 rfl) ?_
  refine .callS a0_320 (ok7 hw _ _ _ _) (wd hw 39 rfl) (wd hw 40 rfl) (argsL := [(.int c), (.int d), (.int k), .int 6]) (S := [(.int (exv c d k (6 : Int32)))]) (c7 hw _ _ c d k (6 : Int32) _ _) rfl rfl rfl rfl rfl rfl (Nat.le_of_ble_eq_true rfl) (Nat.le_of_ble_eq_true rfl) ?_
  rintro _ _ _ ⟨rfl, rfl, rfl⟩
  show WGo _ (323, [wI a, wI b, wI c, wI d, wI e, wI f, wI s, wI 6, wI j, wI k, wR 0, wI (exv c d j (6 : Int32)), wI (exv c d k (6 : Int32))], [(.int (exv c d k (6 : Int32))), (.int (exv c d k (6 : Int32)))], [(.inr (cn0, [(fk0, .ref 1), (fk1, .ref 2), (fk2, .ref 3), (fk3, .int 28), (fk4, .int 6)])), (wAI (ia ks28)), (wAI (ia ns28)), (wAI (ia fl28))], 45) _
  refine .s (.icmpF a0_323 (teq rfl).2) <| .s (.iconst (1 : Int32) a0_326 rfl) <| .s (.goto a0_327) ?_
  refine .ireturn .boolean a0_331 rfl (by simp) ?_
  exact ⟨rfl, Nat.le_of_ble_eq_true rfl, Nat.le_of_ble_eq_true rfl⟩
set_option maxHeartbeats 40000000 in
theorem seg7 (Z : State) (a0 : Array Value) (hw : ∀ d ∈ tables_1, d.before a0 Z = true) (n0 : Nat) (a b c d e f : Int32) (s j k : Int32) (ho : s.toInt % 2 = 1) (hj : j = 0 ∨ j = 1 ∨ j = 2 ∨ j = 3 ∨ j = 4 ∨ j = 5 ∨ j = 6 ∨ j = 7 ∨ j = 8 ∨ j = 9) (hk : k = 0 ∨ k = 1 ∨ k = 2 ∨ k = 3 ∨ k = 4 ∨ k = 5 ∨ k = 6 ∨ k = 7 ∨ k = 8 ∨ k = 9) : WGo (g0 Z (fun k => n0 + k) n0 0 0) (35, [wI a, wI b, wI c, wI d, wI e, wI f, wI s, wI 7, wI j, wI k, wU, wU, wU], [], [], 0) (fun v σ' u' => v = some (.int 1) ∧ σ'.length ≤ 24 ∧ u' ≤ 320) := by
  refine .s (.newO (k := 0) [(fk0, .null), (fk1, .null), (fk2, .null), (fk3, .int 0), (fk4, .int 0)] a0_35 (wd hw 2 rfl) (wd hw 3 rfl) (wd hw 4 rfl) ⟨⟨Or.inl (wd hw 13 rfl), (.array .int), by decide, rfl⟩, ⟨Or.inl (wd hw 15 rfl), (.array .int), by decide, rfl⟩, ⟨Or.inl (wd hw 17 rfl), (.array .int), by decide, rfl⟩, ⟨Or.inl (wd hw 24 rfl), .int, by decide, rfl⟩, ⟨Or.inl (wd hw 51 rfl), .int, by decide, rfl⟩, trivial⟩ (by decide) rfl (by decide)) ?_
  show WGo _ (38, [wI a, wI b, wI c, wI d, wI e, wI f, wI s, wI 7, wI j, wI k, wU, wU, wU], [.ref 0], [(.inr (cn0, [(fk0, .null), (fk1, .null), (fk2, .null), (fk3, .int 0), (fk4, .int 0)]))], 5) _
  refine .s (.dup a0_38 rfl) ?_
  refine .callI (k := 0) a0_39 (ok1 hw _ _ _ _) rfl rfl (wd hw 5 rfl) (wd hw 6 rfl) (by decide) (argsL := []) (S := [.ref 0]) (au1_1 hw _ _ _) rfl rfl rfl rfl rfl rfl (Nat.le_of_ble_eq_true rfl) (Nat.le_of_ble_eq_true rfl) ?_
  rintro _ _ _ ⟨rfl, rfl, rfl⟩; have hR29 : WRep 16 (whash 28) (List.replicate 16 0) (List.replicate 16 0) (List.replicate 8 0) [] := WRep.nil rfl rfl
  show WGo _ (42, [wI a, wI b, wI c, wI d, wI e, wI f, wI s, wI 7, wI j, wI k, wU, wU, wU], [.ref 0], [(.inr (cn0, [(fk0, .ref 1), (fk1, .ref 2), (fk2, .ref 3), (fk3, .int 28), (fk4, .int 0)])), (wAI (ia (List.replicate 16 0))), (wAI (ia (List.replicate 16 0))), (wAI (ia (List.replicate 8 0)))], 45) _
  refine .s (.astore (L' := [wI a, wI b, wI c, wI d, wI e, wI f, wI s, wI 7, wI j, wI k, wR 0, wU, wU]) a0_42 rfl rfl) <| .s (.iload a0_44 rfl) <| .s (.ifF a0_46 (by decide)) <| .s (.aload a0_49 rfl rfl) <| .s (.iloadN a0_51 rfl) <| .s (.iload a0_52 rfl) <| .s (.iconst (0 : Int32) a0_54 rfl) ?_
  refine .callS a0_55 (ok4 hw _ _ _ _) (wd hw 25 rfl) (wd hw 26 rfl) (argsL := [(.int a), (.int s), .int 0]) (S := [.ref 0]) (c4 hw _ _ a s (0 : Int32) _ _) rfl rfl rfl rfl rfl rfl (Nat.le_of_ble_eq_true rfl) (Nat.le_of_ble_eq_true rfl) ?_
  rintro _ _ _ ⟨rfl, rfl, rfl⟩
  show WGo _ (58, [wI a, wI b, wI c, wI d, wI e, wI f, wI s, wI 7, wI j, wI k, wR 0, wU, wU], [(.int (plv a s (0 : Int32))), .ref 0], [(.inr (cn0, [(fk0, .ref 1), (fk1, .ref 2), (fk2, .ref 3), (fk3, .int 28), (fk4, .int 0)])), (wAI (ia (List.replicate 16 0))), (wAI (ia (List.replicate 16 0))), (wAI (ia (List.replicate 8 0)))], 45) _
  refine .s (.iloadN a0_58 rfl) <| .s (.iloadN a0_59 rfl) <| .s (.iconst (0 : Int32) a0_60 rfl) ?_
  refine .callS a0_61 (ok8 hw _ _ _ _) (wd hw 42 rfl) (wd hw 43 rfl) (argsL := [(.int c), (.int d), .int 0]) (S := [(.int (plv a s (0 : Int32))), .ref 0]) (c8 hw _ _ c d (0 : Int32) _ _) rfl rfl rfl rfl rfl rfl (Nat.le_of_ble_eq_true rfl) (Nat.le_of_ble_eq_true rfl) ?_
  rintro _ _ _ ⟨rfl, rfl, rfl⟩
  show WGo _ (64, [wI a, wI b, wI c, wI d, wI e, wI f, wI s, wI 7, wI j, wI k, wR 0, wU, wU], [(.int (nuv c d (0 : Int32))), (.int (plv a s (0 : Int32))), .ref 0], [(.inr (cn0, [(fk0, .ref 1), (fk1, .ref 2), (fk2, .ref 3), (fk3, .int 28), (fk4, .int 0)])), (wAI (ia (List.replicate 16 0))), (wAI (ia (List.replicate 16 0))), (wAI (ia (List.replicate 8 0)))], 45) _
  refine .callV (k := 0) (z := (⟨"com/example/tributary/tributary/facts/PlaceMap", "put", "(II)V"⟩ : MethodName)) a0_64 (ok9 hw _ _ _ _) ⟨rfl, by decide⟩ (wd hw 45 rfl) (wd hw 46 rfl) (fun s hZ => notFace_of_selects (args := #[]) (mvT hZ (wd hw 48 rfl))) (wd hw 48 rfl) (wd hw 47 rfl) rfl (argsL := [(.int (plv a s (0 : Int32))), (.int (nuv c d (0 : Int32)))]) (S := []) (cputA_0 hw _ _ (List.replicate 16 0) (List.replicate 16 0) (List.replicate 8 0) [] (plv a s (0 : Int32)) (nuv c d (0 : Int32)) hR29 rfl (plv_nz _ _ _) new_nil _) rfl rfl rfl rfl rfl rfl (Nat.le_of_ble_eq_true rfl) (Nat.le_of_ble_eq_true rfl) ?_
  rintro _ _ _ ⟨ks30, ns30, fl30, s_30, hR30', rfl, rfl, rfl⟩; have hR30 : WRep 16 (whash 28) ks30 ns30 fl30 [(s_30, (plv a s (0 : Int32)), (nuv c d (0 : Int32)))] := hR30'
  show WGo _ (67, [wI a, wI b, wI c, wI d, wI e, wI f, wI s, wI 7, wI j, wI k, wR 0, wU, wU], [], [(.inr (cn0, [(fk0, .ref 1), (fk1, .ref 2), (fk2, .ref 3), (fk3, .int 28), (fk4, .int 1)])), (wAI (ia ks30)), (wAI (ia ns30)), (wAI (ia fl30))], 45) _
  refine .s (.iload a0_67 rfl) <| .s (.iconst (1 : Int32) a0_69 rfl) <| .s (.icmpF a0_70 (by decide)) <| .s (.aload a0_73 rfl rfl) <| .s (.iloadN a0_75 rfl) <| .s (.iload a0_76 rfl) <| .s (.iconst (1 : Int32) a0_78 rfl) ?_
  refine .callS a0_79 (ok4 hw _ _ _ _) (wd hw 25 rfl) (wd hw 26 rfl) (argsL := [(.int a), (.int s), .int 1]) (S := [.ref 0]) (c4 hw _ _ a s (1 : Int32) _ _) rfl rfl rfl rfl rfl rfl (Nat.le_of_ble_eq_true rfl) (Nat.le_of_ble_eq_true rfl) ?_
  rintro _ _ _ ⟨rfl, rfl, rfl⟩
  show WGo _ (82, [wI a, wI b, wI c, wI d, wI e, wI f, wI s, wI 7, wI j, wI k, wR 0, wU, wU], [(.int (plv a s (1 : Int32))), .ref 0], [(.inr (cn0, [(fk0, .ref 1), (fk1, .ref 2), (fk2, .ref 3), (fk3, .int 28), (fk4, .int 1)])), (wAI (ia ks30)), (wAI (ia ns30)), (wAI (ia fl30))], 45) _
  refine .s (.iloadN a0_82 rfl) <| .s (.iloadN a0_83 rfl) <| .s (.iconst (1 : Int32) a0_84 rfl) ?_
  refine .callS a0_85 (ok8 hw _ _ _ _) (wd hw 42 rfl) (wd hw 43 rfl) (argsL := [(.int c), (.int d), .int 1]) (S := [(.int (plv a s (1 : Int32))), .ref 0]) (c8 hw _ _ c d (1 : Int32) _ _) rfl rfl rfl rfl rfl rfl (Nat.le_of_ble_eq_true rfl) (Nat.le_of_ble_eq_true rfl) ?_
  rintro _ _ _ ⟨rfl, rfl, rfl⟩
  show WGo _ (88, [wI a, wI b, wI c, wI d, wI e, wI f, wI s, wI 7, wI j, wI k, wR 0, wU, wU], [(.int (nuv c d (1 : Int32))), (.int (plv a s (1 : Int32))), .ref 0], [(.inr (cn0, [(fk0, .ref 1), (fk1, .ref 2), (fk2, .ref 3), (fk3, .int 28), (fk4, .int 1)])), (wAI (ia ks30)), (wAI (ia ns30)), (wAI (ia fl30))], 45) _
  refine .callV (k := 0) (z := (⟨"com/example/tributary/tributary/facts/PlaceMap", "put", "(II)V"⟩ : MethodName)) a0_88 (ok9 hw _ _ _ _) ⟨rfl, by decide⟩ (wd hw 45 rfl) (wd hw 46 rfl) (fun s hZ => notFace_of_selects (args := #[]) (mvT hZ (wd hw 48 rfl))) (wd hw 48 rfl) (wd hw 47 rfl) rfl (argsL := [(.int (plv a s (1 : Int32))), (.int (nuv c d (1 : Int32)))]) (S := []) (cputA_1 hw _ _ ks30 ns30 fl30 [(s_30, (plv a s (0 : Int32)), (nuv c d (0 : Int32)))] (plv a s (1 : Int32)) (nuv c d (1 : Int32)) hR30 rfl (plv_nz _ _ _) (new_cons (plv_ne a s _ _ 0 1 rfl rfl ho (by decide)) new_nil) _) rfl rfl rfl rfl rfl rfl (Nat.le_of_ble_eq_true rfl) (Nat.le_of_ble_eq_true rfl) ?_
  rintro _ _ _ ⟨ks31, ns31, fl31, s_31, hR31', rfl, rfl, rfl⟩; have hR31 : WRep 16 (whash 28) ks31 ns31 fl31 [(s_30, (plv a s (0 : Int32)), (nuv c d (0 : Int32))), (s_31, (plv a s (1 : Int32)), (nuv c d (1 : Int32)))] := hR31'
  show WGo _ (91, [wI a, wI b, wI c, wI d, wI e, wI f, wI s, wI 7, wI j, wI k, wR 0, wU, wU], [], [(.inr (cn0, [(fk0, .ref 1), (fk1, .ref 2), (fk2, .ref 3), (fk3, .int 28), (fk4, .int 2)])), (wAI (ia ks31)), (wAI (ia ns31)), (wAI (ia fl31))], 45) _
  refine .s (.iload a0_91 rfl) <| .s (.iconst (2 : Int32) a0_93 rfl) <| .s (.icmpF a0_94 (by decide)) <| .s (.aload a0_97 rfl rfl) <| .s (.iloadN a0_99 rfl) <| .s (.iload a0_100 rfl) <| .s (.iconst (2 : Int32) a0_102 rfl) ?_
  refine .callS a0_103 (ok4 hw _ _ _ _) (wd hw 25 rfl) (wd hw 26 rfl) (argsL := [(.int a), (.int s), .int 2]) (S := [.ref 0]) (c4 hw _ _ a s (2 : Int32) _ _) rfl rfl rfl rfl rfl rfl (Nat.le_of_ble_eq_true rfl) (Nat.le_of_ble_eq_true rfl) ?_
  rintro _ _ _ ⟨rfl, rfl, rfl⟩
  show WGo _ (106, [wI a, wI b, wI c, wI d, wI e, wI f, wI s, wI 7, wI j, wI k, wR 0, wU, wU], [(.int (plv a s (2 : Int32))), .ref 0], [(.inr (cn0, [(fk0, .ref 1), (fk1, .ref 2), (fk2, .ref 3), (fk3, .int 28), (fk4, .int 2)])), (wAI (ia ks31)), (wAI (ia ns31)), (wAI (ia fl31))], 45) _
  refine .s (.iloadN a0_106 rfl) <| .s (.iloadN a0_107 rfl) <| .s (.iconst (2 : Int32) a0_108 rfl) ?_
  refine .callS a0_109 (ok8 hw _ _ _ _) (wd hw 42 rfl) (wd hw 43 rfl) (argsL := [(.int c), (.int d), .int 2]) (S := [(.int (plv a s (2 : Int32))), .ref 0]) (c8 hw _ _ c d (2 : Int32) _ _) rfl rfl rfl rfl rfl rfl (Nat.le_of_ble_eq_true rfl) (Nat.le_of_ble_eq_true rfl) ?_
  rintro _ _ _ ⟨rfl, rfl, rfl⟩
  show WGo _ (112, [wI a, wI b, wI c, wI d, wI e, wI f, wI s, wI 7, wI j, wI k, wR 0, wU, wU], [(.int (nuv c d (2 : Int32))), (.int (plv a s (2 : Int32))), .ref 0], [(.inr (cn0, [(fk0, .ref 1), (fk1, .ref 2), (fk2, .ref 3), (fk3, .int 28), (fk4, .int 2)])), (wAI (ia ks31)), (wAI (ia ns31)), (wAI (ia fl31))], 45) _
  refine .callV (k := 0) (z := (⟨"com/example/tributary/tributary/facts/PlaceMap", "put", "(II)V"⟩ : MethodName)) a0_112 (ok9 hw _ _ _ _) ⟨rfl, by decide⟩ (wd hw 45 rfl) (wd hw 46 rfl) (fun s hZ => notFace_of_selects (args := #[]) (mvT hZ (wd hw 48 rfl))) (wd hw 48 rfl) (wd hw 47 rfl) rfl (argsL := [(.int (plv a s (2 : Int32))), (.int (nuv c d (2 : Int32)))]) (S := []) (cputA_2 hw _ _ ks31 ns31 fl31 [(s_30, (plv a s (0 : Int32)), (nuv c d (0 : Int32))), (s_31, (plv a s (1 : Int32)), (nuv c d (1 : Int32)))] (plv a s (2 : Int32)) (nuv c d (2 : Int32)) hR31 rfl (plv_nz _ _ _) (new_cons (plv_ne a s _ _ 0 2 rfl rfl ho (by decide)) (new_cons (plv_ne a s _ _ 1 2 rfl rfl ho (by decide)) new_nil)) _) rfl rfl rfl rfl rfl rfl (Nat.le_of_ble_eq_true rfl) (Nat.le_of_ble_eq_true rfl) ?_
  rintro _ _ _ ⟨ks32, ns32, fl32, s_32, hR32', rfl, rfl, rfl⟩; have hR32 : WRep 16 (whash 28) ks32 ns32 fl32 [(s_30, (plv a s (0 : Int32)), (nuv c d (0 : Int32))), (s_31, (plv a s (1 : Int32)), (nuv c d (1 : Int32))), (s_32, (plv a s (2 : Int32)), (nuv c d (2 : Int32)))] := hR32'
  show WGo _ (115, [wI a, wI b, wI c, wI d, wI e, wI f, wI s, wI 7, wI j, wI k, wR 0, wU, wU], [], [(.inr (cn0, [(fk0, .ref 1), (fk1, .ref 2), (fk2, .ref 3), (fk3, .int 28), (fk4, .int 3)])), (wAI (ia ks32)), (wAI (ia ns32)), (wAI (ia fl32))], 45) _
  refine .s (.iload a0_115 rfl) <| .s (.iconst (3 : Int32) a0_117 rfl) <| .s (.icmpF a0_118 (by decide)) <| .s (.aload a0_121 rfl rfl) <| .s (.iloadN a0_123 rfl) <| .s (.iload a0_124 rfl) <| .s (.iconst (3 : Int32) a0_126 rfl) ?_
  refine .callS a0_127 (ok4 hw _ _ _ _) (wd hw 25 rfl) (wd hw 26 rfl) (argsL := [(.int a), (.int s), .int 3]) (S := [.ref 0]) (c4 hw _ _ a s (3 : Int32) _ _) rfl rfl rfl rfl rfl rfl (Nat.le_of_ble_eq_true rfl) (Nat.le_of_ble_eq_true rfl) ?_
  rintro _ _ _ ⟨rfl, rfl, rfl⟩
  show WGo _ (130, [wI a, wI b, wI c, wI d, wI e, wI f, wI s, wI 7, wI j, wI k, wR 0, wU, wU], [(.int (plv a s (3 : Int32))), .ref 0], [(.inr (cn0, [(fk0, .ref 1), (fk1, .ref 2), (fk2, .ref 3), (fk3, .int 28), (fk4, .int 3)])), (wAI (ia ks32)), (wAI (ia ns32)), (wAI (ia fl32))], 45) _
  refine .s (.iloadN a0_130 rfl) <| .s (.iloadN a0_131 rfl) <| .s (.iconst (3 : Int32) a0_132 rfl) ?_
  refine .callS a0_133 (ok8 hw _ _ _ _) (wd hw 42 rfl) (wd hw 43 rfl) (argsL := [(.int c), (.int d), .int 3]) (S := [(.int (plv a s (3 : Int32))), .ref 0]) (c8 hw _ _ c d (3 : Int32) _ _) rfl rfl rfl rfl rfl rfl (Nat.le_of_ble_eq_true rfl) (Nat.le_of_ble_eq_true rfl) ?_
  rintro _ _ _ ⟨rfl, rfl, rfl⟩
  show WGo _ (136, [wI a, wI b, wI c, wI d, wI e, wI f, wI s, wI 7, wI j, wI k, wR 0, wU, wU], [(.int (nuv c d (3 : Int32))), (.int (plv a s (3 : Int32))), .ref 0], [(.inr (cn0, [(fk0, .ref 1), (fk1, .ref 2), (fk2, .ref 3), (fk3, .int 28), (fk4, .int 3)])), (wAI (ia ks32)), (wAI (ia ns32)), (wAI (ia fl32))], 45) _
  refine .callV (k := 0) (z := (⟨"com/example/tributary/tributary/facts/PlaceMap", "put", "(II)V"⟩ : MethodName)) a0_136 (ok9 hw _ _ _ _) ⟨rfl, by decide⟩ (wd hw 45 rfl) (wd hw 46 rfl) (fun s hZ => notFace_of_selects (args := #[]) (mvT hZ (wd hw 48 rfl))) (wd hw 48 rfl) (wd hw 47 rfl) rfl (argsL := [(.int (plv a s (3 : Int32))), (.int (nuv c d (3 : Int32)))]) (S := []) (cputA_3 hw _ _ ks32 ns32 fl32 [(s_30, (plv a s (0 : Int32)), (nuv c d (0 : Int32))), (s_31, (plv a s (1 : Int32)), (nuv c d (1 : Int32))), (s_32, (plv a s (2 : Int32)), (nuv c d (2 : Int32)))] (plv a s (3 : Int32)) (nuv c d (3 : Int32)) hR32 rfl (plv_nz _ _ _) (new_cons (plv_ne a s _ _ 0 3 rfl rfl ho (by decide)) (new_cons (plv_ne a s _ _ 1 3 rfl rfl ho (by decide)) (new_cons (plv_ne a s _ _ 2 3 rfl rfl ho (by decide)) new_nil))) _) rfl rfl rfl rfl rfl rfl (Nat.le_of_ble_eq_true rfl) (Nat.le_of_ble_eq_true rfl) ?_
  rintro _ _ _ ⟨ks33, ns33, fl33, s_33, hR33', rfl, rfl, rfl⟩; have hR33 : WRep 16 (whash 28) ks33 ns33 fl33 [(s_30, (plv a s (0 : Int32)), (nuv c d (0 : Int32))), (s_31, (plv a s (1 : Int32)), (nuv c d (1 : Int32))), (s_32, (plv a s (2 : Int32)), (nuv c d (2 : Int32))), (s_33, (plv a s (3 : Int32)), (nuv c d (3 : Int32)))] := hR33'
  show WGo _ (139, [wI a, wI b, wI c, wI d, wI e, wI f, wI s, wI 7, wI j, wI k, wR 0, wU, wU], [], [(.inr (cn0, [(fk0, .ref 1), (fk1, .ref 2), (fk2, .ref 3), (fk3, .int 28), (fk4, .int 4)])), (wAI (ia ks33)), (wAI (ia ns33)), (wAI (ia fl33))], 45) _
  refine .s (.iload a0_139 rfl) <| .s (.iconst (4 : Int32) a0_141 rfl) <| .s (.icmpF a0_142 (by decide)) <| .s (.aload a0_145 rfl rfl) <| .s (.iloadN a0_147 rfl) <| .s (.iload a0_148 rfl) <| .s (.iconst (4 : Int32) a0_150 rfl) ?_
  refine .callS a0_151 (ok4 hw _ _ _ _) (wd hw 25 rfl) (wd hw 26 rfl) (argsL := [(.int a), (.int s), .int 4]) (S := [.ref 0]) (c4 hw _ _ a s (4 : Int32) _ _) rfl rfl rfl rfl rfl rfl (Nat.le_of_ble_eq_true rfl) (Nat.le_of_ble_eq_true rfl) ?_
  rintro _ _ _ ⟨rfl, rfl, rfl⟩
  show WGo _ (154, [wI a, wI b, wI c, wI d, wI e, wI f, wI s, wI 7, wI j, wI k, wR 0, wU, wU], [(.int (plv a s (4 : Int32))), .ref 0], [(.inr (cn0, [(fk0, .ref 1), (fk1, .ref 2), (fk2, .ref 3), (fk3, .int 28), (fk4, .int 4)])), (wAI (ia ks33)), (wAI (ia ns33)), (wAI (ia fl33))], 45) _
  refine .s (.iloadN a0_154 rfl) <| .s (.iloadN a0_155 rfl) <| .s (.iconst (4 : Int32) a0_156 rfl) ?_
  refine .callS a0_157 (ok8 hw _ _ _ _) (wd hw 42 rfl) (wd hw 43 rfl) (argsL := [(.int c), (.int d), .int 4]) (S := [(.int (plv a s (4 : Int32))), .ref 0]) (c8 hw _ _ c d (4 : Int32) _ _) rfl rfl rfl rfl rfl rfl (Nat.le_of_ble_eq_true rfl) (Nat.le_of_ble_eq_true rfl) ?_
  rintro _ _ _ ⟨rfl, rfl, rfl⟩
  show WGo _ (160, [wI a, wI b, wI c, wI d, wI e, wI f, wI s, wI 7, wI j, wI k, wR 0, wU, wU], [(.int (nuv c d (4 : Int32))), (.int (plv a s (4 : Int32))), .ref 0], [(.inr (cn0, [(fk0, .ref 1), (fk1, .ref 2), (fk2, .ref 3), (fk3, .int 28), (fk4, .int 4)])), (wAI (ia ks33)), (wAI (ia ns33)), (wAI (ia fl33))], 45) _
  refine .callV (k := 0) (z := (⟨"com/example/tributary/tributary/facts/PlaceMap", "put", "(II)V"⟩ : MethodName)) a0_160 (ok9 hw _ _ _ _) ⟨rfl, by decide⟩ (wd hw 45 rfl) (wd hw 46 rfl) (fun s hZ => notFace_of_selects (args := #[]) (mvT hZ (wd hw 48 rfl))) (wd hw 48 rfl) (wd hw 47 rfl) rfl (argsL := [(.int (plv a s (4 : Int32))), (.int (nuv c d (4 : Int32)))]) (S := []) (cputA_4 hw _ _ ks33 ns33 fl33 [(s_30, (plv a s (0 : Int32)), (nuv c d (0 : Int32))), (s_31, (plv a s (1 : Int32)), (nuv c d (1 : Int32))), (s_32, (plv a s (2 : Int32)), (nuv c d (2 : Int32))), (s_33, (plv a s (3 : Int32)), (nuv c d (3 : Int32)))] (plv a s (4 : Int32)) (nuv c d (4 : Int32)) hR33 rfl (plv_nz _ _ _) (new_cons (plv_ne a s _ _ 0 4 rfl rfl ho (by decide)) (new_cons (plv_ne a s _ _ 1 4 rfl rfl ho (by decide)) (new_cons (plv_ne a s _ _ 2 4 rfl rfl ho (by decide)) (new_cons (plv_ne a s _ _ 3 4 rfl rfl ho (by decide)) new_nil)))) _) rfl rfl rfl rfl rfl rfl (Nat.le_of_ble_eq_true rfl) (Nat.le_of_ble_eq_true rfl) ?_
  rintro _ _ _ ⟨ks34, ns34, fl34, s_34, hR34', rfl, rfl, rfl⟩; have hR34 : WRep 16 (whash 28) ks34 ns34 fl34 [(s_30, (plv a s (0 : Int32)), (nuv c d (0 : Int32))), (s_31, (plv a s (1 : Int32)), (nuv c d (1 : Int32))), (s_32, (plv a s (2 : Int32)), (nuv c d (2 : Int32))), (s_33, (plv a s (3 : Int32)), (nuv c d (3 : Int32))), (s_34, (plv a s (4 : Int32)), (nuv c d (4 : Int32)))] := hR34'
  show WGo _ (163, [wI a, wI b, wI c, wI d, wI e, wI f, wI s, wI 7, wI j, wI k, wR 0, wU, wU], [], [(.inr (cn0, [(fk0, .ref 1), (fk1, .ref 2), (fk2, .ref 3), (fk3, .int 28), (fk4, .int 5)])), (wAI (ia ks34)), (wAI (ia ns34)), (wAI (ia fl34))], 45) _
  refine .s (.iload a0_163 rfl) <| .s (.iconst (5 : Int32) a0_165 rfl) <| .s (.icmpF a0_166 (by decide)) <| .s (.aload a0_169 rfl rfl) <| .s (.iloadN a0_171 rfl) <| .s (.iload a0_172 rfl) <| .s (.iconst (5 : Int32) a0_174 rfl) ?_
  refine .callS a0_175 (ok4 hw _ _ _ _) (wd hw 25 rfl) (wd hw 26 rfl) (argsL := [(.int a), (.int s), .int 5]) (S := [.ref 0]) (c4 hw _ _ a s (5 : Int32) _ _) rfl rfl rfl rfl rfl rfl (Nat.le_of_ble_eq_true rfl) (Nat.le_of_ble_eq_true rfl) ?_
  rintro _ _ _ ⟨rfl, rfl, rfl⟩
  show WGo _ (178, [wI a, wI b, wI c, wI d, wI e, wI f, wI s, wI 7, wI j, wI k, wR 0, wU, wU], [(.int (plv a s (5 : Int32))), .ref 0], [(.inr (cn0, [(fk0, .ref 1), (fk1, .ref 2), (fk2, .ref 3), (fk3, .int 28), (fk4, .int 5)])), (wAI (ia ks34)), (wAI (ia ns34)), (wAI (ia fl34))], 45) _
  refine .s (.iloadN a0_178 rfl) <| .s (.iloadN a0_179 rfl) <| .s (.iconst (5 : Int32) a0_180 rfl) ?_
  refine .callS a0_181 (ok8 hw _ _ _ _) (wd hw 42 rfl) (wd hw 43 rfl) (argsL := [(.int c), (.int d), .int 5]) (S := [(.int (plv a s (5 : Int32))), .ref 0]) (c8 hw _ _ c d (5 : Int32) _ _) rfl rfl rfl rfl rfl rfl (Nat.le_of_ble_eq_true rfl) (Nat.le_of_ble_eq_true rfl) ?_
  rintro _ _ _ ⟨rfl, rfl, rfl⟩
  show WGo _ (184, [wI a, wI b, wI c, wI d, wI e, wI f, wI s, wI 7, wI j, wI k, wR 0, wU, wU], [(.int (nuv c d (5 : Int32))), (.int (plv a s (5 : Int32))), .ref 0], [(.inr (cn0, [(fk0, .ref 1), (fk1, .ref 2), (fk2, .ref 3), (fk3, .int 28), (fk4, .int 5)])), (wAI (ia ks34)), (wAI (ia ns34)), (wAI (ia fl34))], 45) _
  refine .callV (k := 0) (z := (⟨"com/example/tributary/tributary/facts/PlaceMap", "put", "(II)V"⟩ : MethodName)) a0_184 (ok9 hw _ _ _ _) ⟨rfl, by decide⟩ (wd hw 45 rfl) (wd hw 46 rfl) (fun s hZ => notFace_of_selects (args := #[]) (mvT hZ (wd hw 48 rfl))) (wd hw 48 rfl) (wd hw 47 rfl) rfl (argsL := [(.int (plv a s (5 : Int32))), (.int (nuv c d (5 : Int32)))]) (S := []) (cputA_5 hw _ _ ks34 ns34 fl34 [(s_30, (plv a s (0 : Int32)), (nuv c d (0 : Int32))), (s_31, (plv a s (1 : Int32)), (nuv c d (1 : Int32))), (s_32, (plv a s (2 : Int32)), (nuv c d (2 : Int32))), (s_33, (plv a s (3 : Int32)), (nuv c d (3 : Int32))), (s_34, (plv a s (4 : Int32)), (nuv c d (4 : Int32)))] (plv a s (5 : Int32)) (nuv c d (5 : Int32)) hR34 rfl (plv_nz _ _ _) (new_cons (plv_ne a s _ _ 0 5 rfl rfl ho (by decide)) (new_cons (plv_ne a s _ _ 1 5 rfl rfl ho (by decide)) (new_cons (plv_ne a s _ _ 2 5 rfl rfl ho (by decide)) (new_cons (plv_ne a s _ _ 3 5 rfl rfl ho (by decide)) (new_cons (plv_ne a s _ _ 4 5 rfl rfl ho (by decide)) new_nil))))) _) rfl rfl rfl rfl rfl rfl (Nat.le_of_ble_eq_true rfl) (Nat.le_of_ble_eq_true rfl) ?_
  rintro _ _ _ ⟨ks35, ns35, fl35, s_35, hR35', rfl, rfl, rfl⟩; have hR35 : WRep 16 (whash 28) ks35 ns35 fl35 [(s_30, (plv a s (0 : Int32)), (nuv c d (0 : Int32))), (s_31, (plv a s (1 : Int32)), (nuv c d (1 : Int32))), (s_32, (plv a s (2 : Int32)), (nuv c d (2 : Int32))), (s_33, (plv a s (3 : Int32)), (nuv c d (3 : Int32))), (s_34, (plv a s (4 : Int32)), (nuv c d (4 : Int32))), (s_35, (plv a s (5 : Int32)), (nuv c d (5 : Int32)))] := hR35'
  show WGo _ (187, [wI a, wI b, wI c, wI d, wI e, wI f, wI s, wI 7, wI j, wI k, wR 0, wU, wU], [], [(.inr (cn0, [(fk0, .ref 1), (fk1, .ref 2), (fk2, .ref 3), (fk3, .int 28), (fk4, .int 6)])), (wAI (ia ks35)), (wAI (ia ns35)), (wAI (ia fl35))], 45) _
  refine .s (.iload a0_187 rfl) <| .s (.bipush (6 : Int32) a0_189 rfl) <| .s (.icmpF a0_191 (by decide)) <| .s (.aload a0_194 rfl rfl) <| .s (.iloadN a0_196 rfl) <| .s (.iload a0_197 rfl) <| .s (.bipush (6 : Int32) a0_199 rfl) ?_
  refine .callS a0_201 (ok4 hw _ _ _ _) (wd hw 25 rfl) (wd hw 26 rfl) (argsL := [(.int a), (.int s), .int 6]) (S := [.ref 0]) (c4 hw _ _ a s (6 : Int32) _ _) rfl rfl rfl rfl rfl rfl (Nat.le_of_ble_eq_true rfl) (Nat.le_of_ble_eq_true rfl) ?_
  rintro _ _ _ ⟨rfl, rfl, rfl⟩
  show WGo _ (204, [wI a, wI b, wI c, wI d, wI e, wI f, wI s, wI 7, wI j, wI k, wR 0, wU, wU], [(.int (plv a s (6 : Int32))), .ref 0], [(.inr (cn0, [(fk0, .ref 1), (fk1, .ref 2), (fk2, .ref 3), (fk3, .int 28), (fk4, .int 6)])), (wAI (ia ks35)), (wAI (ia ns35)), (wAI (ia fl35))], 45) _
  refine .s (.iloadN a0_204 rfl) <| .s (.iloadN a0_205 rfl) <| .s (.bipush (6 : Int32) a0_206 rfl) ?_
  refine .callS a0_208 (ok8 hw _ _ _ _) (wd hw 42 rfl) (wd hw 43 rfl) (argsL := [(.int c), (.int d), .int 6]) (S := [(.int (plv a s (6 : Int32))), .ref 0]) (c8 hw _ _ c d (6 : Int32) _ _) rfl rfl rfl rfl rfl rfl (Nat.le_of_ble_eq_true rfl) (Nat.le_of_ble_eq_true rfl) ?_
  rintro _ _ _ ⟨rfl, rfl, rfl⟩
  show WGo _ (211, [wI a, wI b, wI c, wI d, wI e, wI f, wI s, wI 7, wI j, wI k, wR 0, wU, wU], [(.int (nuv c d (6 : Int32))), (.int (plv a s (6 : Int32))), .ref 0], [(.inr (cn0, [(fk0, .ref 1), (fk1, .ref 2), (fk2, .ref 3), (fk3, .int 28), (fk4, .int 6)])), (wAI (ia ks35)), (wAI (ia ns35)), (wAI (ia fl35))], 45) _
  refine .callV (k := 0) (z := (⟨"com/example/tributary/tributary/facts/PlaceMap", "put", "(II)V"⟩ : MethodName)) a0_211 (ok9 hw _ _ _ _) ⟨rfl, by decide⟩ (wd hw 45 rfl) (wd hw 46 rfl) (fun s hZ => notFace_of_selects (args := #[]) (mvT hZ (wd hw 48 rfl))) (wd hw 48 rfl) (wd hw 47 rfl) rfl (argsL := [(.int (plv a s (6 : Int32))), (.int (nuv c d (6 : Int32)))]) (S := []) (cputA_6 hw _ _ ks35 ns35 fl35 [(s_30, (plv a s (0 : Int32)), (nuv c d (0 : Int32))), (s_31, (plv a s (1 : Int32)), (nuv c d (1 : Int32))), (s_32, (plv a s (2 : Int32)), (nuv c d (2 : Int32))), (s_33, (plv a s (3 : Int32)), (nuv c d (3 : Int32))), (s_34, (plv a s (4 : Int32)), (nuv c d (4 : Int32))), (s_35, (plv a s (5 : Int32)), (nuv c d (5 : Int32)))] (plv a s (6 : Int32)) (nuv c d (6 : Int32)) hR35 rfl (plv_nz _ _ _) (new_cons (plv_ne a s _ _ 0 6 rfl rfl ho (by decide)) (new_cons (plv_ne a s _ _ 1 6 rfl rfl ho (by decide)) (new_cons (plv_ne a s _ _ 2 6 rfl rfl ho (by decide)) (new_cons (plv_ne a s _ _ 3 6 rfl rfl ho (by decide)) (new_cons (plv_ne a s _ _ 4 6 rfl rfl ho (by decide)) (new_cons (plv_ne a s _ _ 5 6 rfl rfl ho (by decide)) new_nil)))))) _) rfl rfl rfl rfl rfl rfl (Nat.le_of_ble_eq_true rfl) (Nat.le_of_ble_eq_true rfl) ?_
  rintro _ _ _ ⟨ks36, ns36, fl36, s_36, hR36', rfl, rfl, rfl⟩; have hR36 : WRep 16 (whash 28) ks36 ns36 fl36 [(s_30, (plv a s (0 : Int32)), (nuv c d (0 : Int32))), (s_31, (plv a s (1 : Int32)), (nuv c d (1 : Int32))), (s_32, (plv a s (2 : Int32)), (nuv c d (2 : Int32))), (s_33, (plv a s (3 : Int32)), (nuv c d (3 : Int32))), (s_34, (plv a s (4 : Int32)), (nuv c d (4 : Int32))), (s_35, (plv a s (5 : Int32)), (nuv c d (5 : Int32))), (s_36, (plv a s (6 : Int32)), (nuv c d (6 : Int32)))] := hR36'
  show WGo _ (214, [wI a, wI b, wI c, wI d, wI e, wI f, wI s, wI 7, wI j, wI k, wR 0, wU, wU], [], [(.inr (cn0, [(fk0, .ref 1), (fk1, .ref 2), (fk2, .ref 3), (fk3, .int 28), (fk4, .int 7)])), (wAI (ia ks36)), (wAI (ia ns36)), (wAI (ia fl36))], 45) _
  refine .s (.iload a0_214 rfl) <| .s (.bipush (7 : Int32) a0_216 rfl) <| .s (.icmpT a0_218 (by decide)) <| .s (.iload a0_241 rfl) <| .s (.bipush (8 : Int32) a0_243 rfl) <| .s (.icmpT a0_245 (by decide)) <| .s (.aload a0_268 rfl rfl) ?_
  refine .s (.iloadN a0_270 rfl) <| .s (.iload a0_271 rfl) <| .s (.iload a0_273 rfl) ?_
  refine .callS a0_275 (ok4 hw _ _ _ _) (wd hw 25 rfl) (wd hw 26 rfl) (argsL := [(.int a), (.int s), (.int j)]) (S := [.ref 0]) (c4 hw _ _ a s j _ _) rfl rfl rfl rfl rfl rfl (Nat.le_of_ble_eq_true rfl) (Nat.le_of_ble_eq_true rfl) ?_
  rintro _ _ _ ⟨rfl, rfl, rfl⟩
  show WGo _ (278, [wI a, wI b, wI c, wI d, wI e, wI f, wI s, wI 7, wI j, wI k, wR 0, wU, wU], [(.int (plv a s j)), .ref 0], [(.inr (cn0, [(fk0, .ref 1), (fk1, .ref 2), (fk2, .ref 3), (fk3, .int 28), (fk4, .int 7)])), (wAI (ia ks36)), (wAI (ia ns36)), (wAI (ia fl36))], 45) _
  refine .callV (k := 0) (z := (⟨"com/example/tributary/tributary/facts/PlaceMap", "get", "(I)I"⟩ : MethodName)) a0_278 (ok5 hw _ _ _ _) ⟨rfl, by decide⟩ (wd hw 29 rfl) (wd hw 30 rfl) (fun s hZ => notFace_of_selects (args := #[]) (mvT hZ (wd hw 32 rfl))) (wd hw 32 rfl) (wd hw 31 rfl) rfl (argsL := [(.int (plv a s j))]) (S := []) (cgetA hw _ _ ks36 ns36 fl36 [(s_30, (plv a s (0 : Int32)), (nuv c d (0 : Int32))), (s_31, (plv a s (1 : Int32)), (nuv c d (1 : Int32))), (s_32, (plv a s (2 : Int32)), (nuv c d (2 : Int32))), (s_33, (plv a s (3 : Int32)), (nuv c d (3 : Int32))), (s_34, (plv a s (4 : Int32)), (nuv c d (4 : Int32))), (s_35, (plv a s (5 : Int32)), (nuv c d (5 : Int32))), (s_36, (plv a s (6 : Int32)), (nuv c d (6 : Int32)))] (plv a s j) 7 hR36 _) rfl rfl rfl rfl rfl rfl (Nat.le_of_ble_eq_true rfl) (Nat.le_of_ble_eq_true rfl) ?_
  rintro _ _ _ ⟨rfl, rfl, rfl⟩; rw [look7 a s c d j s_30 s_31 s_32 s_33 s_34 s_35 s_36 ho hj]
  show WGo _ (281, [wI a, wI b, wI c, wI d, wI e, wI f, wI s, wI 7, wI j, wI k, wR 0, wU, wU], [(.int (exv c d j (7 : Int32)))], [(.inr (cn0, [(fk0, .ref 1), (fk1, .ref 2), (fk2, .ref 3), (fk3, .int 28), (fk4, .int 7)])), (wAI (ia ks36)), (wAI (ia ns36)), (wAI (ia fl36))], 45) _
  refine .s (.istore (L' := [wI a, wI b, wI c, wI d, wI e, wI f, wI s, wI 7, wI j, wI k, wR 0, wI (exv c d j (7 : Int32)), wU]) a0_281 rfl) <| .s (.aload a0_283 rfl rfl) <| .s (.iloadN a0_285 rfl) <| .s (.iload a0_286 rfl) <| .s (.iload a0_288 rfl) ?_
  refine .callS a0_290 (ok4 hw _ _ _ _) (wd hw 25 rfl) (wd hw 26 rfl) (argsL := [(.int a), (.int s), (.int k)]) (S := [.ref 0]) (c4 hw _ _ a s k _ _) rfl rfl rfl rfl rfl rfl (Nat.le_of_ble_eq_true rfl) (Nat.le_of_ble_eq_true rfl) ?_
  rintro _ _ _ ⟨rfl, rfl, rfl⟩
  show WGo _ (293, [wI a, wI b, wI c, wI d, wI e, wI f, wI s, wI 7, wI j, wI k, wR 0, wI (exv c d j (7 : Int32)), wU], [(.int (plv a s k)), .ref 0], [(.inr (cn0, [(fk0, .ref 1), (fk1, .ref 2), (fk2, .ref 3), (fk3, .int 28), (fk4, .int 7)])), (wAI (ia ks36)), (wAI (ia ns36)), (wAI (ia fl36))], 45) _
  refine .callV (k := 0) (z := (⟨"com/example/tributary/tributary/facts/PlaceMap", "get", "(I)I"⟩ : MethodName)) a0_293 (ok5 hw _ _ _ _) ⟨rfl, by decide⟩ (wd hw 29 rfl) (wd hw 30 rfl) (fun s hZ => notFace_of_selects (args := #[]) (mvT hZ (wd hw 32 rfl))) (wd hw 32 rfl) (wd hw 31 rfl) rfl (argsL := [(.int (plv a s k))]) (S := []) (cgetA hw _ _ ks36 ns36 fl36 [(s_30, (plv a s (0 : Int32)), (nuv c d (0 : Int32))), (s_31, (plv a s (1 : Int32)), (nuv c d (1 : Int32))), (s_32, (plv a s (2 : Int32)), (nuv c d (2 : Int32))), (s_33, (plv a s (3 : Int32)), (nuv c d (3 : Int32))), (s_34, (plv a s (4 : Int32)), (nuv c d (4 : Int32))), (s_35, (plv a s (5 : Int32)), (nuv c d (5 : Int32))), (s_36, (plv a s (6 : Int32)), (nuv c d (6 : Int32)))] (plv a s k) 7 hR36 _) rfl rfl rfl rfl rfl rfl (Nat.le_of_ble_eq_true rfl) (Nat.le_of_ble_eq_true rfl) ?_
  rintro _ _ _ ⟨rfl, rfl, rfl⟩; rw [look7 a s c d k s_30 s_31 s_32 s_33 s_34 s_35 s_36 ho hk]
  show WGo _ (296, [wI a, wI b, wI c, wI d, wI e, wI f, wI s, wI 7, wI j, wI k, wR 0, wI (exv c d j (7 : Int32)), wU], [(.int (exv c d k (7 : Int32)))], [(.inr (cn0, [(fk0, .ref 1), (fk1, .ref 2), (fk2, .ref 3), (fk3, .int 28), (fk4, .int 7)])), (wAI (ia ks36)), (wAI (ia ns36)), (wAI (ia fl36))], 45) _
  refine .s (.istore (L' := [wI a, wI b, wI c, wI d, wI e, wI f, wI s, wI 7, wI j, wI k, wR 0, wI (exv c d j (7 : Int32)), wI (exv c d k (7 : Int32))]) a0_296 rfl) <| .s (.iload a0_298 rfl) <| .s (.iloadN a0_300 rfl) <| .s (.iloadN a0_301 rfl) <| .s (.iload a0_302 rfl) <| .s (.iload a0_304 rfl) ?_
  refine .callS a0_306 (ok7 hw _ _ _ _) (wd hw 39 rfl) (wd hw 40 rfl) (argsL := [(.int c), (.int d), (.int j), .int 7]) (S := [(.int (exv c d j (7 : Int32)))]) (c7 hw _ _ c d j (7 : Int32) _ _) rfl rfl rfl rfl rfl rfl (Nat.le_of_ble_eq_true rfl) (Nat.le_of_ble_eq_true rfl) ?_
  rintro _ _ _ ⟨rfl, rfl, rfl⟩
  show WGo _ (309, [wI a, wI b, wI c, wI d, wI e, wI f, wI s, wI 7, wI j, wI k, wR 0, wI (exv c d j (7 : Int32)), wI (exv c d k (7 : Int32))], [(.int (exv c d j (7 : Int32))), (.int (exv c d j (7 : Int32)))], [(.inr (cn0, [(fk0, .ref 1), (fk1, .ref 2), (fk2, .ref 3), (fk3, .int 28), (fk4, .int 7)])), (wAI (ia ks36)), (wAI (ia ns36)), (wAI (ia fl36))], 45) _
  refine .s (.icmpF a0_309 (teq rfl).2) <| .s (.iload a0_312 rfl) <| .s (.iloadN a0_314 rfl) <| .s (.iloadN a0_315 rfl) <| .s (.iload a0_316 rfl) <| .s (.iload a0_318 rfl) ?_
  refine .callS a0_320 (ok7 hw _ _ _ _) (wd hw 39 rfl) (wd hw 40 rfl) (argsL := [(.int c), (.int d), (.int k), .int 7]) (S := [(.int (exv c d k (7 : Int32)))]) (c7 hw _ _ c d k (7 : Int32) _ _) rfl rfl rfl rfl rfl rfl (Nat.le_of_ble_eq_true rfl) (Nat.le_of_ble_eq_true rfl) ?_
  rintro _ _ _ ⟨rfl, rfl, rfl⟩
  show WGo _ (323, [wI a, wI b, wI c, wI d, wI e, wI f, wI s, wI 7, wI j, wI k, wR 0, wI (exv c d j (7 : Int32)), wI (exv c d k (7 : Int32))], [(.int (exv c d k (7 : Int32))), (.int (exv c d k (7 : Int32)))], [(.inr (cn0, [(fk0, .ref 1), (fk1, .ref 2), (fk2, .ref 3), (fk3, .int 28), (fk4, .int 7)])), (wAI (ia ks36)), (wAI (ia ns36)), (wAI (ia fl36))], 45) _
  refine .s (.icmpF a0_323 (teq rfl).2) <| .s (.iconst (1 : Int32) a0_326 rfl) <| .s (.goto a0_327) ?_
  refine .ireturn .boolean a0_331 rfl (by simp) ?_
  exact ⟨rfl, Nat.le_of_ble_eq_true rfl, Nat.le_of_ble_eq_true rfl⟩
set_option maxHeartbeats 40000000 in
theorem seg8 (Z : State) (a0 : Array Value) (hw : ∀ d ∈ tables_1, d.before a0 Z = true) (n0 : Nat) (a b c d e f : Int32) (s j k : Int32) (ho : s.toInt % 2 = 1) (hj : j = 0 ∨ j = 1 ∨ j = 2 ∨ j = 3 ∨ j = 4 ∨ j = 5 ∨ j = 6 ∨ j = 7 ∨ j = 8 ∨ j = 9) (hk : k = 0 ∨ k = 1 ∨ k = 2 ∨ k = 3 ∨ k = 4 ∨ k = 5 ∨ k = 6 ∨ k = 7 ∨ k = 8 ∨ k = 9) : WGo (g0 Z (fun k => n0 + k) n0 0 0) (35, [wI a, wI b, wI c, wI d, wI e, wI f, wI s, wI 8, wI j, wI k, wU, wU, wU], [], [], 0) (fun v σ' u' => v = some (.int 1) ∧ σ'.length ≤ 24 ∧ u' ≤ 320) := by
  refine .s (.newO (k := 0) [(fk0, .null), (fk1, .null), (fk2, .null), (fk3, .int 0), (fk4, .int 0)] a0_35 (wd hw 2 rfl) (wd hw 3 rfl) (wd hw 4 rfl) ⟨⟨Or.inl (wd hw 13 rfl), (.array .int), by decide, rfl⟩, ⟨Or.inl (wd hw 15 rfl), (.array .int), by decide, rfl⟩, ⟨Or.inl (wd hw 17 rfl), (.array .int), by decide, rfl⟩, ⟨Or.inl (wd hw 24 rfl), .int, by decide, rfl⟩, ⟨Or.inl (wd hw 51 rfl), .int, by decide, rfl⟩, trivial⟩ (by decide) rfl (by decide)) ?_
  show WGo _ (38, [wI a, wI b, wI c, wI d, wI e, wI f, wI s, wI 8, wI j, wI k, wU, wU, wU], [.ref 0], [(.inr (cn0, [(fk0, .null), (fk1, .null), (fk2, .null), (fk3, .int 0), (fk4, .int 0)]))], 5) _
  refine .s (.dup a0_38 rfl) ?_
  refine .callI (k := 0) a0_39 (ok1 hw _ _ _ _) rfl rfl (wd hw 5 rfl) (wd hw 6 rfl) (by decide) (argsL := []) (S := [.ref 0]) (au1_1 hw _ _ _) rfl rfl rfl rfl rfl rfl (Nat.le_of_ble_eq_true rfl) (Nat.le_of_ble_eq_true rfl) ?_
  rintro _ _ _ ⟨rfl, rfl, rfl⟩; have hR37 : WRep 16 (whash 28) (List.replicate 16 0) (List.replicate 16 0) (List.replicate 8 0) [] := WRep.nil rfl rfl
  show WGo _ (42, [wI a, wI b, wI c, wI d, wI e, wI f, wI s, wI 8, wI j, wI k, wU, wU, wU], [.ref 0], [(.inr (cn0, [(fk0, .ref 1), (fk1, .ref 2), (fk2, .ref 3), (fk3, .int 28), (fk4, .int 0)])), (wAI (ia (List.replicate 16 0))), (wAI (ia (List.replicate 16 0))), (wAI (ia (List.replicate 8 0)))], 45) _
  refine .s (.astore (L' := [wI a, wI b, wI c, wI d, wI e, wI f, wI s, wI 8, wI j, wI k, wR 0, wU, wU]) a0_42 rfl rfl) <| .s (.iload a0_44 rfl) <| .s (.ifF a0_46 (by decide)) <| .s (.aload a0_49 rfl rfl) <| .s (.iloadN a0_51 rfl) <| .s (.iload a0_52 rfl) <| .s (.iconst (0 : Int32) a0_54 rfl) ?_
  refine .callS a0_55 (ok4 hw _ _ _ _) (wd hw 25 rfl) (wd hw 26 rfl) (argsL := [(.int a), (.int s), .int 0]) (S := [.ref 0]) (c4 hw _ _ a s (0 : Int32) _ _) rfl rfl rfl rfl rfl rfl (Nat.le_of_ble_eq_true rfl) (Nat.le_of_ble_eq_true rfl) ?_
  rintro _ _ _ ⟨rfl, rfl, rfl⟩
  show WGo _ (58, [wI a, wI b, wI c, wI d, wI e, wI f, wI s, wI 8, wI j, wI k, wR 0, wU, wU], [(.int (plv a s (0 : Int32))), .ref 0], [(.inr (cn0, [(fk0, .ref 1), (fk1, .ref 2), (fk2, .ref 3), (fk3, .int 28), (fk4, .int 0)])), (wAI (ia (List.replicate 16 0))), (wAI (ia (List.replicate 16 0))), (wAI (ia (List.replicate 8 0)))], 45) _
  refine .s (.iloadN a0_58 rfl) <| .s (.iloadN a0_59 rfl) <| .s (.iconst (0 : Int32) a0_60 rfl) ?_
  refine .callS a0_61 (ok8 hw _ _ _ _) (wd hw 42 rfl) (wd hw 43 rfl) (argsL := [(.int c), (.int d), .int 0]) (S := [(.int (plv a s (0 : Int32))), .ref 0]) (c8 hw _ _ c d (0 : Int32) _ _) rfl rfl rfl rfl rfl rfl (Nat.le_of_ble_eq_true rfl) (Nat.le_of_ble_eq_true rfl) ?_
  rintro _ _ _ ⟨rfl, rfl, rfl⟩
  show WGo _ (64, [wI a, wI b, wI c, wI d, wI e, wI f, wI s, wI 8, wI j, wI k, wR 0, wU, wU], [(.int (nuv c d (0 : Int32))), (.int (plv a s (0 : Int32))), .ref 0], [(.inr (cn0, [(fk0, .ref 1), (fk1, .ref 2), (fk2, .ref 3), (fk3, .int 28), (fk4, .int 0)])), (wAI (ia (List.replicate 16 0))), (wAI (ia (List.replicate 16 0))), (wAI (ia (List.replicate 8 0)))], 45) _
  refine .callV (k := 0) (z := (⟨"com/example/tributary/tributary/facts/PlaceMap", "put", "(II)V"⟩ : MethodName)) a0_64 (ok9 hw _ _ _ _) ⟨rfl, by decide⟩ (wd hw 45 rfl) (wd hw 46 rfl) (fun s hZ => notFace_of_selects (args := #[]) (mvT hZ (wd hw 48 rfl))) (wd hw 48 rfl) (wd hw 47 rfl) rfl (argsL := [(.int (plv a s (0 : Int32))), (.int (nuv c d (0 : Int32)))]) (S := []) (cputA_0 hw _ _ (List.replicate 16 0) (List.replicate 16 0) (List.replicate 8 0) [] (plv a s (0 : Int32)) (nuv c d (0 : Int32)) hR37 rfl (plv_nz _ _ _) new_nil _) rfl rfl rfl rfl rfl rfl (Nat.le_of_ble_eq_true rfl) (Nat.le_of_ble_eq_true rfl) ?_
  rintro _ _ _ ⟨ks38, ns38, fl38, s_38, hR38', rfl, rfl, rfl⟩; have hR38 : WRep 16 (whash 28) ks38 ns38 fl38 [(s_38, (plv a s (0 : Int32)), (nuv c d (0 : Int32)))] := hR38'
  show WGo _ (67, [wI a, wI b, wI c, wI d, wI e, wI f, wI s, wI 8, wI j, wI k, wR 0, wU, wU], [], [(.inr (cn0, [(fk0, .ref 1), (fk1, .ref 2), (fk2, .ref 3), (fk3, .int 28), (fk4, .int 1)])), (wAI (ia ks38)), (wAI (ia ns38)), (wAI (ia fl38))], 45) _
  refine .s (.iload a0_67 rfl) <| .s (.iconst (1 : Int32) a0_69 rfl) <| .s (.icmpF a0_70 (by decide)) <| .s (.aload a0_73 rfl rfl) <| .s (.iloadN a0_75 rfl) <| .s (.iload a0_76 rfl) <| .s (.iconst (1 : Int32) a0_78 rfl) ?_
  refine .callS a0_79 (ok4 hw _ _ _ _) (wd hw 25 rfl) (wd hw 26 rfl) (argsL := [(.int a), (.int s), .int 1]) (S := [.ref 0]) (c4 hw _ _ a s (1 : Int32) _ _) rfl rfl rfl rfl rfl rfl (Nat.le_of_ble_eq_true rfl) (Nat.le_of_ble_eq_true rfl) ?_
  rintro _ _ _ ⟨rfl, rfl, rfl⟩
  show WGo _ (82, [wI a, wI b, wI c, wI d, wI e, wI f, wI s, wI 8, wI j, wI k, wR 0, wU, wU], [(.int (plv a s (1 : Int32))), .ref 0], [(.inr (cn0, [(fk0, .ref 1), (fk1, .ref 2), (fk2, .ref 3), (fk3, .int 28), (fk4, .int 1)])), (wAI (ia ks38)), (wAI (ia ns38)), (wAI (ia fl38))], 45) _
  refine .s (.iloadN a0_82 rfl) <| .s (.iloadN a0_83 rfl) <| .s (.iconst (1 : Int32) a0_84 rfl) ?_
  refine .callS a0_85 (ok8 hw _ _ _ _) (wd hw 42 rfl) (wd hw 43 rfl) (argsL := [(.int c), (.int d), .int 1]) (S := [(.int (plv a s (1 : Int32))), .ref 0]) (c8 hw _ _ c d (1 : Int32) _ _) rfl rfl rfl rfl rfl rfl (Nat.le_of_ble_eq_true rfl) (Nat.le_of_ble_eq_true rfl) ?_
  rintro _ _ _ ⟨rfl, rfl, rfl⟩
  show WGo _ (88, [wI a, wI b, wI c, wI d, wI e, wI f, wI s, wI 8, wI j, wI k, wR 0, wU, wU], [(.int (nuv c d (1 : Int32))), (.int (plv a s (1 : Int32))), .ref 0], [(.inr (cn0, [(fk0, .ref 1), (fk1, .ref 2), (fk2, .ref 3), (fk3, .int 28), (fk4, .int 1)])), (wAI (ia ks38)), (wAI (ia ns38)), (wAI (ia fl38))], 45) _
  refine .callV (k := 0) (z := (⟨"com/example/tributary/tributary/facts/PlaceMap", "put", "(II)V"⟩ : MethodName)) a0_88 (ok9 hw _ _ _ _) ⟨rfl, by decide⟩ (wd hw 45 rfl) (wd hw 46 rfl) (fun s hZ => notFace_of_selects (args := #[]) (mvT hZ (wd hw 48 rfl))) (wd hw 48 rfl) (wd hw 47 rfl) rfl (argsL := [(.int (plv a s (1 : Int32))), (.int (nuv c d (1 : Int32)))]) (S := []) (cputA_1 hw _ _ ks38 ns38 fl38 [(s_38, (plv a s (0 : Int32)), (nuv c d (0 : Int32)))] (plv a s (1 : Int32)) (nuv c d (1 : Int32)) hR38 rfl (plv_nz _ _ _) (new_cons (plv_ne a s _ _ 0 1 rfl rfl ho (by decide)) new_nil) _) rfl rfl rfl rfl rfl rfl (Nat.le_of_ble_eq_true rfl) (Nat.le_of_ble_eq_true rfl) ?_
  rintro _ _ _ ⟨ks39, ns39, fl39, s_39, hR39', rfl, rfl, rfl⟩; have hR39 : WRep 16 (whash 28) ks39 ns39 fl39 [(s_38, (plv a s (0 : Int32)), (nuv c d (0 : Int32))), (s_39, (plv a s (1 : Int32)), (nuv c d (1 : Int32)))] := hR39'
  show WGo _ (91, [wI a, wI b, wI c, wI d, wI e, wI f, wI s, wI 8, wI j, wI k, wR 0, wU, wU], [], [(.inr (cn0, [(fk0, .ref 1), (fk1, .ref 2), (fk2, .ref 3), (fk3, .int 28), (fk4, .int 2)])), (wAI (ia ks39)), (wAI (ia ns39)), (wAI (ia fl39))], 45) _
  refine .s (.iload a0_91 rfl) <| .s (.iconst (2 : Int32) a0_93 rfl) <| .s (.icmpF a0_94 (by decide)) <| .s (.aload a0_97 rfl rfl) <| .s (.iloadN a0_99 rfl) <| .s (.iload a0_100 rfl) <| .s (.iconst (2 : Int32) a0_102 rfl) ?_
  refine .callS a0_103 (ok4 hw _ _ _ _) (wd hw 25 rfl) (wd hw 26 rfl) (argsL := [(.int a), (.int s), .int 2]) (S := [.ref 0]) (c4 hw _ _ a s (2 : Int32) _ _) rfl rfl rfl rfl rfl rfl (Nat.le_of_ble_eq_true rfl) (Nat.le_of_ble_eq_true rfl) ?_
  rintro _ _ _ ⟨rfl, rfl, rfl⟩
  show WGo _ (106, [wI a, wI b, wI c, wI d, wI e, wI f, wI s, wI 8, wI j, wI k, wR 0, wU, wU], [(.int (plv a s (2 : Int32))), .ref 0], [(.inr (cn0, [(fk0, .ref 1), (fk1, .ref 2), (fk2, .ref 3), (fk3, .int 28), (fk4, .int 2)])), (wAI (ia ks39)), (wAI (ia ns39)), (wAI (ia fl39))], 45) _
  refine .s (.iloadN a0_106 rfl) <| .s (.iloadN a0_107 rfl) <| .s (.iconst (2 : Int32) a0_108 rfl) ?_
  refine .callS a0_109 (ok8 hw _ _ _ _) (wd hw 42 rfl) (wd hw 43 rfl) (argsL := [(.int c), (.int d), .int 2]) (S := [(.int (plv a s (2 : Int32))), .ref 0]) (c8 hw _ _ c d (2 : Int32) _ _) rfl rfl rfl rfl rfl rfl (Nat.le_of_ble_eq_true rfl) (Nat.le_of_ble_eq_true rfl) ?_
  rintro _ _ _ ⟨rfl, rfl, rfl⟩
  show WGo _ (112, [wI a, wI b, wI c, wI d, wI e, wI f, wI s, wI 8, wI j, wI k, wR 0, wU, wU], [(.int (nuv c d (2 : Int32))), (.int (plv a s (2 : Int32))), .ref 0], [(.inr (cn0, [(fk0, .ref 1), (fk1, .ref 2), (fk2, .ref 3), (fk3, .int 28), (fk4, .int 2)])), (wAI (ia ks39)), (wAI (ia ns39)), (wAI (ia fl39))], 45) _
  refine .callV (k := 0) (z := (⟨"com/example/tributary/tributary/facts/PlaceMap", "put", "(II)V"⟩ : MethodName)) a0_112 (ok9 hw _ _ _ _) ⟨rfl, by decide⟩ (wd hw 45 rfl) (wd hw 46 rfl) (fun s hZ => notFace_of_selects (args := #[]) (mvT hZ (wd hw 48 rfl))) (wd hw 48 rfl) (wd hw 47 rfl) rfl (argsL := [(.int (plv a s (2 : Int32))), (.int (nuv c d (2 : Int32)))]) (S := []) (cputA_2 hw _ _ ks39 ns39 fl39 [(s_38, (plv a s (0 : Int32)), (nuv c d (0 : Int32))), (s_39, (plv a s (1 : Int32)), (nuv c d (1 : Int32)))] (plv a s (2 : Int32)) (nuv c d (2 : Int32)) hR39 rfl (plv_nz _ _ _) (new_cons (plv_ne a s _ _ 0 2 rfl rfl ho (by decide)) (new_cons (plv_ne a s _ _ 1 2 rfl rfl ho (by decide)) new_nil)) _) rfl rfl rfl rfl rfl rfl (Nat.le_of_ble_eq_true rfl) (Nat.le_of_ble_eq_true rfl) ?_
  rintro _ _ _ ⟨ks40, ns40, fl40, s_40, hR40', rfl, rfl, rfl⟩; have hR40 : WRep 16 (whash 28) ks40 ns40 fl40 [(s_38, (plv a s (0 : Int32)), (nuv c d (0 : Int32))), (s_39, (plv a s (1 : Int32)), (nuv c d (1 : Int32))), (s_40, (plv a s (2 : Int32)), (nuv c d (2 : Int32)))] := hR40'
  show WGo _ (115, [wI a, wI b, wI c, wI d, wI e, wI f, wI s, wI 8, wI j, wI k, wR 0, wU, wU], [], [(.inr (cn0, [(fk0, .ref 1), (fk1, .ref 2), (fk2, .ref 3), (fk3, .int 28), (fk4, .int 3)])), (wAI (ia ks40)), (wAI (ia ns40)), (wAI (ia fl40))], 45) _
  refine .s (.iload a0_115 rfl) <| .s (.iconst (3 : Int32) a0_117 rfl) <| .s (.icmpF a0_118 (by decide)) <| .s (.aload a0_121 rfl rfl) <| .s (.iloadN a0_123 rfl) <| .s (.iload a0_124 rfl) <| .s (.iconst (3 : Int32) a0_126 rfl) ?_
  refine .callS a0_127 (ok4 hw _ _ _ _) (wd hw 25 rfl) (wd hw 26 rfl) (argsL := [(.int a), (.int s), .int 3]) (S := [.ref 0]) (c4 hw _ _ a s (3 : Int32) _ _) rfl rfl rfl rfl rfl rfl (Nat.le_of_ble_eq_true rfl) (Nat.le_of_ble_eq_true rfl) ?_
  rintro _ _ _ ⟨rfl, rfl, rfl⟩
  show WGo _ (130, [wI a, wI b, wI c, wI d, wI e, wI f, wI s, wI 8, wI j, wI k, wR 0, wU, wU], [(.int (plv a s (3 : Int32))), .ref 0], [(.inr (cn0, [(fk0, .ref 1), (fk1, .ref 2), (fk2, .ref 3), (fk3, .int 28), (fk4, .int 3)])), (wAI (ia ks40)), (wAI (ia ns40)), (wAI (ia fl40))], 45) _
  refine .s (.iloadN a0_130 rfl) <| .s (.iloadN a0_131 rfl) <| .s (.iconst (3 : Int32) a0_132 rfl) ?_
  refine .callS a0_133 (ok8 hw _ _ _ _) (wd hw 42 rfl) (wd hw 43 rfl) (argsL := [(.int c), (.int d), .int 3]) (S := [(.int (plv a s (3 : Int32))), .ref 0]) (c8 hw _ _ c d (3 : Int32) _ _) rfl rfl rfl rfl rfl rfl (Nat.le_of_ble_eq_true rfl) (Nat.le_of_ble_eq_true rfl) ?_
  rintro _ _ _ ⟨rfl, rfl, rfl⟩
  show WGo _ (136, [wI a, wI b, wI c, wI d, wI e, wI f, wI s, wI 8, wI j, wI k, wR 0, wU, wU], [(.int (nuv c d (3 : Int32))), (.int (plv a s (3 : Int32))), .ref 0], [(.inr (cn0, [(fk0, .ref 1), (fk1, .ref 2), (fk2, .ref 3), (fk3, .int 28), (fk4, .int 3)])), (wAI (ia ks40)), (wAI (ia ns40)), (wAI (ia fl40))], 45) _
  refine .callV (k := 0) (z := (⟨"com/example/tributary/tributary/facts/PlaceMap", "put", "(II)V"⟩ : MethodName)) a0_136 (ok9 hw _ _ _ _) ⟨rfl, by decide⟩ (wd hw 45 rfl) (wd hw 46 rfl) (fun s hZ => notFace_of_selects (args := #[]) (mvT hZ (wd hw 48 rfl))) (wd hw 48 rfl) (wd hw 47 rfl) rfl (argsL := [(.int (plv a s (3 : Int32))), (.int (nuv c d (3 : Int32)))]) (S := []) (cputA_3 hw _ _ ks40 ns40 fl40 [(s_38, (plv a s (0 : Int32)), (nuv c d (0 : Int32))), (s_39, (plv a s (1 : Int32)), (nuv c d (1 : Int32))), (s_40, (plv a s (2 : Int32)), (nuv c d (2 : Int32)))] (plv a s (3 : Int32)) (nuv c d (3 : Int32)) hR40 rfl (plv_nz _ _ _) (new_cons (plv_ne a s _ _ 0 3 rfl rfl ho (by decide)) (new_cons (plv_ne a s _ _ 1 3 rfl rfl ho (by decide)) (new_cons (plv_ne a s _ _ 2 3 rfl rfl ho (by decide)) new_nil))) _) rfl rfl rfl rfl rfl rfl (Nat.le_of_ble_eq_true rfl) (Nat.le_of_ble_eq_true rfl) ?_
  rintro _ _ _ ⟨ks41, ns41, fl41, s_41, hR41', rfl, rfl, rfl⟩; have hR41 : WRep 16 (whash 28) ks41 ns41 fl41 [(s_38, (plv a s (0 : Int32)), (nuv c d (0 : Int32))), (s_39, (plv a s (1 : Int32)), (nuv c d (1 : Int32))), (s_40, (plv a s (2 : Int32)), (nuv c d (2 : Int32))), (s_41, (plv a s (3 : Int32)), (nuv c d (3 : Int32)))] := hR41'
  show WGo _ (139, [wI a, wI b, wI c, wI d, wI e, wI f, wI s, wI 8, wI j, wI k, wR 0, wU, wU], [], [(.inr (cn0, [(fk0, .ref 1), (fk1, .ref 2), (fk2, .ref 3), (fk3, .int 28), (fk4, .int 4)])), (wAI (ia ks41)), (wAI (ia ns41)), (wAI (ia fl41))], 45) _
  refine .s (.iload a0_139 rfl) <| .s (.iconst (4 : Int32) a0_141 rfl) <| .s (.icmpF a0_142 (by decide)) <| .s (.aload a0_145 rfl rfl) <| .s (.iloadN a0_147 rfl) <| .s (.iload a0_148 rfl) <| .s (.iconst (4 : Int32) a0_150 rfl) ?_
  refine .callS a0_151 (ok4 hw _ _ _ _) (wd hw 25 rfl) (wd hw 26 rfl) (argsL := [(.int a), (.int s), .int 4]) (S := [.ref 0]) (c4 hw _ _ a s (4 : Int32) _ _) rfl rfl rfl rfl rfl rfl (Nat.le_of_ble_eq_true rfl) (Nat.le_of_ble_eq_true rfl) ?_
  rintro _ _ _ ⟨rfl, rfl, rfl⟩
  show WGo _ (154, [wI a, wI b, wI c, wI d, wI e, wI f, wI s, wI 8, wI j, wI k, wR 0, wU, wU], [(.int (plv a s (4 : Int32))), .ref 0], [(.inr (cn0, [(fk0, .ref 1), (fk1, .ref 2), (fk2, .ref 3), (fk3, .int 28), (fk4, .int 4)])), (wAI (ia ks41)), (wAI (ia ns41)), (wAI (ia fl41))], 45) _
  refine .s (.iloadN a0_154 rfl) <| .s (.iloadN a0_155 rfl) <| .s (.iconst (4 : Int32) a0_156 rfl) ?_
  refine .callS a0_157 (ok8 hw _ _ _ _) (wd hw 42 rfl) (wd hw 43 rfl) (argsL := [(.int c), (.int d), .int 4]) (S := [(.int (plv a s (4 : Int32))), .ref 0]) (c8 hw _ _ c d (4 : Int32) _ _) rfl rfl rfl rfl rfl rfl (Nat.le_of_ble_eq_true rfl) (Nat.le_of_ble_eq_true rfl) ?_
  rintro _ _ _ ⟨rfl, rfl, rfl⟩
  show WGo _ (160, [wI a, wI b, wI c, wI d, wI e, wI f, wI s, wI 8, wI j, wI k, wR 0, wU, wU], [(.int (nuv c d (4 : Int32))), (.int (plv a s (4 : Int32))), .ref 0], [(.inr (cn0, [(fk0, .ref 1), (fk1, .ref 2), (fk2, .ref 3), (fk3, .int 28), (fk4, .int 4)])), (wAI (ia ks41)), (wAI (ia ns41)), (wAI (ia fl41))], 45) _
  refine .callV (k := 0) (z := (⟨"com/example/tributary/tributary/facts/PlaceMap", "put", "(II)V"⟩ : MethodName)) a0_160 (ok9 hw _ _ _ _) ⟨rfl, by decide⟩ (wd hw 45 rfl) (wd hw 46 rfl) (fun s hZ => notFace_of_selects (args := #[]) (mvT hZ (wd hw 48 rfl))) (wd hw 48 rfl) (wd hw 47 rfl) rfl (argsL := [(.int (plv a s (4 : Int32))), (.int (nuv c d (4 : Int32)))]) (S := []) (cputA_4 hw _ _ ks41 ns41 fl41 [(s_38, (plv a s (0 : Int32)), (nuv c d (0 : Int32))), (s_39, (plv a s (1 : Int32)), (nuv c d (1 : Int32))), (s_40, (plv a s (2 : Int32)), (nuv c d (2 : Int32))), (s_41, (plv a s (3 : Int32)), (nuv c d (3 : Int32)))] (plv a s (4 : Int32)) (nuv c d (4 : Int32)) hR41 rfl (plv_nz _ _ _) (new_cons (plv_ne a s _ _ 0 4 rfl rfl ho (by decide)) (new_cons (plv_ne a s _ _ 1 4 rfl rfl ho (by decide)) (new_cons (plv_ne a s _ _ 2 4 rfl rfl ho (by decide)) (new_cons (plv_ne a s _ _ 3 4 rfl rfl ho (by decide)) new_nil)))) _) rfl rfl rfl rfl rfl rfl (Nat.le_of_ble_eq_true rfl) (Nat.le_of_ble_eq_true rfl) ?_
  rintro _ _ _ ⟨ks42, ns42, fl42, s_42, hR42', rfl, rfl, rfl⟩; have hR42 : WRep 16 (whash 28) ks42 ns42 fl42 [(s_38, (plv a s (0 : Int32)), (nuv c d (0 : Int32))), (s_39, (plv a s (1 : Int32)), (nuv c d (1 : Int32))), (s_40, (plv a s (2 : Int32)), (nuv c d (2 : Int32))), (s_41, (plv a s (3 : Int32)), (nuv c d (3 : Int32))), (s_42, (plv a s (4 : Int32)), (nuv c d (4 : Int32)))] := hR42'
  show WGo _ (163, [wI a, wI b, wI c, wI d, wI e, wI f, wI s, wI 8, wI j, wI k, wR 0, wU, wU], [], [(.inr (cn0, [(fk0, .ref 1), (fk1, .ref 2), (fk2, .ref 3), (fk3, .int 28), (fk4, .int 5)])), (wAI (ia ks42)), (wAI (ia ns42)), (wAI (ia fl42))], 45) _
  refine .s (.iload a0_163 rfl) <| .s (.iconst (5 : Int32) a0_165 rfl) <| .s (.icmpF a0_166 (by decide)) <| .s (.aload a0_169 rfl rfl) <| .s (.iloadN a0_171 rfl) <| .s (.iload a0_172 rfl) <| .s (.iconst (5 : Int32) a0_174 rfl) ?_
  refine .callS a0_175 (ok4 hw _ _ _ _) (wd hw 25 rfl) (wd hw 26 rfl) (argsL := [(.int a), (.int s), .int 5]) (S := [.ref 0]) (c4 hw _ _ a s (5 : Int32) _ _) rfl rfl rfl rfl rfl rfl (Nat.le_of_ble_eq_true rfl) (Nat.le_of_ble_eq_true rfl) ?_
  rintro _ _ _ ⟨rfl, rfl, rfl⟩
  show WGo _ (178, [wI a, wI b, wI c, wI d, wI e, wI f, wI s, wI 8, wI j, wI k, wR 0, wU, wU], [(.int (plv a s (5 : Int32))), .ref 0], [(.inr (cn0, [(fk0, .ref 1), (fk1, .ref 2), (fk2, .ref 3), (fk3, .int 28), (fk4, .int 5)])), (wAI (ia ks42)), (wAI (ia ns42)), (wAI (ia fl42))], 45) _
  refine .s (.iloadN a0_178 rfl) <| .s (.iloadN a0_179 rfl) <| .s (.iconst (5 : Int32) a0_180 rfl) ?_
  refine .callS a0_181 (ok8 hw _ _ _ _) (wd hw 42 rfl) (wd hw 43 rfl) (argsL := [(.int c), (.int d), .int 5]) (S := [(.int (plv a s (5 : Int32))), .ref 0]) (c8 hw _ _ c d (5 : Int32) _ _) rfl rfl rfl rfl rfl rfl (Nat.le_of_ble_eq_true rfl) (Nat.le_of_ble_eq_true rfl) ?_
  rintro _ _ _ ⟨rfl, rfl, rfl⟩
  show WGo _ (184, [wI a, wI b, wI c, wI d, wI e, wI f, wI s, wI 8, wI j, wI k, wR 0, wU, wU], [(.int (nuv c d (5 : Int32))), (.int (plv a s (5 : Int32))), .ref 0], [(.inr (cn0, [(fk0, .ref 1), (fk1, .ref 2), (fk2, .ref 3), (fk3, .int 28), (fk4, .int 5)])), (wAI (ia ks42)), (wAI (ia ns42)), (wAI (ia fl42))], 45) _
  refine .callV (k := 0) (z := (⟨"com/example/tributary/tributary/facts/PlaceMap", "put", "(II)V"⟩ : MethodName)) a0_184 (ok9 hw _ _ _ _) ⟨rfl, by decide⟩ (wd hw 45 rfl) (wd hw 46 rfl) (fun s hZ => notFace_of_selects (args := #[]) (mvT hZ (wd hw 48 rfl))) (wd hw 48 rfl) (wd hw 47 rfl) rfl (argsL := [(.int (plv a s (5 : Int32))), (.int (nuv c d (5 : Int32)))]) (S := []) (cputA_5 hw _ _ ks42 ns42 fl42 [(s_38, (plv a s (0 : Int32)), (nuv c d (0 : Int32))), (s_39, (plv a s (1 : Int32)), (nuv c d (1 : Int32))), (s_40, (plv a s (2 : Int32)), (nuv c d (2 : Int32))), (s_41, (plv a s (3 : Int32)), (nuv c d (3 : Int32))), (s_42, (plv a s (4 : Int32)), (nuv c d (4 : Int32)))] (plv a s (5 : Int32)) (nuv c d (5 : Int32)) hR42 rfl (plv_nz _ _ _) (new_cons (plv_ne a s _ _ 0 5 rfl rfl ho (by decide)) (new_cons (plv_ne a s _ _ 1 5 rfl rfl ho (by decide)) (new_cons (plv_ne a s _ _ 2 5 rfl rfl ho (by decide)) (new_cons (plv_ne a s _ _ 3 5 rfl rfl ho (by decide)) (new_cons (plv_ne a s _ _ 4 5 rfl rfl ho (by decide)) new_nil))))) _) rfl rfl rfl rfl rfl rfl (Nat.le_of_ble_eq_true rfl) (Nat.le_of_ble_eq_true rfl) ?_
  rintro _ _ _ ⟨ks43, ns43, fl43, s_43, hR43', rfl, rfl, rfl⟩; have hR43 : WRep 16 (whash 28) ks43 ns43 fl43 [(s_38, (plv a s (0 : Int32)), (nuv c d (0 : Int32))), (s_39, (plv a s (1 : Int32)), (nuv c d (1 : Int32))), (s_40, (plv a s (2 : Int32)), (nuv c d (2 : Int32))), (s_41, (plv a s (3 : Int32)), (nuv c d (3 : Int32))), (s_42, (plv a s (4 : Int32)), (nuv c d (4 : Int32))), (s_43, (plv a s (5 : Int32)), (nuv c d (5 : Int32)))] := hR43'
  show WGo _ (187, [wI a, wI b, wI c, wI d, wI e, wI f, wI s, wI 8, wI j, wI k, wR 0, wU, wU], [], [(.inr (cn0, [(fk0, .ref 1), (fk1, .ref 2), (fk2, .ref 3), (fk3, .int 28), (fk4, .int 6)])), (wAI (ia ks43)), (wAI (ia ns43)), (wAI (ia fl43))], 45) _
  refine .s (.iload a0_187 rfl) <| .s (.bipush (6 : Int32) a0_189 rfl) <| .s (.icmpF a0_191 (by decide)) <| .s (.aload a0_194 rfl rfl) <| .s (.iloadN a0_196 rfl) <| .s (.iload a0_197 rfl) <| .s (.bipush (6 : Int32) a0_199 rfl) ?_
  refine .callS a0_201 (ok4 hw _ _ _ _) (wd hw 25 rfl) (wd hw 26 rfl) (argsL := [(.int a), (.int s), .int 6]) (S := [.ref 0]) (c4 hw _ _ a s (6 : Int32) _ _) rfl rfl rfl rfl rfl rfl (Nat.le_of_ble_eq_true rfl) (Nat.le_of_ble_eq_true rfl) ?_
  rintro _ _ _ ⟨rfl, rfl, rfl⟩
  show WGo _ (204, [wI a, wI b, wI c, wI d, wI e, wI f, wI s, wI 8, wI j, wI k, wR 0, wU, wU], [(.int (plv a s (6 : Int32))), .ref 0], [(.inr (cn0, [(fk0, .ref 1), (fk1, .ref 2), (fk2, .ref 3), (fk3, .int 28), (fk4, .int 6)])), (wAI (ia ks43)), (wAI (ia ns43)), (wAI (ia fl43))], 45) _
  refine .s (.iloadN a0_204 rfl) <| .s (.iloadN a0_205 rfl) <| .s (.bipush (6 : Int32) a0_206 rfl) ?_
  refine .callS a0_208 (ok8 hw _ _ _ _) (wd hw 42 rfl) (wd hw 43 rfl) (argsL := [(.int c), (.int d), .int 6]) (S := [(.int (plv a s (6 : Int32))), .ref 0]) (c8 hw _ _ c d (6 : Int32) _ _) rfl rfl rfl rfl rfl rfl (Nat.le_of_ble_eq_true rfl) (Nat.le_of_ble_eq_true rfl) ?_
  rintro _ _ _ ⟨rfl, rfl, rfl⟩
  show WGo _ (211, [wI a, wI b, wI c, wI d, wI e, wI f, wI s, wI 8, wI j, wI k, wR 0, wU, wU], [(.int (nuv c d (6 : Int32))), (.int (plv a s (6 : Int32))), .ref 0], [(.inr (cn0, [(fk0, .ref 1), (fk1, .ref 2), (fk2, .ref 3), (fk3, .int 28), (fk4, .int 6)])), (wAI (ia ks43)), (wAI (ia ns43)), (wAI (ia fl43))], 45) _
  refine .callV (k := 0) (z := (⟨"com/example/tributary/tributary/facts/PlaceMap", "put", "(II)V"⟩ : MethodName)) a0_211 (ok9 hw _ _ _ _) ⟨rfl, by decide⟩ (wd hw 45 rfl) (wd hw 46 rfl) (fun s hZ => notFace_of_selects (args := #[]) (mvT hZ (wd hw 48 rfl))) (wd hw 48 rfl) (wd hw 47 rfl) rfl (argsL := [(.int (plv a s (6 : Int32))), (.int (nuv c d (6 : Int32)))]) (S := []) (cputA_6 hw _ _ ks43 ns43 fl43 [(s_38, (plv a s (0 : Int32)), (nuv c d (0 : Int32))), (s_39, (plv a s (1 : Int32)), (nuv c d (1 : Int32))), (s_40, (plv a s (2 : Int32)), (nuv c d (2 : Int32))), (s_41, (plv a s (3 : Int32)), (nuv c d (3 : Int32))), (s_42, (plv a s (4 : Int32)), (nuv c d (4 : Int32))), (s_43, (plv a s (5 : Int32)), (nuv c d (5 : Int32)))] (plv a s (6 : Int32)) (nuv c d (6 : Int32)) hR43 rfl (plv_nz _ _ _) (new_cons (plv_ne a s _ _ 0 6 rfl rfl ho (by decide)) (new_cons (plv_ne a s _ _ 1 6 rfl rfl ho (by decide)) (new_cons (plv_ne a s _ _ 2 6 rfl rfl ho (by decide)) (new_cons (plv_ne a s _ _ 3 6 rfl rfl ho (by decide)) (new_cons (plv_ne a s _ _ 4 6 rfl rfl ho (by decide)) (new_cons (plv_ne a s _ _ 5 6 rfl rfl ho (by decide)) new_nil)))))) _) rfl rfl rfl rfl rfl rfl (Nat.le_of_ble_eq_true rfl) (Nat.le_of_ble_eq_true rfl) ?_
  rintro _ _ _ ⟨ks44, ns44, fl44, s_44, hR44', rfl, rfl, rfl⟩; have hR44 : WRep 16 (whash 28) ks44 ns44 fl44 [(s_38, (plv a s (0 : Int32)), (nuv c d (0 : Int32))), (s_39, (plv a s (1 : Int32)), (nuv c d (1 : Int32))), (s_40, (plv a s (2 : Int32)), (nuv c d (2 : Int32))), (s_41, (plv a s (3 : Int32)), (nuv c d (3 : Int32))), (s_42, (plv a s (4 : Int32)), (nuv c d (4 : Int32))), (s_43, (plv a s (5 : Int32)), (nuv c d (5 : Int32))), (s_44, (plv a s (6 : Int32)), (nuv c d (6 : Int32)))] := hR44'
  show WGo _ (214, [wI a, wI b, wI c, wI d, wI e, wI f, wI s, wI 8, wI j, wI k, wR 0, wU, wU], [], [(.inr (cn0, [(fk0, .ref 1), (fk1, .ref 2), (fk2, .ref 3), (fk3, .int 28), (fk4, .int 7)])), (wAI (ia ks44)), (wAI (ia ns44)), (wAI (ia fl44))], 45) _
  refine .s (.iload a0_214 rfl) <| .s (.bipush (7 : Int32) a0_216 rfl) <| .s (.icmpF a0_218 (by decide)) <| .s (.aload a0_221 rfl rfl) <| .s (.iloadN a0_223 rfl) <| .s (.iload a0_224 rfl) <| .s (.bipush (7 : Int32) a0_226 rfl) ?_
  refine .callS a0_228 (ok4 hw _ _ _ _) (wd hw 25 rfl) (wd hw 26 rfl) (argsL := [(.int a), (.int s), .int 7]) (S := [.ref 0]) (c4 hw _ _ a s (7 : Int32) _ _) rfl rfl rfl rfl rfl rfl (Nat.le_of_ble_eq_true rfl) (Nat.le_of_ble_eq_true rfl) ?_
  rintro _ _ _ ⟨rfl, rfl, rfl⟩
  show WGo _ (231, [wI a, wI b, wI c, wI d, wI e, wI f, wI s, wI 8, wI j, wI k, wR 0, wU, wU], [(.int (plv a s (7 : Int32))), .ref 0], [(.inr (cn0, [(fk0, .ref 1), (fk1, .ref 2), (fk2, .ref 3), (fk3, .int 28), (fk4, .int 7)])), (wAI (ia ks44)), (wAI (ia ns44)), (wAI (ia fl44))], 45) _
  refine .s (.iloadN a0_231 rfl) <| .s (.iloadN a0_232 rfl) <| .s (.bipush (7 : Int32) a0_233 rfl) ?_
  refine .callS a0_235 (ok8 hw _ _ _ _) (wd hw 42 rfl) (wd hw 43 rfl) (argsL := [(.int c), (.int d), .int 7]) (S := [(.int (plv a s (7 : Int32))), .ref 0]) (c8 hw _ _ c d (7 : Int32) _ _) rfl rfl rfl rfl rfl rfl (Nat.le_of_ble_eq_true rfl) (Nat.le_of_ble_eq_true rfl) ?_
  rintro _ _ _ ⟨rfl, rfl, rfl⟩
  show WGo _ (238, [wI a, wI b, wI c, wI d, wI e, wI f, wI s, wI 8, wI j, wI k, wR 0, wU, wU], [(.int (nuv c d (7 : Int32))), (.int (plv a s (7 : Int32))), .ref 0], [(.inr (cn0, [(fk0, .ref 1), (fk1, .ref 2), (fk2, .ref 3), (fk3, .int 28), (fk4, .int 7)])), (wAI (ia ks44)), (wAI (ia ns44)), (wAI (ia fl44))], 45) _
  refine .callV (k := 0) (z := (⟨"com/example/tributary/tributary/facts/PlaceMap", "put", "(II)V"⟩ : MethodName)) a0_238 (ok9 hw _ _ _ _) ⟨rfl, by decide⟩ (wd hw 45 rfl) (wd hw 46 rfl) (fun s hZ => notFace_of_selects (args := #[]) (mvT hZ (wd hw 48 rfl))) (wd hw 48 rfl) (wd hw 47 rfl) rfl (argsL := [(.int (plv a s (7 : Int32))), (.int (nuv c d (7 : Int32)))]) (S := []) (cputA_7 hw _ _ ks44 ns44 fl44 [(s_38, (plv a s (0 : Int32)), (nuv c d (0 : Int32))), (s_39, (plv a s (1 : Int32)), (nuv c d (1 : Int32))), (s_40, (plv a s (2 : Int32)), (nuv c d (2 : Int32))), (s_41, (plv a s (3 : Int32)), (nuv c d (3 : Int32))), (s_42, (plv a s (4 : Int32)), (nuv c d (4 : Int32))), (s_43, (plv a s (5 : Int32)), (nuv c d (5 : Int32))), (s_44, (plv a s (6 : Int32)), (nuv c d (6 : Int32)))] (plv a s (7 : Int32)) (nuv c d (7 : Int32)) hR44 rfl (plv_nz _ _ _) (new_cons (plv_ne a s _ _ 0 7 rfl rfl ho (by decide)) (new_cons (plv_ne a s _ _ 1 7 rfl rfl ho (by decide)) (new_cons (plv_ne a s _ _ 2 7 rfl rfl ho (by decide)) (new_cons (plv_ne a s _ _ 3 7 rfl rfl ho (by decide)) (new_cons (plv_ne a s _ _ 4 7 rfl rfl ho (by decide)) (new_cons (plv_ne a s _ _ 5 7 rfl rfl ho (by decide)) (new_cons (plv_ne a s _ _ 6 7 rfl rfl ho (by decide)) new_nil))))))) _) rfl rfl rfl rfl rfl rfl (Nat.le_of_ble_eq_true rfl) (Nat.le_of_ble_eq_true rfl) ?_
  rintro _ _ _ ⟨ks45, ns45, fl45, s_45, hR45', rfl, rfl, rfl⟩; have hR45 : WRep 16 (whash 28) ks45 ns45 fl45 [(s_38, (plv a s (0 : Int32)), (nuv c d (0 : Int32))), (s_39, (plv a s (1 : Int32)), (nuv c d (1 : Int32))), (s_40, (plv a s (2 : Int32)), (nuv c d (2 : Int32))), (s_41, (plv a s (3 : Int32)), (nuv c d (3 : Int32))), (s_42, (plv a s (4 : Int32)), (nuv c d (4 : Int32))), (s_43, (plv a s (5 : Int32)), (nuv c d (5 : Int32))), (s_44, (plv a s (6 : Int32)), (nuv c d (6 : Int32))), (s_45, (plv a s (7 : Int32)), (nuv c d (7 : Int32)))] := hR45'
  show WGo _ (241, [wI a, wI b, wI c, wI d, wI e, wI f, wI s, wI 8, wI j, wI k, wR 0, wU, wU], [], [(.inr (cn0, [(fk0, .ref 1), (fk1, .ref 2), (fk2, .ref 3), (fk3, .int 28), (fk4, .int 8)])), (wAI (ia ks45)), (wAI (ia ns45)), (wAI (ia fl45))], 45) _
  refine .s (.iload a0_241 rfl) <| .s (.bipush (8 : Int32) a0_243 rfl) <| .s (.icmpT a0_245 (by decide)) <| .s (.aload a0_268 rfl rfl) <| .s (.iloadN a0_270 rfl) <| .s (.iload a0_271 rfl) <| .s (.iload a0_273 rfl) ?_
  refine .callS a0_275 (ok4 hw _ _ _ _) (wd hw 25 rfl) (wd hw 26 rfl) (argsL := [(.int a), (.int s), (.int j)]) (S := [.ref 0]) (c4 hw _ _ a s j _ _) rfl rfl rfl rfl rfl rfl (Nat.le_of_ble_eq_true rfl) (Nat.le_of_ble_eq_true rfl) ?_
  rintro _ _ _ ⟨rfl, rfl, rfl⟩
  show WGo _ (278, [wI a, wI b, wI c, wI d, wI e, wI f, wI s, wI 8, wI j, wI k, wR 0, wU, wU], [(.int (plv a s j)), .ref 0], [(.inr (cn0, [(fk0, .ref 1), (fk1, .ref 2), (fk2, .ref 3), (fk3, .int 28), (fk4, .int 8)])), (wAI (ia ks45)), (wAI (ia ns45)), (wAI (ia fl45))], 45) _
  refine .callV (k := 0) (z := (⟨"com/example/tributary/tributary/facts/PlaceMap", "get", "(I)I"⟩ : MethodName)) a0_278 (ok5 hw _ _ _ _) ⟨rfl, by decide⟩ (wd hw 29 rfl) (wd hw 30 rfl) (fun s hZ => notFace_of_selects (args := #[]) (mvT hZ (wd hw 32 rfl))) (wd hw 32 rfl) (wd hw 31 rfl) rfl (argsL := [(.int (plv a s j))]) (S := []) (cgetA hw _ _ ks45 ns45 fl45 [(s_38, (plv a s (0 : Int32)), (nuv c d (0 : Int32))), (s_39, (plv a s (1 : Int32)), (nuv c d (1 : Int32))), (s_40, (plv a s (2 : Int32)), (nuv c d (2 : Int32))), (s_41, (plv a s (3 : Int32)), (nuv c d (3 : Int32))), (s_42, (plv a s (4 : Int32)), (nuv c d (4 : Int32))), (s_43, (plv a s (5 : Int32)), (nuv c d (5 : Int32))), (s_44, (plv a s (6 : Int32)), (nuv c d (6 : Int32))), (s_45, (plv a s (7 : Int32)), (nuv c d (7 : Int32)))] (plv a s j) 8 hR45 _) rfl rfl rfl rfl rfl rfl (Nat.le_of_ble_eq_true rfl) (Nat.le_of_ble_eq_true rfl) ?_
  rintro _ _ _ ⟨rfl, rfl, rfl⟩; rw [look8 a s c d j s_38 s_39 s_40 s_41 s_42 s_43 s_44 s_45 ho hj]
  show WGo _ (281, [wI a, wI b, wI c, wI d, wI e, wI f, wI s, wI 8, wI j, wI k, wR 0, wU, wU], [(.int (exv c d j (8 : Int32)))], [(.inr (cn0, [(fk0, .ref 1), (fk1, .ref 2), (fk2, .ref 3), (fk3, .int 28), (fk4, .int 8)])), (wAI (ia ks45)), (wAI (ia ns45)), (wAI (ia fl45))], 45) _
  refine .s (.istore (L' := [wI a, wI b, wI c, wI d, wI e, wI f, wI s, wI 8, wI j, wI k, wR 0, wI (exv c d j (8 : Int32)), wU]) a0_281 rfl) <| .s (.aload a0_283 rfl rfl) <| .s (.iloadN a0_285 rfl) <| .s (.iload a0_286 rfl) <| .s (.iload a0_288 rfl) ?_
  refine .callS a0_290 (ok4 hw _ _ _ _) (wd hw 25 rfl) (wd hw 26 rfl) (argsL := [(.int a), (.int s), (.int k)]) (S := [.ref 0]) (c4 hw _ _ a s k _ _) rfl rfl rfl rfl rfl rfl (Nat.le_of_ble_eq_true rfl) (Nat.le_of_ble_eq_true rfl) ?_
  rintro _ _ _ ⟨rfl, rfl, rfl⟩
  show WGo _ (293, [wI a, wI b, wI c, wI d, wI e, wI f, wI s, wI 8, wI j, wI k, wR 0, wI (exv c d j (8 : Int32)), wU], [(.int (plv a s k)), .ref 0], [(.inr (cn0, [(fk0, .ref 1), (fk1, .ref 2), (fk2, .ref 3), (fk3, .int 28), (fk4, .int 8)])), (wAI (ia ks45)), (wAI (ia ns45)), (wAI (ia fl45))], 45) _
  refine .callV (k := 0) (z := (⟨"com/example/tributary/tributary/facts/PlaceMap", "get", "(I)I"⟩ : MethodName)) a0_293 (ok5 hw _ _ _ _) ⟨rfl, by decide⟩ (wd hw 29 rfl) (wd hw 30 rfl) (fun s hZ => notFace_of_selects (args := #[]) (mvT hZ (wd hw 32 rfl))) (wd hw 32 rfl) (wd hw 31 rfl) rfl (argsL := [(.int (plv a s k))]) (S := []) (cgetA hw _ _ ks45 ns45 fl45 [(s_38, (plv a s (0 : Int32)), (nuv c d (0 : Int32))), (s_39, (plv a s (1 : Int32)), (nuv c d (1 : Int32))), (s_40, (plv a s (2 : Int32)), (nuv c d (2 : Int32))), (s_41, (plv a s (3 : Int32)), (nuv c d (3 : Int32))), (s_42, (plv a s (4 : Int32)), (nuv c d (4 : Int32))), (s_43, (plv a s (5 : Int32)), (nuv c d (5 : Int32))), (s_44, (plv a s (6 : Int32)), (nuv c d (6 : Int32))), (s_45, (plv a s (7 : Int32)), (nuv c d (7 : Int32)))] (plv a s k) 8 hR45 _) rfl rfl rfl rfl rfl rfl (Nat.le_of_ble_eq_true rfl) (Nat.le_of_ble_eq_true rfl) ?_
  rintro _ _ _ ⟨rfl, rfl, rfl⟩; rw [look8 a s c d k s_38 s_39 s_40 s_41 s_42 s_43 s_44 s_45 ho hk]
  show WGo _ (296, [wI a, wI b, wI c, wI d, wI e, wI f, wI s, wI 8, wI j, wI k, wR 0, wI (exv c d j (8 : Int32)), wU], [(.int (exv c d k (8 : Int32)))], [(.inr (cn0, [(fk0, .ref 1), (fk1, .ref 2), (fk2, .ref 3), (fk3, .int 28), (fk4, .int 8)])), (wAI (ia ks45)), (wAI (ia ns45)), (wAI (ia fl45))], 45) _
  refine .s (.istore (L' := [wI a, wI b, wI c, wI d, wI e, wI f, wI s, wI 8, wI j, wI k, wR 0, wI (exv c d j (8 : Int32)), wI (exv c d k (8 : Int32))]) a0_296 rfl) <| .s (.iload a0_298 rfl) <| .s (.iloadN a0_300 rfl) <| .s (.iloadN a0_301 rfl) <| .s (.iload a0_302 rfl) <| .s (.iload a0_304 rfl) ?_
  refine .callS a0_306 (ok7 hw _ _ _ _) (wd hw 39 rfl) (wd hw 40 rfl) (argsL := [(.int c), (.int d), (.int j), .int 8]) (S := [(.int (exv c d j (8 : Int32)))]) (c7 hw _ _ c d j (8 : Int32) _ _) rfl rfl rfl rfl rfl rfl (Nat.le_of_ble_eq_true rfl) (Nat.le_of_ble_eq_true rfl) ?_
  rintro _ _ _ ⟨rfl, rfl, rfl⟩
  show WGo _ (309, [wI a, wI b, wI c, wI d, wI e, wI f, wI s, wI 8, wI j, wI k, wR 0, wI (exv c d j (8 : Int32)), wI (exv c d k (8 : Int32))], [(.int (exv c d j (8 : Int32))), (.int (exv c d j (8 : Int32)))], [(.inr (cn0, [(fk0, .ref 1), (fk1, .ref 2), (fk2, .ref 3), (fk3, .int 28), (fk4, .int 8)])), (wAI (ia ks45)), (wAI (ia ns45)), (wAI (ia fl45))], 45) _
  refine .s (.icmpF a0_309 (teq rfl).2) <| .s (.iload a0_312 rfl) <| .s (.iloadN a0_314 rfl) <| .s (.iloadN a0_315 rfl) <| .s (.iload a0_316 rfl) <| .s (.iload a0_318 rfl) ?_
  refine .callS a0_320 (ok7 hw _ _ _ _) (wd hw 39 rfl) (wd hw 40 rfl) (argsL := [(.int c), (.int d), (.int k), .int 8]) (S := [(.int (exv c d k (8 : Int32)))]) (c7 hw _ _ c d k (8 : Int32) _ _) rfl rfl rfl rfl rfl rfl (Nat.le_of_ble_eq_true rfl) (Nat.le_of_ble_eq_true rfl) ?_
  rintro _ _ _ ⟨rfl, rfl, rfl⟩
  show WGo _ (323, [wI a, wI b, wI c, wI d, wI e, wI f, wI s, wI 8, wI j, wI k, wR 0, wI (exv c d j (8 : Int32)), wI (exv c d k (8 : Int32))], [(.int (exv c d k (8 : Int32))), (.int (exv c d k (8 : Int32)))], [(.inr (cn0, [(fk0, .ref 1), (fk1, .ref 2), (fk2, .ref 3), (fk3, .int 28), (fk4, .int 8)])), (wAI (ia ks45)), (wAI (ia ns45)), (wAI (ia fl45))], 45) _
  refine .s (.icmpF a0_323 (teq rfl).2) <| .s (.iconst (1 : Int32) a0_326 rfl) <| .s (.goto a0_327) ?_
  refine .ireturn .boolean a0_331 rfl (by simp) ?_
  exact ⟨rfl, Nat.le_of_ble_eq_true rfl, Nat.le_of_ble_eq_true rfl⟩
set_option maxHeartbeats 40000000 in
theorem seg9 (Z : State) (a0 : Array Value) (hw : ∀ d ∈ tables_1, d.before a0 Z = true) (n0 : Nat) (a b c d e f : Int32) (s j k : Int32) (ho : s.toInt % 2 = 1) (hj : j = 0 ∨ j = 1 ∨ j = 2 ∨ j = 3 ∨ j = 4 ∨ j = 5 ∨ j = 6 ∨ j = 7 ∨ j = 8 ∨ j = 9) (hk : k = 0 ∨ k = 1 ∨ k = 2 ∨ k = 3 ∨ k = 4 ∨ k = 5 ∨ k = 6 ∨ k = 7 ∨ k = 8 ∨ k = 9) : WGo (g0 Z (fun k => n0 + k) n0 0 0) (35, [wI a, wI b, wI c, wI d, wI e, wI f, wI s, wI 9, wI j, wI k, wU, wU, wU], [], [], 0) (fun v σ' u' => v = some (.int 1) ∧ σ'.length ≤ 24 ∧ u' ≤ 320) := by
  refine .s (.newO (k := 0) [(fk0, .null), (fk1, .null), (fk2, .null), (fk3, .int 0), (fk4, .int 0)] a0_35 (wd hw 2 rfl) (wd hw 3 rfl) (wd hw 4 rfl) ⟨⟨Or.inl (wd hw 13 rfl), (.array .int), by decide, rfl⟩, ⟨Or.inl (wd hw 15 rfl), (.array .int), by decide, rfl⟩, ⟨Or.inl (wd hw 17 rfl), (.array .int), by decide, rfl⟩, ⟨Or.inl (wd hw 24 rfl), .int, by decide, rfl⟩, ⟨Or.inl (wd hw 51 rfl), .int, by decide, rfl⟩, trivial⟩ (by decide) rfl (by decide)) ?_
  show WGo _ (38, [wI a, wI b, wI c, wI d, wI e, wI f, wI s, wI 9, wI j, wI k, wU, wU, wU], [.ref 0], [(.inr (cn0, [(fk0, .null), (fk1, .null), (fk2, .null), (fk3, .int 0), (fk4, .int 0)]))], 5) _
  refine .s (.dup a0_38 rfl) ?_
  refine .callI (k := 0) a0_39 (ok1 hw _ _ _ _) rfl rfl (wd hw 5 rfl) (wd hw 6 rfl) (by decide) (argsL := []) (S := [.ref 0]) (au1_1 hw _ _ _) rfl rfl rfl rfl rfl rfl (Nat.le_of_ble_eq_true rfl) (Nat.le_of_ble_eq_true rfl) ?_
  rintro _ _ _ ⟨rfl, rfl, rfl⟩; have hR46 : WRep 16 (whash 28) (List.replicate 16 0) (List.replicate 16 0) (List.replicate 8 0) [] := WRep.nil rfl rfl
  show WGo _ (42, [wI a, wI b, wI c, wI d, wI e, wI f, wI s, wI 9, wI j, wI k, wU, wU, wU], [.ref 0], [(.inr (cn0, [(fk0, .ref 1), (fk1, .ref 2), (fk2, .ref 3), (fk3, .int 28), (fk4, .int 0)])), (wAI (ia (List.replicate 16 0))), (wAI (ia (List.replicate 16 0))), (wAI (ia (List.replicate 8 0)))], 45) _
  refine .s (.astore (L' := [wI a, wI b, wI c, wI d, wI e, wI f, wI s, wI 9, wI j, wI k, wR 0, wU, wU]) a0_42 rfl rfl) <| .s (.iload a0_44 rfl) <| .s (.ifF a0_46 (by decide)) <| .s (.aload a0_49 rfl rfl) <| .s (.iloadN a0_51 rfl) <| .s (.iload a0_52 rfl) <| .s (.iconst (0 : Int32) a0_54 rfl) ?_
  refine .callS a0_55 (ok4 hw _ _ _ _) (wd hw 25 rfl) (wd hw 26 rfl) (argsL := [(.int a), (.int s), .int 0]) (S := [.ref 0]) (c4 hw _ _ a s (0 : Int32) _ _) rfl rfl rfl rfl rfl rfl (Nat.le_of_ble_eq_true rfl) (Nat.le_of_ble_eq_true rfl) ?_
  rintro _ _ _ ⟨rfl, rfl, rfl⟩
  show WGo _ (58, [wI a, wI b, wI c, wI d, wI e, wI f, wI s, wI 9, wI j, wI k, wR 0, wU, wU], [(.int (plv a s (0 : Int32))), .ref 0], [(.inr (cn0, [(fk0, .ref 1), (fk1, .ref 2), (fk2, .ref 3), (fk3, .int 28), (fk4, .int 0)])), (wAI (ia (List.replicate 16 0))), (wAI (ia (List.replicate 16 0))), (wAI (ia (List.replicate 8 0)))], 45) _
  refine .s (.iloadN a0_58 rfl) <| .s (.iloadN a0_59 rfl) <| .s (.iconst (0 : Int32) a0_60 rfl) ?_
  refine .callS a0_61 (ok8 hw _ _ _ _) (wd hw 42 rfl) (wd hw 43 rfl) (argsL := [(.int c), (.int d), .int 0]) (S := [(.int (plv a s (0 : Int32))), .ref 0]) (c8 hw _ _ c d (0 : Int32) _ _) rfl rfl rfl rfl rfl rfl (Nat.le_of_ble_eq_true rfl) (Nat.le_of_ble_eq_true rfl) ?_
  rintro _ _ _ ⟨rfl, rfl, rfl⟩
  show WGo _ (64, [wI a, wI b, wI c, wI d, wI e, wI f, wI s, wI 9, wI j, wI k, wR 0, wU, wU], [(.int (nuv c d (0 : Int32))), (.int (plv a s (0 : Int32))), .ref 0], [(.inr (cn0, [(fk0, .ref 1), (fk1, .ref 2), (fk2, .ref 3), (fk3, .int 28), (fk4, .int 0)])), (wAI (ia (List.replicate 16 0))), (wAI (ia (List.replicate 16 0))), (wAI (ia (List.replicate 8 0)))], 45) _
  refine .callV (k := 0) (z := (⟨"com/example/tributary/tributary/facts/PlaceMap", "put", "(II)V"⟩ : MethodName)) a0_64 (ok9 hw _ _ _ _) ⟨rfl, by decide⟩ (wd hw 45 rfl) (wd hw 46 rfl) (fun s hZ => notFace_of_selects (args := #[]) (mvT hZ (wd hw 48 rfl))) (wd hw 48 rfl) (wd hw 47 rfl) rfl (argsL := [(.int (plv a s (0 : Int32))), (.int (nuv c d (0 : Int32)))]) (S := []) (cputA_0 hw _ _ (List.replicate 16 0) (List.replicate 16 0) (List.replicate 8 0) [] (plv a s (0 : Int32)) (nuv c d (0 : Int32)) hR46 rfl (plv_nz _ _ _) new_nil _) rfl rfl rfl rfl rfl rfl (Nat.le_of_ble_eq_true rfl) (Nat.le_of_ble_eq_true rfl) ?_
  rintro _ _ _ ⟨ks47, ns47, fl47, s_47, hR47', rfl, rfl, rfl⟩; have hR47 : WRep 16 (whash 28) ks47 ns47 fl47 [(s_47, (plv a s (0 : Int32)), (nuv c d (0 : Int32)))] := hR47'
  show WGo _ (67, [wI a, wI b, wI c, wI d, wI e, wI f, wI s, wI 9, wI j, wI k, wR 0, wU, wU], [], [(.inr (cn0, [(fk0, .ref 1), (fk1, .ref 2), (fk2, .ref 3), (fk3, .int 28), (fk4, .int 1)])), (wAI (ia ks47)), (wAI (ia ns47)), (wAI (ia fl47))], 45) _
  refine .s (.iload a0_67 rfl) <| .s (.iconst (1 : Int32) a0_69 rfl) <| .s (.icmpF a0_70 (by decide)) <| .s (.aload a0_73 rfl rfl) <| .s (.iloadN a0_75 rfl) <| .s (.iload a0_76 rfl) <| .s (.iconst (1 : Int32) a0_78 rfl) ?_
  refine .callS a0_79 (ok4 hw _ _ _ _) (wd hw 25 rfl) (wd hw 26 rfl) (argsL := [(.int a), (.int s), .int 1]) (S := [.ref 0]) (c4 hw _ _ a s (1 : Int32) _ _) rfl rfl rfl rfl rfl rfl (Nat.le_of_ble_eq_true rfl) (Nat.le_of_ble_eq_true rfl) ?_
  rintro _ _ _ ⟨rfl, rfl, rfl⟩
  show WGo _ (82, [wI a, wI b, wI c, wI d, wI e, wI f, wI s, wI 9, wI j, wI k, wR 0, wU, wU], [(.int (plv a s (1 : Int32))), .ref 0], [(.inr (cn0, [(fk0, .ref 1), (fk1, .ref 2), (fk2, .ref 3), (fk3, .int 28), (fk4, .int 1)])), (wAI (ia ks47)), (wAI (ia ns47)), (wAI (ia fl47))], 45) _
  refine .s (.iloadN a0_82 rfl) <| .s (.iloadN a0_83 rfl) <| .s (.iconst (1 : Int32) a0_84 rfl) ?_
  refine .callS a0_85 (ok8 hw _ _ _ _) (wd hw 42 rfl) (wd hw 43 rfl) (argsL := [(.int c), (.int d), .int 1]) (S := [(.int (plv a s (1 : Int32))), .ref 0]) (c8 hw _ _ c d (1 : Int32) _ _) rfl rfl rfl rfl rfl rfl (Nat.le_of_ble_eq_true rfl) (Nat.le_of_ble_eq_true rfl) ?_
  rintro _ _ _ ⟨rfl, rfl, rfl⟩
  show WGo _ (88, [wI a, wI b, wI c, wI d, wI e, wI f, wI s, wI 9, wI j, wI k, wR 0, wU, wU], [(.int (nuv c d (1 : Int32))), (.int (plv a s (1 : Int32))), .ref 0], [(.inr (cn0, [(fk0, .ref 1), (fk1, .ref 2), (fk2, .ref 3), (fk3, .int 28), (fk4, .int 1)])), (wAI (ia ks47)), (wAI (ia ns47)), (wAI (ia fl47))], 45) _
  refine .callV (k := 0) (z := (⟨"com/example/tributary/tributary/facts/PlaceMap", "put", "(II)V"⟩ : MethodName)) a0_88 (ok9 hw _ _ _ _) ⟨rfl, by decide⟩ (wd hw 45 rfl) (wd hw 46 rfl) (fun s hZ => notFace_of_selects (args := #[]) (mvT hZ (wd hw 48 rfl))) (wd hw 48 rfl) (wd hw 47 rfl) rfl (argsL := [(.int (plv a s (1 : Int32))), (.int (nuv c d (1 : Int32)))]) (S := []) (cputA_1 hw _ _ ks47 ns47 fl47 [(s_47, (plv a s (0 : Int32)), (nuv c d (0 : Int32)))] (plv a s (1 : Int32)) (nuv c d (1 : Int32)) hR47 rfl (plv_nz _ _ _) (new_cons (plv_ne a s _ _ 0 1 rfl rfl ho (by decide)) new_nil) _) rfl rfl rfl rfl rfl rfl (Nat.le_of_ble_eq_true rfl) (Nat.le_of_ble_eq_true rfl) ?_
  rintro _ _ _ ⟨ks48, ns48, fl48, s_48, hR48', rfl, rfl, rfl⟩; have hR48 : WRep 16 (whash 28) ks48 ns48 fl48 [(s_47, (plv a s (0 : Int32)), (nuv c d (0 : Int32))), (s_48, (plv a s (1 : Int32)), (nuv c d (1 : Int32)))] := hR48'
  show WGo _ (91, [wI a, wI b, wI c, wI d, wI e, wI f, wI s, wI 9, wI j, wI k, wR 0, wU, wU], [], [(.inr (cn0, [(fk0, .ref 1), (fk1, .ref 2), (fk2, .ref 3), (fk3, .int 28), (fk4, .int 2)])), (wAI (ia ks48)), (wAI (ia ns48)), (wAI (ia fl48))], 45) _
  refine .s (.iload a0_91 rfl) <| .s (.iconst (2 : Int32) a0_93 rfl) <| .s (.icmpF a0_94 (by decide)) <| .s (.aload a0_97 rfl rfl) <| .s (.iloadN a0_99 rfl) <| .s (.iload a0_100 rfl) <| .s (.iconst (2 : Int32) a0_102 rfl) ?_
  refine .callS a0_103 (ok4 hw _ _ _ _) (wd hw 25 rfl) (wd hw 26 rfl) (argsL := [(.int a), (.int s), .int 2]) (S := [.ref 0]) (c4 hw _ _ a s (2 : Int32) _ _) rfl rfl rfl rfl rfl rfl (Nat.le_of_ble_eq_true rfl) (Nat.le_of_ble_eq_true rfl) ?_
  rintro _ _ _ ⟨rfl, rfl, rfl⟩
  show WGo _ (106, [wI a, wI b, wI c, wI d, wI e, wI f, wI s, wI 9, wI j, wI k, wR 0, wU, wU], [(.int (plv a s (2 : Int32))), .ref 0], [(.inr (cn0, [(fk0, .ref 1), (fk1, .ref 2), (fk2, .ref 3), (fk3, .int 28), (fk4, .int 2)])), (wAI (ia ks48)), (wAI (ia ns48)), (wAI (ia fl48))], 45) _
  refine .s (.iloadN a0_106 rfl) <| .s (.iloadN a0_107 rfl) <| .s (.iconst (2 : Int32) a0_108 rfl) ?_
  refine .callS a0_109 (ok8 hw _ _ _ _) (wd hw 42 rfl) (wd hw 43 rfl) (argsL := [(.int c), (.int d), .int 2]) (S := [(.int (plv a s (2 : Int32))), .ref 0]) (c8 hw _ _ c d (2 : Int32) _ _) rfl rfl rfl rfl rfl rfl (Nat.le_of_ble_eq_true rfl) (Nat.le_of_ble_eq_true rfl) ?_
  rintro _ _ _ ⟨rfl, rfl, rfl⟩
  show WGo _ (112, [wI a, wI b, wI c, wI d, wI e, wI f, wI s, wI 9, wI j, wI k, wR 0, wU, wU], [(.int (nuv c d (2 : Int32))), (.int (plv a s (2 : Int32))), .ref 0], [(.inr (cn0, [(fk0, .ref 1), (fk1, .ref 2), (fk2, .ref 3), (fk3, .int 28), (fk4, .int 2)])), (wAI (ia ks48)), (wAI (ia ns48)), (wAI (ia fl48))], 45) _
  refine .callV (k := 0) (z := (⟨"com/example/tributary/tributary/facts/PlaceMap", "put", "(II)V"⟩ : MethodName)) a0_112 (ok9 hw _ _ _ _) ⟨rfl, by decide⟩ (wd hw 45 rfl) (wd hw 46 rfl) (fun s hZ => notFace_of_selects (args := #[]) (mvT hZ (wd hw 48 rfl))) (wd hw 48 rfl) (wd hw 47 rfl) rfl (argsL := [(.int (plv a s (2 : Int32))), (.int (nuv c d (2 : Int32)))]) (S := []) (cputA_2 hw _ _ ks48 ns48 fl48 [(s_47, (plv a s (0 : Int32)), (nuv c d (0 : Int32))), (s_48, (plv a s (1 : Int32)), (nuv c d (1 : Int32)))] (plv a s (2 : Int32)) (nuv c d (2 : Int32)) hR48 rfl (plv_nz _ _ _) (new_cons (plv_ne a s _ _ 0 2 rfl rfl ho (by decide)) (new_cons (plv_ne a s _ _ 1 2 rfl rfl ho (by decide)) new_nil)) _) rfl rfl rfl rfl rfl rfl (Nat.le_of_ble_eq_true rfl) (Nat.le_of_ble_eq_true rfl) ?_
  rintro _ _ _ ⟨ks49, ns49, fl49, s_49, hR49', rfl, rfl, rfl⟩; have hR49 : WRep 16 (whash 28) ks49 ns49 fl49 [(s_47, (plv a s (0 : Int32)), (nuv c d (0 : Int32))), (s_48, (plv a s (1 : Int32)), (nuv c d (1 : Int32))), (s_49, (plv a s (2 : Int32)), (nuv c d (2 : Int32)))] := hR49'
  show WGo _ (115, [wI a, wI b, wI c, wI d, wI e, wI f, wI s, wI 9, wI j, wI k, wR 0, wU, wU], [], [(.inr (cn0, [(fk0, .ref 1), (fk1, .ref 2), (fk2, .ref 3), (fk3, .int 28), (fk4, .int 3)])), (wAI (ia ks49)), (wAI (ia ns49)), (wAI (ia fl49))], 45) _
  refine .s (.iload a0_115 rfl) <| .s (.iconst (3 : Int32) a0_117 rfl) <| .s (.icmpF a0_118 (by decide)) <| .s (.aload a0_121 rfl rfl) <| .s (.iloadN a0_123 rfl) <| .s (.iload a0_124 rfl) <| .s (.iconst (3 : Int32) a0_126 rfl) ?_
  refine .callS a0_127 (ok4 hw _ _ _ _) (wd hw 25 rfl) (wd hw 26 rfl) (argsL := [(.int a), (.int s), .int 3]) (S := [.ref 0]) (c4 hw _ _ a s (3 : Int32) _ _) rfl rfl rfl rfl rfl rfl (Nat.le_of_ble_eq_true rfl) (Nat.le_of_ble_eq_true rfl) ?_
  rintro _ _ _ ⟨rfl, rfl, rfl⟩
  show WGo _ (130, [wI a, wI b, wI c, wI d, wI e, wI f, wI s, wI 9, wI j, wI k, wR 0, wU, wU], [(.int (plv a s (3 : Int32))), .ref 0], [(.inr (cn0, [(fk0, .ref 1), (fk1, .ref 2), (fk2, .ref 3), (fk3, .int 28), (fk4, .int 3)])), (wAI (ia ks49)), (wAI (ia ns49)), (wAI (ia fl49))], 45) _
  refine .s (.iloadN a0_130 rfl) <| .s (.iloadN a0_131 rfl) <| .s (.iconst (3 : Int32) a0_132 rfl) ?_
  refine .callS a0_133 (ok8 hw _ _ _ _) (wd hw 42 rfl) (wd hw 43 rfl) (argsL := [(.int c), (.int d), .int 3]) (S := [(.int (plv a s (3 : Int32))), .ref 0]) (c8 hw _ _ c d (3 : Int32) _ _) rfl rfl rfl rfl rfl rfl (Nat.le_of_ble_eq_true rfl) (Nat.le_of_ble_eq_true rfl) ?_
  rintro _ _ _ ⟨rfl, rfl, rfl⟩
  show WGo _ (136, [wI a, wI b, wI c, wI d, wI e, wI f, wI s, wI 9, wI j, wI k, wR 0, wU, wU], [(.int (nuv c d (3 : Int32))), (.int (plv a s (3 : Int32))), .ref 0], [(.inr (cn0, [(fk0, .ref 1), (fk1, .ref 2), (fk2, .ref 3), (fk3, .int 28), (fk4, .int 3)])), (wAI (ia ks49)), (wAI (ia ns49)), (wAI (ia fl49))], 45) _
  refine .callV (k := 0) (z := (⟨"com/example/tributary/tributary/facts/PlaceMap", "put", "(II)V"⟩ : MethodName)) a0_136 (ok9 hw _ _ _ _) ⟨rfl, by decide⟩ (wd hw 45 rfl) (wd hw 46 rfl) (fun s hZ => notFace_of_selects (args := #[]) (mvT hZ (wd hw 48 rfl))) (wd hw 48 rfl) (wd hw 47 rfl) rfl (argsL := [(.int (plv a s (3 : Int32))), (.int (nuv c d (3 : Int32)))]) (S := []) (cputA_3 hw _ _ ks49 ns49 fl49 [(s_47, (plv a s (0 : Int32)), (nuv c d (0 : Int32))), (s_48, (plv a s (1 : Int32)), (nuv c d (1 : Int32))), (s_49, (plv a s (2 : Int32)), (nuv c d (2 : Int32)))] (plv a s (3 : Int32)) (nuv c d (3 : Int32)) hR49 rfl (plv_nz _ _ _) (new_cons (plv_ne a s _ _ 0 3 rfl rfl ho (by decide)) (new_cons (plv_ne a s _ _ 1 3 rfl rfl ho (by decide)) (new_cons (plv_ne a s _ _ 2 3 rfl rfl ho (by decide)) new_nil))) _) rfl rfl rfl rfl rfl rfl (Nat.le_of_ble_eq_true rfl) (Nat.le_of_ble_eq_true rfl) ?_
  rintro _ _ _ ⟨ks50, ns50, fl50, s_50, hR50', rfl, rfl, rfl⟩; have hR50 : WRep 16 (whash 28) ks50 ns50 fl50 [(s_47, (plv a s (0 : Int32)), (nuv c d (0 : Int32))), (s_48, (plv a s (1 : Int32)), (nuv c d (1 : Int32))), (s_49, (plv a s (2 : Int32)), (nuv c d (2 : Int32))), (s_50, (plv a s (3 : Int32)), (nuv c d (3 : Int32)))] := hR50'
  show WGo _ (139, [wI a, wI b, wI c, wI d, wI e, wI f, wI s, wI 9, wI j, wI k, wR 0, wU, wU], [], [(.inr (cn0, [(fk0, .ref 1), (fk1, .ref 2), (fk2, .ref 3), (fk3, .int 28), (fk4, .int 4)])), (wAI (ia ks50)), (wAI (ia ns50)), (wAI (ia fl50))], 45) _
  refine .s (.iload a0_139 rfl) <| .s (.iconst (4 : Int32) a0_141 rfl) <| .s (.icmpF a0_142 (by decide)) <| .s (.aload a0_145 rfl rfl) <| .s (.iloadN a0_147 rfl) <| .s (.iload a0_148 rfl) <| .s (.iconst (4 : Int32) a0_150 rfl) ?_
  refine .callS a0_151 (ok4 hw _ _ _ _) (wd hw 25 rfl) (wd hw 26 rfl) (argsL := [(.int a), (.int s), .int 4]) (S := [.ref 0]) (c4 hw _ _ a s (4 : Int32) _ _) rfl rfl rfl rfl rfl rfl (Nat.le_of_ble_eq_true rfl) (Nat.le_of_ble_eq_true rfl) ?_
  rintro _ _ _ ⟨rfl, rfl, rfl⟩
  show WGo _ (154, [wI a, wI b, wI c, wI d, wI e, wI f, wI s, wI 9, wI j, wI k, wR 0, wU, wU], [(.int (plv a s (4 : Int32))), .ref 0], [(.inr (cn0, [(fk0, .ref 1), (fk1, .ref 2), (fk2, .ref 3), (fk3, .int 28), (fk4, .int 4)])), (wAI (ia ks50)), (wAI (ia ns50)), (wAI (ia fl50))], 45) _
  refine .s (.iloadN a0_154 rfl) <| .s (.iloadN a0_155 rfl) <| .s (.iconst (4 : Int32) a0_156 rfl) ?_
  refine .callS a0_157 (ok8 hw _ _ _ _) (wd hw 42 rfl) (wd hw 43 rfl) (argsL := [(.int c), (.int d), .int 4]) (S := [(.int (plv a s (4 : Int32))), .ref 0]) (c8 hw _ _ c d (4 : Int32) _ _) rfl rfl rfl rfl rfl rfl (Nat.le_of_ble_eq_true rfl) (Nat.le_of_ble_eq_true rfl) ?_
  rintro _ _ _ ⟨rfl, rfl, rfl⟩
  show WGo _ (160, [wI a, wI b, wI c, wI d, wI e, wI f, wI s, wI 9, wI j, wI k, wR 0, wU, wU], [(.int (nuv c d (4 : Int32))), (.int (plv a s (4 : Int32))), .ref 0], [(.inr (cn0, [(fk0, .ref 1), (fk1, .ref 2), (fk2, .ref 3), (fk3, .int 28), (fk4, .int 4)])), (wAI (ia ks50)), (wAI (ia ns50)), (wAI (ia fl50))], 45) _
  refine .callV (k := 0) (z := (⟨"com/example/tributary/tributary/facts/PlaceMap", "put", "(II)V"⟩ : MethodName)) a0_160 (ok9 hw _ _ _ _) ⟨rfl, by decide⟩ (wd hw 45 rfl) (wd hw 46 rfl) (fun s hZ => notFace_of_selects (args := #[]) (mvT hZ (wd hw 48 rfl))) (wd hw 48 rfl) (wd hw 47 rfl) rfl (argsL := [(.int (plv a s (4 : Int32))), (.int (nuv c d (4 : Int32)))]) (S := []) (cputA_4 hw _ _ ks50 ns50 fl50 [(s_47, (plv a s (0 : Int32)), (nuv c d (0 : Int32))), (s_48, (plv a s (1 : Int32)), (nuv c d (1 : Int32))), (s_49, (plv a s (2 : Int32)), (nuv c d (2 : Int32))), (s_50, (plv a s (3 : Int32)), (nuv c d (3 : Int32)))] (plv a s (4 : Int32)) (nuv c d (4 : Int32)) hR50 rfl (plv_nz _ _ _) (new_cons (plv_ne a s _ _ 0 4 rfl rfl ho (by decide)) (new_cons (plv_ne a s _ _ 1 4 rfl rfl ho (by decide)) (new_cons (plv_ne a s _ _ 2 4 rfl rfl ho (by decide)) (new_cons (plv_ne a s _ _ 3 4 rfl rfl ho (by decide)) new_nil)))) _) rfl rfl rfl rfl rfl rfl (Nat.le_of_ble_eq_true rfl) (Nat.le_of_ble_eq_true rfl) ?_
  rintro _ _ _ ⟨ks51, ns51, fl51, s_51, hR51', rfl, rfl, rfl⟩; have hR51 : WRep 16 (whash 28) ks51 ns51 fl51 [(s_47, (plv a s (0 : Int32)), (nuv c d (0 : Int32))), (s_48, (plv a s (1 : Int32)), (nuv c d (1 : Int32))), (s_49, (plv a s (2 : Int32)), (nuv c d (2 : Int32))), (s_50, (plv a s (3 : Int32)), (nuv c d (3 : Int32))), (s_51, (plv a s (4 : Int32)), (nuv c d (4 : Int32)))] := hR51'
  show WGo _ (163, [wI a, wI b, wI c, wI d, wI e, wI f, wI s, wI 9, wI j, wI k, wR 0, wU, wU], [], [(.inr (cn0, [(fk0, .ref 1), (fk1, .ref 2), (fk2, .ref 3), (fk3, .int 28), (fk4, .int 5)])), (wAI (ia ks51)), (wAI (ia ns51)), (wAI (ia fl51))], 45) _
  refine .s (.iload a0_163 rfl) <| .s (.iconst (5 : Int32) a0_165 rfl) <| .s (.icmpF a0_166 (by decide)) <| .s (.aload a0_169 rfl rfl) <| .s (.iloadN a0_171 rfl) <| .s (.iload a0_172 rfl) <| .s (.iconst (5 : Int32) a0_174 rfl) ?_
  refine .callS a0_175 (ok4 hw _ _ _ _) (wd hw 25 rfl) (wd hw 26 rfl) (argsL := [(.int a), (.int s), .int 5]) (S := [.ref 0]) (c4 hw _ _ a s (5 : Int32) _ _) rfl rfl rfl rfl rfl rfl (Nat.le_of_ble_eq_true rfl) (Nat.le_of_ble_eq_true rfl) ?_
  rintro _ _ _ ⟨rfl, rfl, rfl⟩
  show WGo _ (178, [wI a, wI b, wI c, wI d, wI e, wI f, wI s, wI 9, wI j, wI k, wR 0, wU, wU], [(.int (plv a s (5 : Int32))), .ref 0], [(.inr (cn0, [(fk0, .ref 1), (fk1, .ref 2), (fk2, .ref 3), (fk3, .int 28), (fk4, .int 5)])), (wAI (ia ks51)), (wAI (ia ns51)), (wAI (ia fl51))], 45) _
  refine .s (.iloadN a0_178 rfl) <| .s (.iloadN a0_179 rfl) <| .s (.iconst (5 : Int32) a0_180 rfl) ?_
  refine .callS a0_181 (ok8 hw _ _ _ _) (wd hw 42 rfl) (wd hw 43 rfl) (argsL := [(.int c), (.int d), .int 5]) (S := [(.int (plv a s (5 : Int32))), .ref 0]) (c8 hw _ _ c d (5 : Int32) _ _) rfl rfl rfl rfl rfl rfl (Nat.le_of_ble_eq_true rfl) (Nat.le_of_ble_eq_true rfl) ?_
  rintro _ _ _ ⟨rfl, rfl, rfl⟩
  show WGo _ (184, [wI a, wI b, wI c, wI d, wI e, wI f, wI s, wI 9, wI j, wI k, wR 0, wU, wU], [(.int (nuv c d (5 : Int32))), (.int (plv a s (5 : Int32))), .ref 0], [(.inr (cn0, [(fk0, .ref 1), (fk1, .ref 2), (fk2, .ref 3), (fk3, .int 28), (fk4, .int 5)])), (wAI (ia ks51)), (wAI (ia ns51)), (wAI (ia fl51))], 45) _
  refine .callV (k := 0) (z := (⟨"com/example/tributary/tributary/facts/PlaceMap", "put", "(II)V"⟩ : MethodName)) a0_184 (ok9 hw _ _ _ _) ⟨rfl, by decide⟩ (wd hw 45 rfl) (wd hw 46 rfl) (fun s hZ => notFace_of_selects (args := #[]) (mvT hZ (wd hw 48 rfl))) (wd hw 48 rfl) (wd hw 47 rfl) rfl (argsL := [(.int (plv a s (5 : Int32))), (.int (nuv c d (5 : Int32)))]) (S := []) (cputA_5 hw _ _ ks51 ns51 fl51 [(s_47, (plv a s (0 : Int32)), (nuv c d (0 : Int32))), (s_48, (plv a s (1 : Int32)), (nuv c d (1 : Int32))), (s_49, (plv a s (2 : Int32)), (nuv c d (2 : Int32))), (s_50, (plv a s (3 : Int32)), (nuv c d (3 : Int32))), (s_51, (plv a s (4 : Int32)), (nuv c d (4 : Int32)))] (plv a s (5 : Int32)) (nuv c d (5 : Int32)) hR51 rfl (plv_nz _ _ _) (new_cons (plv_ne a s _ _ 0 5 rfl rfl ho (by decide)) (new_cons (plv_ne a s _ _ 1 5 rfl rfl ho (by decide)) (new_cons (plv_ne a s _ _ 2 5 rfl rfl ho (by decide)) (new_cons (plv_ne a s _ _ 3 5 rfl rfl ho (by decide)) (new_cons (plv_ne a s _ _ 4 5 rfl rfl ho (by decide)) new_nil))))) _) rfl rfl rfl rfl rfl rfl (Nat.le_of_ble_eq_true rfl) (Nat.le_of_ble_eq_true rfl) ?_
  rintro _ _ _ ⟨ks52, ns52, fl52, s_52, hR52', rfl, rfl, rfl⟩; have hR52 : WRep 16 (whash 28) ks52 ns52 fl52 [(s_47, (plv a s (0 : Int32)), (nuv c d (0 : Int32))), (s_48, (plv a s (1 : Int32)), (nuv c d (1 : Int32))), (s_49, (plv a s (2 : Int32)), (nuv c d (2 : Int32))), (s_50, (plv a s (3 : Int32)), (nuv c d (3 : Int32))), (s_51, (plv a s (4 : Int32)), (nuv c d (4 : Int32))), (s_52, (plv a s (5 : Int32)), (nuv c d (5 : Int32)))] := hR52'
  show WGo _ (187, [wI a, wI b, wI c, wI d, wI e, wI f, wI s, wI 9, wI j, wI k, wR 0, wU, wU], [], [(.inr (cn0, [(fk0, .ref 1), (fk1, .ref 2), (fk2, .ref 3), (fk3, .int 28), (fk4, .int 6)])), (wAI (ia ks52)), (wAI (ia ns52)), (wAI (ia fl52))], 45) _
  refine .s (.iload a0_187 rfl) <| .s (.bipush (6 : Int32) a0_189 rfl) <| .s (.icmpF a0_191 (by decide)) <| .s (.aload a0_194 rfl rfl) <| .s (.iloadN a0_196 rfl) <| .s (.iload a0_197 rfl) <| .s (.bipush (6 : Int32) a0_199 rfl) ?_
  refine .callS a0_201 (ok4 hw _ _ _ _) (wd hw 25 rfl) (wd hw 26 rfl) (argsL := [(.int a), (.int s), .int 6]) (S := [.ref 0]) (c4 hw _ _ a s (6 : Int32) _ _) rfl rfl rfl rfl rfl rfl (Nat.le_of_ble_eq_true rfl) (Nat.le_of_ble_eq_true rfl) ?_
  rintro _ _ _ ⟨rfl, rfl, rfl⟩
  show WGo _ (204, [wI a, wI b, wI c, wI d, wI e, wI f, wI s, wI 9, wI j, wI k, wR 0, wU, wU], [(.int (plv a s (6 : Int32))), .ref 0], [(.inr (cn0, [(fk0, .ref 1), (fk1, .ref 2), (fk2, .ref 3), (fk3, .int 28), (fk4, .int 6)])), (wAI (ia ks52)), (wAI (ia ns52)), (wAI (ia fl52))], 45) _
  refine .s (.iloadN a0_204 rfl) <| .s (.iloadN a0_205 rfl) <| .s (.bipush (6 : Int32) a0_206 rfl) ?_
  refine .callS a0_208 (ok8 hw _ _ _ _) (wd hw 42 rfl) (wd hw 43 rfl) (argsL := [(.int c), (.int d), .int 6]) (S := [(.int (plv a s (6 : Int32))), .ref 0]) (c8 hw _ _ c d (6 : Int32) _ _) rfl rfl rfl rfl rfl rfl (Nat.le_of_ble_eq_true rfl) (Nat.le_of_ble_eq_true rfl) ?_
  rintro _ _ _ ⟨rfl, rfl, rfl⟩
  show WGo _ (211, [wI a, wI b, wI c, wI d, wI e, wI f, wI s, wI 9, wI j, wI k, wR 0, wU, wU], [(.int (nuv c d (6 : Int32))), (.int (plv a s (6 : Int32))), .ref 0], [(.inr (cn0, [(fk0, .ref 1), (fk1, .ref 2), (fk2, .ref 3), (fk3, .int 28), (fk4, .int 6)])), (wAI (ia ks52)), (wAI (ia ns52)), (wAI (ia fl52))], 45) _
  refine .callV (k := 0) (z := (⟨"com/example/tributary/tributary/facts/PlaceMap", "put", "(II)V"⟩ : MethodName)) a0_211 (ok9 hw _ _ _ _) ⟨rfl, by decide⟩ (wd hw 45 rfl) (wd hw 46 rfl) (fun s hZ => notFace_of_selects (args := #[]) (mvT hZ (wd hw 48 rfl))) (wd hw 48 rfl) (wd hw 47 rfl) rfl (argsL := [(.int (plv a s (6 : Int32))), (.int (nuv c d (6 : Int32)))]) (S := []) (cputA_6 hw _ _ ks52 ns52 fl52 [(s_47, (plv a s (0 : Int32)), (nuv c d (0 : Int32))), (s_48, (plv a s (1 : Int32)), (nuv c d (1 : Int32))), (s_49, (plv a s (2 : Int32)), (nuv c d (2 : Int32))), (s_50, (plv a s (3 : Int32)), (nuv c d (3 : Int32))), (s_51, (plv a s (4 : Int32)), (nuv c d (4 : Int32))), (s_52, (plv a s (5 : Int32)), (nuv c d (5 : Int32)))] (plv a s (6 : Int32)) (nuv c d (6 : Int32)) hR52 rfl (plv_nz _ _ _) (new_cons (plv_ne a s _ _ 0 6 rfl rfl ho (by decide)) (new_cons (plv_ne a s _ _ 1 6 rfl rfl ho (by decide)) (new_cons (plv_ne a s _ _ 2 6 rfl rfl ho (by decide)) (new_cons (plv_ne a s _ _ 3 6 rfl rfl ho (by decide)) (new_cons (plv_ne a s _ _ 4 6 rfl rfl ho (by decide)) (new_cons (plv_ne a s _ _ 5 6 rfl rfl ho (by decide)) new_nil)))))) _) rfl rfl rfl rfl rfl rfl (Nat.le_of_ble_eq_true rfl) (Nat.le_of_ble_eq_true rfl) ?_
  rintro _ _ _ ⟨ks53, ns53, fl53, s_53, hR53', rfl, rfl, rfl⟩; have hR53 : WRep 16 (whash 28) ks53 ns53 fl53 [(s_47, (plv a s (0 : Int32)), (nuv c d (0 : Int32))), (s_48, (plv a s (1 : Int32)), (nuv c d (1 : Int32))), (s_49, (plv a s (2 : Int32)), (nuv c d (2 : Int32))), (s_50, (plv a s (3 : Int32)), (nuv c d (3 : Int32))), (s_51, (plv a s (4 : Int32)), (nuv c d (4 : Int32))), (s_52, (plv a s (5 : Int32)), (nuv c d (5 : Int32))), (s_53, (plv a s (6 : Int32)), (nuv c d (6 : Int32)))] := hR53'
  show WGo _ (214, [wI a, wI b, wI c, wI d, wI e, wI f, wI s, wI 9, wI j, wI k, wR 0, wU, wU], [], [(.inr (cn0, [(fk0, .ref 1), (fk1, .ref 2), (fk2, .ref 3), (fk3, .int 28), (fk4, .int 7)])), (wAI (ia ks53)), (wAI (ia ns53)), (wAI (ia fl53))], 45) _
  refine .s (.iload a0_214 rfl) <| .s (.bipush (7 : Int32) a0_216 rfl) <| .s (.icmpF a0_218 (by decide)) <| .s (.aload a0_221 rfl rfl) <| .s (.iloadN a0_223 rfl) <| .s (.iload a0_224 rfl) <| .s (.bipush (7 : Int32) a0_226 rfl) ?_
  refine .callS a0_228 (ok4 hw _ _ _ _) (wd hw 25 rfl) (wd hw 26 rfl) (argsL := [(.int a), (.int s), .int 7]) (S := [.ref 0]) (c4 hw _ _ a s (7 : Int32) _ _) rfl rfl rfl rfl rfl rfl (Nat.le_of_ble_eq_true rfl) (Nat.le_of_ble_eq_true rfl) ?_
  rintro _ _ _ ⟨rfl, rfl, rfl⟩
  show WGo _ (231, [wI a, wI b, wI c, wI d, wI e, wI f, wI s, wI 9, wI j, wI k, wR 0, wU, wU], [(.int (plv a s (7 : Int32))), .ref 0], [(.inr (cn0, [(fk0, .ref 1), (fk1, .ref 2), (fk2, .ref 3), (fk3, .int 28), (fk4, .int 7)])), (wAI (ia ks53)), (wAI (ia ns53)), (wAI (ia fl53))], 45) _
  refine .s (.iloadN a0_231 rfl) <| .s (.iloadN a0_232 rfl) <| .s (.bipush (7 : Int32) a0_233 rfl) ?_
  refine .callS a0_235 (ok8 hw _ _ _ _) (wd hw 42 rfl) (wd hw 43 rfl) (argsL := [(.int c), (.int d), .int 7]) (S := [(.int (plv a s (7 : Int32))), .ref 0]) (c8 hw _ _ c d (7 : Int32) _ _) rfl rfl rfl rfl rfl rfl (Nat.le_of_ble_eq_true rfl) (Nat.le_of_ble_eq_true rfl) ?_
  rintro _ _ _ ⟨rfl, rfl, rfl⟩
  show WGo _ (238, [wI a, wI b, wI c, wI d, wI e, wI f, wI s, wI 9, wI j, wI k, wR 0, wU, wU], [(.int (nuv c d (7 : Int32))), (.int (plv a s (7 : Int32))), .ref 0], [(.inr (cn0, [(fk0, .ref 1), (fk1, .ref 2), (fk2, .ref 3), (fk3, .int 28), (fk4, .int 7)])), (wAI (ia ks53)), (wAI (ia ns53)), (wAI (ia fl53))], 45) _
  refine .callV (k := 0) (z := (⟨"com/example/tributary/tributary/facts/PlaceMap", "put", "(II)V"⟩ : MethodName)) a0_238 (ok9 hw _ _ _ _) ⟨rfl, by decide⟩ (wd hw 45 rfl) (wd hw 46 rfl) (fun s hZ => notFace_of_selects (args := #[]) (mvT hZ (wd hw 48 rfl))) (wd hw 48 rfl) (wd hw 47 rfl) rfl (argsL := [(.int (plv a s (7 : Int32))), (.int (nuv c d (7 : Int32)))]) (S := []) (cputA_7 hw _ _ ks53 ns53 fl53 [(s_47, (plv a s (0 : Int32)), (nuv c d (0 : Int32))), (s_48, (plv a s (1 : Int32)), (nuv c d (1 : Int32))), (s_49, (plv a s (2 : Int32)), (nuv c d (2 : Int32))), (s_50, (plv a s (3 : Int32)), (nuv c d (3 : Int32))), (s_51, (plv a s (4 : Int32)), (nuv c d (4 : Int32))), (s_52, (plv a s (5 : Int32)), (nuv c d (5 : Int32))), (s_53, (plv a s (6 : Int32)), (nuv c d (6 : Int32)))] (plv a s (7 : Int32)) (nuv c d (7 : Int32)) hR53 rfl (plv_nz _ _ _) (new_cons (plv_ne a s _ _ 0 7 rfl rfl ho (by decide)) (new_cons (plv_ne a s _ _ 1 7 rfl rfl ho (by decide)) (new_cons (plv_ne a s _ _ 2 7 rfl rfl ho (by decide)) (new_cons (plv_ne a s _ _ 3 7 rfl rfl ho (by decide)) (new_cons (plv_ne a s _ _ 4 7 rfl rfl ho (by decide)) (new_cons (plv_ne a s _ _ 5 7 rfl rfl ho (by decide)) (new_cons (plv_ne a s _ _ 6 7 rfl rfl ho (by decide)) new_nil))))))) _) rfl rfl rfl rfl rfl rfl (Nat.le_of_ble_eq_true rfl) (Nat.le_of_ble_eq_true rfl) ?_
  rintro _ _ _ ⟨ks54, ns54, fl54, s_54, hR54', rfl, rfl, rfl⟩; have hR54 : WRep 16 (whash 28) ks54 ns54 fl54 [(s_47, (plv a s (0 : Int32)), (nuv c d (0 : Int32))), (s_48, (plv a s (1 : Int32)), (nuv c d (1 : Int32))), (s_49, (plv a s (2 : Int32)), (nuv c d (2 : Int32))), (s_50, (plv a s (3 : Int32)), (nuv c d (3 : Int32))), (s_51, (plv a s (4 : Int32)), (nuv c d (4 : Int32))), (s_52, (plv a s (5 : Int32)), (nuv c d (5 : Int32))), (s_53, (plv a s (6 : Int32)), (nuv c d (6 : Int32))), (s_54, (plv a s (7 : Int32)), (nuv c d (7 : Int32)))] := hR54'
  show WGo _ (241, [wI a, wI b, wI c, wI d, wI e, wI f, wI s, wI 9, wI j, wI k, wR 0, wU, wU], [], [(.inr (cn0, [(fk0, .ref 1), (fk1, .ref 2), (fk2, .ref 3), (fk3, .int 28), (fk4, .int 8)])), (wAI (ia ks54)), (wAI (ia ns54)), (wAI (ia fl54))], 45) _
  refine .s (.iload a0_241 rfl) <| .s (.bipush (8 : Int32) a0_243 rfl) <| .s (.icmpF a0_245 (by decide)) <| .s (.aload a0_248 rfl rfl) <| .s (.iloadN a0_250 rfl) <| .s (.iload a0_251 rfl) <| .s (.bipush (8 : Int32) a0_253 rfl) ?_
  refine .callS a0_255 (ok4 hw _ _ _ _) (wd hw 25 rfl) (wd hw 26 rfl) (argsL := [(.int a), (.int s), .int 8]) (S := [.ref 0]) (c4 hw _ _ a s (8 : Int32) _ _) rfl rfl rfl rfl rfl rfl (Nat.le_of_ble_eq_true rfl) (Nat.le_of_ble_eq_true rfl) ?_
  rintro _ _ _ ⟨rfl, rfl, rfl⟩
  show WGo _ (258, [wI a, wI b, wI c, wI d, wI e, wI f, wI s, wI 9, wI j, wI k, wR 0, wU, wU], [(.int (plv a s (8 : Int32))), .ref 0], [(.inr (cn0, [(fk0, .ref 1), (fk1, .ref 2), (fk2, .ref 3), (fk3, .int 28), (fk4, .int 8)])), (wAI (ia ks54)), (wAI (ia ns54)), (wAI (ia fl54))], 45) _
  refine .s (.iloadN a0_258 rfl) <| .s (.iloadN a0_259 rfl) <| .s (.bipush (8 : Int32) a0_260 rfl) ?_
  refine .callS a0_262 (ok8 hw _ _ _ _) (wd hw 42 rfl) (wd hw 43 rfl) (argsL := [(.int c), (.int d), .int 8]) (S := [(.int (plv a s (8 : Int32))), .ref 0]) (c8 hw _ _ c d (8 : Int32) _ _) rfl rfl rfl rfl rfl rfl (Nat.le_of_ble_eq_true rfl) (Nat.le_of_ble_eq_true rfl) ?_
  rintro _ _ _ ⟨rfl, rfl, rfl⟩
  show WGo _ (265, [wI a, wI b, wI c, wI d, wI e, wI f, wI s, wI 9, wI j, wI k, wR 0, wU, wU], [(.int (nuv c d (8 : Int32))), (.int (plv a s (8 : Int32))), .ref 0], [(.inr (cn0, [(fk0, .ref 1), (fk1, .ref 2), (fk2, .ref 3), (fk3, .int 28), (fk4, .int 8)])), (wAI (ia ks54)), (wAI (ia ns54)), (wAI (ia fl54))], 45) _
  refine .callV (k := 0) (z := (⟨"com/example/tributary/tributary/facts/PlaceMap", "put", "(II)V"⟩ : MethodName)) a0_265 (ok9 hw _ _ _ _) ⟨rfl, by decide⟩ (wd hw 45 rfl) (wd hw 46 rfl) (fun s hZ => notFace_of_selects (args := #[]) (mvT hZ (wd hw 48 rfl))) (wd hw 48 rfl) (wd hw 47 rfl) rfl (argsL := [(.int (plv a s (8 : Int32))), (.int (nuv c d (8 : Int32)))]) (S := []) (cput9 hw _ _ ks54 ns54 fl54 s_47 (plv a s (0 : Int32)) (nuv c d (0 : Int32)) s_48 (plv a s (1 : Int32)) (nuv c d (1 : Int32)) s_49 (plv a s (2 : Int32)) (nuv c d (2 : Int32)) s_50 (plv a s (3 : Int32)) (nuv c d (3 : Int32)) s_51 (plv a s (4 : Int32)) (nuv c d (4 : Int32)) s_52 (plv a s (5 : Int32)) (nuv c d (5 : Int32)) s_53 (plv a s (6 : Int32)) (nuv c d (6 : Int32)) s_54 (plv a s (7 : Int32)) (nuv c d (7 : Int32)) hR54 (fun i j x y hij hx hy => pw8 a s c d s_47 s_48 s_49 s_50 s_51 s_52 s_53 s_54 ho i j x y hij hx hy) (plv a s (8 : Int32)) (nuv c d (8 : Int32)) (plv_nz _ _ _) (new_cons (plv_ne a s _ _ 0 8 rfl rfl ho (by decide)) (new_cons (plv_ne a s _ _ 1 8 rfl rfl ho (by decide)) (new_cons (plv_ne a s _ _ 2 8 rfl rfl ho (by decide)) (new_cons (plv_ne a s _ _ 3 8 rfl rfl ho (by decide)) (new_cons (plv_ne a s _ _ 4 8 rfl rfl ho (by decide)) (new_cons (plv_ne a s _ _ 5 8 rfl rfl ho (by decide)) (new_cons (plv_ne a s _ _ 6 8 rfl rfl ho (by decide)) (new_cons (plv_ne a s _ _ 7 8 rfl rfl ho (by decide)) new_nil)))))))) _) rfl rfl rfl rfl rfl rfl (Nat.le_of_ble_eq_true rfl) (Nat.le_of_ble_eq_true rfl) ?_
  rintro _ _ _ ⟨ksb, nsb, flb, tb0, tb1, tb2, tb3, tb4, tb5, tb6, tb7, tb8, hRb, rfl, rfl, rfl⟩
  show WGo _ (268, [wI a, wI b, wI c, wI d, wI e, wI f, wI s, wI 9, wI j, wI k, wR 0, wU, wU], [], [(.inr (cn0, [(fk0, .ref 4), (fk1, .ref 5), (fk2, .ref 6), (fk3, .int 27), (fk4, .int 9)])), (wAI (ia ks54)), (wAI (ia ns54)), (wAI (ia fl54)), (wAI (ia ksb)), (wAI (ia nsb)), (wAI (ia flb))], 125) _
  refine .s (.aload a0_268 rfl rfl) <| .s (.iloadN a0_270 rfl) <| .s (.iload a0_271 rfl) <| .s (.iload a0_273 rfl) ?_
  refine .callS a0_275 (ok4 hw _ _ _ _) (wd hw 25 rfl) (wd hw 26 rfl) (argsL := [(.int a), (.int s), (.int j)]) (S := [.ref 0]) (c4 hw _ _ a s j _ _) rfl rfl rfl rfl rfl rfl (Nat.le_of_ble_eq_true rfl) (Nat.le_of_ble_eq_true rfl) ?_
  rintro _ _ _ ⟨rfl, rfl, rfl⟩
  show WGo _ (278, [wI a, wI b, wI c, wI d, wI e, wI f, wI s, wI 9, wI j, wI k, wR 0, wU, wU], [(.int (plv a s j)), .ref 0], [(.inr (cn0, [(fk0, .ref 4), (fk1, .ref 5), (fk2, .ref 6), (fk3, .int 27), (fk4, .int 9)])), (wAI (ia ks54)), (wAI (ia ns54)), (wAI (ia fl54)), (wAI (ia ksb)), (wAI (ia nsb)), (wAI (ia flb))], 125) _
  refine .callV (k := 0) (z := (⟨"com/example/tributary/tributary/facts/PlaceMap", "get", "(I)I"⟩ : MethodName)) a0_278 (ok5 hw _ _ _ _) ⟨rfl, by decide⟩ (wd hw 29 rfl) (wd hw 30 rfl) (fun s hZ => notFace_of_selects (args := #[]) (mvT hZ (wd hw 32 rfl))) (wd hw 32 rfl) (wd hw 31 rfl) rfl (argsL := [(.int (plv a s j))]) (S := []) (cgetB hw _ _ ks54 ns54 fl54 ksb nsb flb [(tb0, (plv a s (0 : Int32)), (nuv c d (0 : Int32))), (tb1, (plv a s (1 : Int32)), (nuv c d (1 : Int32))), (tb2, (plv a s (2 : Int32)), (nuv c d (2 : Int32))), (tb3, (plv a s (3 : Int32)), (nuv c d (3 : Int32))), (tb4, (plv a s (4 : Int32)), (nuv c d (4 : Int32))), (tb5, (plv a s (5 : Int32)), (nuv c d (5 : Int32))), (tb6, (plv a s (6 : Int32)), (nuv c d (6 : Int32))), (tb7, (plv a s (7 : Int32)), (nuv c d (7 : Int32))), (tb8, (plv a s (8 : Int32)), (nuv c d (8 : Int32)))] (plv a s j) 9 hRb _) rfl rfl rfl rfl rfl rfl (Nat.le_of_ble_eq_true rfl) (Nat.le_of_ble_eq_true rfl) ?_
  rintro _ _ _ ⟨rfl, rfl, rfl⟩; rw [look9 a s c d j tb0 tb1 tb2 tb3 tb4 tb5 tb6 tb7 tb8 ho hj]
  show WGo _ (281, [wI a, wI b, wI c, wI d, wI e, wI f, wI s, wI 9, wI j, wI k, wR 0, wU, wU], [(.int (exv c d j (9 : Int32)))], [(.inr (cn0, [(fk0, .ref 4), (fk1, .ref 5), (fk2, .ref 6), (fk3, .int 27), (fk4, .int 9)])), (wAI (ia ks54)), (wAI (ia ns54)), (wAI (ia fl54)), (wAI (ia ksb)), (wAI (ia nsb)), (wAI (ia flb))], 125) _
  refine .s (.istore (L' := [wI a, wI b, wI c, wI d, wI e, wI f, wI s, wI 9, wI j, wI k, wR 0, wI (exv c d j (9 : Int32)), wU]) a0_281 rfl) <| .s (.aload a0_283 rfl rfl) <| .s (.iloadN a0_285 rfl) <| .s (.iload a0_286 rfl) <| .s (.iload a0_288 rfl) ?_
  refine .callS a0_290 (ok4 hw _ _ _ _) (wd hw 25 rfl) (wd hw 26 rfl) (argsL := [(.int a), (.int s), (.int k)]) (S := [.ref 0]) (c4 hw _ _ a s k _ _) rfl rfl rfl rfl rfl rfl (Nat.le_of_ble_eq_true rfl) (Nat.le_of_ble_eq_true rfl) ?_
  rintro _ _ _ ⟨rfl, rfl, rfl⟩
  show WGo _ (293, [wI a, wI b, wI c, wI d, wI e, wI f, wI s, wI 9, wI j, wI k, wR 0, wI (exv c d j (9 : Int32)), wU], [(.int (plv a s k)), .ref 0], [(.inr (cn0, [(fk0, .ref 4), (fk1, .ref 5), (fk2, .ref 6), (fk3, .int 27), (fk4, .int 9)])), (wAI (ia ks54)), (wAI (ia ns54)), (wAI (ia fl54)), (wAI (ia ksb)), (wAI (ia nsb)), (wAI (ia flb))], 125) _
  refine .callV (k := 0) (z := (⟨"com/example/tributary/tributary/facts/PlaceMap", "get", "(I)I"⟩ : MethodName)) a0_293 (ok5 hw _ _ _ _) ⟨rfl, by decide⟩ (wd hw 29 rfl) (wd hw 30 rfl) (fun s hZ => notFace_of_selects (args := #[]) (mvT hZ (wd hw 32 rfl))) (wd hw 32 rfl) (wd hw 31 rfl) rfl (argsL := [(.int (plv a s k))]) (S := []) (cgetB hw _ _ ks54 ns54 fl54 ksb nsb flb [(tb0, (plv a s (0 : Int32)), (nuv c d (0 : Int32))), (tb1, (plv a s (1 : Int32)), (nuv c d (1 : Int32))), (tb2, (plv a s (2 : Int32)), (nuv c d (2 : Int32))), (tb3, (plv a s (3 : Int32)), (nuv c d (3 : Int32))), (tb4, (plv a s (4 : Int32)), (nuv c d (4 : Int32))), (tb5, (plv a s (5 : Int32)), (nuv c d (5 : Int32))), (tb6, (plv a s (6 : Int32)), (nuv c d (6 : Int32))), (tb7, (plv a s (7 : Int32)), (nuv c d (7 : Int32))), (tb8, (plv a s (8 : Int32)), (nuv c d (8 : Int32)))] (plv a s k) 9 hRb _) rfl rfl rfl rfl rfl rfl (Nat.le_of_ble_eq_true rfl) (Nat.le_of_ble_eq_true rfl) ?_
  rintro _ _ _ ⟨rfl, rfl, rfl⟩; rw [look9 a s c d k tb0 tb1 tb2 tb3 tb4 tb5 tb6 tb7 tb8 ho hk]
  show WGo _ (296, [wI a, wI b, wI c, wI d, wI e, wI f, wI s, wI 9, wI j, wI k, wR 0, wI (exv c d j (9 : Int32)), wU], [(.int (exv c d k (9 : Int32)))], [(.inr (cn0, [(fk0, .ref 4), (fk1, .ref 5), (fk2, .ref 6), (fk3, .int 27), (fk4, .int 9)])), (wAI (ia ks54)), (wAI (ia ns54)), (wAI (ia fl54)), (wAI (ia ksb)), (wAI (ia nsb)), (wAI (ia flb))], 125) _
  refine .s (.istore (L' := [wI a, wI b, wI c, wI d, wI e, wI f, wI s, wI 9, wI j, wI k, wR 0, wI (exv c d j (9 : Int32)), wI (exv c d k (9 : Int32))]) a0_296 rfl) <| .s (.iload a0_298 rfl) <| .s (.iloadN a0_300 rfl) <| .s (.iloadN a0_301 rfl) <| .s (.iload a0_302 rfl) <| .s (.iload a0_304 rfl) ?_
  refine .callS a0_306 (ok7 hw _ _ _ _) (wd hw 39 rfl) (wd hw 40 rfl) (argsL := [(.int c), (.int d), (.int j), .int 9]) (S := [(.int (exv c d j (9 : Int32)))]) (c7 hw _ _ c d j (9 : Int32) _ _) rfl rfl rfl rfl rfl rfl (Nat.le_of_ble_eq_true rfl) (Nat.le_of_ble_eq_true rfl) ?_
  rintro _ _ _ ⟨rfl, rfl, rfl⟩
  show WGo _ (309, [wI a, wI b, wI c, wI d, wI e, wI f, wI s, wI 9, wI j, wI k, wR 0, wI (exv c d j (9 : Int32)), wI (exv c d k (9 : Int32))], [(.int (exv c d j (9 : Int32))), (.int (exv c d j (9 : Int32)))], [(.inr (cn0, [(fk0, .ref 4), (fk1, .ref 5), (fk2, .ref 6), (fk3, .int 27), (fk4, .int 9)])), (wAI (ia ks54)), (wAI (ia ns54)), (wAI (ia fl54)), (wAI (ia ksb)), (wAI (ia nsb)), (wAI (ia flb))], 125) _
  refine .s (.icmpF a0_309 (teq rfl).2) <| .s (.iload a0_312 rfl) <| .s (.iloadN a0_314 rfl) <| .s (.iloadN a0_315 rfl) <| .s (.iload a0_316 rfl) <| .s (.iload a0_318 rfl) ?_
  refine .callS a0_320 (ok7 hw _ _ _ _) (wd hw 39 rfl) (wd hw 40 rfl) (argsL := [(.int c), (.int d), (.int k), .int 9]) (S := [(.int (exv c d k (9 : Int32)))]) (c7 hw _ _ c d k (9 : Int32) _ _) rfl rfl rfl rfl rfl rfl (Nat.le_of_ble_eq_true rfl) (Nat.le_of_ble_eq_true rfl) ?_
  rintro _ _ _ ⟨rfl, rfl, rfl⟩
  show WGo _ (323, [wI a, wI b, wI c, wI d, wI e, wI f, wI s, wI 9, wI j, wI k, wR 0, wI (exv c d j (9 : Int32)), wI (exv c d k (9 : Int32))], [(.int (exv c d k (9 : Int32))), (.int (exv c d k (9 : Int32)))], [(.inr (cn0, [(fk0, .ref 4), (fk1, .ref 5), (fk2, .ref 6), (fk3, .int 27), (fk4, .int 9)])), (wAI (ia ks54)), (wAI (ia ns54)), (wAI (ia fl54)), (wAI (ia ksb)), (wAI (ia nsb)), (wAI (ia flb))], 125) _
  refine .s (.icmpF a0_323 (teq rfl).2) <| .s (.iconst (1 : Int32) a0_326 rfl) <| .s (.goto a0_327) ?_
  refine .ireturn .boolean a0_331 rfl (by simp) ?_
  exact ⟨rfl, Nat.le_of_ble_eq_true rfl, Nat.le_of_ble_eq_true rfl⟩
theorem law_go (Z : State) (a0 : Array Value) (hw : ∀ d ∈ tables_1, d.before a0 Z = true) (n0 : Nat) (a b c d e f : Int32) : WGo (g0 Z (fun k => n0 + k) n0 0 0) (0, [wI a, wI b, wI c, wI d, wI e, wI f, wU, wU, wU, wU, wU, wU, wU], [], [], 0) (fun v σ' u' => v = some (.int 1) ∧ σ'.length ≤ 24 ∧ u' ≤ 320) := by
  refine .s (.iloadN a0_0 rfl) <| .s (.iconst (1 : Int32) a0_1 rfl) <| .s (.ior a0_2) ?_
  generalize hg_s : (b ||| (1 : Int32)) = s
  have ho := odd_of _ _ hg_s
  refine .s (.istore (L' := [wI a, wI b, wI c, wI d, wI e, wI f, wI s, wU, wU, wU, wU, wU, wU]) a0_3 rfl) <| .s (.iload a0_5 rfl) <| .s (.ldc a0_7 (wd hw 0 rfl)) <| .s (.iand a0_9) <| .s (.bipush (10 : Int32) a0_10 rfl) <| .s (.irem a0_12 (by decide)) ?_
  generalize hg_m : ((e &&& (2147483647 : Int32)) % (10 : Int32)) = m
  have hm := ten (c_and e 2147483647 (by decide)).1 hg_m
  have hm' := hm
  rcases hm' with rfl | rfl | rfl | rfl | rfl | rfl | rfl | rfl | rfl | rfl
  · show WGo _ (13, [wI a, wI b, wI c, wI d, wI e, wI f, wI s, wU, wU, wU, wU, wU, wU], [.int 0], [], 0) _
    refine .s (.istore (L' := [wI a, wI b, wI c, wI d, wI e, wI f, wI s, wI 0, wU, wU, wU, wU, wU]) a0_13 rfl) <| .s (.iload a0_15 rfl) <| .s (.ldc a0_17 (wd hw 1 rfl)) <| .s (.iand a0_19) <| .s (.bipush (10 : Int32) a0_20 rfl) <| .s (.irem a0_22 (by decide)) ?_
    generalize hg_j : ((f &&& (65535 : Int32)) % (10 : Int32)) = j
    have hj := ten (c_and f 65535 (by decide)).1 hg_j
    refine .s (.istore (L' := [wI a, wI b, wI c, wI d, wI e, wI f, wI s, wI 0, wI j, wU, wU, wU, wU]) a0_23 rfl) <| .s (.iload a0_25 rfl) <| .s (.bipush (16 : Int32) a0_27 rfl) <| .s (.iushr a0_29) <| .s (.bipush (10 : Int32) a0_30 rfl) <| .s (.irem a0_32 (by decide)) ?_
    generalize hg_k : (((f.toUInt32 >>> ((16 : Int32) &&& 31).toUInt32).toInt32) % (10 : Int32)) = k
    have hk := ten (by rw [c_iushr f 16 16 (by decide) (by decide)]; have := rng32 f; omega) hg_k
    refine .s (.istore (L' := [wI a, wI b, wI c, wI d, wI e, wI f, wI s, wI 0, wI j, wI k, wU, wU, wU]) a0_33 rfl) ?_
    exact seg0 Z a0 hw n0 a b c d e f s j k ho hj hk
  · show WGo _ (13, [wI a, wI b, wI c, wI d, wI e, wI f, wI s, wU, wU, wU, wU, wU, wU], [.int 1], [], 0) _
    refine .s (.istore (L' := [wI a, wI b, wI c, wI d, wI e, wI f, wI s, wI 1, wU, wU, wU, wU, wU]) a0_13 rfl) <| .s (.iload a0_15 rfl) <| .s (.ldc a0_17 (wd hw 1 rfl)) <| .s (.iand a0_19) <| .s (.bipush (10 : Int32) a0_20 rfl) <| .s (.irem a0_22 (by decide)) ?_
    generalize hg_j : ((f &&& (65535 : Int32)) % (10 : Int32)) = j
    have hj := ten (c_and f 65535 (by decide)).1 hg_j
    refine .s (.istore (L' := [wI a, wI b, wI c, wI d, wI e, wI f, wI s, wI 1, wI j, wU, wU, wU, wU]) a0_23 rfl) <| .s (.iload a0_25 rfl) <| .s (.bipush (16 : Int32) a0_27 rfl) <| .s (.iushr a0_29) <| .s (.bipush (10 : Int32) a0_30 rfl) <| .s (.irem a0_32 (by decide)) ?_
    generalize hg_k : (((f.toUInt32 >>> ((16 : Int32) &&& 31).toUInt32).toInt32) % (10 : Int32)) = k
    have hk := ten (by rw [c_iushr f 16 16 (by decide) (by decide)]; have := rng32 f; omega) hg_k
    refine .s (.istore (L' := [wI a, wI b, wI c, wI d, wI e, wI f, wI s, wI 1, wI j, wI k, wU, wU, wU]) a0_33 rfl) ?_
    exact seg1 Z a0 hw n0 a b c d e f s j k ho hj hk
  · show WGo _ (13, [wI a, wI b, wI c, wI d, wI e, wI f, wI s, wU, wU, wU, wU, wU, wU], [.int 2], [], 0) _
    refine .s (.istore (L' := [wI a, wI b, wI c, wI d, wI e, wI f, wI s, wI 2, wU, wU, wU, wU, wU]) a0_13 rfl) <| .s (.iload a0_15 rfl) <| .s (.ldc a0_17 (wd hw 1 rfl)) <| .s (.iand a0_19) <| .s (.bipush (10 : Int32) a0_20 rfl) <| .s (.irem a0_22 (by decide)) ?_
    generalize hg_j : ((f &&& (65535 : Int32)) % (10 : Int32)) = j
    have hj := ten (c_and f 65535 (by decide)).1 hg_j
    refine .s (.istore (L' := [wI a, wI b, wI c, wI d, wI e, wI f, wI s, wI 2, wI j, wU, wU, wU, wU]) a0_23 rfl) <| .s (.iload a0_25 rfl) <| .s (.bipush (16 : Int32) a0_27 rfl) <| .s (.iushr a0_29) <| .s (.bipush (10 : Int32) a0_30 rfl) <| .s (.irem a0_32 (by decide)) ?_
    generalize hg_k : (((f.toUInt32 >>> ((16 : Int32) &&& 31).toUInt32).toInt32) % (10 : Int32)) = k
    have hk := ten (by rw [c_iushr f 16 16 (by decide) (by decide)]; have := rng32 f; omega) hg_k
    refine .s (.istore (L' := [wI a, wI b, wI c, wI d, wI e, wI f, wI s, wI 2, wI j, wI k, wU, wU, wU]) a0_33 rfl) ?_
    exact seg2 Z a0 hw n0 a b c d e f s j k ho hj hk
  · show WGo _ (13, [wI a, wI b, wI c, wI d, wI e, wI f, wI s, wU, wU, wU, wU, wU, wU], [.int 3], [], 0) _
    refine .s (.istore (L' := [wI a, wI b, wI c, wI d, wI e, wI f, wI s, wI 3, wU, wU, wU, wU, wU]) a0_13 rfl) <| .s (.iload a0_15 rfl) <| .s (.ldc a0_17 (wd hw 1 rfl)) <| .s (.iand a0_19) <| .s (.bipush (10 : Int32) a0_20 rfl) <| .s (.irem a0_22 (by decide)) ?_
    generalize hg_j : ((f &&& (65535 : Int32)) % (10 : Int32)) = j
    have hj := ten (c_and f 65535 (by decide)).1 hg_j
    refine .s (.istore (L' := [wI a, wI b, wI c, wI d, wI e, wI f, wI s, wI 3, wI j, wU, wU, wU, wU]) a0_23 rfl) <| .s (.iload a0_25 rfl) <| .s (.bipush (16 : Int32) a0_27 rfl) <| .s (.iushr a0_29) <| .s (.bipush (10 : Int32) a0_30 rfl) <| .s (.irem a0_32 (by decide)) ?_
    generalize hg_k : (((f.toUInt32 >>> ((16 : Int32) &&& 31).toUInt32).toInt32) % (10 : Int32)) = k
    have hk := ten (by rw [c_iushr f 16 16 (by decide) (by decide)]; have := rng32 f; omega) hg_k
    refine .s (.istore (L' := [wI a, wI b, wI c, wI d, wI e, wI f, wI s, wI 3, wI j, wI k, wU, wU, wU]) a0_33 rfl) ?_
    exact seg3 Z a0 hw n0 a b c d e f s j k ho hj hk
  · show WGo _ (13, [wI a, wI b, wI c, wI d, wI e, wI f, wI s, wU, wU, wU, wU, wU, wU], [.int 4], [], 0) _
    refine .s (.istore (L' := [wI a, wI b, wI c, wI d, wI e, wI f, wI s, wI 4, wU, wU, wU, wU, wU]) a0_13 rfl) <| .s (.iload a0_15 rfl) <| .s (.ldc a0_17 (wd hw 1 rfl)) <| .s (.iand a0_19) <| .s (.bipush (10 : Int32) a0_20 rfl) <| .s (.irem a0_22 (by decide)) ?_
    generalize hg_j : ((f &&& (65535 : Int32)) % (10 : Int32)) = j
    have hj := ten (c_and f 65535 (by decide)).1 hg_j
    refine .s (.istore (L' := [wI a, wI b, wI c, wI d, wI e, wI f, wI s, wI 4, wI j, wU, wU, wU, wU]) a0_23 rfl) <| .s (.iload a0_25 rfl) <| .s (.bipush (16 : Int32) a0_27 rfl) <| .s (.iushr a0_29) <| .s (.bipush (10 : Int32) a0_30 rfl) <| .s (.irem a0_32 (by decide)) ?_
    generalize hg_k : (((f.toUInt32 >>> ((16 : Int32) &&& 31).toUInt32).toInt32) % (10 : Int32)) = k
    have hk := ten (by rw [c_iushr f 16 16 (by decide) (by decide)]; have := rng32 f; omega) hg_k
    refine .s (.istore (L' := [wI a, wI b, wI c, wI d, wI e, wI f, wI s, wI 4, wI j, wI k, wU, wU, wU]) a0_33 rfl) ?_
    exact seg4 Z a0 hw n0 a b c d e f s j k ho hj hk
  · show WGo _ (13, [wI a, wI b, wI c, wI d, wI e, wI f, wI s, wU, wU, wU, wU, wU, wU], [.int 5], [], 0) _
    refine .s (.istore (L' := [wI a, wI b, wI c, wI d, wI e, wI f, wI s, wI 5, wU, wU, wU, wU, wU]) a0_13 rfl) <| .s (.iload a0_15 rfl) <| .s (.ldc a0_17 (wd hw 1 rfl)) <| .s (.iand a0_19) <| .s (.bipush (10 : Int32) a0_20 rfl) <| .s (.irem a0_22 (by decide)) ?_
    generalize hg_j : ((f &&& (65535 : Int32)) % (10 : Int32)) = j
    have hj := ten (c_and f 65535 (by decide)).1 hg_j
    refine .s (.istore (L' := [wI a, wI b, wI c, wI d, wI e, wI f, wI s, wI 5, wI j, wU, wU, wU, wU]) a0_23 rfl) <| .s (.iload a0_25 rfl) <| .s (.bipush (16 : Int32) a0_27 rfl) <| .s (.iushr a0_29) <| .s (.bipush (10 : Int32) a0_30 rfl) <| .s (.irem a0_32 (by decide)) ?_
    generalize hg_k : (((f.toUInt32 >>> ((16 : Int32) &&& 31).toUInt32).toInt32) % (10 : Int32)) = k
    have hk := ten (by rw [c_iushr f 16 16 (by decide) (by decide)]; have := rng32 f; omega) hg_k
    refine .s (.istore (L' := [wI a, wI b, wI c, wI d, wI e, wI f, wI s, wI 5, wI j, wI k, wU, wU, wU]) a0_33 rfl) ?_
    exact seg5 Z a0 hw n0 a b c d e f s j k ho hj hk
  · show WGo _ (13, [wI a, wI b, wI c, wI d, wI e, wI f, wI s, wU, wU, wU, wU, wU, wU], [.int 6], [], 0) _
    refine .s (.istore (L' := [wI a, wI b, wI c, wI d, wI e, wI f, wI s, wI 6, wU, wU, wU, wU, wU]) a0_13 rfl) <| .s (.iload a0_15 rfl) <| .s (.ldc a0_17 (wd hw 1 rfl)) <| .s (.iand a0_19) <| .s (.bipush (10 : Int32) a0_20 rfl) <| .s (.irem a0_22 (by decide)) ?_
    generalize hg_j : ((f &&& (65535 : Int32)) % (10 : Int32)) = j
    have hj := ten (c_and f 65535 (by decide)).1 hg_j
    refine .s (.istore (L' := [wI a, wI b, wI c, wI d, wI e, wI f, wI s, wI 6, wI j, wU, wU, wU, wU]) a0_23 rfl) <| .s (.iload a0_25 rfl) <| .s (.bipush (16 : Int32) a0_27 rfl) <| .s (.iushr a0_29) <| .s (.bipush (10 : Int32) a0_30 rfl) <| .s (.irem a0_32 (by decide)) ?_
    generalize hg_k : (((f.toUInt32 >>> ((16 : Int32) &&& 31).toUInt32).toInt32) % (10 : Int32)) = k
    have hk := ten (by rw [c_iushr f 16 16 (by decide) (by decide)]; have := rng32 f; omega) hg_k
    refine .s (.istore (L' := [wI a, wI b, wI c, wI d, wI e, wI f, wI s, wI 6, wI j, wI k, wU, wU, wU]) a0_33 rfl) ?_
    exact seg6 Z a0 hw n0 a b c d e f s j k ho hj hk
  · show WGo _ (13, [wI a, wI b, wI c, wI d, wI e, wI f, wI s, wU, wU, wU, wU, wU, wU], [.int 7], [], 0) _
    refine .s (.istore (L' := [wI a, wI b, wI c, wI d, wI e, wI f, wI s, wI 7, wU, wU, wU, wU, wU]) a0_13 rfl) <| .s (.iload a0_15 rfl) <| .s (.ldc a0_17 (wd hw 1 rfl)) <| .s (.iand a0_19) <| .s (.bipush (10 : Int32) a0_20 rfl) <| .s (.irem a0_22 (by decide)) ?_
    generalize hg_j : ((f &&& (65535 : Int32)) % (10 : Int32)) = j
    have hj := ten (c_and f 65535 (by decide)).1 hg_j
    refine .s (.istore (L' := [wI a, wI b, wI c, wI d, wI e, wI f, wI s, wI 7, wI j, wU, wU, wU, wU]) a0_23 rfl) <| .s (.iload a0_25 rfl) <| .s (.bipush (16 : Int32) a0_27 rfl) <| .s (.iushr a0_29) <| .s (.bipush (10 : Int32) a0_30 rfl) <| .s (.irem a0_32 (by decide)) ?_
    generalize hg_k : (((f.toUInt32 >>> ((16 : Int32) &&& 31).toUInt32).toInt32) % (10 : Int32)) = k
    have hk := ten (by rw [c_iushr f 16 16 (by decide) (by decide)]; have := rng32 f; omega) hg_k
    refine .s (.istore (L' := [wI a, wI b, wI c, wI d, wI e, wI f, wI s, wI 7, wI j, wI k, wU, wU, wU]) a0_33 rfl) ?_
    exact seg7 Z a0 hw n0 a b c d e f s j k ho hj hk
  · show WGo _ (13, [wI a, wI b, wI c, wI d, wI e, wI f, wI s, wU, wU, wU, wU, wU, wU], [.int 8], [], 0) _
    refine .s (.istore (L' := [wI a, wI b, wI c, wI d, wI e, wI f, wI s, wI 8, wU, wU, wU, wU, wU]) a0_13 rfl) <| .s (.iload a0_15 rfl) <| .s (.ldc a0_17 (wd hw 1 rfl)) <| .s (.iand a0_19) <| .s (.bipush (10 : Int32) a0_20 rfl) <| .s (.irem a0_22 (by decide)) ?_
    generalize hg_j : ((f &&& (65535 : Int32)) % (10 : Int32)) = j
    have hj := ten (c_and f 65535 (by decide)).1 hg_j
    refine .s (.istore (L' := [wI a, wI b, wI c, wI d, wI e, wI f, wI s, wI 8, wI j, wU, wU, wU, wU]) a0_23 rfl) <| .s (.iload a0_25 rfl) <| .s (.bipush (16 : Int32) a0_27 rfl) <| .s (.iushr a0_29) <| .s (.bipush (10 : Int32) a0_30 rfl) <| .s (.irem a0_32 (by decide)) ?_
    generalize hg_k : (((f.toUInt32 >>> ((16 : Int32) &&& 31).toUInt32).toInt32) % (10 : Int32)) = k
    have hk := ten (by rw [c_iushr f 16 16 (by decide) (by decide)]; have := rng32 f; omega) hg_k
    refine .s (.istore (L' := [wI a, wI b, wI c, wI d, wI e, wI f, wI s, wI 8, wI j, wI k, wU, wU, wU]) a0_33 rfl) ?_
    exact seg8 Z a0 hw n0 a b c d e f s j k ho hj hk
  · show WGo _ (13, [wI a, wI b, wI c, wI d, wI e, wI f, wI s, wU, wU, wU, wU, wU, wU], [.int 9], [], 0) _
    refine .s (.istore (L' := [wI a, wI b, wI c, wI d, wI e, wI f, wI s, wI 9, wU, wU, wU, wU, wU]) a0_13 rfl) <| .s (.iload a0_15 rfl) <| .s (.ldc a0_17 (wd hw 1 rfl)) <| .s (.iand a0_19) <| .s (.bipush (10 : Int32) a0_20 rfl) <| .s (.irem a0_22 (by decide)) ?_
    generalize hg_j : ((f &&& (65535 : Int32)) % (10 : Int32)) = j
    have hj := ten (c_and f 65535 (by decide)).1 hg_j
    refine .s (.istore (L' := [wI a, wI b, wI c, wI d, wI e, wI f, wI s, wI 9, wI j, wU, wU, wU, wU]) a0_23 rfl) <| .s (.iload a0_25 rfl) <| .s (.bipush (16 : Int32) a0_27 rfl) <| .s (.iushr a0_29) <| .s (.bipush (10 : Int32) a0_30 rfl) <| .s (.irem a0_32 (by decide)) ?_
    generalize hg_k : (((f.toUInt32 >>> ((16 : Int32) &&& 31).toUInt32).toInt32) % (10 : Int32)) = k
    have hk := ten (by rw [c_iushr f 16 16 (by decide) (by decide)]; have := rng32 f; omega) hg_k
    refine .s (.istore (L' := [wI a, wI b, wI c, wI d, wI e, wI f, wI s, wI 9, wI j, wI k, wU, wU, wU]) a0_33 rfl) ?_
    exact seg9 Z a0 hw n0 a b c d e f s j k ho hj hk
theorem plx : plainFor x = true := plainFor_of_name (by first | (simp [plainName, overriddenIn, x]; done) | decide +kernel)
set_option maxRecDepth 65536 in
set_option maxHeartbeats 40000000 in
theorem comes_1 {Post : Tables → Env → Array Value → State → Outcome → State → Prop} (hpost : ∀ tb e args s v u, (limb_1_1.after args s (.returned v) u = true ∧ limb_1_2.after args s (.returned v) u = true ∧ True) → FrameEnd s (.returned v) u (Jvm.fieldLocs frame_1_writes args s ++ Jvm.arrayLocs frame_1_arrays args s ++ Jvm.staticLocs frame_1_statics s) 24 320 → Post tb e args s (.returned v) u) :
    ArmFor flags0 classFile x code maxLocals ret World_1 tables_1 room_1 Calls_1 rest_1 Pre_1 Post := by
  intro l hfl _ _ p e ha hc hk s m args below hf hA hF happ hP
  obtain ⟨hcalls, hrest, hpre⟩ := hP
  obtain ⟨-, -, -, hnamed, -, -, -, hat⟩ := (Spec.applies_iff hf).mp happ
  obtain ⟨hg, hn⟩ := and_e (Cond.before_iff.mp (show (Jvm.Cond.and given_1 narrow_1).before args s = true from hpre))
  obtain ⟨gg1, gg2⟩ := and_e hg
  obtain ⟨gg3, gg4⟩ := and_e gg2
  obtain ⟨gg5, gg6⟩ := and_e gg4
  obtain ⟨gg7, gg8⟩ := and_e gg6
  obtain ⟨gg9, gg10⟩ := and_e gg8
  obtain ⟨gg11, gg12⟩ := and_e gg10
  obtain ⟨w0, w1, w2, w3, w4, w5, rfl⟩ : ∃ w0 w1 w2 w3 w4 w5 : Value, args = #[w0, w1, w2, w3, w4, w5] := by
    have hs : args.size = 6 := by simpa [Cond.value, given_1] using gg1
    obtain ⟨L⟩ := args
    match L, hs with
    | [w0, w1, w2, w3, w4, w5], _ => exact ⟨w0, w1, w2, w3, w4, w5, rfl⟩
  have hw := fun d (hd : d ∈ tables_1) => atoms_spec (ws := Jvm.Cond.code x code maxLocals ret :: tables_1) hat d (List.mem_cons_of_mem _ hd)
  obtain ⟨i0, ei0⟩ := is_v gg3
  obtain rfl : w0 = (.int i0) := Option.some.inj ei0
  obtain ⟨i1, ei1⟩ := is_v gg5
  obtain rfl : w1 = (.int i1) := Option.some.inj ei1
  obtain ⟨i2, ei2⟩ := is_v gg7
  obtain rfl : w2 = (.int i2) := Option.some.inj ei2
  obtain ⟨i3, ei3⟩ := is_v gg9
  obtain rfl : w3 = (.int i3) := Option.some.inj ei3
  obtain ⟨i4, ei4⟩ := is_v gg11
  obtain rfl : w4 = (.int i4) := Option.some.inj ei4
  obtain ⟨i5, ei5⟩ := is_v gg12
  obtain rfl : w5 = (.int i5) := Option.some.inj ei5
  obtain ⟨v, σ', u', ⟨rfl, hc1, hu1⟩, r⟩ := law_go s _ hw s.heap.size i0 i1 i2 i3 i4 i5
  have D0 : WDen s (fun k => s.heap.size + k) s.heap.size [] s.heap := ⟨rfl, Nat.zero_le _, fun k o h => by cases h⟩
  obtain ⟨n, o, h1, h2, h3, _, L, rfl, ⟨rfl, N, -⟩, hq⟩ := met_of (l := l) (y := x) (ws := tables_1) (argsL := [(.int i0), (.int i1), (.int i2), (.int i3), (.int i4), (.int i5)]) (h := s.heap) rfl rfl rfl rfl plx (fun k _ => rfl) (fun i j h => Nat.add_left_cancel h) r D0 room_1 (Nat.le_of_ble_eq_true rfl) (Nat.le_trans (Nat.sub_le _ _) (Nat.le_trans hc1 (by decide))) (Nat.le_trans (Nat.sub_le _ _) (Nat.le_trans hu1 (by decide))) (Nat.le_of_ble_eq_true rfl) p e ha hc hk s m _ below hf ((Spec.applies_iff_loose hf).mp happ).1 ⟨rfl, State.Warmed39.refl s, rfl⟩ trivial
  refine ⟨n, _, h1, h2, h3, hpost _ _ _ _ _ _ ⟨Cond.after_iff.mpr rfl, Cond.after_iff.mpr (eq_i res_at (Term.int_eval (1)) rfl), trivial⟩ ⟨hq.1, hq.2.1, (hq.2.2.sift fun y hy => Or.inr (N y hy)).mono (Nat.le_trans (Nat.sub_le _ _) (Nat.le_trans hc1 (by decide))) (Nat.le_trans (Nat.sub_le _ _) (Nat.le_trans hu1 (by decide)))⟩⟩
theorem main_1_1 : Claimed_1_1 := comes_1 fun _ _ _ _ _ _ h hF => ⟨h.1, hF⟩
theorem main_1_2 : Claimed_1_2 := comes_1 fun _ _ _ _ _ _ h hF => ⟨h.2.1, hF⟩
end Jvm.Pilot.@@N@@
namespace Jvm.Pilot.@@N@@
open Jvm Jvm.ClassFile Sem Op Lib Jvm.Free Jvm.Stand Jvm.Pilot.@@N@@.Jvm.D
/-! MADE BY PROGRAM (witnessworld.py) out of the Statement's table words and the real class files: 14 classes; the members and pool entries that the words name. The judged class is class 1, her method 4. -/
namespace start1
open Jvm.ClassFile
def u (s : String) : CpInfo := .utf8 (stringToUtf16 s)
/-- a pool by its gaps: so many unusable entries, then the entry; so many at the end -/
def gap : Nat → List CpInfo → List CpInfo
  | 0, r => r
  | n + 1, r => .unusable :: gap n r
def poolList (es : List (Nat × CpInfo)) (last : Nat) : List CpInfo := es.foldr (fun e r => gap e.1 (e.2 :: r)) (gap last [])
def pool (es : List (Nat × CpInfo)) (last : Nat) : Array CpInfo := ⟨poolList es last⟩
def fileOf (pool : Array CpInfo) (this : Nat) (attrs : Array Attribute := #[]) (ms : Array MethodInfo := #[]) (fl : Nat := 33) (sup : Nat := 0) (ifs : Array Nat := #[]) (fds : Array FieldInfo := #[]) : ClassFile where
  minorVersion := 0
  majorVersion := 65
  constantPool := pool
  accessFlags := fl
  thisClass := this
  superClass := sup
  interfaces := ifs
  fields := fds
  methods := ms
  attributes := attrs
def plain (name : String) (sup : Option ClassId) : Class where
  name := name
  kind := .ordinary
  loader := none
  accessFlags := 33
  super := sup
  interfaces := #[]
  cf := none
  fields := #[]
  methods := #[]
  instanceTypes := #[]
  staticTypes := #[]
  resolved := #[]
  callSites := []
  init := .initialized
  statics := none
  mirror := none

def pool0 : Array CpInfo := pool [(5, u "<init>"), (0, u "()V"), (1, .class_ 10), (1, u "java/lang/Object")] 113

def k0c0 : Code := { maxStack := 0, maxLocals := 1, code := object_method_1_code, exceptionTable := #[], attributes := #[] }
def k0m0 : Method := { name := "<init>", desc := "()V", sig := { parameters := [], returnType := none }, accessFlags := 1, code := some k0c0 }
/-- java/lang/Object -/
def k0 : Class := { plain "java/lang/Object" none with
  accessFlags := 33
  interfaces := #[]
  cf := some (fileOf pool0 8 #[] #[{ accessFlags := 1, nameIndex := 5, descriptorIndex := 6, attributes := #[] }] 33 0 #[] #[])
  fields := #[]
  methods := #[k0m0]
  instanceTypes := #[]
  staticTypes := #[]
  resolved := Array.replicate 124 none
  statics := none }

def pool1 : Array CpInfo := pool [(2, .class_ 4), (0, .nameAndType 5 6), (0, u "java/lang/Object"), (0, u "<init>"), (0, u "()V"), (0, .integer 2147483647), (0, .methodref 9 10), (0, .class_ 11), (0, .nameAndType 12 13), (0, u "com/example/tributary/tributary/facts/PlaceMapPutPinLaw"), (0, u "nu"), (0, u "(III)I"), (0, .integer 65535), (0, .class_ 16), (0, u "com/example/tributary/tributary/facts/PlaceMap"), (0, .methodref 15 3), (0, .methodref 9 19), (0, .nameAndType 20 13), (0, u "pl"), (0, .methodref 15 22), (0, .nameAndType 23 24), (0, u "put"), (0, u "(II)V"), (0, .methodref 15 26), (0, .nameAndType 27 28), (0, u "get"), (0, u "(I)I"), (0, .methodref 9 30), (0, .nameAndType 31 32), (0, u "expect"), (0, u "(IIII)I"), (3, u "law"), (0, u "(IIIIII)Z")] 2

def k1m0 : Method := { name := "<init>", desc := "()V", sig := { parameters := [], returnType := none }, accessFlags := 2, code := none }
def k1c1 : Code := { maxStack := 3, maxLocals := 3, code := method_2_code, exceptionTable := #[], attributes := #[] }
def k1m1 : Method := { name := "pl", desc := "(III)I", sig := { parameters := [.int, .int, .int], returnType := some .int }, accessFlags := 10, code := some k1c1 }
def k1c2 : Code := { maxStack := 3, maxLocals := 3, code := method_3_code, exceptionTable := #[], attributes := #[] }
def k1m2 : Method := { name := "nu", desc := "(III)I", sig := { parameters := [.int, .int, .int], returnType := some .int }, accessFlags := 10, code := some k1c2 }
def k1c3 : Code := { maxStack := 3, maxLocals := 4, code := method_4_code, exceptionTable := #[], attributes := #[] }
def k1m3 : Method := { name := "expect", desc := "(IIII)I", sig := { parameters := [.int, .int, .int, .int], returnType := some .int }, accessFlags := 10, code := some k1c3 }
def k1c4 : Code := { maxStack := 5, maxLocals := 13, code := code, exceptionTable := #[], attributes := #[] }
def k1m4 : Method := { name := "law", desc := "(IIIIII)Z", sig := { parameters := [.int, .int, .int, .int, .int, .int], returnType := some .boolean }, accessFlags := 9, code := some k1c4 }
/-- com/example/tributary/tributary/facts/PlaceMapPutPinLaw -/
def k1 : Class := { plain "com/example/tributary/tributary/facts/PlaceMapPutPinLaw" (some 0) with
  accessFlags := 49
  interfaces := #[]
  cf := some (fileOf pool1 9 #[] #[{ accessFlags := 2, nameIndex := 5, descriptorIndex := 6, attributes := #[] }, { accessFlags := 10, nameIndex := 20, descriptorIndex := 13, attributes := #[] }, { accessFlags := 10, nameIndex := 12, descriptorIndex := 13, attributes := #[] }, { accessFlags := 10, nameIndex := 31, descriptorIndex := 32, attributes := #[] }, { accessFlags := 9, nameIndex := 36, descriptorIndex := 37, attributes := #[] }] 49 2 #[] #[])
  fields := #[]
  methods := #[k1m0, k1m1, k1m2, k1m3, k1m4]
  instanceTypes := #[]
  staticTypes := #[]
  resolved := Array.replicate 40 none
  statics := none }

def pool2 : Array CpInfo := pool [(1, .methodref 2 3), (0, .class_ 4), (0, .nameAndType 5 6), (0, u "java/lang/Object"), (0, u "<init>"), (0, u "()V"), (0, .class_ 8), (0, u "com/example/tributary/tributary/facts/PlaceMap"), (0, .fieldref 7 10), (0, .nameAndType 11 12), (0, u "keys"), (0, u "[I"), (0, .fieldref 7 14), (0, .nameAndType 15 12), (0, u "numbers"), (0, .fieldref 7 17), (0, .nameAndType 18 12), (0, u "filled"), (0, .methodref 20 21), (0, .class_ 22), (0, .nameAndType 23 24), (0, u "java/lang/Integer"), (0, u "numberOfTrailingZeros"), (0, u "(I)I"), (0, .fieldref 7 26), (0, .nameAndType 27 28), (0, u "shift"), (0, u "I"), (0, .methodref 7 30), (0, .nameAndType 31 24), (0, u "slotOf"), (0, .fieldref 7 33), (0, .nameAndType 34 28), (0, u "count"), (0, .methodref 7 36), (0, .nameAndType 37 6), (0, u "grow"), (0, .integer 2654435769), (0, .methodref 7 40), (0, .nameAndType 41 42), (0, u "put"), (0, u "(II)V"), (0, u "FIRST_SLOTS"), (4, u "get")] 5

def k2c0 : Code := { maxStack := 3, maxLocals := 1, code := prog_7_method_1_code, exceptionTable := #[], attributes := #[] }
def k2m0 : Method := { name := "<init>", desc := "()V", sig := { parameters := [], returnType := none }, accessFlags := 0, code := some k2c0 }
def k2c1 : Code := { maxStack := 2, maxLocals := 3, code := prog_7_method_2_code, exceptionTable := #[], attributes := #[] }
def k2m1 : Method := { name := "get", desc := "(I)I", sig := { parameters := [.int], returnType := some .int }, accessFlags := 0, code := some k2c1 }
def k2c2 : Code := { maxStack := 5, maxLocals := 4, code := prog_7_method_3_code, exceptionTable := #[], attributes := #[] }
def k2m2 : Method := { name := "put", desc := "(II)V", sig := { parameters := [.int, .int], returnType := none }, accessFlags := 0, code := some k2c2 }
def k2c3 : Code := { maxStack := 3, maxLocals := 4, code := prog_7_method_5_code, exceptionTable := #[], attributes := #[] }
def k2m3 : Method := { name := "slotOf", desc := "(I)I", sig := { parameters := [.int], returnType := some .int }, accessFlags := 2, code := some k2c3 }
def k2c4 : Code := { maxStack := 4, maxLocals := 7, code := prog_7_method_6_code, exceptionTable := #[], attributes := #[] }
def k2m4 : Method := { name := "grow", desc := "()V", sig := { parameters := [], returnType := none }, accessFlags := 2, code := some k2c4 }
/-- com/example/tributary/tributary/facts/PlaceMap -/
def k2 : Class := { plain "com/example/tributary/tributary/facts/PlaceMap" (some 0) with
  accessFlags := 48
  interfaces := #[]
  cf := some (fileOf pool2 7 #[] #[{ accessFlags := 0, nameIndex := 5, descriptorIndex := 6, attributes := #[] }, { accessFlags := 0, nameIndex := 48, descriptorIndex := 24, attributes := #[] }, { accessFlags := 0, nameIndex := 41, descriptorIndex := 42, attributes := #[] }, { accessFlags := 2, nameIndex := 31, descriptorIndex := 24, attributes := #[] }, { accessFlags := 2, nameIndex := 37, descriptorIndex := 6, attributes := #[] }] 48 2 #[] #[{ accessFlags := 26, nameIndex := 43, descriptorIndex := 28, attributes := #[] }, { accessFlags := 2, nameIndex := 11, descriptorIndex := 12, attributes := #[] }, { accessFlags := 2, nameIndex := 15, descriptorIndex := 12, attributes := #[] }, { accessFlags := 2, nameIndex := 18, descriptorIndex := 12, attributes := #[] }, { accessFlags := 2, nameIndex := 34, descriptorIndex := 28, attributes := #[] }, { accessFlags := 2, nameIndex := 27, descriptorIndex := 28, attributes := #[] }])
  fields := #[{ name := "FIRST_SLOTS", type := .int, accessFlags := 26, slot := 0, constantValue := 0 }, { name := "keys", type := (.array .int), accessFlags := 2, slot := 0, constantValue := 0 }, { name := "numbers", type := (.array .int), accessFlags := 2, slot := 1, constantValue := 0 }, { name := "filled", type := (.array .int), accessFlags := 2, slot := 2, constantValue := 0 }, { name := "count", type := .int, accessFlags := 2, slot := 3, constantValue := 0 }, { name := "shift", type := .int, accessFlags := 2, slot := 4, constantValue := 0 }]
  methods := #[k2m0, k2m1, k2m2, k2m3, k2m4]
  instanceTypes := #[(.array .int), (.array .int), (.array .int), .int, .int]
  staticTypes := #[.int]
  resolved := Array.replicate 54 none
  statics := none }

def pool3 : Array CpInfo := pool [(1, .class_ 2), (0, u "java/io/Serializable"), (0, .class_ 4), (0, u "java/lang/Object")] 2

/-- java/io/Serializable -/
def k3 : Class := { plain "java/io/Serializable" (some 0) with
  accessFlags := 1537
  interfaces := #[]
  cf := some (fileOf pool3 1 #[] #[] 1537 3 #[] #[])
  fields := #[]
  methods := #[]
  instanceTypes := #[]
  staticTypes := #[]
  resolved := Array.replicate 7 none
  statics := none }

def pool4 : Array CpInfo := pool [(2, .class_ 4), (1, u "java/lang/Object"), (0, u "<init>"), (0, u "()V"), (1, .class_ 10), (1, u "java/lang/Number"), (2, .class_ 14), (0, u "java/io/Serializable"), (0, u "serialVersionUID"), (0, u "J")] 20

def k4m0 : Method := { name := "<init>", desc := "()V", sig := { parameters := [], returnType := none }, accessFlags := 1, code := none }
/-- java/lang/Number -/
def k4 : Class := { plain "java/lang/Number" (some 0) with
  accessFlags := 1057
  interfaces := #[3]
  cf := some (fileOf pool4 8 #[] #[{ accessFlags := 1, nameIndex := 5, descriptorIndex := 6, attributes := #[] }] 1057 2 #[13] #[{ accessFlags := 26, nameIndex := 15, descriptorIndex := 16, attributes := #[] }])
  fields := #[{ name := "serialVersionUID", type := .long, accessFlags := 26, slot := 0, constantValue := 0 }]
  methods := #[k4m0]
  instanceTypes := #[]
  staticTypes := #[.long]
  resolved := Array.replicate 37 none
  statics := none }

def pool5 : Array CpInfo := pool [(1, .class_ 2), (0, u "java/lang/Comparable"), (0, .class_ 4), (0, u "java/lang/Object")] 7

/-- java/lang/Comparable -/
def k5 : Class := { plain "java/lang/Comparable" (some 0) with
  accessFlags := 1537
  interfaces := #[]
  cf := some (fileOf pool5 1 #[] #[] 1537 3 #[] #[])
  fields := #[]
  methods := #[]
  instanceTypes := #[]
  staticTypes := #[]
  resolved := Array.replicate 12 none
  statics := none }

def pool6 : Array CpInfo := pool [(1, .class_ 2), (0, u "java/lang/constant/Constable"), (0, .class_ 4), (0, u "java/lang/Object")] 6

/-- java/lang/constant/Constable -/
def k6 : Class := { plain "java/lang/constant/Constable" (some 0) with
  accessFlags := 1537
  interfaces := #[]
  cf := some (fileOf pool6 1 #[] #[] 1537 3 #[] #[])
  fields := #[]
  methods := #[]
  instanceTypes := #[]
  staticTypes := #[]
  resolved := Array.replicate 11 none
  statics := none }

def pool7 : Array CpInfo := pool [(1, .class_ 2), (0, u "java/lang/constant/ConstantDesc"), (0, .class_ 4), (0, u "java/lang/Object")] 32

/-- java/lang/constant/ConstantDesc -/
def k7 : Class := { plain "java/lang/constant/ConstantDesc" (some 0) with
  accessFlags := 1537
  interfaces := #[]
  cf := some (fileOf pool7 1 #[] #[] 1537 3 #[] #[])
  fields := #[]
  methods := #[]
  instanceTypes := #[]
  staticTypes := #[]
  resolved := Array.replicate 37 none
  statics := none }

def pool8 : Array CpInfo := pool [(1, .class_ 2), (0, u "java/lang/Integer"), (16, u "digits"), (0, u "[C"), (33, u "(I)I"), (30, u "DigitOnes"), (0, u "[B"), (2, u "DigitTens"), (99, .class_ 190), (0, u "java/lang/Integer$IntegerCache"), (3, u "I"), (8, .class_ 204), (0, u "java/lang/Number"), (2, u "value"), (56, .integer 65536), (37, u "TYPE"), (0, u "Ljava/lang/Class;"), (0, .class_ 305), (0, u "java/lang/Comparable"), (0, .class_ 307), (0, u "java/lang/constant/Constable"), (0, .class_ 309), (0, u "java/lang/constant/ConstantDesc"), (0, u "MIN_VALUE"), (1, u "MAX_VALUE"), (3, u "SIZE"), (1, u "BYTES"), (1, u "serialVersionUID"), (0, u "J"), (84, u "numberOfTrailingZeros")] 46

def k8c0 : Code := { maxStack := 3, maxLocals := 2, code := jdk_33_method_48_code, exceptionTable := #[], attributes := #[] }
def k8m0 : Method := { name := "numberOfTrailingZeros", desc := "(I)I", sig := { parameters := [.int], returnType := some .int }, accessFlags := 9, code := some k8c0 }
/-- java/lang/Integer -/
def k8 : Class := { plain "java/lang/Integer" (some 4) with
  accessFlags := 49
  interfaces := #[5, 6, 7]
  cf := some (fileOf pool8 1 #[.nestMembers #[189]] #[{ accessFlags := 9, nameIndex := 406, descriptorIndex := 54, attributes := #[] }] 49 203 #[304, 306, 308] #[{ accessFlags := 25, nameIndex := 310, descriptorIndex := 194, attributes := #[] }, { accessFlags := 25, nameIndex := 312, descriptorIndex := 194, attributes := #[] }, { accessFlags := 25, nameIndex := 302, descriptorIndex := 303, attributes := #[] }, { accessFlags := 24, nameIndex := 19, descriptorIndex := 20, attributes := #[] }, { accessFlags := 24, nameIndex := 89, descriptorIndex := 86, attributes := #[] }, { accessFlags := 24, nameIndex := 85, descriptorIndex := 86, attributes := #[] }, { accessFlags := 18, nameIndex := 207, descriptorIndex := 194, attributes := #[] }, { accessFlags := 25, nameIndex := 316, descriptorIndex := 194, attributes := #[] }, { accessFlags := 25, nameIndex := 318, descriptorIndex := 194, attributes := #[] }, { accessFlags := 26, nameIndex := 320, descriptorIndex := 321, attributes := #[] }])
  fields := #[{ name := "MIN_VALUE", type := .int, accessFlags := 25, slot := 0, constantValue := 0 }, { name := "MAX_VALUE", type := .int, accessFlags := 25, slot := 1, constantValue := 0 }, { name := "TYPE", type := (.object "java/lang/Class"), accessFlags := 25, slot := 2, constantValue := 0 }, { name := "digits", type := (.array .char), accessFlags := 24, slot := 3, constantValue := 0 }, { name := "DigitTens", type := (.array .byte), accessFlags := 24, slot := 4, constantValue := 0 }, { name := "DigitOnes", type := (.array .byte), accessFlags := 24, slot := 5, constantValue := 0 }, { name := "value", type := .int, accessFlags := 18, slot := 0, constantValue := 0 }, { name := "SIZE", type := .int, accessFlags := 25, slot := 6, constantValue := 0 }, { name := "BYTES", type := .int, accessFlags := 25, slot := 7, constantValue := 0 }, { name := "serialVersionUID", type := .long, accessFlags := 26, slot := 8, constantValue := 0 }]
  methods := #[k8m0]
  instanceTypes := #[.int]
  staticTypes := #[.int, .int, (.object "java/lang/Class"), (.array .char), (.array .byte), (.array .byte), .int, .int, .long]
  resolved := Array.replicate 453 none
  statics := none }

def pool9 : Array CpInfo := pool [(1, u "java/lang/Cloneable"), (0, .class_ 1), (0, u "java/lang/Object"), (0, .class_ 3)] 3

/-- java/lang/Cloneable -/
def k9 : Class := { plain "java/lang/Cloneable" (some 0) with
  accessFlags := 1537
  interfaces := #[]
  cf := some (fileOf pool9 2 #[] #[] 1537 4 #[] #[])
  fields := #[]
  methods := #[]
  instanceTypes := #[]
  staticTypes := #[]
  resolved := Array.replicate 8 none
  statics := none }

/-- the primitive byte -/
def k10 : Class := { plain "byte" none with kind := .primitive 'B', accessFlags := 0x411 }
/-- [B -/
def k11 : Class := { plain "[B" (some 0) with kind := .array 10 .byte, interfaces := #[9, 3], accessFlags := 1041 }

/-- the primitive int -/
def k12 : Class := { plain "int" none with kind := .primitive 'I', accessFlags := 0x411 }
/-- [I -/
def k13 : Class := { plain "[I" (some 0) with kind := .array 12 .int, interfaces := #[9, 3], accessFlags := 1041 }

def heap : Heap := #[]
def classes : Array Class := #[k0, k1, k2, k3, k4, k5, k6, k7, k8, k9, k10, k11, k12, k13]
def interned : List (Array UInt16 × Addr) := []
def slotsUsed : Nat := 0
def theMethod : MethodId := ⟨1, 4⟩
def args0 : Array Value := #[.int 5, .int 6, .int 3, .int 1, .int 2, .int 3]
def aboutOver (below : List Frame) : State where
  vm := { classes := classes, interned := interned.toArray }
  heap := heap
  slotsUsed := slotsUsed
  threads := #[{ frames := .invoking theMethod args0 :: below }]
def below0 : List Frame := [.native { method := ⟨0, 0⟩, args := #[] }]
def about1 : State := aboutOver below0
def p0 : Program := .bare "" "" ""
def e0 : Env := launch0.env 0 0 0
theorem w_frames : about1.frames = Frame.invoking theMethod args0 :: below0 := rfl
set_option maxRecDepth 65536 in
theorem w_args : argsFit about1.vm theMethod args0 = true := by decide +kernel
set_option maxRecDepth 65536 in
theorem w_heap : heapFits about1 = true := by decide +kernel
set_option maxRecDepth 65536 in
theorem w_runnable : about1.curStatus? = some .runnable := by decide +kernel
set_option maxRecDepth 65536 in
theorem w_alone : about1.alone = true := by decide +kernel
set_option maxRecDepth 65536 in
theorem w_named : about1.methodNamed? x = some theMethod := by decide +kernel
set_option maxRecDepth 65536 in
theorem w_hears : about1.hears theMethod below0 = true := by decide +kernel
set_option maxRecDepth 65536 in
theorem w_ripe : about1.ripe theMethod args0 below0 = true := by decide +kernel
theorem w_running : about1.status = .running := rfl
set_option maxRecDepth 65536 in
theorem w_room : about1.hasRoom e0.platform room_1 = true :=
  launch0.hasRoom_least _ room_1 (by decide +kernel) (by decide +kernel) (by decide +kernel) (by decide +kernel) (by decide +kernel) (by decide +kernel)
theorem allAtoms_all (ts : List Jvm.Cond) (a : Array Jvm.Value) (st : Jvm.State) : (allAtoms ts).before a st = ts.all (fun c => c.before a st) := by
  induction ts with
  | nil => rfl
  | cons c t ih =>
    show (Jvm.Cond.and c (allAtoms t)).before a st = _
    rw [Jvm.Cond.before_and, ih, List.all_cons]
def words1 : List Jvm.Cond := Jvm.Cond.code x code maxLocals ret :: tables_1
/-- a 'code' word, met by the world's own term for the bytes: nothing is compared byte by byte -/
theorem code_word {y : MethodName} {bytes : ByteArray} {mx : Nat} {rt : Option FieldType} {a : Array Value} {s : State} {m : MethodId} {meth : Method} {c : Code} (h1 : s.methodNamed? y = some m) (h2 : s.vm.method? m = some meth) (h3 : meth.code = some c) (h4 : c.code = bytes)
    (h5 : (c.maxLocals == mx && c.exceptionTable.isEmpty && decide (c.maxStack ≤ mostOperands) && decide (meth.sig.returnType = rt) && !meth.locks && decide (parseMethodDescriptor y.desc = some meth.sig)) = true) : (Jvm.Cond.code y bytes mx rt).before a s = true := by
  simp only [Bool.and_eq_true, beq_iff_eq, Bool.not_eq_true', decide_eq_true_eq] at h5
  obtain ⟨⟨⟨⟨⟨g1, g2⟩, g3⟩, g4⟩, g5⟩, g6⟩ := h5
  simp [Cond.before, Cond.holds, Cond.value, h1, h2, h3, h4, g1, g2, g3, g4, g5, g6]
def isCode : Jvm.Cond → Bool
  | .code _ _ _ _ => true
  | _ => false
theorem all_split {L : List Jvm.Cond} {P : Jvm.Cond → Bool} (h1 : L.all (fun c => isCode c || P c) = true) (h2 : ∀ c ∈ L.filter isCode, P c = true) : L.all P = true := by
  refine List.all_eq_true.mpr fun c hc => ?_
  have h := List.all_eq_true.mp h1 c hc
  rcases Bool.eq_false_or_eq_true (isCode c) with hi | hi
  · exact h2 c (List.mem_filter.mpr ⟨hc, hi⟩)
  · simpa [hi] using h
set_option maxRecDepth 65536 in
theorem w_c0 : (Jvm.Cond.code x code maxLocals ret).before args0 about1 = true := code_word (m := ⟨1, 4⟩) (meth := k1m4) (c := k1c4) (by decide +kernel) rfl rfl rfl (by decide +kernel)
set_option maxRecDepth 65536 in
theorem w_c1 : (Jvm.Cond.code ({ cls := "com/example/tributary/tributary/facts/PlaceMap", name := "<init>", desc := "()V" } : Jvm.MethodName) prog_7_method_1_code (1 : Nat) (Option.none : Option Jvm.ClassFile.FieldType)).before args0 about1 = true := code_word (m := ⟨2, 0⟩) (meth := k2m0) (c := k2c0) (by decide +kernel) rfl rfl rfl (by decide +kernel)
set_option maxRecDepth 65536 in
theorem w_c2 : (Jvm.Cond.code ({ cls := "java/lang/Object", name := "<init>", desc := "()V" } : Jvm.MethodName) object_method_1_code (1 : Nat) (Option.none : Option Jvm.ClassFile.FieldType)).before args0 about1 = true := code_word (m := ⟨0, 0⟩) (meth := k0m0) (c := k0c0) (by decide +kernel) rfl rfl rfl (by decide +kernel)
set_option maxRecDepth 65536 in
theorem w_c3 : (Jvm.Cond.code ({ cls := "java/lang/Integer", name := "numberOfTrailingZeros", desc := "(I)I" } : Jvm.MethodName) jdk_33_method_48_code (2 : Nat) (Option.some Jvm.ClassFile.FieldType.int)).before args0 about1 = true := code_word (m := ⟨8, 0⟩) (meth := k8m0) (c := k8c0) (by decide +kernel) rfl rfl rfl (by decide +kernel)
set_option maxRecDepth 65536 in
theorem w_c4 : (Jvm.Cond.code ({ cls := "com/example/tributary/tributary/facts/PlaceMapPutPinLaw", name := "pl", desc := "(III)I" } : Jvm.MethodName) method_2_code (3 : Nat) (Option.some Jvm.ClassFile.FieldType.int)).before args0 about1 = true := code_word (m := ⟨1, 1⟩) (meth := k1m1) (c := k1c1) (by decide +kernel) rfl rfl rfl (by decide +kernel)
set_option maxRecDepth 65536 in
theorem w_c5 : (Jvm.Cond.code ({ cls := "com/example/tributary/tributary/facts/PlaceMap", name := "get", desc := "(I)I" } : Jvm.MethodName) prog_7_method_2_code (3 : Nat) (Option.some Jvm.ClassFile.FieldType.int)).before args0 about1 = true := code_word (m := ⟨2, 1⟩) (meth := k2m1) (c := k2c1) (by decide +kernel) rfl rfl rfl (by decide +kernel)
set_option maxRecDepth 65536 in
theorem w_c6 : (Jvm.Cond.code ({ cls := "com/example/tributary/tributary/facts/PlaceMap", name := "slotOf", desc := "(I)I" } : Jvm.MethodName) prog_7_method_5_code (4 : Nat) (Option.some Jvm.ClassFile.FieldType.int)).before args0 about1 = true := code_word (m := ⟨2, 3⟩) (meth := k2m3) (c := k2c3) (by decide +kernel) rfl rfl rfl (by decide +kernel)
set_option maxRecDepth 65536 in
theorem w_c7 : (Jvm.Cond.code ({ cls := "com/example/tributary/tributary/facts/PlaceMapPutPinLaw", name := "expect", desc := "(IIII)I" } : Jvm.MethodName) method_4_code (4 : Nat) (Option.some Jvm.ClassFile.FieldType.int)).before args0 about1 = true := code_word (m := ⟨1, 3⟩) (meth := k1m3) (c := k1c3) (by decide +kernel) rfl rfl rfl (by decide +kernel)
set_option maxRecDepth 65536 in
theorem w_c8 : (Jvm.Cond.code ({ cls := "com/example/tributary/tributary/facts/PlaceMapPutPinLaw", name := "nu", desc := "(III)I" } : Jvm.MethodName) method_3_code (3 : Nat) (Option.some Jvm.ClassFile.FieldType.int)).before args0 about1 = true := code_word (m := ⟨1, 2⟩) (meth := k1m2) (c := k1c2) (by decide +kernel) rfl rfl rfl (by decide +kernel)
set_option maxRecDepth 65536 in
theorem w_c9 : (Jvm.Cond.code ({ cls := "com/example/tributary/tributary/facts/PlaceMap", name := "put", desc := "(II)V" } : Jvm.MethodName) prog_7_method_3_code (4 : Nat) (Option.none : Option Jvm.ClassFile.FieldType)).before args0 about1 = true := code_word (m := ⟨2, 2⟩) (meth := k2m2) (c := k2c2) (by decide +kernel) rfl rfl rfl (by decide +kernel)
set_option maxRecDepth 65536 in
theorem w_c10 : (Jvm.Cond.code ({ cls := "com/example/tributary/tributary/facts/PlaceMap", name := "grow", desc := "()V" } : Jvm.MethodName) prog_7_method_6_code (7 : Nat) (Option.none : Option Jvm.ClassFile.FieldType)).before args0 about1 = true := code_word (m := ⟨2, 4⟩) (meth := k2m4) (c := k2c4) (by decide +kernel) rfl rfl rfl (by decide +kernel)
def codes1 : List Jvm.Cond := [Jvm.Cond.code x code maxLocals ret, Jvm.Cond.code ({ cls := "com/example/tributary/tributary/facts/PlaceMap", name := "<init>", desc := "()V" } : Jvm.MethodName) prog_7_method_1_code (1 : Nat) (Option.none : Option Jvm.ClassFile.FieldType), Jvm.Cond.code ({ cls := "java/lang/Object", name := "<init>", desc := "()V" } : Jvm.MethodName) object_method_1_code (1 : Nat) (Option.none : Option Jvm.ClassFile.FieldType), Jvm.Cond.code ({ cls := "java/lang/Integer", name := "numberOfTrailingZeros", desc := "(I)I" } : Jvm.MethodName) jdk_33_method_48_code (2 : Nat) (Option.some Jvm.ClassFile.FieldType.int), Jvm.Cond.code ({ cls := "com/example/tributary/tributary/facts/PlaceMapPutPinLaw", name := "pl", desc := "(III)I" } : Jvm.MethodName) method_2_code (3 : Nat) (Option.some Jvm.ClassFile.FieldType.int), Jvm.Cond.code ({ cls := "com/example/tributary/tributary/facts/PlaceMap", name := "get", desc := "(I)I" } : Jvm.MethodName) prog_7_method_2_code (3 : Nat) (Option.some Jvm.ClassFile.FieldType.int), Jvm.Cond.code ({ cls := "com/example/tributary/tributary/facts/PlaceMap", name := "slotOf", desc := "(I)I" } : Jvm.MethodName) prog_7_method_5_code (4 : Nat) (Option.some Jvm.ClassFile.FieldType.int), Jvm.Cond.code ({ cls := "com/example/tributary/tributary/facts/PlaceMapPutPinLaw", name := "expect", desc := "(IIII)I" } : Jvm.MethodName) method_4_code (4 : Nat) (Option.some Jvm.ClassFile.FieldType.int), Jvm.Cond.code ({ cls := "com/example/tributary/tributary/facts/PlaceMapPutPinLaw", name := "nu", desc := "(III)I" } : Jvm.MethodName) method_3_code (3 : Nat) (Option.some Jvm.ClassFile.FieldType.int), Jvm.Cond.code ({ cls := "com/example/tributary/tributary/facts/PlaceMap", name := "put", desc := "(II)V" } : Jvm.MethodName) prog_7_method_3_code (4 : Nat) (Option.none : Option Jvm.ClassFile.FieldType), Jvm.Cond.code ({ cls := "com/example/tributary/tributary/facts/PlaceMap", name := "grow", desc := "()V" } : Jvm.MethodName) prog_7_method_6_code (7 : Nat) (Option.none : Option Jvm.ClassFile.FieldType)]
set_option maxRecDepth 65536 in
theorem codes_eq : words1.filter isCode = codes1 := rfl
theorem w_codes : ∀ c ∈ words1.filter isCode, c.before args0 about1 = true := by
  rw [codes_eq]
  intro c hc
  simp only [codes1, List.mem_cons, List.not_mem_nil, or_false] at hc
  rcases hc with rfl | rfl | rfl | rfl | rfl | rfl | rfl | rfl | rfl | rfl | rfl
  · exact w_c0
  · exact w_c1
  · exact w_c2
  · exact w_c3
  · exact w_c4
  · exact w_c5
  · exact w_c6
  · exact w_c7
  · exact w_c8
  · exact w_c9
  · exact w_c10
set_option maxRecDepth 65536 in
theorem w_t1 : (words1.take 24).all (fun c => isCode c || c.before args0 about1) = true := by decide +kernel
set_option maxRecDepth 65536 in
theorem w_t2 : ((words1.drop 24).take 24).all (fun c => isCode c || c.before args0 about1) = true := by decide +kernel
set_option maxRecDepth 65536 in
theorem w_t3 : ((words1.drop 24).drop 24).all (fun c => isCode c || c.before args0 about1) = true := by decide +kernel
theorem w_tables : (allAtoms (Jvm.Cond.code x code maxLocals ret :: tables_1)).before args0 about1 = true := by
  rw [allAtoms_all]
  show words1.all (fun c => c.before args0 about1) = true
  refine all_split ?_ w_codes
  rw [← List.take_append_drop 24 words1, List.all_append, w_t1, ← List.take_append_drop 24 (words1.drop 24), List.all_append, w_t2, w_t3]
  rfl
set_option maxRecDepth 65536 in
theorem w_case : (Jvm.Cond.and given_1 narrow_1).before args0 about1 = true := by decide +kernel
theorem w_applies : (headSpec (Jvm.Cond.code x code maxLocals ret :: tables_1) room_1).applies x e0.platform about1 = true :=
  (Spec.applies_iff w_frames).mpr ⟨w_running, w_runnable, w_alone, w_named, w_hears, w_ripe, w_room, w_tables⟩
theorem atStart : AtStart classFile x code maxLocals ret World_1 tables_1 room_1 Calls_1 rest_1 Pre_1 launch0 p0 e0 about1 theMethod args0 below0 :=
  ⟨lists_1, trivial, launch0.admits_env _ _ _, launch0.least_env, fairChoices_fair.cas, fairChoices_fair.clock, w_frames, w_args, w_heap, w_applies, trivial, trivial, w_case⟩
end start1
theorem witness_1 : WitnessClaimed_1 := ⟨start1.p0, start1.e0, start1.about1, start1.theMethod, start1.args0, start1.below0, start1.atStart⟩
end Jvm.Pilot.@@N@@
