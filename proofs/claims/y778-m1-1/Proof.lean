import JvmDerived
import JvmDerived.Pilot.@@N@@Statement
import JvmDerived.Pilot.@@N@@Code
set_option linter.unusedVariables false
set_option linter.unusedSimpArgs false

namespace Jvm.Sy
open Jvm Jvm.ClassFile Sem Op Lib Jvm.Free Jvm.Stand Jvm.LawKit Jvm.RoadKit Bundle

abbrev WKey := String × String × String
abbrev WObj := (FieldType × List Value) ⊕ (String × List (WKey × Value))
abbrev WHp := List WObj
def gv (ρ : Nat → Nat) : Value → Value
  | .ref a => .ref (ρ a)
  | .int x => .int x
  | .long x => .long x
  | .float x => .float x
  | .double x => .double x
  | .null => .null
  | .retAddr q => .retAddr q
def gs (ρ : Nat → Nat) : Slot → Slot
  | .val v => .val (gv ρ v)
  | .unset => .unset
  | .second => .second
def gS (ρ : Nat → Nat) (S : List Value) : List Value := S.map (gv ρ)
def gL (ρ : Nat → Nat) (L : List Slot) : Array Slot := (L.map (gs ρ)).toArray
section Vals
variable {ρ : Nat → Nat} {v : Value} {ty : FieldType}
theorem cat_gv : (gv ρ v).category = v.category := by cases v <;> rfl
theorem isRef_gv : (gv ρ v).isRef = v.isRef := by cases v <;> rfl
theorem fits_gv : fits ty (gv ρ v) = fits ty v := by cases ty <;> cases v <;> rfl
theorem narrow_gv : narrow ty (gv ρ v) = gv ρ (narrow ty v) := by cases ty <;> cases v <;> rfl
theorem dv_gv : gv ρ (defaultValue ty) = defaultValue ty := by cases ty <;> rfl
theorem gv_inj (h : ∀ i j, ρ i = ρ j → i = j) {w : Value} (e : gv ρ v = gv ρ w) : v = w := by
  cases v <;> cases w <;> simp [gv] at e ⊢ <;> first | exact e | exact h _ _ e
theorem sum_gS (S : List Value) : ((gS ρ S).map fun v => v.category).sum = (S.map Value.category).sum := by
  induction S with
  | nil => rfl
  | cons a t ih => simp only [gS, List.map_cons, List.sum_cons, cat_gv] at ih ⊢; rw [ih]
theorem gL_get (L : List Slot) (k : Nat) : (gL ρ L)[k]? = (L[k]?).map (gs ρ) := by simp [gL]
theorem gL_val {L : List Slot} {k : Nat} (h : L[k]? = some (.val v)) : (gL ρ L)[k]? = some (.val (gv ρ v)) := by rw [gL_get, h]; rfl
theorem gL_size (L : List Slot) : (gL ρ L).size = L.length := by simp [gL]
end Vals
def ArrOk (Z : State) (ρ : Nat → Nat) (h : Heap) (a : Addr) (ty : FieldType) (vs : List Value) : Prop :=
  ∃ cl : Cell, Arr Z h a cl ty ∧ cl.slots.toList = vs.map (gv ρ) ∧ (∀ C, ty = .object C → Ovr Z cl.cls C) ∧ ∀ v ∈ vs, fits ty v = true
def ObjOk (Z : State) (ρ : Nat → Nat) (h : Heap) (a : Addr) (C : String) (fs : List (WKey × Value)) : Prop :=
  Exa Z h a C ∧ (∀ (i : Nat) (O n d : String) (v : Value), fs[i]? = some ((O, n, d), v) → Fld Z h a O n d (gv ρ v)) ∧
    ∀ (i j : Nat) (k1 k2 : WKey) (v1 v2 : Value), i ≠ j → fs[i]? = some (k1, v1) → fs[j]? = some (k2, v2) → RoadKit.slotOf Z k1.1 k1.2.1 k1.2.2 ≠ RoadKit.slotOf Z k2.1 k2.2.1 k2.2.2
def CellOk (Z : State) (ρ : Nat → Nat) (h : Heap) (a : Addr) : WObj → Prop
  | .inl q => ArrOk Z ρ h a q.1 q.2
  | .inr q => ObjOk Z ρ h a q.1 q.2
def WDen (Z : State) (ρ : Nat → Nat) (n0 : Nat) (σ : WHp) (h : Heap) : Prop :=
  h.size = n0 + σ.length ∧ σ.length ≤ 1000 ∧ ∀ (k : Nat) (o : WObj), σ[k]? = some o → CellOk Z ρ h (n0 + k) o
section Heaps
variable {Z : State} {ρ : Nat → Nat} {h h' : Heap} {a b : Addr} {o : WObj} {n0 k sl : Nat} {σ : WHp} {v : Value}
theorem CellOk.ext (F : CellOk Z ρ h a o) (E : Ext h h') : CellOk Z ρ h' a o := by
  rcases o with ⟨ty, vs⟩ | ⟨C, fs⟩
  · obtain ⟨cl, A, r⟩ := F; exact ⟨cl, A.ext E, r⟩
  · obtain ⟨F1, F2, F3⟩ := F; exact ⟨F1.ext E, fun i O n d v q => (F2 i O n d v q).ext E, F3⟩
theorem CellOk.other (F : CellOk Z ρ h b o) (W : Wr h h' a sl v) (q : b ≠ a) : CellOk Z ρ h' b o := by
  rcases o with ⟨ty, vs⟩ | ⟨C, fs⟩
  · obtain ⟨cl, A, r⟩ := F; exact ⟨cl, A.other W q, r⟩
  · obtain ⟨F1, F2, F3⟩ := F; exact ⟨F1.wr W, fun i O n d v y => (F2 i O n d v y).other W (Or.inl q), F3⟩
theorem WDen.push (D : WDen Z ρ n0 σ h) (E : Ext h h') (hs : h'.size = h.size + 1) (hl : σ.length < 1000) (F : CellOk Z ρ h' (n0 + σ.length) o) : WDen Z ρ n0 (σ ++ [o]) h' := by
  obtain ⟨D1, D2, D3⟩ := D
  refine ⟨by rw [hs, D1]; simp [Nat.add_assoc], by simp; omega, fun k o' hk => ?_⟩
  by_cases q : k < σ.length
  · rw [List.getElem?_append_left q] at hk; exact (D3 k o' hk).ext E
  · rw [List.getElem?_append_right (by omega)] at hk
    have e : k - σ.length = 0 := by
      rcases Nat.eq_zero_or_pos (k - σ.length) with z | z
      · exact z
      · rw [List.getElem?_eq_none (by simp; omega)] at hk; cases hk
    rw [e] at hk
    cases hk
    have e2 : k = σ.length := by omega
    rw [e2]; exact F
theorem WDen.put (D : WDen Z ρ n0 σ h) (W : Wr h h' (n0 + k) sl v) (F : CellOk Z ρ h' (n0 + k) o) : WDen Z ρ n0 (σ.set k o) h' := by
  obtain ⟨D1, D2, D3⟩ := D
  refine ⟨by rw [W.size, D1]; simp, by simp; exact D2, fun j o' hj => ?_⟩
  by_cases q : j = k
  · subst q
    rw [List.getElem?_set] at hj
    simp only [if_true] at hj
    split at hj
    · cases hj; exact F
    · cases hj
  · rw [List.getElem?_set_ne (Ne.symm q)] at hj
    exact (D3 j o' hj).other W fun e => q (Nat.add_left_cancel e)
theorem WDen.lt (D : WDen Z ρ n0 σ h) (hk : σ[k]? = some o) : k < 1000 := by
  have := (List.getElem?_eq_some_iff.mp hk).1
  have := D.2.1
  omega
theorem ArrOk.size {ty : FieldType} {vs : List Value} {cl : Cell} (e : cl.slots.toList = vs.map (gv ρ)) : cl.slots.size = vs.length := by
  have := congrArg List.length e
  simpa using this
theorem ArrOk.at {vs : List Value} {cl : Cell} (e : cl.slots.toList = vs.map (gv ρ)) {i : Nat} {w : Value} (hw : vs[i]? = some w) : cl.slots[i]? = some (gv ρ w) := by
  rw [← Array.getElem?_toList, e, List.getElem?_map, hw]; rfl
theorem ArrOk.set {ty : FieldType} {vs : List Value} {cl : Cell} (A : Arr Z h a cl ty) (e : cl.slots.toList = vs.map (gv ρ)) (hO : ∀ C, ty = .object C → Ovr Z cl.cls C) (hf : ∀ v ∈ vs, fits ty v = true) {i : Nat} {w : Value} (W : Wr h h' a i (gv ρ w)) (hw : fits ty w = true) : ArrOk Z ρ h' a ty (vs.set i w) := by
  refine ⟨cl.setSlot i (gv ρ w), A.same W, ?_, hO, fun y hy => ?_⟩
  · show (cl.slots.setIfInBounds i (gv ρ w)).toList = _
    rw [Array.toList_setIfInBounds, e, List.map_set]
  · rcases List.mem_or_eq_of_mem_set hy with q | q
    · exact hf y q
    · rw [q]; exact hw
end Heaps
abbrev WMC := (State × (Nat → Nat) × Nat) × (String × ByteArray × String × Option FieldType × Nat) × (Nat × Nat × Nat × Nat)
abbrev WMC.Z (G : WMC) : State := G.1.1
abbrev WMC.ρ (G : WMC) : Nat → Nat := G.1.2.1
abbrev WMC.n0 (G : WMC) : Nat := G.1.2.2
abbrev WMC.own (G : WMC) : String := G.2.1.1
abbrev WMC.bytes (G : WMC) : ByteArray := G.2.1.2.1
abbrev WMC.nm (G : WMC) : String := G.2.1.2.2.1
abbrev WMC.ret (G : WMC) : Option FieldType := G.2.1.2.2.2.1
abbrev WMC.ml (G : WMC) : Nat := G.2.1.2.2.2.2
abbrev WMC.j0 (G : WMC) : Nat := G.2.2.1
abbrev WMC.u0 (G : WMC) : Nat := G.2.2.2.1
abbrev WMC.fr (G : WMC) : Nat := G.2.2.2.2.1
abbrev WMC.lo (G : WMC) : Nat := G.2.2.2.2.2
abbrev WCfg := Nat × List Slot × List Value × WHp × Nat
def frm (G : WMC) (m : MethodId) (A : WCfg) : JFrame := mkF m A.1 (gL G.ρ A.2.1) (gS G.ρ A.2.2.1)
def WCtx (G : WMC) (p : Program) (R : Room) (s : State) (m : MethodId) (meth : Method) (c : Code) : Prop :=
  p.tables.exec = Jvm.exec ∧ c.code = G.bytes ∧ G.Z.Warmed39 s.vm ∧ s.vm.findClass G.own = some m.cls ∧ meth.name = G.nm ∧ meth.sig.returnType = G.ret ∧ c.maxLocals = G.ml ∧ s.heap.size = G.n0 + G.j0 ∧ (∀ k, k < 1000 → G.ρ k = G.n0 + k) ∧ (∀ i j, G.ρ i = G.ρ j → i = j) ∧ G.fr ≤ R.frames ∧ G.lo ≤ R.locals
def WHere (G : WMC) (p : Program) (l : Launch) (e : Env) (R : Room) (s : State) (m : MethodId) (args : Array Value) (below : List Frame) (meth : Method) (c : Code) (σ : WHp) (u : Nat) (T : State) : Prop :=
  ∃ locs ce sl, σ.length = G.j0 + ce ∧ u = G.u0 + sl ∧ Stand p l e R s m args below meth c T locs ce sl ∧ WDen G.Z G.ρ G.n0 σ T.heap ∧ Fr G.n0 locs
def WStep (G : WMC) (A B : WCfg) : Prop :=
  A.2.2.2.1.length ≤ B.2.2.2.1.length ∧ A.2.2.2.2 ≤ B.2.2.2.2 ∧
  ∀ (p : Program) (l : Launch) (e : Env) (R : Room) (s : State) (m : MethodId) (args : Array Value) (below : List Frame) (meth : Method) (c : Code),
    WCtx G p R s m meth c → B.2.2.2.1.length ≤ G.j0 + R.cells → B.2.2.2.2 ≤ G.u0 + R.slots →
    ∀ T, WHere G p l e R s m args below meth c A.2.2.2.1 A.2.2.2.2 T →
      ∃ T', WHere G p l e R s m args below meth c B.2.2.2.1 B.2.2.2.2 T' ∧
        ∀ target, Steps p.tables e below (T'.setTop (frm G m B)) target → Steps p.tables e below (T.setTop (frm G m A)) target
def WRun (G : WMC) (A : WCfg) (v : Option Value) (σ' : WHp) (u' : Nat) : Prop :=
  A.2.2.2.1.length ≤ σ'.length ∧ A.2.2.2.2 ≤ u' ∧ (G.ret = none → v = none) ∧
  ∀ (p : Program) (l : Launch) (e : Env) (R : Room) (s : State) (m : MethodId) (args : Array Value) (below : List Frame) (meth : Method) (c : Code),
    WCtx G p R s m meth c → σ'.length ≤ G.j0 + R.cells → u' ≤ G.u0 + R.slots →
    ∀ T, WHere G p l e R s m args below meth c A.2.2.2.1 A.2.2.2.2 T →
      ∃ T', WHere G p l e R s m args below meth c σ' u' T' ∧
        ∀ fs, (∀ (f : JFrame) (acts : List Action), f.method = m → f.locked = none → f.entered = [] → (doReturn e (T'.setTop f) acts (v.map (gv G.ρ))).1 = T'.setFrames fs) →
          Steps p.tables e below (T.setTop (frm G m A)) (T'.setFrames fs)
def WGo (G : WMC) (A : WCfg) (Q : Option Value → WHp → Nat → Prop) : Prop := ∃ v σ' u', Q v σ' u' ∧ WRun G A v σ' u'
def AtI (bytes : ByteArray) (pc : Nat) (i : Instr) (len nx : Nat) : Prop := decode bytes pc = .ok (i, len) ∧ pc + len = nx
def AtJ (bytes : ByteArray) (pc : Nat) (f : Int → Instr) (nx tgt : Nat) : Prop := ∃ o : Int, decode bytes pc = .ok (f o, 3) ∧ pc + 3 = nx ∧ 0 ≤ (pc : Int) + o ∧ ((pc : Int) + o).toNat = tgt
section Walk
variable {G : WMC} {A B C : WCfg} {Q Q' : Option Value → WHp → Nat → Prop}
theorem WStep.refl (A : WCfg) : WStep G A A := ⟨Nat.le_refl _, Nat.le_refl _, fun _ _ _ _ _ _ _ _ _ _ _ _ _ T hT => ⟨T, hT, fun _ k => k⟩⟩
theorem WStep.trans (h1 : WStep G A B) (h2 : WStep G B C) : WStep G A C := by
  obtain ⟨a1, a2, a3⟩ := h1
  obtain ⟨b1, b2, b3⟩ := h2
  refine ⟨Nat.le_trans a1 b1, Nat.le_trans a2 b2, fun p l e R s m args below meth c hC hc hs T hT => ?_⟩
  obtain ⟨T1, hT1, k1⟩ := a3 p l e R s m args below meth c hC (Nat.le_trans b1 hc) (Nat.le_trans b2 hs) T hT
  obtain ⟨T2, hT2, k2⟩ := b3 p l e R s m args below meth c hC hc hs T1 hT1
  exact ⟨T2, hT2, fun t k => k1 t (k2 t k)⟩
theorem WRun.s {v : Option Value} {σ' : WHp} {u' : Nat} (h1 : WStep G A B) (h2 : WRun G B v σ' u') : WRun G A v σ' u' := by
  obtain ⟨a1, a2, a3⟩ := h1
  obtain ⟨b1, b2, b0, b3⟩ := h2
  refine ⟨Nat.le_trans a1 b1, Nat.le_trans a2 b2, b0, fun p l e R s m args below meth c hC hc hs T hT => ?_⟩
  obtain ⟨T1, hT1, k1⟩ := a3 p l e R s m args below meth c hC (Nat.le_trans b1 hc) (Nat.le_trans b2 hs) T hT
  obtain ⟨T2, hT2, k2⟩ := b3 p l e R s m args below meth c hC hc hs T1 hT1
  exact ⟨T2, hT2, fun fs h => k1 _ (k2 fs h)⟩
theorem WGo.s (h1 : WStep G A B) (h2 : WGo G B Q) : WGo G A Q := by
  obtain ⟨v, σ', u', q, r⟩ := h2
  exact ⟨v, σ', u', q, r.s h1⟩
theorem WGo.mono (h1 : WGo G A Q) (h : ∀ v σ' u', Q v σ' u' → Q' v σ' u') : WGo G A Q' := by
  obtain ⟨v, σ', u', q, r⟩ := h1
  exact ⟨v, σ', u', h _ _ _ q, r⟩
theorem WStep.pure {pc nx : Nat} {L L' : List Slot} {S S' : List Value} {σ : WHp} {u : Nat}
    (h : ∀ {p : Program} {e : Env} {below : List Frame} {T target : State} {m : MethodId} {c : Code}, At T m c below → p.tables.exec = Jvm.exec → c.code = G.bytes → (∀ i j, G.ρ i = G.ρ j → i = j) →
      Steps p.tables e below (T.setTop (mkF m nx (gL G.ρ L') (gS G.ρ S'))) target → Steps p.tables e below (T.setTop (mkF m pc (gL G.ρ L) (gS G.ρ S))) target) :
    WStep G (pc, L, S, σ, u) (nx, L', S', σ, u) := by
  refine ⟨Nat.le_refl _, Nat.le_refl _, fun p l e R s m args below meth c hC hc hs T hT => ⟨T, hT, fun target k => ?_⟩⟩
  obtain ⟨locs, ce, sl, h1, h2, X, D, N⟩ := hT
  exact h X.here hC.1 hC.2.1 hC.2.2.2.2.2.2.2.2.2.1 k
end Walk
end Jvm.Sy
namespace Jvm.Sy
open Jvm Jvm.ClassFile Sem Op Lib Jvm.Free Jvm.Stand Jvm.LawKit Jvm.RoadKit Bundle
section Pure
variable {G : WMC} {pc nx tgt u : Nat} {L L' : List Slot} {S : List Value} {σ : WHp}
theorem WStep.iload {k : Nat} {x : Int32} (d : AtI G.bytes pc (.iload k) 2 nx) (hl : L[k]? = some (.val (.int x))) : WStep G (pc, L, S, σ, u) (nx, L, .int x :: S, σ, u) := by
  obtain ⟨d, rfl⟩ := d
  exact WStep.pure fun hA hx hby _ k => XS.iload hA hx rfl (hb hby d) (gL_val hl) k
theorem WStep.iloadN {k : Fin 4} {x : Int32} (d : AtI G.bytes pc (.iload_n k) 1 nx) (hl : L[k.val]? = some (.val (.int x))) : WStep G (pc, L, S, σ, u) (nx, L, .int x :: S, σ, u) := by
  obtain ⟨d, rfl⟩ := d
  exact WStep.pure fun hA hx hby _ k => XS.iloadN hA hx rfl (hb hby d) (gL_val hl) k
theorem WStep.lload {k : Nat} {x : Int64} (d : AtI G.bytes pc (.lload k) 2 nx) (hl : L[k]? = some (.val (.long x))) : WStep G (pc, L, S, σ, u) (nx, L, .long x :: S, σ, u) := by
  obtain ⟨d, rfl⟩ := d
  exact WStep.pure fun hA hx hby _ k => XS.lload hA hx rfl (hb hby d) (gL_val hl) k
theorem WStep.lloadN {k : Fin 4} {x : Int64} (d : AtI G.bytes pc (.lload_n k) 1 nx) (hl : L[k.val]? = some (.val (.long x))) : WStep G (pc, L, S, σ, u) (nx, L, .long x :: S, σ, u) := by
  obtain ⟨d, rfl⟩ := d
  exact WStep.pure fun hA hx hby _ k => XS.lloadN hA hx rfl (hb hby d) (gL_val hl) k
theorem WStep.aload {k : Nat} {x : Value} (d : AtI G.bytes pc (.aload k) 2 nx) (hl : L[k]? = some (.val x)) (hr : x.isRef = true) : WStep G (pc, L, S, σ, u) (nx, L, x :: S, σ, u) := by
  obtain ⟨d, rfl⟩ := d
  exact WStep.pure fun hA hx hby _ k => XS.aload hA hx rfl (hb hby d) (gL_val hl) (isRef_gv.trans hr) k
theorem WStep.aloadN {k : Fin 4} {x : Value} (d : AtI G.bytes pc (.aload_n k) 1 nx) (hl : L[k.val]? = some (.val x)) (hr : x.isRef = true) : WStep G (pc, L, S, σ, u) (nx, L, x :: S, σ, u) := by
  obtain ⟨d, rfl⟩ := d
  exact WStep.pure fun hA hx hby _ k => XS.aloadN hA hx rfl (hb hby d) (gL_val hl) (isRef_gv.trans hr) k
theorem WStep.istore {k : Nat} {x : Int32} (d : AtI G.bytes pc (.istore k) 2 nx) (hl : storeLocals (gL G.ρ L) k (.int x) = some (gL G.ρ L')) : WStep G (pc, L, .int x :: S, σ, u) (nx, L', S, σ, u) := by
  obtain ⟨d, rfl⟩ := d
  exact WStep.pure fun hA hx hby _ k => XS.istore hA hx rfl (hb hby d) rfl hl k
theorem WStep.istoreN {k : Fin 4} {x : Int32} (d : AtI G.bytes pc (.istore_n k) 1 nx) (hl : storeLocals (gL G.ρ L) k.val (.int x) = some (gL G.ρ L')) : WStep G (pc, L, .int x :: S, σ, u) (nx, L', S, σ, u) := by
  obtain ⟨d, rfl⟩ := d
  exact WStep.pure fun hA hx hby _ k => XS.istoreN hA hx rfl (hb hby d) rfl hl k
theorem WStep.lstore {k : Nat} {x : Int64} (d : AtI G.bytes pc (.lstore k) 2 nx) (hl : storeLocals (gL G.ρ L) k (.long x) = some (gL G.ρ L')) : WStep G (pc, L, .long x :: S, σ, u) (nx, L', S, σ, u) := by
  obtain ⟨d, rfl⟩ := d
  exact WStep.pure fun hA hx hby _ k => XS.lstore hA hx rfl (hb hby d) rfl hl k
theorem WStep.astore {k : Nat} {x : Value} (d : AtI G.bytes pc (.astore k) 2 nx) (hr : x.isRef = true) (hl : storeLocals (gL G.ρ L) k (gv G.ρ x) = some (gL G.ρ L')) : WStep G (pc, L, x :: S, σ, u) (nx, L', S, σ, u) := by
  obtain ⟨d, rfl⟩ := d
  exact WStep.pure fun hA hx hby _ k => XS.astore hA hx rfl (hb hby d) rfl (isRef_gv.trans hr) hl k
theorem WStep.iconst {i : Int} (z : Int32) (d : AtI G.bytes pc (.iconst i) 1 nx) (hz : Int32.ofInt i = z) : WStep G (pc, L, S, σ, u) (nx, L, .int z :: S, σ, u) := by
  obtain ⟨d, rfl⟩ := d
  exact WStep.pure fun hA hx hby _ k => by subst hz; exact XS.iconst hA hx rfl (hb hby d) k
theorem WStep.bipush {i : Int} (z : Int32) (d : AtI G.bytes pc (.bipush i) 2 nx) (hz : (Int8.ofInt i).toInt32 = z) : WStep G (pc, L, S, σ, u) (nx, L, .int z :: S, σ, u) := by
  obtain ⟨d, rfl⟩ := d
  exact WStep.pure fun hA hx hby _ k => by subst hz; exact XS.bipush hA hx rfl (hb hby d) k
theorem WStep.aconstNull (d : AtI G.bytes pc .aconst_null 1 nx) : WStep G (pc, L, S, σ, u) (nx, L, .null :: S, σ, u) := by
  obtain ⟨d, rfl⟩ := d
  exact WStep.pure fun hA hx hby _ k => XS.aconstNull hA hx rfl (hb hby d) k
theorem WStep.iadd {x y : Int32} (d : AtI G.bytes pc .iadd 1 nx) : WStep G (pc, L, .int y :: .int x :: S, σ, u) (nx, L, .int (x + y) :: S, σ, u) := by
  obtain ⟨d, rfl⟩ := d
  exact WStep.pure fun hA hx hby _ k => XS.iadd hA hx rfl (hb hby d) rfl k
theorem WStep.isub {x y : Int32} (d : AtI G.bytes pc .isub 1 nx) : WStep G (pc, L, .int y :: .int x :: S, σ, u) (nx, L, .int (x - y) :: S, σ, u) := by
  obtain ⟨d, rfl⟩ := d
  exact WStep.pure fun hA hx hby _ k => XS.isub hA hx rfl (hb hby d) rfl k
theorem WStep.imul {x y : Int32} (d : AtI G.bytes pc .imul 1 nx) : WStep G (pc, L, .int y :: .int x :: S, σ, u) (nx, L, .int (x * y) :: S, σ, u) := by
  obtain ⟨d, rfl⟩ := d
  exact WStep.pure fun hA hx hby _ k => XS.imul hA hx rfl (hb hby d) rfl k
theorem WStep.iand {x y : Int32} (d : AtI G.bytes pc .iand 1 nx) : WStep G (pc, L, .int y :: .int x :: S, σ, u) (nx, L, .int (x &&& y) :: S, σ, u) := by
  obtain ⟨d, rfl⟩ := d
  exact WStep.pure fun hA hx hby _ k => XS.iand hA hx rfl (hb hby d) rfl k
theorem WStep.idiv {x y : Int32} (d : AtI G.bytes pc .idiv 1 nx) (hy : y ≠ 0) : WStep G (pc, L, .int y :: .int x :: S, σ, u) (nx, L, .int (x / y) :: S, σ, u) := by
  obtain ⟨d, rfl⟩ := d
  exact WStep.pure fun hA hx hby _ k => XS.idiv hA hx rfl (hb hby d) rfl hy k
theorem WStep.ishr {x : Int32} {y : Int32} (d : AtI G.bytes pc .ishr 1 nx) : WStep G (pc, L, .int y :: .int x :: S, σ, u) (nx, L, .int (x >>> (y &&& 31)) :: S, σ, u) := by
  obtain ⟨d, rfl⟩ := d
  exact WStep.pure fun hA hx hby _ k => XS.ishr hA hx rfl (hb hby d) rfl k
theorem WStep.i2l {x : Int32} (d : AtI G.bytes pc .i2l 1 nx) : WStep G (pc, L, .int x :: S, σ, u) (nx, L, .long (x.toInt64) :: S, σ, u) := by
  obtain ⟨d, rfl⟩ := d
  exact WStep.pure fun hA hx hby _ k => XS.i2l hA hx rfl (hb hby d) rfl k
theorem WStep.lcmp {x y : Int64} (d : AtI G.bytes pc .lcmp 1 nx) : WStep G (pc, L, .long y :: .long x :: S, σ, u) (nx, L, .int (lcmpW x y) :: S, σ, u) := by
  obtain ⟨d, rfl⟩ := d
  exact WStep.pure fun hA hx hby _ k => XS.lcmp hA hx rfl (hb hby d) rfl k
theorem WStep.dup {x : Value} (d : AtI G.bytes pc .dup 1 nx) (hc : x.category = 1) : WStep G (pc, L, x :: S, σ, u) (nx, L, x :: x :: S, σ, u) := by
  obtain ⟨d, rfl⟩ := d
  exact WStep.pure fun hA hx hby _ k => XS.dup hA hx rfl (hb hby d) rfl (cat_gv.trans hc) k
theorem WStep.dupX1 {x y : Value} (d : AtI G.bytes pc .dup_x1 1 nx) (hc : x.category = 1) (hc' : y.category = 1) : WStep G (pc, L, x :: y :: S, σ, u) (nx, L, x :: y :: x :: S, σ, u) := by
  obtain ⟨d, rfl⟩ := d
  exact WStep.pure fun hA hx hby _ k => XS.dupX1 hA hx rfl (hb hby d) rfl (cat_gv.trans hc) (cat_gv.trans hc') k
theorem WStep.goto (d : AtJ G.bytes pc .goto nx tgt) : WStep G (pc, L, S, σ, u) (tgt, L, S, σ, u) := by
  obtain ⟨o, d, rfl, h0, h1⟩ := d
  exact WStep.pure fun hA hx hby _ k => XS.goto hA hx rfl (pc0 := pc) (pc' := tgt) rfl (hb hby d) h0 h1 k
theorem WStep.icmpT {cd : ClassFile.Cond} {x y : Int32} (d : AtJ G.bytes pc (.if_icmp cd) nx tgt) (h : if_icmp.holds cd x y = true) : WStep G (pc, L, .int y :: .int x :: S, σ, u) (tgt, L, S, σ, u) := by
  obtain ⟨o, d, rfl, h0, h1⟩ := d
  exact WStep.pure fun hA hx hby _ k => XS.icmpYes hA hx rfl (pc0 := pc) (pc' := tgt) rfl (hb hby d) rfl h h0 h1 k
theorem WStep.icmpF {cd : ClassFile.Cond} {x y : Int32} (d : AtJ G.bytes pc (.if_icmp cd) nx tgt) (h : if_icmp.holds cd x y = false) : WStep G (pc, L, .int y :: .int x :: S, σ, u) (nx, L, S, σ, u) := by
  obtain ⟨o, d, rfl, h0, h1⟩ := d
  exact WStep.pure fun hA hx hby _ k => XS.icmpNo hA hx rfl (hb hby d) rfl h k
theorem WStep.ifT {cd : ClassFile.Cond} {x : Int32} (d : AtJ G.bytes pc (.ifCond cd) nx tgt) (h : if_icmp.holds cd x 0 = true) : WStep G (pc, L, .int x :: S, σ, u) (tgt, L, S, σ, u) := by
  obtain ⟨o, d, rfl, h0, h1⟩ := d
  exact WStep.pure fun hA hx hby _ k => XS.ifYes hA hx rfl (pc0 := pc) (pc' := tgt) rfl (hb hby d) rfl ((if0 _ _).trans h) h0 h1 k
theorem WStep.ifF {cd : ClassFile.Cond} {x : Int32} (d : AtJ G.bytes pc (.ifCond cd) nx tgt) (h : if_icmp.holds cd x 0 = false) : WStep G (pc, L, .int x :: S, σ, u) (nx, L, S, σ, u) := by
  obtain ⟨o, d, rfl, h0, h1⟩ := d
  exact WStep.pure fun hA hx hby _ k => XS.ifNo hA hx rfl (hb hby d) rfl ((if0 _ _).trans h) k
end Pure
section Forks
variable {G : WMC} {pc nx tgt u : Nat} {L : List Slot} {S : List Value} {σ : WHp} {Q : Option Value → WHp → Nat → Prop}
theorem WGo.lt {x y : Int32} (d : AtJ G.bytes pc (.if_icmp .lt) nx tgt) (h1 : x < y → WGo G (tgt, L, S, σ, u) Q) (h2 : ¬ x < y → WGo G (nx, L, S, σ, u) Q) : WGo G (pc, L, .int y :: .int x :: S, σ, u) Q := by
  by_cases h : x < y
  · exact (h1 h).s (WStep.icmpT d (tlt h).1)
  · exact (h2 h).s (WStep.icmpF d (flt h).1)
theorem WGo.ge {x y : Int32} (d : AtJ G.bytes pc (.if_icmp .ge) nx tgt) (h1 : ¬ x < y → WGo G (tgt, L, S, σ, u) Q) (h2 : x < y → WGo G (nx, L, S, σ, u) Q) : WGo G (pc, L, .int y :: .int x :: S, σ, u) Q := by
  by_cases h : x < y
  · exact (h2 h).s (WStep.icmpF d (tlt h).2.1)
  · exact (h1 h).s (WStep.icmpT d (flt h).2.1)
theorem WGo.ge0 {x : Int32} (d : AtJ G.bytes pc (.ifCond .ge) nx tgt) (h1 : ¬ x < 0 → WGo G (tgt, L, S, σ, u) Q) (h2 : x < 0 → WGo G (nx, L, S, σ, u) Q) : WGo G (pc, L, .int x :: S, σ, u) Q := by
  by_cases h : x < 0
  · exact (h2 h).s (WStep.ifF d (tlt h).2.1)
  · exact (h1 h).s (WStep.ifT d (flt h).2.1)
theorem WGo.geL {x y : Int64} (d : AtJ G.bytes pc (.ifCond .ge) nx tgt) (h1 : ¬ x < y → WGo G (tgt, L, S, σ, u) Q) (h2 : x < y → WGo G (nx, L, S, σ, u) Q) : WGo G (pc, L, .int (lcmpW x y) :: S, σ, u) Q := by
  exact WGo.ge0 d (fun h => h1 fun q => h ((lw_lt x y).mpr q)) (fun h => h2 ((lw_lt x y).mp h))
theorem WGo.le {x y : Int32} (d : AtJ G.bytes pc (.if_icmp .le) nx tgt) (h1 : ¬ y < x → WGo G (tgt, L, S, σ, u) Q) (h2 : y < x → WGo G (nx, L, S, σ, u) Q) : WGo G (pc, L, .int y :: .int x :: S, σ, u) Q := by
  by_cases h : y < x
  · exact (h2 h).s (WStep.icmpF d (tlt h).2.2.2)
  · exact (h1 h).s (WStep.icmpT d (flt h).2.2.2)
theorem WGo.le0 {x : Int32} (d : AtJ G.bytes pc (.ifCond .le) nx tgt) (h1 : ¬ 0 < x → WGo G (tgt, L, S, σ, u) Q) (h2 : 0 < x → WGo G (nx, L, S, σ, u) Q) : WGo G (pc, L, .int x :: S, σ, u) Q := by
  by_cases h : 0 < x
  · exact (h2 h).s (WStep.ifF d (tlt h).2.2.2)
  · exact (h1 h).s (WStep.ifT d (flt h).2.2.2)
theorem WGo.leL {x y : Int64} (d : AtJ G.bytes pc (.ifCond .le) nx tgt) (h1 : ¬ y < x → WGo G (tgt, L, S, σ, u) Q) (h2 : y < x → WGo G (nx, L, S, σ, u) Q) : WGo G (pc, L, .int (lcmpW x y) :: S, σ, u) Q := by
  exact WGo.le0 d (fun h => h1 fun q => h ((lw_gt x y).mpr q)) (fun h => h2 ((lw_gt x y).mp h))
theorem WGo.eq {x y : Int32} (d : AtJ G.bytes pc (.if_icmp .eq) nx tgt) (h1 : x = y → WGo G (tgt, L, S, σ, u) Q) (h2 : ¬ x = y → WGo G (nx, L, S, σ, u) Q) : WGo G (pc, L, .int y :: .int x :: S, σ, u) Q := by
  by_cases h : x = y
  · exact (h1 h).s (WStep.icmpT d (teq h).1)
  · exact (h2 h).s (WStep.icmpF d (feq h).1)
theorem WGo.ne {x y : Int32} (d : AtJ G.bytes pc (.if_icmp .ne) nx tgt) (h1 : ¬ x = y → WGo G (tgt, L, S, σ, u) Q) (h2 : x = y → WGo G (nx, L, S, σ, u) Q) : WGo G (pc, L, .int y :: .int x :: S, σ, u) Q := by
  by_cases h : x = y
  · exact (h2 h).s (WStep.icmpF d (teq h).2)
  · exact (h1 h).s (WStep.icmpT d (feq h).2)
theorem WGo.ne0 {x : Int32} (d : AtJ G.bytes pc (.ifCond .ne) nx tgt) (h1 : ¬ x = 0 → WGo G (tgt, L, S, σ, u) Q) (h2 : x = 0 → WGo G (nx, L, S, σ, u) Q) : WGo G (pc, L, .int x :: S, σ, u) Q := by
  by_cases h : x = 0
  · exact (h2 h).s (WStep.ifF d (teq h).2)
  · exact (h1 h).s (WStep.ifT d (feq h).2)
theorem WGo.neL {x y : Int64} (d : AtJ G.bytes pc (.ifCond .ne) nx tgt) (h1 : ¬ x = y → WGo G (tgt, L, S, σ, u) Q) (h2 : x = y → WGo G (nx, L, S, σ, u) Q) : WGo G (pc, L, .int (lcmpW x y) :: S, σ, u) Q := by
  exact WGo.ne0 d (fun h => h1 fun q => h ((lw_eq x y).mpr q)) (fun h => h2 ((lw_eq x y).mp h))
end Forks
end Jvm.Sy
namespace Jvm.Sy
open Jvm Jvm.ClassFile Sem Op Lib Jvm.Free Jvm.Stand Jvm.LawKit Jvm.RoadKit Bundle
def entL : List Value → List Slot
  | [] => []
  | v :: r => if v.category = 2 then .val v :: .second :: entL r else .val v :: entL r
def entryL (args : List Value) (maxL : Nat) : List Slot := entL args ++ List.replicate (maxL - (entL args).length) .unset
theorem fill_eq {ρ : Nat → Nat} : ∀ (args : List Value) (acc : Array Slot), (gS ρ args).foldl (fun acc v => if v.category = 2 then (acc.push (.val v)).push .second else acc.push (.val v)) acc = acc ++ ((entL args).map (gs ρ)).toArray
  | [], acc => by simp [gS, entL]
  | v :: r, acc => by
    have ih := fill_eq (ρ := ρ) r
    simp only [gS, List.map_cons, List.foldl_cons, cat_gv] at ih ⊢
    rw [ih]
    by_cases q : v.category = 2
    · simp [entL, q, gs]
    · simp [entL, q, gs]
theorem entry_eq {ρ : Nat → Nat} (args : List Value) (maxL : Nat) : argsToLocals (gS ρ args).toArray maxL = gL ρ (entryL args maxL) := by
  have h := fill_eq (ρ := ρ) args #[]
  simp only [argsToLocals, List.foldl_toArray', List.size_toArray] at *
  rw [h]
  simp [gL, entryL, gs]
theorem entryF_eq {ρ : Nat → Nat} (m : MethodId) (args : List Value) (maxL : Nat) : entryFrame m (gS ρ args).toArray maxL = mkF m 0 (gL ρ (entryL args maxL)) [] := by
  show ({ method := m, pc := 0, locals := argsToLocals _ maxL, stack := [], locked := none } : JFrame) = _
  rw [entry_eq]
section Ret
variable {G : WMC} {pc nx u : Nat} {L : List Slot} {S : List Value} {σ : WHp} {Q : Option Value → WHp → Nat → Prop}
theorem WRun.of {v : Option Value} {A : WCfg} (h0 : G.ret = none → v = none)
    (h : ∀ {p : Program} {l : Launch} {e : Env} {R : Room} {s : State} {m : MethodId} {args : Array Value} {below : List Frame} {meth : Method} {c : Code} {T : State} {locs : List Loc} {ce sl : Nat}, WCtx G p R s m meth c → Stand p l e R s m args below meth c T locs ce sl →
      ∀ fs, (∀ (f : JFrame) (acts : List Action), f.method = m → f.locked = none → f.entered = [] → (doReturn e (T.setTop f) acts (v.map (gv G.ρ))).1 = T.setFrames fs) → Steps p.tables e below (T.setTop (frm G m A)) (T.setFrames fs)) :
    WRun G A v A.2.2.2.1 A.2.2.2.2 := by
  refine ⟨Nat.le_refl _, Nat.le_refl _, h0, fun p l e R s m args below meth c hC hc hs T hT => ⟨T, hT, fun fs hr => ?_⟩⟩
  obtain ⟨locs, ce, sl, h1, h2, X, D, N⟩ := hT
  exact h hC X fs hr
theorem WGo.ireturn (t : FieldType) {z : Int32} (d : AtI G.bytes pc .ireturn 1 nx) (hret : G.ret = some t) (ht : t = .int ∨ t = .boolean ∨ t = .byte ∨ t = .char ∨ t = .short) (q : Q (some (narrow t (.int z))) σ u) : WGo G (pc, L, .int z :: S, σ, u) Q := by
  refine ⟨_, _, _, q, WRun.of (A := (pc, L, .int z :: S, σ, u)) (fun h => by rw [hret] at h; cases h) fun hC X fs hr => ?_⟩
  have hm := hC.2.2.2.2.2.1.trans hret
  rcases ht with rfl | ht
  · exact retOut X hC.1 hm rfl (Or.inl ⟨rfl, Or.inl rfl, _, rfl⟩) (hb hC.2.1 d.1) hr
  · have hn : narrow t (.int z) = .int (nar t z) := by rcases ht with rfl | rfl | rfl | rfl <;> rfl
    rw [hn] at hr
    exact retN X hC.1 hm ht (hb hC.2.1 d.1) hr
theorem WGo.areturn (t : FieldType) {z : Value} (d : AtI G.bytes pc .areturn 1 nx) (hret : G.ret = some t) (ht : t.isReference = true) (hz : z.isRef = true) (q : Q (some z) σ u) : WGo G (pc, L, z :: S, σ, u) Q := by
  refine ⟨_, _, _, q, WRun.of (A := (pc, L, z :: S, σ, u)) (fun h => by rw [hret] at h; cases h) fun hC X fs hr => ?_⟩
  refine retOut X hC.1 (hC.2.2.2.2.2.1.trans hret) ?_ (Or.inr (Or.inr (Or.inr (Or.inr ⟨rfl, ht, isRef_gv.trans hz⟩)))) (hb hC.2.1 d.1) hr
  cases t <;> first | rfl | cases ht
theorem WGo.vreturn (d : AtI G.bytes pc .return_ 1 nx) (hret : G.ret = none) (q : Q none σ u) : WGo G (pc, L, [], σ, u) Q := by
  refine ⟨_, _, _, q, WRun.of (A := (pc, L, [], σ, u)) (fun _ => rfl) fun hC X fs hr => ?_⟩
  exact X.returnOut hC.1 (hC.2.2.2.2.2.1.trans hret) (hb hC.2.1 d.1) hr
end Ret
theorem met_of {l : Launch} {G : WMC} {y : MethodName} {argsL : List Value} {σ σ' : WHp} {u u' : Nat} {v : Option Value} {ws : List Jvm.Cond} {h : Heap}
    (hy1 : G.own = y.cls) (hy2 : G.nm = y.name) (hj : G.j0 = σ.length) (hu : G.u0 = u) (hpl : plainFor y = true) (hρ : ∀ k, k < 1000 → G.ρ k = G.n0 + k) (hinj : ∀ i j, G.ρ i = G.ρ j → i = j)
    (H : WRun G (0, entryL argsL G.ml, [], σ, u) v σ' u') (D : WDen G.Z G.ρ G.n0 σ h) (RM : Room) (hR1 : G.fr ≤ RM.frames) (hR2 : σ'.length - σ.length ≤ RM.cells) (hR3 : u' - u ≤ RM.slots) (hR4 : G.lo ≤ RM.locals) :
    MetFree l y (head1 (Jvm.Cond.code y G.bytes G.ml G.ret :: ws) RM) (fun a U => a = (gS G.ρ argsL).toArray ∧ G.Z.Warmed39 U.vm ∧ U.heap = h) (fun _ _ _ _ _ => True)
      (fun _ U o U' => ∃ w L, o = .returned w ∧ (w = v.map (gv G.ρ) ∧ Fr G.n0 L ∧ WDen G.Z G.ρ G.n0 σ' U'.heap) ∧ FrameEnd U o U' L (σ'.length - σ.length) (u' - u)) := by
  refine MetFree.of_bodySF hpl hisR ?_
  intro p e s m args below meth c s₁ Bd hml0 hP hK
  obtain ⟨rfl, hZ, hh⟩ := hP
  have X0 : Stand p l e RM s m (gS G.ρ argsL).toArray below meth c s₁ [] 0 0 := Stand.of_body Bd
  have e0 : s₁.heap = h := by rw [← hh, Bd.state]; rfl
  obtain ⟨a1, a2, a0, a3⟩ := H
  have a1' : σ.length ≤ σ'.length := a1
  have a2' : u ≤ u' := a2
  obtain ⟨T', ⟨locs, ce, sl, q1, q2, X, D', N⟩, st⟩ := a3 p l e RM s m _ below meth c ⟨Bd.exec, Bd.bytes, hZ, by rw [hy1]; exact findClass_of_methodNamed Bd.named, (name_of_methodNamed Bd.named Bd.method).1.trans hy2.symm, Bd.returns, hml0, by rw [hh, hj]; exact D.1, hρ, hinj, hR1, hR4⟩ (by omega) (by omega) s₁ ⟨[], 0, 0, hj.symm, hu.symm, X0, by rw [e0]; exact D, Fr.nil _⟩
  obtain ⟨fs, hr, hrun, hended, hW, hsame⟩ := X.leave (v := v.map (gv G.ρ)) (fun hn => by rw [a0 (Bd.returns ▸ hn)]; rfl)
  refine ⟨_, _, ?_, hrun, hended, _, _, rfl, ⟨rfl, N, D'⟩, ⟨_, rfl⟩, hW, hsame.mono (by omega) (by omega)⟩
  rw [entryF_eq]
  exact st fs hr
def WCallee (Z : State) (a0 : Array Value) (y : MethodName) (Gc : WMC) (n : Nat) : Prop :=
  plainFor y = true ∧ (y.cls ≠ "java/lang/invoke/MethodHandle" ∧ y.cls ≠ "java/lang/invoke/VarHandle") ∧ Gc.own = y.cls ∧ Gc.nm = y.name ∧ Gc.Z = Z ∧ (Jvm.Cond.initialized y.cls).before a0 Z = true ∧ (Jvm.Cond.code y Gc.bytes Gc.ml Gc.ret).before a0 Z = true ∧ (∀ sig, parseMethodDescriptor y.desc = some sig → n = sig.parameters.length)
theorem backFor {p : Program} {l : Launch} {e : Env} {R : Room} {s : State} {args : Array Value} {below : List Frame} {Gc : WMC} {y : MethodName} {a0 : Array Value} {argsL : List Value} {σ σ' : WHp} {u u' W n : Nat} {v : Option Value} {h : Heap}
    (C : WCallee Gc.Z a0 y Gc n) (hj : Gc.j0 = σ.length) (hu : Gc.u0 = u) (hρ : ∀ k, k < 1000 → Gc.ρ k = Gc.n0 + k) (hinj : ∀ i j, Gc.ρ i = Gc.ρ j → i = j)
    (H : WRun Gc (0, entryL argsL Gc.ml, [], σ, u) v σ' u') (D : WDen Gc.Z Gc.ρ Gc.n0 σ h) (hZ : Gc.Z.Warmed39 s.vm) (hf : Gc.fr + 1 ≤ R.frames) (hl : W + (Gc.ml + 11) + Gc.lo ≤ R.locals) :
    Back l R p e below s args y 3 W (fun A a => a = (gS Gc.ρ argsL).toArray ∧ A.U.heap = h ∧ A.cells + (σ'.length - σ.length) ≤ R.cells ∧ A.slots + (u' - u) ≤ R.slots)
      (fun A _ w B => ∃ L, (w = v.map (gv Gc.ρ) ∧ Fr Gc.n0 L ∧ WDen Gc.Z Gc.ρ Gc.n0 σ' B.U.heap) ∧ B.locs = A.locs ++ L ∧ B.cells = A.cells + (σ'.length - σ.length) ∧ B.slots = A.slots + (u' - u)) :=
  backOf (rm := { frames := Gc.fr, cells := σ'.length - σ.length, slots := u' - u, locals := Gc.lo }) (Q := fun w h' L => w = v.map (gv Gc.ρ) ∧ Fr Gc.n0 L ∧ WDen Gc.Z Gc.ρ Gc.n0 σ' h') (met_of C.2.2.1 C.2.2.2.1 hj hu C.1 hρ hinj H D _ (Nat.le_refl _) (Nat.le_refl _) (Nat.le_refl _) (Nat.le_refl _)) hZ C.2.2.2.2.2.2.1 C.2.2.2.2.2.1 hf hl
theorem toL {ρ : Nat → Nat} (v : Option Value) (S : List Value) : gS ρ (v.toList ++ S) = (v.map (gv ρ)).toList ++ gS ρ S := by cases v <;> rfl
section Calls
variable {G Gc : WMC} {pc nx u idx n : Nat} {L : List Slot} {S Sf argsL : List Value} {σ : WHp} {Q Qc : Option Value → WHp → Nat → Prop} {y : MethodName} {a0 : Array Value}
theorem WGo.callS (d : AtI G.bytes pc (.invokestatic idx) 3 nx) (C : WCallee G.Z a0 y Gc n) (wl : (Jvm.Cond.methodLink G.own idx y).before a0 G.Z = true) (ws : (Jvm.Cond.static y).before a0 G.Z = true)
    (H : WGo Gc (0, entryL argsL Gc.ml, [], σ, u) Qc) (hG : Gc.1 = G.1) (hj : Gc.j0 = σ.length) (hu : Gc.u0 = u) (hn : argsL.length = n) (hS : Sf = argsL.reverse ++ S) (hL : L.length = G.ml) (hf : Gc.fr + 1 ≤ G.fr) (hl : (S.map Value.category).sum + (Gc.ml + 11) + Gc.lo ≤ G.lo)
    (K : ∀ v σ' u', Qc v σ' u' → WGo G (nx, L, v.toList ++ S, σ', u') Q) : WGo G (pc, L, Sf, σ, u) Q := by
  obtain ⟨v, σ', u', q, r⟩ := H
  refine (K v σ' u' q).s ?_
  have m1 : σ.length ≤ σ'.length := r.1
  have m2 : u ≤ u' := r.2.1
  refine ⟨m1, m2, fun p l e R s m args below meth c hC hc hs T hT => ?_⟩
  obtain ⟨hx, hby, hZ, hown, hnm, hret, hml, hs0, hρ, hinj, hfr, hlo⟩ := hC
  obtain ⟨locs, ce, sl, h1, h2, X, D, N⟩ := hT
  have eZ : Gc.Z = G.Z := congrArg (·.1) hG
  have eρ : Gc.ρ = G.ρ := congrArg (·.2.1) hG
  have en : Gc.n0 = G.n0 := congrArg (·.2.2) hG
  have h1' : σ.length = G.j0 + ce := h1
  have h2' : u = G.u0 + sl := h2
  have hc' : σ'.length ≤ G.j0 + R.cells := hc
  have hs' : u' ≤ G.u0 + R.slots := hs
  have Bk := backFor (p := p) (l := l) (e := e) (R := R) (s := s) (args := args) (below := below) (W := (S.map Value.category).sum) (eZ ▸ C) hj hu (by rw [eρ, en]; exact hρ) (by rw [eρ]; exact hinj) r (by rw [eZ, eρ, en]; exact D) (by rw [eZ]; exact hZ) (Nat.le_trans hf hfr) (Nat.le_trans hl hlo)
  obtain ⟨C1, C2, C3, C4, C5, C6, C7, C8⟩ := C
  rw [eρ, en, eZ] at Bk
  obtain ⟨w, vm1, ⟨T', L', k', n'⟩, -, X', ⟨Lc, ⟨hw', N', D'⟩, l', y', z'⟩, st⟩ := Jvm.LawKit.callS X hx (y := y) hown (mvT hZ wl) (mvT hZ ws) (mvT hZ C6) (mvT hZ C7) C2 Bk (g := frm G m (pc, L, Sf, σ, u)) rfl (by show (gL _ L).size = _; rw [gL_size, hL, hml]) (argsL := gS G.ρ argsL) (rest := gS G.ρ S)
    (fun sig hsig => by rw [← C8 sig hsig, ← hn]; simp [gS]) (by show gS _ Sf = _; rw [hS]; simp [gS]) (by rw [sum_gS]; show 2 * 0 + _ ≤ _; omega) (hb hby d.1) (fun _ _ => ⟨rfl, rfl, by show ce + _ ≤ _; omega, by show sl + _ ≤ _; omega⟩)
  dsimp only [Pt.U, Pt.locs, Pt.cells, Pt.slots] at X' l' y' z' st D'
  subst l' y' z' hw'
  refine ⟨T', ⟨_, _, _, ?_, ?_, X', D', N.app N'⟩, fun t k => st t ?_⟩
  · show σ'.length = _; omega
  · show u' = _; omega
  · rw [← toL]
    have := d.2
    subst this
    exact k
theorem WGo.callI {k : Nat} (d : AtI G.bytes pc (.invokespecial idx) 3 nx) (C : WCallee G.Z a0 y Gc n) (hi : y.name = "<init>") (hr : Gc.ret = none) (wl : (Jvm.Cond.methodLink G.own idx y).before a0 G.Z = true) (ws : (Jvm.Cond.instanceMethod y).before a0 G.Z = true) (hk : k < 1000)
    (H : WGo Gc (0, entryL (.ref k :: argsL) Gc.ml, [], σ, u) Qc) (hG : Gc.1 = G.1) (hj : Gc.j0 = σ.length) (hu : Gc.u0 = u) (hn : argsL.length = n) (hS : Sf = argsL.reverse ++ .ref k :: S) (hL : L.length = G.ml) (hf : Gc.fr + 1 ≤ G.fr) (hl : (S.map Value.category).sum + (Gc.ml + 11) + Gc.lo ≤ G.lo)
    (K : ∀ v σ' u', Qc v σ' u' → WGo G (nx, L, v.toList ++ S, σ', u') Q) : WGo G (pc, L, Sf, σ, u) Q := by
  obtain ⟨v, σ', u', q, r⟩ := H
  refine (K v σ' u' q).s ?_
  have m1 : σ.length ≤ σ'.length := r.1
  have m2 : u ≤ u' := r.2.1
  refine ⟨m1, m2, fun p l e R s m args below meth c hC hc hs T hT => ?_⟩
  obtain ⟨hx, hby, hZ, hown, hnm, hret, hml, hs0, hρ, hinj, hfr, hlo⟩ := hC
  obtain ⟨locs, ce, sl, h1, h2, X, D, N⟩ := hT
  have eZ : Gc.Z = G.Z := congrArg (·.1) hG
  have eρ : Gc.ρ = G.ρ := congrArg (·.2.1) hG
  have en : Gc.n0 = G.n0 := congrArg (·.2.2) hG
  have h1' : σ.length = G.j0 + ce := h1
  have h2' : u = G.u0 + sl := h2
  have hc' : σ'.length ≤ G.j0 + R.cells := hc
  have hs' : u' ≤ G.u0 + R.slots := hs
  have Bk := backFor (p := p) (l := l) (e := e) (R := R) (s := s) (args := args) (below := below) (W := (S.map Value.category).sum) (eZ ▸ C) hj hu (by rw [eρ, en]; exact hρ) (by rw [eρ]; exact hinj) r (by rw [eZ, eρ, en]; exact D) (by rw [eZ]; exact hZ) (Nat.le_trans hf hfr) (Nat.le_trans hl hlo)
  obtain ⟨C1, C2, C3, C4, C5, C6, C7, C8⟩ := C
  rw [hr] at C7
  rw [eρ, en, eZ] at Bk
  obtain ⟨w, vm1, ⟨T', L', k', n'⟩, -, X', ⟨Lc, ⟨hw', N', D'⟩, l', y', z'⟩, st⟩ := X.specialBack hx (y := y) hi hown (mvT hZ wl) (mvT hZ ws) (mvT hZ C7) C2 Bk (g := frm G m (pc, L, Sf, σ, u)) rfl (by show (gL _ L).size = _; rw [gL_size, hL, hml]) (Steps.refl _) (a := G.ρ k) (argsL := gS G.ρ argsL) (rest := gS G.ρ S)
    (fun sig hsig => by rw [← C8 sig hsig, ← hn]; simp [gS]) (by show gS _ Sf = _; rw [hS]; simp [gS, gv]) (by rw [sum_gS]; show 2 * 0 + _ ≤ _; omega) (hb hby d.1) (fun _ _ => ⟨rfl, rfl, by show ce + _ ≤ _; omega, by show sl + _ ≤ _; omega⟩)
  dsimp only [Pt.U, Pt.locs, Pt.cells, Pt.slots] at X' l' y' z' st D'
  subst l' y' z' hw'
  refine ⟨T', ⟨_, _, _, ?_, ?_, X', D', N.app N'⟩, fun t k => st.trans ?_⟩
  · show σ'.length = _; omega
  · show u' = _; omega
  · rw [← toL]
    have := d.2
    subst this
    exact k
theorem WGo.callV {k : Nat} {Cn : String} {fs : List (WKey × Value)} {z : MethodName} (d : AtI G.bytes pc (.invokevirtual idx) 3 nx) (C : WCallee G.Z a0 y Gc n) (hz : z.desc = y.desc ∧ (z.cls ≠ "java/lang/invoke/MethodHandle" ∧ z.cls ≠ "java/lang/invoke/VarHandle")) (wl : (Jvm.Cond.methodLink G.own idx z).before a0 G.Z = true) (wd : (Jvm.Cond.declares z).before a0 G.Z = true) (hnf : ∀ s, G.Z.Warmed39 s.vm → NotFace s z) (wsel : (Jvm.Cond.selects Cn z y).before a0 G.Z = true) (ws : (Jvm.Cond.instanceMethod y).before a0 G.Z = true) (hk : σ[k]? = some (.inr (Cn, fs)))
    (H : WGo Gc (0, entryL (.ref k :: argsL) Gc.ml, [], σ, u) Qc) (hG : Gc.1 = G.1) (hj : Gc.j0 = σ.length) (hu : Gc.u0 = u) (hn : argsL.length = n) (hS : Sf = argsL.reverse ++ .ref k :: S) (hL : L.length = G.ml) (hf : Gc.fr + 1 ≤ G.fr) (hl : (S.map Value.category).sum + (Gc.ml + 11) + Gc.lo ≤ G.lo)
    (K : ∀ v σ' u', Qc v σ' u' → WGo G (nx, L, v.toList ++ S, σ', u') Q) : WGo G (pc, L, Sf, σ, u) Q := by
  obtain ⟨v, σ', u', q, r⟩ := H
  refine (K v σ' u' q).s ?_
  have m1 : σ.length ≤ σ'.length := r.1
  have m2 : u ≤ u' := r.2.1
  refine ⟨m1, m2, fun p l e R s m args below meth c hC hc hs T hT => ?_⟩
  obtain ⟨hx, hby, hZ, hown, hnm, hret, hml, hs0, hρ, hinj, hfr, hlo⟩ := hC
  obtain ⟨locs, ce, sl, h1, h2, X, D, N⟩ := hT
  have eZ : Gc.Z = G.Z := congrArg (·.1) hG
  have eρ : Gc.ρ = G.ρ := congrArg (·.2.1) hG
  have en : Gc.n0 = G.n0 := congrArg (·.2.2) hG
  have h1' : σ.length = G.j0 + ce := h1
  have h2' : u = G.u0 + sl := h2
  have hc' : σ'.length ≤ G.j0 + R.cells := hc
  have hs' : u' ≤ G.u0 + R.slots := hs
  have Bk := backFor (p := p) (l := l) (e := e) (R := R) (s := s) (args := args) (below := below) (W := (S.map Value.category).sum) (eZ ▸ C) hj hu (by rw [eρ, en]; exact hρ) (by rw [eρ]; exact hinj) r (by rw [eZ, eρ, en]; exact D) (by rw [eZ]; exact hZ) (Nat.le_trans hf hfr) (Nat.le_trans hl hlo)
  obtain ⟨C1, C2, C3, C4, C5, C6, C7, C8⟩ := C
  rw [eρ, en, eZ] at Bk
  have hE : Exa G.Z T.heap (G.n0 + k) Cn := (D.2.2 k _ hk).1
  rw [← hρ k (D.lt hk)] at hE
  obtain ⟨cq, kq, qa, qb, qc⟩ := isOf hZ rfl hE
  obtain ⟨w, vm1, ⟨T', L', k', n'⟩, -, X', ⟨Lc, ⟨hw', N', D'⟩, l', y', z'⟩, st⟩ := X.virtualBack hx (y := z) (z := y) hown (mvT hZ wl) (mvT hZ wd) (hnf s hZ) (mvT hZ wsel) (mvT hZ ws) hz.2 Bk qa qc (g := frm G m (pc, L, Sf, σ, u)) rfl (by show (gL _ L).size = _; rw [gL_size, hL, hml]) (Steps.refl _) (argsL := gS G.ρ argsL) (rest := gS G.ρ S)
    (fun sig hsig => by rw [hz.1] at hsig; rw [← C8 sig hsig, ← hn]; simp [gS]) (by show gS _ Sf = _; rw [hS]; simp [gS, gv]) (by rw [sum_gS]; show 2 * 0 + _ ≤ _; omega) (hb hby d.1) (fun _ _ => ⟨rfl, rfl, by show ce + _ ≤ _; omega, by show sl + _ ≤ _; omega⟩)
  dsimp only [Pt.U, Pt.locs, Pt.cells, Pt.slots] at X' l' y' z' st D'
  subst l' y' z' hw'
  refine ⟨T', ⟨_, _, _, ?_, ?_, X', D', N.app N'⟩, fun t k => st.trans ?_⟩
  · show σ'.length = _; omega
  · show u' = _; omega
  · rw [← toL]
    have := d.2
    subst this
    exact k
end Calls
end Jvm.Sy
namespace Jvm.Sy
open Jvm Jvm.ClassFile Sem Op Lib Jvm.Free Jvm.Stand Jvm.LawKit Jvm.RoadKit Bundle
def LaidAll (Z : State) (a0 : Array Value) (C : String) : List (WKey × Value) → Prop
  | [] => True
  | f :: r => (Laid Z a0 C f.1.1 f.1.2.1 f.1.2.2 ∧ ∃ ty, parseFieldDescriptor f.1.2.2 = some ty ∧ f.2 = defaultValue ty) ∧ LaidAll Z a0 C r
theorem LaidAll.at {Z : State} {a0 : Array Value} {C : String} : ∀ {fs : List (WKey × Value)}, LaidAll Z a0 C fs → ∀ {i : Nat} {f : WKey × Value}, fs[i]? = some f → Laid Z a0 C f.1.1 f.1.2.1 f.1.2.2 ∧ ∃ ty, parseFieldDescriptor f.1.2.2 = some ty ∧ f.2 = defaultValue ty
  | [], _, i, f, h => by simp at h
  | g :: r, H, 0, f, h => by simp at h; subst h; exact H.1
  | g :: r, H, i + 1, f, h => LaidAll.at H.2 (i := i) (by simpa using h)
section HeapOps
variable {G : WMC} {pc nx tgt u idx k i n : Nat} {L : List Slot} {S : List Value} {σ : WHp} {a0 : Array Value} {v w : Value} {j : Int32} {vs : List Value} {ty : FieldType} {fs : List (WKey × Value)} {C O nm dd K : String}
theorem WStep.initO (d : AtI G.bytes pc (.invokespecial idx) 3 nx) (w1 : (Jvm.Cond.methodLink G.own idx Lib.objectInit).before a0 G.Z = true) (w2 : (Jvm.Cond.instanceMethod Lib.objectInit).before a0 G.Z = true) (w3 : (Jvm.Cond.code Lib.objectInit ⟨#[0xb1]⟩ 1 none).before a0 G.Z = true)
    (hL : L.length = G.ml) (hf : 1 ≤ G.fr) (hl : (S.map Value.category).sum + 12 ≤ G.lo) : WStep G (pc, L, .ref k :: S, σ, u) (nx, L, S, σ, u) := by
  refine ⟨Nat.le_refl _, Nat.le_refl _, fun p l e R s m args below meth c hC hc hs T hT => ?_⟩
  obtain ⟨hx, hby, hZ, hown, hnm, hret, hml, hs0, hρ, hinj, hfr, hlo⟩ := hC
  obtain ⟨locs, ce, sl, h1, h2, X, D, N⟩ := hT
  obtain ⟨d, rfl⟩ := d
  obtain ⟨T', X', e', st⟩ := RoadKit.initO X hx hZ hown w1 w2 w3 rfl (g := frm G m (pc, L, .ref k :: S, σ, u)) rfl (by show (gL _ L).size = _; rw [gL_size, hL, hml]) rfl (hb hby d) (Nat.le_trans hf hfr) (W := (S.map Value.category).sum) (by have := sum_gS (ρ := G.ρ) S; unfold gS at this; rw [this]; show 2 * 0 + _ ≤ _; omega) (Nat.le_trans hl hlo)
  exact ⟨T', ⟨locs, ce, sl, h1, h2, X', by rw [e']; exact D, N⟩, st⟩
theorem WStep.getF (i : Nat) (d : AtI G.bytes pc (.getfield idx) 3 nx) (wd : (Jvm.Cond.fieldLink G.own idx O nm dd).before a0 G.Z = true) (hk : σ[k]? = some (.inr (C, fs))) (hi : fs[i]? = some ((O, nm, dd), v)) : WStep G (pc, L, .ref k :: S, σ, u) (nx, L, v :: S, σ, u) := by
  refine ⟨Nat.le_refl _, Nat.le_refl _, fun p l e R s m args below meth c hC hc hs T hT => ?_⟩
  obtain ⟨hx, hby, hZ, hown, hnm, hret, hml, hs0, hρ, hinj, hfr, hlo⟩ := hC
  obtain ⟨locs, ce, sl, h1, h2, X, D, N⟩ := hT
  obtain ⟨d, rfl⟩ := d
  have hko : ObjOk G.Z G.ρ T.heap (G.n0 + k) C fs := D.2.2 k _ hk
  have F := hko.2.1 i _ _ _ _ hi
  rw [← hρ k (D.lt hk)] at F
  obtain ⟨T', X', e', st⟩ := RoadKit.getF X hx hZ hown (host := "") (Or.inl wd) Via.refl rfl F (g := frm G m (pc, L, .ref k :: S, σ, u)) rfl rfl (hb hby d)
  exact ⟨T', ⟨locs, ce, sl, h1, h2, X', by rw [e']; exact D, N⟩, st⟩
theorem WStep.putF (i : Nat) (v' : Value) (d : AtI G.bytes pc (.putfield idx) 3 nx) (wd : (Jvm.Cond.fieldLink G.own idx O nm dd).before a0 G.Z = true) (hk : σ[k]? = some (.inr (C, fs))) (hi : fs[i]? = some ((O, nm, dd), w))
    (hlay : (Jvm.Cond.lays C O nm dd).before a0 G.Z = true ∨ ((Jvm.Cond.laysFinal C O nm dd).before a0 G.Z = true ∧ G.own = O ∧ G.nm = "<init>")) (wi : (Jvm.Cond.instantiable C n).before a0 G.Z = true) (hty : parseFieldDescriptor dd = some ty) (hn : narrow ty v = v') (hf : fits ty v' = true) :
    WStep G (pc, L, v :: .ref k :: S, σ, u) (nx, L, S, σ.set k (.inr (C, fs.set i ((O, nm, dd), v'))), u) := by
  refine ⟨by simp, Nat.le_refl _, fun p l e R s m args below meth c hC hc hs T hT => ?_⟩
  obtain ⟨hx, hby, hZ, hown, hnm, hret, hml, hs0, hρ, hinj, hfr, hlo⟩ := hC
  obtain ⟨locs, ce, sl, h1, h2, X, D, N⟩ := hT
  obtain ⟨d, rfl⟩ := d
  have hko : ObjOk G.Z G.ρ T.heap (G.n0 + k) C fs := D.2.2 k _ hk
  obtain ⟨E, Fs, hNe⟩ := hko
  have F := Fs i _ _ _ _ hi
  have hρk := hρ k (D.lt hk)
  obtain ⟨T', h', X', e', W, st⟩ := putFN X hx hZ hown (v := gv G.ρ v) (v' := gv G.ρ v') wd Via.refl rfl F E (hlay.imp id fun q => ⟨q.1, q.2.1, hnm.trans q.2.2⟩) wi hty (by rw [narrow_gv, hn]) (by rw [fits_gv, hf]) (g := frm G m (pc, L, v :: .ref k :: S, σ, u)) rfl (by show gv _ v :: Value.ref (G.ρ k) :: _ = _; rw [hρk]) (hb hby d)
  subst e'
  refine ⟨T', ⟨_, ce, sl, by simpa using h1, h2, X', D.put W ?_, N.app fun y hy => by cases List.mem_singleton.mp hy; exact Nat.le_add_right _ _⟩, st⟩
  have hlt := (List.getElem?_eq_some_iff.mp hi).1
  refine ⟨E.wr W, fun i' O' n' d' y hy => ?_, fun i1 i2 k1 k2 v1 v2 ne q1 q2 => ?_⟩
  · by_cases q : i' = i
    · subst q
      rw [List.getElem?_set_self hlt] at hy
      cases hy
      exact F.same W
    · rw [List.getElem?_set_ne (Ne.symm q)] at hy
      have hne : RoadKit.slotOf G.Z O' n' d' ≠ RoadKit.slotOf G.Z O nm dd := hNe i' i (O', n', d') (O, nm, dd) y w q hy hi
      exact (Fs i' O' n' d' y hy).other W (Or.inr hne)
  · have key : ∀ {i' : Nat} {k' : WKey} {v' : Value}, (fs.set i ((O, nm, dd), v'))[i']? = some (k', v1) → ∃ v'', fs[i']? = some (k', v'') := by
      intro i' k' v' hh
      by_cases q : i' = i
      · subst q
        rw [List.getElem?_set_self hlt] at hh
        cases hh
        exact ⟨_, hi⟩
      · rw [List.getElem?_set_ne (fun z => q z.symm)] at hh
        exact ⟨_, hh⟩
    have key2 : ∀ {i' : Nat} {k' : WKey} {v' : Value}, (fs.set i ((O, nm, dd), v'))[i']? = some (k', v2) → ∃ v'', fs[i']? = some (k', v'') := by
      intro i' k' v' hh
      by_cases q : i' = i
      · subst q
        rw [List.getElem?_set_self hlt] at hh
        cases hh
        exact ⟨_, hi⟩
      · rw [List.getElem?_set_ne (fun z => q z.symm)] at hh
        exact ⟨_, hh⟩
    obtain ⟨_, r1⟩ := key q1
    obtain ⟨_, r2⟩ := key2 q2
    exact hNe i1 i2 _ _ _ _ ne r1 r2
theorem WStep.newO (fs : List (WKey × Value)) (d : AtI G.bytes pc (.new idx) 3 nx) (w1 : (Jvm.Cond.classLink G.own idx C).before a0 G.Z = true) (w2 : (Jvm.Cond.instantiable C n).before a0 G.Z = true) (w3 : (Jvm.Cond.initialized C).before a0 G.Z = true)
    (hfs : LaidAll G.Z a0 C fs) (hnd : (fs.map fun f => f.1.2.1).Nodup) (hlen : σ.length = k) (hk : k < 1000) : WStep G (pc, L, S, σ, u) (nx, L, .ref k :: S, σ ++ [.inr (C, fs)], u + n) := by
  refine ⟨by simp, Nat.le_add_right _ _, fun p l e R s m args below meth c hC hc hs T hT => ?_⟩
  obtain ⟨hx, hby, hZ, hown, hnm, hret, hml, hs0, hρ, hinj, hfr, hlo⟩ := hC
  obtain ⟨locs, ce, sl, h1, h2, X, D, N⟩ := hT
  obtain ⟨d, rfl⟩ := d
  subst hlen
  have h1' : σ.length = G.j0 + ce := h1
  have h2' : u = G.u0 + sl := h2
  have hc' : σ.length + 1 ≤ G.j0 + R.cells := by simpa using hc
  have hs' : u + n ≤ G.u0 + R.slots := hs
  have eS : T.heap.size = G.n0 + σ.length := D.1
  obtain ⟨T', h', X', e', E, A, Dv, -, st⟩ := RoadKit.newO X hx hZ hown w1 w2 w3 rfl (g := frm G m (pc, L, S, σ, u)) rfl (hb hby d) (by omega) (by omega)
  subst e'
  have hsz : T'.heap.size = T.heap.size + 1 := by
    have a1 := X'.heapSize
    have a2 : T.heap.size < T'.heap.size := A.lt
    have a3 : s.heap.size = G.n0 + G.j0 := hs0
    omega
  rw [eS] at A Dv
  have eρ : G.ρ σ.length = T.heap.size := by rw [hρ _ hk, eS]
  refine ⟨T', ⟨locs, ce + 1, sl + n, by simp; omega, by show u + n = _; omega, X', D.push E hsz hk ⟨A, fun i O' n' d' y hy => ?_, fun i1 i2 k1 k2 v1 v2 ne q1 q2 => ?_⟩, N⟩, fun t kt => st t ?_⟩
  · obtain ⟨LL, ty, p1, p2⟩ := hfs.at hy
    have := Dv LL p1
    dsimp only at p2
    rw [p2, dv_gv]
    exact this
  · obtain ⟨LL, ty, p1, p2⟩ := hfs.at q1
    obtain ⟨LL', ty', p1', p2'⟩ := hfs.at q2
    refine slot_ne LL LL' (fun e => ne ?_) p1 p1'
    have b1 := (List.getElem?_eq_some_iff.mp q1).1
    have b2 := (List.getElem?_eq_some_iff.mp q2).1
    refine (List.getElem?_inj (l := fs.map fun f => f.1.2.1) (i := i1) (j := i2) (by simpa using b1) hnd).mp ?_
    rw [List.getElem?_map, List.getElem?_map, q1, q2]
    exact congrArg some e
  · rw [← eρ]; exact kt
theorem WStep.newR (n : Int32) (m : Nat) (d : AtI G.bytes pc (.anewarray idx) 3 nx) (w1 : (Jvm.Cond.classLink G.own idx C).before a0 G.Z = true) (w2 : (Jvm.Cond.arrayOver (.object C)).before a0 G.Z = true) (hn : ¬ n < 0) (hm : n.toNatClampNeg = m) (hb8 : m * 8 ≤ 536870912) (hlen : σ.length = k) (hk : k < 1000) :
    WStep G (pc, L, .int n :: S, σ, u) (nx, L, .ref k :: S, σ ++ [.inl (.object C, List.replicate m .null)], u + m) := by
  refine ⟨by simp, Nat.le_add_right _ _, fun p l e R s me args below meth c hC hc hs T hT => ?_⟩
  obtain ⟨hx, hby, hZ, hown, hnm, hret, hml, hs0, hρ, hinj, hfr, hlo⟩ := hC
  obtain ⟨locs, ce, sl, h1, h2, X, D, N⟩ := hT
  obtain ⟨d, rfl⟩ := d
  subst hlen
  have h1' : σ.length = G.j0 + ce := h1
  have h2' : u = G.u0 + sl := h2
  have hc' : σ.length + 1 ≤ G.j0 + R.cells := by simpa using hc
  have hs' : u + m ≤ G.u0 + R.slots := hs
  have eS : T.heap.size = G.n0 + σ.length := D.1
  obtain ⟨T', h', cA, X', e', E, A, hO, st⟩ := RoadKit.newR X hx hZ hown w1 w2 rfl (g := frm G me (pc, L, .int n :: S, σ, u)) rfl (hb hby d) rfl hn (cap := m) (by omega) hb8 (by omega) (by omega)
  subst e'
  have hsz : T'.heap.size = T.heap.size + 1 := by
    have a1 := X'.heapSize
    have a2 : T.heap.size < T'.heap.size := A.lt
    have a3 : s.heap.size = G.n0 + G.j0 := hs0
    omega
  rw [eS] at A
  have eρ : G.ρ σ.length = T.heap.size := by rw [hρ _ hk, eS]
  refine ⟨T', ⟨locs, ce + 1, sl + m, by simp; omega, by show u + m = _; omega, X', D.push E hsz hk ⟨_, A, ?_, ?_, ?_⟩, N⟩, fun t kt => st t ?_⟩
  · simp [newA, hm, defaultValue, gv]
  · intro C' hC; cases hC; exact hO
  · intro y hy
    rw [List.eq_of_mem_replicate hy]
    rfl
  · rw [← eρ]; exact kt
theorem WStep.alen (z : Int32) (d : AtI G.bytes pc .arraylength 1 nx) (hk : σ[k]? = some (.inl (ty, vs))) (hz : vs.length.toInt32 = z) : WStep G (pc, L, .ref k :: S, σ, u) (nx, L, .int z :: S, σ, u) := by
  refine ⟨Nat.le_refl _, Nat.le_refl _, fun p l e R s m args below meth c hC hc hs T hT => ?_⟩
  obtain ⟨hx, hby, hZ, hown, hnm, hret, hml, hs0, hρ, hinj, hfr, hlo⟩ := hC
  obtain ⟨locs, ce, sl, h1, h2, X, D, N⟩ := hT
  obtain ⟨d, rfl⟩ := d
  obtain ⟨cl, A, eC, -⟩ : ArrOk G.Z G.ρ T.heap (G.n0 + k) ty vs := D.2.2 k _ hk
  rw [← hρ k (D.lt hk)] at A
  refine ⟨T, ⟨locs, ce, sl, h1, h2, X, D, N⟩, fun t kt => X.arraylength hx A.1 (State.isArrayOf_alike hZ.alike A.2.1) (g := frm G m (pc, L, .ref k :: S, σ, u)) rfl rfl (hb hby d) t ?_⟩
  rw [ArrOk.size (ty := ty) eC, hz]
  exact kt
theorem WStep.aaload (i : Nat) (d : AtI G.bytes pc .aaload 1 nx) (hk : σ[k]? = some (.inl (ty, vs))) (hty : ty.isReference = true) (hj : ¬ j < 0) (hi : j.toNatClampNeg = i) (hv : vs[i]? = some v) : WStep G (pc, L, .int j :: .ref k :: S, σ, u) (nx, L, v :: S, σ, u) := by
  refine ⟨Nat.le_refl _, Nat.le_refl _, fun p l e R s m args below meth c hC hc hs T hT => ?_⟩
  obtain ⟨hx, hby, hZ, hown, hnm, hret, hml, hs0, hρ, hinj, hfr, hlo⟩ := hC
  obtain ⟨locs, ce, sl, h1, h2, X, D, N⟩ := hT
  obtain ⟨d, rfl⟩ := d
  obtain ⟨cl, A, eC, -⟩ : ArrOk G.Z G.ρ T.heap (G.n0 + k) ty vs := D.2.2 k _ hk
  rw [← hρ k (D.lt hk)] at A
  have hlt := (List.getElem?_eq_some_iff.mp hv).1
  exact ⟨T, ⟨locs, ce, sl, h1, h2, X, D, N⟩, fun t kt => X.aaload hx (j := j) (v := gv G.ρ v) A.1 (State.isArrayOf_alike hZ.alike A.2.1) hty A.2.2 (fun q => q.elim hj fun q => by rw [ArrOk.size (ty := ty) eC, hi] at q; omega) (by rw [hi]; exact ArrOk.at eC hv) (g := frm G m (pc, L, .int j :: .ref k :: S, σ, u)) rfl rfl (hb hby d) t kt⟩
theorem WStep.aastore {k2 : Nat} (i : Nat) (d : AtI G.bytes pc .aastore 1 nx) (hk : σ[k]? = some (.inl (.object C, vs))) (hk2 : σ[k2]? = some (.inr (C, fs))) (hj : ¬ j < 0) (hi : j.toNatClampNeg = i) (hlt : i < vs.length) : WStep G (pc, L, .ref k2 :: .int j :: .ref k :: S, σ, u) (nx, L, S, σ.set k (.inl (.object C, vs.set i (.ref k2))), u) := by
  refine ⟨by simp, Nat.le_refl _, fun p l e R s m args below meth c hC hc hs T hT => ?_⟩
  obtain ⟨hx, hby, hZ, hown, hnm, hret, hml, hs0, hρ, hinj, hfr, hlo⟩ := hC
  obtain ⟨locs, ce, sl, h1, h2, X, D, N⟩ := hT
  obtain ⟨d, rfl⟩ := d
  obtain ⟨cl, A, eC, hO, hF⟩ : ArrOk G.Z G.ρ T.heap (G.n0 + k) (.object C) vs := D.2.2 k _ hk
  have hρk := hρ k (D.lt hk)
  have hE : Exa G.Z T.heap (G.n0 + k2) C := (D.2.2 k2 _ hk2).1
  rw [← hρ k2 (D.lt hk2)] at hE
  obtain ⟨T', h', X', e', W, st⟩ := stR X hx hZ rfl A (j := j) (v := .ref (G.ρ k2)) (fun q => q.elim hj fun q => by rw [ArrOk.size (ty := .object C) eC, hi] at q; omega) rfl (Sto.of A (hO C rfl) (Ins.self hE)) (g := frm G m (pc, L, .ref k2 :: .int j :: .ref k :: S, σ, u)) rfl (by show _ :: _ :: Value.ref (G.ρ k) :: _ = _; rw [hρk]; rfl) (hb hby d)
  subst e'
  rw [hi] at W
  exact ⟨T', ⟨_, ce, sl, by simpa using h1, h2, X', D.put W (ArrOk.set (w := .ref k2) A eC hO hF W rfl), N.app fun y hy => by cases List.mem_singleton.mp hy; exact Nat.le_add_right _ _⟩, st⟩
theorem WStep.acmp {cd : ACond} {x y : Value} (same : Bool) (pc' : Nat) (d : AtJ G.bytes pc (.if_acmp cd) nx tgt) (h1 : x.isRef = true) (h2 : y.isRef = true) (hq : decide (x = y) = same) (hp : pc' = if acV cd same = true then tgt else nx) : WStep G (pc, L, y :: x :: S, σ, u) (pc', L, S, σ, u) := by
  refine ⟨Nat.le_refl _, Nat.le_refl _, fun p l e R s m args below meth c hC hc hs T hT => ⟨T, hT, fun t kt => ?_⟩⟩
  obtain ⟨hx, hby, hZ, hown, hnm, hret, hml, hs0, hρ, hinj, hfr, hlo⟩ := hC
  obtain ⟨locs, ce, sl, z1, z2, X, D, N⟩ := hT
  obtain ⟨o, d, e1, h0, e2⟩ := d
  refine RoadKit.acmp (g := frm G m (pc, L, y :: x :: S, σ, u)) X hx rfl (isRef_gv.trans h1) (isRef_gv.trans h2) (pc0 := pc) (pc' := pc') (same := same) rfl (hb hby d) rfl ?_ h0 (by rw [hp, e1, e2]) kt
  rw [← hq]
  by_cases q : x = y
  · simp [q]
  · simp only [q, decide_false, decide_eq_false_iff_not]
    exact fun z => q (gv_inj hinj z)
end HeapOps
end Jvm.Sy

namespace Jvm.Sy
open Jvm Jvm.RoadKit
abbrev wI (x : Int32) : Slot := .val (.int x)
abbrev wJ (x : Int64) : Slot := .val (.long x)
abbrev wR (k : Nat) : Slot := .val (.ref k)
abbrev wN : Slot := .val .null
abbrev wU : Slot := .unset
abbrev wS : Slot := .second
end Jvm.Sy


namespace Jvm.Pilot.@@N@@
open Jvm Jvm.ClassFile Sem Op Lib Jvm.Free Jvm.Stand Jvm.LawKit Jvm.RoadKit Bundle Jvm.Sy Jvm.Pilot.@@N@@.Jvm.D
theorem wd {Z : State} {a0 : Array Value} (hw : ∀ d ∈ tables_1, d.before a0 Z = true) (i : Nat) {d : Jvm.Cond} (h : tables_1[i]? = some d) : d.before a0 Z = true := hw d (List.mem_of_getElem? h)
abbrev fk0 : WKey := ("com/example/chronogate/chronogate/Event", "timestamp", "J")
abbrev fk1 : WKey := ("com/example/chronogate/chronogate/Event", "adjustments", "Ljava/util/List;")
abbrev fk2 : WKey := ("com/example/chronogate/chronogate/Event", "payload", "Ljava/lang/Object;")
abbrev fk3 : WKey := ("com/example/chronogate/chronogate/Event", "sequence", "J")
abbrev fk4 : WKey := ("com/example/chronogate/chronogate/ReleaseQueue", "heap", "[Lcom/example/chronogate/chronogate/Event;")
abbrev fk5 : WKey := ("com/example/chronogate/chronogate/ReleaseQueue", "size", "I")
abbrev cn0 : String := "com/example/chronogate/chronogate/Event"
abbrev cn1 : String := "com/example/chronogate/chronogate/ReleaseQueue"

abbrev g10 (Z : State) (ρ : Nat → Nat) (n0 j0 u0 : Nat) : WMC := ((Z, ρ, n0), ("com/example/chronogate/chronogate/ReleaseQueue", prog_24_method_4_code, "size", (some .int), 1), (j0, u0, 0, 0))
theorem a10_0 : AtI prog_24_method_4_code 0 (.aload_n 0) 1 1 := ⟨by decide +kernel, rfl⟩
theorem a10_1 : AtI prog_24_method_4_code 1 (.getfield 17) 3 4 := ⟨by decide +kernel, rfl⟩
theorem a10_4 : AtI prog_24_method_4_code 4 (.ireturn) 1 5 := ⟨by decide +kernel, rfl⟩
theorem pd10 : parseMethodDescriptor "()I" = some ⟨[], some .int⟩ := by decide +kernel
theorem pl10 : plainFor (⟨"com/example/chronogate/chronogate/ReleaseQueue", "size", "()I"⟩ : MethodName) = true := plainFor_of_name (by first | (simp [plainName, overriddenIn]; done) | decide +kernel)
theorem ok10 {Z : State} {a0 : Array Value} (hw : ∀ d ∈ tables_1, d.before a0 Z = true) (ρ : Nat → Nat) (n0 j0 u0 : Nat) : WCallee Z a0 (⟨"com/example/chronogate/chronogate/ReleaseQueue", "size", "()I"⟩ : MethodName) (g10 Z ρ n0 j0 u0) 0 :=
  ⟨pl10, (by decide), rfl, rfl, rfl, (wd hw 19 rfl), (wd hw 59 rfl), fun sig h => by cases pd10.symm.trans h; rfl⟩
abbrev g9 (Z : State) (ρ : Nat → Nat) (n0 j0 u0 : Nat) : WMC := ((Z, ρ, n0), ("com/example/chronogate/chronogate/ReleaseQueue", prog_24_method_5_code, "peek", (some (.object "com/example/chronogate/chronogate/Event")), 1), (j0, u0, 0, 0))
theorem a9_0 : AtI prog_24_method_5_code 0 (.aload_n 0) 1 1 := ⟨by decide +kernel, rfl⟩
theorem a9_1 : AtI prog_24_method_5_code 1 (.getfield 17) 3 4 := ⟨by decide +kernel, rfl⟩
theorem a9_4 : AtJ prog_24_method_5_code 4 (.ifCond .ne) 7 11 := ⟨7, by decide +kernel, rfl, by decide, rfl⟩
theorem a9_7 : AtI prog_24_method_5_code 7 (.aconst_null) 1 8 := ⟨by decide +kernel, rfl⟩
theorem a9_8 : AtJ prog_24_method_5_code 8 (.goto) 11 17 := ⟨9, by decide +kernel, rfl, by decide, rfl⟩
theorem a9_11 : AtI prog_24_method_5_code 11 (.aload_n 0) 1 12 := ⟨by decide +kernel, rfl⟩
theorem a9_12 : AtI prog_24_method_5_code 12 (.getfield 13) 3 15 := ⟨by decide +kernel, rfl⟩
theorem a9_15 : AtI prog_24_method_5_code 15 (.iconst 0) 1 16 := ⟨by decide +kernel, rfl⟩
theorem a9_16 : AtI prog_24_method_5_code 16 (.aaload) 1 17 := ⟨by decide +kernel, rfl⟩
theorem a9_17 : AtI prog_24_method_5_code 17 (.areturn) 1 18 := ⟨by decide +kernel, rfl⟩
theorem pd9 : parseMethodDescriptor "()Lcom/example/chronogate/chronogate/Event;" = some ⟨[], some (.object "com/example/chronogate/chronogate/Event")⟩ := by decide +kernel
theorem pl9 : plainFor (⟨"com/example/chronogate/chronogate/ReleaseQueue", "peek", "()Lcom/example/chronogate/chronogate/Event;"⟩ : MethodName) = true := plainFor_of_name (by first | (simp [plainName, overriddenIn]; done) | decide +kernel)
theorem ok9 {Z : State} {a0 : Array Value} (hw : ∀ d ∈ tables_1, d.before a0 Z = true) (ρ : Nat → Nat) (n0 j0 u0 : Nat) : WCallee Z a0 (⟨"com/example/chronogate/chronogate/ReleaseQueue", "peek", "()Lcom/example/chronogate/chronogate/Event;"⟩ : MethodName) (g9 Z ρ n0 j0 u0) 0 :=
  ⟨pl9, (by decide), rfl, rfl, rfl, (wd hw 19 rfl), (wd hw 54 rfl), fun sig h => by cases pd9.symm.trans h; rfl⟩
abbrev g8 (Z : State) (ρ : Nat → Nat) (n0 j0 u0 : Nat) : WMC := ((Z, ρ, n0), ("com/example/chronogate/chronogate/ReleaseQueuePeekPinLaw", method_2_code, "less", (some .boolean), 8), (j0, u0, 0, 0))
theorem a8_0 : AtI method_2_code 0 (.lload_n 0) 1 1 := ⟨by decide +kernel, rfl⟩
theorem a8_1 : AtI method_2_code 1 (.lload 4) 2 3 := ⟨by decide +kernel, rfl⟩
theorem a8_3 : AtI method_2_code 3 (.lcmp) 1 4 := ⟨by decide +kernel, rfl⟩
theorem a8_4 : AtJ method_2_code 4 (.ifCond .ge) 7 9 := ⟨5, by decide +kernel, rfl, by decide, rfl⟩
theorem a8_7 : AtI method_2_code 7 (.iconst 1) 1 8 := ⟨by decide +kernel, rfl⟩
theorem a8_8 : AtI method_2_code 8 (.ireturn) 1 9 := ⟨by decide +kernel, rfl⟩
theorem a8_9 : AtI method_2_code 9 (.lload_n 0) 1 10 := ⟨by decide +kernel, rfl⟩
theorem a8_10 : AtI method_2_code 10 (.lload 4) 2 12 := ⟨by decide +kernel, rfl⟩
theorem a8_12 : AtI method_2_code 12 (.lcmp) 1 13 := ⟨by decide +kernel, rfl⟩
theorem a8_13 : AtJ method_2_code 13 (.ifCond .le) 16 18 := ⟨5, by decide +kernel, rfl, by decide, rfl⟩
theorem a8_16 : AtI method_2_code 16 (.iconst 0) 1 17 := ⟨by decide +kernel, rfl⟩
theorem a8_17 : AtI method_2_code 17 (.ireturn) 1 18 := ⟨by decide +kernel, rfl⟩
theorem a8_18 : AtI method_2_code 18 (.lload_n 2) 1 19 := ⟨by decide +kernel, rfl⟩
theorem a8_19 : AtI method_2_code 19 (.lload 6) 2 21 := ⟨by decide +kernel, rfl⟩
theorem a8_21 : AtI method_2_code 21 (.lcmp) 1 22 := ⟨by decide +kernel, rfl⟩
theorem a8_22 : AtJ method_2_code 22 (.ifCond .ge) 25 29 := ⟨7, by decide +kernel, rfl, by decide, rfl⟩
theorem a8_25 : AtI method_2_code 25 (.iconst 1) 1 26 := ⟨by decide +kernel, rfl⟩
theorem a8_26 : AtJ method_2_code 26 (.goto) 29 30 := ⟨4, by decide +kernel, rfl, by decide, rfl⟩
theorem a8_29 : AtI method_2_code 29 (.iconst 0) 1 30 := ⟨by decide +kernel, rfl⟩
theorem a8_30 : AtI method_2_code 30 (.ireturn) 1 31 := ⟨by decide +kernel, rfl⟩
theorem pd8 : parseMethodDescriptor "(JJJJ)Z" = some ⟨[.long, .long, .long, .long], some .boolean⟩ := by decide +kernel
theorem pl8 : plainFor (⟨"com/example/chronogate/chronogate/ReleaseQueuePeekPinLaw", "less", "(JJJJ)Z"⟩ : MethodName) = true := plainFor_of_name (by first | (simp [plainName, overriddenIn]; done) | decide +kernel)
theorem ok8 {Z : State} {a0 : Array Value} (hw : ∀ d ∈ tables_1, d.before a0 Z = true) (ρ : Nat → Nat) (n0 j0 u0 : Nat) : WCallee Z a0 (⟨"com/example/chronogate/chronogate/ReleaseQueuePeekPinLaw", "less", "(JJJJ)Z"⟩ : MethodName) (g8 Z ρ n0 j0 u0) 4 :=
  ⟨pl8, (by decide), rfl, rfl, rfl, (wd hw 48 rfl), (wd hw 49 rfl), fun sig h => by cases pd8.symm.trans h; rfl⟩
abbrev g7 (Z : State) (ρ : Nat → Nat) (n0 j0 u0 : Nat) : WMC := ((Z, ρ, n0), ("java/lang/Long", jdk_35_method_42_code, "compare", (some .int), 4), (j0, u0, 0, 0))
theorem a7_0 : AtI jdk_35_method_42_code 0 (.lload_n 0) 1 1 := ⟨by decide +kernel, rfl⟩
theorem a7_1 : AtI jdk_35_method_42_code 1 (.lload_n 2) 1 2 := ⟨by decide +kernel, rfl⟩
theorem a7_2 : AtI jdk_35_method_42_code 2 (.lcmp) 1 3 := ⟨by decide +kernel, rfl⟩
theorem a7_3 : AtJ jdk_35_method_42_code 3 (.ifCond .ge) 6 10 := ⟨7, by decide +kernel, rfl, by decide, rfl⟩
theorem a7_6 : AtI jdk_35_method_42_code 6 (.iconst (-1)) 1 7 := ⟨by decide +kernel, rfl⟩
theorem a7_7 : AtJ jdk_35_method_42_code 7 (.goto) 10 21 := ⟨14, by decide +kernel, rfl, by decide, rfl⟩
theorem a7_10 : AtI jdk_35_method_42_code 10 (.lload_n 0) 1 11 := ⟨by decide +kernel, rfl⟩
theorem a7_11 : AtI jdk_35_method_42_code 11 (.lload_n 2) 1 12 := ⟨by decide +kernel, rfl⟩
theorem a7_12 : AtI jdk_35_method_42_code 12 (.lcmp) 1 13 := ⟨by decide +kernel, rfl⟩
theorem a7_13 : AtJ jdk_35_method_42_code 13 (.ifCond .ne) 16 20 := ⟨7, by decide +kernel, rfl, by decide, rfl⟩
theorem a7_16 : AtI jdk_35_method_42_code 16 (.iconst 0) 1 17 := ⟨by decide +kernel, rfl⟩
theorem a7_17 : AtJ jdk_35_method_42_code 17 (.goto) 20 21 := ⟨4, by decide +kernel, rfl, by decide, rfl⟩
theorem a7_20 : AtI jdk_35_method_42_code 20 (.iconst 1) 1 21 := ⟨by decide +kernel, rfl⟩
theorem a7_21 : AtI jdk_35_method_42_code 21 (.ireturn) 1 22 := ⟨by decide +kernel, rfl⟩
theorem pd7 : parseMethodDescriptor "(JJ)I" = some ⟨[.long, .long], some .int⟩ := by decide +kernel
theorem pl7 : plainFor (⟨"java/lang/Long", "compare", "(JJ)I"⟩ : MethodName) = true := plainFor_of_name (by first | (simp [plainName, overriddenIn]; done) | decide +kernel)
theorem ok7 {Z : State} {a0 : Array Value} (hw : ∀ d ∈ tables_1, d.before a0 Z = true) (ρ : Nat → Nat) (n0 j0 u0 : Nat) : WCallee Z a0 (⟨"java/lang/Long", "compare", "(JJ)I"⟩ : MethodName) (g7 Z ρ n0 j0 u0) 2 :=
  ⟨pl7, (by decide), rfl, rfl, rfl, (wd hw 44 rfl), (wd hw 45 rfl), fun sig h => by cases pd7.symm.trans h; rfl⟩
abbrev g6 (Z : State) (ρ : Nat → Nat) (n0 j0 u0 : Nat) : WMC := ((Z, ρ, n0), ("com/example/chronogate/chronogate/Event", prog_8_method_6_code, "releaseOrder", (some .int), 3), (j0, u0, 1, 15))
theorem a6_0 : AtI prog_8_method_6_code 0 (.aload_n 0) 1 1 := ⟨by decide +kernel, rfl⟩
theorem a6_1 : AtI prog_8_method_6_code 1 (.getfield 7) 3 4 := ⟨by decide +kernel, rfl⟩
theorem a6_4 : AtI prog_8_method_6_code 4 (.aload_n 1) 1 5 := ⟨by decide +kernel, rfl⟩
theorem a6_5 : AtI prog_8_method_6_code 5 (.getfield 7) 3 8 := ⟨by decide +kernel, rfl⟩
theorem a6_8 : AtI prog_8_method_6_code 8 (.invokestatic 24) 3 11 := ⟨by decide +kernel, rfl⟩
theorem a6_11 : AtI prog_8_method_6_code 11 (.istore_n 2) 1 12 := ⟨by decide +kernel, rfl⟩
theorem a6_12 : AtI prog_8_method_6_code 12 (.iload_n 2) 1 13 := ⟨by decide +kernel, rfl⟩
theorem a6_13 : AtJ prog_8_method_6_code 13 (.ifCond .eq) 16 20 := ⟨7, by decide +kernel, rfl, by decide, rfl⟩
theorem a6_16 : AtI prog_8_method_6_code 16 (.iload_n 2) 1 17 := ⟨by decide +kernel, rfl⟩
theorem a6_17 : AtJ prog_8_method_6_code 17 (.goto) 20 31 := ⟨14, by decide +kernel, rfl, by decide, rfl⟩
theorem a6_20 : AtI prog_8_method_6_code 20 (.aload_n 0) 1 21 := ⟨by decide +kernel, rfl⟩
theorem a6_21 : AtI prog_8_method_6_code 21 (.getfield 21) 3 24 := ⟨by decide +kernel, rfl⟩
theorem a6_24 : AtI prog_8_method_6_code 24 (.aload_n 1) 1 25 := ⟨by decide +kernel, rfl⟩
theorem a6_25 : AtI prog_8_method_6_code 25 (.getfield 21) 3 28 := ⟨by decide +kernel, rfl⟩
theorem a6_28 : AtI prog_8_method_6_code 28 (.invokestatic 24) 3 31 := ⟨by decide +kernel, rfl⟩
theorem a6_31 : AtI prog_8_method_6_code 31 (.ireturn) 1 32 := ⟨by decide +kernel, rfl⟩
theorem pd6 : parseMethodDescriptor "(Lcom/example/chronogate/chronogate/Event;Lcom/example/chronogate/chronogate/Event;)I" = some ⟨[(.object "com/example/chronogate/chronogate/Event"), (.object "com/example/chronogate/chronogate/Event")], some .int⟩ := by decide +kernel
theorem pl6 : plainFor (⟨"com/example/chronogate/chronogate/Event", "releaseOrder", "(Lcom/example/chronogate/chronogate/Event;Lcom/example/chronogate/chronogate/Event;)I"⟩ : MethodName) = true := plainFor_of_name (by first | (simp [plainName, overriddenIn]; done) | decide +kernel)
theorem ok6 {Z : State} {a0 : Array Value} (hw : ∀ d ∈ tables_1, d.before a0 Z = true) (ρ : Nat → Nat) (n0 j0 u0 : Nat) : WCallee Z a0 (⟨"com/example/chronogate/chronogate/Event", "releaseOrder", "(Lcom/example/chronogate/chronogate/Event;Lcom/example/chronogate/chronogate/Event;)I"⟩ : MethodName) (g6 Z ρ n0 j0 u0) 2 :=
  ⟨pl6, (by decide), rfl, rfl, rfl, (wd hw 2 rfl), (wd hw 41 rfl), fun sig h => by cases pd6.symm.trans h; rfl⟩
abbrev g5 (Z : State) (ρ : Nat → Nat) (n0 j0 u0 : Nat) : WMC := ((Z, ρ, n0), ("com/example/chronogate/chronogate/ReleaseQueue", prog_24_method_2_code, "add", none, 4), (j0, u0, 2, 29))
theorem a5_0 : AtI prog_24_method_2_code 0 (.aload_n 0) 1 1 := ⟨by decide +kernel, rfl⟩
theorem a5_1 : AtI prog_24_method_2_code 1 (.getfield 17) 3 4 := ⟨by decide +kernel, rfl⟩
theorem a5_4 : AtI prog_24_method_2_code 4 (.aload_n 0) 1 5 := ⟨by decide +kernel, rfl⟩
theorem a5_5 : AtI prog_24_method_2_code 5 (.getfield 13) 3 8 := ⟨by decide +kernel, rfl⟩
theorem a5_8 : AtI prog_24_method_2_code 8 (.arraylength) 1 9 := ⟨by decide +kernel, rfl⟩
theorem a5_9 : AtJ prog_24_method_2_code 9 (.if_icmp .ne) 12 32 := ⟨23, by decide +kernel, rfl, by decide, rfl⟩
theorem a5_12 : AtI prog_24_method_2_code 12 (.aload_n 0) 1 13 := ⟨by decide +kernel, rfl⟩
theorem a5_13 : AtI prog_24_method_2_code 13 (.aload_n 0) 1 14 := ⟨by decide +kernel, rfl⟩
theorem a5_14 : AtI prog_24_method_2_code 14 (.getfield 13) 3 17 := ⟨by decide +kernel, rfl⟩
theorem a5_17 : AtI prog_24_method_2_code 17 (.iconst 2) 1 18 := ⟨by decide +kernel, rfl⟩
theorem a5_18 : AtI prog_24_method_2_code 18 (.aload_n 0) 1 19 := ⟨by decide +kernel, rfl⟩
theorem a5_19 : AtI prog_24_method_2_code 19 (.getfield 17) 3 22 := ⟨by decide +kernel, rfl⟩
theorem a5_22 : AtI prog_24_method_2_code 22 (.imul) 1 23 := ⟨by decide +kernel, rfl⟩
theorem a5_23 : AtI prog_24_method_2_code 23 (.invokestatic 21) 3 26 := ⟨by decide +kernel, rfl⟩
theorem a5_32 : AtI prog_24_method_2_code 32 (.aload_n 0) 1 33 := ⟨by decide +kernel, rfl⟩
theorem a5_33 : AtI prog_24_method_2_code 33 (.dup) 1 34 := ⟨by decide +kernel, rfl⟩
theorem a5_34 : AtI prog_24_method_2_code 34 (.getfield 17) 3 37 := ⟨by decide +kernel, rfl⟩
theorem a5_37 : AtI prog_24_method_2_code 37 (.dup_x1) 1 38 := ⟨by decide +kernel, rfl⟩
theorem a5_38 : AtI prog_24_method_2_code 38 (.iconst 1) 1 39 := ⟨by decide +kernel, rfl⟩
theorem a5_39 : AtI prog_24_method_2_code 39 (.iadd) 1 40 := ⟨by decide +kernel, rfl⟩
theorem a5_40 : AtI prog_24_method_2_code 40 (.putfield 17) 3 43 := ⟨by decide +kernel, rfl⟩
theorem a5_43 : AtI prog_24_method_2_code 43 (.istore_n 2) 1 44 := ⟨by decide +kernel, rfl⟩
theorem a5_44 : AtI prog_24_method_2_code 44 (.iload_n 2) 1 45 := ⟨by decide +kernel, rfl⟩
theorem a5_45 : AtJ prog_24_method_2_code 45 (.ifCond .le) 48 87 := ⟨42, by decide +kernel, rfl, by decide, rfl⟩
theorem a5_48 : AtI prog_24_method_2_code 48 (.iload_n 2) 1 49 := ⟨by decide +kernel, rfl⟩
theorem a5_49 : AtI prog_24_method_2_code 49 (.iconst 1) 1 50 := ⟨by decide +kernel, rfl⟩
theorem a5_50 : AtI prog_24_method_2_code 50 (.isub) 1 51 := ⟨by decide +kernel, rfl⟩
theorem a5_51 : AtI prog_24_method_2_code 51 (.iconst 2) 1 52 := ⟨by decide +kernel, rfl⟩
theorem a5_52 : AtI prog_24_method_2_code 52 (.idiv) 1 53 := ⟨by decide +kernel, rfl⟩
theorem a5_53 : AtI prog_24_method_2_code 53 (.istore_n 3) 1 54 := ⟨by decide +kernel, rfl⟩
theorem a5_54 : AtI prog_24_method_2_code 54 (.aload_n 1) 1 55 := ⟨by decide +kernel, rfl⟩
theorem a5_55 : AtI prog_24_method_2_code 55 (.aload_n 0) 1 56 := ⟨by decide +kernel, rfl⟩
theorem a5_56 : AtI prog_24_method_2_code 56 (.getfield 13) 3 59 := ⟨by decide +kernel, rfl⟩
theorem a5_59 : AtI prog_24_method_2_code 59 (.iload_n 3) 1 60 := ⟨by decide +kernel, rfl⟩
theorem a5_60 : AtI prog_24_method_2_code 60 (.aaload) 1 61 := ⟨by decide +kernel, rfl⟩
theorem a5_61 : AtI prog_24_method_2_code 61 (.invokestatic 28) 3 64 := ⟨by decide +kernel, rfl⟩
theorem a5_64 : AtJ prog_24_method_2_code 64 (.ifCond .lt) 67 70 := ⟨6, by decide +kernel, rfl, by decide, rfl⟩
theorem a5_67 : AtJ prog_24_method_2_code 67 (.goto) 70 87 := ⟨20, by decide +kernel, rfl, by decide, rfl⟩
theorem a5_70 : AtI prog_24_method_2_code 70 (.aload_n 0) 1 71 := ⟨by decide +kernel, rfl⟩
theorem a5_71 : AtI prog_24_method_2_code 71 (.getfield 13) 3 74 := ⟨by decide +kernel, rfl⟩
theorem a5_74 : AtI prog_24_method_2_code 74 (.iload_n 2) 1 75 := ⟨by decide +kernel, rfl⟩
theorem a5_75 : AtI prog_24_method_2_code 75 (.aload_n 0) 1 76 := ⟨by decide +kernel, rfl⟩
theorem a5_76 : AtI prog_24_method_2_code 76 (.getfield 13) 3 79 := ⟨by decide +kernel, rfl⟩
theorem a5_79 : AtI prog_24_method_2_code 79 (.iload_n 3) 1 80 := ⟨by decide +kernel, rfl⟩
theorem a5_80 : AtI prog_24_method_2_code 80 (.aaload) 1 81 := ⟨by decide +kernel, rfl⟩
theorem a5_81 : AtI prog_24_method_2_code 81 (.aastore) 1 82 := ⟨by decide +kernel, rfl⟩
theorem a5_82 : AtI prog_24_method_2_code 82 (.iload_n 3) 1 83 := ⟨by decide +kernel, rfl⟩
theorem a5_83 : AtI prog_24_method_2_code 83 (.istore_n 2) 1 84 := ⟨by decide +kernel, rfl⟩
theorem a5_84 : AtJ prog_24_method_2_code 84 (.goto) 87 44 := ⟨(-40), by decide +kernel, rfl, by decide, rfl⟩
theorem a5_87 : AtI prog_24_method_2_code 87 (.aload_n 0) 1 88 := ⟨by decide +kernel, rfl⟩
theorem a5_88 : AtI prog_24_method_2_code 88 (.getfield 13) 3 91 := ⟨by decide +kernel, rfl⟩
theorem a5_91 : AtI prog_24_method_2_code 91 (.iload_n 2) 1 92 := ⟨by decide +kernel, rfl⟩
theorem a5_92 : AtI prog_24_method_2_code 92 (.aload_n 1) 1 93 := ⟨by decide +kernel, rfl⟩
theorem a5_93 : AtI prog_24_method_2_code 93 (.aastore) 1 94 := ⟨by decide +kernel, rfl⟩
theorem a5_94 : AtI prog_24_method_2_code 94 (.return_) 1 95 := ⟨by decide +kernel, rfl⟩
theorem pd5 : parseMethodDescriptor "(Lcom/example/chronogate/chronogate/Event;)V" = some ⟨[(.object "com/example/chronogate/chronogate/Event")], none⟩ := by decide +kernel
theorem pl5 : plainFor (⟨"com/example/chronogate/chronogate/ReleaseQueue", "add", "(Lcom/example/chronogate/chronogate/Event;)V"⟩ : MethodName) = true := plainFor_of_name (by first | (simp [plainName, overriddenIn]; done) | decide +kernel)
theorem ok5 {Z : State} {a0 : Array Value} (hw : ∀ d ∈ tables_1, d.before a0 Z = true) (ρ : Nat → Nat) (n0 j0 u0 : Nat) : WCallee Z a0 (⟨"com/example/chronogate/chronogate/ReleaseQueue", "add", "(Lcom/example/chronogate/chronogate/Event;)V"⟩ : MethodName) (g5 Z ρ n0 j0 u0) 1 :=
  ⟨pl5, (by decide), rfl, rfl, rfl, (wd hw 19 rfl), (wd hw 35 rfl), fun sig h => by cases pd5.symm.trans h; rfl⟩
abbrev g4 (Z : State) (ρ : Nat → Nat) (n0 j0 u0 : Nat) : WMC := ((Z, ρ, n0), ("com/example/chronogate/chronogate/ReleaseQueue", prog_24_method_8_code, "newArray", (some (.array (.object "com/example/chronogate/chronogate/Event"))), 1), (j0, u0, 0, 0))
theorem a4_0 : AtI prog_24_method_8_code 0 (.iload_n 0) 1 1 := ⟨by decide +kernel, rfl⟩
theorem a4_1 : AtI prog_24_method_8_code 1 (.anewarray 29) 3 4 := ⟨by decide +kernel, rfl⟩
theorem a4_4 : AtI prog_24_method_8_code 4 (.areturn) 1 5 := ⟨by decide +kernel, rfl⟩
theorem pd4 : parseMethodDescriptor "(I)[Lcom/example/chronogate/chronogate/Event;" = some ⟨[.int], some (.array (.object "com/example/chronogate/chronogate/Event"))⟩ := by decide +kernel
theorem pl4 : plainFor (⟨"com/example/chronogate/chronogate/ReleaseQueue", "newArray", "(I)[Lcom/example/chronogate/chronogate/Event;"⟩ : MethodName) = true := plainFor_of_name (by first | (simp [plainName, overriddenIn]; done) | decide +kernel)
theorem ok4 {Z : State} {a0 : Array Value} (hw : ∀ d ∈ tables_1, d.before a0 Z = true) (ρ : Nat → Nat) (n0 j0 u0 : Nat) : WCallee Z a0 (⟨"com/example/chronogate/chronogate/ReleaseQueue", "newArray", "(I)[Lcom/example/chronogate/chronogate/Event;"⟩ : MethodName) (g4 Z ρ n0 j0 u0) 1 :=
  ⟨pl4, (by decide), rfl, rfl, rfl, (wd hw 19 rfl), (wd hw 26 rfl), fun sig h => by cases pd4.symm.trans h; rfl⟩
abbrev g3 (Z : State) (ρ : Nat → Nat) (n0 j0 u0 : Nat) : WMC := ((Z, ρ, n0), ("com/example/chronogate/chronogate/ReleaseQueue", prog_24_method_1_code, "<init>", none, 1), (j0, u0, 1, 13))
theorem a3_0 : AtI prog_24_method_1_code 0 (.aload_n 0) 1 1 := ⟨by decide +kernel, rfl⟩
theorem a3_1 : AtI prog_24_method_1_code 1 (.invokespecial 1) 3 4 := ⟨by decide +kernel, rfl⟩
theorem a3_4 : AtI prog_24_method_1_code 4 (.aload_n 0) 1 5 := ⟨by decide +kernel, rfl⟩
theorem a3_5 : AtI prog_24_method_1_code 5 (.bipush 8) 2 7 := ⟨by decide +kernel, rfl⟩
theorem a3_7 : AtI prog_24_method_1_code 7 (.invokestatic 9) 3 10 := ⟨by decide +kernel, rfl⟩
theorem a3_10 : AtI prog_24_method_1_code 10 (.putfield 13) 3 13 := ⟨by decide +kernel, rfl⟩
theorem a3_13 : AtI prog_24_method_1_code 13 (.return_) 1 14 := ⟨by decide +kernel, rfl⟩
theorem pd3 : parseMethodDescriptor "()V" = some ⟨[], none⟩ := by decide +kernel
theorem pl3 : plainFor (⟨"com/example/chronogate/chronogate/ReleaseQueue", "<init>", "()V"⟩ : MethodName) = true := plainFor_of_name (by first | (simp [plainName, overriddenIn]; done) | decide +kernel)
theorem ok3 {Z : State} {a0 : Array Value} (hw : ∀ d ∈ tables_1, d.before a0 Z = true) (ρ : Nat → Nat) (n0 j0 u0 : Nat) : WCallee Z a0 (⟨"com/example/chronogate/chronogate/ReleaseQueue", "<init>", "()V"⟩ : MethodName) (g3 Z ρ n0 j0 u0) 0 :=
  ⟨pl3, (by decide), rfl, rfl, rfl, (wd hw 19 rfl), (wd hw 22 rfl), fun sig h => by cases pd3.symm.trans h; rfl⟩
abbrev g1 (Z : State) (ρ : Nat → Nat) (n0 j0 u0 : Nat) : WMC := ((Z, ρ, n0), ("com/example/chronogate/chronogate/Event", prog_8_method_1_code, "<init>", none, 7), (j0, u0, 1, 12))
theorem a1_0 : AtI prog_8_method_1_code 0 (.aload_n 0) 1 1 := ⟨by decide +kernel, rfl⟩
theorem a1_1 : AtI prog_8_method_1_code 1 (.invokespecial 1) 3 4 := ⟨by decide +kernel, rfl⟩
theorem a1_4 : AtI prog_8_method_1_code 4 (.aload_n 0) 1 5 := ⟨by decide +kernel, rfl⟩
theorem a1_5 : AtI prog_8_method_1_code 5 (.lload_n 1) 1 6 := ⟨by decide +kernel, rfl⟩
theorem a1_6 : AtI prog_8_method_1_code 6 (.putfield 7) 3 9 := ⟨by decide +kernel, rfl⟩
theorem a1_9 : AtI prog_8_method_1_code 9 (.aload_n 0) 1 10 := ⟨by decide +kernel, rfl⟩
theorem a1_10 : AtI prog_8_method_1_code 10 (.aload_n 3) 1 11 := ⟨by decide +kernel, rfl⟩
theorem a1_11 : AtI prog_8_method_1_code 11 (.putfield 13) 3 14 := ⟨by decide +kernel, rfl⟩
theorem a1_14 : AtI prog_8_method_1_code 14 (.aload_n 0) 1 15 := ⟨by decide +kernel, rfl⟩
theorem a1_15 : AtI prog_8_method_1_code 15 (.aload 4) 2 17 := ⟨by decide +kernel, rfl⟩
theorem a1_17 : AtI prog_8_method_1_code 17 (.putfield 17) 3 20 := ⟨by decide +kernel, rfl⟩
theorem a1_20 : AtI prog_8_method_1_code 20 (.aload_n 0) 1 21 := ⟨by decide +kernel, rfl⟩
theorem a1_21 : AtI prog_8_method_1_code 21 (.lload 5) 2 23 := ⟨by decide +kernel, rfl⟩
theorem a1_23 : AtI prog_8_method_1_code 23 (.putfield 21) 3 26 := ⟨by decide +kernel, rfl⟩
theorem a1_26 : AtI prog_8_method_1_code 26 (.return_) 1 27 := ⟨by decide +kernel, rfl⟩
theorem pd1 : parseMethodDescriptor "(JLjava/util/List;Ljava/lang/Object;J)V" = some ⟨[.long, (.object "java/util/List"), (.object "java/lang/Object"), .long], none⟩ := by decide +kernel
theorem pl1 : plainFor (⟨"com/example/chronogate/chronogate/Event", "<init>", "(JLjava/util/List;Ljava/lang/Object;J)V"⟩ : MethodName) = true := plainFor_of_name (by first | (simp [plainName, overriddenIn]; done) | decide +kernel)
theorem ok1 {Z : State} {a0 : Array Value} (hw : ∀ d ∈ tables_1, d.before a0 Z = true) (ρ : Nat → Nat) (n0 j0 u0 : Nat) : WCallee Z a0 (⟨"com/example/chronogate/chronogate/Event", "<init>", "(JLjava/util/List;Ljava/lang/Object;J)V"⟩ : MethodName) (g1 Z ρ n0 j0 u0) 4 :=
  ⟨pl1, (by decide), rfl, rfl, rfl, (wd hw 2 rfl), (wd hw 5 rfl), fun sig h => by cases pd1.symm.trans h; rfl⟩
abbrev g0 (Z : State) (ρ : Nat → Nat) (n0 j0 u0 : Nat) : WMC := ((Z, ρ, n0), ("com/example/chronogate/chronogate/ReleaseQueuePeekPinLaw", code, "law", ret, maxLocals), (j0, u0, 6, 144))
theorem a0_0 : AtI code 0 (.iload 10) 2 2 := ⟨by decide +kernel, rfl⟩
theorem a0_2 : AtI code 2 (.iconst 3) 1 3 := ⟨by decide +kernel, rfl⟩
theorem a0_3 : AtI code 3 (.iand) 1 4 := ⟨by decide +kernel, rfl⟩
theorem a0_4 : AtI code 4 (.istore 11) 2 6 := ⟨by decide +kernel, rfl⟩
theorem a0_6 : AtI code 6 (.iload 10) 2 8 := ⟨by decide +kernel, rfl⟩
theorem a0_8 : AtI code 8 (.iconst 2) 1 9 := ⟨by decide +kernel, rfl⟩
theorem a0_9 : AtI code 9 (.ishr) 1 10 := ⟨by decide +kernel, rfl⟩
theorem a0_10 : AtI code 10 (.i2l) 1 11 := ⟨by decide +kernel, rfl⟩
theorem a0_11 : AtI code 11 (.lstore 12) 2 13 := ⟨by decide +kernel, rfl⟩
theorem a0_13 : AtI code 13 (.new 7) 3 16 := ⟨by decide +kernel, rfl⟩
theorem a0_16 : AtI code 16 (.dup) 1 17 := ⟨by decide +kernel, rfl⟩
theorem a0_17 : AtI code 17 (.lload_n 0) 1 18 := ⟨by decide +kernel, rfl⟩
theorem a0_18 : AtI code 18 (.aconst_null) 1 19 := ⟨by decide +kernel, rfl⟩
theorem a0_19 : AtI code 19 (.aconst_null) 1 20 := ⟨by decide +kernel, rfl⟩
theorem a0_20 : AtI code 20 (.lload 6) 2 22 := ⟨by decide +kernel, rfl⟩
theorem a0_22 : AtI code 22 (.invokespecial 9) 3 25 := ⟨by decide +kernel, rfl⟩
theorem a0_25 : AtI code 25 (.astore 14) 2 27 := ⟨by decide +kernel, rfl⟩
theorem a0_27 : AtI code 27 (.new 7) 3 30 := ⟨by decide +kernel, rfl⟩
theorem a0_30 : AtI code 30 (.dup) 1 31 := ⟨by decide +kernel, rfl⟩
theorem a0_31 : AtI code 31 (.lload_n 2) 1 32 := ⟨by decide +kernel, rfl⟩
theorem a0_32 : AtI code 32 (.aconst_null) 1 33 := ⟨by decide +kernel, rfl⟩
theorem a0_33 : AtI code 33 (.aconst_null) 1 34 := ⟨by decide +kernel, rfl⟩
theorem a0_34 : AtI code 34 (.lload 8) 2 36 := ⟨by decide +kernel, rfl⟩
theorem a0_36 : AtI code 36 (.invokespecial 9) 3 39 := ⟨by decide +kernel, rfl⟩
theorem a0_39 : AtI code 39 (.astore 15) 2 41 := ⟨by decide +kernel, rfl⟩
theorem a0_41 : AtI code 41 (.new 7) 3 44 := ⟨by decide +kernel, rfl⟩
theorem a0_44 : AtI code 44 (.dup) 1 45 := ⟨by decide +kernel, rfl⟩
theorem a0_45 : AtI code 45 (.lload 4) 2 47 := ⟨by decide +kernel, rfl⟩
theorem a0_47 : AtI code 47 (.aconst_null) 1 48 := ⟨by decide +kernel, rfl⟩
theorem a0_48 : AtI code 48 (.aconst_null) 1 49 := ⟨by decide +kernel, rfl⟩
theorem a0_49 : AtI code 49 (.lload 12) 2 51 := ⟨by decide +kernel, rfl⟩
theorem a0_51 : AtI code 51 (.invokespecial 9) 3 54 := ⟨by decide +kernel, rfl⟩
theorem a0_54 : AtI code 54 (.astore 16) 2 56 := ⟨by decide +kernel, rfl⟩
theorem a0_56 : AtI code 56 (.new 12) 3 59 := ⟨by decide +kernel, rfl⟩
theorem a0_59 : AtI code 59 (.dup) 1 60 := ⟨by decide +kernel, rfl⟩
theorem a0_60 : AtI code 60 (.invokespecial 14) 3 63 := ⟨by decide +kernel, rfl⟩
theorem a0_63 : AtI code 63 (.astore 17) 2 65 := ⟨by decide +kernel, rfl⟩
theorem a0_65 : AtI code 65 (.iload 11) 2 67 := ⟨by decide +kernel, rfl⟩
theorem a0_67 : AtI code 67 (.iconst 1) 1 68 := ⟨by decide +kernel, rfl⟩
theorem a0_68 : AtJ code 68 (.if_icmp .lt) 71 78 := ⟨10, by decide +kernel, rfl, by decide, rfl⟩
theorem a0_71 : AtI code 71 (.aload 17) 2 73 := ⟨by decide +kernel, rfl⟩
theorem a0_73 : AtI code 73 (.aload 14) 2 75 := ⟨by decide +kernel, rfl⟩
theorem a0_75 : AtI code 75 (.invokevirtual 15) 3 78 := ⟨by decide +kernel, rfl⟩
theorem a0_78 : AtI code 78 (.iload 11) 2 80 := ⟨by decide +kernel, rfl⟩
theorem a0_80 : AtI code 80 (.iconst 2) 1 81 := ⟨by decide +kernel, rfl⟩
theorem a0_81 : AtJ code 81 (.if_icmp .lt) 84 91 := ⟨10, by decide +kernel, rfl, by decide, rfl⟩
theorem a0_84 : AtI code 84 (.aload 17) 2 86 := ⟨by decide +kernel, rfl⟩
theorem a0_86 : AtI code 86 (.aload 15) 2 88 := ⟨by decide +kernel, rfl⟩
theorem a0_88 : AtI code 88 (.invokevirtual 15) 3 91 := ⟨by decide +kernel, rfl⟩
theorem a0_91 : AtI code 91 (.iload 11) 2 93 := ⟨by decide +kernel, rfl⟩
theorem a0_93 : AtI code 93 (.iconst 3) 1 94 := ⟨by decide +kernel, rfl⟩
theorem a0_94 : AtJ code 94 (.if_icmp .lt) 97 104 := ⟨10, by decide +kernel, rfl, by decide, rfl⟩
theorem a0_97 : AtI code 97 (.aload 17) 2 99 := ⟨by decide +kernel, rfl⟩
theorem a0_99 : AtI code 99 (.aload 16) 2 101 := ⟨by decide +kernel, rfl⟩
theorem a0_101 : AtI code 101 (.invokevirtual 15) 3 104 := ⟨by decide +kernel, rfl⟩
theorem a0_104 : AtI code 104 (.aconst_null) 1 105 := ⟨by decide +kernel, rfl⟩
theorem a0_105 : AtI code 105 (.astore 18) 2 107 := ⟨by decide +kernel, rfl⟩
theorem a0_107 : AtI code 107 (.lload_n 0) 1 108 := ⟨by decide +kernel, rfl⟩
theorem a0_108 : AtI code 108 (.lstore 19) 2 110 := ⟨by decide +kernel, rfl⟩
theorem a0_110 : AtI code 110 (.lload 6) 2 112 := ⟨by decide +kernel, rfl⟩
theorem a0_112 : AtI code 112 (.lstore 21) 2 114 := ⟨by decide +kernel, rfl⟩
theorem a0_114 : AtI code 114 (.iload 11) 2 116 := ⟨by decide +kernel, rfl⟩
theorem a0_116 : AtI code 116 (.iconst 1) 1 117 := ⟨by decide +kernel, rfl⟩
theorem a0_117 : AtJ code 117 (.if_icmp .lt) 120 124 := ⟨7, by decide +kernel, rfl, by decide, rfl⟩
theorem a0_120 : AtI code 120 (.aload 14) 2 122 := ⟨by decide +kernel, rfl⟩
theorem a0_122 : AtI code 122 (.astore 18) 2 124 := ⟨by decide +kernel, rfl⟩
theorem a0_124 : AtI code 124 (.iload 11) 2 126 := ⟨by decide +kernel, rfl⟩
theorem a0_126 : AtI code 126 (.iconst 2) 1 127 := ⟨by decide +kernel, rfl⟩
theorem a0_127 : AtJ code 127 (.if_icmp .lt) 130 154 := ⟨27, by decide +kernel, rfl, by decide, rfl⟩
theorem a0_130 : AtI code 130 (.lload_n 2) 1 131 := ⟨by decide +kernel, rfl⟩
theorem a0_131 : AtI code 131 (.lload 8) 2 133 := ⟨by decide +kernel, rfl⟩
theorem a0_133 : AtI code 133 (.lload 19) 2 135 := ⟨by decide +kernel, rfl⟩
theorem a0_135 : AtI code 135 (.lload 21) 2 137 := ⟨by decide +kernel, rfl⟩
theorem a0_137 : AtI code 137 (.invokestatic 19) 3 140 := ⟨by decide +kernel, rfl⟩
theorem a0_140 : AtJ code 140 (.ifCond .eq) 143 154 := ⟨14, by decide +kernel, rfl, by decide, rfl⟩
theorem a0_143 : AtI code 143 (.aload 15) 2 145 := ⟨by decide +kernel, rfl⟩
theorem a0_145 : AtI code 145 (.astore 18) 2 147 := ⟨by decide +kernel, rfl⟩
theorem a0_147 : AtI code 147 (.lload_n 2) 1 148 := ⟨by decide +kernel, rfl⟩
theorem a0_148 : AtI code 148 (.lstore 19) 2 150 := ⟨by decide +kernel, rfl⟩
theorem a0_150 : AtI code 150 (.lload 8) 2 152 := ⟨by decide +kernel, rfl⟩
theorem a0_152 : AtI code 152 (.lstore 21) 2 154 := ⟨by decide +kernel, rfl⟩
theorem a0_154 : AtI code 154 (.iload 11) 2 156 := ⟨by decide +kernel, rfl⟩
theorem a0_156 : AtI code 156 (.iconst 3) 1 157 := ⟨by decide +kernel, rfl⟩
theorem a0_157 : AtJ code 157 (.if_icmp .lt) 160 178 := ⟨21, by decide +kernel, rfl, by decide, rfl⟩
theorem a0_160 : AtI code 160 (.lload 4) 2 162 := ⟨by decide +kernel, rfl⟩
theorem a0_162 : AtI code 162 (.lload 12) 2 164 := ⟨by decide +kernel, rfl⟩
theorem a0_164 : AtI code 164 (.lload 19) 2 166 := ⟨by decide +kernel, rfl⟩
theorem a0_166 : AtI code 166 (.lload 21) 2 168 := ⟨by decide +kernel, rfl⟩
theorem a0_168 : AtI code 168 (.invokestatic 19) 3 171 := ⟨by decide +kernel, rfl⟩
theorem a0_171 : AtJ code 171 (.ifCond .eq) 174 178 := ⟨7, by decide +kernel, rfl, by decide, rfl⟩
theorem a0_174 : AtI code 174 (.aload 16) 2 176 := ⟨by decide +kernel, rfl⟩
theorem a0_176 : AtI code 176 (.astore 18) 2 178 := ⟨by decide +kernel, rfl⟩
theorem a0_178 : AtI code 178 (.aload 17) 2 180 := ⟨by decide +kernel, rfl⟩
theorem a0_180 : AtI code 180 (.invokevirtual 25) 3 183 := ⟨by decide +kernel, rfl⟩
theorem a0_183 : AtI code 183 (.astore 23) 2 185 := ⟨by decide +kernel, rfl⟩
theorem a0_185 : AtI code 185 (.aload 17) 2 187 := ⟨by decide +kernel, rfl⟩
theorem a0_187 : AtI code 187 (.invokevirtual 25) 3 190 := ⟨by decide +kernel, rfl⟩
theorem a0_190 : AtI code 190 (.astore 24) 2 192 := ⟨by decide +kernel, rfl⟩
theorem a0_192 : AtI code 192 (.aload 23) 2 194 := ⟨by decide +kernel, rfl⟩
theorem a0_194 : AtI code 194 (.aload 18) 2 196 := ⟨by decide +kernel, rfl⟩
theorem a0_196 : AtJ code 196 (.if_acmp .ne) 199 220 := ⟨24, by decide +kernel, rfl, by decide, rfl⟩
theorem a0_199 : AtI code 199 (.aload 24) 2 201 := ⟨by decide +kernel, rfl⟩
theorem a0_201 : AtI code 201 (.aload 18) 2 203 := ⟨by decide +kernel, rfl⟩
theorem a0_203 : AtJ code 203 (.if_acmp .ne) 206 220 := ⟨17, by decide +kernel, rfl, by decide, rfl⟩
theorem a0_206 : AtI code 206 (.aload 17) 2 208 := ⟨by decide +kernel, rfl⟩
theorem a0_208 : AtI code 208 (.invokevirtual 29) 3 211 := ⟨by decide +kernel, rfl⟩
theorem a0_211 : AtI code 211 (.iload 11) 2 213 := ⟨by decide +kernel, rfl⟩
theorem a0_213 : AtJ code 213 (.if_icmp .ne) 216 220 := ⟨7, by decide +kernel, rfl, by decide, rfl⟩
theorem a0_216 : AtI code 216 (.iconst 1) 1 217 := ⟨by decide +kernel, rfl⟩
theorem a0_217 : AtJ code 217 (.goto) 220 221 := ⟨4, by decide +kernel, rfl, by decide, rfl⟩
theorem a0_220 : AtI code 220 (.iconst 0) 1 221 := ⟨by decide +kernel, rfl⟩
theorem a0_221 : AtI code 221 (.ireturn) 1 222 := ⟨by decide +kernel, rfl⟩
theorem four (x k : Int32) (h : (x &&& (3 : Int32)) = k) : k = 0 ∨ k = 1 ∨ k = 2 ∨ k = 3 := by
  have q := c_and x 3 (by decide)
  rw [h] at q
  have e : (3 : Int32).toInt = 3 := rfl
  simp only [← Int32.toInt_inj, Int32.reduceToInt]
  omega
set_option maxHeartbeats 4000000 in
theorem au1_1 {Z : State} {a0 : Array Value} (hw : ∀ d ∈ tables_1, d.before a0 Z = true) (ρ : Nat → Nat) (n0 : Nat) (t1 : Int64) (s1 : Int64) (u : Nat) : WGo (g1 Z ρ n0 1 u) (0, [wR 0, wJ t1, wS, wN, wN, wJ s1, wS], [], [(.inr (cn0, [(fk0, .long 0), (fk1, .null), (fk2, .null), (fk3, .long 0)]))], u) (fun v σ' u' => v = none ∧ [(.inr (cn0, [(fk0, (.long t1)), (fk1, .null), (fk2, .null), (fk3, (.long s1))]))] = σ' ∧ u = u') := by
  refine .s (.aloadN a1_0 rfl rfl) <| .s (.initO a1_1 (wd hw 6 rfl) (wd hw 7 rfl) (wd hw 8 rfl) rfl (Nat.le_of_ble_eq_true rfl) (Nat.le_of_ble_eq_true rfl)) <| .s (.aloadN a1_4 rfl rfl) <| .s (.lloadN a1_5 rfl) <| .s (.putF (ty := .long) 0 ((.long t1)) a1_6 (wd hw 9 rfl) rfl rfl (Or.inr ⟨(wd hw 10 rfl), rfl, rfl⟩) (wd hw 1 rfl) (by decide) rfl rfl) ?_
  show WGo _ (9, [wR 0, wJ t1, wS, wN, wN, wJ s1, wS], [], [(.inr (cn0, [(fk0, (.long t1)), (fk1, .null), (fk2, .null), (fk3, .long 0)]))], u) _
  refine .s (.aloadN a1_9 rfl rfl) <| .s (.aloadN a1_10 rfl rfl) <| .s (.putF (ty := (.object "java/util/List")) 1 (.null) a1_11 (wd hw 11 rfl) rfl rfl (Or.inr ⟨(wd hw 12 rfl), rfl, rfl⟩) (wd hw 1 rfl) (by decide) rfl rfl) ?_
  show WGo _ (14, [wR 0, wJ t1, wS, wN, wN, wJ s1, wS], [], [(.inr (cn0, [(fk0, (.long t1)), (fk1, .null), (fk2, .null), (fk3, .long 0)]))], u) _
  refine .s (.aloadN a1_14 rfl rfl) <| .s (.aload a1_15 rfl rfl) <| .s (.putF (ty := (.object "java/lang/Object")) 2 (.null) a1_17 (wd hw 13 rfl) rfl rfl (Or.inr ⟨(wd hw 14 rfl), rfl, rfl⟩) (wd hw 1 rfl) (by decide) rfl rfl) ?_
  show WGo _ (20, [wR 0, wJ t1, wS, wN, wN, wJ s1, wS], [], [(.inr (cn0, [(fk0, (.long t1)), (fk1, .null), (fk2, .null), (fk3, .long 0)]))], u) _
  refine .s (.aloadN a1_20 rfl rfl) <| .s (.lload a1_21 rfl) <| .s (.putF (ty := .long) 3 ((.long s1)) a1_23 (wd hw 15 rfl) rfl rfl (Or.inr ⟨(wd hw 16 rfl), rfl, rfl⟩) (wd hw 1 rfl) (by decide) rfl rfl) ?_
  show WGo _ (26, [wR 0, wJ t1, wS, wN, wN, wJ s1, wS], [], [(.inr (cn0, [(fk0, (.long t1)), (fk1, .null), (fk2, .null), (fk3, (.long s1))]))], u) _
  refine .vreturn a1_26 rfl ?_
  exact ⟨rfl, rfl, rfl⟩
set_option maxHeartbeats 4000000 in
theorem au1_2 {Z : State} {a0 : Array Value} (hw : ∀ d ∈ tables_1, d.before a0 Z = true) (ρ : Nat → Nat) (n0 : Nat) (t1 : Int64) (t2 : Int64) (s1 : Int64) (s2 : Int64) (u : Nat) : WGo (g1 Z ρ n0 2 u) (0, [wR 1, wJ t2, wS, wN, wN, wJ s2, wS], [], [(.inr (cn0, [(fk0, (.long t1)), (fk1, .null), (fk2, .null), (fk3, (.long s1))])), (.inr (cn0, [(fk0, .long 0), (fk1, .null), (fk2, .null), (fk3, .long 0)]))], u) (fun v σ' u' => v = none ∧ [(.inr (cn0, [(fk0, (.long t1)), (fk1, .null), (fk2, .null), (fk3, (.long s1))])), (.inr (cn0, [(fk0, (.long t2)), (fk1, .null), (fk2, .null), (fk3, (.long s2))]))] = σ' ∧ u = u') := by
  refine .s (.aloadN a1_0 rfl rfl) <| .s (.initO a1_1 (wd hw 6 rfl) (wd hw 7 rfl) (wd hw 8 rfl) rfl (Nat.le_of_ble_eq_true rfl) (Nat.le_of_ble_eq_true rfl)) <| .s (.aloadN a1_4 rfl rfl) <| .s (.lloadN a1_5 rfl) <| .s (.putF (ty := .long) 0 ((.long t2)) a1_6 (wd hw 9 rfl) rfl rfl (Or.inr ⟨(wd hw 10 rfl), rfl, rfl⟩) (wd hw 1 rfl) (by decide) rfl rfl) ?_
  show WGo _ (9, [wR 1, wJ t2, wS, wN, wN, wJ s2, wS], [], [(.inr (cn0, [(fk0, (.long t1)), (fk1, .null), (fk2, .null), (fk3, (.long s1))])), (.inr (cn0, [(fk0, (.long t2)), (fk1, .null), (fk2, .null), (fk3, .long 0)]))], u) _
  refine .s (.aloadN a1_9 rfl rfl) <| .s (.aloadN a1_10 rfl rfl) <| .s (.putF (ty := (.object "java/util/List")) 1 (.null) a1_11 (wd hw 11 rfl) rfl rfl (Or.inr ⟨(wd hw 12 rfl), rfl, rfl⟩) (wd hw 1 rfl) (by decide) rfl rfl) ?_
  show WGo _ (14, [wR 1, wJ t2, wS, wN, wN, wJ s2, wS], [], [(.inr (cn0, [(fk0, (.long t1)), (fk1, .null), (fk2, .null), (fk3, (.long s1))])), (.inr (cn0, [(fk0, (.long t2)), (fk1, .null), (fk2, .null), (fk3, .long 0)]))], u) _
  refine .s (.aloadN a1_14 rfl rfl) <| .s (.aload a1_15 rfl rfl) <| .s (.putF (ty := (.object "java/lang/Object")) 2 (.null) a1_17 (wd hw 13 rfl) rfl rfl (Or.inr ⟨(wd hw 14 rfl), rfl, rfl⟩) (wd hw 1 rfl) (by decide) rfl rfl) ?_
  show WGo _ (20, [wR 1, wJ t2, wS, wN, wN, wJ s2, wS], [], [(.inr (cn0, [(fk0, (.long t1)), (fk1, .null), (fk2, .null), (fk3, (.long s1))])), (.inr (cn0, [(fk0, (.long t2)), (fk1, .null), (fk2, .null), (fk3, .long 0)]))], u) _
  refine .s (.aloadN a1_20 rfl rfl) <| .s (.lload a1_21 rfl) <| .s (.putF (ty := .long) 3 ((.long s2)) a1_23 (wd hw 15 rfl) rfl rfl (Or.inr ⟨(wd hw 16 rfl), rfl, rfl⟩) (wd hw 1 rfl) (by decide) rfl rfl) ?_
  show WGo _ (26, [wR 1, wJ t2, wS, wN, wN, wJ s2, wS], [], [(.inr (cn0, [(fk0, (.long t1)), (fk1, .null), (fk2, .null), (fk3, (.long s1))])), (.inr (cn0, [(fk0, (.long t2)), (fk1, .null), (fk2, .null), (fk3, (.long s2))]))], u) _
  refine .vreturn a1_26 rfl ?_
  exact ⟨rfl, rfl, rfl⟩
set_option maxHeartbeats 4000000 in
theorem au1_3 {Z : State} {a0 : Array Value} (hw : ∀ d ∈ tables_1, d.before a0 Z = true) (ρ : Nat → Nat) (n0 : Nat) (t1 : Int64) (t2 : Int64) (t3 : Int64) (s1 : Int64) (s2 : Int64) (s3 : Int64) (u : Nat) : WGo (g1 Z ρ n0 3 u) (0, [wR 2, wJ t3, wS, wN, wN, wJ s3, wS], [], [(.inr (cn0, [(fk0, (.long t1)), (fk1, .null), (fk2, .null), (fk3, (.long s1))])), (.inr (cn0, [(fk0, (.long t2)), (fk1, .null), (fk2, .null), (fk3, (.long s2))])), (.inr (cn0, [(fk0, .long 0), (fk1, .null), (fk2, .null), (fk3, .long 0)]))], u) (fun v σ' u' => v = none ∧ [(.inr (cn0, [(fk0, (.long t1)), (fk1, .null), (fk2, .null), (fk3, (.long s1))])), (.inr (cn0, [(fk0, (.long t2)), (fk1, .null), (fk2, .null), (fk3, (.long s2))])), (.inr (cn0, [(fk0, (.long t3)), (fk1, .null), (fk2, .null), (fk3, (.long s3))]))] = σ' ∧ u = u') := by
  refine .s (.aloadN a1_0 rfl rfl) <| .s (.initO a1_1 (wd hw 6 rfl) (wd hw 7 rfl) (wd hw 8 rfl) rfl (Nat.le_of_ble_eq_true rfl) (Nat.le_of_ble_eq_true rfl)) <| .s (.aloadN a1_4 rfl rfl) <| .s (.lloadN a1_5 rfl) <| .s (.putF (ty := .long) 0 ((.long t3)) a1_6 (wd hw 9 rfl) rfl rfl (Or.inr ⟨(wd hw 10 rfl), rfl, rfl⟩) (wd hw 1 rfl) (by decide) rfl rfl) ?_
  show WGo _ (9, [wR 2, wJ t3, wS, wN, wN, wJ s3, wS], [], [(.inr (cn0, [(fk0, (.long t1)), (fk1, .null), (fk2, .null), (fk3, (.long s1))])), (.inr (cn0, [(fk0, (.long t2)), (fk1, .null), (fk2, .null), (fk3, (.long s2))])), (.inr (cn0, [(fk0, (.long t3)), (fk1, .null), (fk2, .null), (fk3, .long 0)]))], u) _
  refine .s (.aloadN a1_9 rfl rfl) <| .s (.aloadN a1_10 rfl rfl) <| .s (.putF (ty := (.object "java/util/List")) 1 (.null) a1_11 (wd hw 11 rfl) rfl rfl (Or.inr ⟨(wd hw 12 rfl), rfl, rfl⟩) (wd hw 1 rfl) (by decide) rfl rfl) ?_
  show WGo _ (14, [wR 2, wJ t3, wS, wN, wN, wJ s3, wS], [], [(.inr (cn0, [(fk0, (.long t1)), (fk1, .null), (fk2, .null), (fk3, (.long s1))])), (.inr (cn0, [(fk0, (.long t2)), (fk1, .null), (fk2, .null), (fk3, (.long s2))])), (.inr (cn0, [(fk0, (.long t3)), (fk1, .null), (fk2, .null), (fk3, .long 0)]))], u) _
  refine .s (.aloadN a1_14 rfl rfl) <| .s (.aload a1_15 rfl rfl) <| .s (.putF (ty := (.object "java/lang/Object")) 2 (.null) a1_17 (wd hw 13 rfl) rfl rfl (Or.inr ⟨(wd hw 14 rfl), rfl, rfl⟩) (wd hw 1 rfl) (by decide) rfl rfl) ?_
  show WGo _ (20, [wR 2, wJ t3, wS, wN, wN, wJ s3, wS], [], [(.inr (cn0, [(fk0, (.long t1)), (fk1, .null), (fk2, .null), (fk3, (.long s1))])), (.inr (cn0, [(fk0, (.long t2)), (fk1, .null), (fk2, .null), (fk3, (.long s2))])), (.inr (cn0, [(fk0, (.long t3)), (fk1, .null), (fk2, .null), (fk3, .long 0)]))], u) _
  refine .s (.aloadN a1_20 rfl rfl) <| .s (.lload a1_21 rfl) <| .s (.putF (ty := .long) 3 ((.long s3)) a1_23 (wd hw 15 rfl) rfl rfl (Or.inr ⟨(wd hw 16 rfl), rfl, rfl⟩) (wd hw 1 rfl) (by decide) rfl rfl) ?_
  show WGo _ (26, [wR 2, wJ t3, wS, wN, wN, wJ s3, wS], [], [(.inr (cn0, [(fk0, (.long t1)), (fk1, .null), (fk2, .null), (fk3, (.long s1))])), (.inr (cn0, [(fk0, (.long t2)), (fk1, .null), (fk2, .null), (fk3, (.long s2))])), (.inr (cn0, [(fk0, (.long t3)), (fk1, .null), (fk2, .null), (fk3, (.long s3))]))], u) _
  refine .vreturn a1_26 rfl ?_
  exact ⟨rfl, rfl, rfl⟩
set_option maxHeartbeats 4000000 in
theorem au4_5 {Z : State} {a0 : Array Value} (hw : ∀ d ∈ tables_1, d.before a0 Z = true) (ρ : Nat → Nat) (n0 : Nat) (t1 : Int64) (t2 : Int64) (t3 : Int64) (s1 : Int64) (s2 : Int64) (s3 : Int64) (u : Nat) : WGo (g4 Z ρ n0 4 u) (0, [wI 8], [], [(.inr (cn0, [(fk0, (.long t1)), (fk1, .null), (fk2, .null), (fk3, (.long s1))])), (.inr (cn0, [(fk0, (.long t2)), (fk1, .null), (fk2, .null), (fk3, (.long s2))])), (.inr (cn0, [(fk0, (.long t3)), (fk1, .null), (fk2, .null), (fk3, (.long s3))])), (.inr (cn1, [(fk4, .null), (fk5, .int 0)]))], u) (fun v σ' u' => v = some (.ref 4) ∧ [(.inr (cn0, [(fk0, (.long t1)), (fk1, .null), (fk2, .null), (fk3, (.long s1))])), (.inr (cn0, [(fk0, (.long t2)), (fk1, .null), (fk2, .null), (fk3, (.long s2))])), (.inr (cn0, [(fk0, (.long t3)), (fk1, .null), (fk2, .null), (fk3, (.long s3))])), (.inr (cn1, [(fk4, .null), (fk5, .int 0)])), (.inl ((.object "com/example/chronogate/chronogate/Event"), [.null, .null, .null, .null, .null, .null, .null, .null]))] = σ' ∧ (u + 8) = u') := by
  refine .s (.iloadN a4_0 rfl) <| .s (.newR (k := 4) (8 : Int32) 8 a4_1 (wd hw 27 rfl) (wd hw 28 rfl) (by decide) rfl (by decide) rfl (by decide)) ?_
  show WGo _ (4, [wI 8], [.ref 4], [(.inr (cn0, [(fk0, (.long t1)), (fk1, .null), (fk2, .null), (fk3, (.long s1))])), (.inr (cn0, [(fk0, (.long t2)), (fk1, .null), (fk2, .null), (fk3, (.long s2))])), (.inr (cn0, [(fk0, (.long t3)), (fk1, .null), (fk2, .null), (fk3, (.long s3))])), (.inr (cn1, [(fk4, .null), (fk5, .int 0)])), (.inl ((.object "com/example/chronogate/chronogate/Event"), [.null, .null, .null, .null, .null, .null, .null, .null]))], (u + 8)) _
  refine .areturn (.array (.object "com/example/chronogate/chronogate/Event")) a4_4 rfl rfl rfl ?_
  exact ⟨rfl, rfl, rfl⟩
set_option maxHeartbeats 4000000 in
theorem au3_4 {Z : State} {a0 : Array Value} (hw : ∀ d ∈ tables_1, d.before a0 Z = true) (ρ : Nat → Nat) (n0 : Nat) (t1 : Int64) (t2 : Int64) (t3 : Int64) (s1 : Int64) (s2 : Int64) (s3 : Int64) (u : Nat) : WGo (g3 Z ρ n0 4 u) (0, [wR 3], [], [(.inr (cn0, [(fk0, (.long t1)), (fk1, .null), (fk2, .null), (fk3, (.long s1))])), (.inr (cn0, [(fk0, (.long t2)), (fk1, .null), (fk2, .null), (fk3, (.long s2))])), (.inr (cn0, [(fk0, (.long t3)), (fk1, .null), (fk2, .null), (fk3, (.long s3))])), (.inr (cn1, [(fk4, .null), (fk5, .int 0)]))], u) (fun v σ' u' => v = none ∧ [(.inr (cn0, [(fk0, (.long t1)), (fk1, .null), (fk2, .null), (fk3, (.long s1))])), (.inr (cn0, [(fk0, (.long t2)), (fk1, .null), (fk2, .null), (fk3, (.long s2))])), (.inr (cn0, [(fk0, (.long t3)), (fk1, .null), (fk2, .null), (fk3, (.long s3))])), (.inr (cn1, [(fk4, .ref 4), (fk5, .int 0)])), (.inl ((.object "com/example/chronogate/chronogate/Event"), [.null, .null, .null, .null, .null, .null, .null, .null]))] = σ' ∧ (u + 8) = u') := by
  refine .s (.aloadN a3_0 rfl rfl) <| .s (.initO a3_1 (wd hw 23 rfl) (wd hw 7 rfl) (wd hw 8 rfl) rfl (Nat.le_of_ble_eq_true rfl) (Nat.le_of_ble_eq_true rfl)) <| .s (.aloadN a3_4 rfl rfl) <| .s (.bipush (8 : Int32) a3_5 rfl) ?_
  refine .callS a3_7 (ok4 hw _ _ _ _) (wd hw 24 rfl) (wd hw 25 rfl) (argsL := [.int 8]) (S := [.ref 3]) (au4_5 hw _ _ t1 t2 t3 s1 s2 s3 _) rfl rfl rfl rfl rfl rfl (Nat.le_of_ble_eq_true rfl) (Nat.le_of_ble_eq_true rfl) ?_
  rintro _ _ _ ⟨rfl, rfl, rfl⟩
  show WGo _ (10, [wR 3], [.ref 4, .ref 3], [(.inr (cn0, [(fk0, (.long t1)), (fk1, .null), (fk2, .null), (fk3, (.long s1))])), (.inr (cn0, [(fk0, (.long t2)), (fk1, .null), (fk2, .null), (fk3, (.long s2))])), (.inr (cn0, [(fk0, (.long t3)), (fk1, .null), (fk2, .null), (fk3, (.long s3))])), (.inr (cn1, [(fk4, .null), (fk5, .int 0)])), (.inl ((.object "com/example/chronogate/chronogate/Event"), [.null, .null, .null, .null, .null, .null, .null, .null]))], (u + 8)) _
  refine .s (.putF (ty := (.array (.object "com/example/chronogate/chronogate/Event"))) 0 (.ref 4) a3_10 (wd hw 29 rfl) rfl rfl (Or.inl (wd hw 30 rfl)) (wd hw 18 rfl) (by decide) rfl rfl) ?_
  show WGo _ (13, [wR 3], [], [(.inr (cn0, [(fk0, (.long t1)), (fk1, .null), (fk2, .null), (fk3, (.long s1))])), (.inr (cn0, [(fk0, (.long t2)), (fk1, .null), (fk2, .null), (fk3, (.long s2))])), (.inr (cn0, [(fk0, (.long t3)), (fk1, .null), (fk2, .null), (fk3, (.long s3))])), (.inr (cn1, [(fk4, .ref 4), (fk5, .int 0)])), (.inl ((.object "com/example/chronogate/chronogate/Event"), [.null, .null, .null, .null, .null, .null, .null, .null]))], (u + 8)) _
  refine .vreturn a3_13 rfl ?_
  exact ⟨rfl, rfl, rfl⟩
set_option maxHeartbeats 4000000 in
theorem au9_6 {Z : State} {a0 : Array Value} (hw : ∀ d ∈ tables_1, d.before a0 Z = true) (ρ : Nat → Nat) (n0 : Nat) (t1 : Int64) (t2 : Int64) (t3 : Int64) (s1 : Int64) (s2 : Int64) (s3 : Int64) (u : Nat) : WGo (g9 Z ρ n0 5 u) (0, [wR 3], [], [(.inr (cn0, [(fk0, (.long t1)), (fk1, .null), (fk2, .null), (fk3, (.long s1))])), (.inr (cn0, [(fk0, (.long t2)), (fk1, .null), (fk2, .null), (fk3, (.long s2))])), (.inr (cn0, [(fk0, (.long t3)), (fk1, .null), (fk2, .null), (fk3, (.long s3))])), (.inr (cn1, [(fk4, .ref 4), (fk5, .int 0)])), (.inl ((.object "com/example/chronogate/chronogate/Event"), [.null, .null, .null, .null, .null, .null, .null, .null]))], u) (fun v σ' u' => v = some (.null) ∧ [(.inr (cn0, [(fk0, (.long t1)), (fk1, .null), (fk2, .null), (fk3, (.long s1))])), (.inr (cn0, [(fk0, (.long t2)), (fk1, .null), (fk2, .null), (fk3, (.long s2))])), (.inr (cn0, [(fk0, (.long t3)), (fk1, .null), (fk2, .null), (fk3, (.long s3))])), (.inr (cn1, [(fk4, .ref 4), (fk5, .int 0)])), (.inl ((.object "com/example/chronogate/chronogate/Event"), [.null, .null, .null, .null, .null, .null, .null, .null]))] = σ' ∧ u = u') := by
  refine .s (.aloadN a9_0 rfl rfl) <| .s (.getF 1 a9_1 (wd hw 36 rfl) rfl rfl) <| .s (.ifF a9_4 (by decide)) <| .s (.aconstNull a9_7) <| .s (.goto a9_8) ?_
  refine .areturn (.object "com/example/chronogate/chronogate/Event") a9_17 rfl rfl rfl ?_
  exact ⟨rfl, rfl, rfl⟩
set_option maxHeartbeats 4000000 in
theorem au10_7 {Z : State} {a0 : Array Value} (hw : ∀ d ∈ tables_1, d.before a0 Z = true) (ρ : Nat → Nat) (n0 : Nat) (t1 : Int64) (t2 : Int64) (t3 : Int64) (s1 : Int64) (s2 : Int64) (s3 : Int64) (u : Nat) : WGo (g10 Z ρ n0 5 u) (0, [wR 3], [], [(.inr (cn0, [(fk0, (.long t1)), (fk1, .null), (fk2, .null), (fk3, (.long s1))])), (.inr (cn0, [(fk0, (.long t2)), (fk1, .null), (fk2, .null), (fk3, (.long s2))])), (.inr (cn0, [(fk0, (.long t3)), (fk1, .null), (fk2, .null), (fk3, (.long s3))])), (.inr (cn1, [(fk4, .ref 4), (fk5, .int 0)])), (.inl ((.object "com/example/chronogate/chronogate/Event"), [.null, .null, .null, .null, .null, .null, .null, .null]))], u) (fun v σ' u' => v = some (.int 0) ∧ [(.inr (cn0, [(fk0, (.long t1)), (fk1, .null), (fk2, .null), (fk3, (.long s1))])), (.inr (cn0, [(fk0, (.long t2)), (fk1, .null), (fk2, .null), (fk3, (.long s2))])), (.inr (cn0, [(fk0, (.long t3)), (fk1, .null), (fk2, .null), (fk3, (.long s3))])), (.inr (cn1, [(fk4, .ref 4), (fk5, .int 0)])), (.inl ((.object "com/example/chronogate/chronogate/Event"), [.null, .null, .null, .null, .null, .null, .null, .null]))] = σ' ∧ u = u') := by
  refine .s (.aloadN a10_0 rfl rfl) <| .s (.getF 1 a10_1 (wd hw 36 rfl) rfl rfl) ?_
  refine .ireturn .int a10_4 rfl (by simp) ?_
  exact ⟨rfl, rfl, rfl⟩
set_option maxHeartbeats 40000000 in
theorem seg0 (Z : State) (a0 : Array Value) (hw : ∀ d ∈ tables_1, d.before a0 Z = true) (n0 : Nat) (t1 t2 t3 s1 s2 : Int64) (mode : Int32) (s3 : Int64) : WGo (g0 Z (fun k => n0 + k) n0 0 0) (13, [wJ t1, wS, wJ t2, wS, wJ t3, wS, wJ s1, wS, wJ s2, wS, wI mode, wI 0, wJ s3, wS, wU, wU, wU, wU, wU, wU, wU, wU, wU, wU, wU], [], [], 0) (fun v σ' u' => v = some (.int 1) ∧ σ'.length ≤ 24 ∧ u' ≤ 128) := by
  refine .s (.newO (k := 0) [(fk0, .long 0), (fk1, .null), (fk2, .null), (fk3, .long 0)] a0_13 (wd hw 0 rfl) (wd hw 1 rfl) (wd hw 2 rfl) ⟨⟨Or.inr (wd hw 10 rfl), .long, by decide, rfl⟩, ⟨Or.inr (wd hw 12 rfl), (.object "java/util/List"), by decide, rfl⟩, ⟨Or.inr (wd hw 14 rfl), (.object "java/lang/Object"), by decide, rfl⟩, ⟨Or.inr (wd hw 16 rfl), .long, by decide, rfl⟩, trivial⟩ (by decide) rfl (by decide)) ?_
  show WGo _ (16, [wJ t1, wS, wJ t2, wS, wJ t3, wS, wJ s1, wS, wJ s2, wS, wI mode, wI 0, wJ s3, wS, wU, wU, wU, wU, wU, wU, wU, wU, wU, wU, wU], [.ref 0], [(.inr (cn0, [(fk0, .long 0), (fk1, .null), (fk2, .null), (fk3, .long 0)]))], 4) _
  refine .s (.dup a0_16 rfl) <| .s (.lloadN a0_17 rfl) <| .s (.aconstNull a0_18) <| .s (.aconstNull a0_19) <| .s (.lload a0_20 rfl) ?_
  refine .callI (k := 0) a0_22 (ok1 hw _ _ _ _) rfl rfl (wd hw 3 rfl) (wd hw 4 rfl) (by decide) (argsL := [(.long t1), .null, .null, (.long s1)]) (S := [.ref 0]) (au1_1 hw _ _ t1 s1 _) rfl rfl rfl rfl rfl rfl (Nat.le_of_ble_eq_true rfl) (Nat.le_of_ble_eq_true rfl) ?_
  rintro _ _ _ ⟨rfl, rfl, rfl⟩
  show WGo _ (25, [wJ t1, wS, wJ t2, wS, wJ t3, wS, wJ s1, wS, wJ s2, wS, wI mode, wI 0, wJ s3, wS, wU, wU, wU, wU, wU, wU, wU, wU, wU, wU, wU], [.ref 0], [(.inr (cn0, [(fk0, (.long t1)), (fk1, .null), (fk2, .null), (fk3, (.long s1))]))], 4) _
  refine .s (.astore (L' := [wJ t1, wS, wJ t2, wS, wJ t3, wS, wJ s1, wS, wJ s2, wS, wI mode, wI 0, wJ s3, wS, wR 0, wU, wU, wU, wU, wU, wU, wU, wU, wU, wU]) a0_25 rfl rfl) <| .s (.newO (k := 1) [(fk0, .long 0), (fk1, .null), (fk2, .null), (fk3, .long 0)] a0_27 (wd hw 0 rfl) (wd hw 1 rfl) (wd hw 2 rfl) ⟨⟨Or.inr (wd hw 10 rfl), .long, by decide, rfl⟩, ⟨Or.inr (wd hw 12 rfl), (.object "java/util/List"), by decide, rfl⟩, ⟨Or.inr (wd hw 14 rfl), (.object "java/lang/Object"), by decide, rfl⟩, ⟨Or.inr (wd hw 16 rfl), .long, by decide, rfl⟩, trivial⟩ (by decide) rfl (by decide)) ?_
  show WGo _ (30, [wJ t1, wS, wJ t2, wS, wJ t3, wS, wJ s1, wS, wJ s2, wS, wI mode, wI 0, wJ s3, wS, wR 0, wU, wU, wU, wU, wU, wU, wU, wU, wU, wU], [.ref 1], [(.inr (cn0, [(fk0, (.long t1)), (fk1, .null), (fk2, .null), (fk3, (.long s1))])), (.inr (cn0, [(fk0, .long 0), (fk1, .null), (fk2, .null), (fk3, .long 0)]))], 8) _
  refine .s (.dup a0_30 rfl) <| .s (.lloadN a0_31 rfl) <| .s (.aconstNull a0_32) <| .s (.aconstNull a0_33) <| .s (.lload a0_34 rfl) ?_
  refine .callI (k := 1) a0_36 (ok1 hw _ _ _ _) rfl rfl (wd hw 3 rfl) (wd hw 4 rfl) (by decide) (argsL := [(.long t2), .null, .null, (.long s2)]) (S := [.ref 1]) (au1_2 hw _ _ t1 t2 s1 s2 _) rfl rfl rfl rfl rfl rfl (Nat.le_of_ble_eq_true rfl) (Nat.le_of_ble_eq_true rfl) ?_
  rintro _ _ _ ⟨rfl, rfl, rfl⟩
  show WGo _ (39, [wJ t1, wS, wJ t2, wS, wJ t3, wS, wJ s1, wS, wJ s2, wS, wI mode, wI 0, wJ s3, wS, wR 0, wU, wU, wU, wU, wU, wU, wU, wU, wU, wU], [.ref 1], [(.inr (cn0, [(fk0, (.long t1)), (fk1, .null), (fk2, .null), (fk3, (.long s1))])), (.inr (cn0, [(fk0, (.long t2)), (fk1, .null), (fk2, .null), (fk3, (.long s2))]))], 8) _
  refine .s (.astore (L' := [wJ t1, wS, wJ t2, wS, wJ t3, wS, wJ s1, wS, wJ s2, wS, wI mode, wI 0, wJ s3, wS, wR 0, wR 1, wU, wU, wU, wU, wU, wU, wU, wU, wU]) a0_39 rfl rfl) <| .s (.newO (k := 2) [(fk0, .long 0), (fk1, .null), (fk2, .null), (fk3, .long 0)] a0_41 (wd hw 0 rfl) (wd hw 1 rfl) (wd hw 2 rfl) ⟨⟨Or.inr (wd hw 10 rfl), .long, by decide, rfl⟩, ⟨Or.inr (wd hw 12 rfl), (.object "java/util/List"), by decide, rfl⟩, ⟨Or.inr (wd hw 14 rfl), (.object "java/lang/Object"), by decide, rfl⟩, ⟨Or.inr (wd hw 16 rfl), .long, by decide, rfl⟩, trivial⟩ (by decide) rfl (by decide)) ?_
  show WGo _ (44, [wJ t1, wS, wJ t2, wS, wJ t3, wS, wJ s1, wS, wJ s2, wS, wI mode, wI 0, wJ s3, wS, wR 0, wR 1, wU, wU, wU, wU, wU, wU, wU, wU, wU], [.ref 2], [(.inr (cn0, [(fk0, (.long t1)), (fk1, .null), (fk2, .null), (fk3, (.long s1))])), (.inr (cn0, [(fk0, (.long t2)), (fk1, .null), (fk2, .null), (fk3, (.long s2))])), (.inr (cn0, [(fk0, .long 0), (fk1, .null), (fk2, .null), (fk3, .long 0)]))], 12) _
  refine .s (.dup a0_44 rfl) <| .s (.lload a0_45 rfl) <| .s (.aconstNull a0_47) <| .s (.aconstNull a0_48) <| .s (.lload a0_49 rfl) ?_
  refine .callI (k := 2) a0_51 (ok1 hw _ _ _ _) rfl rfl (wd hw 3 rfl) (wd hw 4 rfl) (by decide) (argsL := [(.long t3), .null, .null, (.long s3)]) (S := [.ref 2]) (au1_3 hw _ _ t1 t2 t3 s1 s2 s3 _) rfl rfl rfl rfl rfl rfl (Nat.le_of_ble_eq_true rfl) (Nat.le_of_ble_eq_true rfl) ?_
  rintro _ _ _ ⟨rfl, rfl, rfl⟩
  show WGo _ (54, [wJ t1, wS, wJ t2, wS, wJ t3, wS, wJ s1, wS, wJ s2, wS, wI mode, wI 0, wJ s3, wS, wR 0, wR 1, wU, wU, wU, wU, wU, wU, wU, wU, wU], [.ref 2], [(.inr (cn0, [(fk0, (.long t1)), (fk1, .null), (fk2, .null), (fk3, (.long s1))])), (.inr (cn0, [(fk0, (.long t2)), (fk1, .null), (fk2, .null), (fk3, (.long s2))])), (.inr (cn0, [(fk0, (.long t3)), (fk1, .null), (fk2, .null), (fk3, (.long s3))]))], 12) _
  refine .s (.astore (L' := [wJ t1, wS, wJ t2, wS, wJ t3, wS, wJ s1, wS, wJ s2, wS, wI mode, wI 0, wJ s3, wS, wR 0, wR 1, wR 2, wU, wU, wU, wU, wU, wU, wU, wU]) a0_54 rfl rfl) <| .s (.newO (k := 3) [(fk4, .null), (fk5, .int 0)] a0_56 (wd hw 17 rfl) (wd hw 18 rfl) (wd hw 19 rfl) ⟨⟨Or.inl (wd hw 30 rfl), (.array (.object "com/example/chronogate/chronogate/Event")), by decide, rfl⟩, ⟨Or.inl (wd hw 37 rfl), .int, by decide, rfl⟩, trivial⟩ (by decide) rfl (by decide)) ?_
  show WGo _ (59, [wJ t1, wS, wJ t2, wS, wJ t3, wS, wJ s1, wS, wJ s2, wS, wI mode, wI 0, wJ s3, wS, wR 0, wR 1, wR 2, wU, wU, wU, wU, wU, wU, wU, wU], [.ref 3], [(.inr (cn0, [(fk0, (.long t1)), (fk1, .null), (fk2, .null), (fk3, (.long s1))])), (.inr (cn0, [(fk0, (.long t2)), (fk1, .null), (fk2, .null), (fk3, (.long s2))])), (.inr (cn0, [(fk0, (.long t3)), (fk1, .null), (fk2, .null), (fk3, (.long s3))])), (.inr (cn1, [(fk4, .null), (fk5, .int 0)]))], 14) _
  refine .s (.dup a0_59 rfl) ?_
  refine .callI (k := 3) a0_60 (ok3 hw _ _ _ _) rfl rfl (wd hw 20 rfl) (wd hw 21 rfl) (by decide) (argsL := []) (S := [.ref 3]) (au3_4 hw _ _ t1 t2 t3 s1 s2 s3 _) rfl rfl rfl rfl rfl rfl (Nat.le_of_ble_eq_true rfl) (Nat.le_of_ble_eq_true rfl) ?_
  rintro _ _ _ ⟨rfl, rfl, rfl⟩
  show WGo _ (63, [wJ t1, wS, wJ t2, wS, wJ t3, wS, wJ s1, wS, wJ s2, wS, wI mode, wI 0, wJ s3, wS, wR 0, wR 1, wR 2, wU, wU, wU, wU, wU, wU, wU, wU], [.ref 3], [(.inr (cn0, [(fk0, (.long t1)), (fk1, .null), (fk2, .null), (fk3, (.long s1))])), (.inr (cn0, [(fk0, (.long t2)), (fk1, .null), (fk2, .null), (fk3, (.long s2))])), (.inr (cn0, [(fk0, (.long t3)), (fk1, .null), (fk2, .null), (fk3, (.long s3))])), (.inr (cn1, [(fk4, .ref 4), (fk5, .int 0)])), (.inl ((.object "com/example/chronogate/chronogate/Event"), [.null, .null, .null, .null, .null, .null, .null, .null]))], 22) _
  refine .s (.astore (L' := [wJ t1, wS, wJ t2, wS, wJ t3, wS, wJ s1, wS, wJ s2, wS, wI mode, wI 0, wJ s3, wS, wR 0, wR 1, wR 2, wR 3, wU, wU, wU, wU, wU, wU, wU]) a0_63 rfl rfl) <| .s (.iload a0_65 rfl) <| .s (.iconst (1 : Int32) a0_67 rfl) <| .s (.icmpT a0_68 (by decide)) <| .s (.iload a0_78 rfl) <| .s (.iconst (2 : Int32) a0_80 rfl) <| .s (.icmpT a0_81 (by decide)) ?_
  refine .s (.iload a0_91 rfl) <| .s (.iconst (3 : Int32) a0_93 rfl) <| .s (.icmpT a0_94 (by decide)) <| .s (.aconstNull a0_104) <| .s (.astore (L' := [wJ t1, wS, wJ t2, wS, wJ t3, wS, wJ s1, wS, wJ s2, wS, wI mode, wI 0, wJ s3, wS, wR 0, wR 1, wR 2, wR 3, wN, wU, wU, wU, wU, wU, wU]) a0_105 rfl rfl) <| .s (.lloadN a0_107 rfl) <| .s (.lstore (L' := [wJ t1, wS, wJ t2, wS, wJ t3, wS, wJ s1, wS, wJ s2, wS, wI mode, wI 0, wJ s3, wS, wR 0, wR 1, wR 2, wR 3, wN, wJ t1, wS, wU, wU, wU, wU]) a0_108 rfl) ?_
  refine .s (.lload a0_110 rfl) <| .s (.lstore (L' := [wJ t1, wS, wJ t2, wS, wJ t3, wS, wJ s1, wS, wJ s2, wS, wI mode, wI 0, wJ s3, wS, wR 0, wR 1, wR 2, wR 3, wN, wJ t1, wS, wJ s1, wS, wU, wU]) a0_112 rfl) <| .s (.iload a0_114 rfl) <| .s (.iconst (1 : Int32) a0_116 rfl) <| .s (.icmpT a0_117 (by decide)) <| .s (.iload a0_124 rfl) <| .s (.iconst (2 : Int32) a0_126 rfl) ?_
  refine .s (.icmpT a0_127 (by decide)) <| .s (.iload a0_154 rfl) <| .s (.iconst (3 : Int32) a0_156 rfl) <| .s (.icmpT a0_157 (by decide)) <| .s (.aload a0_178 rfl rfl) ?_
  refine .callV (k := 3) (z := (⟨"com/example/chronogate/chronogate/ReleaseQueue", "peek", "()Lcom/example/chronogate/chronogate/Event;"⟩ : MethodName)) a0_180 (ok9 hw _ _ _ _) ⟨rfl, by decide⟩ (wd hw 50 rfl) (wd hw 51 rfl) (fun s hZ => notFace_of_selects (args := #[]) (mvT hZ (wd hw 53 rfl))) (wd hw 53 rfl) (wd hw 52 rfl) rfl (argsL := []) (S := []) (au9_6 hw _ _ t1 t2 t3 s1 s2 s3 _) rfl rfl rfl rfl rfl rfl (Nat.le_of_ble_eq_true rfl) (Nat.le_of_ble_eq_true rfl) ?_
  rintro _ _ _ ⟨rfl, rfl, rfl⟩
  show WGo _ (183, [wJ t1, wS, wJ t2, wS, wJ t3, wS, wJ s1, wS, wJ s2, wS, wI mode, wI 0, wJ s3, wS, wR 0, wR 1, wR 2, wR 3, wN, wJ t1, wS, wJ s1, wS, wU, wU], [.null], [(.inr (cn0, [(fk0, (.long t1)), (fk1, .null), (fk2, .null), (fk3, (.long s1))])), (.inr (cn0, [(fk0, (.long t2)), (fk1, .null), (fk2, .null), (fk3, (.long s2))])), (.inr (cn0, [(fk0, (.long t3)), (fk1, .null), (fk2, .null), (fk3, (.long s3))])), (.inr (cn1, [(fk4, .ref 4), (fk5, .int 0)])), (.inl ((.object "com/example/chronogate/chronogate/Event"), [.null, .null, .null, .null, .null, .null, .null, .null]))], 22) _
  refine .s (.astore (L' := [wJ t1, wS, wJ t2, wS, wJ t3, wS, wJ s1, wS, wJ s2, wS, wI mode, wI 0, wJ s3, wS, wR 0, wR 1, wR 2, wR 3, wN, wJ t1, wS, wJ s1, wS, wN, wU]) a0_183 rfl rfl) <| .s (.aload a0_185 rfl rfl) ?_
  refine .callV (k := 3) (z := (⟨"com/example/chronogate/chronogate/ReleaseQueue", "peek", "()Lcom/example/chronogate/chronogate/Event;"⟩ : MethodName)) a0_187 (ok9 hw _ _ _ _) ⟨rfl, by decide⟩ (wd hw 50 rfl) (wd hw 51 rfl) (fun s hZ => notFace_of_selects (args := #[]) (mvT hZ (wd hw 53 rfl))) (wd hw 53 rfl) (wd hw 52 rfl) rfl (argsL := []) (S := []) (au9_6 hw _ _ t1 t2 t3 s1 s2 s3 _) rfl rfl rfl rfl rfl rfl (Nat.le_of_ble_eq_true rfl) (Nat.le_of_ble_eq_true rfl) ?_
  rintro _ _ _ ⟨rfl, rfl, rfl⟩
  show WGo _ (190, [wJ t1, wS, wJ t2, wS, wJ t3, wS, wJ s1, wS, wJ s2, wS, wI mode, wI 0, wJ s3, wS, wR 0, wR 1, wR 2, wR 3, wN, wJ t1, wS, wJ s1, wS, wN, wU], [.null], [(.inr (cn0, [(fk0, (.long t1)), (fk1, .null), (fk2, .null), (fk3, (.long s1))])), (.inr (cn0, [(fk0, (.long t2)), (fk1, .null), (fk2, .null), (fk3, (.long s2))])), (.inr (cn0, [(fk0, (.long t3)), (fk1, .null), (fk2, .null), (fk3, (.long s3))])), (.inr (cn1, [(fk4, .ref 4), (fk5, .int 0)])), (.inl ((.object "com/example/chronogate/chronogate/Event"), [.null, .null, .null, .null, .null, .null, .null, .null]))], 22) _
  refine .s (.astore (L' := [wJ t1, wS, wJ t2, wS, wJ t3, wS, wJ s1, wS, wJ s2, wS, wI mode, wI 0, wJ s3, wS, wR 0, wR 1, wR 2, wR 3, wN, wJ t1, wS, wJ s1, wS, wN, wN]) a0_190 rfl rfl) <| .s (.aload a0_192 rfl rfl) <| .s (.aload a0_194 rfl rfl) <| .s (.acmp true 199 a0_196 rfl rfl (by decide) rfl) <| .s (.aload a0_199 rfl rfl) <| .s (.aload a0_201 rfl rfl) <| .s (.acmp true 206 a0_203 rfl rfl (by decide) rfl) ?_
  refine .s (.aload a0_206 rfl rfl) ?_
  refine .callV (k := 3) (z := (⟨"com/example/chronogate/chronogate/ReleaseQueue", "size", "()I"⟩ : MethodName)) a0_208 (ok10 hw _ _ _ _) ⟨rfl, by decide⟩ (wd hw 55 rfl) (wd hw 56 rfl) (fun s hZ => notFace_of_selects (args := #[]) (mvT hZ (wd hw 58 rfl))) (wd hw 58 rfl) (wd hw 57 rfl) rfl (argsL := []) (S := []) (au10_7 hw _ _ t1 t2 t3 s1 s2 s3 _) rfl rfl rfl rfl rfl rfl (Nat.le_of_ble_eq_true rfl) (Nat.le_of_ble_eq_true rfl) ?_
  rintro _ _ _ ⟨rfl, rfl, rfl⟩
  show WGo _ (211, [wJ t1, wS, wJ t2, wS, wJ t3, wS, wJ s1, wS, wJ s2, wS, wI mode, wI 0, wJ s3, wS, wR 0, wR 1, wR 2, wR 3, wN, wJ t1, wS, wJ s1, wS, wN, wN], [.int 0], [(.inr (cn0, [(fk0, (.long t1)), (fk1, .null), (fk2, .null), (fk3, (.long s1))])), (.inr (cn0, [(fk0, (.long t2)), (fk1, .null), (fk2, .null), (fk3, (.long s2))])), (.inr (cn0, [(fk0, (.long t3)), (fk1, .null), (fk2, .null), (fk3, (.long s3))])), (.inr (cn1, [(fk4, .ref 4), (fk5, .int 0)])), (.inl ((.object "com/example/chronogate/chronogate/Event"), [.null, .null, .null, .null, .null, .null, .null, .null]))], 22) _
  refine .s (.iload a0_211 rfl) <| .s (.icmpF a0_213 (by decide)) <| .s (.iconst (1 : Int32) a0_216 rfl) <| .s (.goto a0_217) ?_
  refine .ireturn .boolean a0_221 rfl (by simp) ?_
  exact ⟨rfl, Nat.le_of_ble_eq_true rfl, Nat.le_of_ble_eq_true rfl⟩
set_option maxHeartbeats 4000000 in
theorem au5_8 {Z : State} {a0 : Array Value} (hw : ∀ d ∈ tables_1, d.before a0 Z = true) (ρ : Nat → Nat) (n0 : Nat) (t1 : Int64) (t2 : Int64) (t3 : Int64) (s1 : Int64) (s2 : Int64) (s3 : Int64) (u : Nat) : WGo (g5 Z ρ n0 5 u) (0, [wR 3, wR 0, wU, wU], [], [(.inr (cn0, [(fk0, (.long t1)), (fk1, .null), (fk2, .null), (fk3, (.long s1))])), (.inr (cn0, [(fk0, (.long t2)), (fk1, .null), (fk2, .null), (fk3, (.long s2))])), (.inr (cn0, [(fk0, (.long t3)), (fk1, .null), (fk2, .null), (fk3, (.long s3))])), (.inr (cn1, [(fk4, .ref 4), (fk5, .int 0)])), (.inl ((.object "com/example/chronogate/chronogate/Event"), [.null, .null, .null, .null, .null, .null, .null, .null]))], u) (fun v σ' u' => v = none ∧ [(.inr (cn0, [(fk0, (.long t1)), (fk1, .null), (fk2, .null), (fk3, (.long s1))])), (.inr (cn0, [(fk0, (.long t2)), (fk1, .null), (fk2, .null), (fk3, (.long s2))])), (.inr (cn0, [(fk0, (.long t3)), (fk1, .null), (fk2, .null), (fk3, (.long s3))])), (.inr (cn1, [(fk4, .ref 4), (fk5, .int 1)])), (.inl ((.object "com/example/chronogate/chronogate/Event"), [.ref 0, .null, .null, .null, .null, .null, .null, .null]))] = σ' ∧ u = u') := by
  refine .s (.aloadN a5_0 rfl rfl) <| .s (.getF 1 a5_1 (wd hw 36 rfl) rfl rfl) <| .s (.aloadN a5_4 rfl rfl) <| .s (.getF 0 a5_5 (wd hw 29 rfl) rfl rfl) <| .s (.alen (8 : Int32) a5_8 rfl rfl) <| .s (.icmpT a5_9 (by decide)) <| .s (.aloadN a5_32 rfl rfl) ?_
  refine .s (.dup a5_33 rfl) <| .s (.getF 1 a5_34 (wd hw 36 rfl) rfl rfl) <| .s (.dupX1 a5_37 rfl rfl) <| .s (.iconst (1 : Int32) a5_38 rfl) <| .s (.iadd a5_39) ?_
  show WGo _ (40, [wR 3, wR 0, wU, wU], [.int 1, .ref 3, .int 0], [(.inr (cn0, [(fk0, (.long t1)), (fk1, .null), (fk2, .null), (fk3, (.long s1))])), (.inr (cn0, [(fk0, (.long t2)), (fk1, .null), (fk2, .null), (fk3, (.long s2))])), (.inr (cn0, [(fk0, (.long t3)), (fk1, .null), (fk2, .null), (fk3, (.long s3))])), (.inr (cn1, [(fk4, .ref 4), (fk5, .int 0)])), (.inl ((.object "com/example/chronogate/chronogate/Event"), [.null, .null, .null, .null, .null, .null, .null, .null]))], u) _
  refine .s (.putF (ty := .int) 1 (.int 1) a5_40 (wd hw 36 rfl) rfl rfl (Or.inl (wd hw 37 rfl)) (wd hw 18 rfl) (by decide) rfl rfl) ?_
  show WGo _ (43, [wR 3, wR 0, wU, wU], [.int 0], [(.inr (cn0, [(fk0, (.long t1)), (fk1, .null), (fk2, .null), (fk3, (.long s1))])), (.inr (cn0, [(fk0, (.long t2)), (fk1, .null), (fk2, .null), (fk3, (.long s2))])), (.inr (cn0, [(fk0, (.long t3)), (fk1, .null), (fk2, .null), (fk3, (.long s3))])), (.inr (cn1, [(fk4, .ref 4), (fk5, .int 1)])), (.inl ((.object "com/example/chronogate/chronogate/Event"), [.null, .null, .null, .null, .null, .null, .null, .null]))], u) _
  refine .s (.istoreN (L' := [wR 3, wR 0, wI 0, wU]) a5_43 rfl) <| .s (.iloadN a5_44 rfl) <| .s (.ifT a5_45 (by decide)) <| .s (.aloadN a5_87 rfl rfl) <| .s (.getF 0 a5_88 (wd hw 29 rfl) rfl rfl) <| .s (.iloadN a5_91 rfl) <| .s (.aloadN a5_92 rfl rfl) ?_
  refine .s (.aastore 0 a5_93 rfl rfl (by decide) rfl (Nat.le_of_ble_eq_true rfl)) ?_
  show WGo _ (94, [wR 3, wR 0, wI 0, wU], [], [(.inr (cn0, [(fk0, (.long t1)), (fk1, .null), (fk2, .null), (fk3, (.long s1))])), (.inr (cn0, [(fk0, (.long t2)), (fk1, .null), (fk2, .null), (fk3, (.long s2))])), (.inr (cn0, [(fk0, (.long t3)), (fk1, .null), (fk2, .null), (fk3, (.long s3))])), (.inr (cn1, [(fk4, .ref 4), (fk5, .int 1)])), (.inl ((.object "com/example/chronogate/chronogate/Event"), [.ref 0, .null, .null, .null, .null, .null, .null, .null]))], u) _
  refine .vreturn a5_94 rfl ?_
  exact ⟨rfl, rfl, rfl⟩
set_option maxHeartbeats 4000000 in
theorem au9_9 {Z : State} {a0 : Array Value} (hw : ∀ d ∈ tables_1, d.before a0 Z = true) (ρ : Nat → Nat) (n0 : Nat) (t1 : Int64) (t2 : Int64) (t3 : Int64) (s1 : Int64) (s2 : Int64) (s3 : Int64) (u : Nat) : WGo (g9 Z ρ n0 5 u) (0, [wR 3], [], [(.inr (cn0, [(fk0, (.long t1)), (fk1, .null), (fk2, .null), (fk3, (.long s1))])), (.inr (cn0, [(fk0, (.long t2)), (fk1, .null), (fk2, .null), (fk3, (.long s2))])), (.inr (cn0, [(fk0, (.long t3)), (fk1, .null), (fk2, .null), (fk3, (.long s3))])), (.inr (cn1, [(fk4, .ref 4), (fk5, .int 1)])), (.inl ((.object "com/example/chronogate/chronogate/Event"), [.ref 0, .null, .null, .null, .null, .null, .null, .null]))], u) (fun v σ' u' => v = some (.ref 0) ∧ [(.inr (cn0, [(fk0, (.long t1)), (fk1, .null), (fk2, .null), (fk3, (.long s1))])), (.inr (cn0, [(fk0, (.long t2)), (fk1, .null), (fk2, .null), (fk3, (.long s2))])), (.inr (cn0, [(fk0, (.long t3)), (fk1, .null), (fk2, .null), (fk3, (.long s3))])), (.inr (cn1, [(fk4, .ref 4), (fk5, .int 1)])), (.inl ((.object "com/example/chronogate/chronogate/Event"), [.ref 0, .null, .null, .null, .null, .null, .null, .null]))] = σ' ∧ u = u') := by
  refine .s (.aloadN a9_0 rfl rfl) <| .s (.getF 1 a9_1 (wd hw 36 rfl) rfl rfl) <| .s (.ifT a9_4 (by decide)) <| .s (.aloadN a9_11 rfl rfl) <| .s (.getF 0 a9_12 (wd hw 29 rfl) rfl rfl) <| .s (.iconst (0 : Int32) a9_15 rfl) <| .s (.aaload 0 a9_16 rfl rfl (by decide) rfl rfl) ?_
  refine .areturn (.object "com/example/chronogate/chronogate/Event") a9_17 rfl rfl rfl ?_
  exact ⟨rfl, rfl, rfl⟩
set_option maxHeartbeats 4000000 in
theorem au10_10 {Z : State} {a0 : Array Value} (hw : ∀ d ∈ tables_1, d.before a0 Z = true) (ρ : Nat → Nat) (n0 : Nat) (t1 : Int64) (t2 : Int64) (t3 : Int64) (s1 : Int64) (s2 : Int64) (s3 : Int64) (u : Nat) : WGo (g10 Z ρ n0 5 u) (0, [wR 3], [], [(.inr (cn0, [(fk0, (.long t1)), (fk1, .null), (fk2, .null), (fk3, (.long s1))])), (.inr (cn0, [(fk0, (.long t2)), (fk1, .null), (fk2, .null), (fk3, (.long s2))])), (.inr (cn0, [(fk0, (.long t3)), (fk1, .null), (fk2, .null), (fk3, (.long s3))])), (.inr (cn1, [(fk4, .ref 4), (fk5, .int 1)])), (.inl ((.object "com/example/chronogate/chronogate/Event"), [.ref 0, .null, .null, .null, .null, .null, .null, .null]))], u) (fun v σ' u' => v = some (.int 1) ∧ [(.inr (cn0, [(fk0, (.long t1)), (fk1, .null), (fk2, .null), (fk3, (.long s1))])), (.inr (cn0, [(fk0, (.long t2)), (fk1, .null), (fk2, .null), (fk3, (.long s2))])), (.inr (cn0, [(fk0, (.long t3)), (fk1, .null), (fk2, .null), (fk3, (.long s3))])), (.inr (cn1, [(fk4, .ref 4), (fk5, .int 1)])), (.inl ((.object "com/example/chronogate/chronogate/Event"), [.ref 0, .null, .null, .null, .null, .null, .null, .null]))] = σ' ∧ u = u') := by
  refine .s (.aloadN a10_0 rfl rfl) <| .s (.getF 1 a10_1 (wd hw 36 rfl) rfl rfl) ?_
  refine .ireturn .int a10_4 rfl (by simp) ?_
  exact ⟨rfl, rfl, rfl⟩
set_option maxHeartbeats 40000000 in
theorem seg1 (Z : State) (a0 : Array Value) (hw : ∀ d ∈ tables_1, d.before a0 Z = true) (n0 : Nat) (t1 t2 t3 s1 s2 : Int64) (mode : Int32) (s3 : Int64) : WGo (g0 Z (fun k => n0 + k) n0 0 0) (13, [wJ t1, wS, wJ t2, wS, wJ t3, wS, wJ s1, wS, wJ s2, wS, wI mode, wI 1, wJ s3, wS, wU, wU, wU, wU, wU, wU, wU, wU, wU, wU, wU], [], [], 0) (fun v σ' u' => v = some (.int 1) ∧ σ'.length ≤ 24 ∧ u' ≤ 128) := by
  refine .s (.newO (k := 0) [(fk0, .long 0), (fk1, .null), (fk2, .null), (fk3, .long 0)] a0_13 (wd hw 0 rfl) (wd hw 1 rfl) (wd hw 2 rfl) ⟨⟨Or.inr (wd hw 10 rfl), .long, by decide, rfl⟩, ⟨Or.inr (wd hw 12 rfl), (.object "java/util/List"), by decide, rfl⟩, ⟨Or.inr (wd hw 14 rfl), (.object "java/lang/Object"), by decide, rfl⟩, ⟨Or.inr (wd hw 16 rfl), .long, by decide, rfl⟩, trivial⟩ (by decide) rfl (by decide)) ?_
  show WGo _ (16, [wJ t1, wS, wJ t2, wS, wJ t3, wS, wJ s1, wS, wJ s2, wS, wI mode, wI 1, wJ s3, wS, wU, wU, wU, wU, wU, wU, wU, wU, wU, wU, wU], [.ref 0], [(.inr (cn0, [(fk0, .long 0), (fk1, .null), (fk2, .null), (fk3, .long 0)]))], 4) _
  refine .s (.dup a0_16 rfl) <| .s (.lloadN a0_17 rfl) <| .s (.aconstNull a0_18) <| .s (.aconstNull a0_19) <| .s (.lload a0_20 rfl) ?_
  refine .callI (k := 0) a0_22 (ok1 hw _ _ _ _) rfl rfl (wd hw 3 rfl) (wd hw 4 rfl) (by decide) (argsL := [(.long t1), .null, .null, (.long s1)]) (S := [.ref 0]) (au1_1 hw _ _ t1 s1 _) rfl rfl rfl rfl rfl rfl (Nat.le_of_ble_eq_true rfl) (Nat.le_of_ble_eq_true rfl) ?_
  rintro _ _ _ ⟨rfl, rfl, rfl⟩
  show WGo _ (25, [wJ t1, wS, wJ t2, wS, wJ t3, wS, wJ s1, wS, wJ s2, wS, wI mode, wI 1, wJ s3, wS, wU, wU, wU, wU, wU, wU, wU, wU, wU, wU, wU], [.ref 0], [(.inr (cn0, [(fk0, (.long t1)), (fk1, .null), (fk2, .null), (fk3, (.long s1))]))], 4) _
  refine .s (.astore (L' := [wJ t1, wS, wJ t2, wS, wJ t3, wS, wJ s1, wS, wJ s2, wS, wI mode, wI 1, wJ s3, wS, wR 0, wU, wU, wU, wU, wU, wU, wU, wU, wU, wU]) a0_25 rfl rfl) <| .s (.newO (k := 1) [(fk0, .long 0), (fk1, .null), (fk2, .null), (fk3, .long 0)] a0_27 (wd hw 0 rfl) (wd hw 1 rfl) (wd hw 2 rfl) ⟨⟨Or.inr (wd hw 10 rfl), .long, by decide, rfl⟩, ⟨Or.inr (wd hw 12 rfl), (.object "java/util/List"), by decide, rfl⟩, ⟨Or.inr (wd hw 14 rfl), (.object "java/lang/Object"), by decide, rfl⟩, ⟨Or.inr (wd hw 16 rfl), .long, by decide, rfl⟩, trivial⟩ (by decide) rfl (by decide)) ?_
  show WGo _ (30, [wJ t1, wS, wJ t2, wS, wJ t3, wS, wJ s1, wS, wJ s2, wS, wI mode, wI 1, wJ s3, wS, wR 0, wU, wU, wU, wU, wU, wU, wU, wU, wU, wU], [.ref 1], [(.inr (cn0, [(fk0, (.long t1)), (fk1, .null), (fk2, .null), (fk3, (.long s1))])), (.inr (cn0, [(fk0, .long 0), (fk1, .null), (fk2, .null), (fk3, .long 0)]))], 8) _
  refine .s (.dup a0_30 rfl) <| .s (.lloadN a0_31 rfl) <| .s (.aconstNull a0_32) <| .s (.aconstNull a0_33) <| .s (.lload a0_34 rfl) ?_
  refine .callI (k := 1) a0_36 (ok1 hw _ _ _ _) rfl rfl (wd hw 3 rfl) (wd hw 4 rfl) (by decide) (argsL := [(.long t2), .null, .null, (.long s2)]) (S := [.ref 1]) (au1_2 hw _ _ t1 t2 s1 s2 _) rfl rfl rfl rfl rfl rfl (Nat.le_of_ble_eq_true rfl) (Nat.le_of_ble_eq_true rfl) ?_
  rintro _ _ _ ⟨rfl, rfl, rfl⟩
  show WGo _ (39, [wJ t1, wS, wJ t2, wS, wJ t3, wS, wJ s1, wS, wJ s2, wS, wI mode, wI 1, wJ s3, wS, wR 0, wU, wU, wU, wU, wU, wU, wU, wU, wU, wU], [.ref 1], [(.inr (cn0, [(fk0, (.long t1)), (fk1, .null), (fk2, .null), (fk3, (.long s1))])), (.inr (cn0, [(fk0, (.long t2)), (fk1, .null), (fk2, .null), (fk3, (.long s2))]))], 8) _
  refine .s (.astore (L' := [wJ t1, wS, wJ t2, wS, wJ t3, wS, wJ s1, wS, wJ s2, wS, wI mode, wI 1, wJ s3, wS, wR 0, wR 1, wU, wU, wU, wU, wU, wU, wU, wU, wU]) a0_39 rfl rfl) <| .s (.newO (k := 2) [(fk0, .long 0), (fk1, .null), (fk2, .null), (fk3, .long 0)] a0_41 (wd hw 0 rfl) (wd hw 1 rfl) (wd hw 2 rfl) ⟨⟨Or.inr (wd hw 10 rfl), .long, by decide, rfl⟩, ⟨Or.inr (wd hw 12 rfl), (.object "java/util/List"), by decide, rfl⟩, ⟨Or.inr (wd hw 14 rfl), (.object "java/lang/Object"), by decide, rfl⟩, ⟨Or.inr (wd hw 16 rfl), .long, by decide, rfl⟩, trivial⟩ (by decide) rfl (by decide)) ?_
  show WGo _ (44, [wJ t1, wS, wJ t2, wS, wJ t3, wS, wJ s1, wS, wJ s2, wS, wI mode, wI 1, wJ s3, wS, wR 0, wR 1, wU, wU, wU, wU, wU, wU, wU, wU, wU], [.ref 2], [(.inr (cn0, [(fk0, (.long t1)), (fk1, .null), (fk2, .null), (fk3, (.long s1))])), (.inr (cn0, [(fk0, (.long t2)), (fk1, .null), (fk2, .null), (fk3, (.long s2))])), (.inr (cn0, [(fk0, .long 0), (fk1, .null), (fk2, .null), (fk3, .long 0)]))], 12) _
  refine .s (.dup a0_44 rfl) <| .s (.lload a0_45 rfl) <| .s (.aconstNull a0_47) <| .s (.aconstNull a0_48) <| .s (.lload a0_49 rfl) ?_
  refine .callI (k := 2) a0_51 (ok1 hw _ _ _ _) rfl rfl (wd hw 3 rfl) (wd hw 4 rfl) (by decide) (argsL := [(.long t3), .null, .null, (.long s3)]) (S := [.ref 2]) (au1_3 hw _ _ t1 t2 t3 s1 s2 s3 _) rfl rfl rfl rfl rfl rfl (Nat.le_of_ble_eq_true rfl) (Nat.le_of_ble_eq_true rfl) ?_
  rintro _ _ _ ⟨rfl, rfl, rfl⟩
  show WGo _ (54, [wJ t1, wS, wJ t2, wS, wJ t3, wS, wJ s1, wS, wJ s2, wS, wI mode, wI 1, wJ s3, wS, wR 0, wR 1, wU, wU, wU, wU, wU, wU, wU, wU, wU], [.ref 2], [(.inr (cn0, [(fk0, (.long t1)), (fk1, .null), (fk2, .null), (fk3, (.long s1))])), (.inr (cn0, [(fk0, (.long t2)), (fk1, .null), (fk2, .null), (fk3, (.long s2))])), (.inr (cn0, [(fk0, (.long t3)), (fk1, .null), (fk2, .null), (fk3, (.long s3))]))], 12) _
  refine .s (.astore (L' := [wJ t1, wS, wJ t2, wS, wJ t3, wS, wJ s1, wS, wJ s2, wS, wI mode, wI 1, wJ s3, wS, wR 0, wR 1, wR 2, wU, wU, wU, wU, wU, wU, wU, wU]) a0_54 rfl rfl) <| .s (.newO (k := 3) [(fk4, .null), (fk5, .int 0)] a0_56 (wd hw 17 rfl) (wd hw 18 rfl) (wd hw 19 rfl) ⟨⟨Or.inl (wd hw 30 rfl), (.array (.object "com/example/chronogate/chronogate/Event")), by decide, rfl⟩, ⟨Or.inl (wd hw 37 rfl), .int, by decide, rfl⟩, trivial⟩ (by decide) rfl (by decide)) ?_
  show WGo _ (59, [wJ t1, wS, wJ t2, wS, wJ t3, wS, wJ s1, wS, wJ s2, wS, wI mode, wI 1, wJ s3, wS, wR 0, wR 1, wR 2, wU, wU, wU, wU, wU, wU, wU, wU], [.ref 3], [(.inr (cn0, [(fk0, (.long t1)), (fk1, .null), (fk2, .null), (fk3, (.long s1))])), (.inr (cn0, [(fk0, (.long t2)), (fk1, .null), (fk2, .null), (fk3, (.long s2))])), (.inr (cn0, [(fk0, (.long t3)), (fk1, .null), (fk2, .null), (fk3, (.long s3))])), (.inr (cn1, [(fk4, .null), (fk5, .int 0)]))], 14) _
  refine .s (.dup a0_59 rfl) ?_
  refine .callI (k := 3) a0_60 (ok3 hw _ _ _ _) rfl rfl (wd hw 20 rfl) (wd hw 21 rfl) (by decide) (argsL := []) (S := [.ref 3]) (au3_4 hw _ _ t1 t2 t3 s1 s2 s3 _) rfl rfl rfl rfl rfl rfl (Nat.le_of_ble_eq_true rfl) (Nat.le_of_ble_eq_true rfl) ?_
  rintro _ _ _ ⟨rfl, rfl, rfl⟩
  show WGo _ (63, [wJ t1, wS, wJ t2, wS, wJ t3, wS, wJ s1, wS, wJ s2, wS, wI mode, wI 1, wJ s3, wS, wR 0, wR 1, wR 2, wU, wU, wU, wU, wU, wU, wU, wU], [.ref 3], [(.inr (cn0, [(fk0, (.long t1)), (fk1, .null), (fk2, .null), (fk3, (.long s1))])), (.inr (cn0, [(fk0, (.long t2)), (fk1, .null), (fk2, .null), (fk3, (.long s2))])), (.inr (cn0, [(fk0, (.long t3)), (fk1, .null), (fk2, .null), (fk3, (.long s3))])), (.inr (cn1, [(fk4, .ref 4), (fk5, .int 0)])), (.inl ((.object "com/example/chronogate/chronogate/Event"), [.null, .null, .null, .null, .null, .null, .null, .null]))], 22) _
  refine .s (.astore (L' := [wJ t1, wS, wJ t2, wS, wJ t3, wS, wJ s1, wS, wJ s2, wS, wI mode, wI 1, wJ s3, wS, wR 0, wR 1, wR 2, wR 3, wU, wU, wU, wU, wU, wU, wU]) a0_63 rfl rfl) <| .s (.iload a0_65 rfl) <| .s (.iconst (1 : Int32) a0_67 rfl) <| .s (.icmpF a0_68 (by decide)) <| .s (.aload a0_71 rfl rfl) <| .s (.aload a0_73 rfl rfl) ?_
  refine .callV (k := 3) (z := (⟨"com/example/chronogate/chronogate/ReleaseQueue", "add", "(Lcom/example/chronogate/chronogate/Event;)V"⟩ : MethodName)) a0_75 (ok5 hw _ _ _ _) ⟨rfl, by decide⟩ (wd hw 31 rfl) (wd hw 32 rfl) (fun s hZ => notFace_of_selects (args := #[]) (mvT hZ (wd hw 34 rfl))) (wd hw 34 rfl) (wd hw 33 rfl) rfl (argsL := [.ref 0]) (S := []) (au5_8 hw _ _ t1 t2 t3 s1 s2 s3 _) rfl rfl rfl rfl rfl rfl (Nat.le_of_ble_eq_true rfl) (Nat.le_of_ble_eq_true rfl) ?_
  rintro _ _ _ ⟨rfl, rfl, rfl⟩
  show WGo _ (78, [wJ t1, wS, wJ t2, wS, wJ t3, wS, wJ s1, wS, wJ s2, wS, wI mode, wI 1, wJ s3, wS, wR 0, wR 1, wR 2, wR 3, wU, wU, wU, wU, wU, wU, wU], [], [(.inr (cn0, [(fk0, (.long t1)), (fk1, .null), (fk2, .null), (fk3, (.long s1))])), (.inr (cn0, [(fk0, (.long t2)), (fk1, .null), (fk2, .null), (fk3, (.long s2))])), (.inr (cn0, [(fk0, (.long t3)), (fk1, .null), (fk2, .null), (fk3, (.long s3))])), (.inr (cn1, [(fk4, .ref 4), (fk5, .int 1)])), (.inl ((.object "com/example/chronogate/chronogate/Event"), [.ref 0, .null, .null, .null, .null, .null, .null, .null]))], 22) _
  refine .s (.iload a0_78 rfl) <| .s (.iconst (2 : Int32) a0_80 rfl) <| .s (.icmpT a0_81 (by decide)) <| .s (.iload a0_91 rfl) <| .s (.iconst (3 : Int32) a0_93 rfl) <| .s (.icmpT a0_94 (by decide)) <| .s (.aconstNull a0_104) ?_
  refine .s (.astore (L' := [wJ t1, wS, wJ t2, wS, wJ t3, wS, wJ s1, wS, wJ s2, wS, wI mode, wI 1, wJ s3, wS, wR 0, wR 1, wR 2, wR 3, wN, wU, wU, wU, wU, wU, wU]) a0_105 rfl rfl) <| .s (.lloadN a0_107 rfl) <| .s (.lstore (L' := [wJ t1, wS, wJ t2, wS, wJ t3, wS, wJ s1, wS, wJ s2, wS, wI mode, wI 1, wJ s3, wS, wR 0, wR 1, wR 2, wR 3, wN, wJ t1, wS, wU, wU, wU, wU]) a0_108 rfl) <| .s (.lload a0_110 rfl) <| .s (.lstore (L' := [wJ t1, wS, wJ t2, wS, wJ t3, wS, wJ s1, wS, wJ s2, wS, wI mode, wI 1, wJ s3, wS, wR 0, wR 1, wR 2, wR 3, wN, wJ t1, wS, wJ s1, wS, wU, wU]) a0_112 rfl) <| .s (.iload a0_114 rfl) <| .s (.iconst (1 : Int32) a0_116 rfl) ?_
  refine .s (.icmpF a0_117 (by decide)) <| .s (.aload a0_120 rfl rfl) <| .s (.astore (L' := [wJ t1, wS, wJ t2, wS, wJ t3, wS, wJ s1, wS, wJ s2, wS, wI mode, wI 1, wJ s3, wS, wR 0, wR 1, wR 2, wR 3, wR 0, wJ t1, wS, wJ s1, wS, wU, wU]) a0_122 rfl rfl) <| .s (.iload a0_124 rfl) <| .s (.iconst (2 : Int32) a0_126 rfl) <| .s (.icmpT a0_127 (by decide)) <| .s (.iload a0_154 rfl) ?_
  refine .s (.iconst (3 : Int32) a0_156 rfl) <| .s (.icmpT a0_157 (by decide)) <| .s (.aload a0_178 rfl rfl) ?_
  refine .callV (k := 3) (z := (⟨"com/example/chronogate/chronogate/ReleaseQueue", "peek", "()Lcom/example/chronogate/chronogate/Event;"⟩ : MethodName)) a0_180 (ok9 hw _ _ _ _) ⟨rfl, by decide⟩ (wd hw 50 rfl) (wd hw 51 rfl) (fun s hZ => notFace_of_selects (args := #[]) (mvT hZ (wd hw 53 rfl))) (wd hw 53 rfl) (wd hw 52 rfl) rfl (argsL := []) (S := []) (au9_9 hw _ _ t1 t2 t3 s1 s2 s3 _) rfl rfl rfl rfl rfl rfl (Nat.le_of_ble_eq_true rfl) (Nat.le_of_ble_eq_true rfl) ?_
  rintro _ _ _ ⟨rfl, rfl, rfl⟩
  show WGo _ (183, [wJ t1, wS, wJ t2, wS, wJ t3, wS, wJ s1, wS, wJ s2, wS, wI mode, wI 1, wJ s3, wS, wR 0, wR 1, wR 2, wR 3, wR 0, wJ t1, wS, wJ s1, wS, wU, wU], [.ref 0], [(.inr (cn0, [(fk0, (.long t1)), (fk1, .null), (fk2, .null), (fk3, (.long s1))])), (.inr (cn0, [(fk0, (.long t2)), (fk1, .null), (fk2, .null), (fk3, (.long s2))])), (.inr (cn0, [(fk0, (.long t3)), (fk1, .null), (fk2, .null), (fk3, (.long s3))])), (.inr (cn1, [(fk4, .ref 4), (fk5, .int 1)])), (.inl ((.object "com/example/chronogate/chronogate/Event"), [.ref 0, .null, .null, .null, .null, .null, .null, .null]))], 22) _
  refine .s (.astore (L' := [wJ t1, wS, wJ t2, wS, wJ t3, wS, wJ s1, wS, wJ s2, wS, wI mode, wI 1, wJ s3, wS, wR 0, wR 1, wR 2, wR 3, wR 0, wJ t1, wS, wJ s1, wS, wR 0, wU]) a0_183 rfl rfl) <| .s (.aload a0_185 rfl rfl) ?_
  refine .callV (k := 3) (z := (⟨"com/example/chronogate/chronogate/ReleaseQueue", "peek", "()Lcom/example/chronogate/chronogate/Event;"⟩ : MethodName)) a0_187 (ok9 hw _ _ _ _) ⟨rfl, by decide⟩ (wd hw 50 rfl) (wd hw 51 rfl) (fun s hZ => notFace_of_selects (args := #[]) (mvT hZ (wd hw 53 rfl))) (wd hw 53 rfl) (wd hw 52 rfl) rfl (argsL := []) (S := []) (au9_9 hw _ _ t1 t2 t3 s1 s2 s3 _) rfl rfl rfl rfl rfl rfl (Nat.le_of_ble_eq_true rfl) (Nat.le_of_ble_eq_true rfl) ?_
  rintro _ _ _ ⟨rfl, rfl, rfl⟩
  show WGo _ (190, [wJ t1, wS, wJ t2, wS, wJ t3, wS, wJ s1, wS, wJ s2, wS, wI mode, wI 1, wJ s3, wS, wR 0, wR 1, wR 2, wR 3, wR 0, wJ t1, wS, wJ s1, wS, wR 0, wU], [.ref 0], [(.inr (cn0, [(fk0, (.long t1)), (fk1, .null), (fk2, .null), (fk3, (.long s1))])), (.inr (cn0, [(fk0, (.long t2)), (fk1, .null), (fk2, .null), (fk3, (.long s2))])), (.inr (cn0, [(fk0, (.long t3)), (fk1, .null), (fk2, .null), (fk3, (.long s3))])), (.inr (cn1, [(fk4, .ref 4), (fk5, .int 1)])), (.inl ((.object "com/example/chronogate/chronogate/Event"), [.ref 0, .null, .null, .null, .null, .null, .null, .null]))], 22) _
  refine .s (.astore (L' := [wJ t1, wS, wJ t2, wS, wJ t3, wS, wJ s1, wS, wJ s2, wS, wI mode, wI 1, wJ s3, wS, wR 0, wR 1, wR 2, wR 3, wR 0, wJ t1, wS, wJ s1, wS, wR 0, wR 0]) a0_190 rfl rfl) <| .s (.aload a0_192 rfl rfl) <| .s (.aload a0_194 rfl rfl) <| .s (.acmp true 199 a0_196 rfl rfl (by decide) rfl) <| .s (.aload a0_199 rfl rfl) <| .s (.aload a0_201 rfl rfl) <| .s (.acmp true 206 a0_203 rfl rfl (by decide) rfl) ?_
  refine .s (.aload a0_206 rfl rfl) ?_
  refine .callV (k := 3) (z := (⟨"com/example/chronogate/chronogate/ReleaseQueue", "size", "()I"⟩ : MethodName)) a0_208 (ok10 hw _ _ _ _) ⟨rfl, by decide⟩ (wd hw 55 rfl) (wd hw 56 rfl) (fun s hZ => notFace_of_selects (args := #[]) (mvT hZ (wd hw 58 rfl))) (wd hw 58 rfl) (wd hw 57 rfl) rfl (argsL := []) (S := []) (au10_10 hw _ _ t1 t2 t3 s1 s2 s3 _) rfl rfl rfl rfl rfl rfl (Nat.le_of_ble_eq_true rfl) (Nat.le_of_ble_eq_true rfl) ?_
  rintro _ _ _ ⟨rfl, rfl, rfl⟩
  show WGo _ (211, [wJ t1, wS, wJ t2, wS, wJ t3, wS, wJ s1, wS, wJ s2, wS, wI mode, wI 1, wJ s3, wS, wR 0, wR 1, wR 2, wR 3, wR 0, wJ t1, wS, wJ s1, wS, wR 0, wR 0], [.int 1], [(.inr (cn0, [(fk0, (.long t1)), (fk1, .null), (fk2, .null), (fk3, (.long s1))])), (.inr (cn0, [(fk0, (.long t2)), (fk1, .null), (fk2, .null), (fk3, (.long s2))])), (.inr (cn0, [(fk0, (.long t3)), (fk1, .null), (fk2, .null), (fk3, (.long s3))])), (.inr (cn1, [(fk4, .ref 4), (fk5, .int 1)])), (.inl ((.object "com/example/chronogate/chronogate/Event"), [.ref 0, .null, .null, .null, .null, .null, .null, .null]))], 22) _
  refine .s (.iload a0_211 rfl) <| .s (.icmpF a0_213 (by decide)) <| .s (.iconst (1 : Int32) a0_216 rfl) <| .s (.goto a0_217) ?_
  refine .ireturn .boolean a0_221 rfl (by simp) ?_
  exact ⟨rfl, Nat.le_of_ble_eq_true rfl, Nat.le_of_ble_eq_true rfl⟩
set_option maxHeartbeats 4000000 in
theorem au7_13 {Z : State} {a0 : Array Value} (hw : ∀ d ∈ tables_1, d.before a0 Z = true) (ρ : Nat → Nat) (n0 : Nat) (t1 : Int64) (t2 : Int64) (t3 : Int64) (s1 : Int64) (s2 : Int64) (s3 : Int64) (u : Nat) : WGo (g7 Z ρ n0 5 u) (0, [wJ t2, wS, wJ t1, wS], [], [(.inr (cn0, [(fk0, (.long t1)), (fk1, .null), (fk2, .null), (fk3, (.long s1))])), (.inr (cn0, [(fk0, (.long t2)), (fk1, .null), (fk2, .null), (fk3, (.long s2))])), (.inr (cn0, [(fk0, (.long t3)), (fk1, .null), (fk2, .null), (fk3, (.long s3))])), (.inr (cn1, [(fk4, .ref 4), (fk5, .int 2)])), (.inl ((.object "com/example/chronogate/chronogate/Event"), [.ref 0, .null, .null, .null, .null, .null, .null, .null]))], u) (fun v σ' u' => (¬ t2 < t1 ∧ ¬ t2 = t1 ∧ v = some (.int 1) ∧ [(.inr (cn0, [(fk0, (.long t1)), (fk1, .null), (fk2, .null), (fk3, (.long s1))])), (.inr (cn0, [(fk0, (.long t2)), (fk1, .null), (fk2, .null), (fk3, (.long s2))])), (.inr (cn0, [(fk0, (.long t3)), (fk1, .null), (fk2, .null), (fk3, (.long s3))])), (.inr (cn1, [(fk4, .ref 4), (fk5, .int 2)])), (.inl ((.object "com/example/chronogate/chronogate/Event"), [.ref 0, .null, .null, .null, .null, .null, .null, .null]))] = σ' ∧ u = u') ∨ (¬ t2 < t1 ∧ t2 = t1 ∧ v = some (.int 0) ∧ [(.inr (cn0, [(fk0, (.long t1)), (fk1, .null), (fk2, .null), (fk3, (.long s1))])), (.inr (cn0, [(fk0, (.long t2)), (fk1, .null), (fk2, .null), (fk3, (.long s2))])), (.inr (cn0, [(fk0, (.long t3)), (fk1, .null), (fk2, .null), (fk3, (.long s3))])), (.inr (cn1, [(fk4, .ref 4), (fk5, .int 2)])), (.inl ((.object "com/example/chronogate/chronogate/Event"), [.ref 0, .null, .null, .null, .null, .null, .null, .null]))] = σ' ∧ u = u') ∨ (t2 < t1 ∧ v = some (.int (-1)) ∧ [(.inr (cn0, [(fk0, (.long t1)), (fk1, .null), (fk2, .null), (fk3, (.long s1))])), (.inr (cn0, [(fk0, (.long t2)), (fk1, .null), (fk2, .null), (fk3, (.long s2))])), (.inr (cn0, [(fk0, (.long t3)), (fk1, .null), (fk2, .null), (fk3, (.long s3))])), (.inr (cn1, [(fk4, .ref 4), (fk5, .int 2)])), (.inl ((.object "com/example/chronogate/chronogate/Event"), [.ref 0, .null, .null, .null, .null, .null, .null, .null]))] = σ' ∧ u = u')) := by
  refine .s (.lloadN a7_0 rfl) <| .s (.lloadN a7_1 rfl) <| .s (.lcmp a7_2) ?_
  refine .geL a7_3 (fun h3 => ?_) (fun h3 => ?_)
  · refine .s (.lloadN a7_10 rfl) <| .s (.lloadN a7_11 rfl) <| .s (.lcmp a7_12) ?_
    refine .neL a7_13 (fun h13 => ?_) (fun h13 => ?_)
    · refine .s (.iconst (1 : Int32) a7_20 rfl) ?_
      refine .ireturn .int a7_21 rfl (by simp) ?_
      exact Or.inl ⟨h3, h13, rfl, rfl, rfl⟩
    · refine .s (.iconst (0 : Int32) a7_16 rfl) <| .s (.goto a7_17) ?_
      refine .ireturn .int a7_21 rfl (by simp) ?_
      exact Or.inr (Or.inl ⟨h3, h13, rfl, rfl, rfl⟩)
  · refine .s (.iconst (-1 : Int32) a7_6 rfl) <| .s (.goto a7_7) ?_
    refine .ireturn .int a7_21 rfl (by simp) ?_
    exact Or.inr (Or.inr (⟨h3, rfl, rfl, rfl⟩))
set_option maxHeartbeats 4000000 in
theorem au7_14 {Z : State} {a0 : Array Value} (hw : ∀ d ∈ tables_1, d.before a0 Z = true) (ρ : Nat → Nat) (n0 : Nat) (t1 : Int64) (t2 : Int64) (t3 : Int64) (s1 : Int64) (s2 : Int64) (s3 : Int64) (u : Nat) : WGo (g7 Z ρ n0 5 u) (0, [wJ s2, wS, wJ s1, wS], [], [(.inr (cn0, [(fk0, (.long t1)), (fk1, .null), (fk2, .null), (fk3, (.long s1))])), (.inr (cn0, [(fk0, (.long t2)), (fk1, .null), (fk2, .null), (fk3, (.long s2))])), (.inr (cn0, [(fk0, (.long t3)), (fk1, .null), (fk2, .null), (fk3, (.long s3))])), (.inr (cn1, [(fk4, .ref 4), (fk5, .int 2)])), (.inl ((.object "com/example/chronogate/chronogate/Event"), [.ref 0, .null, .null, .null, .null, .null, .null, .null]))], u) (fun v σ' u' => (¬ s2 < s1 ∧ ¬ s2 = s1 ∧ v = some (.int 1) ∧ [(.inr (cn0, [(fk0, (.long t1)), (fk1, .null), (fk2, .null), (fk3, (.long s1))])), (.inr (cn0, [(fk0, (.long t2)), (fk1, .null), (fk2, .null), (fk3, (.long s2))])), (.inr (cn0, [(fk0, (.long t3)), (fk1, .null), (fk2, .null), (fk3, (.long s3))])), (.inr (cn1, [(fk4, .ref 4), (fk5, .int 2)])), (.inl ((.object "com/example/chronogate/chronogate/Event"), [.ref 0, .null, .null, .null, .null, .null, .null, .null]))] = σ' ∧ u = u') ∨ (¬ s2 < s1 ∧ s2 = s1 ∧ v = some (.int 0) ∧ [(.inr (cn0, [(fk0, (.long t1)), (fk1, .null), (fk2, .null), (fk3, (.long s1))])), (.inr (cn0, [(fk0, (.long t2)), (fk1, .null), (fk2, .null), (fk3, (.long s2))])), (.inr (cn0, [(fk0, (.long t3)), (fk1, .null), (fk2, .null), (fk3, (.long s3))])), (.inr (cn1, [(fk4, .ref 4), (fk5, .int 2)])), (.inl ((.object "com/example/chronogate/chronogate/Event"), [.ref 0, .null, .null, .null, .null, .null, .null, .null]))] = σ' ∧ u = u') ∨ (s2 < s1 ∧ v = some (.int (-1)) ∧ [(.inr (cn0, [(fk0, (.long t1)), (fk1, .null), (fk2, .null), (fk3, (.long s1))])), (.inr (cn0, [(fk0, (.long t2)), (fk1, .null), (fk2, .null), (fk3, (.long s2))])), (.inr (cn0, [(fk0, (.long t3)), (fk1, .null), (fk2, .null), (fk3, (.long s3))])), (.inr (cn1, [(fk4, .ref 4), (fk5, .int 2)])), (.inl ((.object "com/example/chronogate/chronogate/Event"), [.ref 0, .null, .null, .null, .null, .null, .null, .null]))] = σ' ∧ u = u')) := by
  refine .s (.lloadN a7_0 rfl) <| .s (.lloadN a7_1 rfl) <| .s (.lcmp a7_2) ?_
  refine .geL a7_3 (fun h3 => ?_) (fun h3 => ?_)
  · refine .s (.lloadN a7_10 rfl) <| .s (.lloadN a7_11 rfl) <| .s (.lcmp a7_12) ?_
    refine .neL a7_13 (fun h13 => ?_) (fun h13 => ?_)
    · refine .s (.iconst (1 : Int32) a7_20 rfl) ?_
      refine .ireturn .int a7_21 rfl (by simp) ?_
      exact Or.inl ⟨h3, h13, rfl, rfl, rfl⟩
    · refine .s (.iconst (0 : Int32) a7_16 rfl) <| .s (.goto a7_17) ?_
      refine .ireturn .int a7_21 rfl (by simp) ?_
      exact Or.inr (Or.inl ⟨h3, h13, rfl, rfl, rfl⟩)
  · refine .s (.iconst (-1 : Int32) a7_6 rfl) <| .s (.goto a7_7) ?_
    refine .ireturn .int a7_21 rfl (by simp) ?_
    exact Or.inr (Or.inr (⟨h3, rfl, rfl, rfl⟩))
set_option maxHeartbeats 4000000 in
theorem au6_12 {Z : State} {a0 : Array Value} (hw : ∀ d ∈ tables_1, d.before a0 Z = true) (ρ : Nat → Nat) (n0 : Nat) (t1 : Int64) (t2 : Int64) (t3 : Int64) (s1 : Int64) (s2 : Int64) (s3 : Int64) (u : Nat) : WGo (g6 Z ρ n0 5 u) (0, [wR 1, wR 0, wU], [], [(.inr (cn0, [(fk0, (.long t1)), (fk1, .null), (fk2, .null), (fk3, (.long s1))])), (.inr (cn0, [(fk0, (.long t2)), (fk1, .null), (fk2, .null), (fk3, (.long s2))])), (.inr (cn0, [(fk0, (.long t3)), (fk1, .null), (fk2, .null), (fk3, (.long s3))])), (.inr (cn1, [(fk4, .ref 4), (fk5, .int 2)])), (.inl ((.object "com/example/chronogate/chronogate/Event"), [.ref 0, .null, .null, .null, .null, .null, .null, .null]))], u) (fun v σ' u' => (¬ t2 < t1 ∧ ¬ t2 = t1 ∧ v = some (.int 1) ∧ [(.inr (cn0, [(fk0, (.long t1)), (fk1, .null), (fk2, .null), (fk3, (.long s1))])), (.inr (cn0, [(fk0, (.long t2)), (fk1, .null), (fk2, .null), (fk3, (.long s2))])), (.inr (cn0, [(fk0, (.long t3)), (fk1, .null), (fk2, .null), (fk3, (.long s3))])), (.inr (cn1, [(fk4, .ref 4), (fk5, .int 2)])), (.inl ((.object "com/example/chronogate/chronogate/Event"), [.ref 0, .null, .null, .null, .null, .null, .null, .null]))] = σ' ∧ u = u') ∨ (¬ t2 < t1 ∧ t2 = t1 ∧ ¬ s2 < s1 ∧ ¬ s2 = s1 ∧ v = some (.int 1) ∧ [(.inr (cn0, [(fk0, (.long t1)), (fk1, .null), (fk2, .null), (fk3, (.long s1))])), (.inr (cn0, [(fk0, (.long t2)), (fk1, .null), (fk2, .null), (fk3, (.long s2))])), (.inr (cn0, [(fk0, (.long t3)), (fk1, .null), (fk2, .null), (fk3, (.long s3))])), (.inr (cn1, [(fk4, .ref 4), (fk5, .int 2)])), (.inl ((.object "com/example/chronogate/chronogate/Event"), [.ref 0, .null, .null, .null, .null, .null, .null, .null]))] = σ' ∧ u = u') ∨ (¬ t2 < t1 ∧ t2 = t1 ∧ ¬ s2 < s1 ∧ s2 = s1 ∧ v = some (.int 0) ∧ [(.inr (cn0, [(fk0, (.long t1)), (fk1, .null), (fk2, .null), (fk3, (.long s1))])), (.inr (cn0, [(fk0, (.long t2)), (fk1, .null), (fk2, .null), (fk3, (.long s2))])), (.inr (cn0, [(fk0, (.long t3)), (fk1, .null), (fk2, .null), (fk3, (.long s3))])), (.inr (cn1, [(fk4, .ref 4), (fk5, .int 2)])), (.inl ((.object "com/example/chronogate/chronogate/Event"), [.ref 0, .null, .null, .null, .null, .null, .null, .null]))] = σ' ∧ u = u') ∨ (¬ t2 < t1 ∧ t2 = t1 ∧ s2 < s1 ∧ v = some (.int (-1)) ∧ [(.inr (cn0, [(fk0, (.long t1)), (fk1, .null), (fk2, .null), (fk3, (.long s1))])), (.inr (cn0, [(fk0, (.long t2)), (fk1, .null), (fk2, .null), (fk3, (.long s2))])), (.inr (cn0, [(fk0, (.long t3)), (fk1, .null), (fk2, .null), (fk3, (.long s3))])), (.inr (cn1, [(fk4, .ref 4), (fk5, .int 2)])), (.inl ((.object "com/example/chronogate/chronogate/Event"), [.ref 0, .null, .null, .null, .null, .null, .null, .null]))] = σ' ∧ u = u') ∨ (t2 < t1 ∧ v = some (.int (-1)) ∧ [(.inr (cn0, [(fk0, (.long t1)), (fk1, .null), (fk2, .null), (fk3, (.long s1))])), (.inr (cn0, [(fk0, (.long t2)), (fk1, .null), (fk2, .null), (fk3, (.long s2))])), (.inr (cn0, [(fk0, (.long t3)), (fk1, .null), (fk2, .null), (fk3, (.long s3))])), (.inr (cn1, [(fk4, .ref 4), (fk5, .int 2)])), (.inl ((.object "com/example/chronogate/chronogate/Event"), [.ref 0, .null, .null, .null, .null, .null, .null, .null]))] = σ' ∧ u = u')) := by
  refine .s (.aloadN a6_0 rfl rfl) <| .s (.getF 0 a6_1 (wd hw 9 rfl) rfl rfl) <| .s (.aloadN a6_4 rfl rfl) <| .s (.getF 0 a6_5 (wd hw 9 rfl) rfl rfl) ?_
  refine .callS a6_8 (ok7 hw _ _ _ _) (wd hw 42 rfl) (wd hw 43 rfl) (argsL := [(.long t2), (.long t1)]) (S := []) (au7_13 hw _ _ t1 t2 t3 s1 s2 s3 _) rfl rfl rfl rfl rfl rfl (Nat.le_of_ble_eq_true rfl) (Nat.le_of_ble_eq_true rfl) ?_
  rintro _ _ _ (⟨q1, q2, rfl, rfl, rfl⟩ | ⟨q3, q4, rfl, rfl, rfl⟩ | ⟨q5, rfl, rfl, rfl⟩)
  · skip
    show WGo _ (11, [wR 1, wR 0, wU], [.int 1], [(.inr (cn0, [(fk0, (.long t1)), (fk1, .null), (fk2, .null), (fk3, (.long s1))])), (.inr (cn0, [(fk0, (.long t2)), (fk1, .null), (fk2, .null), (fk3, (.long s2))])), (.inr (cn0, [(fk0, (.long t3)), (fk1, .null), (fk2, .null), (fk3, (.long s3))])), (.inr (cn1, [(fk4, .ref 4), (fk5, .int 2)])), (.inl ((.object "com/example/chronogate/chronogate/Event"), [.ref 0, .null, .null, .null, .null, .null, .null, .null]))], u) _
    refine .s (.istoreN (L' := [wR 1, wR 0, wI 1]) a6_11 rfl) <| .s (.iloadN a6_12 rfl) <| .s (.ifF a6_13 (by decide)) <| .s (.iloadN a6_16 rfl) <| .s (.goto a6_17) ?_
    refine .ireturn .int a6_31 rfl (by simp) ?_
    exact Or.inl ⟨q1, q2, rfl, rfl, rfl⟩
  · skip
    show WGo _ (11, [wR 1, wR 0, wU], [.int 0], [(.inr (cn0, [(fk0, (.long t1)), (fk1, .null), (fk2, .null), (fk3, (.long s1))])), (.inr (cn0, [(fk0, (.long t2)), (fk1, .null), (fk2, .null), (fk3, (.long s2))])), (.inr (cn0, [(fk0, (.long t3)), (fk1, .null), (fk2, .null), (fk3, (.long s3))])), (.inr (cn1, [(fk4, .ref 4), (fk5, .int 2)])), (.inl ((.object "com/example/chronogate/chronogate/Event"), [.ref 0, .null, .null, .null, .null, .null, .null, .null]))], u) _
    refine .s (.istoreN (L' := [wR 1, wR 0, wI 0]) a6_11 rfl) <| .s (.iloadN a6_12 rfl) <| .s (.ifT a6_13 (by decide)) <| .s (.aloadN a6_20 rfl rfl) <| .s (.getF 3 a6_21 (wd hw 15 rfl) rfl rfl) <| .s (.aloadN a6_24 rfl rfl) <| .s (.getF 3 a6_25 (wd hw 15 rfl) rfl rfl) ?_
    refine .callS a6_28 (ok7 hw _ _ _ _) (wd hw 42 rfl) (wd hw 43 rfl) (argsL := [(.long s2), (.long s1)]) (S := []) (au7_14 hw _ _ t1 t2 t3 s1 s2 s3 _) rfl rfl rfl rfl rfl rfl (Nat.le_of_ble_eq_true rfl) (Nat.le_of_ble_eq_true rfl) ?_
    rintro _ _ _ (⟨q6, q7, rfl, rfl, rfl⟩ | ⟨q8, q9, rfl, rfl, rfl⟩ | ⟨q10, rfl, rfl, rfl⟩)
    · skip
      show WGo _ (31, [wR 1, wR 0, wI 0], [.int 1], [(.inr (cn0, [(fk0, (.long t1)), (fk1, .null), (fk2, .null), (fk3, (.long s1))])), (.inr (cn0, [(fk0, (.long t2)), (fk1, .null), (fk2, .null), (fk3, (.long s2))])), (.inr (cn0, [(fk0, (.long t3)), (fk1, .null), (fk2, .null), (fk3, (.long s3))])), (.inr (cn1, [(fk4, .ref 4), (fk5, .int 2)])), (.inl ((.object "com/example/chronogate/chronogate/Event"), [.ref 0, .null, .null, .null, .null, .null, .null, .null]))], u) _
      refine .ireturn .int a6_31 rfl (by simp) ?_
      exact Or.inr (Or.inl ⟨q3, q4, q6, q7, rfl, rfl, rfl⟩)
    · skip
      show WGo _ (31, [wR 1, wR 0, wI 0], [.int 0], [(.inr (cn0, [(fk0, (.long t1)), (fk1, .null), (fk2, .null), (fk3, (.long s1))])), (.inr (cn0, [(fk0, (.long t2)), (fk1, .null), (fk2, .null), (fk3, (.long s2))])), (.inr (cn0, [(fk0, (.long t3)), (fk1, .null), (fk2, .null), (fk3, (.long s3))])), (.inr (cn1, [(fk4, .ref 4), (fk5, .int 2)])), (.inl ((.object "com/example/chronogate/chronogate/Event"), [.ref 0, .null, .null, .null, .null, .null, .null, .null]))], u) _
      refine .ireturn .int a6_31 rfl (by simp) ?_
      exact Or.inr (Or.inr (Or.inl ⟨q3, q4, q8, q9, rfl, rfl, rfl⟩))
    · skip
      show WGo _ (31, [wR 1, wR 0, wI 0], [.int (-1)], [(.inr (cn0, [(fk0, (.long t1)), (fk1, .null), (fk2, .null), (fk3, (.long s1))])), (.inr (cn0, [(fk0, (.long t2)), (fk1, .null), (fk2, .null), (fk3, (.long s2))])), (.inr (cn0, [(fk0, (.long t3)), (fk1, .null), (fk2, .null), (fk3, (.long s3))])), (.inr (cn1, [(fk4, .ref 4), (fk5, .int 2)])), (.inl ((.object "com/example/chronogate/chronogate/Event"), [.ref 0, .null, .null, .null, .null, .null, .null, .null]))], u) _
      refine .ireturn .int a6_31 rfl (by simp) ?_
      exact Or.inr (Or.inr (Or.inr (Or.inl ⟨q3, q4, q10, rfl, rfl, rfl⟩)))
  · skip
    show WGo _ (11, [wR 1, wR 0, wU], [.int (-1)], [(.inr (cn0, [(fk0, (.long t1)), (fk1, .null), (fk2, .null), (fk3, (.long s1))])), (.inr (cn0, [(fk0, (.long t2)), (fk1, .null), (fk2, .null), (fk3, (.long s2))])), (.inr (cn0, [(fk0, (.long t3)), (fk1, .null), (fk2, .null), (fk3, (.long s3))])), (.inr (cn1, [(fk4, .ref 4), (fk5, .int 2)])), (.inl ((.object "com/example/chronogate/chronogate/Event"), [.ref 0, .null, .null, .null, .null, .null, .null, .null]))], u) _
    refine .s (.istoreN (L' := [wR 1, wR 0, wI (-1)]) a6_11 rfl) <| .s (.iloadN a6_12 rfl) <| .s (.ifF a6_13 (by decide)) <| .s (.iloadN a6_16 rfl) <| .s (.goto a6_17) ?_
    refine .ireturn .int a6_31 rfl (by simp) ?_
    exact Or.inr (Or.inr (Or.inr (Or.inr (⟨q5, rfl, rfl, rfl⟩))))
set_option maxHeartbeats 4000000 in
theorem au5_11 {Z : State} {a0 : Array Value} (hw : ∀ d ∈ tables_1, d.before a0 Z = true) (ρ : Nat → Nat) (n0 : Nat) (t1 : Int64) (t2 : Int64) (t3 : Int64) (s1 : Int64) (s2 : Int64) (s3 : Int64) (u : Nat) : WGo (g5 Z ρ n0 5 u) (0, [wR 3, wR 1, wU, wU], [], [(.inr (cn0, [(fk0, (.long t1)), (fk1, .null), (fk2, .null), (fk3, (.long s1))])), (.inr (cn0, [(fk0, (.long t2)), (fk1, .null), (fk2, .null), (fk3, (.long s2))])), (.inr (cn0, [(fk0, (.long t3)), (fk1, .null), (fk2, .null), (fk3, (.long s3))])), (.inr (cn1, [(fk4, .ref 4), (fk5, .int 1)])), (.inl ((.object "com/example/chronogate/chronogate/Event"), [.ref 0, .null, .null, .null, .null, .null, .null, .null]))], u) (fun v σ' u' => (¬ t2 < t1 ∧ ¬ t2 = t1 ∧ v = none ∧ [(.inr (cn0, [(fk0, (.long t1)), (fk1, .null), (fk2, .null), (fk3, (.long s1))])), (.inr (cn0, [(fk0, (.long t2)), (fk1, .null), (fk2, .null), (fk3, (.long s2))])), (.inr (cn0, [(fk0, (.long t3)), (fk1, .null), (fk2, .null), (fk3, (.long s3))])), (.inr (cn1, [(fk4, .ref 4), (fk5, .int 2)])), (.inl ((.object "com/example/chronogate/chronogate/Event"), [.ref 0, .ref 1, .null, .null, .null, .null, .null, .null]))] = σ' ∧ u = u') ∨ (¬ t2 < t1 ∧ t2 = t1 ∧ ¬ s2 < s1 ∧ ¬ s2 = s1 ∧ v = none ∧ [(.inr (cn0, [(fk0, (.long t1)), (fk1, .null), (fk2, .null), (fk3, (.long s1))])), (.inr (cn0, [(fk0, (.long t2)), (fk1, .null), (fk2, .null), (fk3, (.long s2))])), (.inr (cn0, [(fk0, (.long t3)), (fk1, .null), (fk2, .null), (fk3, (.long s3))])), (.inr (cn1, [(fk4, .ref 4), (fk5, .int 2)])), (.inl ((.object "com/example/chronogate/chronogate/Event"), [.ref 0, .ref 1, .null, .null, .null, .null, .null, .null]))] = σ' ∧ u = u') ∨ (¬ t2 < t1 ∧ t2 = t1 ∧ ¬ s2 < s1 ∧ s2 = s1 ∧ v = none ∧ [(.inr (cn0, [(fk0, (.long t1)), (fk1, .null), (fk2, .null), (fk3, (.long s1))])), (.inr (cn0, [(fk0, (.long t2)), (fk1, .null), (fk2, .null), (fk3, (.long s2))])), (.inr (cn0, [(fk0, (.long t3)), (fk1, .null), (fk2, .null), (fk3, (.long s3))])), (.inr (cn1, [(fk4, .ref 4), (fk5, .int 2)])), (.inl ((.object "com/example/chronogate/chronogate/Event"), [.ref 0, .ref 1, .null, .null, .null, .null, .null, .null]))] = σ' ∧ u = u') ∨ (¬ t2 < t1 ∧ t2 = t1 ∧ s2 < s1 ∧ v = none ∧ [(.inr (cn0, [(fk0, (.long t1)), (fk1, .null), (fk2, .null), (fk3, (.long s1))])), (.inr (cn0, [(fk0, (.long t2)), (fk1, .null), (fk2, .null), (fk3, (.long s2))])), (.inr (cn0, [(fk0, (.long t3)), (fk1, .null), (fk2, .null), (fk3, (.long s3))])), (.inr (cn1, [(fk4, .ref 4), (fk5, .int 2)])), (.inl ((.object "com/example/chronogate/chronogate/Event"), [.ref 1, .ref 0, .null, .null, .null, .null, .null, .null]))] = σ' ∧ u = u') ∨ (t2 < t1 ∧ v = none ∧ [(.inr (cn0, [(fk0, (.long t1)), (fk1, .null), (fk2, .null), (fk3, (.long s1))])), (.inr (cn0, [(fk0, (.long t2)), (fk1, .null), (fk2, .null), (fk3, (.long s2))])), (.inr (cn0, [(fk0, (.long t3)), (fk1, .null), (fk2, .null), (fk3, (.long s3))])), (.inr (cn1, [(fk4, .ref 4), (fk5, .int 2)])), (.inl ((.object "com/example/chronogate/chronogate/Event"), [.ref 1, .ref 0, .null, .null, .null, .null, .null, .null]))] = σ' ∧ u = u')) := by
  refine .s (.aloadN a5_0 rfl rfl) <| .s (.getF 1 a5_1 (wd hw 36 rfl) rfl rfl) <| .s (.aloadN a5_4 rfl rfl) <| .s (.getF 0 a5_5 (wd hw 29 rfl) rfl rfl) <| .s (.alen (8 : Int32) a5_8 rfl rfl) <| .s (.icmpT a5_9 (by decide)) <| .s (.aloadN a5_32 rfl rfl) ?_
  refine .s (.dup a5_33 rfl) <| .s (.getF 1 a5_34 (wd hw 36 rfl) rfl rfl) <| .s (.dupX1 a5_37 rfl rfl) <| .s (.iconst (1 : Int32) a5_38 rfl) <| .s (.iadd a5_39) ?_
  show WGo _ (40, [wR 3, wR 1, wU, wU], [.int 2, .ref 3, .int 1], [(.inr (cn0, [(fk0, (.long t1)), (fk1, .null), (fk2, .null), (fk3, (.long s1))])), (.inr (cn0, [(fk0, (.long t2)), (fk1, .null), (fk2, .null), (fk3, (.long s2))])), (.inr (cn0, [(fk0, (.long t3)), (fk1, .null), (fk2, .null), (fk3, (.long s3))])), (.inr (cn1, [(fk4, .ref 4), (fk5, .int 1)])), (.inl ((.object "com/example/chronogate/chronogate/Event"), [.ref 0, .null, .null, .null, .null, .null, .null, .null]))], u) _
  refine .s (.putF (ty := .int) 1 (.int 2) a5_40 (wd hw 36 rfl) rfl rfl (Or.inl (wd hw 37 rfl)) (wd hw 18 rfl) (by decide) rfl rfl) ?_
  show WGo _ (43, [wR 3, wR 1, wU, wU], [.int 1], [(.inr (cn0, [(fk0, (.long t1)), (fk1, .null), (fk2, .null), (fk3, (.long s1))])), (.inr (cn0, [(fk0, (.long t2)), (fk1, .null), (fk2, .null), (fk3, (.long s2))])), (.inr (cn0, [(fk0, (.long t3)), (fk1, .null), (fk2, .null), (fk3, (.long s3))])), (.inr (cn1, [(fk4, .ref 4), (fk5, .int 2)])), (.inl ((.object "com/example/chronogate/chronogate/Event"), [.ref 0, .null, .null, .null, .null, .null, .null, .null]))], u) _
  refine .s (.istoreN (L' := [wR 3, wR 1, wI 1, wU]) a5_43 rfl) <| .s (.iloadN a5_44 rfl) <| .s (.ifF a5_45 (by decide)) <| .s (.iloadN a5_48 rfl) <| .s (.iconst (1 : Int32) a5_49 rfl) <| .s (.isub a5_50) ?_
  show WGo _ (51, [wR 3, wR 1, wI 1, wU], [.int 0], [(.inr (cn0, [(fk0, (.long t1)), (fk1, .null), (fk2, .null), (fk3, (.long s1))])), (.inr (cn0, [(fk0, (.long t2)), (fk1, .null), (fk2, .null), (fk3, (.long s2))])), (.inr (cn0, [(fk0, (.long t3)), (fk1, .null), (fk2, .null), (fk3, (.long s3))])), (.inr (cn1, [(fk4, .ref 4), (fk5, .int 2)])), (.inl ((.object "com/example/chronogate/chronogate/Event"), [.ref 0, .null, .null, .null, .null, .null, .null, .null]))], u) _
  refine .s (.iconst (2 : Int32) a5_51 rfl) <| .s (.idiv a5_52 (by decide)) ?_
  show WGo _ (53, [wR 3, wR 1, wI 1, wU], [.int 0], [(.inr (cn0, [(fk0, (.long t1)), (fk1, .null), (fk2, .null), (fk3, (.long s1))])), (.inr (cn0, [(fk0, (.long t2)), (fk1, .null), (fk2, .null), (fk3, (.long s2))])), (.inr (cn0, [(fk0, (.long t3)), (fk1, .null), (fk2, .null), (fk3, (.long s3))])), (.inr (cn1, [(fk4, .ref 4), (fk5, .int 2)])), (.inl ((.object "com/example/chronogate/chronogate/Event"), [.ref 0, .null, .null, .null, .null, .null, .null, .null]))], u) _
  refine .s (.istoreN (L' := [wR 3, wR 1, wI 1, wI 0]) a5_53 rfl) <| .s (.aloadN a5_54 rfl rfl) <| .s (.aloadN a5_55 rfl rfl) <| .s (.getF 0 a5_56 (wd hw 29 rfl) rfl rfl) <| .s (.iloadN a5_59 rfl) <| .s (.aaload 0 a5_60 rfl rfl (by decide) rfl rfl) ?_
  refine .callS a5_61 (ok6 hw _ _ _ _) (wd hw 39 rfl) (wd hw 40 rfl) (argsL := [.ref 1, .ref 0]) (S := []) (au6_12 hw _ _ t1 t2 t3 s1 s2 s3 _) rfl rfl rfl rfl rfl rfl (Nat.le_of_ble_eq_true rfl) (Nat.le_of_ble_eq_true rfl) ?_
  rintro _ _ _ (⟨q11, q12, rfl, rfl, rfl⟩ | ⟨q13, q14, q15, q16, rfl, rfl, rfl⟩ | ⟨q17, q18, q19, q20, rfl, rfl, rfl⟩ | ⟨q21, q22, q23, rfl, rfl, rfl⟩ | ⟨q24, rfl, rfl, rfl⟩)
  · skip
    show WGo _ (64, [wR 3, wR 1, wI 1, wI 0], [.int 1], [(.inr (cn0, [(fk0, (.long t1)), (fk1, .null), (fk2, .null), (fk3, (.long s1))])), (.inr (cn0, [(fk0, (.long t2)), (fk1, .null), (fk2, .null), (fk3, (.long s2))])), (.inr (cn0, [(fk0, (.long t3)), (fk1, .null), (fk2, .null), (fk3, (.long s3))])), (.inr (cn1, [(fk4, .ref 4), (fk5, .int 2)])), (.inl ((.object "com/example/chronogate/chronogate/Event"), [.ref 0, .null, .null, .null, .null, .null, .null, .null]))], u) _
    refine .s (.ifF a5_64 (by decide)) <| .s (.goto a5_67) <| .s (.aloadN a5_87 rfl rfl) <| .s (.getF 0 a5_88 (wd hw 29 rfl) rfl rfl) <| .s (.iloadN a5_91 rfl) <| .s (.aloadN a5_92 rfl rfl) <| .s (.aastore 1 a5_93 rfl rfl (by decide) rfl (Nat.le_of_ble_eq_true rfl)) ?_
    show WGo _ (94, [wR 3, wR 1, wI 1, wI 0], [], [(.inr (cn0, [(fk0, (.long t1)), (fk1, .null), (fk2, .null), (fk3, (.long s1))])), (.inr (cn0, [(fk0, (.long t2)), (fk1, .null), (fk2, .null), (fk3, (.long s2))])), (.inr (cn0, [(fk0, (.long t3)), (fk1, .null), (fk2, .null), (fk3, (.long s3))])), (.inr (cn1, [(fk4, .ref 4), (fk5, .int 2)])), (.inl ((.object "com/example/chronogate/chronogate/Event"), [.ref 0, .ref 1, .null, .null, .null, .null, .null, .null]))], u) _
    refine .vreturn a5_94 rfl ?_
    exact Or.inl ⟨q11, q12, rfl, rfl, rfl⟩
  · skip
    show WGo _ (64, [wR 3, wR 1, wI 1, wI 0], [.int 1], [(.inr (cn0, [(fk0, (.long t1)), (fk1, .null), (fk2, .null), (fk3, (.long s1))])), (.inr (cn0, [(fk0, (.long t2)), (fk1, .null), (fk2, .null), (fk3, (.long s2))])), (.inr (cn0, [(fk0, (.long t3)), (fk1, .null), (fk2, .null), (fk3, (.long s3))])), (.inr (cn1, [(fk4, .ref 4), (fk5, .int 2)])), (.inl ((.object "com/example/chronogate/chronogate/Event"), [.ref 0, .null, .null, .null, .null, .null, .null, .null]))], u) _
    refine .s (.ifF a5_64 (by decide)) <| .s (.goto a5_67) <| .s (.aloadN a5_87 rfl rfl) <| .s (.getF 0 a5_88 (wd hw 29 rfl) rfl rfl) <| .s (.iloadN a5_91 rfl) <| .s (.aloadN a5_92 rfl rfl) <| .s (.aastore 1 a5_93 rfl rfl (by decide) rfl (Nat.le_of_ble_eq_true rfl)) ?_
    show WGo _ (94, [wR 3, wR 1, wI 1, wI 0], [], [(.inr (cn0, [(fk0, (.long t1)), (fk1, .null), (fk2, .null), (fk3, (.long s1))])), (.inr (cn0, [(fk0, (.long t2)), (fk1, .null), (fk2, .null), (fk3, (.long s2))])), (.inr (cn0, [(fk0, (.long t3)), (fk1, .null), (fk2, .null), (fk3, (.long s3))])), (.inr (cn1, [(fk4, .ref 4), (fk5, .int 2)])), (.inl ((.object "com/example/chronogate/chronogate/Event"), [.ref 0, .ref 1, .null, .null, .null, .null, .null, .null]))], u) _
    refine .vreturn a5_94 rfl ?_
    exact Or.inr (Or.inl ⟨q13, q14, q15, q16, rfl, rfl, rfl⟩)
  · skip
    show WGo _ (64, [wR 3, wR 1, wI 1, wI 0], [.int 0], [(.inr (cn0, [(fk0, (.long t1)), (fk1, .null), (fk2, .null), (fk3, (.long s1))])), (.inr (cn0, [(fk0, (.long t2)), (fk1, .null), (fk2, .null), (fk3, (.long s2))])), (.inr (cn0, [(fk0, (.long t3)), (fk1, .null), (fk2, .null), (fk3, (.long s3))])), (.inr (cn1, [(fk4, .ref 4), (fk5, .int 2)])), (.inl ((.object "com/example/chronogate/chronogate/Event"), [.ref 0, .null, .null, .null, .null, .null, .null, .null]))], u) _
    refine .s (.ifF a5_64 (by decide)) <| .s (.goto a5_67) <| .s (.aloadN a5_87 rfl rfl) <| .s (.getF 0 a5_88 (wd hw 29 rfl) rfl rfl) <| .s (.iloadN a5_91 rfl) <| .s (.aloadN a5_92 rfl rfl) <| .s (.aastore 1 a5_93 rfl rfl (by decide) rfl (Nat.le_of_ble_eq_true rfl)) ?_
    show WGo _ (94, [wR 3, wR 1, wI 1, wI 0], [], [(.inr (cn0, [(fk0, (.long t1)), (fk1, .null), (fk2, .null), (fk3, (.long s1))])), (.inr (cn0, [(fk0, (.long t2)), (fk1, .null), (fk2, .null), (fk3, (.long s2))])), (.inr (cn0, [(fk0, (.long t3)), (fk1, .null), (fk2, .null), (fk3, (.long s3))])), (.inr (cn1, [(fk4, .ref 4), (fk5, .int 2)])), (.inl ((.object "com/example/chronogate/chronogate/Event"), [.ref 0, .ref 1, .null, .null, .null, .null, .null, .null]))], u) _
    refine .vreturn a5_94 rfl ?_
    exact Or.inr (Or.inr (Or.inl ⟨q17, q18, q19, q20, rfl, rfl, rfl⟩))
  · skip
    show WGo _ (64, [wR 3, wR 1, wI 1, wI 0], [.int (-1)], [(.inr (cn0, [(fk0, (.long t1)), (fk1, .null), (fk2, .null), (fk3, (.long s1))])), (.inr (cn0, [(fk0, (.long t2)), (fk1, .null), (fk2, .null), (fk3, (.long s2))])), (.inr (cn0, [(fk0, (.long t3)), (fk1, .null), (fk2, .null), (fk3, (.long s3))])), (.inr (cn1, [(fk4, .ref 4), (fk5, .int 2)])), (.inl ((.object "com/example/chronogate/chronogate/Event"), [.ref 0, .null, .null, .null, .null, .null, .null, .null]))], u) _
    refine .s (.ifT a5_64 (by decide)) <| .s (.aloadN a5_70 rfl rfl) <| .s (.getF 0 a5_71 (wd hw 29 rfl) rfl rfl) <| .s (.iloadN a5_74 rfl) <| .s (.aloadN a5_75 rfl rfl) <| .s (.getF 0 a5_76 (wd hw 29 rfl) rfl rfl) <| .s (.iloadN a5_79 rfl) ?_
    refine .s (.aaload 0 a5_80 rfl rfl (by decide) rfl rfl) <| .s (.aastore 1 a5_81 rfl rfl (by decide) rfl (Nat.le_of_ble_eq_true rfl)) ?_
    show WGo _ (82, [wR 3, wR 1, wI 1, wI 0], [], [(.inr (cn0, [(fk0, (.long t1)), (fk1, .null), (fk2, .null), (fk3, (.long s1))])), (.inr (cn0, [(fk0, (.long t2)), (fk1, .null), (fk2, .null), (fk3, (.long s2))])), (.inr (cn0, [(fk0, (.long t3)), (fk1, .null), (fk2, .null), (fk3, (.long s3))])), (.inr (cn1, [(fk4, .ref 4), (fk5, .int 2)])), (.inl ((.object "com/example/chronogate/chronogate/Event"), [.ref 0, .ref 0, .null, .null, .null, .null, .null, .null]))], u) _
    refine .s (.iloadN a5_82 rfl) <| .s (.istoreN (L' := [wR 3, wR 1, wI 0, wI 0]) a5_83 rfl) <| .s (.goto a5_84) <| .s (.iloadN a5_44 rfl) <| .s (.ifT a5_45 (by decide)) <| .s (.aloadN a5_87 rfl rfl) <| .s (.getF 0 a5_88 (wd hw 29 rfl) rfl rfl) ?_
    refine .s (.iloadN a5_91 rfl) <| .s (.aloadN a5_92 rfl rfl) <| .s (.aastore 0 a5_93 rfl rfl (by decide) rfl (Nat.le_of_ble_eq_true rfl)) ?_
    show WGo _ (94, [wR 3, wR 1, wI 0, wI 0], [], [(.inr (cn0, [(fk0, (.long t1)), (fk1, .null), (fk2, .null), (fk3, (.long s1))])), (.inr (cn0, [(fk0, (.long t2)), (fk1, .null), (fk2, .null), (fk3, (.long s2))])), (.inr (cn0, [(fk0, (.long t3)), (fk1, .null), (fk2, .null), (fk3, (.long s3))])), (.inr (cn1, [(fk4, .ref 4), (fk5, .int 2)])), (.inl ((.object "com/example/chronogate/chronogate/Event"), [.ref 1, .ref 0, .null, .null, .null, .null, .null, .null]))], u) _
    refine .vreturn a5_94 rfl ?_
    exact Or.inr (Or.inr (Or.inr (Or.inl ⟨q21, q22, q23, rfl, rfl, rfl⟩)))
  · skip
    show WGo _ (64, [wR 3, wR 1, wI 1, wI 0], [.int (-1)], [(.inr (cn0, [(fk0, (.long t1)), (fk1, .null), (fk2, .null), (fk3, (.long s1))])), (.inr (cn0, [(fk0, (.long t2)), (fk1, .null), (fk2, .null), (fk3, (.long s2))])), (.inr (cn0, [(fk0, (.long t3)), (fk1, .null), (fk2, .null), (fk3, (.long s3))])), (.inr (cn1, [(fk4, .ref 4), (fk5, .int 2)])), (.inl ((.object "com/example/chronogate/chronogate/Event"), [.ref 0, .null, .null, .null, .null, .null, .null, .null]))], u) _
    refine .s (.ifT a5_64 (by decide)) <| .s (.aloadN a5_70 rfl rfl) <| .s (.getF 0 a5_71 (wd hw 29 rfl) rfl rfl) <| .s (.iloadN a5_74 rfl) <| .s (.aloadN a5_75 rfl rfl) <| .s (.getF 0 a5_76 (wd hw 29 rfl) rfl rfl) <| .s (.iloadN a5_79 rfl) ?_
    refine .s (.aaload 0 a5_80 rfl rfl (by decide) rfl rfl) <| .s (.aastore 1 a5_81 rfl rfl (by decide) rfl (Nat.le_of_ble_eq_true rfl)) ?_
    show WGo _ (82, [wR 3, wR 1, wI 1, wI 0], [], [(.inr (cn0, [(fk0, (.long t1)), (fk1, .null), (fk2, .null), (fk3, (.long s1))])), (.inr (cn0, [(fk0, (.long t2)), (fk1, .null), (fk2, .null), (fk3, (.long s2))])), (.inr (cn0, [(fk0, (.long t3)), (fk1, .null), (fk2, .null), (fk3, (.long s3))])), (.inr (cn1, [(fk4, .ref 4), (fk5, .int 2)])), (.inl ((.object "com/example/chronogate/chronogate/Event"), [.ref 0, .ref 0, .null, .null, .null, .null, .null, .null]))], u) _
    refine .s (.iloadN a5_82 rfl) <| .s (.istoreN (L' := [wR 3, wR 1, wI 0, wI 0]) a5_83 rfl) <| .s (.goto a5_84) <| .s (.iloadN a5_44 rfl) <| .s (.ifT a5_45 (by decide)) <| .s (.aloadN a5_87 rfl rfl) <| .s (.getF 0 a5_88 (wd hw 29 rfl) rfl rfl) ?_
    refine .s (.iloadN a5_91 rfl) <| .s (.aloadN a5_92 rfl rfl) <| .s (.aastore 0 a5_93 rfl rfl (by decide) rfl (Nat.le_of_ble_eq_true rfl)) ?_
    show WGo _ (94, [wR 3, wR 1, wI 0, wI 0], [], [(.inr (cn0, [(fk0, (.long t1)), (fk1, .null), (fk2, .null), (fk3, (.long s1))])), (.inr (cn0, [(fk0, (.long t2)), (fk1, .null), (fk2, .null), (fk3, (.long s2))])), (.inr (cn0, [(fk0, (.long t3)), (fk1, .null), (fk2, .null), (fk3, (.long s3))])), (.inr (cn1, [(fk4, .ref 4), (fk5, .int 2)])), (.inl ((.object "com/example/chronogate/chronogate/Event"), [.ref 1, .ref 0, .null, .null, .null, .null, .null, .null]))], u) _
    refine .vreturn a5_94 rfl ?_
    exact Or.inr (Or.inr (Or.inr (Or.inr (⟨q24, rfl, rfl, rfl⟩))))
set_option maxHeartbeats 4000000 in
theorem au8_15 {Z : State} {a0 : Array Value} (hw : ∀ d ∈ tables_1, d.before a0 Z = true) (ρ : Nat → Nat) (n0 : Nat) (t1 : Int64) (t2 : Int64) (t3 : Int64) (s1 : Int64) (s2 : Int64) (s3 : Int64) (u : Nat) : WGo (g8 Z ρ n0 5 u) (0, [wJ t2, wS, wJ s2, wS, wJ t1, wS, wJ s1, wS], [], [(.inr (cn0, [(fk0, (.long t1)), (fk1, .null), (fk2, .null), (fk3, (.long s1))])), (.inr (cn0, [(fk0, (.long t2)), (fk1, .null), (fk2, .null), (fk3, (.long s2))])), (.inr (cn0, [(fk0, (.long t3)), (fk1, .null), (fk2, .null), (fk3, (.long s3))])), (.inr (cn1, [(fk4, .ref 4), (fk5, .int 2)])), (.inl ((.object "com/example/chronogate/chronogate/Event"), [.ref 0, .ref 1, .null, .null, .null, .null, .null, .null]))], u) (fun v σ' u' => (¬ t2 < t1 ∧ ¬ t1 < t2 ∧ ¬ s2 < s1 ∧ v = some (.int 0) ∧ [(.inr (cn0, [(fk0, (.long t1)), (fk1, .null), (fk2, .null), (fk3, (.long s1))])), (.inr (cn0, [(fk0, (.long t2)), (fk1, .null), (fk2, .null), (fk3, (.long s2))])), (.inr (cn0, [(fk0, (.long t3)), (fk1, .null), (fk2, .null), (fk3, (.long s3))])), (.inr (cn1, [(fk4, .ref 4), (fk5, .int 2)])), (.inl ((.object "com/example/chronogate/chronogate/Event"), [.ref 0, .ref 1, .null, .null, .null, .null, .null, .null]))] = σ' ∧ u = u') ∨ (¬ t2 < t1 ∧ ¬ t1 < t2 ∧ s2 < s1 ∧ v = some (.int 1) ∧ [(.inr (cn0, [(fk0, (.long t1)), (fk1, .null), (fk2, .null), (fk3, (.long s1))])), (.inr (cn0, [(fk0, (.long t2)), (fk1, .null), (fk2, .null), (fk3, (.long s2))])), (.inr (cn0, [(fk0, (.long t3)), (fk1, .null), (fk2, .null), (fk3, (.long s3))])), (.inr (cn1, [(fk4, .ref 4), (fk5, .int 2)])), (.inl ((.object "com/example/chronogate/chronogate/Event"), [.ref 0, .ref 1, .null, .null, .null, .null, .null, .null]))] = σ' ∧ u = u') ∨ (¬ t2 < t1 ∧ t1 < t2 ∧ v = some (.int 0) ∧ [(.inr (cn0, [(fk0, (.long t1)), (fk1, .null), (fk2, .null), (fk3, (.long s1))])), (.inr (cn0, [(fk0, (.long t2)), (fk1, .null), (fk2, .null), (fk3, (.long s2))])), (.inr (cn0, [(fk0, (.long t3)), (fk1, .null), (fk2, .null), (fk3, (.long s3))])), (.inr (cn1, [(fk4, .ref 4), (fk5, .int 2)])), (.inl ((.object "com/example/chronogate/chronogate/Event"), [.ref 0, .ref 1, .null, .null, .null, .null, .null, .null]))] = σ' ∧ u = u') ∨ (t2 < t1 ∧ v = some (.int 1) ∧ [(.inr (cn0, [(fk0, (.long t1)), (fk1, .null), (fk2, .null), (fk3, (.long s1))])), (.inr (cn0, [(fk0, (.long t2)), (fk1, .null), (fk2, .null), (fk3, (.long s2))])), (.inr (cn0, [(fk0, (.long t3)), (fk1, .null), (fk2, .null), (fk3, (.long s3))])), (.inr (cn1, [(fk4, .ref 4), (fk5, .int 2)])), (.inl ((.object "com/example/chronogate/chronogate/Event"), [.ref 0, .ref 1, .null, .null, .null, .null, .null, .null]))] = σ' ∧ u = u')) := by
  refine .s (.lloadN a8_0 rfl) <| .s (.lload a8_1 rfl) <| .s (.lcmp a8_3) ?_
  refine .geL a8_4 (fun h4 => ?_) (fun h4 => ?_)
  · refine .s (.lloadN a8_9 rfl) <| .s (.lload a8_10 rfl) <| .s (.lcmp a8_12) ?_
    refine .leL a8_13 (fun h13 => ?_) (fun h13 => ?_)
    · refine .s (.lloadN a8_18 rfl) <| .s (.lload a8_19 rfl) <| .s (.lcmp a8_21) ?_
      refine .geL a8_22 (fun h22 => ?_) (fun h22 => ?_)
      · refine .s (.iconst (0 : Int32) a8_29 rfl) ?_
        refine .ireturn .boolean a8_30 rfl (by simp) ?_
        exact Or.inl ⟨h4, h13, h22, rfl, rfl, rfl⟩
      · refine .s (.iconst (1 : Int32) a8_25 rfl) <| .s (.goto a8_26) ?_
        refine .ireturn .boolean a8_30 rfl (by simp) ?_
        exact Or.inr (Or.inl ⟨h4, h13, h22, rfl, rfl, rfl⟩)
    · refine .s (.iconst (0 : Int32) a8_16 rfl) ?_
      refine .ireturn .boolean a8_17 rfl (by simp) ?_
      exact Or.inr (Or.inr (Or.inl ⟨h4, h13, rfl, rfl, rfl⟩))
  · refine .s (.iconst (1 : Int32) a8_7 rfl) ?_
    refine .ireturn .boolean a8_8 rfl (by simp) ?_
    exact Or.inr (Or.inr (Or.inr (⟨h4, rfl, rfl, rfl⟩)))
set_option maxHeartbeats 4000000 in
theorem au9_16 {Z : State} {a0 : Array Value} (hw : ∀ d ∈ tables_1, d.before a0 Z = true) (ρ : Nat → Nat) (n0 : Nat) (t1 : Int64) (t2 : Int64) (t3 : Int64) (s1 : Int64) (s2 : Int64) (s3 : Int64) (u : Nat) : WGo (g9 Z ρ n0 5 u) (0, [wR 3], [], [(.inr (cn0, [(fk0, (.long t1)), (fk1, .null), (fk2, .null), (fk3, (.long s1))])), (.inr (cn0, [(fk0, (.long t2)), (fk1, .null), (fk2, .null), (fk3, (.long s2))])), (.inr (cn0, [(fk0, (.long t3)), (fk1, .null), (fk2, .null), (fk3, (.long s3))])), (.inr (cn1, [(fk4, .ref 4), (fk5, .int 2)])), (.inl ((.object "com/example/chronogate/chronogate/Event"), [.ref 0, .ref 1, .null, .null, .null, .null, .null, .null]))], u) (fun v σ' u' => v = some (.ref 0) ∧ [(.inr (cn0, [(fk0, (.long t1)), (fk1, .null), (fk2, .null), (fk3, (.long s1))])), (.inr (cn0, [(fk0, (.long t2)), (fk1, .null), (fk2, .null), (fk3, (.long s2))])), (.inr (cn0, [(fk0, (.long t3)), (fk1, .null), (fk2, .null), (fk3, (.long s3))])), (.inr (cn1, [(fk4, .ref 4), (fk5, .int 2)])), (.inl ((.object "com/example/chronogate/chronogate/Event"), [.ref 0, .ref 1, .null, .null, .null, .null, .null, .null]))] = σ' ∧ u = u') := by
  refine .s (.aloadN a9_0 rfl rfl) <| .s (.getF 1 a9_1 (wd hw 36 rfl) rfl rfl) <| .s (.ifT a9_4 (by decide)) <| .s (.aloadN a9_11 rfl rfl) <| .s (.getF 0 a9_12 (wd hw 29 rfl) rfl rfl) <| .s (.iconst (0 : Int32) a9_15 rfl) <| .s (.aaload 0 a9_16 rfl rfl (by decide) rfl rfl) ?_
  refine .areturn (.object "com/example/chronogate/chronogate/Event") a9_17 rfl rfl rfl ?_
  exact ⟨rfl, rfl, rfl⟩
set_option maxHeartbeats 4000000 in
theorem au10_17 {Z : State} {a0 : Array Value} (hw : ∀ d ∈ tables_1, d.before a0 Z = true) (ρ : Nat → Nat) (n0 : Nat) (t1 : Int64) (t2 : Int64) (t3 : Int64) (s1 : Int64) (s2 : Int64) (s3 : Int64) (u : Nat) : WGo (g10 Z ρ n0 5 u) (0, [wR 3], [], [(.inr (cn0, [(fk0, (.long t1)), (fk1, .null), (fk2, .null), (fk3, (.long s1))])), (.inr (cn0, [(fk0, (.long t2)), (fk1, .null), (fk2, .null), (fk3, (.long s2))])), (.inr (cn0, [(fk0, (.long t3)), (fk1, .null), (fk2, .null), (fk3, (.long s3))])), (.inr (cn1, [(fk4, .ref 4), (fk5, .int 2)])), (.inl ((.object "com/example/chronogate/chronogate/Event"), [.ref 0, .ref 1, .null, .null, .null, .null, .null, .null]))], u) (fun v σ' u' => v = some (.int 2) ∧ [(.inr (cn0, [(fk0, (.long t1)), (fk1, .null), (fk2, .null), (fk3, (.long s1))])), (.inr (cn0, [(fk0, (.long t2)), (fk1, .null), (fk2, .null), (fk3, (.long s2))])), (.inr (cn0, [(fk0, (.long t3)), (fk1, .null), (fk2, .null), (fk3, (.long s3))])), (.inr (cn1, [(fk4, .ref 4), (fk5, .int 2)])), (.inl ((.object "com/example/chronogate/chronogate/Event"), [.ref 0, .ref 1, .null, .null, .null, .null, .null, .null]))] = σ' ∧ u = u') := by
  refine .s (.aloadN a10_0 rfl rfl) <| .s (.getF 1 a10_1 (wd hw 36 rfl) rfl rfl) ?_
  refine .ireturn .int a10_4 rfl (by simp) ?_
  exact ⟨rfl, rfl, rfl⟩
set_option maxHeartbeats 4000000 in
theorem au8_18 {Z : State} {a0 : Array Value} (hw : ∀ d ∈ tables_1, d.before a0 Z = true) (ρ : Nat → Nat) (n0 : Nat) (t1 : Int64) (t2 : Int64) (t3 : Int64) (s1 : Int64) (s2 : Int64) (s3 : Int64) (u : Nat) : WGo (g8 Z ρ n0 5 u) (0, [wJ t2, wS, wJ s2, wS, wJ t1, wS, wJ s1, wS], [], [(.inr (cn0, [(fk0, (.long t1)), (fk1, .null), (fk2, .null), (fk3, (.long s1))])), (.inr (cn0, [(fk0, (.long t2)), (fk1, .null), (fk2, .null), (fk3, (.long s2))])), (.inr (cn0, [(fk0, (.long t3)), (fk1, .null), (fk2, .null), (fk3, (.long s3))])), (.inr (cn1, [(fk4, .ref 4), (fk5, .int 2)])), (.inl ((.object "com/example/chronogate/chronogate/Event"), [.ref 1, .ref 0, .null, .null, .null, .null, .null, .null]))], u) (fun v σ' u' => (¬ t2 < t1 ∧ ¬ t1 < t2 ∧ ¬ s2 < s1 ∧ v = some (.int 0) ∧ [(.inr (cn0, [(fk0, (.long t1)), (fk1, .null), (fk2, .null), (fk3, (.long s1))])), (.inr (cn0, [(fk0, (.long t2)), (fk1, .null), (fk2, .null), (fk3, (.long s2))])), (.inr (cn0, [(fk0, (.long t3)), (fk1, .null), (fk2, .null), (fk3, (.long s3))])), (.inr (cn1, [(fk4, .ref 4), (fk5, .int 2)])), (.inl ((.object "com/example/chronogate/chronogate/Event"), [.ref 1, .ref 0, .null, .null, .null, .null, .null, .null]))] = σ' ∧ u = u') ∨ (¬ t2 < t1 ∧ ¬ t1 < t2 ∧ s2 < s1 ∧ v = some (.int 1) ∧ [(.inr (cn0, [(fk0, (.long t1)), (fk1, .null), (fk2, .null), (fk3, (.long s1))])), (.inr (cn0, [(fk0, (.long t2)), (fk1, .null), (fk2, .null), (fk3, (.long s2))])), (.inr (cn0, [(fk0, (.long t3)), (fk1, .null), (fk2, .null), (fk3, (.long s3))])), (.inr (cn1, [(fk4, .ref 4), (fk5, .int 2)])), (.inl ((.object "com/example/chronogate/chronogate/Event"), [.ref 1, .ref 0, .null, .null, .null, .null, .null, .null]))] = σ' ∧ u = u') ∨ (¬ t2 < t1 ∧ t1 < t2 ∧ v = some (.int 0) ∧ [(.inr (cn0, [(fk0, (.long t1)), (fk1, .null), (fk2, .null), (fk3, (.long s1))])), (.inr (cn0, [(fk0, (.long t2)), (fk1, .null), (fk2, .null), (fk3, (.long s2))])), (.inr (cn0, [(fk0, (.long t3)), (fk1, .null), (fk2, .null), (fk3, (.long s3))])), (.inr (cn1, [(fk4, .ref 4), (fk5, .int 2)])), (.inl ((.object "com/example/chronogate/chronogate/Event"), [.ref 1, .ref 0, .null, .null, .null, .null, .null, .null]))] = σ' ∧ u = u') ∨ (t2 < t1 ∧ v = some (.int 1) ∧ [(.inr (cn0, [(fk0, (.long t1)), (fk1, .null), (fk2, .null), (fk3, (.long s1))])), (.inr (cn0, [(fk0, (.long t2)), (fk1, .null), (fk2, .null), (fk3, (.long s2))])), (.inr (cn0, [(fk0, (.long t3)), (fk1, .null), (fk2, .null), (fk3, (.long s3))])), (.inr (cn1, [(fk4, .ref 4), (fk5, .int 2)])), (.inl ((.object "com/example/chronogate/chronogate/Event"), [.ref 1, .ref 0, .null, .null, .null, .null, .null, .null]))] = σ' ∧ u = u')) := by
  refine .s (.lloadN a8_0 rfl) <| .s (.lload a8_1 rfl) <| .s (.lcmp a8_3) ?_
  refine .geL a8_4 (fun h4 => ?_) (fun h4 => ?_)
  · refine .s (.lloadN a8_9 rfl) <| .s (.lload a8_10 rfl) <| .s (.lcmp a8_12) ?_
    refine .leL a8_13 (fun h13 => ?_) (fun h13 => ?_)
    · refine .s (.lloadN a8_18 rfl) <| .s (.lload a8_19 rfl) <| .s (.lcmp a8_21) ?_
      refine .geL a8_22 (fun h22 => ?_) (fun h22 => ?_)
      · refine .s (.iconst (0 : Int32) a8_29 rfl) ?_
        refine .ireturn .boolean a8_30 rfl (by simp) ?_
        exact Or.inl ⟨h4, h13, h22, rfl, rfl, rfl⟩
      · refine .s (.iconst (1 : Int32) a8_25 rfl) <| .s (.goto a8_26) ?_
        refine .ireturn .boolean a8_30 rfl (by simp) ?_
        exact Or.inr (Or.inl ⟨h4, h13, h22, rfl, rfl, rfl⟩)
    · refine .s (.iconst (0 : Int32) a8_16 rfl) ?_
      refine .ireturn .boolean a8_17 rfl (by simp) ?_
      exact Or.inr (Or.inr (Or.inl ⟨h4, h13, rfl, rfl, rfl⟩))
  · refine .s (.iconst (1 : Int32) a8_7 rfl) ?_
    refine .ireturn .boolean a8_8 rfl (by simp) ?_
    exact Or.inr (Or.inr (Or.inr (⟨h4, rfl, rfl, rfl⟩)))
set_option maxHeartbeats 4000000 in
theorem au9_19 {Z : State} {a0 : Array Value} (hw : ∀ d ∈ tables_1, d.before a0 Z = true) (ρ : Nat → Nat) (n0 : Nat) (t1 : Int64) (t2 : Int64) (t3 : Int64) (s1 : Int64) (s2 : Int64) (s3 : Int64) (u : Nat) : WGo (g9 Z ρ n0 5 u) (0, [wR 3], [], [(.inr (cn0, [(fk0, (.long t1)), (fk1, .null), (fk2, .null), (fk3, (.long s1))])), (.inr (cn0, [(fk0, (.long t2)), (fk1, .null), (fk2, .null), (fk3, (.long s2))])), (.inr (cn0, [(fk0, (.long t3)), (fk1, .null), (fk2, .null), (fk3, (.long s3))])), (.inr (cn1, [(fk4, .ref 4), (fk5, .int 2)])), (.inl ((.object "com/example/chronogate/chronogate/Event"), [.ref 1, .ref 0, .null, .null, .null, .null, .null, .null]))], u) (fun v σ' u' => v = some (.ref 1) ∧ [(.inr (cn0, [(fk0, (.long t1)), (fk1, .null), (fk2, .null), (fk3, (.long s1))])), (.inr (cn0, [(fk0, (.long t2)), (fk1, .null), (fk2, .null), (fk3, (.long s2))])), (.inr (cn0, [(fk0, (.long t3)), (fk1, .null), (fk2, .null), (fk3, (.long s3))])), (.inr (cn1, [(fk4, .ref 4), (fk5, .int 2)])), (.inl ((.object "com/example/chronogate/chronogate/Event"), [.ref 1, .ref 0, .null, .null, .null, .null, .null, .null]))] = σ' ∧ u = u') := by
  refine .s (.aloadN a9_0 rfl rfl) <| .s (.getF 1 a9_1 (wd hw 36 rfl) rfl rfl) <| .s (.ifT a9_4 (by decide)) <| .s (.aloadN a9_11 rfl rfl) <| .s (.getF 0 a9_12 (wd hw 29 rfl) rfl rfl) <| .s (.iconst (0 : Int32) a9_15 rfl) <| .s (.aaload 0 a9_16 rfl rfl (by decide) rfl rfl) ?_
  refine .areturn (.object "com/example/chronogate/chronogate/Event") a9_17 rfl rfl rfl ?_
  exact ⟨rfl, rfl, rfl⟩
set_option maxHeartbeats 4000000 in
theorem au10_20 {Z : State} {a0 : Array Value} (hw : ∀ d ∈ tables_1, d.before a0 Z = true) (ρ : Nat → Nat) (n0 : Nat) (t1 : Int64) (t2 : Int64) (t3 : Int64) (s1 : Int64) (s2 : Int64) (s3 : Int64) (u : Nat) : WGo (g10 Z ρ n0 5 u) (0, [wR 3], [], [(.inr (cn0, [(fk0, (.long t1)), (fk1, .null), (fk2, .null), (fk3, (.long s1))])), (.inr (cn0, [(fk0, (.long t2)), (fk1, .null), (fk2, .null), (fk3, (.long s2))])), (.inr (cn0, [(fk0, (.long t3)), (fk1, .null), (fk2, .null), (fk3, (.long s3))])), (.inr (cn1, [(fk4, .ref 4), (fk5, .int 2)])), (.inl ((.object "com/example/chronogate/chronogate/Event"), [.ref 1, .ref 0, .null, .null, .null, .null, .null, .null]))], u) (fun v σ' u' => v = some (.int 2) ∧ [(.inr (cn0, [(fk0, (.long t1)), (fk1, .null), (fk2, .null), (fk3, (.long s1))])), (.inr (cn0, [(fk0, (.long t2)), (fk1, .null), (fk2, .null), (fk3, (.long s2))])), (.inr (cn0, [(fk0, (.long t3)), (fk1, .null), (fk2, .null), (fk3, (.long s3))])), (.inr (cn1, [(fk4, .ref 4), (fk5, .int 2)])), (.inl ((.object "com/example/chronogate/chronogate/Event"), [.ref 1, .ref 0, .null, .null, .null, .null, .null, .null]))] = σ' ∧ u = u') := by
  refine .s (.aloadN a10_0 rfl rfl) <| .s (.getF 1 a10_1 (wd hw 36 rfl) rfl rfl) ?_
  refine .ireturn .int a10_4 rfl (by simp) ?_
  exact ⟨rfl, rfl, rfl⟩
set_option maxHeartbeats 40000000 in
theorem seg2 (Z : State) (a0 : Array Value) (hw : ∀ d ∈ tables_1, d.before a0 Z = true) (n0 : Nat) (t1 t2 t3 s1 s2 : Int64) (mode : Int32) (s3 : Int64) : WGo (g0 Z (fun k => n0 + k) n0 0 0) (13, [wJ t1, wS, wJ t2, wS, wJ t3, wS, wJ s1, wS, wJ s2, wS, wI mode, wI 2, wJ s3, wS, wU, wU, wU, wU, wU, wU, wU, wU, wU, wU, wU], [], [], 0) (fun v σ' u' => v = some (.int 1) ∧ σ'.length ≤ 24 ∧ u' ≤ 128) := by
  refine .s (.newO (k := 0) [(fk0, .long 0), (fk1, .null), (fk2, .null), (fk3, .long 0)] a0_13 (wd hw 0 rfl) (wd hw 1 rfl) (wd hw 2 rfl) ⟨⟨Or.inr (wd hw 10 rfl), .long, by decide, rfl⟩, ⟨Or.inr (wd hw 12 rfl), (.object "java/util/List"), by decide, rfl⟩, ⟨Or.inr (wd hw 14 rfl), (.object "java/lang/Object"), by decide, rfl⟩, ⟨Or.inr (wd hw 16 rfl), .long, by decide, rfl⟩, trivial⟩ (by decide) rfl (by decide)) ?_
  show WGo _ (16, [wJ t1, wS, wJ t2, wS, wJ t3, wS, wJ s1, wS, wJ s2, wS, wI mode, wI 2, wJ s3, wS, wU, wU, wU, wU, wU, wU, wU, wU, wU, wU, wU], [.ref 0], [(.inr (cn0, [(fk0, .long 0), (fk1, .null), (fk2, .null), (fk3, .long 0)]))], 4) _
  refine .s (.dup a0_16 rfl) <| .s (.lloadN a0_17 rfl) <| .s (.aconstNull a0_18) <| .s (.aconstNull a0_19) <| .s (.lload a0_20 rfl) ?_
  refine .callI (k := 0) a0_22 (ok1 hw _ _ _ _) rfl rfl (wd hw 3 rfl) (wd hw 4 rfl) (by decide) (argsL := [(.long t1), .null, .null, (.long s1)]) (S := [.ref 0]) (au1_1 hw _ _ t1 s1 _) rfl rfl rfl rfl rfl rfl (Nat.le_of_ble_eq_true rfl) (Nat.le_of_ble_eq_true rfl) ?_
  rintro _ _ _ ⟨rfl, rfl, rfl⟩
  show WGo _ (25, [wJ t1, wS, wJ t2, wS, wJ t3, wS, wJ s1, wS, wJ s2, wS, wI mode, wI 2, wJ s3, wS, wU, wU, wU, wU, wU, wU, wU, wU, wU, wU, wU], [.ref 0], [(.inr (cn0, [(fk0, (.long t1)), (fk1, .null), (fk2, .null), (fk3, (.long s1))]))], 4) _
  refine .s (.astore (L' := [wJ t1, wS, wJ t2, wS, wJ t3, wS, wJ s1, wS, wJ s2, wS, wI mode, wI 2, wJ s3, wS, wR 0, wU, wU, wU, wU, wU, wU, wU, wU, wU, wU]) a0_25 rfl rfl) <| .s (.newO (k := 1) [(fk0, .long 0), (fk1, .null), (fk2, .null), (fk3, .long 0)] a0_27 (wd hw 0 rfl) (wd hw 1 rfl) (wd hw 2 rfl) ⟨⟨Or.inr (wd hw 10 rfl), .long, by decide, rfl⟩, ⟨Or.inr (wd hw 12 rfl), (.object "java/util/List"), by decide, rfl⟩, ⟨Or.inr (wd hw 14 rfl), (.object "java/lang/Object"), by decide, rfl⟩, ⟨Or.inr (wd hw 16 rfl), .long, by decide, rfl⟩, trivial⟩ (by decide) rfl (by decide)) ?_
  show WGo _ (30, [wJ t1, wS, wJ t2, wS, wJ t3, wS, wJ s1, wS, wJ s2, wS, wI mode, wI 2, wJ s3, wS, wR 0, wU, wU, wU, wU, wU, wU, wU, wU, wU, wU], [.ref 1], [(.inr (cn0, [(fk0, (.long t1)), (fk1, .null), (fk2, .null), (fk3, (.long s1))])), (.inr (cn0, [(fk0, .long 0), (fk1, .null), (fk2, .null), (fk3, .long 0)]))], 8) _
  refine .s (.dup a0_30 rfl) <| .s (.lloadN a0_31 rfl) <| .s (.aconstNull a0_32) <| .s (.aconstNull a0_33) <| .s (.lload a0_34 rfl) ?_
  refine .callI (k := 1) a0_36 (ok1 hw _ _ _ _) rfl rfl (wd hw 3 rfl) (wd hw 4 rfl) (by decide) (argsL := [(.long t2), .null, .null, (.long s2)]) (S := [.ref 1]) (au1_2 hw _ _ t1 t2 s1 s2 _) rfl rfl rfl rfl rfl rfl (Nat.le_of_ble_eq_true rfl) (Nat.le_of_ble_eq_true rfl) ?_
  rintro _ _ _ ⟨rfl, rfl, rfl⟩
  show WGo _ (39, [wJ t1, wS, wJ t2, wS, wJ t3, wS, wJ s1, wS, wJ s2, wS, wI mode, wI 2, wJ s3, wS, wR 0, wU, wU, wU, wU, wU, wU, wU, wU, wU, wU], [.ref 1], [(.inr (cn0, [(fk0, (.long t1)), (fk1, .null), (fk2, .null), (fk3, (.long s1))])), (.inr (cn0, [(fk0, (.long t2)), (fk1, .null), (fk2, .null), (fk3, (.long s2))]))], 8) _
  refine .s (.astore (L' := [wJ t1, wS, wJ t2, wS, wJ t3, wS, wJ s1, wS, wJ s2, wS, wI mode, wI 2, wJ s3, wS, wR 0, wR 1, wU, wU, wU, wU, wU, wU, wU, wU, wU]) a0_39 rfl rfl) <| .s (.newO (k := 2) [(fk0, .long 0), (fk1, .null), (fk2, .null), (fk3, .long 0)] a0_41 (wd hw 0 rfl) (wd hw 1 rfl) (wd hw 2 rfl) ⟨⟨Or.inr (wd hw 10 rfl), .long, by decide, rfl⟩, ⟨Or.inr (wd hw 12 rfl), (.object "java/util/List"), by decide, rfl⟩, ⟨Or.inr (wd hw 14 rfl), (.object "java/lang/Object"), by decide, rfl⟩, ⟨Or.inr (wd hw 16 rfl), .long, by decide, rfl⟩, trivial⟩ (by decide) rfl (by decide)) ?_
  show WGo _ (44, [wJ t1, wS, wJ t2, wS, wJ t3, wS, wJ s1, wS, wJ s2, wS, wI mode, wI 2, wJ s3, wS, wR 0, wR 1, wU, wU, wU, wU, wU, wU, wU, wU, wU], [.ref 2], [(.inr (cn0, [(fk0, (.long t1)), (fk1, .null), (fk2, .null), (fk3, (.long s1))])), (.inr (cn0, [(fk0, (.long t2)), (fk1, .null), (fk2, .null), (fk3, (.long s2))])), (.inr (cn0, [(fk0, .long 0), (fk1, .null), (fk2, .null), (fk3, .long 0)]))], 12) _
  refine .s (.dup a0_44 rfl) <| .s (.lload a0_45 rfl) <| .s (.aconstNull a0_47) <| .s (.aconstNull a0_48) <| .s (.lload a0_49 rfl) ?_
  refine .callI (k := 2) a0_51 (ok1 hw _ _ _ _) rfl rfl (wd hw 3 rfl) (wd hw 4 rfl) (by decide) (argsL := [(.long t3), .null, .null, (.long s3)]) (S := [.ref 2]) (au1_3 hw _ _ t1 t2 t3 s1 s2 s3 _) rfl rfl rfl rfl rfl rfl (Nat.le_of_ble_eq_true rfl) (Nat.le_of_ble_eq_true rfl) ?_
  rintro _ _ _ ⟨rfl, rfl, rfl⟩
  show WGo _ (54, [wJ t1, wS, wJ t2, wS, wJ t3, wS, wJ s1, wS, wJ s2, wS, wI mode, wI 2, wJ s3, wS, wR 0, wR 1, wU, wU, wU, wU, wU, wU, wU, wU, wU], [.ref 2], [(.inr (cn0, [(fk0, (.long t1)), (fk1, .null), (fk2, .null), (fk3, (.long s1))])), (.inr (cn0, [(fk0, (.long t2)), (fk1, .null), (fk2, .null), (fk3, (.long s2))])), (.inr (cn0, [(fk0, (.long t3)), (fk1, .null), (fk2, .null), (fk3, (.long s3))]))], 12) _
  refine .s (.astore (L' := [wJ t1, wS, wJ t2, wS, wJ t3, wS, wJ s1, wS, wJ s2, wS, wI mode, wI 2, wJ s3, wS, wR 0, wR 1, wR 2, wU, wU, wU, wU, wU, wU, wU, wU]) a0_54 rfl rfl) <| .s (.newO (k := 3) [(fk4, .null), (fk5, .int 0)] a0_56 (wd hw 17 rfl) (wd hw 18 rfl) (wd hw 19 rfl) ⟨⟨Or.inl (wd hw 30 rfl), (.array (.object "com/example/chronogate/chronogate/Event")), by decide, rfl⟩, ⟨Or.inl (wd hw 37 rfl), .int, by decide, rfl⟩, trivial⟩ (by decide) rfl (by decide)) ?_
  show WGo _ (59, [wJ t1, wS, wJ t2, wS, wJ t3, wS, wJ s1, wS, wJ s2, wS, wI mode, wI 2, wJ s3, wS, wR 0, wR 1, wR 2, wU, wU, wU, wU, wU, wU, wU, wU], [.ref 3], [(.inr (cn0, [(fk0, (.long t1)), (fk1, .null), (fk2, .null), (fk3, (.long s1))])), (.inr (cn0, [(fk0, (.long t2)), (fk1, .null), (fk2, .null), (fk3, (.long s2))])), (.inr (cn0, [(fk0, (.long t3)), (fk1, .null), (fk2, .null), (fk3, (.long s3))])), (.inr (cn1, [(fk4, .null), (fk5, .int 0)]))], 14) _
  refine .s (.dup a0_59 rfl) ?_
  refine .callI (k := 3) a0_60 (ok3 hw _ _ _ _) rfl rfl (wd hw 20 rfl) (wd hw 21 rfl) (by decide) (argsL := []) (S := [.ref 3]) (au3_4 hw _ _ t1 t2 t3 s1 s2 s3 _) rfl rfl rfl rfl rfl rfl (Nat.le_of_ble_eq_true rfl) (Nat.le_of_ble_eq_true rfl) ?_
  rintro _ _ _ ⟨rfl, rfl, rfl⟩
  show WGo _ (63, [wJ t1, wS, wJ t2, wS, wJ t3, wS, wJ s1, wS, wJ s2, wS, wI mode, wI 2, wJ s3, wS, wR 0, wR 1, wR 2, wU, wU, wU, wU, wU, wU, wU, wU], [.ref 3], [(.inr (cn0, [(fk0, (.long t1)), (fk1, .null), (fk2, .null), (fk3, (.long s1))])), (.inr (cn0, [(fk0, (.long t2)), (fk1, .null), (fk2, .null), (fk3, (.long s2))])), (.inr (cn0, [(fk0, (.long t3)), (fk1, .null), (fk2, .null), (fk3, (.long s3))])), (.inr (cn1, [(fk4, .ref 4), (fk5, .int 0)])), (.inl ((.object "com/example/chronogate/chronogate/Event"), [.null, .null, .null, .null, .null, .null, .null, .null]))], 22) _
  refine .s (.astore (L' := [wJ t1, wS, wJ t2, wS, wJ t3, wS, wJ s1, wS, wJ s2, wS, wI mode, wI 2, wJ s3, wS, wR 0, wR 1, wR 2, wR 3, wU, wU, wU, wU, wU, wU, wU]) a0_63 rfl rfl) <| .s (.iload a0_65 rfl) <| .s (.iconst (1 : Int32) a0_67 rfl) <| .s (.icmpF a0_68 (by decide)) <| .s (.aload a0_71 rfl rfl) <| .s (.aload a0_73 rfl rfl) ?_
  refine .callV (k := 3) (z := (⟨"com/example/chronogate/chronogate/ReleaseQueue", "add", "(Lcom/example/chronogate/chronogate/Event;)V"⟩ : MethodName)) a0_75 (ok5 hw _ _ _ _) ⟨rfl, by decide⟩ (wd hw 31 rfl) (wd hw 32 rfl) (fun s hZ => notFace_of_selects (args := #[]) (mvT hZ (wd hw 34 rfl))) (wd hw 34 rfl) (wd hw 33 rfl) rfl (argsL := [.ref 0]) (S := []) (au5_8 hw _ _ t1 t2 t3 s1 s2 s3 _) rfl rfl rfl rfl rfl rfl (Nat.le_of_ble_eq_true rfl) (Nat.le_of_ble_eq_true rfl) ?_
  rintro _ _ _ ⟨rfl, rfl, rfl⟩
  show WGo _ (78, [wJ t1, wS, wJ t2, wS, wJ t3, wS, wJ s1, wS, wJ s2, wS, wI mode, wI 2, wJ s3, wS, wR 0, wR 1, wR 2, wR 3, wU, wU, wU, wU, wU, wU, wU], [], [(.inr (cn0, [(fk0, (.long t1)), (fk1, .null), (fk2, .null), (fk3, (.long s1))])), (.inr (cn0, [(fk0, (.long t2)), (fk1, .null), (fk2, .null), (fk3, (.long s2))])), (.inr (cn0, [(fk0, (.long t3)), (fk1, .null), (fk2, .null), (fk3, (.long s3))])), (.inr (cn1, [(fk4, .ref 4), (fk5, .int 1)])), (.inl ((.object "com/example/chronogate/chronogate/Event"), [.ref 0, .null, .null, .null, .null, .null, .null, .null]))], 22) _
  refine .s (.iload a0_78 rfl) <| .s (.iconst (2 : Int32) a0_80 rfl) <| .s (.icmpF a0_81 (by decide)) <| .s (.aload a0_84 rfl rfl) <| .s (.aload a0_86 rfl rfl) ?_
  refine .callV (k := 3) (z := (⟨"com/example/chronogate/chronogate/ReleaseQueue", "add", "(Lcom/example/chronogate/chronogate/Event;)V"⟩ : MethodName)) a0_88 (ok5 hw _ _ _ _) ⟨rfl, by decide⟩ (wd hw 31 rfl) (wd hw 32 rfl) (fun s hZ => notFace_of_selects (args := #[]) (mvT hZ (wd hw 34 rfl))) (wd hw 34 rfl) (wd hw 33 rfl) rfl (argsL := [.ref 1]) (S := []) (au5_11 hw _ _ t1 t2 t3 s1 s2 s3 _) rfl rfl rfl rfl rfl rfl (Nat.le_of_ble_eq_true rfl) (Nat.le_of_ble_eq_true rfl) ?_
  rintro _ _ _ (⟨q25, q26, rfl, rfl, rfl⟩ | ⟨q27, q28, q29, q30, rfl, rfl, rfl⟩ | ⟨q31, q32, q33, q34, rfl, rfl, rfl⟩ | ⟨q35, q36, q37, rfl, rfl, rfl⟩ | ⟨q38, rfl, rfl, rfl⟩)
  · skip
    show WGo _ (91, [wJ t1, wS, wJ t2, wS, wJ t3, wS, wJ s1, wS, wJ s2, wS, wI mode, wI 2, wJ s3, wS, wR 0, wR 1, wR 2, wR 3, wU, wU, wU, wU, wU, wU, wU], [], [(.inr (cn0, [(fk0, (.long t1)), (fk1, .null), (fk2, .null), (fk3, (.long s1))])), (.inr (cn0, [(fk0, (.long t2)), (fk1, .null), (fk2, .null), (fk3, (.long s2))])), (.inr (cn0, [(fk0, (.long t3)), (fk1, .null), (fk2, .null), (fk3, (.long s3))])), (.inr (cn1, [(fk4, .ref 4), (fk5, .int 2)])), (.inl ((.object "com/example/chronogate/chronogate/Event"), [.ref 0, .ref 1, .null, .null, .null, .null, .null, .null]))], 22) _
    refine .s (.iload a0_91 rfl) <| .s (.iconst (3 : Int32) a0_93 rfl) <| .s (.icmpT a0_94 (by decide)) <| .s (.aconstNull a0_104) <| .s (.astore (L' := [wJ t1, wS, wJ t2, wS, wJ t3, wS, wJ s1, wS, wJ s2, wS, wI mode, wI 2, wJ s3, wS, wR 0, wR 1, wR 2, wR 3, wN, wU, wU, wU, wU, wU, wU]) a0_105 rfl rfl) <| .s (.lloadN a0_107 rfl) <| .s (.lstore (L' := [wJ t1, wS, wJ t2, wS, wJ t3, wS, wJ s1, wS, wJ s2, wS, wI mode, wI 2, wJ s3, wS, wR 0, wR 1, wR 2, wR 3, wN, wJ t1, wS, wU, wU, wU, wU]) a0_108 rfl) ?_
    refine .s (.lload a0_110 rfl) <| .s (.lstore (L' := [wJ t1, wS, wJ t2, wS, wJ t3, wS, wJ s1, wS, wJ s2, wS, wI mode, wI 2, wJ s3, wS, wR 0, wR 1, wR 2, wR 3, wN, wJ t1, wS, wJ s1, wS, wU, wU]) a0_112 rfl) <| .s (.iload a0_114 rfl) <| .s (.iconst (1 : Int32) a0_116 rfl) <| .s (.icmpF a0_117 (by decide)) <| .s (.aload a0_120 rfl rfl) <| .s (.astore (L' := [wJ t1, wS, wJ t2, wS, wJ t3, wS, wJ s1, wS, wJ s2, wS, wI mode, wI 2, wJ s3, wS, wR 0, wR 1, wR 2, wR 3, wR 0, wJ t1, wS, wJ s1, wS, wU, wU]) a0_122 rfl rfl) ?_
    refine .s (.iload a0_124 rfl) <| .s (.iconst (2 : Int32) a0_126 rfl) <| .s (.icmpF a0_127 (by decide)) <| .s (.lloadN a0_130 rfl) <| .s (.lload a0_131 rfl) <| .s (.lload a0_133 rfl) <| .s (.lload a0_135 rfl) ?_
    refine .callS a0_137 (ok8 hw _ _ _ _) (wd hw 46 rfl) (wd hw 47 rfl) (argsL := [(.long t2), (.long s2), (.long t1), (.long s1)]) (S := []) (au8_15 hw _ _ t1 t2 t3 s1 s2 s3 _) rfl rfl rfl rfl rfl rfl (Nat.le_of_ble_eq_true rfl) (Nat.le_of_ble_eq_true rfl) ?_
    rintro _ _ _ (⟨q39, q40, q41, rfl, rfl, rfl⟩ | ⟨q42, q43, q44, rfl, rfl, rfl⟩ | ⟨q45, q46, rfl, rfl, rfl⟩ | ⟨q47, rfl, rfl, rfl⟩)
    · exfalso
      simp only [Int32.lt_iff_toInt_lt, Int64.lt_iff_toInt_lt, ← Int32.toInt_inj, ← Int64.toInt_inj, Int32.reduceToInt, Int64.reduceToInt] at *
      omega
    · exfalso
      simp only [Int32.lt_iff_toInt_lt, Int64.lt_iff_toInt_lt, ← Int32.toInt_inj, ← Int64.toInt_inj, Int32.reduceToInt, Int64.reduceToInt] at *
      omega
    · skip
      show WGo _ (140, [wJ t1, wS, wJ t2, wS, wJ t3, wS, wJ s1, wS, wJ s2, wS, wI mode, wI 2, wJ s3, wS, wR 0, wR 1, wR 2, wR 3, wR 0, wJ t1, wS, wJ s1, wS, wU, wU], [.int 0], [(.inr (cn0, [(fk0, (.long t1)), (fk1, .null), (fk2, .null), (fk3, (.long s1))])), (.inr (cn0, [(fk0, (.long t2)), (fk1, .null), (fk2, .null), (fk3, (.long s2))])), (.inr (cn0, [(fk0, (.long t3)), (fk1, .null), (fk2, .null), (fk3, (.long s3))])), (.inr (cn1, [(fk4, .ref 4), (fk5, .int 2)])), (.inl ((.object "com/example/chronogate/chronogate/Event"), [.ref 0, .ref 1, .null, .null, .null, .null, .null, .null]))], 22) _
      refine .s (.ifT a0_140 (by decide)) <| .s (.iload a0_154 rfl) <| .s (.iconst (3 : Int32) a0_156 rfl) <| .s (.icmpT a0_157 (by decide)) <| .s (.aload a0_178 rfl rfl) ?_
      refine .callV (k := 3) (z := (⟨"com/example/chronogate/chronogate/ReleaseQueue", "peek", "()Lcom/example/chronogate/chronogate/Event;"⟩ : MethodName)) a0_180 (ok9 hw _ _ _ _) ⟨rfl, by decide⟩ (wd hw 50 rfl) (wd hw 51 rfl) (fun s hZ => notFace_of_selects (args := #[]) (mvT hZ (wd hw 53 rfl))) (wd hw 53 rfl) (wd hw 52 rfl) rfl (argsL := []) (S := []) (au9_16 hw _ _ t1 t2 t3 s1 s2 s3 _) rfl rfl rfl rfl rfl rfl (Nat.le_of_ble_eq_true rfl) (Nat.le_of_ble_eq_true rfl) ?_
      rintro _ _ _ ⟨rfl, rfl, rfl⟩
      show WGo _ (183, [wJ t1, wS, wJ t2, wS, wJ t3, wS, wJ s1, wS, wJ s2, wS, wI mode, wI 2, wJ s3, wS, wR 0, wR 1, wR 2, wR 3, wR 0, wJ t1, wS, wJ s1, wS, wU, wU], [.ref 0], [(.inr (cn0, [(fk0, (.long t1)), (fk1, .null), (fk2, .null), (fk3, (.long s1))])), (.inr (cn0, [(fk0, (.long t2)), (fk1, .null), (fk2, .null), (fk3, (.long s2))])), (.inr (cn0, [(fk0, (.long t3)), (fk1, .null), (fk2, .null), (fk3, (.long s3))])), (.inr (cn1, [(fk4, .ref 4), (fk5, .int 2)])), (.inl ((.object "com/example/chronogate/chronogate/Event"), [.ref 0, .ref 1, .null, .null, .null, .null, .null, .null]))], 22) _
      refine .s (.astore (L' := [wJ t1, wS, wJ t2, wS, wJ t3, wS, wJ s1, wS, wJ s2, wS, wI mode, wI 2, wJ s3, wS, wR 0, wR 1, wR 2, wR 3, wR 0, wJ t1, wS, wJ s1, wS, wR 0, wU]) a0_183 rfl rfl) <| .s (.aload a0_185 rfl rfl) ?_
      refine .callV (k := 3) (z := (⟨"com/example/chronogate/chronogate/ReleaseQueue", "peek", "()Lcom/example/chronogate/chronogate/Event;"⟩ : MethodName)) a0_187 (ok9 hw _ _ _ _) ⟨rfl, by decide⟩ (wd hw 50 rfl) (wd hw 51 rfl) (fun s hZ => notFace_of_selects (args := #[]) (mvT hZ (wd hw 53 rfl))) (wd hw 53 rfl) (wd hw 52 rfl) rfl (argsL := []) (S := []) (au9_16 hw _ _ t1 t2 t3 s1 s2 s3 _) rfl rfl rfl rfl rfl rfl (Nat.le_of_ble_eq_true rfl) (Nat.le_of_ble_eq_true rfl) ?_
      rintro _ _ _ ⟨rfl, rfl, rfl⟩
      show WGo _ (190, [wJ t1, wS, wJ t2, wS, wJ t3, wS, wJ s1, wS, wJ s2, wS, wI mode, wI 2, wJ s3, wS, wR 0, wR 1, wR 2, wR 3, wR 0, wJ t1, wS, wJ s1, wS, wR 0, wU], [.ref 0], [(.inr (cn0, [(fk0, (.long t1)), (fk1, .null), (fk2, .null), (fk3, (.long s1))])), (.inr (cn0, [(fk0, (.long t2)), (fk1, .null), (fk2, .null), (fk3, (.long s2))])), (.inr (cn0, [(fk0, (.long t3)), (fk1, .null), (fk2, .null), (fk3, (.long s3))])), (.inr (cn1, [(fk4, .ref 4), (fk5, .int 2)])), (.inl ((.object "com/example/chronogate/chronogate/Event"), [.ref 0, .ref 1, .null, .null, .null, .null, .null, .null]))], 22) _
      refine .s (.astore (L' := [wJ t1, wS, wJ t2, wS, wJ t3, wS, wJ s1, wS, wJ s2, wS, wI mode, wI 2, wJ s3, wS, wR 0, wR 1, wR 2, wR 3, wR 0, wJ t1, wS, wJ s1, wS, wR 0, wR 0]) a0_190 rfl rfl) <| .s (.aload a0_192 rfl rfl) <| .s (.aload a0_194 rfl rfl) <| .s (.acmp true 199 a0_196 rfl rfl (by decide) rfl) <| .s (.aload a0_199 rfl rfl) <| .s (.aload a0_201 rfl rfl) <| .s (.acmp true 206 a0_203 rfl rfl (by decide) rfl) ?_
      refine .s (.aload a0_206 rfl rfl) ?_
      refine .callV (k := 3) (z := (⟨"com/example/chronogate/chronogate/ReleaseQueue", "size", "()I"⟩ : MethodName)) a0_208 (ok10 hw _ _ _ _) ⟨rfl, by decide⟩ (wd hw 55 rfl) (wd hw 56 rfl) (fun s hZ => notFace_of_selects (args := #[]) (mvT hZ (wd hw 58 rfl))) (wd hw 58 rfl) (wd hw 57 rfl) rfl (argsL := []) (S := []) (au10_17 hw _ _ t1 t2 t3 s1 s2 s3 _) rfl rfl rfl rfl rfl rfl (Nat.le_of_ble_eq_true rfl) (Nat.le_of_ble_eq_true rfl) ?_
      rintro _ _ _ ⟨rfl, rfl, rfl⟩
      show WGo _ (211, [wJ t1, wS, wJ t2, wS, wJ t3, wS, wJ s1, wS, wJ s2, wS, wI mode, wI 2, wJ s3, wS, wR 0, wR 1, wR 2, wR 3, wR 0, wJ t1, wS, wJ s1, wS, wR 0, wR 0], [.int 2], [(.inr (cn0, [(fk0, (.long t1)), (fk1, .null), (fk2, .null), (fk3, (.long s1))])), (.inr (cn0, [(fk0, (.long t2)), (fk1, .null), (fk2, .null), (fk3, (.long s2))])), (.inr (cn0, [(fk0, (.long t3)), (fk1, .null), (fk2, .null), (fk3, (.long s3))])), (.inr (cn1, [(fk4, .ref 4), (fk5, .int 2)])), (.inl ((.object "com/example/chronogate/chronogate/Event"), [.ref 0, .ref 1, .null, .null, .null, .null, .null, .null]))], 22) _
      refine .s (.iload a0_211 rfl) <| .s (.icmpF a0_213 (by decide)) <| .s (.iconst (1 : Int32) a0_216 rfl) <| .s (.goto a0_217) ?_
      refine .ireturn .boolean a0_221 rfl (by simp) ?_
      exact ⟨rfl, Nat.le_of_ble_eq_true rfl, Nat.le_of_ble_eq_true rfl⟩
    · exfalso
      simp only [Int32.lt_iff_toInt_lt, Int64.lt_iff_toInt_lt, ← Int32.toInt_inj, ← Int64.toInt_inj, Int32.reduceToInt, Int64.reduceToInt] at *
      omega
  · skip
    show WGo _ (91, [wJ t1, wS, wJ t2, wS, wJ t3, wS, wJ s1, wS, wJ s2, wS, wI mode, wI 2, wJ s3, wS, wR 0, wR 1, wR 2, wR 3, wU, wU, wU, wU, wU, wU, wU], [], [(.inr (cn0, [(fk0, (.long t1)), (fk1, .null), (fk2, .null), (fk3, (.long s1))])), (.inr (cn0, [(fk0, (.long t2)), (fk1, .null), (fk2, .null), (fk3, (.long s2))])), (.inr (cn0, [(fk0, (.long t3)), (fk1, .null), (fk2, .null), (fk3, (.long s3))])), (.inr (cn1, [(fk4, .ref 4), (fk5, .int 2)])), (.inl ((.object "com/example/chronogate/chronogate/Event"), [.ref 0, .ref 1, .null, .null, .null, .null, .null, .null]))], 22) _
    refine .s (.iload a0_91 rfl) <| .s (.iconst (3 : Int32) a0_93 rfl) <| .s (.icmpT a0_94 (by decide)) <| .s (.aconstNull a0_104) <| .s (.astore (L' := [wJ t1, wS, wJ t2, wS, wJ t3, wS, wJ s1, wS, wJ s2, wS, wI mode, wI 2, wJ s3, wS, wR 0, wR 1, wR 2, wR 3, wN, wU, wU, wU, wU, wU, wU]) a0_105 rfl rfl) <| .s (.lloadN a0_107 rfl) <| .s (.lstore (L' := [wJ t1, wS, wJ t2, wS, wJ t3, wS, wJ s1, wS, wJ s2, wS, wI mode, wI 2, wJ s3, wS, wR 0, wR 1, wR 2, wR 3, wN, wJ t1, wS, wU, wU, wU, wU]) a0_108 rfl) ?_
    refine .s (.lload a0_110 rfl) <| .s (.lstore (L' := [wJ t1, wS, wJ t2, wS, wJ t3, wS, wJ s1, wS, wJ s2, wS, wI mode, wI 2, wJ s3, wS, wR 0, wR 1, wR 2, wR 3, wN, wJ t1, wS, wJ s1, wS, wU, wU]) a0_112 rfl) <| .s (.iload a0_114 rfl) <| .s (.iconst (1 : Int32) a0_116 rfl) <| .s (.icmpF a0_117 (by decide)) <| .s (.aload a0_120 rfl rfl) <| .s (.astore (L' := [wJ t1, wS, wJ t2, wS, wJ t3, wS, wJ s1, wS, wJ s2, wS, wI mode, wI 2, wJ s3, wS, wR 0, wR 1, wR 2, wR 3, wR 0, wJ t1, wS, wJ s1, wS, wU, wU]) a0_122 rfl rfl) ?_
    refine .s (.iload a0_124 rfl) <| .s (.iconst (2 : Int32) a0_126 rfl) <| .s (.icmpF a0_127 (by decide)) <| .s (.lloadN a0_130 rfl) <| .s (.lload a0_131 rfl) <| .s (.lload a0_133 rfl) <| .s (.lload a0_135 rfl) ?_
    refine .callS a0_137 (ok8 hw _ _ _ _) (wd hw 46 rfl) (wd hw 47 rfl) (argsL := [(.long t2), (.long s2), (.long t1), (.long s1)]) (S := []) (au8_15 hw _ _ t1 t2 t3 s1 s2 s3 _) rfl rfl rfl rfl rfl rfl (Nat.le_of_ble_eq_true rfl) (Nat.le_of_ble_eq_true rfl) ?_
    rintro _ _ _ (⟨q48, q49, q50, rfl, rfl, rfl⟩ | ⟨q51, q52, q53, rfl, rfl, rfl⟩ | ⟨q54, q55, rfl, rfl, rfl⟩ | ⟨q56, rfl, rfl, rfl⟩)
    · skip
      show WGo _ (140, [wJ t1, wS, wJ t2, wS, wJ t3, wS, wJ s1, wS, wJ s2, wS, wI mode, wI 2, wJ s3, wS, wR 0, wR 1, wR 2, wR 3, wR 0, wJ t1, wS, wJ s1, wS, wU, wU], [.int 0], [(.inr (cn0, [(fk0, (.long t1)), (fk1, .null), (fk2, .null), (fk3, (.long s1))])), (.inr (cn0, [(fk0, (.long t2)), (fk1, .null), (fk2, .null), (fk3, (.long s2))])), (.inr (cn0, [(fk0, (.long t3)), (fk1, .null), (fk2, .null), (fk3, (.long s3))])), (.inr (cn1, [(fk4, .ref 4), (fk5, .int 2)])), (.inl ((.object "com/example/chronogate/chronogate/Event"), [.ref 0, .ref 1, .null, .null, .null, .null, .null, .null]))], 22) _
      refine .s (.ifT a0_140 (by decide)) <| .s (.iload a0_154 rfl) <| .s (.iconst (3 : Int32) a0_156 rfl) <| .s (.icmpT a0_157 (by decide)) <| .s (.aload a0_178 rfl rfl) ?_
      refine .callV (k := 3) (z := (⟨"com/example/chronogate/chronogate/ReleaseQueue", "peek", "()Lcom/example/chronogate/chronogate/Event;"⟩ : MethodName)) a0_180 (ok9 hw _ _ _ _) ⟨rfl, by decide⟩ (wd hw 50 rfl) (wd hw 51 rfl) (fun s hZ => notFace_of_selects (args := #[]) (mvT hZ (wd hw 53 rfl))) (wd hw 53 rfl) (wd hw 52 rfl) rfl (argsL := []) (S := []) (au9_16 hw _ _ t1 t2 t3 s1 s2 s3 _) rfl rfl rfl rfl rfl rfl (Nat.le_of_ble_eq_true rfl) (Nat.le_of_ble_eq_true rfl) ?_
      rintro _ _ _ ⟨rfl, rfl, rfl⟩
      show WGo _ (183, [wJ t1, wS, wJ t2, wS, wJ t3, wS, wJ s1, wS, wJ s2, wS, wI mode, wI 2, wJ s3, wS, wR 0, wR 1, wR 2, wR 3, wR 0, wJ t1, wS, wJ s1, wS, wU, wU], [.ref 0], [(.inr (cn0, [(fk0, (.long t1)), (fk1, .null), (fk2, .null), (fk3, (.long s1))])), (.inr (cn0, [(fk0, (.long t2)), (fk1, .null), (fk2, .null), (fk3, (.long s2))])), (.inr (cn0, [(fk0, (.long t3)), (fk1, .null), (fk2, .null), (fk3, (.long s3))])), (.inr (cn1, [(fk4, .ref 4), (fk5, .int 2)])), (.inl ((.object "com/example/chronogate/chronogate/Event"), [.ref 0, .ref 1, .null, .null, .null, .null, .null, .null]))], 22) _
      refine .s (.astore (L' := [wJ t1, wS, wJ t2, wS, wJ t3, wS, wJ s1, wS, wJ s2, wS, wI mode, wI 2, wJ s3, wS, wR 0, wR 1, wR 2, wR 3, wR 0, wJ t1, wS, wJ s1, wS, wR 0, wU]) a0_183 rfl rfl) <| .s (.aload a0_185 rfl rfl) ?_
      refine .callV (k := 3) (z := (⟨"com/example/chronogate/chronogate/ReleaseQueue", "peek", "()Lcom/example/chronogate/chronogate/Event;"⟩ : MethodName)) a0_187 (ok9 hw _ _ _ _) ⟨rfl, by decide⟩ (wd hw 50 rfl) (wd hw 51 rfl) (fun s hZ => notFace_of_selects (args := #[]) (mvT hZ (wd hw 53 rfl))) (wd hw 53 rfl) (wd hw 52 rfl) rfl (argsL := []) (S := []) (au9_16 hw _ _ t1 t2 t3 s1 s2 s3 _) rfl rfl rfl rfl rfl rfl (Nat.le_of_ble_eq_true rfl) (Nat.le_of_ble_eq_true rfl) ?_
      rintro _ _ _ ⟨rfl, rfl, rfl⟩
      show WGo _ (190, [wJ t1, wS, wJ t2, wS, wJ t3, wS, wJ s1, wS, wJ s2, wS, wI mode, wI 2, wJ s3, wS, wR 0, wR 1, wR 2, wR 3, wR 0, wJ t1, wS, wJ s1, wS, wR 0, wU], [.ref 0], [(.inr (cn0, [(fk0, (.long t1)), (fk1, .null), (fk2, .null), (fk3, (.long s1))])), (.inr (cn0, [(fk0, (.long t2)), (fk1, .null), (fk2, .null), (fk3, (.long s2))])), (.inr (cn0, [(fk0, (.long t3)), (fk1, .null), (fk2, .null), (fk3, (.long s3))])), (.inr (cn1, [(fk4, .ref 4), (fk5, .int 2)])), (.inl ((.object "com/example/chronogate/chronogate/Event"), [.ref 0, .ref 1, .null, .null, .null, .null, .null, .null]))], 22) _
      refine .s (.astore (L' := [wJ t1, wS, wJ t2, wS, wJ t3, wS, wJ s1, wS, wJ s2, wS, wI mode, wI 2, wJ s3, wS, wR 0, wR 1, wR 2, wR 3, wR 0, wJ t1, wS, wJ s1, wS, wR 0, wR 0]) a0_190 rfl rfl) <| .s (.aload a0_192 rfl rfl) <| .s (.aload a0_194 rfl rfl) <| .s (.acmp true 199 a0_196 rfl rfl (by decide) rfl) <| .s (.aload a0_199 rfl rfl) <| .s (.aload a0_201 rfl rfl) <| .s (.acmp true 206 a0_203 rfl rfl (by decide) rfl) ?_
      refine .s (.aload a0_206 rfl rfl) ?_
      refine .callV (k := 3) (z := (⟨"com/example/chronogate/chronogate/ReleaseQueue", "size", "()I"⟩ : MethodName)) a0_208 (ok10 hw _ _ _ _) ⟨rfl, by decide⟩ (wd hw 55 rfl) (wd hw 56 rfl) (fun s hZ => notFace_of_selects (args := #[]) (mvT hZ (wd hw 58 rfl))) (wd hw 58 rfl) (wd hw 57 rfl) rfl (argsL := []) (S := []) (au10_17 hw _ _ t1 t2 t3 s1 s2 s3 _) rfl rfl rfl rfl rfl rfl (Nat.le_of_ble_eq_true rfl) (Nat.le_of_ble_eq_true rfl) ?_
      rintro _ _ _ ⟨rfl, rfl, rfl⟩
      show WGo _ (211, [wJ t1, wS, wJ t2, wS, wJ t3, wS, wJ s1, wS, wJ s2, wS, wI mode, wI 2, wJ s3, wS, wR 0, wR 1, wR 2, wR 3, wR 0, wJ t1, wS, wJ s1, wS, wR 0, wR 0], [.int 2], [(.inr (cn0, [(fk0, (.long t1)), (fk1, .null), (fk2, .null), (fk3, (.long s1))])), (.inr (cn0, [(fk0, (.long t2)), (fk1, .null), (fk2, .null), (fk3, (.long s2))])), (.inr (cn0, [(fk0, (.long t3)), (fk1, .null), (fk2, .null), (fk3, (.long s3))])), (.inr (cn1, [(fk4, .ref 4), (fk5, .int 2)])), (.inl ((.object "com/example/chronogate/chronogate/Event"), [.ref 0, .ref 1, .null, .null, .null, .null, .null, .null]))], 22) _
      refine .s (.iload a0_211 rfl) <| .s (.icmpF a0_213 (by decide)) <| .s (.iconst (1 : Int32) a0_216 rfl) <| .s (.goto a0_217) ?_
      refine .ireturn .boolean a0_221 rfl (by simp) ?_
      exact ⟨rfl, Nat.le_of_ble_eq_true rfl, Nat.le_of_ble_eq_true rfl⟩
    · exfalso
      simp only [Int32.lt_iff_toInt_lt, Int64.lt_iff_toInt_lt, ← Int32.toInt_inj, ← Int64.toInt_inj, Int32.reduceToInt, Int64.reduceToInt] at *
      omega
    · exfalso
      simp only [Int32.lt_iff_toInt_lt, Int64.lt_iff_toInt_lt, ← Int32.toInt_inj, ← Int64.toInt_inj, Int32.reduceToInt, Int64.reduceToInt] at *
      omega
    · exfalso
      simp only [Int32.lt_iff_toInt_lt, Int64.lt_iff_toInt_lt, ← Int32.toInt_inj, ← Int64.toInt_inj, Int32.reduceToInt, Int64.reduceToInt] at *
      omega
  · skip
    show WGo _ (91, [wJ t1, wS, wJ t2, wS, wJ t3, wS, wJ s1, wS, wJ s2, wS, wI mode, wI 2, wJ s3, wS, wR 0, wR 1, wR 2, wR 3, wU, wU, wU, wU, wU, wU, wU], [], [(.inr (cn0, [(fk0, (.long t1)), (fk1, .null), (fk2, .null), (fk3, (.long s1))])), (.inr (cn0, [(fk0, (.long t2)), (fk1, .null), (fk2, .null), (fk3, (.long s2))])), (.inr (cn0, [(fk0, (.long t3)), (fk1, .null), (fk2, .null), (fk3, (.long s3))])), (.inr (cn1, [(fk4, .ref 4), (fk5, .int 2)])), (.inl ((.object "com/example/chronogate/chronogate/Event"), [.ref 0, .ref 1, .null, .null, .null, .null, .null, .null]))], 22) _
    refine .s (.iload a0_91 rfl) <| .s (.iconst (3 : Int32) a0_93 rfl) <| .s (.icmpT a0_94 (by decide)) <| .s (.aconstNull a0_104) <| .s (.astore (L' := [wJ t1, wS, wJ t2, wS, wJ t3, wS, wJ s1, wS, wJ s2, wS, wI mode, wI 2, wJ s3, wS, wR 0, wR 1, wR 2, wR 3, wN, wU, wU, wU, wU, wU, wU]) a0_105 rfl rfl) <| .s (.lloadN a0_107 rfl) <| .s (.lstore (L' := [wJ t1, wS, wJ t2, wS, wJ t3, wS, wJ s1, wS, wJ s2, wS, wI mode, wI 2, wJ s3, wS, wR 0, wR 1, wR 2, wR 3, wN, wJ t1, wS, wU, wU, wU, wU]) a0_108 rfl) ?_
    refine .s (.lload a0_110 rfl) <| .s (.lstore (L' := [wJ t1, wS, wJ t2, wS, wJ t3, wS, wJ s1, wS, wJ s2, wS, wI mode, wI 2, wJ s3, wS, wR 0, wR 1, wR 2, wR 3, wN, wJ t1, wS, wJ s1, wS, wU, wU]) a0_112 rfl) <| .s (.iload a0_114 rfl) <| .s (.iconst (1 : Int32) a0_116 rfl) <| .s (.icmpF a0_117 (by decide)) <| .s (.aload a0_120 rfl rfl) <| .s (.astore (L' := [wJ t1, wS, wJ t2, wS, wJ t3, wS, wJ s1, wS, wJ s2, wS, wI mode, wI 2, wJ s3, wS, wR 0, wR 1, wR 2, wR 3, wR 0, wJ t1, wS, wJ s1, wS, wU, wU]) a0_122 rfl rfl) ?_
    refine .s (.iload a0_124 rfl) <| .s (.iconst (2 : Int32) a0_126 rfl) <| .s (.icmpF a0_127 (by decide)) <| .s (.lloadN a0_130 rfl) <| .s (.lload a0_131 rfl) <| .s (.lload a0_133 rfl) <| .s (.lload a0_135 rfl) ?_
    refine .callS a0_137 (ok8 hw _ _ _ _) (wd hw 46 rfl) (wd hw 47 rfl) (argsL := [(.long t2), (.long s2), (.long t1), (.long s1)]) (S := []) (au8_15 hw _ _ t1 t2 t3 s1 s2 s3 _) rfl rfl rfl rfl rfl rfl (Nat.le_of_ble_eq_true rfl) (Nat.le_of_ble_eq_true rfl) ?_
    rintro _ _ _ (⟨q57, q58, q59, rfl, rfl, rfl⟩ | ⟨q60, q61, q62, rfl, rfl, rfl⟩ | ⟨q63, q64, rfl, rfl, rfl⟩ | ⟨q65, rfl, rfl, rfl⟩)
    · skip
      show WGo _ (140, [wJ t1, wS, wJ t2, wS, wJ t3, wS, wJ s1, wS, wJ s2, wS, wI mode, wI 2, wJ s3, wS, wR 0, wR 1, wR 2, wR 3, wR 0, wJ t1, wS, wJ s1, wS, wU, wU], [.int 0], [(.inr (cn0, [(fk0, (.long t1)), (fk1, .null), (fk2, .null), (fk3, (.long s1))])), (.inr (cn0, [(fk0, (.long t2)), (fk1, .null), (fk2, .null), (fk3, (.long s2))])), (.inr (cn0, [(fk0, (.long t3)), (fk1, .null), (fk2, .null), (fk3, (.long s3))])), (.inr (cn1, [(fk4, .ref 4), (fk5, .int 2)])), (.inl ((.object "com/example/chronogate/chronogate/Event"), [.ref 0, .ref 1, .null, .null, .null, .null, .null, .null]))], 22) _
      refine .s (.ifT a0_140 (by decide)) <| .s (.iload a0_154 rfl) <| .s (.iconst (3 : Int32) a0_156 rfl) <| .s (.icmpT a0_157 (by decide)) <| .s (.aload a0_178 rfl rfl) ?_
      refine .callV (k := 3) (z := (⟨"com/example/chronogate/chronogate/ReleaseQueue", "peek", "()Lcom/example/chronogate/chronogate/Event;"⟩ : MethodName)) a0_180 (ok9 hw _ _ _ _) ⟨rfl, by decide⟩ (wd hw 50 rfl) (wd hw 51 rfl) (fun s hZ => notFace_of_selects (args := #[]) (mvT hZ (wd hw 53 rfl))) (wd hw 53 rfl) (wd hw 52 rfl) rfl (argsL := []) (S := []) (au9_16 hw _ _ t1 t2 t3 s1 s2 s3 _) rfl rfl rfl rfl rfl rfl (Nat.le_of_ble_eq_true rfl) (Nat.le_of_ble_eq_true rfl) ?_
      rintro _ _ _ ⟨rfl, rfl, rfl⟩
      show WGo _ (183, [wJ t1, wS, wJ t2, wS, wJ t3, wS, wJ s1, wS, wJ s2, wS, wI mode, wI 2, wJ s3, wS, wR 0, wR 1, wR 2, wR 3, wR 0, wJ t1, wS, wJ s1, wS, wU, wU], [.ref 0], [(.inr (cn0, [(fk0, (.long t1)), (fk1, .null), (fk2, .null), (fk3, (.long s1))])), (.inr (cn0, [(fk0, (.long t2)), (fk1, .null), (fk2, .null), (fk3, (.long s2))])), (.inr (cn0, [(fk0, (.long t3)), (fk1, .null), (fk2, .null), (fk3, (.long s3))])), (.inr (cn1, [(fk4, .ref 4), (fk5, .int 2)])), (.inl ((.object "com/example/chronogate/chronogate/Event"), [.ref 0, .ref 1, .null, .null, .null, .null, .null, .null]))], 22) _
      refine .s (.astore (L' := [wJ t1, wS, wJ t2, wS, wJ t3, wS, wJ s1, wS, wJ s2, wS, wI mode, wI 2, wJ s3, wS, wR 0, wR 1, wR 2, wR 3, wR 0, wJ t1, wS, wJ s1, wS, wR 0, wU]) a0_183 rfl rfl) <| .s (.aload a0_185 rfl rfl) ?_
      refine .callV (k := 3) (z := (⟨"com/example/chronogate/chronogate/ReleaseQueue", "peek", "()Lcom/example/chronogate/chronogate/Event;"⟩ : MethodName)) a0_187 (ok9 hw _ _ _ _) ⟨rfl, by decide⟩ (wd hw 50 rfl) (wd hw 51 rfl) (fun s hZ => notFace_of_selects (args := #[]) (mvT hZ (wd hw 53 rfl))) (wd hw 53 rfl) (wd hw 52 rfl) rfl (argsL := []) (S := []) (au9_16 hw _ _ t1 t2 t3 s1 s2 s3 _) rfl rfl rfl rfl rfl rfl (Nat.le_of_ble_eq_true rfl) (Nat.le_of_ble_eq_true rfl) ?_
      rintro _ _ _ ⟨rfl, rfl, rfl⟩
      show WGo _ (190, [wJ t1, wS, wJ t2, wS, wJ t3, wS, wJ s1, wS, wJ s2, wS, wI mode, wI 2, wJ s3, wS, wR 0, wR 1, wR 2, wR 3, wR 0, wJ t1, wS, wJ s1, wS, wR 0, wU], [.ref 0], [(.inr (cn0, [(fk0, (.long t1)), (fk1, .null), (fk2, .null), (fk3, (.long s1))])), (.inr (cn0, [(fk0, (.long t2)), (fk1, .null), (fk2, .null), (fk3, (.long s2))])), (.inr (cn0, [(fk0, (.long t3)), (fk1, .null), (fk2, .null), (fk3, (.long s3))])), (.inr (cn1, [(fk4, .ref 4), (fk5, .int 2)])), (.inl ((.object "com/example/chronogate/chronogate/Event"), [.ref 0, .ref 1, .null, .null, .null, .null, .null, .null]))], 22) _
      refine .s (.astore (L' := [wJ t1, wS, wJ t2, wS, wJ t3, wS, wJ s1, wS, wJ s2, wS, wI mode, wI 2, wJ s3, wS, wR 0, wR 1, wR 2, wR 3, wR 0, wJ t1, wS, wJ s1, wS, wR 0, wR 0]) a0_190 rfl rfl) <| .s (.aload a0_192 rfl rfl) <| .s (.aload a0_194 rfl rfl) <| .s (.acmp true 199 a0_196 rfl rfl (by decide) rfl) <| .s (.aload a0_199 rfl rfl) <| .s (.aload a0_201 rfl rfl) <| .s (.acmp true 206 a0_203 rfl rfl (by decide) rfl) ?_
      refine .s (.aload a0_206 rfl rfl) ?_
      refine .callV (k := 3) (z := (⟨"com/example/chronogate/chronogate/ReleaseQueue", "size", "()I"⟩ : MethodName)) a0_208 (ok10 hw _ _ _ _) ⟨rfl, by decide⟩ (wd hw 55 rfl) (wd hw 56 rfl) (fun s hZ => notFace_of_selects (args := #[]) (mvT hZ (wd hw 58 rfl))) (wd hw 58 rfl) (wd hw 57 rfl) rfl (argsL := []) (S := []) (au10_17 hw _ _ t1 t2 t3 s1 s2 s3 _) rfl rfl rfl rfl rfl rfl (Nat.le_of_ble_eq_true rfl) (Nat.le_of_ble_eq_true rfl) ?_
      rintro _ _ _ ⟨rfl, rfl, rfl⟩
      show WGo _ (211, [wJ t1, wS, wJ t2, wS, wJ t3, wS, wJ s1, wS, wJ s2, wS, wI mode, wI 2, wJ s3, wS, wR 0, wR 1, wR 2, wR 3, wR 0, wJ t1, wS, wJ s1, wS, wR 0, wR 0], [.int 2], [(.inr (cn0, [(fk0, (.long t1)), (fk1, .null), (fk2, .null), (fk3, (.long s1))])), (.inr (cn0, [(fk0, (.long t2)), (fk1, .null), (fk2, .null), (fk3, (.long s2))])), (.inr (cn0, [(fk0, (.long t3)), (fk1, .null), (fk2, .null), (fk3, (.long s3))])), (.inr (cn1, [(fk4, .ref 4), (fk5, .int 2)])), (.inl ((.object "com/example/chronogate/chronogate/Event"), [.ref 0, .ref 1, .null, .null, .null, .null, .null, .null]))], 22) _
      refine .s (.iload a0_211 rfl) <| .s (.icmpF a0_213 (by decide)) <| .s (.iconst (1 : Int32) a0_216 rfl) <| .s (.goto a0_217) ?_
      refine .ireturn .boolean a0_221 rfl (by simp) ?_
      exact ⟨rfl, Nat.le_of_ble_eq_true rfl, Nat.le_of_ble_eq_true rfl⟩
    · exfalso
      simp only [Int32.lt_iff_toInt_lt, Int64.lt_iff_toInt_lt, ← Int32.toInt_inj, ← Int64.toInt_inj, Int32.reduceToInt, Int64.reduceToInt] at *
      omega
    · exfalso
      simp only [Int32.lt_iff_toInt_lt, Int64.lt_iff_toInt_lt, ← Int32.toInt_inj, ← Int64.toInt_inj, Int32.reduceToInt, Int64.reduceToInt] at *
      omega
    · exfalso
      simp only [Int32.lt_iff_toInt_lt, Int64.lt_iff_toInt_lt, ← Int32.toInt_inj, ← Int64.toInt_inj, Int32.reduceToInt, Int64.reduceToInt] at *
      omega
  · skip
    show WGo _ (91, [wJ t1, wS, wJ t2, wS, wJ t3, wS, wJ s1, wS, wJ s2, wS, wI mode, wI 2, wJ s3, wS, wR 0, wR 1, wR 2, wR 3, wU, wU, wU, wU, wU, wU, wU], [], [(.inr (cn0, [(fk0, (.long t1)), (fk1, .null), (fk2, .null), (fk3, (.long s1))])), (.inr (cn0, [(fk0, (.long t2)), (fk1, .null), (fk2, .null), (fk3, (.long s2))])), (.inr (cn0, [(fk0, (.long t3)), (fk1, .null), (fk2, .null), (fk3, (.long s3))])), (.inr (cn1, [(fk4, .ref 4), (fk5, .int 2)])), (.inl ((.object "com/example/chronogate/chronogate/Event"), [.ref 1, .ref 0, .null, .null, .null, .null, .null, .null]))], 22) _
    refine .s (.iload a0_91 rfl) <| .s (.iconst (3 : Int32) a0_93 rfl) <| .s (.icmpT a0_94 (by decide)) <| .s (.aconstNull a0_104) <| .s (.astore (L' := [wJ t1, wS, wJ t2, wS, wJ t3, wS, wJ s1, wS, wJ s2, wS, wI mode, wI 2, wJ s3, wS, wR 0, wR 1, wR 2, wR 3, wN, wU, wU, wU, wU, wU, wU]) a0_105 rfl rfl) <| .s (.lloadN a0_107 rfl) <| .s (.lstore (L' := [wJ t1, wS, wJ t2, wS, wJ t3, wS, wJ s1, wS, wJ s2, wS, wI mode, wI 2, wJ s3, wS, wR 0, wR 1, wR 2, wR 3, wN, wJ t1, wS, wU, wU, wU, wU]) a0_108 rfl) ?_
    refine .s (.lload a0_110 rfl) <| .s (.lstore (L' := [wJ t1, wS, wJ t2, wS, wJ t3, wS, wJ s1, wS, wJ s2, wS, wI mode, wI 2, wJ s3, wS, wR 0, wR 1, wR 2, wR 3, wN, wJ t1, wS, wJ s1, wS, wU, wU]) a0_112 rfl) <| .s (.iload a0_114 rfl) <| .s (.iconst (1 : Int32) a0_116 rfl) <| .s (.icmpF a0_117 (by decide)) <| .s (.aload a0_120 rfl rfl) <| .s (.astore (L' := [wJ t1, wS, wJ t2, wS, wJ t3, wS, wJ s1, wS, wJ s2, wS, wI mode, wI 2, wJ s3, wS, wR 0, wR 1, wR 2, wR 3, wR 0, wJ t1, wS, wJ s1, wS, wU, wU]) a0_122 rfl rfl) ?_
    refine .s (.iload a0_124 rfl) <| .s (.iconst (2 : Int32) a0_126 rfl) <| .s (.icmpF a0_127 (by decide)) <| .s (.lloadN a0_130 rfl) <| .s (.lload a0_131 rfl) <| .s (.lload a0_133 rfl) <| .s (.lload a0_135 rfl) ?_
    refine .callS a0_137 (ok8 hw _ _ _ _) (wd hw 46 rfl) (wd hw 47 rfl) (argsL := [(.long t2), (.long s2), (.long t1), (.long s1)]) (S := []) (au8_18 hw _ _ t1 t2 t3 s1 s2 s3 _) rfl rfl rfl rfl rfl rfl (Nat.le_of_ble_eq_true rfl) (Nat.le_of_ble_eq_true rfl) ?_
    rintro _ _ _ (⟨q66, q67, q68, rfl, rfl, rfl⟩ | ⟨q69, q70, q71, rfl, rfl, rfl⟩ | ⟨q72, q73, rfl, rfl, rfl⟩ | ⟨q74, rfl, rfl, rfl⟩)
    · exfalso
      simp only [Int32.lt_iff_toInt_lt, Int64.lt_iff_toInt_lt, ← Int32.toInt_inj, ← Int64.toInt_inj, Int32.reduceToInt, Int64.reduceToInt] at *
      omega
    · skip
      show WGo _ (140, [wJ t1, wS, wJ t2, wS, wJ t3, wS, wJ s1, wS, wJ s2, wS, wI mode, wI 2, wJ s3, wS, wR 0, wR 1, wR 2, wR 3, wR 0, wJ t1, wS, wJ s1, wS, wU, wU], [.int 1], [(.inr (cn0, [(fk0, (.long t1)), (fk1, .null), (fk2, .null), (fk3, (.long s1))])), (.inr (cn0, [(fk0, (.long t2)), (fk1, .null), (fk2, .null), (fk3, (.long s2))])), (.inr (cn0, [(fk0, (.long t3)), (fk1, .null), (fk2, .null), (fk3, (.long s3))])), (.inr (cn1, [(fk4, .ref 4), (fk5, .int 2)])), (.inl ((.object "com/example/chronogate/chronogate/Event"), [.ref 1, .ref 0, .null, .null, .null, .null, .null, .null]))], 22) _
      refine .s (.ifF a0_140 (by decide)) <| .s (.aload a0_143 rfl rfl) <| .s (.astore (L' := [wJ t1, wS, wJ t2, wS, wJ t3, wS, wJ s1, wS, wJ s2, wS, wI mode, wI 2, wJ s3, wS, wR 0, wR 1, wR 2, wR 3, wR 1, wJ t1, wS, wJ s1, wS, wU, wU]) a0_145 rfl rfl) <| .s (.lloadN a0_147 rfl) <| .s (.lstore (L' := [wJ t1, wS, wJ t2, wS, wJ t3, wS, wJ s1, wS, wJ s2, wS, wI mode, wI 2, wJ s3, wS, wR 0, wR 1, wR 2, wR 3, wR 1, wJ t2, wS, wJ s1, wS, wU, wU]) a0_148 rfl) <| .s (.lload a0_150 rfl) <| .s (.lstore (L' := [wJ t1, wS, wJ t2, wS, wJ t3, wS, wJ s1, wS, wJ s2, wS, wI mode, wI 2, wJ s3, wS, wR 0, wR 1, wR 2, wR 3, wR 1, wJ t2, wS, wJ s2, wS, wU, wU]) a0_152 rfl) ?_
      refine .s (.iload a0_154 rfl) <| .s (.iconst (3 : Int32) a0_156 rfl) <| .s (.icmpT a0_157 (by decide)) <| .s (.aload a0_178 rfl rfl) ?_
      refine .callV (k := 3) (z := (⟨"com/example/chronogate/chronogate/ReleaseQueue", "peek", "()Lcom/example/chronogate/chronogate/Event;"⟩ : MethodName)) a0_180 (ok9 hw _ _ _ _) ⟨rfl, by decide⟩ (wd hw 50 rfl) (wd hw 51 rfl) (fun s hZ => notFace_of_selects (args := #[]) (mvT hZ (wd hw 53 rfl))) (wd hw 53 rfl) (wd hw 52 rfl) rfl (argsL := []) (S := []) (au9_19 hw _ _ t1 t2 t3 s1 s2 s3 _) rfl rfl rfl rfl rfl rfl (Nat.le_of_ble_eq_true rfl) (Nat.le_of_ble_eq_true rfl) ?_
      rintro _ _ _ ⟨rfl, rfl, rfl⟩
      show WGo _ (183, [wJ t1, wS, wJ t2, wS, wJ t3, wS, wJ s1, wS, wJ s2, wS, wI mode, wI 2, wJ s3, wS, wR 0, wR 1, wR 2, wR 3, wR 1, wJ t2, wS, wJ s2, wS, wU, wU], [.ref 1], [(.inr (cn0, [(fk0, (.long t1)), (fk1, .null), (fk2, .null), (fk3, (.long s1))])), (.inr (cn0, [(fk0, (.long t2)), (fk1, .null), (fk2, .null), (fk3, (.long s2))])), (.inr (cn0, [(fk0, (.long t3)), (fk1, .null), (fk2, .null), (fk3, (.long s3))])), (.inr (cn1, [(fk4, .ref 4), (fk5, .int 2)])), (.inl ((.object "com/example/chronogate/chronogate/Event"), [.ref 1, .ref 0, .null, .null, .null, .null, .null, .null]))], 22) _
      refine .s (.astore (L' := [wJ t1, wS, wJ t2, wS, wJ t3, wS, wJ s1, wS, wJ s2, wS, wI mode, wI 2, wJ s3, wS, wR 0, wR 1, wR 2, wR 3, wR 1, wJ t2, wS, wJ s2, wS, wR 1, wU]) a0_183 rfl rfl) <| .s (.aload a0_185 rfl rfl) ?_
      refine .callV (k := 3) (z := (⟨"com/example/chronogate/chronogate/ReleaseQueue", "peek", "()Lcom/example/chronogate/chronogate/Event;"⟩ : MethodName)) a0_187 (ok9 hw _ _ _ _) ⟨rfl, by decide⟩ (wd hw 50 rfl) (wd hw 51 rfl) (fun s hZ => notFace_of_selects (args := #[]) (mvT hZ (wd hw 53 rfl))) (wd hw 53 rfl) (wd hw 52 rfl) rfl (argsL := []) (S := []) (au9_19 hw _ _ t1 t2 t3 s1 s2 s3 _) rfl rfl rfl rfl rfl rfl (Nat.le_of_ble_eq_true rfl) (Nat.le_of_ble_eq_true rfl) ?_
      rintro _ _ _ ⟨rfl, rfl, rfl⟩
      show WGo _ (190, [wJ t1, wS, wJ t2, wS, wJ t3, wS, wJ s1, wS, wJ s2, wS, wI mode, wI 2, wJ s3, wS, wR 0, wR 1, wR 2, wR 3, wR 1, wJ t2, wS, wJ s2, wS, wR 1, wU], [.ref 1], [(.inr (cn0, [(fk0, (.long t1)), (fk1, .null), (fk2, .null), (fk3, (.long s1))])), (.inr (cn0, [(fk0, (.long t2)), (fk1, .null), (fk2, .null), (fk3, (.long s2))])), (.inr (cn0, [(fk0, (.long t3)), (fk1, .null), (fk2, .null), (fk3, (.long s3))])), (.inr (cn1, [(fk4, .ref 4), (fk5, .int 2)])), (.inl ((.object "com/example/chronogate/chronogate/Event"), [.ref 1, .ref 0, .null, .null, .null, .null, .null, .null]))], 22) _
      refine .s (.astore (L' := [wJ t1, wS, wJ t2, wS, wJ t3, wS, wJ s1, wS, wJ s2, wS, wI mode, wI 2, wJ s3, wS, wR 0, wR 1, wR 2, wR 3, wR 1, wJ t2, wS, wJ s2, wS, wR 1, wR 1]) a0_190 rfl rfl) <| .s (.aload a0_192 rfl rfl) <| .s (.aload a0_194 rfl rfl) <| .s (.acmp true 199 a0_196 rfl rfl (by decide) rfl) <| .s (.aload a0_199 rfl rfl) <| .s (.aload a0_201 rfl rfl) <| .s (.acmp true 206 a0_203 rfl rfl (by decide) rfl) ?_
      refine .s (.aload a0_206 rfl rfl) ?_
      refine .callV (k := 3) (z := (⟨"com/example/chronogate/chronogate/ReleaseQueue", "size", "()I"⟩ : MethodName)) a0_208 (ok10 hw _ _ _ _) ⟨rfl, by decide⟩ (wd hw 55 rfl) (wd hw 56 rfl) (fun s hZ => notFace_of_selects (args := #[]) (mvT hZ (wd hw 58 rfl))) (wd hw 58 rfl) (wd hw 57 rfl) rfl (argsL := []) (S := []) (au10_20 hw _ _ t1 t2 t3 s1 s2 s3 _) rfl rfl rfl rfl rfl rfl (Nat.le_of_ble_eq_true rfl) (Nat.le_of_ble_eq_true rfl) ?_
      rintro _ _ _ ⟨rfl, rfl, rfl⟩
      show WGo _ (211, [wJ t1, wS, wJ t2, wS, wJ t3, wS, wJ s1, wS, wJ s2, wS, wI mode, wI 2, wJ s3, wS, wR 0, wR 1, wR 2, wR 3, wR 1, wJ t2, wS, wJ s2, wS, wR 1, wR 1], [.int 2], [(.inr (cn0, [(fk0, (.long t1)), (fk1, .null), (fk2, .null), (fk3, (.long s1))])), (.inr (cn0, [(fk0, (.long t2)), (fk1, .null), (fk2, .null), (fk3, (.long s2))])), (.inr (cn0, [(fk0, (.long t3)), (fk1, .null), (fk2, .null), (fk3, (.long s3))])), (.inr (cn1, [(fk4, .ref 4), (fk5, .int 2)])), (.inl ((.object "com/example/chronogate/chronogate/Event"), [.ref 1, .ref 0, .null, .null, .null, .null, .null, .null]))], 22) _
      refine .s (.iload a0_211 rfl) <| .s (.icmpF a0_213 (by decide)) <| .s (.iconst (1 : Int32) a0_216 rfl) <| .s (.goto a0_217) ?_
      refine .ireturn .boolean a0_221 rfl (by simp) ?_
      exact ⟨rfl, Nat.le_of_ble_eq_true rfl, Nat.le_of_ble_eq_true rfl⟩
    · exfalso
      simp only [Int32.lt_iff_toInt_lt, Int64.lt_iff_toInt_lt, ← Int32.toInt_inj, ← Int64.toInt_inj, Int32.reduceToInt, Int64.reduceToInt] at *
      omega
    · exfalso
      simp only [Int32.lt_iff_toInt_lt, Int64.lt_iff_toInt_lt, ← Int32.toInt_inj, ← Int64.toInt_inj, Int32.reduceToInt, Int64.reduceToInt] at *
      omega
  · skip
    show WGo _ (91, [wJ t1, wS, wJ t2, wS, wJ t3, wS, wJ s1, wS, wJ s2, wS, wI mode, wI 2, wJ s3, wS, wR 0, wR 1, wR 2, wR 3, wU, wU, wU, wU, wU, wU, wU], [], [(.inr (cn0, [(fk0, (.long t1)), (fk1, .null), (fk2, .null), (fk3, (.long s1))])), (.inr (cn0, [(fk0, (.long t2)), (fk1, .null), (fk2, .null), (fk3, (.long s2))])), (.inr (cn0, [(fk0, (.long t3)), (fk1, .null), (fk2, .null), (fk3, (.long s3))])), (.inr (cn1, [(fk4, .ref 4), (fk5, .int 2)])), (.inl ((.object "com/example/chronogate/chronogate/Event"), [.ref 1, .ref 0, .null, .null, .null, .null, .null, .null]))], 22) _
    refine .s (.iload a0_91 rfl) <| .s (.iconst (3 : Int32) a0_93 rfl) <| .s (.icmpT a0_94 (by decide)) <| .s (.aconstNull a0_104) <| .s (.astore (L' := [wJ t1, wS, wJ t2, wS, wJ t3, wS, wJ s1, wS, wJ s2, wS, wI mode, wI 2, wJ s3, wS, wR 0, wR 1, wR 2, wR 3, wN, wU, wU, wU, wU, wU, wU]) a0_105 rfl rfl) <| .s (.lloadN a0_107 rfl) <| .s (.lstore (L' := [wJ t1, wS, wJ t2, wS, wJ t3, wS, wJ s1, wS, wJ s2, wS, wI mode, wI 2, wJ s3, wS, wR 0, wR 1, wR 2, wR 3, wN, wJ t1, wS, wU, wU, wU, wU]) a0_108 rfl) ?_
    refine .s (.lload a0_110 rfl) <| .s (.lstore (L' := [wJ t1, wS, wJ t2, wS, wJ t3, wS, wJ s1, wS, wJ s2, wS, wI mode, wI 2, wJ s3, wS, wR 0, wR 1, wR 2, wR 3, wN, wJ t1, wS, wJ s1, wS, wU, wU]) a0_112 rfl) <| .s (.iload a0_114 rfl) <| .s (.iconst (1 : Int32) a0_116 rfl) <| .s (.icmpF a0_117 (by decide)) <| .s (.aload a0_120 rfl rfl) <| .s (.astore (L' := [wJ t1, wS, wJ t2, wS, wJ t3, wS, wJ s1, wS, wJ s2, wS, wI mode, wI 2, wJ s3, wS, wR 0, wR 1, wR 2, wR 3, wR 0, wJ t1, wS, wJ s1, wS, wU, wU]) a0_122 rfl rfl) ?_
    refine .s (.iload a0_124 rfl) <| .s (.iconst (2 : Int32) a0_126 rfl) <| .s (.icmpF a0_127 (by decide)) <| .s (.lloadN a0_130 rfl) <| .s (.lload a0_131 rfl) <| .s (.lload a0_133 rfl) <| .s (.lload a0_135 rfl) ?_
    refine .callS a0_137 (ok8 hw _ _ _ _) (wd hw 46 rfl) (wd hw 47 rfl) (argsL := [(.long t2), (.long s2), (.long t1), (.long s1)]) (S := []) (au8_18 hw _ _ t1 t2 t3 s1 s2 s3 _) rfl rfl rfl rfl rfl rfl (Nat.le_of_ble_eq_true rfl) (Nat.le_of_ble_eq_true rfl) ?_
    rintro _ _ _ (⟨q75, q76, q77, rfl, rfl, rfl⟩ | ⟨q78, q79, q80, rfl, rfl, rfl⟩ | ⟨q81, q82, rfl, rfl, rfl⟩ | ⟨q83, rfl, rfl, rfl⟩)
    · exfalso
      simp only [Int32.lt_iff_toInt_lt, Int64.lt_iff_toInt_lt, ← Int32.toInt_inj, ← Int64.toInt_inj, Int32.reduceToInt, Int64.reduceToInt] at *
      omega
    · exfalso
      simp only [Int32.lt_iff_toInt_lt, Int64.lt_iff_toInt_lt, ← Int32.toInt_inj, ← Int64.toInt_inj, Int32.reduceToInt, Int64.reduceToInt] at *
      omega
    · exfalso
      simp only [Int32.lt_iff_toInt_lt, Int64.lt_iff_toInt_lt, ← Int32.toInt_inj, ← Int64.toInt_inj, Int32.reduceToInt, Int64.reduceToInt] at *
      omega
    · skip
      show WGo _ (140, [wJ t1, wS, wJ t2, wS, wJ t3, wS, wJ s1, wS, wJ s2, wS, wI mode, wI 2, wJ s3, wS, wR 0, wR 1, wR 2, wR 3, wR 0, wJ t1, wS, wJ s1, wS, wU, wU], [.int 1], [(.inr (cn0, [(fk0, (.long t1)), (fk1, .null), (fk2, .null), (fk3, (.long s1))])), (.inr (cn0, [(fk0, (.long t2)), (fk1, .null), (fk2, .null), (fk3, (.long s2))])), (.inr (cn0, [(fk0, (.long t3)), (fk1, .null), (fk2, .null), (fk3, (.long s3))])), (.inr (cn1, [(fk4, .ref 4), (fk5, .int 2)])), (.inl ((.object "com/example/chronogate/chronogate/Event"), [.ref 1, .ref 0, .null, .null, .null, .null, .null, .null]))], 22) _
      refine .s (.ifF a0_140 (by decide)) <| .s (.aload a0_143 rfl rfl) <| .s (.astore (L' := [wJ t1, wS, wJ t2, wS, wJ t3, wS, wJ s1, wS, wJ s2, wS, wI mode, wI 2, wJ s3, wS, wR 0, wR 1, wR 2, wR 3, wR 1, wJ t1, wS, wJ s1, wS, wU, wU]) a0_145 rfl rfl) <| .s (.lloadN a0_147 rfl) <| .s (.lstore (L' := [wJ t1, wS, wJ t2, wS, wJ t3, wS, wJ s1, wS, wJ s2, wS, wI mode, wI 2, wJ s3, wS, wR 0, wR 1, wR 2, wR 3, wR 1, wJ t2, wS, wJ s1, wS, wU, wU]) a0_148 rfl) <| .s (.lload a0_150 rfl) <| .s (.lstore (L' := [wJ t1, wS, wJ t2, wS, wJ t3, wS, wJ s1, wS, wJ s2, wS, wI mode, wI 2, wJ s3, wS, wR 0, wR 1, wR 2, wR 3, wR 1, wJ t2, wS, wJ s2, wS, wU, wU]) a0_152 rfl) ?_
      refine .s (.iload a0_154 rfl) <| .s (.iconst (3 : Int32) a0_156 rfl) <| .s (.icmpT a0_157 (by decide)) <| .s (.aload a0_178 rfl rfl) ?_
      refine .callV (k := 3) (z := (⟨"com/example/chronogate/chronogate/ReleaseQueue", "peek", "()Lcom/example/chronogate/chronogate/Event;"⟩ : MethodName)) a0_180 (ok9 hw _ _ _ _) ⟨rfl, by decide⟩ (wd hw 50 rfl) (wd hw 51 rfl) (fun s hZ => notFace_of_selects (args := #[]) (mvT hZ (wd hw 53 rfl))) (wd hw 53 rfl) (wd hw 52 rfl) rfl (argsL := []) (S := []) (au9_19 hw _ _ t1 t2 t3 s1 s2 s3 _) rfl rfl rfl rfl rfl rfl (Nat.le_of_ble_eq_true rfl) (Nat.le_of_ble_eq_true rfl) ?_
      rintro _ _ _ ⟨rfl, rfl, rfl⟩
      show WGo _ (183, [wJ t1, wS, wJ t2, wS, wJ t3, wS, wJ s1, wS, wJ s2, wS, wI mode, wI 2, wJ s3, wS, wR 0, wR 1, wR 2, wR 3, wR 1, wJ t2, wS, wJ s2, wS, wU, wU], [.ref 1], [(.inr (cn0, [(fk0, (.long t1)), (fk1, .null), (fk2, .null), (fk3, (.long s1))])), (.inr (cn0, [(fk0, (.long t2)), (fk1, .null), (fk2, .null), (fk3, (.long s2))])), (.inr (cn0, [(fk0, (.long t3)), (fk1, .null), (fk2, .null), (fk3, (.long s3))])), (.inr (cn1, [(fk4, .ref 4), (fk5, .int 2)])), (.inl ((.object "com/example/chronogate/chronogate/Event"), [.ref 1, .ref 0, .null, .null, .null, .null, .null, .null]))], 22) _
      refine .s (.astore (L' := [wJ t1, wS, wJ t2, wS, wJ t3, wS, wJ s1, wS, wJ s2, wS, wI mode, wI 2, wJ s3, wS, wR 0, wR 1, wR 2, wR 3, wR 1, wJ t2, wS, wJ s2, wS, wR 1, wU]) a0_183 rfl rfl) <| .s (.aload a0_185 rfl rfl) ?_
      refine .callV (k := 3) (z := (⟨"com/example/chronogate/chronogate/ReleaseQueue", "peek", "()Lcom/example/chronogate/chronogate/Event;"⟩ : MethodName)) a0_187 (ok9 hw _ _ _ _) ⟨rfl, by decide⟩ (wd hw 50 rfl) (wd hw 51 rfl) (fun s hZ => notFace_of_selects (args := #[]) (mvT hZ (wd hw 53 rfl))) (wd hw 53 rfl) (wd hw 52 rfl) rfl (argsL := []) (S := []) (au9_19 hw _ _ t1 t2 t3 s1 s2 s3 _) rfl rfl rfl rfl rfl rfl (Nat.le_of_ble_eq_true rfl) (Nat.le_of_ble_eq_true rfl) ?_
      rintro _ _ _ ⟨rfl, rfl, rfl⟩
      show WGo _ (190, [wJ t1, wS, wJ t2, wS, wJ t3, wS, wJ s1, wS, wJ s2, wS, wI mode, wI 2, wJ s3, wS, wR 0, wR 1, wR 2, wR 3, wR 1, wJ t2, wS, wJ s2, wS, wR 1, wU], [.ref 1], [(.inr (cn0, [(fk0, (.long t1)), (fk1, .null), (fk2, .null), (fk3, (.long s1))])), (.inr (cn0, [(fk0, (.long t2)), (fk1, .null), (fk2, .null), (fk3, (.long s2))])), (.inr (cn0, [(fk0, (.long t3)), (fk1, .null), (fk2, .null), (fk3, (.long s3))])), (.inr (cn1, [(fk4, .ref 4), (fk5, .int 2)])), (.inl ((.object "com/example/chronogate/chronogate/Event"), [.ref 1, .ref 0, .null, .null, .null, .null, .null, .null]))], 22) _
      refine .s (.astore (L' := [wJ t1, wS, wJ t2, wS, wJ t3, wS, wJ s1, wS, wJ s2, wS, wI mode, wI 2, wJ s3, wS, wR 0, wR 1, wR 2, wR 3, wR 1, wJ t2, wS, wJ s2, wS, wR 1, wR 1]) a0_190 rfl rfl) <| .s (.aload a0_192 rfl rfl) <| .s (.aload a0_194 rfl rfl) <| .s (.acmp true 199 a0_196 rfl rfl (by decide) rfl) <| .s (.aload a0_199 rfl rfl) <| .s (.aload a0_201 rfl rfl) <| .s (.acmp true 206 a0_203 rfl rfl (by decide) rfl) ?_
      refine .s (.aload a0_206 rfl rfl) ?_
      refine .callV (k := 3) (z := (⟨"com/example/chronogate/chronogate/ReleaseQueue", "size", "()I"⟩ : MethodName)) a0_208 (ok10 hw _ _ _ _) ⟨rfl, by decide⟩ (wd hw 55 rfl) (wd hw 56 rfl) (fun s hZ => notFace_of_selects (args := #[]) (mvT hZ (wd hw 58 rfl))) (wd hw 58 rfl) (wd hw 57 rfl) rfl (argsL := []) (S := []) (au10_20 hw _ _ t1 t2 t3 s1 s2 s3 _) rfl rfl rfl rfl rfl rfl (Nat.le_of_ble_eq_true rfl) (Nat.le_of_ble_eq_true rfl) ?_
      rintro _ _ _ ⟨rfl, rfl, rfl⟩
      show WGo _ (211, [wJ t1, wS, wJ t2, wS, wJ t3, wS, wJ s1, wS, wJ s2, wS, wI mode, wI 2, wJ s3, wS, wR 0, wR 1, wR 2, wR 3, wR 1, wJ t2, wS, wJ s2, wS, wR 1, wR 1], [.int 2], [(.inr (cn0, [(fk0, (.long t1)), (fk1, .null), (fk2, .null), (fk3, (.long s1))])), (.inr (cn0, [(fk0, (.long t2)), (fk1, .null), (fk2, .null), (fk3, (.long s2))])), (.inr (cn0, [(fk0, (.long t3)), (fk1, .null), (fk2, .null), (fk3, (.long s3))])), (.inr (cn1, [(fk4, .ref 4), (fk5, .int 2)])), (.inl ((.object "com/example/chronogate/chronogate/Event"), [.ref 1, .ref 0, .null, .null, .null, .null, .null, .null]))], 22) _
      refine .s (.iload a0_211 rfl) <| .s (.icmpF a0_213 (by decide)) <| .s (.iconst (1 : Int32) a0_216 rfl) <| .s (.goto a0_217) ?_
      refine .ireturn .boolean a0_221 rfl (by simp) ?_
      exact ⟨rfl, Nat.le_of_ble_eq_true rfl, Nat.le_of_ble_eq_true rfl⟩
set_option maxHeartbeats 4000000 in
theorem au7_23 {Z : State} {a0 : Array Value} (hw : ∀ d ∈ tables_1, d.before a0 Z = true) (ρ : Nat → Nat) (n0 : Nat) (t1 : Int64) (t2 : Int64) (t3 : Int64) (s1 : Int64) (s2 : Int64) (s3 : Int64) (u : Nat) : WGo (g7 Z ρ n0 5 u) (0, [wJ t3, wS, wJ t1, wS], [], [(.inr (cn0, [(fk0, (.long t1)), (fk1, .null), (fk2, .null), (fk3, (.long s1))])), (.inr (cn0, [(fk0, (.long t2)), (fk1, .null), (fk2, .null), (fk3, (.long s2))])), (.inr (cn0, [(fk0, (.long t3)), (fk1, .null), (fk2, .null), (fk3, (.long s3))])), (.inr (cn1, [(fk4, .ref 4), (fk5, .int 3)])), (.inl ((.object "com/example/chronogate/chronogate/Event"), [.ref 0, .ref 1, .null, .null, .null, .null, .null, .null]))], u) (fun v σ' u' => (¬ t3 < t1 ∧ ¬ t3 = t1 ∧ v = some (.int 1) ∧ [(.inr (cn0, [(fk0, (.long t1)), (fk1, .null), (fk2, .null), (fk3, (.long s1))])), (.inr (cn0, [(fk0, (.long t2)), (fk1, .null), (fk2, .null), (fk3, (.long s2))])), (.inr (cn0, [(fk0, (.long t3)), (fk1, .null), (fk2, .null), (fk3, (.long s3))])), (.inr (cn1, [(fk4, .ref 4), (fk5, .int 3)])), (.inl ((.object "com/example/chronogate/chronogate/Event"), [.ref 0, .ref 1, .null, .null, .null, .null, .null, .null]))] = σ' ∧ u = u') ∨ (¬ t3 < t1 ∧ t3 = t1 ∧ v = some (.int 0) ∧ [(.inr (cn0, [(fk0, (.long t1)), (fk1, .null), (fk2, .null), (fk3, (.long s1))])), (.inr (cn0, [(fk0, (.long t2)), (fk1, .null), (fk2, .null), (fk3, (.long s2))])), (.inr (cn0, [(fk0, (.long t3)), (fk1, .null), (fk2, .null), (fk3, (.long s3))])), (.inr (cn1, [(fk4, .ref 4), (fk5, .int 3)])), (.inl ((.object "com/example/chronogate/chronogate/Event"), [.ref 0, .ref 1, .null, .null, .null, .null, .null, .null]))] = σ' ∧ u = u') ∨ (t3 < t1 ∧ v = some (.int (-1)) ∧ [(.inr (cn0, [(fk0, (.long t1)), (fk1, .null), (fk2, .null), (fk3, (.long s1))])), (.inr (cn0, [(fk0, (.long t2)), (fk1, .null), (fk2, .null), (fk3, (.long s2))])), (.inr (cn0, [(fk0, (.long t3)), (fk1, .null), (fk2, .null), (fk3, (.long s3))])), (.inr (cn1, [(fk4, .ref 4), (fk5, .int 3)])), (.inl ((.object "com/example/chronogate/chronogate/Event"), [.ref 0, .ref 1, .null, .null, .null, .null, .null, .null]))] = σ' ∧ u = u')) := by
  refine .s (.lloadN a7_0 rfl) <| .s (.lloadN a7_1 rfl) <| .s (.lcmp a7_2) ?_
  refine .geL a7_3 (fun h3 => ?_) (fun h3 => ?_)
  · refine .s (.lloadN a7_10 rfl) <| .s (.lloadN a7_11 rfl) <| .s (.lcmp a7_12) ?_
    refine .neL a7_13 (fun h13 => ?_) (fun h13 => ?_)
    · refine .s (.iconst (1 : Int32) a7_20 rfl) ?_
      refine .ireturn .int a7_21 rfl (by simp) ?_
      exact Or.inl ⟨h3, h13, rfl, rfl, rfl⟩
    · refine .s (.iconst (0 : Int32) a7_16 rfl) <| .s (.goto a7_17) ?_
      refine .ireturn .int a7_21 rfl (by simp) ?_
      exact Or.inr (Or.inl ⟨h3, h13, rfl, rfl, rfl⟩)
  · refine .s (.iconst (-1 : Int32) a7_6 rfl) <| .s (.goto a7_7) ?_
    refine .ireturn .int a7_21 rfl (by simp) ?_
    exact Or.inr (Or.inr (⟨h3, rfl, rfl, rfl⟩))
set_option maxHeartbeats 4000000 in
theorem au7_24 {Z : State} {a0 : Array Value} (hw : ∀ d ∈ tables_1, d.before a0 Z = true) (ρ : Nat → Nat) (n0 : Nat) (t1 : Int64) (t2 : Int64) (t3 : Int64) (s1 : Int64) (s2 : Int64) (s3 : Int64) (u : Nat) : WGo (g7 Z ρ n0 5 u) (0, [wJ s3, wS, wJ s1, wS], [], [(.inr (cn0, [(fk0, (.long t1)), (fk1, .null), (fk2, .null), (fk3, (.long s1))])), (.inr (cn0, [(fk0, (.long t2)), (fk1, .null), (fk2, .null), (fk3, (.long s2))])), (.inr (cn0, [(fk0, (.long t3)), (fk1, .null), (fk2, .null), (fk3, (.long s3))])), (.inr (cn1, [(fk4, .ref 4), (fk5, .int 3)])), (.inl ((.object "com/example/chronogate/chronogate/Event"), [.ref 0, .ref 1, .null, .null, .null, .null, .null, .null]))], u) (fun v σ' u' => (¬ s3 < s1 ∧ ¬ s3 = s1 ∧ v = some (.int 1) ∧ [(.inr (cn0, [(fk0, (.long t1)), (fk1, .null), (fk2, .null), (fk3, (.long s1))])), (.inr (cn0, [(fk0, (.long t2)), (fk1, .null), (fk2, .null), (fk3, (.long s2))])), (.inr (cn0, [(fk0, (.long t3)), (fk1, .null), (fk2, .null), (fk3, (.long s3))])), (.inr (cn1, [(fk4, .ref 4), (fk5, .int 3)])), (.inl ((.object "com/example/chronogate/chronogate/Event"), [.ref 0, .ref 1, .null, .null, .null, .null, .null, .null]))] = σ' ∧ u = u') ∨ (¬ s3 < s1 ∧ s3 = s1 ∧ v = some (.int 0) ∧ [(.inr (cn0, [(fk0, (.long t1)), (fk1, .null), (fk2, .null), (fk3, (.long s1))])), (.inr (cn0, [(fk0, (.long t2)), (fk1, .null), (fk2, .null), (fk3, (.long s2))])), (.inr (cn0, [(fk0, (.long t3)), (fk1, .null), (fk2, .null), (fk3, (.long s3))])), (.inr (cn1, [(fk4, .ref 4), (fk5, .int 3)])), (.inl ((.object "com/example/chronogate/chronogate/Event"), [.ref 0, .ref 1, .null, .null, .null, .null, .null, .null]))] = σ' ∧ u = u') ∨ (s3 < s1 ∧ v = some (.int (-1)) ∧ [(.inr (cn0, [(fk0, (.long t1)), (fk1, .null), (fk2, .null), (fk3, (.long s1))])), (.inr (cn0, [(fk0, (.long t2)), (fk1, .null), (fk2, .null), (fk3, (.long s2))])), (.inr (cn0, [(fk0, (.long t3)), (fk1, .null), (fk2, .null), (fk3, (.long s3))])), (.inr (cn1, [(fk4, .ref 4), (fk5, .int 3)])), (.inl ((.object "com/example/chronogate/chronogate/Event"), [.ref 0, .ref 1, .null, .null, .null, .null, .null, .null]))] = σ' ∧ u = u')) := by
  refine .s (.lloadN a7_0 rfl) <| .s (.lloadN a7_1 rfl) <| .s (.lcmp a7_2) ?_
  refine .geL a7_3 (fun h3 => ?_) (fun h3 => ?_)
  · refine .s (.lloadN a7_10 rfl) <| .s (.lloadN a7_11 rfl) <| .s (.lcmp a7_12) ?_
    refine .neL a7_13 (fun h13 => ?_) (fun h13 => ?_)
    · refine .s (.iconst (1 : Int32) a7_20 rfl) ?_
      refine .ireturn .int a7_21 rfl (by simp) ?_
      exact Or.inl ⟨h3, h13, rfl, rfl, rfl⟩
    · refine .s (.iconst (0 : Int32) a7_16 rfl) <| .s (.goto a7_17) ?_
      refine .ireturn .int a7_21 rfl (by simp) ?_
      exact Or.inr (Or.inl ⟨h3, h13, rfl, rfl, rfl⟩)
  · refine .s (.iconst (-1 : Int32) a7_6 rfl) <| .s (.goto a7_7) ?_
    refine .ireturn .int a7_21 rfl (by simp) ?_
    exact Or.inr (Or.inr (⟨h3, rfl, rfl, rfl⟩))
set_option maxHeartbeats 4000000 in
theorem au6_22 {Z : State} {a0 : Array Value} (hw : ∀ d ∈ tables_1, d.before a0 Z = true) (ρ : Nat → Nat) (n0 : Nat) (t1 : Int64) (t2 : Int64) (t3 : Int64) (s1 : Int64) (s2 : Int64) (s3 : Int64) (u : Nat) : WGo (g6 Z ρ n0 5 u) (0, [wR 2, wR 0, wU], [], [(.inr (cn0, [(fk0, (.long t1)), (fk1, .null), (fk2, .null), (fk3, (.long s1))])), (.inr (cn0, [(fk0, (.long t2)), (fk1, .null), (fk2, .null), (fk3, (.long s2))])), (.inr (cn0, [(fk0, (.long t3)), (fk1, .null), (fk2, .null), (fk3, (.long s3))])), (.inr (cn1, [(fk4, .ref 4), (fk5, .int 3)])), (.inl ((.object "com/example/chronogate/chronogate/Event"), [.ref 0, .ref 1, .null, .null, .null, .null, .null, .null]))], u) (fun v σ' u' => (¬ t3 < t1 ∧ ¬ t3 = t1 ∧ v = some (.int 1) ∧ [(.inr (cn0, [(fk0, (.long t1)), (fk1, .null), (fk2, .null), (fk3, (.long s1))])), (.inr (cn0, [(fk0, (.long t2)), (fk1, .null), (fk2, .null), (fk3, (.long s2))])), (.inr (cn0, [(fk0, (.long t3)), (fk1, .null), (fk2, .null), (fk3, (.long s3))])), (.inr (cn1, [(fk4, .ref 4), (fk5, .int 3)])), (.inl ((.object "com/example/chronogate/chronogate/Event"), [.ref 0, .ref 1, .null, .null, .null, .null, .null, .null]))] = σ' ∧ u = u') ∨ (¬ t3 < t1 ∧ t3 = t1 ∧ ¬ s3 < s1 ∧ ¬ s3 = s1 ∧ v = some (.int 1) ∧ [(.inr (cn0, [(fk0, (.long t1)), (fk1, .null), (fk2, .null), (fk3, (.long s1))])), (.inr (cn0, [(fk0, (.long t2)), (fk1, .null), (fk2, .null), (fk3, (.long s2))])), (.inr (cn0, [(fk0, (.long t3)), (fk1, .null), (fk2, .null), (fk3, (.long s3))])), (.inr (cn1, [(fk4, .ref 4), (fk5, .int 3)])), (.inl ((.object "com/example/chronogate/chronogate/Event"), [.ref 0, .ref 1, .null, .null, .null, .null, .null, .null]))] = σ' ∧ u = u') ∨ (¬ t3 < t1 ∧ t3 = t1 ∧ ¬ s3 < s1 ∧ s3 = s1 ∧ v = some (.int 0) ∧ [(.inr (cn0, [(fk0, (.long t1)), (fk1, .null), (fk2, .null), (fk3, (.long s1))])), (.inr (cn0, [(fk0, (.long t2)), (fk1, .null), (fk2, .null), (fk3, (.long s2))])), (.inr (cn0, [(fk0, (.long t3)), (fk1, .null), (fk2, .null), (fk3, (.long s3))])), (.inr (cn1, [(fk4, .ref 4), (fk5, .int 3)])), (.inl ((.object "com/example/chronogate/chronogate/Event"), [.ref 0, .ref 1, .null, .null, .null, .null, .null, .null]))] = σ' ∧ u = u') ∨ (¬ t3 < t1 ∧ t3 = t1 ∧ s3 < s1 ∧ v = some (.int (-1)) ∧ [(.inr (cn0, [(fk0, (.long t1)), (fk1, .null), (fk2, .null), (fk3, (.long s1))])), (.inr (cn0, [(fk0, (.long t2)), (fk1, .null), (fk2, .null), (fk3, (.long s2))])), (.inr (cn0, [(fk0, (.long t3)), (fk1, .null), (fk2, .null), (fk3, (.long s3))])), (.inr (cn1, [(fk4, .ref 4), (fk5, .int 3)])), (.inl ((.object "com/example/chronogate/chronogate/Event"), [.ref 0, .ref 1, .null, .null, .null, .null, .null, .null]))] = σ' ∧ u = u') ∨ (t3 < t1 ∧ v = some (.int (-1)) ∧ [(.inr (cn0, [(fk0, (.long t1)), (fk1, .null), (fk2, .null), (fk3, (.long s1))])), (.inr (cn0, [(fk0, (.long t2)), (fk1, .null), (fk2, .null), (fk3, (.long s2))])), (.inr (cn0, [(fk0, (.long t3)), (fk1, .null), (fk2, .null), (fk3, (.long s3))])), (.inr (cn1, [(fk4, .ref 4), (fk5, .int 3)])), (.inl ((.object "com/example/chronogate/chronogate/Event"), [.ref 0, .ref 1, .null, .null, .null, .null, .null, .null]))] = σ' ∧ u = u')) := by
  refine .s (.aloadN a6_0 rfl rfl) <| .s (.getF 0 a6_1 (wd hw 9 rfl) rfl rfl) <| .s (.aloadN a6_4 rfl rfl) <| .s (.getF 0 a6_5 (wd hw 9 rfl) rfl rfl) ?_
  refine .callS a6_8 (ok7 hw _ _ _ _) (wd hw 42 rfl) (wd hw 43 rfl) (argsL := [(.long t3), (.long t1)]) (S := []) (au7_23 hw _ _ t1 t2 t3 s1 s2 s3 _) rfl rfl rfl rfl rfl rfl (Nat.le_of_ble_eq_true rfl) (Nat.le_of_ble_eq_true rfl) ?_
  rintro _ _ _ (⟨q98, q99, rfl, rfl, rfl⟩ | ⟨q100, q101, rfl, rfl, rfl⟩ | ⟨q102, rfl, rfl, rfl⟩)
  · skip
    show WGo _ (11, [wR 2, wR 0, wU], [.int 1], [(.inr (cn0, [(fk0, (.long t1)), (fk1, .null), (fk2, .null), (fk3, (.long s1))])), (.inr (cn0, [(fk0, (.long t2)), (fk1, .null), (fk2, .null), (fk3, (.long s2))])), (.inr (cn0, [(fk0, (.long t3)), (fk1, .null), (fk2, .null), (fk3, (.long s3))])), (.inr (cn1, [(fk4, .ref 4), (fk5, .int 3)])), (.inl ((.object "com/example/chronogate/chronogate/Event"), [.ref 0, .ref 1, .null, .null, .null, .null, .null, .null]))], u) _
    refine .s (.istoreN (L' := [wR 2, wR 0, wI 1]) a6_11 rfl) <| .s (.iloadN a6_12 rfl) <| .s (.ifF a6_13 (by decide)) <| .s (.iloadN a6_16 rfl) <| .s (.goto a6_17) ?_
    refine .ireturn .int a6_31 rfl (by simp) ?_
    exact Or.inl ⟨q98, q99, rfl, rfl, rfl⟩
  · skip
    show WGo _ (11, [wR 2, wR 0, wU], [.int 0], [(.inr (cn0, [(fk0, (.long t1)), (fk1, .null), (fk2, .null), (fk3, (.long s1))])), (.inr (cn0, [(fk0, (.long t2)), (fk1, .null), (fk2, .null), (fk3, (.long s2))])), (.inr (cn0, [(fk0, (.long t3)), (fk1, .null), (fk2, .null), (fk3, (.long s3))])), (.inr (cn1, [(fk4, .ref 4), (fk5, .int 3)])), (.inl ((.object "com/example/chronogate/chronogate/Event"), [.ref 0, .ref 1, .null, .null, .null, .null, .null, .null]))], u) _
    refine .s (.istoreN (L' := [wR 2, wR 0, wI 0]) a6_11 rfl) <| .s (.iloadN a6_12 rfl) <| .s (.ifT a6_13 (by decide)) <| .s (.aloadN a6_20 rfl rfl) <| .s (.getF 3 a6_21 (wd hw 15 rfl) rfl rfl) <| .s (.aloadN a6_24 rfl rfl) <| .s (.getF 3 a6_25 (wd hw 15 rfl) rfl rfl) ?_
    refine .callS a6_28 (ok7 hw _ _ _ _) (wd hw 42 rfl) (wd hw 43 rfl) (argsL := [(.long s3), (.long s1)]) (S := []) (au7_24 hw _ _ t1 t2 t3 s1 s2 s3 _) rfl rfl rfl rfl rfl rfl (Nat.le_of_ble_eq_true rfl) (Nat.le_of_ble_eq_true rfl) ?_
    rintro _ _ _ (⟨q103, q104, rfl, rfl, rfl⟩ | ⟨q105, q106, rfl, rfl, rfl⟩ | ⟨q107, rfl, rfl, rfl⟩)
    · skip
      show WGo _ (31, [wR 2, wR 0, wI 0], [.int 1], [(.inr (cn0, [(fk0, (.long t1)), (fk1, .null), (fk2, .null), (fk3, (.long s1))])), (.inr (cn0, [(fk0, (.long t2)), (fk1, .null), (fk2, .null), (fk3, (.long s2))])), (.inr (cn0, [(fk0, (.long t3)), (fk1, .null), (fk2, .null), (fk3, (.long s3))])), (.inr (cn1, [(fk4, .ref 4), (fk5, .int 3)])), (.inl ((.object "com/example/chronogate/chronogate/Event"), [.ref 0, .ref 1, .null, .null, .null, .null, .null, .null]))], u) _
      refine .ireturn .int a6_31 rfl (by simp) ?_
      exact Or.inr (Or.inl ⟨q100, q101, q103, q104, rfl, rfl, rfl⟩)
    · skip
      show WGo _ (31, [wR 2, wR 0, wI 0], [.int 0], [(.inr (cn0, [(fk0, (.long t1)), (fk1, .null), (fk2, .null), (fk3, (.long s1))])), (.inr (cn0, [(fk0, (.long t2)), (fk1, .null), (fk2, .null), (fk3, (.long s2))])), (.inr (cn0, [(fk0, (.long t3)), (fk1, .null), (fk2, .null), (fk3, (.long s3))])), (.inr (cn1, [(fk4, .ref 4), (fk5, .int 3)])), (.inl ((.object "com/example/chronogate/chronogate/Event"), [.ref 0, .ref 1, .null, .null, .null, .null, .null, .null]))], u) _
      refine .ireturn .int a6_31 rfl (by simp) ?_
      exact Or.inr (Or.inr (Or.inl ⟨q100, q101, q105, q106, rfl, rfl, rfl⟩))
    · skip
      show WGo _ (31, [wR 2, wR 0, wI 0], [.int (-1)], [(.inr (cn0, [(fk0, (.long t1)), (fk1, .null), (fk2, .null), (fk3, (.long s1))])), (.inr (cn0, [(fk0, (.long t2)), (fk1, .null), (fk2, .null), (fk3, (.long s2))])), (.inr (cn0, [(fk0, (.long t3)), (fk1, .null), (fk2, .null), (fk3, (.long s3))])), (.inr (cn1, [(fk4, .ref 4), (fk5, .int 3)])), (.inl ((.object "com/example/chronogate/chronogate/Event"), [.ref 0, .ref 1, .null, .null, .null, .null, .null, .null]))], u) _
      refine .ireturn .int a6_31 rfl (by simp) ?_
      exact Or.inr (Or.inr (Or.inr (Or.inl ⟨q100, q101, q107, rfl, rfl, rfl⟩)))
  · skip
    show WGo _ (11, [wR 2, wR 0, wU], [.int (-1)], [(.inr (cn0, [(fk0, (.long t1)), (fk1, .null), (fk2, .null), (fk3, (.long s1))])), (.inr (cn0, [(fk0, (.long t2)), (fk1, .null), (fk2, .null), (fk3, (.long s2))])), (.inr (cn0, [(fk0, (.long t3)), (fk1, .null), (fk2, .null), (fk3, (.long s3))])), (.inr (cn1, [(fk4, .ref 4), (fk5, .int 3)])), (.inl ((.object "com/example/chronogate/chronogate/Event"), [.ref 0, .ref 1, .null, .null, .null, .null, .null, .null]))], u) _
    refine .s (.istoreN (L' := [wR 2, wR 0, wI (-1)]) a6_11 rfl) <| .s (.iloadN a6_12 rfl) <| .s (.ifF a6_13 (by decide)) <| .s (.iloadN a6_16 rfl) <| .s (.goto a6_17) ?_
    refine .ireturn .int a6_31 rfl (by simp) ?_
    exact Or.inr (Or.inr (Or.inr (Or.inr (⟨q102, rfl, rfl, rfl⟩))))
set_option maxHeartbeats 4000000 in
theorem au5_21 {Z : State} {a0 : Array Value} (hw : ∀ d ∈ tables_1, d.before a0 Z = true) (ρ : Nat → Nat) (n0 : Nat) (t1 : Int64) (t2 : Int64) (t3 : Int64) (s1 : Int64) (s2 : Int64) (s3 : Int64) (u : Nat) : WGo (g5 Z ρ n0 5 u) (0, [wR 3, wR 2, wU, wU], [], [(.inr (cn0, [(fk0, (.long t1)), (fk1, .null), (fk2, .null), (fk3, (.long s1))])), (.inr (cn0, [(fk0, (.long t2)), (fk1, .null), (fk2, .null), (fk3, (.long s2))])), (.inr (cn0, [(fk0, (.long t3)), (fk1, .null), (fk2, .null), (fk3, (.long s3))])), (.inr (cn1, [(fk4, .ref 4), (fk5, .int 2)])), (.inl ((.object "com/example/chronogate/chronogate/Event"), [.ref 0, .ref 1, .null, .null, .null, .null, .null, .null]))], u) (fun v σ' u' => (¬ t3 < t1 ∧ ¬ t3 = t1 ∧ v = none ∧ [(.inr (cn0, [(fk0, (.long t1)), (fk1, .null), (fk2, .null), (fk3, (.long s1))])), (.inr (cn0, [(fk0, (.long t2)), (fk1, .null), (fk2, .null), (fk3, (.long s2))])), (.inr (cn0, [(fk0, (.long t3)), (fk1, .null), (fk2, .null), (fk3, (.long s3))])), (.inr (cn1, [(fk4, .ref 4), (fk5, .int 3)])), (.inl ((.object "com/example/chronogate/chronogate/Event"), [.ref 0, .ref 1, .ref 2, .null, .null, .null, .null, .null]))] = σ' ∧ u = u') ∨ (¬ t3 < t1 ∧ t3 = t1 ∧ ¬ s3 < s1 ∧ ¬ s3 = s1 ∧ v = none ∧ [(.inr (cn0, [(fk0, (.long t1)), (fk1, .null), (fk2, .null), (fk3, (.long s1))])), (.inr (cn0, [(fk0, (.long t2)), (fk1, .null), (fk2, .null), (fk3, (.long s2))])), (.inr (cn0, [(fk0, (.long t3)), (fk1, .null), (fk2, .null), (fk3, (.long s3))])), (.inr (cn1, [(fk4, .ref 4), (fk5, .int 3)])), (.inl ((.object "com/example/chronogate/chronogate/Event"), [.ref 0, .ref 1, .ref 2, .null, .null, .null, .null, .null]))] = σ' ∧ u = u') ∨ (¬ t3 < t1 ∧ t3 = t1 ∧ ¬ s3 < s1 ∧ s3 = s1 ∧ v = none ∧ [(.inr (cn0, [(fk0, (.long t1)), (fk1, .null), (fk2, .null), (fk3, (.long s1))])), (.inr (cn0, [(fk0, (.long t2)), (fk1, .null), (fk2, .null), (fk3, (.long s2))])), (.inr (cn0, [(fk0, (.long t3)), (fk1, .null), (fk2, .null), (fk3, (.long s3))])), (.inr (cn1, [(fk4, .ref 4), (fk5, .int 3)])), (.inl ((.object "com/example/chronogate/chronogate/Event"), [.ref 0, .ref 1, .ref 2, .null, .null, .null, .null, .null]))] = σ' ∧ u = u') ∨ (¬ t3 < t1 ∧ t3 = t1 ∧ s3 < s1 ∧ v = none ∧ [(.inr (cn0, [(fk0, (.long t1)), (fk1, .null), (fk2, .null), (fk3, (.long s1))])), (.inr (cn0, [(fk0, (.long t2)), (fk1, .null), (fk2, .null), (fk3, (.long s2))])), (.inr (cn0, [(fk0, (.long t3)), (fk1, .null), (fk2, .null), (fk3, (.long s3))])), (.inr (cn1, [(fk4, .ref 4), (fk5, .int 3)])), (.inl ((.object "com/example/chronogate/chronogate/Event"), [.ref 2, .ref 1, .ref 0, .null, .null, .null, .null, .null]))] = σ' ∧ u = u') ∨ (t3 < t1 ∧ v = none ∧ [(.inr (cn0, [(fk0, (.long t1)), (fk1, .null), (fk2, .null), (fk3, (.long s1))])), (.inr (cn0, [(fk0, (.long t2)), (fk1, .null), (fk2, .null), (fk3, (.long s2))])), (.inr (cn0, [(fk0, (.long t3)), (fk1, .null), (fk2, .null), (fk3, (.long s3))])), (.inr (cn1, [(fk4, .ref 4), (fk5, .int 3)])), (.inl ((.object "com/example/chronogate/chronogate/Event"), [.ref 2, .ref 1, .ref 0, .null, .null, .null, .null, .null]))] = σ' ∧ u = u')) := by
  refine .s (.aloadN a5_0 rfl rfl) <| .s (.getF 1 a5_1 (wd hw 36 rfl) rfl rfl) <| .s (.aloadN a5_4 rfl rfl) <| .s (.getF 0 a5_5 (wd hw 29 rfl) rfl rfl) <| .s (.alen (8 : Int32) a5_8 rfl rfl) <| .s (.icmpT a5_9 (by decide)) <| .s (.aloadN a5_32 rfl rfl) ?_
  refine .s (.dup a5_33 rfl) <| .s (.getF 1 a5_34 (wd hw 36 rfl) rfl rfl) <| .s (.dupX1 a5_37 rfl rfl) <| .s (.iconst (1 : Int32) a5_38 rfl) <| .s (.iadd a5_39) ?_
  show WGo _ (40, [wR 3, wR 2, wU, wU], [.int 3, .ref 3, .int 2], [(.inr (cn0, [(fk0, (.long t1)), (fk1, .null), (fk2, .null), (fk3, (.long s1))])), (.inr (cn0, [(fk0, (.long t2)), (fk1, .null), (fk2, .null), (fk3, (.long s2))])), (.inr (cn0, [(fk0, (.long t3)), (fk1, .null), (fk2, .null), (fk3, (.long s3))])), (.inr (cn1, [(fk4, .ref 4), (fk5, .int 2)])), (.inl ((.object "com/example/chronogate/chronogate/Event"), [.ref 0, .ref 1, .null, .null, .null, .null, .null, .null]))], u) _
  refine .s (.putF (ty := .int) 1 (.int 3) a5_40 (wd hw 36 rfl) rfl rfl (Or.inl (wd hw 37 rfl)) (wd hw 18 rfl) (by decide) rfl rfl) ?_
  show WGo _ (43, [wR 3, wR 2, wU, wU], [.int 2], [(.inr (cn0, [(fk0, (.long t1)), (fk1, .null), (fk2, .null), (fk3, (.long s1))])), (.inr (cn0, [(fk0, (.long t2)), (fk1, .null), (fk2, .null), (fk3, (.long s2))])), (.inr (cn0, [(fk0, (.long t3)), (fk1, .null), (fk2, .null), (fk3, (.long s3))])), (.inr (cn1, [(fk4, .ref 4), (fk5, .int 3)])), (.inl ((.object "com/example/chronogate/chronogate/Event"), [.ref 0, .ref 1, .null, .null, .null, .null, .null, .null]))], u) _
  refine .s (.istoreN (L' := [wR 3, wR 2, wI 2, wU]) a5_43 rfl) <| .s (.iloadN a5_44 rfl) <| .s (.ifF a5_45 (by decide)) <| .s (.iloadN a5_48 rfl) <| .s (.iconst (1 : Int32) a5_49 rfl) <| .s (.isub a5_50) ?_
  show WGo _ (51, [wR 3, wR 2, wI 2, wU], [.int 1], [(.inr (cn0, [(fk0, (.long t1)), (fk1, .null), (fk2, .null), (fk3, (.long s1))])), (.inr (cn0, [(fk0, (.long t2)), (fk1, .null), (fk2, .null), (fk3, (.long s2))])), (.inr (cn0, [(fk0, (.long t3)), (fk1, .null), (fk2, .null), (fk3, (.long s3))])), (.inr (cn1, [(fk4, .ref 4), (fk5, .int 3)])), (.inl ((.object "com/example/chronogate/chronogate/Event"), [.ref 0, .ref 1, .null, .null, .null, .null, .null, .null]))], u) _
  refine .s (.iconst (2 : Int32) a5_51 rfl) <| .s (.idiv a5_52 (by decide)) ?_
  show WGo _ (53, [wR 3, wR 2, wI 2, wU], [.int 0], [(.inr (cn0, [(fk0, (.long t1)), (fk1, .null), (fk2, .null), (fk3, (.long s1))])), (.inr (cn0, [(fk0, (.long t2)), (fk1, .null), (fk2, .null), (fk3, (.long s2))])), (.inr (cn0, [(fk0, (.long t3)), (fk1, .null), (fk2, .null), (fk3, (.long s3))])), (.inr (cn1, [(fk4, .ref 4), (fk5, .int 3)])), (.inl ((.object "com/example/chronogate/chronogate/Event"), [.ref 0, .ref 1, .null, .null, .null, .null, .null, .null]))], u) _
  refine .s (.istoreN (L' := [wR 3, wR 2, wI 2, wI 0]) a5_53 rfl) <| .s (.aloadN a5_54 rfl rfl) <| .s (.aloadN a5_55 rfl rfl) <| .s (.getF 0 a5_56 (wd hw 29 rfl) rfl rfl) <| .s (.iloadN a5_59 rfl) <| .s (.aaload 0 a5_60 rfl rfl (by decide) rfl rfl) ?_
  refine .callS a5_61 (ok6 hw _ _ _ _) (wd hw 39 rfl) (wd hw 40 rfl) (argsL := [.ref 2, .ref 0]) (S := []) (au6_22 hw _ _ t1 t2 t3 s1 s2 s3 _) rfl rfl rfl rfl rfl rfl (Nat.le_of_ble_eq_true rfl) (Nat.le_of_ble_eq_true rfl) ?_
  rintro _ _ _ (⟨q108, q109, rfl, rfl, rfl⟩ | ⟨q110, q111, q112, q113, rfl, rfl, rfl⟩ | ⟨q114, q115, q116, q117, rfl, rfl, rfl⟩ | ⟨q118, q119, q120, rfl, rfl, rfl⟩ | ⟨q121, rfl, rfl, rfl⟩)
  · skip
    show WGo _ (64, [wR 3, wR 2, wI 2, wI 0], [.int 1], [(.inr (cn0, [(fk0, (.long t1)), (fk1, .null), (fk2, .null), (fk3, (.long s1))])), (.inr (cn0, [(fk0, (.long t2)), (fk1, .null), (fk2, .null), (fk3, (.long s2))])), (.inr (cn0, [(fk0, (.long t3)), (fk1, .null), (fk2, .null), (fk3, (.long s3))])), (.inr (cn1, [(fk4, .ref 4), (fk5, .int 3)])), (.inl ((.object "com/example/chronogate/chronogate/Event"), [.ref 0, .ref 1, .null, .null, .null, .null, .null, .null]))], u) _
    refine .s (.ifF a5_64 (by decide)) <| .s (.goto a5_67) <| .s (.aloadN a5_87 rfl rfl) <| .s (.getF 0 a5_88 (wd hw 29 rfl) rfl rfl) <| .s (.iloadN a5_91 rfl) <| .s (.aloadN a5_92 rfl rfl) <| .s (.aastore 2 a5_93 rfl rfl (by decide) rfl (Nat.le_of_ble_eq_true rfl)) ?_
    show WGo _ (94, [wR 3, wR 2, wI 2, wI 0], [], [(.inr (cn0, [(fk0, (.long t1)), (fk1, .null), (fk2, .null), (fk3, (.long s1))])), (.inr (cn0, [(fk0, (.long t2)), (fk1, .null), (fk2, .null), (fk3, (.long s2))])), (.inr (cn0, [(fk0, (.long t3)), (fk1, .null), (fk2, .null), (fk3, (.long s3))])), (.inr (cn1, [(fk4, .ref 4), (fk5, .int 3)])), (.inl ((.object "com/example/chronogate/chronogate/Event"), [.ref 0, .ref 1, .ref 2, .null, .null, .null, .null, .null]))], u) _
    refine .vreturn a5_94 rfl ?_
    exact Or.inl ⟨q108, q109, rfl, rfl, rfl⟩
  · skip
    show WGo _ (64, [wR 3, wR 2, wI 2, wI 0], [.int 1], [(.inr (cn0, [(fk0, (.long t1)), (fk1, .null), (fk2, .null), (fk3, (.long s1))])), (.inr (cn0, [(fk0, (.long t2)), (fk1, .null), (fk2, .null), (fk3, (.long s2))])), (.inr (cn0, [(fk0, (.long t3)), (fk1, .null), (fk2, .null), (fk3, (.long s3))])), (.inr (cn1, [(fk4, .ref 4), (fk5, .int 3)])), (.inl ((.object "com/example/chronogate/chronogate/Event"), [.ref 0, .ref 1, .null, .null, .null, .null, .null, .null]))], u) _
    refine .s (.ifF a5_64 (by decide)) <| .s (.goto a5_67) <| .s (.aloadN a5_87 rfl rfl) <| .s (.getF 0 a5_88 (wd hw 29 rfl) rfl rfl) <| .s (.iloadN a5_91 rfl) <| .s (.aloadN a5_92 rfl rfl) <| .s (.aastore 2 a5_93 rfl rfl (by decide) rfl (Nat.le_of_ble_eq_true rfl)) ?_
    show WGo _ (94, [wR 3, wR 2, wI 2, wI 0], [], [(.inr (cn0, [(fk0, (.long t1)), (fk1, .null), (fk2, .null), (fk3, (.long s1))])), (.inr (cn0, [(fk0, (.long t2)), (fk1, .null), (fk2, .null), (fk3, (.long s2))])), (.inr (cn0, [(fk0, (.long t3)), (fk1, .null), (fk2, .null), (fk3, (.long s3))])), (.inr (cn1, [(fk4, .ref 4), (fk5, .int 3)])), (.inl ((.object "com/example/chronogate/chronogate/Event"), [.ref 0, .ref 1, .ref 2, .null, .null, .null, .null, .null]))], u) _
    refine .vreturn a5_94 rfl ?_
    exact Or.inr (Or.inl ⟨q110, q111, q112, q113, rfl, rfl, rfl⟩)
  · skip
    show WGo _ (64, [wR 3, wR 2, wI 2, wI 0], [.int 0], [(.inr (cn0, [(fk0, (.long t1)), (fk1, .null), (fk2, .null), (fk3, (.long s1))])), (.inr (cn0, [(fk0, (.long t2)), (fk1, .null), (fk2, .null), (fk3, (.long s2))])), (.inr (cn0, [(fk0, (.long t3)), (fk1, .null), (fk2, .null), (fk3, (.long s3))])), (.inr (cn1, [(fk4, .ref 4), (fk5, .int 3)])), (.inl ((.object "com/example/chronogate/chronogate/Event"), [.ref 0, .ref 1, .null, .null, .null, .null, .null, .null]))], u) _
    refine .s (.ifF a5_64 (by decide)) <| .s (.goto a5_67) <| .s (.aloadN a5_87 rfl rfl) <| .s (.getF 0 a5_88 (wd hw 29 rfl) rfl rfl) <| .s (.iloadN a5_91 rfl) <| .s (.aloadN a5_92 rfl rfl) <| .s (.aastore 2 a5_93 rfl rfl (by decide) rfl (Nat.le_of_ble_eq_true rfl)) ?_
    show WGo _ (94, [wR 3, wR 2, wI 2, wI 0], [], [(.inr (cn0, [(fk0, (.long t1)), (fk1, .null), (fk2, .null), (fk3, (.long s1))])), (.inr (cn0, [(fk0, (.long t2)), (fk1, .null), (fk2, .null), (fk3, (.long s2))])), (.inr (cn0, [(fk0, (.long t3)), (fk1, .null), (fk2, .null), (fk3, (.long s3))])), (.inr (cn1, [(fk4, .ref 4), (fk5, .int 3)])), (.inl ((.object "com/example/chronogate/chronogate/Event"), [.ref 0, .ref 1, .ref 2, .null, .null, .null, .null, .null]))], u) _
    refine .vreturn a5_94 rfl ?_
    exact Or.inr (Or.inr (Or.inl ⟨q114, q115, q116, q117, rfl, rfl, rfl⟩))
  · skip
    show WGo _ (64, [wR 3, wR 2, wI 2, wI 0], [.int (-1)], [(.inr (cn0, [(fk0, (.long t1)), (fk1, .null), (fk2, .null), (fk3, (.long s1))])), (.inr (cn0, [(fk0, (.long t2)), (fk1, .null), (fk2, .null), (fk3, (.long s2))])), (.inr (cn0, [(fk0, (.long t3)), (fk1, .null), (fk2, .null), (fk3, (.long s3))])), (.inr (cn1, [(fk4, .ref 4), (fk5, .int 3)])), (.inl ((.object "com/example/chronogate/chronogate/Event"), [.ref 0, .ref 1, .null, .null, .null, .null, .null, .null]))], u) _
    refine .s (.ifT a5_64 (by decide)) <| .s (.aloadN a5_70 rfl rfl) <| .s (.getF 0 a5_71 (wd hw 29 rfl) rfl rfl) <| .s (.iloadN a5_74 rfl) <| .s (.aloadN a5_75 rfl rfl) <| .s (.getF 0 a5_76 (wd hw 29 rfl) rfl rfl) <| .s (.iloadN a5_79 rfl) ?_
    refine .s (.aaload 0 a5_80 rfl rfl (by decide) rfl rfl) <| .s (.aastore 2 a5_81 rfl rfl (by decide) rfl (Nat.le_of_ble_eq_true rfl)) ?_
    show WGo _ (82, [wR 3, wR 2, wI 2, wI 0], [], [(.inr (cn0, [(fk0, (.long t1)), (fk1, .null), (fk2, .null), (fk3, (.long s1))])), (.inr (cn0, [(fk0, (.long t2)), (fk1, .null), (fk2, .null), (fk3, (.long s2))])), (.inr (cn0, [(fk0, (.long t3)), (fk1, .null), (fk2, .null), (fk3, (.long s3))])), (.inr (cn1, [(fk4, .ref 4), (fk5, .int 3)])), (.inl ((.object "com/example/chronogate/chronogate/Event"), [.ref 0, .ref 1, .ref 0, .null, .null, .null, .null, .null]))], u) _
    refine .s (.iloadN a5_82 rfl) <| .s (.istoreN (L' := [wR 3, wR 2, wI 0, wI 0]) a5_83 rfl) <| .s (.goto a5_84) <| .s (.iloadN a5_44 rfl) <| .s (.ifT a5_45 (by decide)) <| .s (.aloadN a5_87 rfl rfl) <| .s (.getF 0 a5_88 (wd hw 29 rfl) rfl rfl) ?_
    refine .s (.iloadN a5_91 rfl) <| .s (.aloadN a5_92 rfl rfl) <| .s (.aastore 0 a5_93 rfl rfl (by decide) rfl (Nat.le_of_ble_eq_true rfl)) ?_
    show WGo _ (94, [wR 3, wR 2, wI 0, wI 0], [], [(.inr (cn0, [(fk0, (.long t1)), (fk1, .null), (fk2, .null), (fk3, (.long s1))])), (.inr (cn0, [(fk0, (.long t2)), (fk1, .null), (fk2, .null), (fk3, (.long s2))])), (.inr (cn0, [(fk0, (.long t3)), (fk1, .null), (fk2, .null), (fk3, (.long s3))])), (.inr (cn1, [(fk4, .ref 4), (fk5, .int 3)])), (.inl ((.object "com/example/chronogate/chronogate/Event"), [.ref 2, .ref 1, .ref 0, .null, .null, .null, .null, .null]))], u) _
    refine .vreturn a5_94 rfl ?_
    exact Or.inr (Or.inr (Or.inr (Or.inl ⟨q118, q119, q120, rfl, rfl, rfl⟩)))
  · skip
    show WGo _ (64, [wR 3, wR 2, wI 2, wI 0], [.int (-1)], [(.inr (cn0, [(fk0, (.long t1)), (fk1, .null), (fk2, .null), (fk3, (.long s1))])), (.inr (cn0, [(fk0, (.long t2)), (fk1, .null), (fk2, .null), (fk3, (.long s2))])), (.inr (cn0, [(fk0, (.long t3)), (fk1, .null), (fk2, .null), (fk3, (.long s3))])), (.inr (cn1, [(fk4, .ref 4), (fk5, .int 3)])), (.inl ((.object "com/example/chronogate/chronogate/Event"), [.ref 0, .ref 1, .null, .null, .null, .null, .null, .null]))], u) _
    refine .s (.ifT a5_64 (by decide)) <| .s (.aloadN a5_70 rfl rfl) <| .s (.getF 0 a5_71 (wd hw 29 rfl) rfl rfl) <| .s (.iloadN a5_74 rfl) <| .s (.aloadN a5_75 rfl rfl) <| .s (.getF 0 a5_76 (wd hw 29 rfl) rfl rfl) <| .s (.iloadN a5_79 rfl) ?_
    refine .s (.aaload 0 a5_80 rfl rfl (by decide) rfl rfl) <| .s (.aastore 2 a5_81 rfl rfl (by decide) rfl (Nat.le_of_ble_eq_true rfl)) ?_
    show WGo _ (82, [wR 3, wR 2, wI 2, wI 0], [], [(.inr (cn0, [(fk0, (.long t1)), (fk1, .null), (fk2, .null), (fk3, (.long s1))])), (.inr (cn0, [(fk0, (.long t2)), (fk1, .null), (fk2, .null), (fk3, (.long s2))])), (.inr (cn0, [(fk0, (.long t3)), (fk1, .null), (fk2, .null), (fk3, (.long s3))])), (.inr (cn1, [(fk4, .ref 4), (fk5, .int 3)])), (.inl ((.object "com/example/chronogate/chronogate/Event"), [.ref 0, .ref 1, .ref 0, .null, .null, .null, .null, .null]))], u) _
    refine .s (.iloadN a5_82 rfl) <| .s (.istoreN (L' := [wR 3, wR 2, wI 0, wI 0]) a5_83 rfl) <| .s (.goto a5_84) <| .s (.iloadN a5_44 rfl) <| .s (.ifT a5_45 (by decide)) <| .s (.aloadN a5_87 rfl rfl) <| .s (.getF 0 a5_88 (wd hw 29 rfl) rfl rfl) ?_
    refine .s (.iloadN a5_91 rfl) <| .s (.aloadN a5_92 rfl rfl) <| .s (.aastore 0 a5_93 rfl rfl (by decide) rfl (Nat.le_of_ble_eq_true rfl)) ?_
    show WGo _ (94, [wR 3, wR 2, wI 0, wI 0], [], [(.inr (cn0, [(fk0, (.long t1)), (fk1, .null), (fk2, .null), (fk3, (.long s1))])), (.inr (cn0, [(fk0, (.long t2)), (fk1, .null), (fk2, .null), (fk3, (.long s2))])), (.inr (cn0, [(fk0, (.long t3)), (fk1, .null), (fk2, .null), (fk3, (.long s3))])), (.inr (cn1, [(fk4, .ref 4), (fk5, .int 3)])), (.inl ((.object "com/example/chronogate/chronogate/Event"), [.ref 2, .ref 1, .ref 0, .null, .null, .null, .null, .null]))], u) _
    refine .vreturn a5_94 rfl ?_
    exact Or.inr (Or.inr (Or.inr (Or.inr (⟨q121, rfl, rfl, rfl⟩))))
set_option maxHeartbeats 4000000 in
theorem au8_25 {Z : State} {a0 : Array Value} (hw : ∀ d ∈ tables_1, d.before a0 Z = true) (ρ : Nat → Nat) (n0 : Nat) (t1 : Int64) (t2 : Int64) (t3 : Int64) (s1 : Int64) (s2 : Int64) (s3 : Int64) (u : Nat) : WGo (g8 Z ρ n0 5 u) (0, [wJ t2, wS, wJ s2, wS, wJ t1, wS, wJ s1, wS], [], [(.inr (cn0, [(fk0, (.long t1)), (fk1, .null), (fk2, .null), (fk3, (.long s1))])), (.inr (cn0, [(fk0, (.long t2)), (fk1, .null), (fk2, .null), (fk3, (.long s2))])), (.inr (cn0, [(fk0, (.long t3)), (fk1, .null), (fk2, .null), (fk3, (.long s3))])), (.inr (cn1, [(fk4, .ref 4), (fk5, .int 3)])), (.inl ((.object "com/example/chronogate/chronogate/Event"), [.ref 0, .ref 1, .ref 2, .null, .null, .null, .null, .null]))], u) (fun v σ' u' => (¬ t2 < t1 ∧ ¬ t1 < t2 ∧ ¬ s2 < s1 ∧ v = some (.int 0) ∧ [(.inr (cn0, [(fk0, (.long t1)), (fk1, .null), (fk2, .null), (fk3, (.long s1))])), (.inr (cn0, [(fk0, (.long t2)), (fk1, .null), (fk2, .null), (fk3, (.long s2))])), (.inr (cn0, [(fk0, (.long t3)), (fk1, .null), (fk2, .null), (fk3, (.long s3))])), (.inr (cn1, [(fk4, .ref 4), (fk5, .int 3)])), (.inl ((.object "com/example/chronogate/chronogate/Event"), [.ref 0, .ref 1, .ref 2, .null, .null, .null, .null, .null]))] = σ' ∧ u = u') ∨ (¬ t2 < t1 ∧ ¬ t1 < t2 ∧ s2 < s1 ∧ v = some (.int 1) ∧ [(.inr (cn0, [(fk0, (.long t1)), (fk1, .null), (fk2, .null), (fk3, (.long s1))])), (.inr (cn0, [(fk0, (.long t2)), (fk1, .null), (fk2, .null), (fk3, (.long s2))])), (.inr (cn0, [(fk0, (.long t3)), (fk1, .null), (fk2, .null), (fk3, (.long s3))])), (.inr (cn1, [(fk4, .ref 4), (fk5, .int 3)])), (.inl ((.object "com/example/chronogate/chronogate/Event"), [.ref 0, .ref 1, .ref 2, .null, .null, .null, .null, .null]))] = σ' ∧ u = u') ∨ (¬ t2 < t1 ∧ t1 < t2 ∧ v = some (.int 0) ∧ [(.inr (cn0, [(fk0, (.long t1)), (fk1, .null), (fk2, .null), (fk3, (.long s1))])), (.inr (cn0, [(fk0, (.long t2)), (fk1, .null), (fk2, .null), (fk3, (.long s2))])), (.inr (cn0, [(fk0, (.long t3)), (fk1, .null), (fk2, .null), (fk3, (.long s3))])), (.inr (cn1, [(fk4, .ref 4), (fk5, .int 3)])), (.inl ((.object "com/example/chronogate/chronogate/Event"), [.ref 0, .ref 1, .ref 2, .null, .null, .null, .null, .null]))] = σ' ∧ u = u') ∨ (t2 < t1 ∧ v = some (.int 1) ∧ [(.inr (cn0, [(fk0, (.long t1)), (fk1, .null), (fk2, .null), (fk3, (.long s1))])), (.inr (cn0, [(fk0, (.long t2)), (fk1, .null), (fk2, .null), (fk3, (.long s2))])), (.inr (cn0, [(fk0, (.long t3)), (fk1, .null), (fk2, .null), (fk3, (.long s3))])), (.inr (cn1, [(fk4, .ref 4), (fk5, .int 3)])), (.inl ((.object "com/example/chronogate/chronogate/Event"), [.ref 0, .ref 1, .ref 2, .null, .null, .null, .null, .null]))] = σ' ∧ u = u')) := by
  refine .s (.lloadN a8_0 rfl) <| .s (.lload a8_1 rfl) <| .s (.lcmp a8_3) ?_
  refine .geL a8_4 (fun h4 => ?_) (fun h4 => ?_)
  · refine .s (.lloadN a8_9 rfl) <| .s (.lload a8_10 rfl) <| .s (.lcmp a8_12) ?_
    refine .leL a8_13 (fun h13 => ?_) (fun h13 => ?_)
    · refine .s (.lloadN a8_18 rfl) <| .s (.lload a8_19 rfl) <| .s (.lcmp a8_21) ?_
      refine .geL a8_22 (fun h22 => ?_) (fun h22 => ?_)
      · refine .s (.iconst (0 : Int32) a8_29 rfl) ?_
        refine .ireturn .boolean a8_30 rfl (by simp) ?_
        exact Or.inl ⟨h4, h13, h22, rfl, rfl, rfl⟩
      · refine .s (.iconst (1 : Int32) a8_25 rfl) <| .s (.goto a8_26) ?_
        refine .ireturn .boolean a8_30 rfl (by simp) ?_
        exact Or.inr (Or.inl ⟨h4, h13, h22, rfl, rfl, rfl⟩)
    · refine .s (.iconst (0 : Int32) a8_16 rfl) ?_
      refine .ireturn .boolean a8_17 rfl (by simp) ?_
      exact Or.inr (Or.inr (Or.inl ⟨h4, h13, rfl, rfl, rfl⟩))
  · refine .s (.iconst (1 : Int32) a8_7 rfl) ?_
    refine .ireturn .boolean a8_8 rfl (by simp) ?_
    exact Or.inr (Or.inr (Or.inr (⟨h4, rfl, rfl, rfl⟩)))
set_option maxHeartbeats 4000000 in
theorem au8_26 {Z : State} {a0 : Array Value} (hw : ∀ d ∈ tables_1, d.before a0 Z = true) (ρ : Nat → Nat) (n0 : Nat) (t1 : Int64) (t2 : Int64) (t3 : Int64) (s1 : Int64) (s2 : Int64) (s3 : Int64) (u : Nat) : WGo (g8 Z ρ n0 5 u) (0, [wJ t3, wS, wJ s3, wS, wJ t1, wS, wJ s1, wS], [], [(.inr (cn0, [(fk0, (.long t1)), (fk1, .null), (fk2, .null), (fk3, (.long s1))])), (.inr (cn0, [(fk0, (.long t2)), (fk1, .null), (fk2, .null), (fk3, (.long s2))])), (.inr (cn0, [(fk0, (.long t3)), (fk1, .null), (fk2, .null), (fk3, (.long s3))])), (.inr (cn1, [(fk4, .ref 4), (fk5, .int 3)])), (.inl ((.object "com/example/chronogate/chronogate/Event"), [.ref 0, .ref 1, .ref 2, .null, .null, .null, .null, .null]))], u) (fun v σ' u' => (¬ t3 < t1 ∧ ¬ t1 < t3 ∧ ¬ s3 < s1 ∧ v = some (.int 0) ∧ [(.inr (cn0, [(fk0, (.long t1)), (fk1, .null), (fk2, .null), (fk3, (.long s1))])), (.inr (cn0, [(fk0, (.long t2)), (fk1, .null), (fk2, .null), (fk3, (.long s2))])), (.inr (cn0, [(fk0, (.long t3)), (fk1, .null), (fk2, .null), (fk3, (.long s3))])), (.inr (cn1, [(fk4, .ref 4), (fk5, .int 3)])), (.inl ((.object "com/example/chronogate/chronogate/Event"), [.ref 0, .ref 1, .ref 2, .null, .null, .null, .null, .null]))] = σ' ∧ u = u') ∨ (¬ t3 < t1 ∧ ¬ t1 < t3 ∧ s3 < s1 ∧ v = some (.int 1) ∧ [(.inr (cn0, [(fk0, (.long t1)), (fk1, .null), (fk2, .null), (fk3, (.long s1))])), (.inr (cn0, [(fk0, (.long t2)), (fk1, .null), (fk2, .null), (fk3, (.long s2))])), (.inr (cn0, [(fk0, (.long t3)), (fk1, .null), (fk2, .null), (fk3, (.long s3))])), (.inr (cn1, [(fk4, .ref 4), (fk5, .int 3)])), (.inl ((.object "com/example/chronogate/chronogate/Event"), [.ref 0, .ref 1, .ref 2, .null, .null, .null, .null, .null]))] = σ' ∧ u = u') ∨ (¬ t3 < t1 ∧ t1 < t3 ∧ v = some (.int 0) ∧ [(.inr (cn0, [(fk0, (.long t1)), (fk1, .null), (fk2, .null), (fk3, (.long s1))])), (.inr (cn0, [(fk0, (.long t2)), (fk1, .null), (fk2, .null), (fk3, (.long s2))])), (.inr (cn0, [(fk0, (.long t3)), (fk1, .null), (fk2, .null), (fk3, (.long s3))])), (.inr (cn1, [(fk4, .ref 4), (fk5, .int 3)])), (.inl ((.object "com/example/chronogate/chronogate/Event"), [.ref 0, .ref 1, .ref 2, .null, .null, .null, .null, .null]))] = σ' ∧ u = u') ∨ (t3 < t1 ∧ v = some (.int 1) ∧ [(.inr (cn0, [(fk0, (.long t1)), (fk1, .null), (fk2, .null), (fk3, (.long s1))])), (.inr (cn0, [(fk0, (.long t2)), (fk1, .null), (fk2, .null), (fk3, (.long s2))])), (.inr (cn0, [(fk0, (.long t3)), (fk1, .null), (fk2, .null), (fk3, (.long s3))])), (.inr (cn1, [(fk4, .ref 4), (fk5, .int 3)])), (.inl ((.object "com/example/chronogate/chronogate/Event"), [.ref 0, .ref 1, .ref 2, .null, .null, .null, .null, .null]))] = σ' ∧ u = u')) := by
  refine .s (.lloadN a8_0 rfl) <| .s (.lload a8_1 rfl) <| .s (.lcmp a8_3) ?_
  refine .geL a8_4 (fun h4 => ?_) (fun h4 => ?_)
  · refine .s (.lloadN a8_9 rfl) <| .s (.lload a8_10 rfl) <| .s (.lcmp a8_12) ?_
    refine .leL a8_13 (fun h13 => ?_) (fun h13 => ?_)
    · refine .s (.lloadN a8_18 rfl) <| .s (.lload a8_19 rfl) <| .s (.lcmp a8_21) ?_
      refine .geL a8_22 (fun h22 => ?_) (fun h22 => ?_)
      · refine .s (.iconst (0 : Int32) a8_29 rfl) ?_
        refine .ireturn .boolean a8_30 rfl (by simp) ?_
        exact Or.inl ⟨h4, h13, h22, rfl, rfl, rfl⟩
      · refine .s (.iconst (1 : Int32) a8_25 rfl) <| .s (.goto a8_26) ?_
        refine .ireturn .boolean a8_30 rfl (by simp) ?_
        exact Or.inr (Or.inl ⟨h4, h13, h22, rfl, rfl, rfl⟩)
    · refine .s (.iconst (0 : Int32) a8_16 rfl) ?_
      refine .ireturn .boolean a8_17 rfl (by simp) ?_
      exact Or.inr (Or.inr (Or.inl ⟨h4, h13, rfl, rfl, rfl⟩))
  · refine .s (.iconst (1 : Int32) a8_7 rfl) ?_
    refine .ireturn .boolean a8_8 rfl (by simp) ?_
    exact Or.inr (Or.inr (Or.inr (⟨h4, rfl, rfl, rfl⟩)))
set_option maxHeartbeats 4000000 in
theorem au9_27 {Z : State} {a0 : Array Value} (hw : ∀ d ∈ tables_1, d.before a0 Z = true) (ρ : Nat → Nat) (n0 : Nat) (t1 : Int64) (t2 : Int64) (t3 : Int64) (s1 : Int64) (s2 : Int64) (s3 : Int64) (u : Nat) : WGo (g9 Z ρ n0 5 u) (0, [wR 3], [], [(.inr (cn0, [(fk0, (.long t1)), (fk1, .null), (fk2, .null), (fk3, (.long s1))])), (.inr (cn0, [(fk0, (.long t2)), (fk1, .null), (fk2, .null), (fk3, (.long s2))])), (.inr (cn0, [(fk0, (.long t3)), (fk1, .null), (fk2, .null), (fk3, (.long s3))])), (.inr (cn1, [(fk4, .ref 4), (fk5, .int 3)])), (.inl ((.object "com/example/chronogate/chronogate/Event"), [.ref 0, .ref 1, .ref 2, .null, .null, .null, .null, .null]))], u) (fun v σ' u' => v = some (.ref 0) ∧ [(.inr (cn0, [(fk0, (.long t1)), (fk1, .null), (fk2, .null), (fk3, (.long s1))])), (.inr (cn0, [(fk0, (.long t2)), (fk1, .null), (fk2, .null), (fk3, (.long s2))])), (.inr (cn0, [(fk0, (.long t3)), (fk1, .null), (fk2, .null), (fk3, (.long s3))])), (.inr (cn1, [(fk4, .ref 4), (fk5, .int 3)])), (.inl ((.object "com/example/chronogate/chronogate/Event"), [.ref 0, .ref 1, .ref 2, .null, .null, .null, .null, .null]))] = σ' ∧ u = u') := by
  refine .s (.aloadN a9_0 rfl rfl) <| .s (.getF 1 a9_1 (wd hw 36 rfl) rfl rfl) <| .s (.ifT a9_4 (by decide)) <| .s (.aloadN a9_11 rfl rfl) <| .s (.getF 0 a9_12 (wd hw 29 rfl) rfl rfl) <| .s (.iconst (0 : Int32) a9_15 rfl) <| .s (.aaload 0 a9_16 rfl rfl (by decide) rfl rfl) ?_
  refine .areturn (.object "com/example/chronogate/chronogate/Event") a9_17 rfl rfl rfl ?_
  exact ⟨rfl, rfl, rfl⟩
set_option maxHeartbeats 4000000 in
theorem au10_28 {Z : State} {a0 : Array Value} (hw : ∀ d ∈ tables_1, d.before a0 Z = true) (ρ : Nat → Nat) (n0 : Nat) (t1 : Int64) (t2 : Int64) (t3 : Int64) (s1 : Int64) (s2 : Int64) (s3 : Int64) (u : Nat) : WGo (g10 Z ρ n0 5 u) (0, [wR 3], [], [(.inr (cn0, [(fk0, (.long t1)), (fk1, .null), (fk2, .null), (fk3, (.long s1))])), (.inr (cn0, [(fk0, (.long t2)), (fk1, .null), (fk2, .null), (fk3, (.long s2))])), (.inr (cn0, [(fk0, (.long t3)), (fk1, .null), (fk2, .null), (fk3, (.long s3))])), (.inr (cn1, [(fk4, .ref 4), (fk5, .int 3)])), (.inl ((.object "com/example/chronogate/chronogate/Event"), [.ref 0, .ref 1, .ref 2, .null, .null, .null, .null, .null]))], u) (fun v σ' u' => v = some (.int 3) ∧ [(.inr (cn0, [(fk0, (.long t1)), (fk1, .null), (fk2, .null), (fk3, (.long s1))])), (.inr (cn0, [(fk0, (.long t2)), (fk1, .null), (fk2, .null), (fk3, (.long s2))])), (.inr (cn0, [(fk0, (.long t3)), (fk1, .null), (fk2, .null), (fk3, (.long s3))])), (.inr (cn1, [(fk4, .ref 4), (fk5, .int 3)])), (.inl ((.object "com/example/chronogate/chronogate/Event"), [.ref 0, .ref 1, .ref 2, .null, .null, .null, .null, .null]))] = σ' ∧ u = u') := by
  refine .s (.aloadN a10_0 rfl rfl) <| .s (.getF 1 a10_1 (wd hw 36 rfl) rfl rfl) ?_
  refine .ireturn .int a10_4 rfl (by simp) ?_
  exact ⟨rfl, rfl, rfl⟩
set_option maxHeartbeats 4000000 in
theorem au8_29 {Z : State} {a0 : Array Value} (hw : ∀ d ∈ tables_1, d.before a0 Z = true) (ρ : Nat → Nat) (n0 : Nat) (t1 : Int64) (t2 : Int64) (t3 : Int64) (s1 : Int64) (s2 : Int64) (s3 : Int64) (u : Nat) : WGo (g8 Z ρ n0 5 u) (0, [wJ t2, wS, wJ s2, wS, wJ t1, wS, wJ s1, wS], [], [(.inr (cn0, [(fk0, (.long t1)), (fk1, .null), (fk2, .null), (fk3, (.long s1))])), (.inr (cn0, [(fk0, (.long t2)), (fk1, .null), (fk2, .null), (fk3, (.long s2))])), (.inr (cn0, [(fk0, (.long t3)), (fk1, .null), (fk2, .null), (fk3, (.long s3))])), (.inr (cn1, [(fk4, .ref 4), (fk5, .int 3)])), (.inl ((.object "com/example/chronogate/chronogate/Event"), [.ref 2, .ref 1, .ref 0, .null, .null, .null, .null, .null]))], u) (fun v σ' u' => (¬ t2 < t1 ∧ ¬ t1 < t2 ∧ ¬ s2 < s1 ∧ v = some (.int 0) ∧ [(.inr (cn0, [(fk0, (.long t1)), (fk1, .null), (fk2, .null), (fk3, (.long s1))])), (.inr (cn0, [(fk0, (.long t2)), (fk1, .null), (fk2, .null), (fk3, (.long s2))])), (.inr (cn0, [(fk0, (.long t3)), (fk1, .null), (fk2, .null), (fk3, (.long s3))])), (.inr (cn1, [(fk4, .ref 4), (fk5, .int 3)])), (.inl ((.object "com/example/chronogate/chronogate/Event"), [.ref 2, .ref 1, .ref 0, .null, .null, .null, .null, .null]))] = σ' ∧ u = u') ∨ (¬ t2 < t1 ∧ ¬ t1 < t2 ∧ s2 < s1 ∧ v = some (.int 1) ∧ [(.inr (cn0, [(fk0, (.long t1)), (fk1, .null), (fk2, .null), (fk3, (.long s1))])), (.inr (cn0, [(fk0, (.long t2)), (fk1, .null), (fk2, .null), (fk3, (.long s2))])), (.inr (cn0, [(fk0, (.long t3)), (fk1, .null), (fk2, .null), (fk3, (.long s3))])), (.inr (cn1, [(fk4, .ref 4), (fk5, .int 3)])), (.inl ((.object "com/example/chronogate/chronogate/Event"), [.ref 2, .ref 1, .ref 0, .null, .null, .null, .null, .null]))] = σ' ∧ u = u') ∨ (¬ t2 < t1 ∧ t1 < t2 ∧ v = some (.int 0) ∧ [(.inr (cn0, [(fk0, (.long t1)), (fk1, .null), (fk2, .null), (fk3, (.long s1))])), (.inr (cn0, [(fk0, (.long t2)), (fk1, .null), (fk2, .null), (fk3, (.long s2))])), (.inr (cn0, [(fk0, (.long t3)), (fk1, .null), (fk2, .null), (fk3, (.long s3))])), (.inr (cn1, [(fk4, .ref 4), (fk5, .int 3)])), (.inl ((.object "com/example/chronogate/chronogate/Event"), [.ref 2, .ref 1, .ref 0, .null, .null, .null, .null, .null]))] = σ' ∧ u = u') ∨ (t2 < t1 ∧ v = some (.int 1) ∧ [(.inr (cn0, [(fk0, (.long t1)), (fk1, .null), (fk2, .null), (fk3, (.long s1))])), (.inr (cn0, [(fk0, (.long t2)), (fk1, .null), (fk2, .null), (fk3, (.long s2))])), (.inr (cn0, [(fk0, (.long t3)), (fk1, .null), (fk2, .null), (fk3, (.long s3))])), (.inr (cn1, [(fk4, .ref 4), (fk5, .int 3)])), (.inl ((.object "com/example/chronogate/chronogate/Event"), [.ref 2, .ref 1, .ref 0, .null, .null, .null, .null, .null]))] = σ' ∧ u = u')) := by
  refine .s (.lloadN a8_0 rfl) <| .s (.lload a8_1 rfl) <| .s (.lcmp a8_3) ?_
  refine .geL a8_4 (fun h4 => ?_) (fun h4 => ?_)
  · refine .s (.lloadN a8_9 rfl) <| .s (.lload a8_10 rfl) <| .s (.lcmp a8_12) ?_
    refine .leL a8_13 (fun h13 => ?_) (fun h13 => ?_)
    · refine .s (.lloadN a8_18 rfl) <| .s (.lload a8_19 rfl) <| .s (.lcmp a8_21) ?_
      refine .geL a8_22 (fun h22 => ?_) (fun h22 => ?_)
      · refine .s (.iconst (0 : Int32) a8_29 rfl) ?_
        refine .ireturn .boolean a8_30 rfl (by simp) ?_
        exact Or.inl ⟨h4, h13, h22, rfl, rfl, rfl⟩
      · refine .s (.iconst (1 : Int32) a8_25 rfl) <| .s (.goto a8_26) ?_
        refine .ireturn .boolean a8_30 rfl (by simp) ?_
        exact Or.inr (Or.inl ⟨h4, h13, h22, rfl, rfl, rfl⟩)
    · refine .s (.iconst (0 : Int32) a8_16 rfl) ?_
      refine .ireturn .boolean a8_17 rfl (by simp) ?_
      exact Or.inr (Or.inr (Or.inl ⟨h4, h13, rfl, rfl, rfl⟩))
  · refine .s (.iconst (1 : Int32) a8_7 rfl) ?_
    refine .ireturn .boolean a8_8 rfl (by simp) ?_
    exact Or.inr (Or.inr (Or.inr (⟨h4, rfl, rfl, rfl⟩)))
set_option maxHeartbeats 4000000 in
theorem au8_30 {Z : State} {a0 : Array Value} (hw : ∀ d ∈ tables_1, d.before a0 Z = true) (ρ : Nat → Nat) (n0 : Nat) (t1 : Int64) (t2 : Int64) (t3 : Int64) (s1 : Int64) (s2 : Int64) (s3 : Int64) (u : Nat) : WGo (g8 Z ρ n0 5 u) (0, [wJ t3, wS, wJ s3, wS, wJ t1, wS, wJ s1, wS], [], [(.inr (cn0, [(fk0, (.long t1)), (fk1, .null), (fk2, .null), (fk3, (.long s1))])), (.inr (cn0, [(fk0, (.long t2)), (fk1, .null), (fk2, .null), (fk3, (.long s2))])), (.inr (cn0, [(fk0, (.long t3)), (fk1, .null), (fk2, .null), (fk3, (.long s3))])), (.inr (cn1, [(fk4, .ref 4), (fk5, .int 3)])), (.inl ((.object "com/example/chronogate/chronogate/Event"), [.ref 2, .ref 1, .ref 0, .null, .null, .null, .null, .null]))], u) (fun v σ' u' => (¬ t3 < t1 ∧ ¬ t1 < t3 ∧ ¬ s3 < s1 ∧ v = some (.int 0) ∧ [(.inr (cn0, [(fk0, (.long t1)), (fk1, .null), (fk2, .null), (fk3, (.long s1))])), (.inr (cn0, [(fk0, (.long t2)), (fk1, .null), (fk2, .null), (fk3, (.long s2))])), (.inr (cn0, [(fk0, (.long t3)), (fk1, .null), (fk2, .null), (fk3, (.long s3))])), (.inr (cn1, [(fk4, .ref 4), (fk5, .int 3)])), (.inl ((.object "com/example/chronogate/chronogate/Event"), [.ref 2, .ref 1, .ref 0, .null, .null, .null, .null, .null]))] = σ' ∧ u = u') ∨ (¬ t3 < t1 ∧ ¬ t1 < t3 ∧ s3 < s1 ∧ v = some (.int 1) ∧ [(.inr (cn0, [(fk0, (.long t1)), (fk1, .null), (fk2, .null), (fk3, (.long s1))])), (.inr (cn0, [(fk0, (.long t2)), (fk1, .null), (fk2, .null), (fk3, (.long s2))])), (.inr (cn0, [(fk0, (.long t3)), (fk1, .null), (fk2, .null), (fk3, (.long s3))])), (.inr (cn1, [(fk4, .ref 4), (fk5, .int 3)])), (.inl ((.object "com/example/chronogate/chronogate/Event"), [.ref 2, .ref 1, .ref 0, .null, .null, .null, .null, .null]))] = σ' ∧ u = u') ∨ (¬ t3 < t1 ∧ t1 < t3 ∧ v = some (.int 0) ∧ [(.inr (cn0, [(fk0, (.long t1)), (fk1, .null), (fk2, .null), (fk3, (.long s1))])), (.inr (cn0, [(fk0, (.long t2)), (fk1, .null), (fk2, .null), (fk3, (.long s2))])), (.inr (cn0, [(fk0, (.long t3)), (fk1, .null), (fk2, .null), (fk3, (.long s3))])), (.inr (cn1, [(fk4, .ref 4), (fk5, .int 3)])), (.inl ((.object "com/example/chronogate/chronogate/Event"), [.ref 2, .ref 1, .ref 0, .null, .null, .null, .null, .null]))] = σ' ∧ u = u') ∨ (t3 < t1 ∧ v = some (.int 1) ∧ [(.inr (cn0, [(fk0, (.long t1)), (fk1, .null), (fk2, .null), (fk3, (.long s1))])), (.inr (cn0, [(fk0, (.long t2)), (fk1, .null), (fk2, .null), (fk3, (.long s2))])), (.inr (cn0, [(fk0, (.long t3)), (fk1, .null), (fk2, .null), (fk3, (.long s3))])), (.inr (cn1, [(fk4, .ref 4), (fk5, .int 3)])), (.inl ((.object "com/example/chronogate/chronogate/Event"), [.ref 2, .ref 1, .ref 0, .null, .null, .null, .null, .null]))] = σ' ∧ u = u')) := by
  refine .s (.lloadN a8_0 rfl) <| .s (.lload a8_1 rfl) <| .s (.lcmp a8_3) ?_
  refine .geL a8_4 (fun h4 => ?_) (fun h4 => ?_)
  · refine .s (.lloadN a8_9 rfl) <| .s (.lload a8_10 rfl) <| .s (.lcmp a8_12) ?_
    refine .leL a8_13 (fun h13 => ?_) (fun h13 => ?_)
    · refine .s (.lloadN a8_18 rfl) <| .s (.lload a8_19 rfl) <| .s (.lcmp a8_21) ?_
      refine .geL a8_22 (fun h22 => ?_) (fun h22 => ?_)
      · refine .s (.iconst (0 : Int32) a8_29 rfl) ?_
        refine .ireturn .boolean a8_30 rfl (by simp) ?_
        exact Or.inl ⟨h4, h13, h22, rfl, rfl, rfl⟩
      · refine .s (.iconst (1 : Int32) a8_25 rfl) <| .s (.goto a8_26) ?_
        refine .ireturn .boolean a8_30 rfl (by simp) ?_
        exact Or.inr (Or.inl ⟨h4, h13, h22, rfl, rfl, rfl⟩)
    · refine .s (.iconst (0 : Int32) a8_16 rfl) ?_
      refine .ireturn .boolean a8_17 rfl (by simp) ?_
      exact Or.inr (Or.inr (Or.inl ⟨h4, h13, rfl, rfl, rfl⟩))
  · refine .s (.iconst (1 : Int32) a8_7 rfl) ?_
    refine .ireturn .boolean a8_8 rfl (by simp) ?_
    exact Or.inr (Or.inr (Or.inr (⟨h4, rfl, rfl, rfl⟩)))
set_option maxHeartbeats 4000000 in
theorem au9_31 {Z : State} {a0 : Array Value} (hw : ∀ d ∈ tables_1, d.before a0 Z = true) (ρ : Nat → Nat) (n0 : Nat) (t1 : Int64) (t2 : Int64) (t3 : Int64) (s1 : Int64) (s2 : Int64) (s3 : Int64) (u : Nat) : WGo (g9 Z ρ n0 5 u) (0, [wR 3], [], [(.inr (cn0, [(fk0, (.long t1)), (fk1, .null), (fk2, .null), (fk3, (.long s1))])), (.inr (cn0, [(fk0, (.long t2)), (fk1, .null), (fk2, .null), (fk3, (.long s2))])), (.inr (cn0, [(fk0, (.long t3)), (fk1, .null), (fk2, .null), (fk3, (.long s3))])), (.inr (cn1, [(fk4, .ref 4), (fk5, .int 3)])), (.inl ((.object "com/example/chronogate/chronogate/Event"), [.ref 2, .ref 1, .ref 0, .null, .null, .null, .null, .null]))], u) (fun v σ' u' => v = some (.ref 2) ∧ [(.inr (cn0, [(fk0, (.long t1)), (fk1, .null), (fk2, .null), (fk3, (.long s1))])), (.inr (cn0, [(fk0, (.long t2)), (fk1, .null), (fk2, .null), (fk3, (.long s2))])), (.inr (cn0, [(fk0, (.long t3)), (fk1, .null), (fk2, .null), (fk3, (.long s3))])), (.inr (cn1, [(fk4, .ref 4), (fk5, .int 3)])), (.inl ((.object "com/example/chronogate/chronogate/Event"), [.ref 2, .ref 1, .ref 0, .null, .null, .null, .null, .null]))] = σ' ∧ u = u') := by
  refine .s (.aloadN a9_0 rfl rfl) <| .s (.getF 1 a9_1 (wd hw 36 rfl) rfl rfl) <| .s (.ifT a9_4 (by decide)) <| .s (.aloadN a9_11 rfl rfl) <| .s (.getF 0 a9_12 (wd hw 29 rfl) rfl rfl) <| .s (.iconst (0 : Int32) a9_15 rfl) <| .s (.aaload 0 a9_16 rfl rfl (by decide) rfl rfl) ?_
  refine .areturn (.object "com/example/chronogate/chronogate/Event") a9_17 rfl rfl rfl ?_
  exact ⟨rfl, rfl, rfl⟩
set_option maxHeartbeats 4000000 in
theorem au10_32 {Z : State} {a0 : Array Value} (hw : ∀ d ∈ tables_1, d.before a0 Z = true) (ρ : Nat → Nat) (n0 : Nat) (t1 : Int64) (t2 : Int64) (t3 : Int64) (s1 : Int64) (s2 : Int64) (s3 : Int64) (u : Nat) : WGo (g10 Z ρ n0 5 u) (0, [wR 3], [], [(.inr (cn0, [(fk0, (.long t1)), (fk1, .null), (fk2, .null), (fk3, (.long s1))])), (.inr (cn0, [(fk0, (.long t2)), (fk1, .null), (fk2, .null), (fk3, (.long s2))])), (.inr (cn0, [(fk0, (.long t3)), (fk1, .null), (fk2, .null), (fk3, (.long s3))])), (.inr (cn1, [(fk4, .ref 4), (fk5, .int 3)])), (.inl ((.object "com/example/chronogate/chronogate/Event"), [.ref 2, .ref 1, .ref 0, .null, .null, .null, .null, .null]))], u) (fun v σ' u' => v = some (.int 3) ∧ [(.inr (cn0, [(fk0, (.long t1)), (fk1, .null), (fk2, .null), (fk3, (.long s1))])), (.inr (cn0, [(fk0, (.long t2)), (fk1, .null), (fk2, .null), (fk3, (.long s2))])), (.inr (cn0, [(fk0, (.long t3)), (fk1, .null), (fk2, .null), (fk3, (.long s3))])), (.inr (cn1, [(fk4, .ref 4), (fk5, .int 3)])), (.inl ((.object "com/example/chronogate/chronogate/Event"), [.ref 2, .ref 1, .ref 0, .null, .null, .null, .null, .null]))] = σ' ∧ u = u') := by
  refine .s (.aloadN a10_0 rfl rfl) <| .s (.getF 1 a10_1 (wd hw 36 rfl) rfl rfl) ?_
  refine .ireturn .int a10_4 rfl (by simp) ?_
  exact ⟨rfl, rfl, rfl⟩
set_option maxHeartbeats 4000000 in
theorem au7_35 {Z : State} {a0 : Array Value} (hw : ∀ d ∈ tables_1, d.before a0 Z = true) (ρ : Nat → Nat) (n0 : Nat) (t1 : Int64) (t2 : Int64) (t3 : Int64) (s1 : Int64) (s2 : Int64) (s3 : Int64) (u : Nat) : WGo (g7 Z ρ n0 5 u) (0, [wJ t3, wS, wJ t2, wS], [], [(.inr (cn0, [(fk0, (.long t1)), (fk1, .null), (fk2, .null), (fk3, (.long s1))])), (.inr (cn0, [(fk0, (.long t2)), (fk1, .null), (fk2, .null), (fk3, (.long s2))])), (.inr (cn0, [(fk0, (.long t3)), (fk1, .null), (fk2, .null), (fk3, (.long s3))])), (.inr (cn1, [(fk4, .ref 4), (fk5, .int 3)])), (.inl ((.object "com/example/chronogate/chronogate/Event"), [.ref 1, .ref 0, .null, .null, .null, .null, .null, .null]))], u) (fun v σ' u' => (¬ t3 < t2 ∧ ¬ t3 = t2 ∧ v = some (.int 1) ∧ [(.inr (cn0, [(fk0, (.long t1)), (fk1, .null), (fk2, .null), (fk3, (.long s1))])), (.inr (cn0, [(fk0, (.long t2)), (fk1, .null), (fk2, .null), (fk3, (.long s2))])), (.inr (cn0, [(fk0, (.long t3)), (fk1, .null), (fk2, .null), (fk3, (.long s3))])), (.inr (cn1, [(fk4, .ref 4), (fk5, .int 3)])), (.inl ((.object "com/example/chronogate/chronogate/Event"), [.ref 1, .ref 0, .null, .null, .null, .null, .null, .null]))] = σ' ∧ u = u') ∨ (¬ t3 < t2 ∧ t3 = t2 ∧ v = some (.int 0) ∧ [(.inr (cn0, [(fk0, (.long t1)), (fk1, .null), (fk2, .null), (fk3, (.long s1))])), (.inr (cn0, [(fk0, (.long t2)), (fk1, .null), (fk2, .null), (fk3, (.long s2))])), (.inr (cn0, [(fk0, (.long t3)), (fk1, .null), (fk2, .null), (fk3, (.long s3))])), (.inr (cn1, [(fk4, .ref 4), (fk5, .int 3)])), (.inl ((.object "com/example/chronogate/chronogate/Event"), [.ref 1, .ref 0, .null, .null, .null, .null, .null, .null]))] = σ' ∧ u = u') ∨ (t3 < t2 ∧ v = some (.int (-1)) ∧ [(.inr (cn0, [(fk0, (.long t1)), (fk1, .null), (fk2, .null), (fk3, (.long s1))])), (.inr (cn0, [(fk0, (.long t2)), (fk1, .null), (fk2, .null), (fk3, (.long s2))])), (.inr (cn0, [(fk0, (.long t3)), (fk1, .null), (fk2, .null), (fk3, (.long s3))])), (.inr (cn1, [(fk4, .ref 4), (fk5, .int 3)])), (.inl ((.object "com/example/chronogate/chronogate/Event"), [.ref 1, .ref 0, .null, .null, .null, .null, .null, .null]))] = σ' ∧ u = u')) := by
  refine .s (.lloadN a7_0 rfl) <| .s (.lloadN a7_1 rfl) <| .s (.lcmp a7_2) ?_
  refine .geL a7_3 (fun h3 => ?_) (fun h3 => ?_)
  · refine .s (.lloadN a7_10 rfl) <| .s (.lloadN a7_11 rfl) <| .s (.lcmp a7_12) ?_
    refine .neL a7_13 (fun h13 => ?_) (fun h13 => ?_)
    · refine .s (.iconst (1 : Int32) a7_20 rfl) ?_
      refine .ireturn .int a7_21 rfl (by simp) ?_
      exact Or.inl ⟨h3, h13, rfl, rfl, rfl⟩
    · refine .s (.iconst (0 : Int32) a7_16 rfl) <| .s (.goto a7_17) ?_
      refine .ireturn .int a7_21 rfl (by simp) ?_
      exact Or.inr (Or.inl ⟨h3, h13, rfl, rfl, rfl⟩)
  · refine .s (.iconst (-1 : Int32) a7_6 rfl) <| .s (.goto a7_7) ?_
    refine .ireturn .int a7_21 rfl (by simp) ?_
    exact Or.inr (Or.inr (⟨h3, rfl, rfl, rfl⟩))
set_option maxHeartbeats 4000000 in
theorem au7_36 {Z : State} {a0 : Array Value} (hw : ∀ d ∈ tables_1, d.before a0 Z = true) (ρ : Nat → Nat) (n0 : Nat) (t1 : Int64) (t2 : Int64) (t3 : Int64) (s1 : Int64) (s2 : Int64) (s3 : Int64) (u : Nat) : WGo (g7 Z ρ n0 5 u) (0, [wJ s3, wS, wJ s2, wS], [], [(.inr (cn0, [(fk0, (.long t1)), (fk1, .null), (fk2, .null), (fk3, (.long s1))])), (.inr (cn0, [(fk0, (.long t2)), (fk1, .null), (fk2, .null), (fk3, (.long s2))])), (.inr (cn0, [(fk0, (.long t3)), (fk1, .null), (fk2, .null), (fk3, (.long s3))])), (.inr (cn1, [(fk4, .ref 4), (fk5, .int 3)])), (.inl ((.object "com/example/chronogate/chronogate/Event"), [.ref 1, .ref 0, .null, .null, .null, .null, .null, .null]))], u) (fun v σ' u' => (¬ s3 < s2 ∧ ¬ s3 = s2 ∧ v = some (.int 1) ∧ [(.inr (cn0, [(fk0, (.long t1)), (fk1, .null), (fk2, .null), (fk3, (.long s1))])), (.inr (cn0, [(fk0, (.long t2)), (fk1, .null), (fk2, .null), (fk3, (.long s2))])), (.inr (cn0, [(fk0, (.long t3)), (fk1, .null), (fk2, .null), (fk3, (.long s3))])), (.inr (cn1, [(fk4, .ref 4), (fk5, .int 3)])), (.inl ((.object "com/example/chronogate/chronogate/Event"), [.ref 1, .ref 0, .null, .null, .null, .null, .null, .null]))] = σ' ∧ u = u') ∨ (¬ s3 < s2 ∧ s3 = s2 ∧ v = some (.int 0) ∧ [(.inr (cn0, [(fk0, (.long t1)), (fk1, .null), (fk2, .null), (fk3, (.long s1))])), (.inr (cn0, [(fk0, (.long t2)), (fk1, .null), (fk2, .null), (fk3, (.long s2))])), (.inr (cn0, [(fk0, (.long t3)), (fk1, .null), (fk2, .null), (fk3, (.long s3))])), (.inr (cn1, [(fk4, .ref 4), (fk5, .int 3)])), (.inl ((.object "com/example/chronogate/chronogate/Event"), [.ref 1, .ref 0, .null, .null, .null, .null, .null, .null]))] = σ' ∧ u = u') ∨ (s3 < s2 ∧ v = some (.int (-1)) ∧ [(.inr (cn0, [(fk0, (.long t1)), (fk1, .null), (fk2, .null), (fk3, (.long s1))])), (.inr (cn0, [(fk0, (.long t2)), (fk1, .null), (fk2, .null), (fk3, (.long s2))])), (.inr (cn0, [(fk0, (.long t3)), (fk1, .null), (fk2, .null), (fk3, (.long s3))])), (.inr (cn1, [(fk4, .ref 4), (fk5, .int 3)])), (.inl ((.object "com/example/chronogate/chronogate/Event"), [.ref 1, .ref 0, .null, .null, .null, .null, .null, .null]))] = σ' ∧ u = u')) := by
  refine .s (.lloadN a7_0 rfl) <| .s (.lloadN a7_1 rfl) <| .s (.lcmp a7_2) ?_
  refine .geL a7_3 (fun h3 => ?_) (fun h3 => ?_)
  · refine .s (.lloadN a7_10 rfl) <| .s (.lloadN a7_11 rfl) <| .s (.lcmp a7_12) ?_
    refine .neL a7_13 (fun h13 => ?_) (fun h13 => ?_)
    · refine .s (.iconst (1 : Int32) a7_20 rfl) ?_
      refine .ireturn .int a7_21 rfl (by simp) ?_
      exact Or.inl ⟨h3, h13, rfl, rfl, rfl⟩
    · refine .s (.iconst (0 : Int32) a7_16 rfl) <| .s (.goto a7_17) ?_
      refine .ireturn .int a7_21 rfl (by simp) ?_
      exact Or.inr (Or.inl ⟨h3, h13, rfl, rfl, rfl⟩)
  · refine .s (.iconst (-1 : Int32) a7_6 rfl) <| .s (.goto a7_7) ?_
    refine .ireturn .int a7_21 rfl (by simp) ?_
    exact Or.inr (Or.inr (⟨h3, rfl, rfl, rfl⟩))
set_option maxHeartbeats 4000000 in
theorem au6_34 {Z : State} {a0 : Array Value} (hw : ∀ d ∈ tables_1, d.before a0 Z = true) (ρ : Nat → Nat) (n0 : Nat) (t1 : Int64) (t2 : Int64) (t3 : Int64) (s1 : Int64) (s2 : Int64) (s3 : Int64) (u : Nat) : WGo (g6 Z ρ n0 5 u) (0, [wR 2, wR 1, wU], [], [(.inr (cn0, [(fk0, (.long t1)), (fk1, .null), (fk2, .null), (fk3, (.long s1))])), (.inr (cn0, [(fk0, (.long t2)), (fk1, .null), (fk2, .null), (fk3, (.long s2))])), (.inr (cn0, [(fk0, (.long t3)), (fk1, .null), (fk2, .null), (fk3, (.long s3))])), (.inr (cn1, [(fk4, .ref 4), (fk5, .int 3)])), (.inl ((.object "com/example/chronogate/chronogate/Event"), [.ref 1, .ref 0, .null, .null, .null, .null, .null, .null]))], u) (fun v σ' u' => (¬ t3 < t2 ∧ ¬ t3 = t2 ∧ v = some (.int 1) ∧ [(.inr (cn0, [(fk0, (.long t1)), (fk1, .null), (fk2, .null), (fk3, (.long s1))])), (.inr (cn0, [(fk0, (.long t2)), (fk1, .null), (fk2, .null), (fk3, (.long s2))])), (.inr (cn0, [(fk0, (.long t3)), (fk1, .null), (fk2, .null), (fk3, (.long s3))])), (.inr (cn1, [(fk4, .ref 4), (fk5, .int 3)])), (.inl ((.object "com/example/chronogate/chronogate/Event"), [.ref 1, .ref 0, .null, .null, .null, .null, .null, .null]))] = σ' ∧ u = u') ∨ (¬ t3 < t2 ∧ t3 = t2 ∧ ¬ s3 < s2 ∧ ¬ s3 = s2 ∧ v = some (.int 1) ∧ [(.inr (cn0, [(fk0, (.long t1)), (fk1, .null), (fk2, .null), (fk3, (.long s1))])), (.inr (cn0, [(fk0, (.long t2)), (fk1, .null), (fk2, .null), (fk3, (.long s2))])), (.inr (cn0, [(fk0, (.long t3)), (fk1, .null), (fk2, .null), (fk3, (.long s3))])), (.inr (cn1, [(fk4, .ref 4), (fk5, .int 3)])), (.inl ((.object "com/example/chronogate/chronogate/Event"), [.ref 1, .ref 0, .null, .null, .null, .null, .null, .null]))] = σ' ∧ u = u') ∨ (¬ t3 < t2 ∧ t3 = t2 ∧ ¬ s3 < s2 ∧ s3 = s2 ∧ v = some (.int 0) ∧ [(.inr (cn0, [(fk0, (.long t1)), (fk1, .null), (fk2, .null), (fk3, (.long s1))])), (.inr (cn0, [(fk0, (.long t2)), (fk1, .null), (fk2, .null), (fk3, (.long s2))])), (.inr (cn0, [(fk0, (.long t3)), (fk1, .null), (fk2, .null), (fk3, (.long s3))])), (.inr (cn1, [(fk4, .ref 4), (fk5, .int 3)])), (.inl ((.object "com/example/chronogate/chronogate/Event"), [.ref 1, .ref 0, .null, .null, .null, .null, .null, .null]))] = σ' ∧ u = u') ∨ (¬ t3 < t2 ∧ t3 = t2 ∧ s3 < s2 ∧ v = some (.int (-1)) ∧ [(.inr (cn0, [(fk0, (.long t1)), (fk1, .null), (fk2, .null), (fk3, (.long s1))])), (.inr (cn0, [(fk0, (.long t2)), (fk1, .null), (fk2, .null), (fk3, (.long s2))])), (.inr (cn0, [(fk0, (.long t3)), (fk1, .null), (fk2, .null), (fk3, (.long s3))])), (.inr (cn1, [(fk4, .ref 4), (fk5, .int 3)])), (.inl ((.object "com/example/chronogate/chronogate/Event"), [.ref 1, .ref 0, .null, .null, .null, .null, .null, .null]))] = σ' ∧ u = u') ∨ (t3 < t2 ∧ v = some (.int (-1)) ∧ [(.inr (cn0, [(fk0, (.long t1)), (fk1, .null), (fk2, .null), (fk3, (.long s1))])), (.inr (cn0, [(fk0, (.long t2)), (fk1, .null), (fk2, .null), (fk3, (.long s2))])), (.inr (cn0, [(fk0, (.long t3)), (fk1, .null), (fk2, .null), (fk3, (.long s3))])), (.inr (cn1, [(fk4, .ref 4), (fk5, .int 3)])), (.inl ((.object "com/example/chronogate/chronogate/Event"), [.ref 1, .ref 0, .null, .null, .null, .null, .null, .null]))] = σ' ∧ u = u')) := by
  refine .s (.aloadN a6_0 rfl rfl) <| .s (.getF 0 a6_1 (wd hw 9 rfl) rfl rfl) <| .s (.aloadN a6_4 rfl rfl) <| .s (.getF 0 a6_5 (wd hw 9 rfl) rfl rfl) ?_
  refine .callS a6_8 (ok7 hw _ _ _ _) (wd hw 42 rfl) (wd hw 43 rfl) (argsL := [(.long t3), (.long t2)]) (S := []) (au7_35 hw _ _ t1 t2 t3 s1 s2 s3 _) rfl rfl rfl rfl rfl rfl (Nat.le_of_ble_eq_true rfl) (Nat.le_of_ble_eq_true rfl) ?_
  rintro _ _ _ (⟨q434, q435, rfl, rfl, rfl⟩ | ⟨q436, q437, rfl, rfl, rfl⟩ | ⟨q438, rfl, rfl, rfl⟩)
  · skip
    show WGo _ (11, [wR 2, wR 1, wU], [.int 1], [(.inr (cn0, [(fk0, (.long t1)), (fk1, .null), (fk2, .null), (fk3, (.long s1))])), (.inr (cn0, [(fk0, (.long t2)), (fk1, .null), (fk2, .null), (fk3, (.long s2))])), (.inr (cn0, [(fk0, (.long t3)), (fk1, .null), (fk2, .null), (fk3, (.long s3))])), (.inr (cn1, [(fk4, .ref 4), (fk5, .int 3)])), (.inl ((.object "com/example/chronogate/chronogate/Event"), [.ref 1, .ref 0, .null, .null, .null, .null, .null, .null]))], u) _
    refine .s (.istoreN (L' := [wR 2, wR 1, wI 1]) a6_11 rfl) <| .s (.iloadN a6_12 rfl) <| .s (.ifF a6_13 (by decide)) <| .s (.iloadN a6_16 rfl) <| .s (.goto a6_17) ?_
    refine .ireturn .int a6_31 rfl (by simp) ?_
    exact Or.inl ⟨q434, q435, rfl, rfl, rfl⟩
  · skip
    show WGo _ (11, [wR 2, wR 1, wU], [.int 0], [(.inr (cn0, [(fk0, (.long t1)), (fk1, .null), (fk2, .null), (fk3, (.long s1))])), (.inr (cn0, [(fk0, (.long t2)), (fk1, .null), (fk2, .null), (fk3, (.long s2))])), (.inr (cn0, [(fk0, (.long t3)), (fk1, .null), (fk2, .null), (fk3, (.long s3))])), (.inr (cn1, [(fk4, .ref 4), (fk5, .int 3)])), (.inl ((.object "com/example/chronogate/chronogate/Event"), [.ref 1, .ref 0, .null, .null, .null, .null, .null, .null]))], u) _
    refine .s (.istoreN (L' := [wR 2, wR 1, wI 0]) a6_11 rfl) <| .s (.iloadN a6_12 rfl) <| .s (.ifT a6_13 (by decide)) <| .s (.aloadN a6_20 rfl rfl) <| .s (.getF 3 a6_21 (wd hw 15 rfl) rfl rfl) <| .s (.aloadN a6_24 rfl rfl) <| .s (.getF 3 a6_25 (wd hw 15 rfl) rfl rfl) ?_
    refine .callS a6_28 (ok7 hw _ _ _ _) (wd hw 42 rfl) (wd hw 43 rfl) (argsL := [(.long s3), (.long s2)]) (S := []) (au7_36 hw _ _ t1 t2 t3 s1 s2 s3 _) rfl rfl rfl rfl rfl rfl (Nat.le_of_ble_eq_true rfl) (Nat.le_of_ble_eq_true rfl) ?_
    rintro _ _ _ (⟨q439, q440, rfl, rfl, rfl⟩ | ⟨q441, q442, rfl, rfl, rfl⟩ | ⟨q443, rfl, rfl, rfl⟩)
    · skip
      show WGo _ (31, [wR 2, wR 1, wI 0], [.int 1], [(.inr (cn0, [(fk0, (.long t1)), (fk1, .null), (fk2, .null), (fk3, (.long s1))])), (.inr (cn0, [(fk0, (.long t2)), (fk1, .null), (fk2, .null), (fk3, (.long s2))])), (.inr (cn0, [(fk0, (.long t3)), (fk1, .null), (fk2, .null), (fk3, (.long s3))])), (.inr (cn1, [(fk4, .ref 4), (fk5, .int 3)])), (.inl ((.object "com/example/chronogate/chronogate/Event"), [.ref 1, .ref 0, .null, .null, .null, .null, .null, .null]))], u) _
      refine .ireturn .int a6_31 rfl (by simp) ?_
      exact Or.inr (Or.inl ⟨q436, q437, q439, q440, rfl, rfl, rfl⟩)
    · skip
      show WGo _ (31, [wR 2, wR 1, wI 0], [.int 0], [(.inr (cn0, [(fk0, (.long t1)), (fk1, .null), (fk2, .null), (fk3, (.long s1))])), (.inr (cn0, [(fk0, (.long t2)), (fk1, .null), (fk2, .null), (fk3, (.long s2))])), (.inr (cn0, [(fk0, (.long t3)), (fk1, .null), (fk2, .null), (fk3, (.long s3))])), (.inr (cn1, [(fk4, .ref 4), (fk5, .int 3)])), (.inl ((.object "com/example/chronogate/chronogate/Event"), [.ref 1, .ref 0, .null, .null, .null, .null, .null, .null]))], u) _
      refine .ireturn .int a6_31 rfl (by simp) ?_
      exact Or.inr (Or.inr (Or.inl ⟨q436, q437, q441, q442, rfl, rfl, rfl⟩))
    · skip
      show WGo _ (31, [wR 2, wR 1, wI 0], [.int (-1)], [(.inr (cn0, [(fk0, (.long t1)), (fk1, .null), (fk2, .null), (fk3, (.long s1))])), (.inr (cn0, [(fk0, (.long t2)), (fk1, .null), (fk2, .null), (fk3, (.long s2))])), (.inr (cn0, [(fk0, (.long t3)), (fk1, .null), (fk2, .null), (fk3, (.long s3))])), (.inr (cn1, [(fk4, .ref 4), (fk5, .int 3)])), (.inl ((.object "com/example/chronogate/chronogate/Event"), [.ref 1, .ref 0, .null, .null, .null, .null, .null, .null]))], u) _
      refine .ireturn .int a6_31 rfl (by simp) ?_
      exact Or.inr (Or.inr (Or.inr (Or.inl ⟨q436, q437, q443, rfl, rfl, rfl⟩)))
  · skip
    show WGo _ (11, [wR 2, wR 1, wU], [.int (-1)], [(.inr (cn0, [(fk0, (.long t1)), (fk1, .null), (fk2, .null), (fk3, (.long s1))])), (.inr (cn0, [(fk0, (.long t2)), (fk1, .null), (fk2, .null), (fk3, (.long s2))])), (.inr (cn0, [(fk0, (.long t3)), (fk1, .null), (fk2, .null), (fk3, (.long s3))])), (.inr (cn1, [(fk4, .ref 4), (fk5, .int 3)])), (.inl ((.object "com/example/chronogate/chronogate/Event"), [.ref 1, .ref 0, .null, .null, .null, .null, .null, .null]))], u) _
    refine .s (.istoreN (L' := [wR 2, wR 1, wI (-1)]) a6_11 rfl) <| .s (.iloadN a6_12 rfl) <| .s (.ifF a6_13 (by decide)) <| .s (.iloadN a6_16 rfl) <| .s (.goto a6_17) ?_
    refine .ireturn .int a6_31 rfl (by simp) ?_
    exact Or.inr (Or.inr (Or.inr (Or.inr (⟨q438, rfl, rfl, rfl⟩))))
set_option maxHeartbeats 4000000 in
theorem au5_33 {Z : State} {a0 : Array Value} (hw : ∀ d ∈ tables_1, d.before a0 Z = true) (ρ : Nat → Nat) (n0 : Nat) (t1 : Int64) (t2 : Int64) (t3 : Int64) (s1 : Int64) (s2 : Int64) (s3 : Int64) (u : Nat) : WGo (g5 Z ρ n0 5 u) (0, [wR 3, wR 2, wU, wU], [], [(.inr (cn0, [(fk0, (.long t1)), (fk1, .null), (fk2, .null), (fk3, (.long s1))])), (.inr (cn0, [(fk0, (.long t2)), (fk1, .null), (fk2, .null), (fk3, (.long s2))])), (.inr (cn0, [(fk0, (.long t3)), (fk1, .null), (fk2, .null), (fk3, (.long s3))])), (.inr (cn1, [(fk4, .ref 4), (fk5, .int 2)])), (.inl ((.object "com/example/chronogate/chronogate/Event"), [.ref 1, .ref 0, .null, .null, .null, .null, .null, .null]))], u) (fun v σ' u' => (¬ t3 < t2 ∧ ¬ t3 = t2 ∧ v = none ∧ [(.inr (cn0, [(fk0, (.long t1)), (fk1, .null), (fk2, .null), (fk3, (.long s1))])), (.inr (cn0, [(fk0, (.long t2)), (fk1, .null), (fk2, .null), (fk3, (.long s2))])), (.inr (cn0, [(fk0, (.long t3)), (fk1, .null), (fk2, .null), (fk3, (.long s3))])), (.inr (cn1, [(fk4, .ref 4), (fk5, .int 3)])), (.inl ((.object "com/example/chronogate/chronogate/Event"), [.ref 1, .ref 0, .ref 2, .null, .null, .null, .null, .null]))] = σ' ∧ u = u') ∨ (¬ t3 < t2 ∧ t3 = t2 ∧ ¬ s3 < s2 ∧ ¬ s3 = s2 ∧ v = none ∧ [(.inr (cn0, [(fk0, (.long t1)), (fk1, .null), (fk2, .null), (fk3, (.long s1))])), (.inr (cn0, [(fk0, (.long t2)), (fk1, .null), (fk2, .null), (fk3, (.long s2))])), (.inr (cn0, [(fk0, (.long t3)), (fk1, .null), (fk2, .null), (fk3, (.long s3))])), (.inr (cn1, [(fk4, .ref 4), (fk5, .int 3)])), (.inl ((.object "com/example/chronogate/chronogate/Event"), [.ref 1, .ref 0, .ref 2, .null, .null, .null, .null, .null]))] = σ' ∧ u = u') ∨ (¬ t3 < t2 ∧ t3 = t2 ∧ ¬ s3 < s2 ∧ s3 = s2 ∧ v = none ∧ [(.inr (cn0, [(fk0, (.long t1)), (fk1, .null), (fk2, .null), (fk3, (.long s1))])), (.inr (cn0, [(fk0, (.long t2)), (fk1, .null), (fk2, .null), (fk3, (.long s2))])), (.inr (cn0, [(fk0, (.long t3)), (fk1, .null), (fk2, .null), (fk3, (.long s3))])), (.inr (cn1, [(fk4, .ref 4), (fk5, .int 3)])), (.inl ((.object "com/example/chronogate/chronogate/Event"), [.ref 1, .ref 0, .ref 2, .null, .null, .null, .null, .null]))] = σ' ∧ u = u') ∨ (¬ t3 < t2 ∧ t3 = t2 ∧ s3 < s2 ∧ v = none ∧ [(.inr (cn0, [(fk0, (.long t1)), (fk1, .null), (fk2, .null), (fk3, (.long s1))])), (.inr (cn0, [(fk0, (.long t2)), (fk1, .null), (fk2, .null), (fk3, (.long s2))])), (.inr (cn0, [(fk0, (.long t3)), (fk1, .null), (fk2, .null), (fk3, (.long s3))])), (.inr (cn1, [(fk4, .ref 4), (fk5, .int 3)])), (.inl ((.object "com/example/chronogate/chronogate/Event"), [.ref 2, .ref 0, .ref 1, .null, .null, .null, .null, .null]))] = σ' ∧ u = u') ∨ (t3 < t2 ∧ v = none ∧ [(.inr (cn0, [(fk0, (.long t1)), (fk1, .null), (fk2, .null), (fk3, (.long s1))])), (.inr (cn0, [(fk0, (.long t2)), (fk1, .null), (fk2, .null), (fk3, (.long s2))])), (.inr (cn0, [(fk0, (.long t3)), (fk1, .null), (fk2, .null), (fk3, (.long s3))])), (.inr (cn1, [(fk4, .ref 4), (fk5, .int 3)])), (.inl ((.object "com/example/chronogate/chronogate/Event"), [.ref 2, .ref 0, .ref 1, .null, .null, .null, .null, .null]))] = σ' ∧ u = u')) := by
  refine .s (.aloadN a5_0 rfl rfl) <| .s (.getF 1 a5_1 (wd hw 36 rfl) rfl rfl) <| .s (.aloadN a5_4 rfl rfl) <| .s (.getF 0 a5_5 (wd hw 29 rfl) rfl rfl) <| .s (.alen (8 : Int32) a5_8 rfl rfl) <| .s (.icmpT a5_9 (by decide)) <| .s (.aloadN a5_32 rfl rfl) ?_
  refine .s (.dup a5_33 rfl) <| .s (.getF 1 a5_34 (wd hw 36 rfl) rfl rfl) <| .s (.dupX1 a5_37 rfl rfl) <| .s (.iconst (1 : Int32) a5_38 rfl) <| .s (.iadd a5_39) ?_
  show WGo _ (40, [wR 3, wR 2, wU, wU], [.int 3, .ref 3, .int 2], [(.inr (cn0, [(fk0, (.long t1)), (fk1, .null), (fk2, .null), (fk3, (.long s1))])), (.inr (cn0, [(fk0, (.long t2)), (fk1, .null), (fk2, .null), (fk3, (.long s2))])), (.inr (cn0, [(fk0, (.long t3)), (fk1, .null), (fk2, .null), (fk3, (.long s3))])), (.inr (cn1, [(fk4, .ref 4), (fk5, .int 2)])), (.inl ((.object "com/example/chronogate/chronogate/Event"), [.ref 1, .ref 0, .null, .null, .null, .null, .null, .null]))], u) _
  refine .s (.putF (ty := .int) 1 (.int 3) a5_40 (wd hw 36 rfl) rfl rfl (Or.inl (wd hw 37 rfl)) (wd hw 18 rfl) (by decide) rfl rfl) ?_
  show WGo _ (43, [wR 3, wR 2, wU, wU], [.int 2], [(.inr (cn0, [(fk0, (.long t1)), (fk1, .null), (fk2, .null), (fk3, (.long s1))])), (.inr (cn0, [(fk0, (.long t2)), (fk1, .null), (fk2, .null), (fk3, (.long s2))])), (.inr (cn0, [(fk0, (.long t3)), (fk1, .null), (fk2, .null), (fk3, (.long s3))])), (.inr (cn1, [(fk4, .ref 4), (fk5, .int 3)])), (.inl ((.object "com/example/chronogate/chronogate/Event"), [.ref 1, .ref 0, .null, .null, .null, .null, .null, .null]))], u) _
  refine .s (.istoreN (L' := [wR 3, wR 2, wI 2, wU]) a5_43 rfl) <| .s (.iloadN a5_44 rfl) <| .s (.ifF a5_45 (by decide)) <| .s (.iloadN a5_48 rfl) <| .s (.iconst (1 : Int32) a5_49 rfl) <| .s (.isub a5_50) ?_
  show WGo _ (51, [wR 3, wR 2, wI 2, wU], [.int 1], [(.inr (cn0, [(fk0, (.long t1)), (fk1, .null), (fk2, .null), (fk3, (.long s1))])), (.inr (cn0, [(fk0, (.long t2)), (fk1, .null), (fk2, .null), (fk3, (.long s2))])), (.inr (cn0, [(fk0, (.long t3)), (fk1, .null), (fk2, .null), (fk3, (.long s3))])), (.inr (cn1, [(fk4, .ref 4), (fk5, .int 3)])), (.inl ((.object "com/example/chronogate/chronogate/Event"), [.ref 1, .ref 0, .null, .null, .null, .null, .null, .null]))], u) _
  refine .s (.iconst (2 : Int32) a5_51 rfl) <| .s (.idiv a5_52 (by decide)) ?_
  show WGo _ (53, [wR 3, wR 2, wI 2, wU], [.int 0], [(.inr (cn0, [(fk0, (.long t1)), (fk1, .null), (fk2, .null), (fk3, (.long s1))])), (.inr (cn0, [(fk0, (.long t2)), (fk1, .null), (fk2, .null), (fk3, (.long s2))])), (.inr (cn0, [(fk0, (.long t3)), (fk1, .null), (fk2, .null), (fk3, (.long s3))])), (.inr (cn1, [(fk4, .ref 4), (fk5, .int 3)])), (.inl ((.object "com/example/chronogate/chronogate/Event"), [.ref 1, .ref 0, .null, .null, .null, .null, .null, .null]))], u) _
  refine .s (.istoreN (L' := [wR 3, wR 2, wI 2, wI 0]) a5_53 rfl) <| .s (.aloadN a5_54 rfl rfl) <| .s (.aloadN a5_55 rfl rfl) <| .s (.getF 0 a5_56 (wd hw 29 rfl) rfl rfl) <| .s (.iloadN a5_59 rfl) <| .s (.aaload 0 a5_60 rfl rfl (by decide) rfl rfl) ?_
  refine .callS a5_61 (ok6 hw _ _ _ _) (wd hw 39 rfl) (wd hw 40 rfl) (argsL := [.ref 2, .ref 1]) (S := []) (au6_34 hw _ _ t1 t2 t3 s1 s2 s3 _) rfl rfl rfl rfl rfl rfl (Nat.le_of_ble_eq_true rfl) (Nat.le_of_ble_eq_true rfl) ?_
  rintro _ _ _ (⟨q444, q445, rfl, rfl, rfl⟩ | ⟨q446, q447, q448, q449, rfl, rfl, rfl⟩ | ⟨q450, q451, q452, q453, rfl, rfl, rfl⟩ | ⟨q454, q455, q456, rfl, rfl, rfl⟩ | ⟨q457, rfl, rfl, rfl⟩)
  · skip
    show WGo _ (64, [wR 3, wR 2, wI 2, wI 0], [.int 1], [(.inr (cn0, [(fk0, (.long t1)), (fk1, .null), (fk2, .null), (fk3, (.long s1))])), (.inr (cn0, [(fk0, (.long t2)), (fk1, .null), (fk2, .null), (fk3, (.long s2))])), (.inr (cn0, [(fk0, (.long t3)), (fk1, .null), (fk2, .null), (fk3, (.long s3))])), (.inr (cn1, [(fk4, .ref 4), (fk5, .int 3)])), (.inl ((.object "com/example/chronogate/chronogate/Event"), [.ref 1, .ref 0, .null, .null, .null, .null, .null, .null]))], u) _
    refine .s (.ifF a5_64 (by decide)) <| .s (.goto a5_67) <| .s (.aloadN a5_87 rfl rfl) <| .s (.getF 0 a5_88 (wd hw 29 rfl) rfl rfl) <| .s (.iloadN a5_91 rfl) <| .s (.aloadN a5_92 rfl rfl) <| .s (.aastore 2 a5_93 rfl rfl (by decide) rfl (Nat.le_of_ble_eq_true rfl)) ?_
    show WGo _ (94, [wR 3, wR 2, wI 2, wI 0], [], [(.inr (cn0, [(fk0, (.long t1)), (fk1, .null), (fk2, .null), (fk3, (.long s1))])), (.inr (cn0, [(fk0, (.long t2)), (fk1, .null), (fk2, .null), (fk3, (.long s2))])), (.inr (cn0, [(fk0, (.long t3)), (fk1, .null), (fk2, .null), (fk3, (.long s3))])), (.inr (cn1, [(fk4, .ref 4), (fk5, .int 3)])), (.inl ((.object "com/example/chronogate/chronogate/Event"), [.ref 1, .ref 0, .ref 2, .null, .null, .null, .null, .null]))], u) _
    refine .vreturn a5_94 rfl ?_
    exact Or.inl ⟨q444, q445, rfl, rfl, rfl⟩
  · skip
    show WGo _ (64, [wR 3, wR 2, wI 2, wI 0], [.int 1], [(.inr (cn0, [(fk0, (.long t1)), (fk1, .null), (fk2, .null), (fk3, (.long s1))])), (.inr (cn0, [(fk0, (.long t2)), (fk1, .null), (fk2, .null), (fk3, (.long s2))])), (.inr (cn0, [(fk0, (.long t3)), (fk1, .null), (fk2, .null), (fk3, (.long s3))])), (.inr (cn1, [(fk4, .ref 4), (fk5, .int 3)])), (.inl ((.object "com/example/chronogate/chronogate/Event"), [.ref 1, .ref 0, .null, .null, .null, .null, .null, .null]))], u) _
    refine .s (.ifF a5_64 (by decide)) <| .s (.goto a5_67) <| .s (.aloadN a5_87 rfl rfl) <| .s (.getF 0 a5_88 (wd hw 29 rfl) rfl rfl) <| .s (.iloadN a5_91 rfl) <| .s (.aloadN a5_92 rfl rfl) <| .s (.aastore 2 a5_93 rfl rfl (by decide) rfl (Nat.le_of_ble_eq_true rfl)) ?_
    show WGo _ (94, [wR 3, wR 2, wI 2, wI 0], [], [(.inr (cn0, [(fk0, (.long t1)), (fk1, .null), (fk2, .null), (fk3, (.long s1))])), (.inr (cn0, [(fk0, (.long t2)), (fk1, .null), (fk2, .null), (fk3, (.long s2))])), (.inr (cn0, [(fk0, (.long t3)), (fk1, .null), (fk2, .null), (fk3, (.long s3))])), (.inr (cn1, [(fk4, .ref 4), (fk5, .int 3)])), (.inl ((.object "com/example/chronogate/chronogate/Event"), [.ref 1, .ref 0, .ref 2, .null, .null, .null, .null, .null]))], u) _
    refine .vreturn a5_94 rfl ?_
    exact Or.inr (Or.inl ⟨q446, q447, q448, q449, rfl, rfl, rfl⟩)
  · skip
    show WGo _ (64, [wR 3, wR 2, wI 2, wI 0], [.int 0], [(.inr (cn0, [(fk0, (.long t1)), (fk1, .null), (fk2, .null), (fk3, (.long s1))])), (.inr (cn0, [(fk0, (.long t2)), (fk1, .null), (fk2, .null), (fk3, (.long s2))])), (.inr (cn0, [(fk0, (.long t3)), (fk1, .null), (fk2, .null), (fk3, (.long s3))])), (.inr (cn1, [(fk4, .ref 4), (fk5, .int 3)])), (.inl ((.object "com/example/chronogate/chronogate/Event"), [.ref 1, .ref 0, .null, .null, .null, .null, .null, .null]))], u) _
    refine .s (.ifF a5_64 (by decide)) <| .s (.goto a5_67) <| .s (.aloadN a5_87 rfl rfl) <| .s (.getF 0 a5_88 (wd hw 29 rfl) rfl rfl) <| .s (.iloadN a5_91 rfl) <| .s (.aloadN a5_92 rfl rfl) <| .s (.aastore 2 a5_93 rfl rfl (by decide) rfl (Nat.le_of_ble_eq_true rfl)) ?_
    show WGo _ (94, [wR 3, wR 2, wI 2, wI 0], [], [(.inr (cn0, [(fk0, (.long t1)), (fk1, .null), (fk2, .null), (fk3, (.long s1))])), (.inr (cn0, [(fk0, (.long t2)), (fk1, .null), (fk2, .null), (fk3, (.long s2))])), (.inr (cn0, [(fk0, (.long t3)), (fk1, .null), (fk2, .null), (fk3, (.long s3))])), (.inr (cn1, [(fk4, .ref 4), (fk5, .int 3)])), (.inl ((.object "com/example/chronogate/chronogate/Event"), [.ref 1, .ref 0, .ref 2, .null, .null, .null, .null, .null]))], u) _
    refine .vreturn a5_94 rfl ?_
    exact Or.inr (Or.inr (Or.inl ⟨q450, q451, q452, q453, rfl, rfl, rfl⟩))
  · skip
    show WGo _ (64, [wR 3, wR 2, wI 2, wI 0], [.int (-1)], [(.inr (cn0, [(fk0, (.long t1)), (fk1, .null), (fk2, .null), (fk3, (.long s1))])), (.inr (cn0, [(fk0, (.long t2)), (fk1, .null), (fk2, .null), (fk3, (.long s2))])), (.inr (cn0, [(fk0, (.long t3)), (fk1, .null), (fk2, .null), (fk3, (.long s3))])), (.inr (cn1, [(fk4, .ref 4), (fk5, .int 3)])), (.inl ((.object "com/example/chronogate/chronogate/Event"), [.ref 1, .ref 0, .null, .null, .null, .null, .null, .null]))], u) _
    refine .s (.ifT a5_64 (by decide)) <| .s (.aloadN a5_70 rfl rfl) <| .s (.getF 0 a5_71 (wd hw 29 rfl) rfl rfl) <| .s (.iloadN a5_74 rfl) <| .s (.aloadN a5_75 rfl rfl) <| .s (.getF 0 a5_76 (wd hw 29 rfl) rfl rfl) <| .s (.iloadN a5_79 rfl) ?_
    refine .s (.aaload 0 a5_80 rfl rfl (by decide) rfl rfl) <| .s (.aastore 2 a5_81 rfl rfl (by decide) rfl (Nat.le_of_ble_eq_true rfl)) ?_
    show WGo _ (82, [wR 3, wR 2, wI 2, wI 0], [], [(.inr (cn0, [(fk0, (.long t1)), (fk1, .null), (fk2, .null), (fk3, (.long s1))])), (.inr (cn0, [(fk0, (.long t2)), (fk1, .null), (fk2, .null), (fk3, (.long s2))])), (.inr (cn0, [(fk0, (.long t3)), (fk1, .null), (fk2, .null), (fk3, (.long s3))])), (.inr (cn1, [(fk4, .ref 4), (fk5, .int 3)])), (.inl ((.object "com/example/chronogate/chronogate/Event"), [.ref 1, .ref 0, .ref 1, .null, .null, .null, .null, .null]))], u) _
    refine .s (.iloadN a5_82 rfl) <| .s (.istoreN (L' := [wR 3, wR 2, wI 0, wI 0]) a5_83 rfl) <| .s (.goto a5_84) <| .s (.iloadN a5_44 rfl) <| .s (.ifT a5_45 (by decide)) <| .s (.aloadN a5_87 rfl rfl) <| .s (.getF 0 a5_88 (wd hw 29 rfl) rfl rfl) ?_
    refine .s (.iloadN a5_91 rfl) <| .s (.aloadN a5_92 rfl rfl) <| .s (.aastore 0 a5_93 rfl rfl (by decide) rfl (Nat.le_of_ble_eq_true rfl)) ?_
    show WGo _ (94, [wR 3, wR 2, wI 0, wI 0], [], [(.inr (cn0, [(fk0, (.long t1)), (fk1, .null), (fk2, .null), (fk3, (.long s1))])), (.inr (cn0, [(fk0, (.long t2)), (fk1, .null), (fk2, .null), (fk3, (.long s2))])), (.inr (cn0, [(fk0, (.long t3)), (fk1, .null), (fk2, .null), (fk3, (.long s3))])), (.inr (cn1, [(fk4, .ref 4), (fk5, .int 3)])), (.inl ((.object "com/example/chronogate/chronogate/Event"), [.ref 2, .ref 0, .ref 1, .null, .null, .null, .null, .null]))], u) _
    refine .vreturn a5_94 rfl ?_
    exact Or.inr (Or.inr (Or.inr (Or.inl ⟨q454, q455, q456, rfl, rfl, rfl⟩)))
  · skip
    show WGo _ (64, [wR 3, wR 2, wI 2, wI 0], [.int (-1)], [(.inr (cn0, [(fk0, (.long t1)), (fk1, .null), (fk2, .null), (fk3, (.long s1))])), (.inr (cn0, [(fk0, (.long t2)), (fk1, .null), (fk2, .null), (fk3, (.long s2))])), (.inr (cn0, [(fk0, (.long t3)), (fk1, .null), (fk2, .null), (fk3, (.long s3))])), (.inr (cn1, [(fk4, .ref 4), (fk5, .int 3)])), (.inl ((.object "com/example/chronogate/chronogate/Event"), [.ref 1, .ref 0, .null, .null, .null, .null, .null, .null]))], u) _
    refine .s (.ifT a5_64 (by decide)) <| .s (.aloadN a5_70 rfl rfl) <| .s (.getF 0 a5_71 (wd hw 29 rfl) rfl rfl) <| .s (.iloadN a5_74 rfl) <| .s (.aloadN a5_75 rfl rfl) <| .s (.getF 0 a5_76 (wd hw 29 rfl) rfl rfl) <| .s (.iloadN a5_79 rfl) ?_
    refine .s (.aaload 0 a5_80 rfl rfl (by decide) rfl rfl) <| .s (.aastore 2 a5_81 rfl rfl (by decide) rfl (Nat.le_of_ble_eq_true rfl)) ?_
    show WGo _ (82, [wR 3, wR 2, wI 2, wI 0], [], [(.inr (cn0, [(fk0, (.long t1)), (fk1, .null), (fk2, .null), (fk3, (.long s1))])), (.inr (cn0, [(fk0, (.long t2)), (fk1, .null), (fk2, .null), (fk3, (.long s2))])), (.inr (cn0, [(fk0, (.long t3)), (fk1, .null), (fk2, .null), (fk3, (.long s3))])), (.inr (cn1, [(fk4, .ref 4), (fk5, .int 3)])), (.inl ((.object "com/example/chronogate/chronogate/Event"), [.ref 1, .ref 0, .ref 1, .null, .null, .null, .null, .null]))], u) _
    refine .s (.iloadN a5_82 rfl) <| .s (.istoreN (L' := [wR 3, wR 2, wI 0, wI 0]) a5_83 rfl) <| .s (.goto a5_84) <| .s (.iloadN a5_44 rfl) <| .s (.ifT a5_45 (by decide)) <| .s (.aloadN a5_87 rfl rfl) <| .s (.getF 0 a5_88 (wd hw 29 rfl) rfl rfl) ?_
    refine .s (.iloadN a5_91 rfl) <| .s (.aloadN a5_92 rfl rfl) <| .s (.aastore 0 a5_93 rfl rfl (by decide) rfl (Nat.le_of_ble_eq_true rfl)) ?_
    show WGo _ (94, [wR 3, wR 2, wI 0, wI 0], [], [(.inr (cn0, [(fk0, (.long t1)), (fk1, .null), (fk2, .null), (fk3, (.long s1))])), (.inr (cn0, [(fk0, (.long t2)), (fk1, .null), (fk2, .null), (fk3, (.long s2))])), (.inr (cn0, [(fk0, (.long t3)), (fk1, .null), (fk2, .null), (fk3, (.long s3))])), (.inr (cn1, [(fk4, .ref 4), (fk5, .int 3)])), (.inl ((.object "com/example/chronogate/chronogate/Event"), [.ref 2, .ref 0, .ref 1, .null, .null, .null, .null, .null]))], u) _
    refine .vreturn a5_94 rfl ?_
    exact Or.inr (Or.inr (Or.inr (Or.inr (⟨q457, rfl, rfl, rfl⟩))))
set_option maxHeartbeats 4000000 in
theorem au8_37 {Z : State} {a0 : Array Value} (hw : ∀ d ∈ tables_1, d.before a0 Z = true) (ρ : Nat → Nat) (n0 : Nat) (t1 : Int64) (t2 : Int64) (t3 : Int64) (s1 : Int64) (s2 : Int64) (s3 : Int64) (u : Nat) : WGo (g8 Z ρ n0 5 u) (0, [wJ t2, wS, wJ s2, wS, wJ t1, wS, wJ s1, wS], [], [(.inr (cn0, [(fk0, (.long t1)), (fk1, .null), (fk2, .null), (fk3, (.long s1))])), (.inr (cn0, [(fk0, (.long t2)), (fk1, .null), (fk2, .null), (fk3, (.long s2))])), (.inr (cn0, [(fk0, (.long t3)), (fk1, .null), (fk2, .null), (fk3, (.long s3))])), (.inr (cn1, [(fk4, .ref 4), (fk5, .int 3)])), (.inl ((.object "com/example/chronogate/chronogate/Event"), [.ref 1, .ref 0, .ref 2, .null, .null, .null, .null, .null]))], u) (fun v σ' u' => (¬ t2 < t1 ∧ ¬ t1 < t2 ∧ ¬ s2 < s1 ∧ v = some (.int 0) ∧ [(.inr (cn0, [(fk0, (.long t1)), (fk1, .null), (fk2, .null), (fk3, (.long s1))])), (.inr (cn0, [(fk0, (.long t2)), (fk1, .null), (fk2, .null), (fk3, (.long s2))])), (.inr (cn0, [(fk0, (.long t3)), (fk1, .null), (fk2, .null), (fk3, (.long s3))])), (.inr (cn1, [(fk4, .ref 4), (fk5, .int 3)])), (.inl ((.object "com/example/chronogate/chronogate/Event"), [.ref 1, .ref 0, .ref 2, .null, .null, .null, .null, .null]))] = σ' ∧ u = u') ∨ (¬ t2 < t1 ∧ ¬ t1 < t2 ∧ s2 < s1 ∧ v = some (.int 1) ∧ [(.inr (cn0, [(fk0, (.long t1)), (fk1, .null), (fk2, .null), (fk3, (.long s1))])), (.inr (cn0, [(fk0, (.long t2)), (fk1, .null), (fk2, .null), (fk3, (.long s2))])), (.inr (cn0, [(fk0, (.long t3)), (fk1, .null), (fk2, .null), (fk3, (.long s3))])), (.inr (cn1, [(fk4, .ref 4), (fk5, .int 3)])), (.inl ((.object "com/example/chronogate/chronogate/Event"), [.ref 1, .ref 0, .ref 2, .null, .null, .null, .null, .null]))] = σ' ∧ u = u') ∨ (¬ t2 < t1 ∧ t1 < t2 ∧ v = some (.int 0) ∧ [(.inr (cn0, [(fk0, (.long t1)), (fk1, .null), (fk2, .null), (fk3, (.long s1))])), (.inr (cn0, [(fk0, (.long t2)), (fk1, .null), (fk2, .null), (fk3, (.long s2))])), (.inr (cn0, [(fk0, (.long t3)), (fk1, .null), (fk2, .null), (fk3, (.long s3))])), (.inr (cn1, [(fk4, .ref 4), (fk5, .int 3)])), (.inl ((.object "com/example/chronogate/chronogate/Event"), [.ref 1, .ref 0, .ref 2, .null, .null, .null, .null, .null]))] = σ' ∧ u = u') ∨ (t2 < t1 ∧ v = some (.int 1) ∧ [(.inr (cn0, [(fk0, (.long t1)), (fk1, .null), (fk2, .null), (fk3, (.long s1))])), (.inr (cn0, [(fk0, (.long t2)), (fk1, .null), (fk2, .null), (fk3, (.long s2))])), (.inr (cn0, [(fk0, (.long t3)), (fk1, .null), (fk2, .null), (fk3, (.long s3))])), (.inr (cn1, [(fk4, .ref 4), (fk5, .int 3)])), (.inl ((.object "com/example/chronogate/chronogate/Event"), [.ref 1, .ref 0, .ref 2, .null, .null, .null, .null, .null]))] = σ' ∧ u = u')) := by
  refine .s (.lloadN a8_0 rfl) <| .s (.lload a8_1 rfl) <| .s (.lcmp a8_3) ?_
  refine .geL a8_4 (fun h4 => ?_) (fun h4 => ?_)
  · refine .s (.lloadN a8_9 rfl) <| .s (.lload a8_10 rfl) <| .s (.lcmp a8_12) ?_
    refine .leL a8_13 (fun h13 => ?_) (fun h13 => ?_)
    · refine .s (.lloadN a8_18 rfl) <| .s (.lload a8_19 rfl) <| .s (.lcmp a8_21) ?_
      refine .geL a8_22 (fun h22 => ?_) (fun h22 => ?_)
      · refine .s (.iconst (0 : Int32) a8_29 rfl) ?_
        refine .ireturn .boolean a8_30 rfl (by simp) ?_
        exact Or.inl ⟨h4, h13, h22, rfl, rfl, rfl⟩
      · refine .s (.iconst (1 : Int32) a8_25 rfl) <| .s (.goto a8_26) ?_
        refine .ireturn .boolean a8_30 rfl (by simp) ?_
        exact Or.inr (Or.inl ⟨h4, h13, h22, rfl, rfl, rfl⟩)
    · refine .s (.iconst (0 : Int32) a8_16 rfl) ?_
      refine .ireturn .boolean a8_17 rfl (by simp) ?_
      exact Or.inr (Or.inr (Or.inl ⟨h4, h13, rfl, rfl, rfl⟩))
  · refine .s (.iconst (1 : Int32) a8_7 rfl) ?_
    refine .ireturn .boolean a8_8 rfl (by simp) ?_
    exact Or.inr (Or.inr (Or.inr (⟨h4, rfl, rfl, rfl⟩)))
set_option maxHeartbeats 4000000 in
theorem au8_38 {Z : State} {a0 : Array Value} (hw : ∀ d ∈ tables_1, d.before a0 Z = true) (ρ : Nat → Nat) (n0 : Nat) (t1 : Int64) (t2 : Int64) (t3 : Int64) (s1 : Int64) (s2 : Int64) (s3 : Int64) (u : Nat) : WGo (g8 Z ρ n0 5 u) (0, [wJ t3, wS, wJ s3, wS, wJ t2, wS, wJ s2, wS], [], [(.inr (cn0, [(fk0, (.long t1)), (fk1, .null), (fk2, .null), (fk3, (.long s1))])), (.inr (cn0, [(fk0, (.long t2)), (fk1, .null), (fk2, .null), (fk3, (.long s2))])), (.inr (cn0, [(fk0, (.long t3)), (fk1, .null), (fk2, .null), (fk3, (.long s3))])), (.inr (cn1, [(fk4, .ref 4), (fk5, .int 3)])), (.inl ((.object "com/example/chronogate/chronogate/Event"), [.ref 1, .ref 0, .ref 2, .null, .null, .null, .null, .null]))], u) (fun v σ' u' => (¬ t3 < t2 ∧ ¬ t2 < t3 ∧ ¬ s3 < s2 ∧ v = some (.int 0) ∧ [(.inr (cn0, [(fk0, (.long t1)), (fk1, .null), (fk2, .null), (fk3, (.long s1))])), (.inr (cn0, [(fk0, (.long t2)), (fk1, .null), (fk2, .null), (fk3, (.long s2))])), (.inr (cn0, [(fk0, (.long t3)), (fk1, .null), (fk2, .null), (fk3, (.long s3))])), (.inr (cn1, [(fk4, .ref 4), (fk5, .int 3)])), (.inl ((.object "com/example/chronogate/chronogate/Event"), [.ref 1, .ref 0, .ref 2, .null, .null, .null, .null, .null]))] = σ' ∧ u = u') ∨ (¬ t3 < t2 ∧ ¬ t2 < t3 ∧ s3 < s2 ∧ v = some (.int 1) ∧ [(.inr (cn0, [(fk0, (.long t1)), (fk1, .null), (fk2, .null), (fk3, (.long s1))])), (.inr (cn0, [(fk0, (.long t2)), (fk1, .null), (fk2, .null), (fk3, (.long s2))])), (.inr (cn0, [(fk0, (.long t3)), (fk1, .null), (fk2, .null), (fk3, (.long s3))])), (.inr (cn1, [(fk4, .ref 4), (fk5, .int 3)])), (.inl ((.object "com/example/chronogate/chronogate/Event"), [.ref 1, .ref 0, .ref 2, .null, .null, .null, .null, .null]))] = σ' ∧ u = u') ∨ (¬ t3 < t2 ∧ t2 < t3 ∧ v = some (.int 0) ∧ [(.inr (cn0, [(fk0, (.long t1)), (fk1, .null), (fk2, .null), (fk3, (.long s1))])), (.inr (cn0, [(fk0, (.long t2)), (fk1, .null), (fk2, .null), (fk3, (.long s2))])), (.inr (cn0, [(fk0, (.long t3)), (fk1, .null), (fk2, .null), (fk3, (.long s3))])), (.inr (cn1, [(fk4, .ref 4), (fk5, .int 3)])), (.inl ((.object "com/example/chronogate/chronogate/Event"), [.ref 1, .ref 0, .ref 2, .null, .null, .null, .null, .null]))] = σ' ∧ u = u') ∨ (t3 < t2 ∧ v = some (.int 1) ∧ [(.inr (cn0, [(fk0, (.long t1)), (fk1, .null), (fk2, .null), (fk3, (.long s1))])), (.inr (cn0, [(fk0, (.long t2)), (fk1, .null), (fk2, .null), (fk3, (.long s2))])), (.inr (cn0, [(fk0, (.long t3)), (fk1, .null), (fk2, .null), (fk3, (.long s3))])), (.inr (cn1, [(fk4, .ref 4), (fk5, .int 3)])), (.inl ((.object "com/example/chronogate/chronogate/Event"), [.ref 1, .ref 0, .ref 2, .null, .null, .null, .null, .null]))] = σ' ∧ u = u')) := by
  refine .s (.lloadN a8_0 rfl) <| .s (.lload a8_1 rfl) <| .s (.lcmp a8_3) ?_
  refine .geL a8_4 (fun h4 => ?_) (fun h4 => ?_)
  · refine .s (.lloadN a8_9 rfl) <| .s (.lload a8_10 rfl) <| .s (.lcmp a8_12) ?_
    refine .leL a8_13 (fun h13 => ?_) (fun h13 => ?_)
    · refine .s (.lloadN a8_18 rfl) <| .s (.lload a8_19 rfl) <| .s (.lcmp a8_21) ?_
      refine .geL a8_22 (fun h22 => ?_) (fun h22 => ?_)
      · refine .s (.iconst (0 : Int32) a8_29 rfl) ?_
        refine .ireturn .boolean a8_30 rfl (by simp) ?_
        exact Or.inl ⟨h4, h13, h22, rfl, rfl, rfl⟩
      · refine .s (.iconst (1 : Int32) a8_25 rfl) <| .s (.goto a8_26) ?_
        refine .ireturn .boolean a8_30 rfl (by simp) ?_
        exact Or.inr (Or.inl ⟨h4, h13, h22, rfl, rfl, rfl⟩)
    · refine .s (.iconst (0 : Int32) a8_16 rfl) ?_
      refine .ireturn .boolean a8_17 rfl (by simp) ?_
      exact Or.inr (Or.inr (Or.inl ⟨h4, h13, rfl, rfl, rfl⟩))
  · refine .s (.iconst (1 : Int32) a8_7 rfl) ?_
    refine .ireturn .boolean a8_8 rfl (by simp) ?_
    exact Or.inr (Or.inr (Or.inr (⟨h4, rfl, rfl, rfl⟩)))
set_option maxHeartbeats 4000000 in
theorem au9_39 {Z : State} {a0 : Array Value} (hw : ∀ d ∈ tables_1, d.before a0 Z = true) (ρ : Nat → Nat) (n0 : Nat) (t1 : Int64) (t2 : Int64) (t3 : Int64) (s1 : Int64) (s2 : Int64) (s3 : Int64) (u : Nat) : WGo (g9 Z ρ n0 5 u) (0, [wR 3], [], [(.inr (cn0, [(fk0, (.long t1)), (fk1, .null), (fk2, .null), (fk3, (.long s1))])), (.inr (cn0, [(fk0, (.long t2)), (fk1, .null), (fk2, .null), (fk3, (.long s2))])), (.inr (cn0, [(fk0, (.long t3)), (fk1, .null), (fk2, .null), (fk3, (.long s3))])), (.inr (cn1, [(fk4, .ref 4), (fk5, .int 3)])), (.inl ((.object "com/example/chronogate/chronogate/Event"), [.ref 1, .ref 0, .ref 2, .null, .null, .null, .null, .null]))], u) (fun v σ' u' => v = some (.ref 1) ∧ [(.inr (cn0, [(fk0, (.long t1)), (fk1, .null), (fk2, .null), (fk3, (.long s1))])), (.inr (cn0, [(fk0, (.long t2)), (fk1, .null), (fk2, .null), (fk3, (.long s2))])), (.inr (cn0, [(fk0, (.long t3)), (fk1, .null), (fk2, .null), (fk3, (.long s3))])), (.inr (cn1, [(fk4, .ref 4), (fk5, .int 3)])), (.inl ((.object "com/example/chronogate/chronogate/Event"), [.ref 1, .ref 0, .ref 2, .null, .null, .null, .null, .null]))] = σ' ∧ u = u') := by
  refine .s (.aloadN a9_0 rfl rfl) <| .s (.getF 1 a9_1 (wd hw 36 rfl) rfl rfl) <| .s (.ifT a9_4 (by decide)) <| .s (.aloadN a9_11 rfl rfl) <| .s (.getF 0 a9_12 (wd hw 29 rfl) rfl rfl) <| .s (.iconst (0 : Int32) a9_15 rfl) <| .s (.aaload 0 a9_16 rfl rfl (by decide) rfl rfl) ?_
  refine .areturn (.object "com/example/chronogate/chronogate/Event") a9_17 rfl rfl rfl ?_
  exact ⟨rfl, rfl, rfl⟩
set_option maxHeartbeats 4000000 in
theorem au10_40 {Z : State} {a0 : Array Value} (hw : ∀ d ∈ tables_1, d.before a0 Z = true) (ρ : Nat → Nat) (n0 : Nat) (t1 : Int64) (t2 : Int64) (t3 : Int64) (s1 : Int64) (s2 : Int64) (s3 : Int64) (u : Nat) : WGo (g10 Z ρ n0 5 u) (0, [wR 3], [], [(.inr (cn0, [(fk0, (.long t1)), (fk1, .null), (fk2, .null), (fk3, (.long s1))])), (.inr (cn0, [(fk0, (.long t2)), (fk1, .null), (fk2, .null), (fk3, (.long s2))])), (.inr (cn0, [(fk0, (.long t3)), (fk1, .null), (fk2, .null), (fk3, (.long s3))])), (.inr (cn1, [(fk4, .ref 4), (fk5, .int 3)])), (.inl ((.object "com/example/chronogate/chronogate/Event"), [.ref 1, .ref 0, .ref 2, .null, .null, .null, .null, .null]))], u) (fun v σ' u' => v = some (.int 3) ∧ [(.inr (cn0, [(fk0, (.long t1)), (fk1, .null), (fk2, .null), (fk3, (.long s1))])), (.inr (cn0, [(fk0, (.long t2)), (fk1, .null), (fk2, .null), (fk3, (.long s2))])), (.inr (cn0, [(fk0, (.long t3)), (fk1, .null), (fk2, .null), (fk3, (.long s3))])), (.inr (cn1, [(fk4, .ref 4), (fk5, .int 3)])), (.inl ((.object "com/example/chronogate/chronogate/Event"), [.ref 1, .ref 0, .ref 2, .null, .null, .null, .null, .null]))] = σ' ∧ u = u') := by
  refine .s (.aloadN a10_0 rfl rfl) <| .s (.getF 1 a10_1 (wd hw 36 rfl) rfl rfl) ?_
  refine .ireturn .int a10_4 rfl (by simp) ?_
  exact ⟨rfl, rfl, rfl⟩
set_option maxHeartbeats 4000000 in
theorem au8_41 {Z : State} {a0 : Array Value} (hw : ∀ d ∈ tables_1, d.before a0 Z = true) (ρ : Nat → Nat) (n0 : Nat) (t1 : Int64) (t2 : Int64) (t3 : Int64) (s1 : Int64) (s2 : Int64) (s3 : Int64) (u : Nat) : WGo (g8 Z ρ n0 5 u) (0, [wJ t2, wS, wJ s2, wS, wJ t1, wS, wJ s1, wS], [], [(.inr (cn0, [(fk0, (.long t1)), (fk1, .null), (fk2, .null), (fk3, (.long s1))])), (.inr (cn0, [(fk0, (.long t2)), (fk1, .null), (fk2, .null), (fk3, (.long s2))])), (.inr (cn0, [(fk0, (.long t3)), (fk1, .null), (fk2, .null), (fk3, (.long s3))])), (.inr (cn1, [(fk4, .ref 4), (fk5, .int 3)])), (.inl ((.object "com/example/chronogate/chronogate/Event"), [.ref 2, .ref 0, .ref 1, .null, .null, .null, .null, .null]))], u) (fun v σ' u' => (¬ t2 < t1 ∧ ¬ t1 < t2 ∧ ¬ s2 < s1 ∧ v = some (.int 0) ∧ [(.inr (cn0, [(fk0, (.long t1)), (fk1, .null), (fk2, .null), (fk3, (.long s1))])), (.inr (cn0, [(fk0, (.long t2)), (fk1, .null), (fk2, .null), (fk3, (.long s2))])), (.inr (cn0, [(fk0, (.long t3)), (fk1, .null), (fk2, .null), (fk3, (.long s3))])), (.inr (cn1, [(fk4, .ref 4), (fk5, .int 3)])), (.inl ((.object "com/example/chronogate/chronogate/Event"), [.ref 2, .ref 0, .ref 1, .null, .null, .null, .null, .null]))] = σ' ∧ u = u') ∨ (¬ t2 < t1 ∧ ¬ t1 < t2 ∧ s2 < s1 ∧ v = some (.int 1) ∧ [(.inr (cn0, [(fk0, (.long t1)), (fk1, .null), (fk2, .null), (fk3, (.long s1))])), (.inr (cn0, [(fk0, (.long t2)), (fk1, .null), (fk2, .null), (fk3, (.long s2))])), (.inr (cn0, [(fk0, (.long t3)), (fk1, .null), (fk2, .null), (fk3, (.long s3))])), (.inr (cn1, [(fk4, .ref 4), (fk5, .int 3)])), (.inl ((.object "com/example/chronogate/chronogate/Event"), [.ref 2, .ref 0, .ref 1, .null, .null, .null, .null, .null]))] = σ' ∧ u = u') ∨ (¬ t2 < t1 ∧ t1 < t2 ∧ v = some (.int 0) ∧ [(.inr (cn0, [(fk0, (.long t1)), (fk1, .null), (fk2, .null), (fk3, (.long s1))])), (.inr (cn0, [(fk0, (.long t2)), (fk1, .null), (fk2, .null), (fk3, (.long s2))])), (.inr (cn0, [(fk0, (.long t3)), (fk1, .null), (fk2, .null), (fk3, (.long s3))])), (.inr (cn1, [(fk4, .ref 4), (fk5, .int 3)])), (.inl ((.object "com/example/chronogate/chronogate/Event"), [.ref 2, .ref 0, .ref 1, .null, .null, .null, .null, .null]))] = σ' ∧ u = u') ∨ (t2 < t1 ∧ v = some (.int 1) ∧ [(.inr (cn0, [(fk0, (.long t1)), (fk1, .null), (fk2, .null), (fk3, (.long s1))])), (.inr (cn0, [(fk0, (.long t2)), (fk1, .null), (fk2, .null), (fk3, (.long s2))])), (.inr (cn0, [(fk0, (.long t3)), (fk1, .null), (fk2, .null), (fk3, (.long s3))])), (.inr (cn1, [(fk4, .ref 4), (fk5, .int 3)])), (.inl ((.object "com/example/chronogate/chronogate/Event"), [.ref 2, .ref 0, .ref 1, .null, .null, .null, .null, .null]))] = σ' ∧ u = u')) := by
  refine .s (.lloadN a8_0 rfl) <| .s (.lload a8_1 rfl) <| .s (.lcmp a8_3) ?_
  refine .geL a8_4 (fun h4 => ?_) (fun h4 => ?_)
  · refine .s (.lloadN a8_9 rfl) <| .s (.lload a8_10 rfl) <| .s (.lcmp a8_12) ?_
    refine .leL a8_13 (fun h13 => ?_) (fun h13 => ?_)
    · refine .s (.lloadN a8_18 rfl) <| .s (.lload a8_19 rfl) <| .s (.lcmp a8_21) ?_
      refine .geL a8_22 (fun h22 => ?_) (fun h22 => ?_)
      · refine .s (.iconst (0 : Int32) a8_29 rfl) ?_
        refine .ireturn .boolean a8_30 rfl (by simp) ?_
        exact Or.inl ⟨h4, h13, h22, rfl, rfl, rfl⟩
      · refine .s (.iconst (1 : Int32) a8_25 rfl) <| .s (.goto a8_26) ?_
        refine .ireturn .boolean a8_30 rfl (by simp) ?_
        exact Or.inr (Or.inl ⟨h4, h13, h22, rfl, rfl, rfl⟩)
    · refine .s (.iconst (0 : Int32) a8_16 rfl) ?_
      refine .ireturn .boolean a8_17 rfl (by simp) ?_
      exact Or.inr (Or.inr (Or.inl ⟨h4, h13, rfl, rfl, rfl⟩))
  · refine .s (.iconst (1 : Int32) a8_7 rfl) ?_
    refine .ireturn .boolean a8_8 rfl (by simp) ?_
    exact Or.inr (Or.inr (Or.inr (⟨h4, rfl, rfl, rfl⟩)))
set_option maxHeartbeats 4000000 in
theorem au8_42 {Z : State} {a0 : Array Value} (hw : ∀ d ∈ tables_1, d.before a0 Z = true) (ρ : Nat → Nat) (n0 : Nat) (t1 : Int64) (t2 : Int64) (t3 : Int64) (s1 : Int64) (s2 : Int64) (s3 : Int64) (u : Nat) : WGo (g8 Z ρ n0 5 u) (0, [wJ t3, wS, wJ s3, wS, wJ t2, wS, wJ s2, wS], [], [(.inr (cn0, [(fk0, (.long t1)), (fk1, .null), (fk2, .null), (fk3, (.long s1))])), (.inr (cn0, [(fk0, (.long t2)), (fk1, .null), (fk2, .null), (fk3, (.long s2))])), (.inr (cn0, [(fk0, (.long t3)), (fk1, .null), (fk2, .null), (fk3, (.long s3))])), (.inr (cn1, [(fk4, .ref 4), (fk5, .int 3)])), (.inl ((.object "com/example/chronogate/chronogate/Event"), [.ref 2, .ref 0, .ref 1, .null, .null, .null, .null, .null]))], u) (fun v σ' u' => (¬ t3 < t2 ∧ ¬ t2 < t3 ∧ ¬ s3 < s2 ∧ v = some (.int 0) ∧ [(.inr (cn0, [(fk0, (.long t1)), (fk1, .null), (fk2, .null), (fk3, (.long s1))])), (.inr (cn0, [(fk0, (.long t2)), (fk1, .null), (fk2, .null), (fk3, (.long s2))])), (.inr (cn0, [(fk0, (.long t3)), (fk1, .null), (fk2, .null), (fk3, (.long s3))])), (.inr (cn1, [(fk4, .ref 4), (fk5, .int 3)])), (.inl ((.object "com/example/chronogate/chronogate/Event"), [.ref 2, .ref 0, .ref 1, .null, .null, .null, .null, .null]))] = σ' ∧ u = u') ∨ (¬ t3 < t2 ∧ ¬ t2 < t3 ∧ s3 < s2 ∧ v = some (.int 1) ∧ [(.inr (cn0, [(fk0, (.long t1)), (fk1, .null), (fk2, .null), (fk3, (.long s1))])), (.inr (cn0, [(fk0, (.long t2)), (fk1, .null), (fk2, .null), (fk3, (.long s2))])), (.inr (cn0, [(fk0, (.long t3)), (fk1, .null), (fk2, .null), (fk3, (.long s3))])), (.inr (cn1, [(fk4, .ref 4), (fk5, .int 3)])), (.inl ((.object "com/example/chronogate/chronogate/Event"), [.ref 2, .ref 0, .ref 1, .null, .null, .null, .null, .null]))] = σ' ∧ u = u') ∨ (¬ t3 < t2 ∧ t2 < t3 ∧ v = some (.int 0) ∧ [(.inr (cn0, [(fk0, (.long t1)), (fk1, .null), (fk2, .null), (fk3, (.long s1))])), (.inr (cn0, [(fk0, (.long t2)), (fk1, .null), (fk2, .null), (fk3, (.long s2))])), (.inr (cn0, [(fk0, (.long t3)), (fk1, .null), (fk2, .null), (fk3, (.long s3))])), (.inr (cn1, [(fk4, .ref 4), (fk5, .int 3)])), (.inl ((.object "com/example/chronogate/chronogate/Event"), [.ref 2, .ref 0, .ref 1, .null, .null, .null, .null, .null]))] = σ' ∧ u = u') ∨ (t3 < t2 ∧ v = some (.int 1) ∧ [(.inr (cn0, [(fk0, (.long t1)), (fk1, .null), (fk2, .null), (fk3, (.long s1))])), (.inr (cn0, [(fk0, (.long t2)), (fk1, .null), (fk2, .null), (fk3, (.long s2))])), (.inr (cn0, [(fk0, (.long t3)), (fk1, .null), (fk2, .null), (fk3, (.long s3))])), (.inr (cn1, [(fk4, .ref 4), (fk5, .int 3)])), (.inl ((.object "com/example/chronogate/chronogate/Event"), [.ref 2, .ref 0, .ref 1, .null, .null, .null, .null, .null]))] = σ' ∧ u = u')) := by
  refine .s (.lloadN a8_0 rfl) <| .s (.lload a8_1 rfl) <| .s (.lcmp a8_3) ?_
  refine .geL a8_4 (fun h4 => ?_) (fun h4 => ?_)
  · refine .s (.lloadN a8_9 rfl) <| .s (.lload a8_10 rfl) <| .s (.lcmp a8_12) ?_
    refine .leL a8_13 (fun h13 => ?_) (fun h13 => ?_)
    · refine .s (.lloadN a8_18 rfl) <| .s (.lload a8_19 rfl) <| .s (.lcmp a8_21) ?_
      refine .geL a8_22 (fun h22 => ?_) (fun h22 => ?_)
      · refine .s (.iconst (0 : Int32) a8_29 rfl) ?_
        refine .ireturn .boolean a8_30 rfl (by simp) ?_
        exact Or.inl ⟨h4, h13, h22, rfl, rfl, rfl⟩
      · refine .s (.iconst (1 : Int32) a8_25 rfl) <| .s (.goto a8_26) ?_
        refine .ireturn .boolean a8_30 rfl (by simp) ?_
        exact Or.inr (Or.inl ⟨h4, h13, h22, rfl, rfl, rfl⟩)
    · refine .s (.iconst (0 : Int32) a8_16 rfl) ?_
      refine .ireturn .boolean a8_17 rfl (by simp) ?_
      exact Or.inr (Or.inr (Or.inl ⟨h4, h13, rfl, rfl, rfl⟩))
  · refine .s (.iconst (1 : Int32) a8_7 rfl) ?_
    refine .ireturn .boolean a8_8 rfl (by simp) ?_
    exact Or.inr (Or.inr (Or.inr (⟨h4, rfl, rfl, rfl⟩)))
set_option maxHeartbeats 4000000 in
theorem au9_43 {Z : State} {a0 : Array Value} (hw : ∀ d ∈ tables_1, d.before a0 Z = true) (ρ : Nat → Nat) (n0 : Nat) (t1 : Int64) (t2 : Int64) (t3 : Int64) (s1 : Int64) (s2 : Int64) (s3 : Int64) (u : Nat) : WGo (g9 Z ρ n0 5 u) (0, [wR 3], [], [(.inr (cn0, [(fk0, (.long t1)), (fk1, .null), (fk2, .null), (fk3, (.long s1))])), (.inr (cn0, [(fk0, (.long t2)), (fk1, .null), (fk2, .null), (fk3, (.long s2))])), (.inr (cn0, [(fk0, (.long t3)), (fk1, .null), (fk2, .null), (fk3, (.long s3))])), (.inr (cn1, [(fk4, .ref 4), (fk5, .int 3)])), (.inl ((.object "com/example/chronogate/chronogate/Event"), [.ref 2, .ref 0, .ref 1, .null, .null, .null, .null, .null]))], u) (fun v σ' u' => v = some (.ref 2) ∧ [(.inr (cn0, [(fk0, (.long t1)), (fk1, .null), (fk2, .null), (fk3, (.long s1))])), (.inr (cn0, [(fk0, (.long t2)), (fk1, .null), (fk2, .null), (fk3, (.long s2))])), (.inr (cn0, [(fk0, (.long t3)), (fk1, .null), (fk2, .null), (fk3, (.long s3))])), (.inr (cn1, [(fk4, .ref 4), (fk5, .int 3)])), (.inl ((.object "com/example/chronogate/chronogate/Event"), [.ref 2, .ref 0, .ref 1, .null, .null, .null, .null, .null]))] = σ' ∧ u = u') := by
  refine .s (.aloadN a9_0 rfl rfl) <| .s (.getF 1 a9_1 (wd hw 36 rfl) rfl rfl) <| .s (.ifT a9_4 (by decide)) <| .s (.aloadN a9_11 rfl rfl) <| .s (.getF 0 a9_12 (wd hw 29 rfl) rfl rfl) <| .s (.iconst (0 : Int32) a9_15 rfl) <| .s (.aaload 0 a9_16 rfl rfl (by decide) rfl rfl) ?_
  refine .areturn (.object "com/example/chronogate/chronogate/Event") a9_17 rfl rfl rfl ?_
  exact ⟨rfl, rfl, rfl⟩
set_option maxHeartbeats 4000000 in
theorem au10_44 {Z : State} {a0 : Array Value} (hw : ∀ d ∈ tables_1, d.before a0 Z = true) (ρ : Nat → Nat) (n0 : Nat) (t1 : Int64) (t2 : Int64) (t3 : Int64) (s1 : Int64) (s2 : Int64) (s3 : Int64) (u : Nat) : WGo (g10 Z ρ n0 5 u) (0, [wR 3], [], [(.inr (cn0, [(fk0, (.long t1)), (fk1, .null), (fk2, .null), (fk3, (.long s1))])), (.inr (cn0, [(fk0, (.long t2)), (fk1, .null), (fk2, .null), (fk3, (.long s2))])), (.inr (cn0, [(fk0, (.long t3)), (fk1, .null), (fk2, .null), (fk3, (.long s3))])), (.inr (cn1, [(fk4, .ref 4), (fk5, .int 3)])), (.inl ((.object "com/example/chronogate/chronogate/Event"), [.ref 2, .ref 0, .ref 1, .null, .null, .null, .null, .null]))], u) (fun v σ' u' => v = some (.int 3) ∧ [(.inr (cn0, [(fk0, (.long t1)), (fk1, .null), (fk2, .null), (fk3, (.long s1))])), (.inr (cn0, [(fk0, (.long t2)), (fk1, .null), (fk2, .null), (fk3, (.long s2))])), (.inr (cn0, [(fk0, (.long t3)), (fk1, .null), (fk2, .null), (fk3, (.long s3))])), (.inr (cn1, [(fk4, .ref 4), (fk5, .int 3)])), (.inl ((.object "com/example/chronogate/chronogate/Event"), [.ref 2, .ref 0, .ref 1, .null, .null, .null, .null, .null]))] = σ' ∧ u = u') := by
  refine .s (.aloadN a10_0 rfl rfl) <| .s (.getF 1 a10_1 (wd hw 36 rfl) rfl rfl) ?_
  refine .ireturn .int a10_4 rfl (by simp) ?_
  exact ⟨rfl, rfl, rfl⟩
set_option maxHeartbeats 40000000 in
theorem seg3 (Z : State) (a0 : Array Value) (hw : ∀ d ∈ tables_1, d.before a0 Z = true) (n0 : Nat) (t1 t2 t3 s1 s2 : Int64) (mode : Int32) (s3 : Int64) : WGo (g0 Z (fun k => n0 + k) n0 0 0) (13, [wJ t1, wS, wJ t2, wS, wJ t3, wS, wJ s1, wS, wJ s2, wS, wI mode, wI 3, wJ s3, wS, wU, wU, wU, wU, wU, wU, wU, wU, wU, wU, wU], [], [], 0) (fun v σ' u' => v = some (.int 1) ∧ σ'.length ≤ 24 ∧ u' ≤ 128) := by
  refine .s (.newO (k := 0) [(fk0, .long 0), (fk1, .null), (fk2, .null), (fk3, .long 0)] a0_13 (wd hw 0 rfl) (wd hw 1 rfl) (wd hw 2 rfl) ⟨⟨Or.inr (wd hw 10 rfl), .long, by decide, rfl⟩, ⟨Or.inr (wd hw 12 rfl), (.object "java/util/List"), by decide, rfl⟩, ⟨Or.inr (wd hw 14 rfl), (.object "java/lang/Object"), by decide, rfl⟩, ⟨Or.inr (wd hw 16 rfl), .long, by decide, rfl⟩, trivial⟩ (by decide) rfl (by decide)) ?_
  show WGo _ (16, [wJ t1, wS, wJ t2, wS, wJ t3, wS, wJ s1, wS, wJ s2, wS, wI mode, wI 3, wJ s3, wS, wU, wU, wU, wU, wU, wU, wU, wU, wU, wU, wU], [.ref 0], [(.inr (cn0, [(fk0, .long 0), (fk1, .null), (fk2, .null), (fk3, .long 0)]))], 4) _
  refine .s (.dup a0_16 rfl) <| .s (.lloadN a0_17 rfl) <| .s (.aconstNull a0_18) <| .s (.aconstNull a0_19) <| .s (.lload a0_20 rfl) ?_
  refine .callI (k := 0) a0_22 (ok1 hw _ _ _ _) rfl rfl (wd hw 3 rfl) (wd hw 4 rfl) (by decide) (argsL := [(.long t1), .null, .null, (.long s1)]) (S := [.ref 0]) (au1_1 hw _ _ t1 s1 _) rfl rfl rfl rfl rfl rfl (Nat.le_of_ble_eq_true rfl) (Nat.le_of_ble_eq_true rfl) ?_
  rintro _ _ _ ⟨rfl, rfl, rfl⟩
  show WGo _ (25, [wJ t1, wS, wJ t2, wS, wJ t3, wS, wJ s1, wS, wJ s2, wS, wI mode, wI 3, wJ s3, wS, wU, wU, wU, wU, wU, wU, wU, wU, wU, wU, wU], [.ref 0], [(.inr (cn0, [(fk0, (.long t1)), (fk1, .null), (fk2, .null), (fk3, (.long s1))]))], 4) _
  refine .s (.astore (L' := [wJ t1, wS, wJ t2, wS, wJ t3, wS, wJ s1, wS, wJ s2, wS, wI mode, wI 3, wJ s3, wS, wR 0, wU, wU, wU, wU, wU, wU, wU, wU, wU, wU]) a0_25 rfl rfl) <| .s (.newO (k := 1) [(fk0, .long 0), (fk1, .null), (fk2, .null), (fk3, .long 0)] a0_27 (wd hw 0 rfl) (wd hw 1 rfl) (wd hw 2 rfl) ⟨⟨Or.inr (wd hw 10 rfl), .long, by decide, rfl⟩, ⟨Or.inr (wd hw 12 rfl), (.object "java/util/List"), by decide, rfl⟩, ⟨Or.inr (wd hw 14 rfl), (.object "java/lang/Object"), by decide, rfl⟩, ⟨Or.inr (wd hw 16 rfl), .long, by decide, rfl⟩, trivial⟩ (by decide) rfl (by decide)) ?_
  show WGo _ (30, [wJ t1, wS, wJ t2, wS, wJ t3, wS, wJ s1, wS, wJ s2, wS, wI mode, wI 3, wJ s3, wS, wR 0, wU, wU, wU, wU, wU, wU, wU, wU, wU, wU], [.ref 1], [(.inr (cn0, [(fk0, (.long t1)), (fk1, .null), (fk2, .null), (fk3, (.long s1))])), (.inr (cn0, [(fk0, .long 0), (fk1, .null), (fk2, .null), (fk3, .long 0)]))], 8) _
  refine .s (.dup a0_30 rfl) <| .s (.lloadN a0_31 rfl) <| .s (.aconstNull a0_32) <| .s (.aconstNull a0_33) <| .s (.lload a0_34 rfl) ?_
  refine .callI (k := 1) a0_36 (ok1 hw _ _ _ _) rfl rfl (wd hw 3 rfl) (wd hw 4 rfl) (by decide) (argsL := [(.long t2), .null, .null, (.long s2)]) (S := [.ref 1]) (au1_2 hw _ _ t1 t2 s1 s2 _) rfl rfl rfl rfl rfl rfl (Nat.le_of_ble_eq_true rfl) (Nat.le_of_ble_eq_true rfl) ?_
  rintro _ _ _ ⟨rfl, rfl, rfl⟩
  show WGo _ (39, [wJ t1, wS, wJ t2, wS, wJ t3, wS, wJ s1, wS, wJ s2, wS, wI mode, wI 3, wJ s3, wS, wR 0, wU, wU, wU, wU, wU, wU, wU, wU, wU, wU], [.ref 1], [(.inr (cn0, [(fk0, (.long t1)), (fk1, .null), (fk2, .null), (fk3, (.long s1))])), (.inr (cn0, [(fk0, (.long t2)), (fk1, .null), (fk2, .null), (fk3, (.long s2))]))], 8) _
  refine .s (.astore (L' := [wJ t1, wS, wJ t2, wS, wJ t3, wS, wJ s1, wS, wJ s2, wS, wI mode, wI 3, wJ s3, wS, wR 0, wR 1, wU, wU, wU, wU, wU, wU, wU, wU, wU]) a0_39 rfl rfl) <| .s (.newO (k := 2) [(fk0, .long 0), (fk1, .null), (fk2, .null), (fk3, .long 0)] a0_41 (wd hw 0 rfl) (wd hw 1 rfl) (wd hw 2 rfl) ⟨⟨Or.inr (wd hw 10 rfl), .long, by decide, rfl⟩, ⟨Or.inr (wd hw 12 rfl), (.object "java/util/List"), by decide, rfl⟩, ⟨Or.inr (wd hw 14 rfl), (.object "java/lang/Object"), by decide, rfl⟩, ⟨Or.inr (wd hw 16 rfl), .long, by decide, rfl⟩, trivial⟩ (by decide) rfl (by decide)) ?_
  show WGo _ (44, [wJ t1, wS, wJ t2, wS, wJ t3, wS, wJ s1, wS, wJ s2, wS, wI mode, wI 3, wJ s3, wS, wR 0, wR 1, wU, wU, wU, wU, wU, wU, wU, wU, wU], [.ref 2], [(.inr (cn0, [(fk0, (.long t1)), (fk1, .null), (fk2, .null), (fk3, (.long s1))])), (.inr (cn0, [(fk0, (.long t2)), (fk1, .null), (fk2, .null), (fk3, (.long s2))])), (.inr (cn0, [(fk0, .long 0), (fk1, .null), (fk2, .null), (fk3, .long 0)]))], 12) _
  refine .s (.dup a0_44 rfl) <| .s (.lload a0_45 rfl) <| .s (.aconstNull a0_47) <| .s (.aconstNull a0_48) <| .s (.lload a0_49 rfl) ?_
  refine .callI (k := 2) a0_51 (ok1 hw _ _ _ _) rfl rfl (wd hw 3 rfl) (wd hw 4 rfl) (by decide) (argsL := [(.long t3), .null, .null, (.long s3)]) (S := [.ref 2]) (au1_3 hw _ _ t1 t2 t3 s1 s2 s3 _) rfl rfl rfl rfl rfl rfl (Nat.le_of_ble_eq_true rfl) (Nat.le_of_ble_eq_true rfl) ?_
  rintro _ _ _ ⟨rfl, rfl, rfl⟩
  show WGo _ (54, [wJ t1, wS, wJ t2, wS, wJ t3, wS, wJ s1, wS, wJ s2, wS, wI mode, wI 3, wJ s3, wS, wR 0, wR 1, wU, wU, wU, wU, wU, wU, wU, wU, wU], [.ref 2], [(.inr (cn0, [(fk0, (.long t1)), (fk1, .null), (fk2, .null), (fk3, (.long s1))])), (.inr (cn0, [(fk0, (.long t2)), (fk1, .null), (fk2, .null), (fk3, (.long s2))])), (.inr (cn0, [(fk0, (.long t3)), (fk1, .null), (fk2, .null), (fk3, (.long s3))]))], 12) _
  refine .s (.astore (L' := [wJ t1, wS, wJ t2, wS, wJ t3, wS, wJ s1, wS, wJ s2, wS, wI mode, wI 3, wJ s3, wS, wR 0, wR 1, wR 2, wU, wU, wU, wU, wU, wU, wU, wU]) a0_54 rfl rfl) <| .s (.newO (k := 3) [(fk4, .null), (fk5, .int 0)] a0_56 (wd hw 17 rfl) (wd hw 18 rfl) (wd hw 19 rfl) ⟨⟨Or.inl (wd hw 30 rfl), (.array (.object "com/example/chronogate/chronogate/Event")), by decide, rfl⟩, ⟨Or.inl (wd hw 37 rfl), .int, by decide, rfl⟩, trivial⟩ (by decide) rfl (by decide)) ?_
  show WGo _ (59, [wJ t1, wS, wJ t2, wS, wJ t3, wS, wJ s1, wS, wJ s2, wS, wI mode, wI 3, wJ s3, wS, wR 0, wR 1, wR 2, wU, wU, wU, wU, wU, wU, wU, wU], [.ref 3], [(.inr (cn0, [(fk0, (.long t1)), (fk1, .null), (fk2, .null), (fk3, (.long s1))])), (.inr (cn0, [(fk0, (.long t2)), (fk1, .null), (fk2, .null), (fk3, (.long s2))])), (.inr (cn0, [(fk0, (.long t3)), (fk1, .null), (fk2, .null), (fk3, (.long s3))])), (.inr (cn1, [(fk4, .null), (fk5, .int 0)]))], 14) _
  refine .s (.dup a0_59 rfl) ?_
  refine .callI (k := 3) a0_60 (ok3 hw _ _ _ _) rfl rfl (wd hw 20 rfl) (wd hw 21 rfl) (by decide) (argsL := []) (S := [.ref 3]) (au3_4 hw _ _ t1 t2 t3 s1 s2 s3 _) rfl rfl rfl rfl rfl rfl (Nat.le_of_ble_eq_true rfl) (Nat.le_of_ble_eq_true rfl) ?_
  rintro _ _ _ ⟨rfl, rfl, rfl⟩
  show WGo _ (63, [wJ t1, wS, wJ t2, wS, wJ t3, wS, wJ s1, wS, wJ s2, wS, wI mode, wI 3, wJ s3, wS, wR 0, wR 1, wR 2, wU, wU, wU, wU, wU, wU, wU, wU], [.ref 3], [(.inr (cn0, [(fk0, (.long t1)), (fk1, .null), (fk2, .null), (fk3, (.long s1))])), (.inr (cn0, [(fk0, (.long t2)), (fk1, .null), (fk2, .null), (fk3, (.long s2))])), (.inr (cn0, [(fk0, (.long t3)), (fk1, .null), (fk2, .null), (fk3, (.long s3))])), (.inr (cn1, [(fk4, .ref 4), (fk5, .int 0)])), (.inl ((.object "com/example/chronogate/chronogate/Event"), [.null, .null, .null, .null, .null, .null, .null, .null]))], 22) _
  refine .s (.astore (L' := [wJ t1, wS, wJ t2, wS, wJ t3, wS, wJ s1, wS, wJ s2, wS, wI mode, wI 3, wJ s3, wS, wR 0, wR 1, wR 2, wR 3, wU, wU, wU, wU, wU, wU, wU]) a0_63 rfl rfl) <| .s (.iload a0_65 rfl) <| .s (.iconst (1 : Int32) a0_67 rfl) <| .s (.icmpF a0_68 (by decide)) <| .s (.aload a0_71 rfl rfl) <| .s (.aload a0_73 rfl rfl) ?_
  refine .callV (k := 3) (z := (⟨"com/example/chronogate/chronogate/ReleaseQueue", "add", "(Lcom/example/chronogate/chronogate/Event;)V"⟩ : MethodName)) a0_75 (ok5 hw _ _ _ _) ⟨rfl, by decide⟩ (wd hw 31 rfl) (wd hw 32 rfl) (fun s hZ => notFace_of_selects (args := #[]) (mvT hZ (wd hw 34 rfl))) (wd hw 34 rfl) (wd hw 33 rfl) rfl (argsL := [.ref 0]) (S := []) (au5_8 hw _ _ t1 t2 t3 s1 s2 s3 _) rfl rfl rfl rfl rfl rfl (Nat.le_of_ble_eq_true rfl) (Nat.le_of_ble_eq_true rfl) ?_
  rintro _ _ _ ⟨rfl, rfl, rfl⟩
  show WGo _ (78, [wJ t1, wS, wJ t2, wS, wJ t3, wS, wJ s1, wS, wJ s2, wS, wI mode, wI 3, wJ s3, wS, wR 0, wR 1, wR 2, wR 3, wU, wU, wU, wU, wU, wU, wU], [], [(.inr (cn0, [(fk0, (.long t1)), (fk1, .null), (fk2, .null), (fk3, (.long s1))])), (.inr (cn0, [(fk0, (.long t2)), (fk1, .null), (fk2, .null), (fk3, (.long s2))])), (.inr (cn0, [(fk0, (.long t3)), (fk1, .null), (fk2, .null), (fk3, (.long s3))])), (.inr (cn1, [(fk4, .ref 4), (fk5, .int 1)])), (.inl ((.object "com/example/chronogate/chronogate/Event"), [.ref 0, .null, .null, .null, .null, .null, .null, .null]))], 22) _
  refine .s (.iload a0_78 rfl) <| .s (.iconst (2 : Int32) a0_80 rfl) <| .s (.icmpF a0_81 (by decide)) <| .s (.aload a0_84 rfl rfl) <| .s (.aload a0_86 rfl rfl) ?_
  refine .callV (k := 3) (z := (⟨"com/example/chronogate/chronogate/ReleaseQueue", "add", "(Lcom/example/chronogate/chronogate/Event;)V"⟩ : MethodName)) a0_88 (ok5 hw _ _ _ _) ⟨rfl, by decide⟩ (wd hw 31 rfl) (wd hw 32 rfl) (fun s hZ => notFace_of_selects (args := #[]) (mvT hZ (wd hw 34 rfl))) (wd hw 34 rfl) (wd hw 33 rfl) rfl (argsL := [.ref 1]) (S := []) (au5_11 hw _ _ t1 t2 t3 s1 s2 s3 _) rfl rfl rfl rfl rfl rfl (Nat.le_of_ble_eq_true rfl) (Nat.le_of_ble_eq_true rfl) ?_
  rintro _ _ _ (⟨q84, q85, rfl, rfl, rfl⟩ | ⟨q86, q87, q88, q89, rfl, rfl, rfl⟩ | ⟨q90, q91, q92, q93, rfl, rfl, rfl⟩ | ⟨q94, q95, q96, rfl, rfl, rfl⟩ | ⟨q97, rfl, rfl, rfl⟩)
  · skip
    show WGo _ (91, [wJ t1, wS, wJ t2, wS, wJ t3, wS, wJ s1, wS, wJ s2, wS, wI mode, wI 3, wJ s3, wS, wR 0, wR 1, wR 2, wR 3, wU, wU, wU, wU, wU, wU, wU], [], [(.inr (cn0, [(fk0, (.long t1)), (fk1, .null), (fk2, .null), (fk3, (.long s1))])), (.inr (cn0, [(fk0, (.long t2)), (fk1, .null), (fk2, .null), (fk3, (.long s2))])), (.inr (cn0, [(fk0, (.long t3)), (fk1, .null), (fk2, .null), (fk3, (.long s3))])), (.inr (cn1, [(fk4, .ref 4), (fk5, .int 2)])), (.inl ((.object "com/example/chronogate/chronogate/Event"), [.ref 0, .ref 1, .null, .null, .null, .null, .null, .null]))], 22) _
    refine .s (.iload a0_91 rfl) <| .s (.iconst (3 : Int32) a0_93 rfl) <| .s (.icmpF a0_94 (by decide)) <| .s (.aload a0_97 rfl rfl) <| .s (.aload a0_99 rfl rfl) ?_
    refine .callV (k := 3) (z := (⟨"com/example/chronogate/chronogate/ReleaseQueue", "add", "(Lcom/example/chronogate/chronogate/Event;)V"⟩ : MethodName)) a0_101 (ok5 hw _ _ _ _) ⟨rfl, by decide⟩ (wd hw 31 rfl) (wd hw 32 rfl) (fun s hZ => notFace_of_selects (args := #[]) (mvT hZ (wd hw 34 rfl))) (wd hw 34 rfl) (wd hw 33 rfl) rfl (argsL := [.ref 2]) (S := []) (au5_21 hw _ _ t1 t2 t3 s1 s2 s3 _) rfl rfl rfl rfl rfl rfl (Nat.le_of_ble_eq_true rfl) (Nat.le_of_ble_eq_true rfl) ?_
    rintro _ _ _ (⟨q122, q123, rfl, rfl, rfl⟩ | ⟨q124, q125, q126, q127, rfl, rfl, rfl⟩ | ⟨q128, q129, q130, q131, rfl, rfl, rfl⟩ | ⟨q132, q133, q134, rfl, rfl, rfl⟩ | ⟨q135, rfl, rfl, rfl⟩)
    · skip
      show WGo _ (104, [wJ t1, wS, wJ t2, wS, wJ t3, wS, wJ s1, wS, wJ s2, wS, wI mode, wI 3, wJ s3, wS, wR 0, wR 1, wR 2, wR 3, wU, wU, wU, wU, wU, wU, wU], [], [(.inr (cn0, [(fk0, (.long t1)), (fk1, .null), (fk2, .null), (fk3, (.long s1))])), (.inr (cn0, [(fk0, (.long t2)), (fk1, .null), (fk2, .null), (fk3, (.long s2))])), (.inr (cn0, [(fk0, (.long t3)), (fk1, .null), (fk2, .null), (fk3, (.long s3))])), (.inr (cn1, [(fk4, .ref 4), (fk5, .int 3)])), (.inl ((.object "com/example/chronogate/chronogate/Event"), [.ref 0, .ref 1, .ref 2, .null, .null, .null, .null, .null]))], 22) _
      refine .s (.aconstNull a0_104) <| .s (.astore (L' := [wJ t1, wS, wJ t2, wS, wJ t3, wS, wJ s1, wS, wJ s2, wS, wI mode, wI 3, wJ s3, wS, wR 0, wR 1, wR 2, wR 3, wN, wU, wU, wU, wU, wU, wU]) a0_105 rfl rfl) <| .s (.lloadN a0_107 rfl) <| .s (.lstore (L' := [wJ t1, wS, wJ t2, wS, wJ t3, wS, wJ s1, wS, wJ s2, wS, wI mode, wI 3, wJ s3, wS, wR 0, wR 1, wR 2, wR 3, wN, wJ t1, wS, wU, wU, wU, wU]) a0_108 rfl) <| .s (.lload a0_110 rfl) <| .s (.lstore (L' := [wJ t1, wS, wJ t2, wS, wJ t3, wS, wJ s1, wS, wJ s2, wS, wI mode, wI 3, wJ s3, wS, wR 0, wR 1, wR 2, wR 3, wN, wJ t1, wS, wJ s1, wS, wU, wU]) a0_112 rfl) <| .s (.iload a0_114 rfl) ?_
      refine .s (.iconst (1 : Int32) a0_116 rfl) <| .s (.icmpF a0_117 (by decide)) <| .s (.aload a0_120 rfl rfl) <| .s (.astore (L' := [wJ t1, wS, wJ t2, wS, wJ t3, wS, wJ s1, wS, wJ s2, wS, wI mode, wI 3, wJ s3, wS, wR 0, wR 1, wR 2, wR 3, wR 0, wJ t1, wS, wJ s1, wS, wU, wU]) a0_122 rfl rfl) <| .s (.iload a0_124 rfl) <| .s (.iconst (2 : Int32) a0_126 rfl) <| .s (.icmpF a0_127 (by decide)) ?_
      refine .s (.lloadN a0_130 rfl) <| .s (.lload a0_131 rfl) <| .s (.lload a0_133 rfl) <| .s (.lload a0_135 rfl) ?_
      refine .callS a0_137 (ok8 hw _ _ _ _) (wd hw 46 rfl) (wd hw 47 rfl) (argsL := [(.long t2), (.long s2), (.long t1), (.long s1)]) (S := []) (au8_25 hw _ _ t1 t2 t3 s1 s2 s3 _) rfl rfl rfl rfl rfl rfl (Nat.le_of_ble_eq_true rfl) (Nat.le_of_ble_eq_true rfl) ?_
      rintro _ _ _ (⟨q136, q137, q138, rfl, rfl, rfl⟩ | ⟨q139, q140, q141, rfl, rfl, rfl⟩ | ⟨q142, q143, rfl, rfl, rfl⟩ | ⟨q144, rfl, rfl, rfl⟩)
      · exfalso
        simp only [Int32.lt_iff_toInt_lt, Int64.lt_iff_toInt_lt, ← Int32.toInt_inj, ← Int64.toInt_inj, Int32.reduceToInt, Int64.reduceToInt] at *
        omega
      · exfalso
        simp only [Int32.lt_iff_toInt_lt, Int64.lt_iff_toInt_lt, ← Int32.toInt_inj, ← Int64.toInt_inj, Int32.reduceToInt, Int64.reduceToInt] at *
        omega
      · skip
        show WGo _ (140, [wJ t1, wS, wJ t2, wS, wJ t3, wS, wJ s1, wS, wJ s2, wS, wI mode, wI 3, wJ s3, wS, wR 0, wR 1, wR 2, wR 3, wR 0, wJ t1, wS, wJ s1, wS, wU, wU], [.int 0], [(.inr (cn0, [(fk0, (.long t1)), (fk1, .null), (fk2, .null), (fk3, (.long s1))])), (.inr (cn0, [(fk0, (.long t2)), (fk1, .null), (fk2, .null), (fk3, (.long s2))])), (.inr (cn0, [(fk0, (.long t3)), (fk1, .null), (fk2, .null), (fk3, (.long s3))])), (.inr (cn1, [(fk4, .ref 4), (fk5, .int 3)])), (.inl ((.object "com/example/chronogate/chronogate/Event"), [.ref 0, .ref 1, .ref 2, .null, .null, .null, .null, .null]))], 22) _
        refine .s (.ifT a0_140 (by decide)) <| .s (.iload a0_154 rfl) <| .s (.iconst (3 : Int32) a0_156 rfl) <| .s (.icmpF a0_157 (by decide)) <| .s (.lload a0_160 rfl) <| .s (.lload a0_162 rfl) <| .s (.lload a0_164 rfl) ?_
        refine .s (.lload a0_166 rfl) ?_
        refine .callS a0_168 (ok8 hw _ _ _ _) (wd hw 46 rfl) (wd hw 47 rfl) (argsL := [(.long t3), (.long s3), (.long t1), (.long s1)]) (S := []) (au8_26 hw _ _ t1 t2 t3 s1 s2 s3 _) rfl rfl rfl rfl rfl rfl (Nat.le_of_ble_eq_true rfl) (Nat.le_of_ble_eq_true rfl) ?_
        rintro _ _ _ (⟨q145, q146, q147, rfl, rfl, rfl⟩ | ⟨q148, q149, q150, rfl, rfl, rfl⟩ | ⟨q151, q152, rfl, rfl, rfl⟩ | ⟨q153, rfl, rfl, rfl⟩)
        · exfalso
          simp only [Int32.lt_iff_toInt_lt, Int64.lt_iff_toInt_lt, ← Int32.toInt_inj, ← Int64.toInt_inj, Int32.reduceToInt, Int64.reduceToInt] at *
          omega
        · exfalso
          simp only [Int32.lt_iff_toInt_lt, Int64.lt_iff_toInt_lt, ← Int32.toInt_inj, ← Int64.toInt_inj, Int32.reduceToInt, Int64.reduceToInt] at *
          omega
        · skip
          show WGo _ (171, [wJ t1, wS, wJ t2, wS, wJ t3, wS, wJ s1, wS, wJ s2, wS, wI mode, wI 3, wJ s3, wS, wR 0, wR 1, wR 2, wR 3, wR 0, wJ t1, wS, wJ s1, wS, wU, wU], [.int 0], [(.inr (cn0, [(fk0, (.long t1)), (fk1, .null), (fk2, .null), (fk3, (.long s1))])), (.inr (cn0, [(fk0, (.long t2)), (fk1, .null), (fk2, .null), (fk3, (.long s2))])), (.inr (cn0, [(fk0, (.long t3)), (fk1, .null), (fk2, .null), (fk3, (.long s3))])), (.inr (cn1, [(fk4, .ref 4), (fk5, .int 3)])), (.inl ((.object "com/example/chronogate/chronogate/Event"), [.ref 0, .ref 1, .ref 2, .null, .null, .null, .null, .null]))], 22) _
          refine .s (.ifT a0_171 (by decide)) <| .s (.aload a0_178 rfl rfl) ?_
          refine .callV (k := 3) (z := (⟨"com/example/chronogate/chronogate/ReleaseQueue", "peek", "()Lcom/example/chronogate/chronogate/Event;"⟩ : MethodName)) a0_180 (ok9 hw _ _ _ _) ⟨rfl, by decide⟩ (wd hw 50 rfl) (wd hw 51 rfl) (fun s hZ => notFace_of_selects (args := #[]) (mvT hZ (wd hw 53 rfl))) (wd hw 53 rfl) (wd hw 52 rfl) rfl (argsL := []) (S := []) (au9_27 hw _ _ t1 t2 t3 s1 s2 s3 _) rfl rfl rfl rfl rfl rfl (Nat.le_of_ble_eq_true rfl) (Nat.le_of_ble_eq_true rfl) ?_
          rintro _ _ _ ⟨rfl, rfl, rfl⟩
          show WGo _ (183, [wJ t1, wS, wJ t2, wS, wJ t3, wS, wJ s1, wS, wJ s2, wS, wI mode, wI 3, wJ s3, wS, wR 0, wR 1, wR 2, wR 3, wR 0, wJ t1, wS, wJ s1, wS, wU, wU], [.ref 0], [(.inr (cn0, [(fk0, (.long t1)), (fk1, .null), (fk2, .null), (fk3, (.long s1))])), (.inr (cn0, [(fk0, (.long t2)), (fk1, .null), (fk2, .null), (fk3, (.long s2))])), (.inr (cn0, [(fk0, (.long t3)), (fk1, .null), (fk2, .null), (fk3, (.long s3))])), (.inr (cn1, [(fk4, .ref 4), (fk5, .int 3)])), (.inl ((.object "com/example/chronogate/chronogate/Event"), [.ref 0, .ref 1, .ref 2, .null, .null, .null, .null, .null]))], 22) _
          refine .s (.astore (L' := [wJ t1, wS, wJ t2, wS, wJ t3, wS, wJ s1, wS, wJ s2, wS, wI mode, wI 3, wJ s3, wS, wR 0, wR 1, wR 2, wR 3, wR 0, wJ t1, wS, wJ s1, wS, wR 0, wU]) a0_183 rfl rfl) <| .s (.aload a0_185 rfl rfl) ?_
          refine .callV (k := 3) (z := (⟨"com/example/chronogate/chronogate/ReleaseQueue", "peek", "()Lcom/example/chronogate/chronogate/Event;"⟩ : MethodName)) a0_187 (ok9 hw _ _ _ _) ⟨rfl, by decide⟩ (wd hw 50 rfl) (wd hw 51 rfl) (fun s hZ => notFace_of_selects (args := #[]) (mvT hZ (wd hw 53 rfl))) (wd hw 53 rfl) (wd hw 52 rfl) rfl (argsL := []) (S := []) (au9_27 hw _ _ t1 t2 t3 s1 s2 s3 _) rfl rfl rfl rfl rfl rfl (Nat.le_of_ble_eq_true rfl) (Nat.le_of_ble_eq_true rfl) ?_
          rintro _ _ _ ⟨rfl, rfl, rfl⟩
          show WGo _ (190, [wJ t1, wS, wJ t2, wS, wJ t3, wS, wJ s1, wS, wJ s2, wS, wI mode, wI 3, wJ s3, wS, wR 0, wR 1, wR 2, wR 3, wR 0, wJ t1, wS, wJ s1, wS, wR 0, wU], [.ref 0], [(.inr (cn0, [(fk0, (.long t1)), (fk1, .null), (fk2, .null), (fk3, (.long s1))])), (.inr (cn0, [(fk0, (.long t2)), (fk1, .null), (fk2, .null), (fk3, (.long s2))])), (.inr (cn0, [(fk0, (.long t3)), (fk1, .null), (fk2, .null), (fk3, (.long s3))])), (.inr (cn1, [(fk4, .ref 4), (fk5, .int 3)])), (.inl ((.object "com/example/chronogate/chronogate/Event"), [.ref 0, .ref 1, .ref 2, .null, .null, .null, .null, .null]))], 22) _
          refine .s (.astore (L' := [wJ t1, wS, wJ t2, wS, wJ t3, wS, wJ s1, wS, wJ s2, wS, wI mode, wI 3, wJ s3, wS, wR 0, wR 1, wR 2, wR 3, wR 0, wJ t1, wS, wJ s1, wS, wR 0, wR 0]) a0_190 rfl rfl) <| .s (.aload a0_192 rfl rfl) <| .s (.aload a0_194 rfl rfl) <| .s (.acmp true 199 a0_196 rfl rfl (by decide) rfl) <| .s (.aload a0_199 rfl rfl) <| .s (.aload a0_201 rfl rfl) <| .s (.acmp true 206 a0_203 rfl rfl (by decide) rfl) ?_
          refine .s (.aload a0_206 rfl rfl) ?_
          refine .callV (k := 3) (z := (⟨"com/example/chronogate/chronogate/ReleaseQueue", "size", "()I"⟩ : MethodName)) a0_208 (ok10 hw _ _ _ _) ⟨rfl, by decide⟩ (wd hw 55 rfl) (wd hw 56 rfl) (fun s hZ => notFace_of_selects (args := #[]) (mvT hZ (wd hw 58 rfl))) (wd hw 58 rfl) (wd hw 57 rfl) rfl (argsL := []) (S := []) (au10_28 hw _ _ t1 t2 t3 s1 s2 s3 _) rfl rfl rfl rfl rfl rfl (Nat.le_of_ble_eq_true rfl) (Nat.le_of_ble_eq_true rfl) ?_
          rintro _ _ _ ⟨rfl, rfl, rfl⟩
          show WGo _ (211, [wJ t1, wS, wJ t2, wS, wJ t3, wS, wJ s1, wS, wJ s2, wS, wI mode, wI 3, wJ s3, wS, wR 0, wR 1, wR 2, wR 3, wR 0, wJ t1, wS, wJ s1, wS, wR 0, wR 0], [.int 3], [(.inr (cn0, [(fk0, (.long t1)), (fk1, .null), (fk2, .null), (fk3, (.long s1))])), (.inr (cn0, [(fk0, (.long t2)), (fk1, .null), (fk2, .null), (fk3, (.long s2))])), (.inr (cn0, [(fk0, (.long t3)), (fk1, .null), (fk2, .null), (fk3, (.long s3))])), (.inr (cn1, [(fk4, .ref 4), (fk5, .int 3)])), (.inl ((.object "com/example/chronogate/chronogate/Event"), [.ref 0, .ref 1, .ref 2, .null, .null, .null, .null, .null]))], 22) _
          refine .s (.iload a0_211 rfl) <| .s (.icmpF a0_213 (by decide)) <| .s (.iconst (1 : Int32) a0_216 rfl) <| .s (.goto a0_217) ?_
          refine .ireturn .boolean a0_221 rfl (by simp) ?_
          exact ⟨rfl, Nat.le_of_ble_eq_true rfl, Nat.le_of_ble_eq_true rfl⟩
        · exfalso
          simp only [Int32.lt_iff_toInt_lt, Int64.lt_iff_toInt_lt, ← Int32.toInt_inj, ← Int64.toInt_inj, Int32.reduceToInt, Int64.reduceToInt] at *
          omega
      · exfalso
        simp only [Int32.lt_iff_toInt_lt, Int64.lt_iff_toInt_lt, ← Int32.toInt_inj, ← Int64.toInt_inj, Int32.reduceToInt, Int64.reduceToInt] at *
        omega
    · skip
      show WGo _ (104, [wJ t1, wS, wJ t2, wS, wJ t3, wS, wJ s1, wS, wJ s2, wS, wI mode, wI 3, wJ s3, wS, wR 0, wR 1, wR 2, wR 3, wU, wU, wU, wU, wU, wU, wU], [], [(.inr (cn0, [(fk0, (.long t1)), (fk1, .null), (fk2, .null), (fk3, (.long s1))])), (.inr (cn0, [(fk0, (.long t2)), (fk1, .null), (fk2, .null), (fk3, (.long s2))])), (.inr (cn0, [(fk0, (.long t3)), (fk1, .null), (fk2, .null), (fk3, (.long s3))])), (.inr (cn1, [(fk4, .ref 4), (fk5, .int 3)])), (.inl ((.object "com/example/chronogate/chronogate/Event"), [.ref 0, .ref 1, .ref 2, .null, .null, .null, .null, .null]))], 22) _
      refine .s (.aconstNull a0_104) <| .s (.astore (L' := [wJ t1, wS, wJ t2, wS, wJ t3, wS, wJ s1, wS, wJ s2, wS, wI mode, wI 3, wJ s3, wS, wR 0, wR 1, wR 2, wR 3, wN, wU, wU, wU, wU, wU, wU]) a0_105 rfl rfl) <| .s (.lloadN a0_107 rfl) <| .s (.lstore (L' := [wJ t1, wS, wJ t2, wS, wJ t3, wS, wJ s1, wS, wJ s2, wS, wI mode, wI 3, wJ s3, wS, wR 0, wR 1, wR 2, wR 3, wN, wJ t1, wS, wU, wU, wU, wU]) a0_108 rfl) <| .s (.lload a0_110 rfl) <| .s (.lstore (L' := [wJ t1, wS, wJ t2, wS, wJ t3, wS, wJ s1, wS, wJ s2, wS, wI mode, wI 3, wJ s3, wS, wR 0, wR 1, wR 2, wR 3, wN, wJ t1, wS, wJ s1, wS, wU, wU]) a0_112 rfl) <| .s (.iload a0_114 rfl) ?_
      refine .s (.iconst (1 : Int32) a0_116 rfl) <| .s (.icmpF a0_117 (by decide)) <| .s (.aload a0_120 rfl rfl) <| .s (.astore (L' := [wJ t1, wS, wJ t2, wS, wJ t3, wS, wJ s1, wS, wJ s2, wS, wI mode, wI 3, wJ s3, wS, wR 0, wR 1, wR 2, wR 3, wR 0, wJ t1, wS, wJ s1, wS, wU, wU]) a0_122 rfl rfl) <| .s (.iload a0_124 rfl) <| .s (.iconst (2 : Int32) a0_126 rfl) <| .s (.icmpF a0_127 (by decide)) ?_
      refine .s (.lloadN a0_130 rfl) <| .s (.lload a0_131 rfl) <| .s (.lload a0_133 rfl) <| .s (.lload a0_135 rfl) ?_
      refine .callS a0_137 (ok8 hw _ _ _ _) (wd hw 46 rfl) (wd hw 47 rfl) (argsL := [(.long t2), (.long s2), (.long t1), (.long s1)]) (S := []) (au8_25 hw _ _ t1 t2 t3 s1 s2 s3 _) rfl rfl rfl rfl rfl rfl (Nat.le_of_ble_eq_true rfl) (Nat.le_of_ble_eq_true rfl) ?_
      rintro _ _ _ (⟨q154, q155, q156, rfl, rfl, rfl⟩ | ⟨q157, q158, q159, rfl, rfl, rfl⟩ | ⟨q160, q161, rfl, rfl, rfl⟩ | ⟨q162, rfl, rfl, rfl⟩)
      · exfalso
        simp only [Int32.lt_iff_toInt_lt, Int64.lt_iff_toInt_lt, ← Int32.toInt_inj, ← Int64.toInt_inj, Int32.reduceToInt, Int64.reduceToInt] at *
        omega
      · exfalso
        simp only [Int32.lt_iff_toInt_lt, Int64.lt_iff_toInt_lt, ← Int32.toInt_inj, ← Int64.toInt_inj, Int32.reduceToInt, Int64.reduceToInt] at *
        omega
      · skip
        show WGo _ (140, [wJ t1, wS, wJ t2, wS, wJ t3, wS, wJ s1, wS, wJ s2, wS, wI mode, wI 3, wJ s3, wS, wR 0, wR 1, wR 2, wR 3, wR 0, wJ t1, wS, wJ s1, wS, wU, wU], [.int 0], [(.inr (cn0, [(fk0, (.long t1)), (fk1, .null), (fk2, .null), (fk3, (.long s1))])), (.inr (cn0, [(fk0, (.long t2)), (fk1, .null), (fk2, .null), (fk3, (.long s2))])), (.inr (cn0, [(fk0, (.long t3)), (fk1, .null), (fk2, .null), (fk3, (.long s3))])), (.inr (cn1, [(fk4, .ref 4), (fk5, .int 3)])), (.inl ((.object "com/example/chronogate/chronogate/Event"), [.ref 0, .ref 1, .ref 2, .null, .null, .null, .null, .null]))], 22) _
        refine .s (.ifT a0_140 (by decide)) <| .s (.iload a0_154 rfl) <| .s (.iconst (3 : Int32) a0_156 rfl) <| .s (.icmpF a0_157 (by decide)) <| .s (.lload a0_160 rfl) <| .s (.lload a0_162 rfl) <| .s (.lload a0_164 rfl) ?_
        refine .s (.lload a0_166 rfl) ?_
        refine .callS a0_168 (ok8 hw _ _ _ _) (wd hw 46 rfl) (wd hw 47 rfl) (argsL := [(.long t3), (.long s3), (.long t1), (.long s1)]) (S := []) (au8_26 hw _ _ t1 t2 t3 s1 s2 s3 _) rfl rfl rfl rfl rfl rfl (Nat.le_of_ble_eq_true rfl) (Nat.le_of_ble_eq_true rfl) ?_
        rintro _ _ _ (⟨q163, q164, q165, rfl, rfl, rfl⟩ | ⟨q166, q167, q168, rfl, rfl, rfl⟩ | ⟨q169, q170, rfl, rfl, rfl⟩ | ⟨q171, rfl, rfl, rfl⟩)
        · skip
          show WGo _ (171, [wJ t1, wS, wJ t2, wS, wJ t3, wS, wJ s1, wS, wJ s2, wS, wI mode, wI 3, wJ s3, wS, wR 0, wR 1, wR 2, wR 3, wR 0, wJ t1, wS, wJ s1, wS, wU, wU], [.int 0], [(.inr (cn0, [(fk0, (.long t1)), (fk1, .null), (fk2, .null), (fk3, (.long s1))])), (.inr (cn0, [(fk0, (.long t2)), (fk1, .null), (fk2, .null), (fk3, (.long s2))])), (.inr (cn0, [(fk0, (.long t3)), (fk1, .null), (fk2, .null), (fk3, (.long s3))])), (.inr (cn1, [(fk4, .ref 4), (fk5, .int 3)])), (.inl ((.object "com/example/chronogate/chronogate/Event"), [.ref 0, .ref 1, .ref 2, .null, .null, .null, .null, .null]))], 22) _
          refine .s (.ifT a0_171 (by decide)) <| .s (.aload a0_178 rfl rfl) ?_
          refine .callV (k := 3) (z := (⟨"com/example/chronogate/chronogate/ReleaseQueue", "peek", "()Lcom/example/chronogate/chronogate/Event;"⟩ : MethodName)) a0_180 (ok9 hw _ _ _ _) ⟨rfl, by decide⟩ (wd hw 50 rfl) (wd hw 51 rfl) (fun s hZ => notFace_of_selects (args := #[]) (mvT hZ (wd hw 53 rfl))) (wd hw 53 rfl) (wd hw 52 rfl) rfl (argsL := []) (S := []) (au9_27 hw _ _ t1 t2 t3 s1 s2 s3 _) rfl rfl rfl rfl rfl rfl (Nat.le_of_ble_eq_true rfl) (Nat.le_of_ble_eq_true rfl) ?_
          rintro _ _ _ ⟨rfl, rfl, rfl⟩
          show WGo _ (183, [wJ t1, wS, wJ t2, wS, wJ t3, wS, wJ s1, wS, wJ s2, wS, wI mode, wI 3, wJ s3, wS, wR 0, wR 1, wR 2, wR 3, wR 0, wJ t1, wS, wJ s1, wS, wU, wU], [.ref 0], [(.inr (cn0, [(fk0, (.long t1)), (fk1, .null), (fk2, .null), (fk3, (.long s1))])), (.inr (cn0, [(fk0, (.long t2)), (fk1, .null), (fk2, .null), (fk3, (.long s2))])), (.inr (cn0, [(fk0, (.long t3)), (fk1, .null), (fk2, .null), (fk3, (.long s3))])), (.inr (cn1, [(fk4, .ref 4), (fk5, .int 3)])), (.inl ((.object "com/example/chronogate/chronogate/Event"), [.ref 0, .ref 1, .ref 2, .null, .null, .null, .null, .null]))], 22) _
          refine .s (.astore (L' := [wJ t1, wS, wJ t2, wS, wJ t3, wS, wJ s1, wS, wJ s2, wS, wI mode, wI 3, wJ s3, wS, wR 0, wR 1, wR 2, wR 3, wR 0, wJ t1, wS, wJ s1, wS, wR 0, wU]) a0_183 rfl rfl) <| .s (.aload a0_185 rfl rfl) ?_
          refine .callV (k := 3) (z := (⟨"com/example/chronogate/chronogate/ReleaseQueue", "peek", "()Lcom/example/chronogate/chronogate/Event;"⟩ : MethodName)) a0_187 (ok9 hw _ _ _ _) ⟨rfl, by decide⟩ (wd hw 50 rfl) (wd hw 51 rfl) (fun s hZ => notFace_of_selects (args := #[]) (mvT hZ (wd hw 53 rfl))) (wd hw 53 rfl) (wd hw 52 rfl) rfl (argsL := []) (S := []) (au9_27 hw _ _ t1 t2 t3 s1 s2 s3 _) rfl rfl rfl rfl rfl rfl (Nat.le_of_ble_eq_true rfl) (Nat.le_of_ble_eq_true rfl) ?_
          rintro _ _ _ ⟨rfl, rfl, rfl⟩
          show WGo _ (190, [wJ t1, wS, wJ t2, wS, wJ t3, wS, wJ s1, wS, wJ s2, wS, wI mode, wI 3, wJ s3, wS, wR 0, wR 1, wR 2, wR 3, wR 0, wJ t1, wS, wJ s1, wS, wR 0, wU], [.ref 0], [(.inr (cn0, [(fk0, (.long t1)), (fk1, .null), (fk2, .null), (fk3, (.long s1))])), (.inr (cn0, [(fk0, (.long t2)), (fk1, .null), (fk2, .null), (fk3, (.long s2))])), (.inr (cn0, [(fk0, (.long t3)), (fk1, .null), (fk2, .null), (fk3, (.long s3))])), (.inr (cn1, [(fk4, .ref 4), (fk5, .int 3)])), (.inl ((.object "com/example/chronogate/chronogate/Event"), [.ref 0, .ref 1, .ref 2, .null, .null, .null, .null, .null]))], 22) _
          refine .s (.astore (L' := [wJ t1, wS, wJ t2, wS, wJ t3, wS, wJ s1, wS, wJ s2, wS, wI mode, wI 3, wJ s3, wS, wR 0, wR 1, wR 2, wR 3, wR 0, wJ t1, wS, wJ s1, wS, wR 0, wR 0]) a0_190 rfl rfl) <| .s (.aload a0_192 rfl rfl) <| .s (.aload a0_194 rfl rfl) <| .s (.acmp true 199 a0_196 rfl rfl (by decide) rfl) <| .s (.aload a0_199 rfl rfl) <| .s (.aload a0_201 rfl rfl) <| .s (.acmp true 206 a0_203 rfl rfl (by decide) rfl) ?_
          refine .s (.aload a0_206 rfl rfl) ?_
          refine .callV (k := 3) (z := (⟨"com/example/chronogate/chronogate/ReleaseQueue", "size", "()I"⟩ : MethodName)) a0_208 (ok10 hw _ _ _ _) ⟨rfl, by decide⟩ (wd hw 55 rfl) (wd hw 56 rfl) (fun s hZ => notFace_of_selects (args := #[]) (mvT hZ (wd hw 58 rfl))) (wd hw 58 rfl) (wd hw 57 rfl) rfl (argsL := []) (S := []) (au10_28 hw _ _ t1 t2 t3 s1 s2 s3 _) rfl rfl rfl rfl rfl rfl (Nat.le_of_ble_eq_true rfl) (Nat.le_of_ble_eq_true rfl) ?_
          rintro _ _ _ ⟨rfl, rfl, rfl⟩
          show WGo _ (211, [wJ t1, wS, wJ t2, wS, wJ t3, wS, wJ s1, wS, wJ s2, wS, wI mode, wI 3, wJ s3, wS, wR 0, wR 1, wR 2, wR 3, wR 0, wJ t1, wS, wJ s1, wS, wR 0, wR 0], [.int 3], [(.inr (cn0, [(fk0, (.long t1)), (fk1, .null), (fk2, .null), (fk3, (.long s1))])), (.inr (cn0, [(fk0, (.long t2)), (fk1, .null), (fk2, .null), (fk3, (.long s2))])), (.inr (cn0, [(fk0, (.long t3)), (fk1, .null), (fk2, .null), (fk3, (.long s3))])), (.inr (cn1, [(fk4, .ref 4), (fk5, .int 3)])), (.inl ((.object "com/example/chronogate/chronogate/Event"), [.ref 0, .ref 1, .ref 2, .null, .null, .null, .null, .null]))], 22) _
          refine .s (.iload a0_211 rfl) <| .s (.icmpF a0_213 (by decide)) <| .s (.iconst (1 : Int32) a0_216 rfl) <| .s (.goto a0_217) ?_
          refine .ireturn .boolean a0_221 rfl (by simp) ?_
          exact ⟨rfl, Nat.le_of_ble_eq_true rfl, Nat.le_of_ble_eq_true rfl⟩
        · exfalso
          simp only [Int32.lt_iff_toInt_lt, Int64.lt_iff_toInt_lt, ← Int32.toInt_inj, ← Int64.toInt_inj, Int32.reduceToInt, Int64.reduceToInt] at *
          omega
        · exfalso
          simp only [Int32.lt_iff_toInt_lt, Int64.lt_iff_toInt_lt, ← Int32.toInt_inj, ← Int64.toInt_inj, Int32.reduceToInt, Int64.reduceToInt] at *
          omega
        · exfalso
          simp only [Int32.lt_iff_toInt_lt, Int64.lt_iff_toInt_lt, ← Int32.toInt_inj, ← Int64.toInt_inj, Int32.reduceToInt, Int64.reduceToInt] at *
          omega
      · exfalso
        simp only [Int32.lt_iff_toInt_lt, Int64.lt_iff_toInt_lt, ← Int32.toInt_inj, ← Int64.toInt_inj, Int32.reduceToInt, Int64.reduceToInt] at *
        omega
    · skip
      show WGo _ (104, [wJ t1, wS, wJ t2, wS, wJ t3, wS, wJ s1, wS, wJ s2, wS, wI mode, wI 3, wJ s3, wS, wR 0, wR 1, wR 2, wR 3, wU, wU, wU, wU, wU, wU, wU], [], [(.inr (cn0, [(fk0, (.long t1)), (fk1, .null), (fk2, .null), (fk3, (.long s1))])), (.inr (cn0, [(fk0, (.long t2)), (fk1, .null), (fk2, .null), (fk3, (.long s2))])), (.inr (cn0, [(fk0, (.long t3)), (fk1, .null), (fk2, .null), (fk3, (.long s3))])), (.inr (cn1, [(fk4, .ref 4), (fk5, .int 3)])), (.inl ((.object "com/example/chronogate/chronogate/Event"), [.ref 0, .ref 1, .ref 2, .null, .null, .null, .null, .null]))], 22) _
      refine .s (.aconstNull a0_104) <| .s (.astore (L' := [wJ t1, wS, wJ t2, wS, wJ t3, wS, wJ s1, wS, wJ s2, wS, wI mode, wI 3, wJ s3, wS, wR 0, wR 1, wR 2, wR 3, wN, wU, wU, wU, wU, wU, wU]) a0_105 rfl rfl) <| .s (.lloadN a0_107 rfl) <| .s (.lstore (L' := [wJ t1, wS, wJ t2, wS, wJ t3, wS, wJ s1, wS, wJ s2, wS, wI mode, wI 3, wJ s3, wS, wR 0, wR 1, wR 2, wR 3, wN, wJ t1, wS, wU, wU, wU, wU]) a0_108 rfl) <| .s (.lload a0_110 rfl) <| .s (.lstore (L' := [wJ t1, wS, wJ t2, wS, wJ t3, wS, wJ s1, wS, wJ s2, wS, wI mode, wI 3, wJ s3, wS, wR 0, wR 1, wR 2, wR 3, wN, wJ t1, wS, wJ s1, wS, wU, wU]) a0_112 rfl) <| .s (.iload a0_114 rfl) ?_
      refine .s (.iconst (1 : Int32) a0_116 rfl) <| .s (.icmpF a0_117 (by decide)) <| .s (.aload a0_120 rfl rfl) <| .s (.astore (L' := [wJ t1, wS, wJ t2, wS, wJ t3, wS, wJ s1, wS, wJ s2, wS, wI mode, wI 3, wJ s3, wS, wR 0, wR 1, wR 2, wR 3, wR 0, wJ t1, wS, wJ s1, wS, wU, wU]) a0_122 rfl rfl) <| .s (.iload a0_124 rfl) <| .s (.iconst (2 : Int32) a0_126 rfl) <| .s (.icmpF a0_127 (by decide)) ?_
      refine .s (.lloadN a0_130 rfl) <| .s (.lload a0_131 rfl) <| .s (.lload a0_133 rfl) <| .s (.lload a0_135 rfl) ?_
      refine .callS a0_137 (ok8 hw _ _ _ _) (wd hw 46 rfl) (wd hw 47 rfl) (argsL := [(.long t2), (.long s2), (.long t1), (.long s1)]) (S := []) (au8_25 hw _ _ t1 t2 t3 s1 s2 s3 _) rfl rfl rfl rfl rfl rfl (Nat.le_of_ble_eq_true rfl) (Nat.le_of_ble_eq_true rfl) ?_
      rintro _ _ _ (⟨q172, q173, q174, rfl, rfl, rfl⟩ | ⟨q175, q176, q177, rfl, rfl, rfl⟩ | ⟨q178, q179, rfl, rfl, rfl⟩ | ⟨q180, rfl, rfl, rfl⟩)
      · exfalso
        simp only [Int32.lt_iff_toInt_lt, Int64.lt_iff_toInt_lt, ← Int32.toInt_inj, ← Int64.toInt_inj, Int32.reduceToInt, Int64.reduceToInt] at *
        omega
      · exfalso
        simp only [Int32.lt_iff_toInt_lt, Int64.lt_iff_toInt_lt, ← Int32.toInt_inj, ← Int64.toInt_inj, Int32.reduceToInt, Int64.reduceToInt] at *
        omega
      · skip
        show WGo _ (140, [wJ t1, wS, wJ t2, wS, wJ t3, wS, wJ s1, wS, wJ s2, wS, wI mode, wI 3, wJ s3, wS, wR 0, wR 1, wR 2, wR 3, wR 0, wJ t1, wS, wJ s1, wS, wU, wU], [.int 0], [(.inr (cn0, [(fk0, (.long t1)), (fk1, .null), (fk2, .null), (fk3, (.long s1))])), (.inr (cn0, [(fk0, (.long t2)), (fk1, .null), (fk2, .null), (fk3, (.long s2))])), (.inr (cn0, [(fk0, (.long t3)), (fk1, .null), (fk2, .null), (fk3, (.long s3))])), (.inr (cn1, [(fk4, .ref 4), (fk5, .int 3)])), (.inl ((.object "com/example/chronogate/chronogate/Event"), [.ref 0, .ref 1, .ref 2, .null, .null, .null, .null, .null]))], 22) _
        refine .s (.ifT a0_140 (by decide)) <| .s (.iload a0_154 rfl) <| .s (.iconst (3 : Int32) a0_156 rfl) <| .s (.icmpF a0_157 (by decide)) <| .s (.lload a0_160 rfl) <| .s (.lload a0_162 rfl) <| .s (.lload a0_164 rfl) ?_
        refine .s (.lload a0_166 rfl) ?_
        refine .callS a0_168 (ok8 hw _ _ _ _) (wd hw 46 rfl) (wd hw 47 rfl) (argsL := [(.long t3), (.long s3), (.long t1), (.long s1)]) (S := []) (au8_26 hw _ _ t1 t2 t3 s1 s2 s3 _) rfl rfl rfl rfl rfl rfl (Nat.le_of_ble_eq_true rfl) (Nat.le_of_ble_eq_true rfl) ?_
        rintro _ _ _ (⟨q181, q182, q183, rfl, rfl, rfl⟩ | ⟨q184, q185, q186, rfl, rfl, rfl⟩ | ⟨q187, q188, rfl, rfl, rfl⟩ | ⟨q189, rfl, rfl, rfl⟩)
        · skip
          show WGo _ (171, [wJ t1, wS, wJ t2, wS, wJ t3, wS, wJ s1, wS, wJ s2, wS, wI mode, wI 3, wJ s3, wS, wR 0, wR 1, wR 2, wR 3, wR 0, wJ t1, wS, wJ s1, wS, wU, wU], [.int 0], [(.inr (cn0, [(fk0, (.long t1)), (fk1, .null), (fk2, .null), (fk3, (.long s1))])), (.inr (cn0, [(fk0, (.long t2)), (fk1, .null), (fk2, .null), (fk3, (.long s2))])), (.inr (cn0, [(fk0, (.long t3)), (fk1, .null), (fk2, .null), (fk3, (.long s3))])), (.inr (cn1, [(fk4, .ref 4), (fk5, .int 3)])), (.inl ((.object "com/example/chronogate/chronogate/Event"), [.ref 0, .ref 1, .ref 2, .null, .null, .null, .null, .null]))], 22) _
          refine .s (.ifT a0_171 (by decide)) <| .s (.aload a0_178 rfl rfl) ?_
          refine .callV (k := 3) (z := (⟨"com/example/chronogate/chronogate/ReleaseQueue", "peek", "()Lcom/example/chronogate/chronogate/Event;"⟩ : MethodName)) a0_180 (ok9 hw _ _ _ _) ⟨rfl, by decide⟩ (wd hw 50 rfl) (wd hw 51 rfl) (fun s hZ => notFace_of_selects (args := #[]) (mvT hZ (wd hw 53 rfl))) (wd hw 53 rfl) (wd hw 52 rfl) rfl (argsL := []) (S := []) (au9_27 hw _ _ t1 t2 t3 s1 s2 s3 _) rfl rfl rfl rfl rfl rfl (Nat.le_of_ble_eq_true rfl) (Nat.le_of_ble_eq_true rfl) ?_
          rintro _ _ _ ⟨rfl, rfl, rfl⟩
          show WGo _ (183, [wJ t1, wS, wJ t2, wS, wJ t3, wS, wJ s1, wS, wJ s2, wS, wI mode, wI 3, wJ s3, wS, wR 0, wR 1, wR 2, wR 3, wR 0, wJ t1, wS, wJ s1, wS, wU, wU], [.ref 0], [(.inr (cn0, [(fk0, (.long t1)), (fk1, .null), (fk2, .null), (fk3, (.long s1))])), (.inr (cn0, [(fk0, (.long t2)), (fk1, .null), (fk2, .null), (fk3, (.long s2))])), (.inr (cn0, [(fk0, (.long t3)), (fk1, .null), (fk2, .null), (fk3, (.long s3))])), (.inr (cn1, [(fk4, .ref 4), (fk5, .int 3)])), (.inl ((.object "com/example/chronogate/chronogate/Event"), [.ref 0, .ref 1, .ref 2, .null, .null, .null, .null, .null]))], 22) _
          refine .s (.astore (L' := [wJ t1, wS, wJ t2, wS, wJ t3, wS, wJ s1, wS, wJ s2, wS, wI mode, wI 3, wJ s3, wS, wR 0, wR 1, wR 2, wR 3, wR 0, wJ t1, wS, wJ s1, wS, wR 0, wU]) a0_183 rfl rfl) <| .s (.aload a0_185 rfl rfl) ?_
          refine .callV (k := 3) (z := (⟨"com/example/chronogate/chronogate/ReleaseQueue", "peek", "()Lcom/example/chronogate/chronogate/Event;"⟩ : MethodName)) a0_187 (ok9 hw _ _ _ _) ⟨rfl, by decide⟩ (wd hw 50 rfl) (wd hw 51 rfl) (fun s hZ => notFace_of_selects (args := #[]) (mvT hZ (wd hw 53 rfl))) (wd hw 53 rfl) (wd hw 52 rfl) rfl (argsL := []) (S := []) (au9_27 hw _ _ t1 t2 t3 s1 s2 s3 _) rfl rfl rfl rfl rfl rfl (Nat.le_of_ble_eq_true rfl) (Nat.le_of_ble_eq_true rfl) ?_
          rintro _ _ _ ⟨rfl, rfl, rfl⟩
          show WGo _ (190, [wJ t1, wS, wJ t2, wS, wJ t3, wS, wJ s1, wS, wJ s2, wS, wI mode, wI 3, wJ s3, wS, wR 0, wR 1, wR 2, wR 3, wR 0, wJ t1, wS, wJ s1, wS, wR 0, wU], [.ref 0], [(.inr (cn0, [(fk0, (.long t1)), (fk1, .null), (fk2, .null), (fk3, (.long s1))])), (.inr (cn0, [(fk0, (.long t2)), (fk1, .null), (fk2, .null), (fk3, (.long s2))])), (.inr (cn0, [(fk0, (.long t3)), (fk1, .null), (fk2, .null), (fk3, (.long s3))])), (.inr (cn1, [(fk4, .ref 4), (fk5, .int 3)])), (.inl ((.object "com/example/chronogate/chronogate/Event"), [.ref 0, .ref 1, .ref 2, .null, .null, .null, .null, .null]))], 22) _
          refine .s (.astore (L' := [wJ t1, wS, wJ t2, wS, wJ t3, wS, wJ s1, wS, wJ s2, wS, wI mode, wI 3, wJ s3, wS, wR 0, wR 1, wR 2, wR 3, wR 0, wJ t1, wS, wJ s1, wS, wR 0, wR 0]) a0_190 rfl rfl) <| .s (.aload a0_192 rfl rfl) <| .s (.aload a0_194 rfl rfl) <| .s (.acmp true 199 a0_196 rfl rfl (by decide) rfl) <| .s (.aload a0_199 rfl rfl) <| .s (.aload a0_201 rfl rfl) <| .s (.acmp true 206 a0_203 rfl rfl (by decide) rfl) ?_
          refine .s (.aload a0_206 rfl rfl) ?_
          refine .callV (k := 3) (z := (⟨"com/example/chronogate/chronogate/ReleaseQueue", "size", "()I"⟩ : MethodName)) a0_208 (ok10 hw _ _ _ _) ⟨rfl, by decide⟩ (wd hw 55 rfl) (wd hw 56 rfl) (fun s hZ => notFace_of_selects (args := #[]) (mvT hZ (wd hw 58 rfl))) (wd hw 58 rfl) (wd hw 57 rfl) rfl (argsL := []) (S := []) (au10_28 hw _ _ t1 t2 t3 s1 s2 s3 _) rfl rfl rfl rfl rfl rfl (Nat.le_of_ble_eq_true rfl) (Nat.le_of_ble_eq_true rfl) ?_
          rintro _ _ _ ⟨rfl, rfl, rfl⟩
          show WGo _ (211, [wJ t1, wS, wJ t2, wS, wJ t3, wS, wJ s1, wS, wJ s2, wS, wI mode, wI 3, wJ s3, wS, wR 0, wR 1, wR 2, wR 3, wR 0, wJ t1, wS, wJ s1, wS, wR 0, wR 0], [.int 3], [(.inr (cn0, [(fk0, (.long t1)), (fk1, .null), (fk2, .null), (fk3, (.long s1))])), (.inr (cn0, [(fk0, (.long t2)), (fk1, .null), (fk2, .null), (fk3, (.long s2))])), (.inr (cn0, [(fk0, (.long t3)), (fk1, .null), (fk2, .null), (fk3, (.long s3))])), (.inr (cn1, [(fk4, .ref 4), (fk5, .int 3)])), (.inl ((.object "com/example/chronogate/chronogate/Event"), [.ref 0, .ref 1, .ref 2, .null, .null, .null, .null, .null]))], 22) _
          refine .s (.iload a0_211 rfl) <| .s (.icmpF a0_213 (by decide)) <| .s (.iconst (1 : Int32) a0_216 rfl) <| .s (.goto a0_217) ?_
          refine .ireturn .boolean a0_221 rfl (by simp) ?_
          exact ⟨rfl, Nat.le_of_ble_eq_true rfl, Nat.le_of_ble_eq_true rfl⟩
        · exfalso
          simp only [Int32.lt_iff_toInt_lt, Int64.lt_iff_toInt_lt, ← Int32.toInt_inj, ← Int64.toInt_inj, Int32.reduceToInt, Int64.reduceToInt] at *
          omega
        · exfalso
          simp only [Int32.lt_iff_toInt_lt, Int64.lt_iff_toInt_lt, ← Int32.toInt_inj, ← Int64.toInt_inj, Int32.reduceToInt, Int64.reduceToInt] at *
          omega
        · exfalso
          simp only [Int32.lt_iff_toInt_lt, Int64.lt_iff_toInt_lt, ← Int32.toInt_inj, ← Int64.toInt_inj, Int32.reduceToInt, Int64.reduceToInt] at *
          omega
      · exfalso
        simp only [Int32.lt_iff_toInt_lt, Int64.lt_iff_toInt_lt, ← Int32.toInt_inj, ← Int64.toInt_inj, Int32.reduceToInt, Int64.reduceToInt] at *
        omega
    · skip
      show WGo _ (104, [wJ t1, wS, wJ t2, wS, wJ t3, wS, wJ s1, wS, wJ s2, wS, wI mode, wI 3, wJ s3, wS, wR 0, wR 1, wR 2, wR 3, wU, wU, wU, wU, wU, wU, wU], [], [(.inr (cn0, [(fk0, (.long t1)), (fk1, .null), (fk2, .null), (fk3, (.long s1))])), (.inr (cn0, [(fk0, (.long t2)), (fk1, .null), (fk2, .null), (fk3, (.long s2))])), (.inr (cn0, [(fk0, (.long t3)), (fk1, .null), (fk2, .null), (fk3, (.long s3))])), (.inr (cn1, [(fk4, .ref 4), (fk5, .int 3)])), (.inl ((.object "com/example/chronogate/chronogate/Event"), [.ref 2, .ref 1, .ref 0, .null, .null, .null, .null, .null]))], 22) _
      refine .s (.aconstNull a0_104) <| .s (.astore (L' := [wJ t1, wS, wJ t2, wS, wJ t3, wS, wJ s1, wS, wJ s2, wS, wI mode, wI 3, wJ s3, wS, wR 0, wR 1, wR 2, wR 3, wN, wU, wU, wU, wU, wU, wU]) a0_105 rfl rfl) <| .s (.lloadN a0_107 rfl) <| .s (.lstore (L' := [wJ t1, wS, wJ t2, wS, wJ t3, wS, wJ s1, wS, wJ s2, wS, wI mode, wI 3, wJ s3, wS, wR 0, wR 1, wR 2, wR 3, wN, wJ t1, wS, wU, wU, wU, wU]) a0_108 rfl) <| .s (.lload a0_110 rfl) <| .s (.lstore (L' := [wJ t1, wS, wJ t2, wS, wJ t3, wS, wJ s1, wS, wJ s2, wS, wI mode, wI 3, wJ s3, wS, wR 0, wR 1, wR 2, wR 3, wN, wJ t1, wS, wJ s1, wS, wU, wU]) a0_112 rfl) <| .s (.iload a0_114 rfl) ?_
      refine .s (.iconst (1 : Int32) a0_116 rfl) <| .s (.icmpF a0_117 (by decide)) <| .s (.aload a0_120 rfl rfl) <| .s (.astore (L' := [wJ t1, wS, wJ t2, wS, wJ t3, wS, wJ s1, wS, wJ s2, wS, wI mode, wI 3, wJ s3, wS, wR 0, wR 1, wR 2, wR 3, wR 0, wJ t1, wS, wJ s1, wS, wU, wU]) a0_122 rfl rfl) <| .s (.iload a0_124 rfl) <| .s (.iconst (2 : Int32) a0_126 rfl) <| .s (.icmpF a0_127 (by decide)) ?_
      refine .s (.lloadN a0_130 rfl) <| .s (.lload a0_131 rfl) <| .s (.lload a0_133 rfl) <| .s (.lload a0_135 rfl) ?_
      refine .callS a0_137 (ok8 hw _ _ _ _) (wd hw 46 rfl) (wd hw 47 rfl) (argsL := [(.long t2), (.long s2), (.long t1), (.long s1)]) (S := []) (au8_29 hw _ _ t1 t2 t3 s1 s2 s3 _) rfl rfl rfl rfl rfl rfl (Nat.le_of_ble_eq_true rfl) (Nat.le_of_ble_eq_true rfl) ?_
      rintro _ _ _ (⟨q190, q191, q192, rfl, rfl, rfl⟩ | ⟨q193, q194, q195, rfl, rfl, rfl⟩ | ⟨q196, q197, rfl, rfl, rfl⟩ | ⟨q198, rfl, rfl, rfl⟩)
      · exfalso
        simp only [Int32.lt_iff_toInt_lt, Int64.lt_iff_toInt_lt, ← Int32.toInt_inj, ← Int64.toInt_inj, Int32.reduceToInt, Int64.reduceToInt] at *
        omega
      · exfalso
        simp only [Int32.lt_iff_toInt_lt, Int64.lt_iff_toInt_lt, ← Int32.toInt_inj, ← Int64.toInt_inj, Int32.reduceToInt, Int64.reduceToInt] at *
        omega
      · skip
        show WGo _ (140, [wJ t1, wS, wJ t2, wS, wJ t3, wS, wJ s1, wS, wJ s2, wS, wI mode, wI 3, wJ s3, wS, wR 0, wR 1, wR 2, wR 3, wR 0, wJ t1, wS, wJ s1, wS, wU, wU], [.int 0], [(.inr (cn0, [(fk0, (.long t1)), (fk1, .null), (fk2, .null), (fk3, (.long s1))])), (.inr (cn0, [(fk0, (.long t2)), (fk1, .null), (fk2, .null), (fk3, (.long s2))])), (.inr (cn0, [(fk0, (.long t3)), (fk1, .null), (fk2, .null), (fk3, (.long s3))])), (.inr (cn1, [(fk4, .ref 4), (fk5, .int 3)])), (.inl ((.object "com/example/chronogate/chronogate/Event"), [.ref 2, .ref 1, .ref 0, .null, .null, .null, .null, .null]))], 22) _
        refine .s (.ifT a0_140 (by decide)) <| .s (.iload a0_154 rfl) <| .s (.iconst (3 : Int32) a0_156 rfl) <| .s (.icmpF a0_157 (by decide)) <| .s (.lload a0_160 rfl) <| .s (.lload a0_162 rfl) <| .s (.lload a0_164 rfl) ?_
        refine .s (.lload a0_166 rfl) ?_
        refine .callS a0_168 (ok8 hw _ _ _ _) (wd hw 46 rfl) (wd hw 47 rfl) (argsL := [(.long t3), (.long s3), (.long t1), (.long s1)]) (S := []) (au8_30 hw _ _ t1 t2 t3 s1 s2 s3 _) rfl rfl rfl rfl rfl rfl (Nat.le_of_ble_eq_true rfl) (Nat.le_of_ble_eq_true rfl) ?_
        rintro _ _ _ (⟨q199, q200, q201, rfl, rfl, rfl⟩ | ⟨q202, q203, q204, rfl, rfl, rfl⟩ | ⟨q205, q206, rfl, rfl, rfl⟩ | ⟨q207, rfl, rfl, rfl⟩)
        · exfalso
          simp only [Int32.lt_iff_toInt_lt, Int64.lt_iff_toInt_lt, ← Int32.toInt_inj, ← Int64.toInt_inj, Int32.reduceToInt, Int64.reduceToInt] at *
          omega
        · skip
          show WGo _ (171, [wJ t1, wS, wJ t2, wS, wJ t3, wS, wJ s1, wS, wJ s2, wS, wI mode, wI 3, wJ s3, wS, wR 0, wR 1, wR 2, wR 3, wR 0, wJ t1, wS, wJ s1, wS, wU, wU], [.int 1], [(.inr (cn0, [(fk0, (.long t1)), (fk1, .null), (fk2, .null), (fk3, (.long s1))])), (.inr (cn0, [(fk0, (.long t2)), (fk1, .null), (fk2, .null), (fk3, (.long s2))])), (.inr (cn0, [(fk0, (.long t3)), (fk1, .null), (fk2, .null), (fk3, (.long s3))])), (.inr (cn1, [(fk4, .ref 4), (fk5, .int 3)])), (.inl ((.object "com/example/chronogate/chronogate/Event"), [.ref 2, .ref 1, .ref 0, .null, .null, .null, .null, .null]))], 22) _
          refine .s (.ifF a0_171 (by decide)) <| .s (.aload a0_174 rfl rfl) <| .s (.astore (L' := [wJ t1, wS, wJ t2, wS, wJ t3, wS, wJ s1, wS, wJ s2, wS, wI mode, wI 3, wJ s3, wS, wR 0, wR 1, wR 2, wR 3, wR 2, wJ t1, wS, wJ s1, wS, wU, wU]) a0_176 rfl rfl) <| .s (.aload a0_178 rfl rfl) ?_
          refine .callV (k := 3) (z := (⟨"com/example/chronogate/chronogate/ReleaseQueue", "peek", "()Lcom/example/chronogate/chronogate/Event;"⟩ : MethodName)) a0_180 (ok9 hw _ _ _ _) ⟨rfl, by decide⟩ (wd hw 50 rfl) (wd hw 51 rfl) (fun s hZ => notFace_of_selects (args := #[]) (mvT hZ (wd hw 53 rfl))) (wd hw 53 rfl) (wd hw 52 rfl) rfl (argsL := []) (S := []) (au9_31 hw _ _ t1 t2 t3 s1 s2 s3 _) rfl rfl rfl rfl rfl rfl (Nat.le_of_ble_eq_true rfl) (Nat.le_of_ble_eq_true rfl) ?_
          rintro _ _ _ ⟨rfl, rfl, rfl⟩
          show WGo _ (183, [wJ t1, wS, wJ t2, wS, wJ t3, wS, wJ s1, wS, wJ s2, wS, wI mode, wI 3, wJ s3, wS, wR 0, wR 1, wR 2, wR 3, wR 2, wJ t1, wS, wJ s1, wS, wU, wU], [.ref 2], [(.inr (cn0, [(fk0, (.long t1)), (fk1, .null), (fk2, .null), (fk3, (.long s1))])), (.inr (cn0, [(fk0, (.long t2)), (fk1, .null), (fk2, .null), (fk3, (.long s2))])), (.inr (cn0, [(fk0, (.long t3)), (fk1, .null), (fk2, .null), (fk3, (.long s3))])), (.inr (cn1, [(fk4, .ref 4), (fk5, .int 3)])), (.inl ((.object "com/example/chronogate/chronogate/Event"), [.ref 2, .ref 1, .ref 0, .null, .null, .null, .null, .null]))], 22) _
          refine .s (.astore (L' := [wJ t1, wS, wJ t2, wS, wJ t3, wS, wJ s1, wS, wJ s2, wS, wI mode, wI 3, wJ s3, wS, wR 0, wR 1, wR 2, wR 3, wR 2, wJ t1, wS, wJ s1, wS, wR 2, wU]) a0_183 rfl rfl) <| .s (.aload a0_185 rfl rfl) ?_
          refine .callV (k := 3) (z := (⟨"com/example/chronogate/chronogate/ReleaseQueue", "peek", "()Lcom/example/chronogate/chronogate/Event;"⟩ : MethodName)) a0_187 (ok9 hw _ _ _ _) ⟨rfl, by decide⟩ (wd hw 50 rfl) (wd hw 51 rfl) (fun s hZ => notFace_of_selects (args := #[]) (mvT hZ (wd hw 53 rfl))) (wd hw 53 rfl) (wd hw 52 rfl) rfl (argsL := []) (S := []) (au9_31 hw _ _ t1 t2 t3 s1 s2 s3 _) rfl rfl rfl rfl rfl rfl (Nat.le_of_ble_eq_true rfl) (Nat.le_of_ble_eq_true rfl) ?_
          rintro _ _ _ ⟨rfl, rfl, rfl⟩
          show WGo _ (190, [wJ t1, wS, wJ t2, wS, wJ t3, wS, wJ s1, wS, wJ s2, wS, wI mode, wI 3, wJ s3, wS, wR 0, wR 1, wR 2, wR 3, wR 2, wJ t1, wS, wJ s1, wS, wR 2, wU], [.ref 2], [(.inr (cn0, [(fk0, (.long t1)), (fk1, .null), (fk2, .null), (fk3, (.long s1))])), (.inr (cn0, [(fk0, (.long t2)), (fk1, .null), (fk2, .null), (fk3, (.long s2))])), (.inr (cn0, [(fk0, (.long t3)), (fk1, .null), (fk2, .null), (fk3, (.long s3))])), (.inr (cn1, [(fk4, .ref 4), (fk5, .int 3)])), (.inl ((.object "com/example/chronogate/chronogate/Event"), [.ref 2, .ref 1, .ref 0, .null, .null, .null, .null, .null]))], 22) _
          refine .s (.astore (L' := [wJ t1, wS, wJ t2, wS, wJ t3, wS, wJ s1, wS, wJ s2, wS, wI mode, wI 3, wJ s3, wS, wR 0, wR 1, wR 2, wR 3, wR 2, wJ t1, wS, wJ s1, wS, wR 2, wR 2]) a0_190 rfl rfl) <| .s (.aload a0_192 rfl rfl) <| .s (.aload a0_194 rfl rfl) <| .s (.acmp true 199 a0_196 rfl rfl (by decide) rfl) <| .s (.aload a0_199 rfl rfl) <| .s (.aload a0_201 rfl rfl) <| .s (.acmp true 206 a0_203 rfl rfl (by decide) rfl) ?_
          refine .s (.aload a0_206 rfl rfl) ?_
          refine .callV (k := 3) (z := (⟨"com/example/chronogate/chronogate/ReleaseQueue", "size", "()I"⟩ : MethodName)) a0_208 (ok10 hw _ _ _ _) ⟨rfl, by decide⟩ (wd hw 55 rfl) (wd hw 56 rfl) (fun s hZ => notFace_of_selects (args := #[]) (mvT hZ (wd hw 58 rfl))) (wd hw 58 rfl) (wd hw 57 rfl) rfl (argsL := []) (S := []) (au10_32 hw _ _ t1 t2 t3 s1 s2 s3 _) rfl rfl rfl rfl rfl rfl (Nat.le_of_ble_eq_true rfl) (Nat.le_of_ble_eq_true rfl) ?_
          rintro _ _ _ ⟨rfl, rfl, rfl⟩
          show WGo _ (211, [wJ t1, wS, wJ t2, wS, wJ t3, wS, wJ s1, wS, wJ s2, wS, wI mode, wI 3, wJ s3, wS, wR 0, wR 1, wR 2, wR 3, wR 2, wJ t1, wS, wJ s1, wS, wR 2, wR 2], [.int 3], [(.inr (cn0, [(fk0, (.long t1)), (fk1, .null), (fk2, .null), (fk3, (.long s1))])), (.inr (cn0, [(fk0, (.long t2)), (fk1, .null), (fk2, .null), (fk3, (.long s2))])), (.inr (cn0, [(fk0, (.long t3)), (fk1, .null), (fk2, .null), (fk3, (.long s3))])), (.inr (cn1, [(fk4, .ref 4), (fk5, .int 3)])), (.inl ((.object "com/example/chronogate/chronogate/Event"), [.ref 2, .ref 1, .ref 0, .null, .null, .null, .null, .null]))], 22) _
          refine .s (.iload a0_211 rfl) <| .s (.icmpF a0_213 (by decide)) <| .s (.iconst (1 : Int32) a0_216 rfl) <| .s (.goto a0_217) ?_
          refine .ireturn .boolean a0_221 rfl (by simp) ?_
          exact ⟨rfl, Nat.le_of_ble_eq_true rfl, Nat.le_of_ble_eq_true rfl⟩
        · exfalso
          simp only [Int32.lt_iff_toInt_lt, Int64.lt_iff_toInt_lt, ← Int32.toInt_inj, ← Int64.toInt_inj, Int32.reduceToInt, Int64.reduceToInt] at *
          omega
        · exfalso
          simp only [Int32.lt_iff_toInt_lt, Int64.lt_iff_toInt_lt, ← Int32.toInt_inj, ← Int64.toInt_inj, Int32.reduceToInt, Int64.reduceToInt] at *
          omega
      · exfalso
        simp only [Int32.lt_iff_toInt_lt, Int64.lt_iff_toInt_lt, ← Int32.toInt_inj, ← Int64.toInt_inj, Int32.reduceToInt, Int64.reduceToInt] at *
        omega
    · skip
      show WGo _ (104, [wJ t1, wS, wJ t2, wS, wJ t3, wS, wJ s1, wS, wJ s2, wS, wI mode, wI 3, wJ s3, wS, wR 0, wR 1, wR 2, wR 3, wU, wU, wU, wU, wU, wU, wU], [], [(.inr (cn0, [(fk0, (.long t1)), (fk1, .null), (fk2, .null), (fk3, (.long s1))])), (.inr (cn0, [(fk0, (.long t2)), (fk1, .null), (fk2, .null), (fk3, (.long s2))])), (.inr (cn0, [(fk0, (.long t3)), (fk1, .null), (fk2, .null), (fk3, (.long s3))])), (.inr (cn1, [(fk4, .ref 4), (fk5, .int 3)])), (.inl ((.object "com/example/chronogate/chronogate/Event"), [.ref 2, .ref 1, .ref 0, .null, .null, .null, .null, .null]))], 22) _
      refine .s (.aconstNull a0_104) <| .s (.astore (L' := [wJ t1, wS, wJ t2, wS, wJ t3, wS, wJ s1, wS, wJ s2, wS, wI mode, wI 3, wJ s3, wS, wR 0, wR 1, wR 2, wR 3, wN, wU, wU, wU, wU, wU, wU]) a0_105 rfl rfl) <| .s (.lloadN a0_107 rfl) <| .s (.lstore (L' := [wJ t1, wS, wJ t2, wS, wJ t3, wS, wJ s1, wS, wJ s2, wS, wI mode, wI 3, wJ s3, wS, wR 0, wR 1, wR 2, wR 3, wN, wJ t1, wS, wU, wU, wU, wU]) a0_108 rfl) <| .s (.lload a0_110 rfl) <| .s (.lstore (L' := [wJ t1, wS, wJ t2, wS, wJ t3, wS, wJ s1, wS, wJ s2, wS, wI mode, wI 3, wJ s3, wS, wR 0, wR 1, wR 2, wR 3, wN, wJ t1, wS, wJ s1, wS, wU, wU]) a0_112 rfl) <| .s (.iload a0_114 rfl) ?_
      refine .s (.iconst (1 : Int32) a0_116 rfl) <| .s (.icmpF a0_117 (by decide)) <| .s (.aload a0_120 rfl rfl) <| .s (.astore (L' := [wJ t1, wS, wJ t2, wS, wJ t3, wS, wJ s1, wS, wJ s2, wS, wI mode, wI 3, wJ s3, wS, wR 0, wR 1, wR 2, wR 3, wR 0, wJ t1, wS, wJ s1, wS, wU, wU]) a0_122 rfl rfl) <| .s (.iload a0_124 rfl) <| .s (.iconst (2 : Int32) a0_126 rfl) <| .s (.icmpF a0_127 (by decide)) ?_
      refine .s (.lloadN a0_130 rfl) <| .s (.lload a0_131 rfl) <| .s (.lload a0_133 rfl) <| .s (.lload a0_135 rfl) ?_
      refine .callS a0_137 (ok8 hw _ _ _ _) (wd hw 46 rfl) (wd hw 47 rfl) (argsL := [(.long t2), (.long s2), (.long t1), (.long s1)]) (S := []) (au8_29 hw _ _ t1 t2 t3 s1 s2 s3 _) rfl rfl rfl rfl rfl rfl (Nat.le_of_ble_eq_true rfl) (Nat.le_of_ble_eq_true rfl) ?_
      rintro _ _ _ (⟨q208, q209, q210, rfl, rfl, rfl⟩ | ⟨q211, q212, q213, rfl, rfl, rfl⟩ | ⟨q214, q215, rfl, rfl, rfl⟩ | ⟨q216, rfl, rfl, rfl⟩)
      · exfalso
        simp only [Int32.lt_iff_toInt_lt, Int64.lt_iff_toInt_lt, ← Int32.toInt_inj, ← Int64.toInt_inj, Int32.reduceToInt, Int64.reduceToInt] at *
        omega
      · exfalso
        simp only [Int32.lt_iff_toInt_lt, Int64.lt_iff_toInt_lt, ← Int32.toInt_inj, ← Int64.toInt_inj, Int32.reduceToInt, Int64.reduceToInt] at *
        omega
      · skip
        show WGo _ (140, [wJ t1, wS, wJ t2, wS, wJ t3, wS, wJ s1, wS, wJ s2, wS, wI mode, wI 3, wJ s3, wS, wR 0, wR 1, wR 2, wR 3, wR 0, wJ t1, wS, wJ s1, wS, wU, wU], [.int 0], [(.inr (cn0, [(fk0, (.long t1)), (fk1, .null), (fk2, .null), (fk3, (.long s1))])), (.inr (cn0, [(fk0, (.long t2)), (fk1, .null), (fk2, .null), (fk3, (.long s2))])), (.inr (cn0, [(fk0, (.long t3)), (fk1, .null), (fk2, .null), (fk3, (.long s3))])), (.inr (cn1, [(fk4, .ref 4), (fk5, .int 3)])), (.inl ((.object "com/example/chronogate/chronogate/Event"), [.ref 2, .ref 1, .ref 0, .null, .null, .null, .null, .null]))], 22) _
        refine .s (.ifT a0_140 (by decide)) <| .s (.iload a0_154 rfl) <| .s (.iconst (3 : Int32) a0_156 rfl) <| .s (.icmpF a0_157 (by decide)) <| .s (.lload a0_160 rfl) <| .s (.lload a0_162 rfl) <| .s (.lload a0_164 rfl) ?_
        refine .s (.lload a0_166 rfl) ?_
        refine .callS a0_168 (ok8 hw _ _ _ _) (wd hw 46 rfl) (wd hw 47 rfl) (argsL := [(.long t3), (.long s3), (.long t1), (.long s1)]) (S := []) (au8_30 hw _ _ t1 t2 t3 s1 s2 s3 _) rfl rfl rfl rfl rfl rfl (Nat.le_of_ble_eq_true rfl) (Nat.le_of_ble_eq_true rfl) ?_
        rintro _ _ _ (⟨q217, q218, q219, rfl, rfl, rfl⟩ | ⟨q220, q221, q222, rfl, rfl, rfl⟩ | ⟨q223, q224, rfl, rfl, rfl⟩ | ⟨q225, rfl, rfl, rfl⟩)
        · exfalso
          simp only [Int32.lt_iff_toInt_lt, Int64.lt_iff_toInt_lt, ← Int32.toInt_inj, ← Int64.toInt_inj, Int32.reduceToInt, Int64.reduceToInt] at *
          omega
        · exfalso
          simp only [Int32.lt_iff_toInt_lt, Int64.lt_iff_toInt_lt, ← Int32.toInt_inj, ← Int64.toInt_inj, Int32.reduceToInt, Int64.reduceToInt] at *
          omega
        · exfalso
          simp only [Int32.lt_iff_toInt_lt, Int64.lt_iff_toInt_lt, ← Int32.toInt_inj, ← Int64.toInt_inj, Int32.reduceToInt, Int64.reduceToInt] at *
          omega
        · skip
          show WGo _ (171, [wJ t1, wS, wJ t2, wS, wJ t3, wS, wJ s1, wS, wJ s2, wS, wI mode, wI 3, wJ s3, wS, wR 0, wR 1, wR 2, wR 3, wR 0, wJ t1, wS, wJ s1, wS, wU, wU], [.int 1], [(.inr (cn0, [(fk0, (.long t1)), (fk1, .null), (fk2, .null), (fk3, (.long s1))])), (.inr (cn0, [(fk0, (.long t2)), (fk1, .null), (fk2, .null), (fk3, (.long s2))])), (.inr (cn0, [(fk0, (.long t3)), (fk1, .null), (fk2, .null), (fk3, (.long s3))])), (.inr (cn1, [(fk4, .ref 4), (fk5, .int 3)])), (.inl ((.object "com/example/chronogate/chronogate/Event"), [.ref 2, .ref 1, .ref 0, .null, .null, .null, .null, .null]))], 22) _
          refine .s (.ifF a0_171 (by decide)) <| .s (.aload a0_174 rfl rfl) <| .s (.astore (L' := [wJ t1, wS, wJ t2, wS, wJ t3, wS, wJ s1, wS, wJ s2, wS, wI mode, wI 3, wJ s3, wS, wR 0, wR 1, wR 2, wR 3, wR 2, wJ t1, wS, wJ s1, wS, wU, wU]) a0_176 rfl rfl) <| .s (.aload a0_178 rfl rfl) ?_
          refine .callV (k := 3) (z := (⟨"com/example/chronogate/chronogate/ReleaseQueue", "peek", "()Lcom/example/chronogate/chronogate/Event;"⟩ : MethodName)) a0_180 (ok9 hw _ _ _ _) ⟨rfl, by decide⟩ (wd hw 50 rfl) (wd hw 51 rfl) (fun s hZ => notFace_of_selects (args := #[]) (mvT hZ (wd hw 53 rfl))) (wd hw 53 rfl) (wd hw 52 rfl) rfl (argsL := []) (S := []) (au9_31 hw _ _ t1 t2 t3 s1 s2 s3 _) rfl rfl rfl rfl rfl rfl (Nat.le_of_ble_eq_true rfl) (Nat.le_of_ble_eq_true rfl) ?_
          rintro _ _ _ ⟨rfl, rfl, rfl⟩
          show WGo _ (183, [wJ t1, wS, wJ t2, wS, wJ t3, wS, wJ s1, wS, wJ s2, wS, wI mode, wI 3, wJ s3, wS, wR 0, wR 1, wR 2, wR 3, wR 2, wJ t1, wS, wJ s1, wS, wU, wU], [.ref 2], [(.inr (cn0, [(fk0, (.long t1)), (fk1, .null), (fk2, .null), (fk3, (.long s1))])), (.inr (cn0, [(fk0, (.long t2)), (fk1, .null), (fk2, .null), (fk3, (.long s2))])), (.inr (cn0, [(fk0, (.long t3)), (fk1, .null), (fk2, .null), (fk3, (.long s3))])), (.inr (cn1, [(fk4, .ref 4), (fk5, .int 3)])), (.inl ((.object "com/example/chronogate/chronogate/Event"), [.ref 2, .ref 1, .ref 0, .null, .null, .null, .null, .null]))], 22) _
          refine .s (.astore (L' := [wJ t1, wS, wJ t2, wS, wJ t3, wS, wJ s1, wS, wJ s2, wS, wI mode, wI 3, wJ s3, wS, wR 0, wR 1, wR 2, wR 3, wR 2, wJ t1, wS, wJ s1, wS, wR 2, wU]) a0_183 rfl rfl) <| .s (.aload a0_185 rfl rfl) ?_
          refine .callV (k := 3) (z := (⟨"com/example/chronogate/chronogate/ReleaseQueue", "peek", "()Lcom/example/chronogate/chronogate/Event;"⟩ : MethodName)) a0_187 (ok9 hw _ _ _ _) ⟨rfl, by decide⟩ (wd hw 50 rfl) (wd hw 51 rfl) (fun s hZ => notFace_of_selects (args := #[]) (mvT hZ (wd hw 53 rfl))) (wd hw 53 rfl) (wd hw 52 rfl) rfl (argsL := []) (S := []) (au9_31 hw _ _ t1 t2 t3 s1 s2 s3 _) rfl rfl rfl rfl rfl rfl (Nat.le_of_ble_eq_true rfl) (Nat.le_of_ble_eq_true rfl) ?_
          rintro _ _ _ ⟨rfl, rfl, rfl⟩
          show WGo _ (190, [wJ t1, wS, wJ t2, wS, wJ t3, wS, wJ s1, wS, wJ s2, wS, wI mode, wI 3, wJ s3, wS, wR 0, wR 1, wR 2, wR 3, wR 2, wJ t1, wS, wJ s1, wS, wR 2, wU], [.ref 2], [(.inr (cn0, [(fk0, (.long t1)), (fk1, .null), (fk2, .null), (fk3, (.long s1))])), (.inr (cn0, [(fk0, (.long t2)), (fk1, .null), (fk2, .null), (fk3, (.long s2))])), (.inr (cn0, [(fk0, (.long t3)), (fk1, .null), (fk2, .null), (fk3, (.long s3))])), (.inr (cn1, [(fk4, .ref 4), (fk5, .int 3)])), (.inl ((.object "com/example/chronogate/chronogate/Event"), [.ref 2, .ref 1, .ref 0, .null, .null, .null, .null, .null]))], 22) _
          refine .s (.astore (L' := [wJ t1, wS, wJ t2, wS, wJ t3, wS, wJ s1, wS, wJ s2, wS, wI mode, wI 3, wJ s3, wS, wR 0, wR 1, wR 2, wR 3, wR 2, wJ t1, wS, wJ s1, wS, wR 2, wR 2]) a0_190 rfl rfl) <| .s (.aload a0_192 rfl rfl) <| .s (.aload a0_194 rfl rfl) <| .s (.acmp true 199 a0_196 rfl rfl (by decide) rfl) <| .s (.aload a0_199 rfl rfl) <| .s (.aload a0_201 rfl rfl) <| .s (.acmp true 206 a0_203 rfl rfl (by decide) rfl) ?_
          refine .s (.aload a0_206 rfl rfl) ?_
          refine .callV (k := 3) (z := (⟨"com/example/chronogate/chronogate/ReleaseQueue", "size", "()I"⟩ : MethodName)) a0_208 (ok10 hw _ _ _ _) ⟨rfl, by decide⟩ (wd hw 55 rfl) (wd hw 56 rfl) (fun s hZ => notFace_of_selects (args := #[]) (mvT hZ (wd hw 58 rfl))) (wd hw 58 rfl) (wd hw 57 rfl) rfl (argsL := []) (S := []) (au10_32 hw _ _ t1 t2 t3 s1 s2 s3 _) rfl rfl rfl rfl rfl rfl (Nat.le_of_ble_eq_true rfl) (Nat.le_of_ble_eq_true rfl) ?_
          rintro _ _ _ ⟨rfl, rfl, rfl⟩
          show WGo _ (211, [wJ t1, wS, wJ t2, wS, wJ t3, wS, wJ s1, wS, wJ s2, wS, wI mode, wI 3, wJ s3, wS, wR 0, wR 1, wR 2, wR 3, wR 2, wJ t1, wS, wJ s1, wS, wR 2, wR 2], [.int 3], [(.inr (cn0, [(fk0, (.long t1)), (fk1, .null), (fk2, .null), (fk3, (.long s1))])), (.inr (cn0, [(fk0, (.long t2)), (fk1, .null), (fk2, .null), (fk3, (.long s2))])), (.inr (cn0, [(fk0, (.long t3)), (fk1, .null), (fk2, .null), (fk3, (.long s3))])), (.inr (cn1, [(fk4, .ref 4), (fk5, .int 3)])), (.inl ((.object "com/example/chronogate/chronogate/Event"), [.ref 2, .ref 1, .ref 0, .null, .null, .null, .null, .null]))], 22) _
          refine .s (.iload a0_211 rfl) <| .s (.icmpF a0_213 (by decide)) <| .s (.iconst (1 : Int32) a0_216 rfl) <| .s (.goto a0_217) ?_
          refine .ireturn .boolean a0_221 rfl (by simp) ?_
          exact ⟨rfl, Nat.le_of_ble_eq_true rfl, Nat.le_of_ble_eq_true rfl⟩
      · exfalso
        simp only [Int32.lt_iff_toInt_lt, Int64.lt_iff_toInt_lt, ← Int32.toInt_inj, ← Int64.toInt_inj, Int32.reduceToInt, Int64.reduceToInt] at *
        omega
  · skip
    show WGo _ (91, [wJ t1, wS, wJ t2, wS, wJ t3, wS, wJ s1, wS, wJ s2, wS, wI mode, wI 3, wJ s3, wS, wR 0, wR 1, wR 2, wR 3, wU, wU, wU, wU, wU, wU, wU], [], [(.inr (cn0, [(fk0, (.long t1)), (fk1, .null), (fk2, .null), (fk3, (.long s1))])), (.inr (cn0, [(fk0, (.long t2)), (fk1, .null), (fk2, .null), (fk3, (.long s2))])), (.inr (cn0, [(fk0, (.long t3)), (fk1, .null), (fk2, .null), (fk3, (.long s3))])), (.inr (cn1, [(fk4, .ref 4), (fk5, .int 2)])), (.inl ((.object "com/example/chronogate/chronogate/Event"), [.ref 0, .ref 1, .null, .null, .null, .null, .null, .null]))], 22) _
    refine .s (.iload a0_91 rfl) <| .s (.iconst (3 : Int32) a0_93 rfl) <| .s (.icmpF a0_94 (by decide)) <| .s (.aload a0_97 rfl rfl) <| .s (.aload a0_99 rfl rfl) ?_
    refine .callV (k := 3) (z := (⟨"com/example/chronogate/chronogate/ReleaseQueue", "add", "(Lcom/example/chronogate/chronogate/Event;)V"⟩ : MethodName)) a0_101 (ok5 hw _ _ _ _) ⟨rfl, by decide⟩ (wd hw 31 rfl) (wd hw 32 rfl) (fun s hZ => notFace_of_selects (args := #[]) (mvT hZ (wd hw 34 rfl))) (wd hw 34 rfl) (wd hw 33 rfl) rfl (argsL := [.ref 2]) (S := []) (au5_21 hw _ _ t1 t2 t3 s1 s2 s3 _) rfl rfl rfl rfl rfl rfl (Nat.le_of_ble_eq_true rfl) (Nat.le_of_ble_eq_true rfl) ?_
    rintro _ _ _ (⟨q226, q227, rfl, rfl, rfl⟩ | ⟨q228, q229, q230, q231, rfl, rfl, rfl⟩ | ⟨q232, q233, q234, q235, rfl, rfl, rfl⟩ | ⟨q236, q237, q238, rfl, rfl, rfl⟩ | ⟨q239, rfl, rfl, rfl⟩)
    · skip
      show WGo _ (104, [wJ t1, wS, wJ t2, wS, wJ t3, wS, wJ s1, wS, wJ s2, wS, wI mode, wI 3, wJ s3, wS, wR 0, wR 1, wR 2, wR 3, wU, wU, wU, wU, wU, wU, wU], [], [(.inr (cn0, [(fk0, (.long t1)), (fk1, .null), (fk2, .null), (fk3, (.long s1))])), (.inr (cn0, [(fk0, (.long t2)), (fk1, .null), (fk2, .null), (fk3, (.long s2))])), (.inr (cn0, [(fk0, (.long t3)), (fk1, .null), (fk2, .null), (fk3, (.long s3))])), (.inr (cn1, [(fk4, .ref 4), (fk5, .int 3)])), (.inl ((.object "com/example/chronogate/chronogate/Event"), [.ref 0, .ref 1, .ref 2, .null, .null, .null, .null, .null]))], 22) _
      refine .s (.aconstNull a0_104) <| .s (.astore (L' := [wJ t1, wS, wJ t2, wS, wJ t3, wS, wJ s1, wS, wJ s2, wS, wI mode, wI 3, wJ s3, wS, wR 0, wR 1, wR 2, wR 3, wN, wU, wU, wU, wU, wU, wU]) a0_105 rfl rfl) <| .s (.lloadN a0_107 rfl) <| .s (.lstore (L' := [wJ t1, wS, wJ t2, wS, wJ t3, wS, wJ s1, wS, wJ s2, wS, wI mode, wI 3, wJ s3, wS, wR 0, wR 1, wR 2, wR 3, wN, wJ t1, wS, wU, wU, wU, wU]) a0_108 rfl) <| .s (.lload a0_110 rfl) <| .s (.lstore (L' := [wJ t1, wS, wJ t2, wS, wJ t3, wS, wJ s1, wS, wJ s2, wS, wI mode, wI 3, wJ s3, wS, wR 0, wR 1, wR 2, wR 3, wN, wJ t1, wS, wJ s1, wS, wU, wU]) a0_112 rfl) <| .s (.iload a0_114 rfl) ?_
      refine .s (.iconst (1 : Int32) a0_116 rfl) <| .s (.icmpF a0_117 (by decide)) <| .s (.aload a0_120 rfl rfl) <| .s (.astore (L' := [wJ t1, wS, wJ t2, wS, wJ t3, wS, wJ s1, wS, wJ s2, wS, wI mode, wI 3, wJ s3, wS, wR 0, wR 1, wR 2, wR 3, wR 0, wJ t1, wS, wJ s1, wS, wU, wU]) a0_122 rfl rfl) <| .s (.iload a0_124 rfl) <| .s (.iconst (2 : Int32) a0_126 rfl) <| .s (.icmpF a0_127 (by decide)) ?_
      refine .s (.lloadN a0_130 rfl) <| .s (.lload a0_131 rfl) <| .s (.lload a0_133 rfl) <| .s (.lload a0_135 rfl) ?_
      refine .callS a0_137 (ok8 hw _ _ _ _) (wd hw 46 rfl) (wd hw 47 rfl) (argsL := [(.long t2), (.long s2), (.long t1), (.long s1)]) (S := []) (au8_25 hw _ _ t1 t2 t3 s1 s2 s3 _) rfl rfl rfl rfl rfl rfl (Nat.le_of_ble_eq_true rfl) (Nat.le_of_ble_eq_true rfl) ?_
      rintro _ _ _ (⟨q240, q241, q242, rfl, rfl, rfl⟩ | ⟨q243, q244, q245, rfl, rfl, rfl⟩ | ⟨q246, q247, rfl, rfl, rfl⟩ | ⟨q248, rfl, rfl, rfl⟩)
      · skip
        show WGo _ (140, [wJ t1, wS, wJ t2, wS, wJ t3, wS, wJ s1, wS, wJ s2, wS, wI mode, wI 3, wJ s3, wS, wR 0, wR 1, wR 2, wR 3, wR 0, wJ t1, wS, wJ s1, wS, wU, wU], [.int 0], [(.inr (cn0, [(fk0, (.long t1)), (fk1, .null), (fk2, .null), (fk3, (.long s1))])), (.inr (cn0, [(fk0, (.long t2)), (fk1, .null), (fk2, .null), (fk3, (.long s2))])), (.inr (cn0, [(fk0, (.long t3)), (fk1, .null), (fk2, .null), (fk3, (.long s3))])), (.inr (cn1, [(fk4, .ref 4), (fk5, .int 3)])), (.inl ((.object "com/example/chronogate/chronogate/Event"), [.ref 0, .ref 1, .ref 2, .null, .null, .null, .null, .null]))], 22) _
        refine .s (.ifT a0_140 (by decide)) <| .s (.iload a0_154 rfl) <| .s (.iconst (3 : Int32) a0_156 rfl) <| .s (.icmpF a0_157 (by decide)) <| .s (.lload a0_160 rfl) <| .s (.lload a0_162 rfl) <| .s (.lload a0_164 rfl) ?_
        refine .s (.lload a0_166 rfl) ?_
        refine .callS a0_168 (ok8 hw _ _ _ _) (wd hw 46 rfl) (wd hw 47 rfl) (argsL := [(.long t3), (.long s3), (.long t1), (.long s1)]) (S := []) (au8_26 hw _ _ t1 t2 t3 s1 s2 s3 _) rfl rfl rfl rfl rfl rfl (Nat.le_of_ble_eq_true rfl) (Nat.le_of_ble_eq_true rfl) ?_
        rintro _ _ _ (⟨q249, q250, q251, rfl, rfl, rfl⟩ | ⟨q252, q253, q254, rfl, rfl, rfl⟩ | ⟨q255, q256, rfl, rfl, rfl⟩ | ⟨q257, rfl, rfl, rfl⟩)
        · exfalso
          simp only [Int32.lt_iff_toInt_lt, Int64.lt_iff_toInt_lt, ← Int32.toInt_inj, ← Int64.toInt_inj, Int32.reduceToInt, Int64.reduceToInt] at *
          omega
        · exfalso
          simp only [Int32.lt_iff_toInt_lt, Int64.lt_iff_toInt_lt, ← Int32.toInt_inj, ← Int64.toInt_inj, Int32.reduceToInt, Int64.reduceToInt] at *
          omega
        · skip
          show WGo _ (171, [wJ t1, wS, wJ t2, wS, wJ t3, wS, wJ s1, wS, wJ s2, wS, wI mode, wI 3, wJ s3, wS, wR 0, wR 1, wR 2, wR 3, wR 0, wJ t1, wS, wJ s1, wS, wU, wU], [.int 0], [(.inr (cn0, [(fk0, (.long t1)), (fk1, .null), (fk2, .null), (fk3, (.long s1))])), (.inr (cn0, [(fk0, (.long t2)), (fk1, .null), (fk2, .null), (fk3, (.long s2))])), (.inr (cn0, [(fk0, (.long t3)), (fk1, .null), (fk2, .null), (fk3, (.long s3))])), (.inr (cn1, [(fk4, .ref 4), (fk5, .int 3)])), (.inl ((.object "com/example/chronogate/chronogate/Event"), [.ref 0, .ref 1, .ref 2, .null, .null, .null, .null, .null]))], 22) _
          refine .s (.ifT a0_171 (by decide)) <| .s (.aload a0_178 rfl rfl) ?_
          refine .callV (k := 3) (z := (⟨"com/example/chronogate/chronogate/ReleaseQueue", "peek", "()Lcom/example/chronogate/chronogate/Event;"⟩ : MethodName)) a0_180 (ok9 hw _ _ _ _) ⟨rfl, by decide⟩ (wd hw 50 rfl) (wd hw 51 rfl) (fun s hZ => notFace_of_selects (args := #[]) (mvT hZ (wd hw 53 rfl))) (wd hw 53 rfl) (wd hw 52 rfl) rfl (argsL := []) (S := []) (au9_27 hw _ _ t1 t2 t3 s1 s2 s3 _) rfl rfl rfl rfl rfl rfl (Nat.le_of_ble_eq_true rfl) (Nat.le_of_ble_eq_true rfl) ?_
          rintro _ _ _ ⟨rfl, rfl, rfl⟩
          show WGo _ (183, [wJ t1, wS, wJ t2, wS, wJ t3, wS, wJ s1, wS, wJ s2, wS, wI mode, wI 3, wJ s3, wS, wR 0, wR 1, wR 2, wR 3, wR 0, wJ t1, wS, wJ s1, wS, wU, wU], [.ref 0], [(.inr (cn0, [(fk0, (.long t1)), (fk1, .null), (fk2, .null), (fk3, (.long s1))])), (.inr (cn0, [(fk0, (.long t2)), (fk1, .null), (fk2, .null), (fk3, (.long s2))])), (.inr (cn0, [(fk0, (.long t3)), (fk1, .null), (fk2, .null), (fk3, (.long s3))])), (.inr (cn1, [(fk4, .ref 4), (fk5, .int 3)])), (.inl ((.object "com/example/chronogate/chronogate/Event"), [.ref 0, .ref 1, .ref 2, .null, .null, .null, .null, .null]))], 22) _
          refine .s (.astore (L' := [wJ t1, wS, wJ t2, wS, wJ t3, wS, wJ s1, wS, wJ s2, wS, wI mode, wI 3, wJ s3, wS, wR 0, wR 1, wR 2, wR 3, wR 0, wJ t1, wS, wJ s1, wS, wR 0, wU]) a0_183 rfl rfl) <| .s (.aload a0_185 rfl rfl) ?_
          refine .callV (k := 3) (z := (⟨"com/example/chronogate/chronogate/ReleaseQueue", "peek", "()Lcom/example/chronogate/chronogate/Event;"⟩ : MethodName)) a0_187 (ok9 hw _ _ _ _) ⟨rfl, by decide⟩ (wd hw 50 rfl) (wd hw 51 rfl) (fun s hZ => notFace_of_selects (args := #[]) (mvT hZ (wd hw 53 rfl))) (wd hw 53 rfl) (wd hw 52 rfl) rfl (argsL := []) (S := []) (au9_27 hw _ _ t1 t2 t3 s1 s2 s3 _) rfl rfl rfl rfl rfl rfl (Nat.le_of_ble_eq_true rfl) (Nat.le_of_ble_eq_true rfl) ?_
          rintro _ _ _ ⟨rfl, rfl, rfl⟩
          show WGo _ (190, [wJ t1, wS, wJ t2, wS, wJ t3, wS, wJ s1, wS, wJ s2, wS, wI mode, wI 3, wJ s3, wS, wR 0, wR 1, wR 2, wR 3, wR 0, wJ t1, wS, wJ s1, wS, wR 0, wU], [.ref 0], [(.inr (cn0, [(fk0, (.long t1)), (fk1, .null), (fk2, .null), (fk3, (.long s1))])), (.inr (cn0, [(fk0, (.long t2)), (fk1, .null), (fk2, .null), (fk3, (.long s2))])), (.inr (cn0, [(fk0, (.long t3)), (fk1, .null), (fk2, .null), (fk3, (.long s3))])), (.inr (cn1, [(fk4, .ref 4), (fk5, .int 3)])), (.inl ((.object "com/example/chronogate/chronogate/Event"), [.ref 0, .ref 1, .ref 2, .null, .null, .null, .null, .null]))], 22) _
          refine .s (.astore (L' := [wJ t1, wS, wJ t2, wS, wJ t3, wS, wJ s1, wS, wJ s2, wS, wI mode, wI 3, wJ s3, wS, wR 0, wR 1, wR 2, wR 3, wR 0, wJ t1, wS, wJ s1, wS, wR 0, wR 0]) a0_190 rfl rfl) <| .s (.aload a0_192 rfl rfl) <| .s (.aload a0_194 rfl rfl) <| .s (.acmp true 199 a0_196 rfl rfl (by decide) rfl) <| .s (.aload a0_199 rfl rfl) <| .s (.aload a0_201 rfl rfl) <| .s (.acmp true 206 a0_203 rfl rfl (by decide) rfl) ?_
          refine .s (.aload a0_206 rfl rfl) ?_
          refine .callV (k := 3) (z := (⟨"com/example/chronogate/chronogate/ReleaseQueue", "size", "()I"⟩ : MethodName)) a0_208 (ok10 hw _ _ _ _) ⟨rfl, by decide⟩ (wd hw 55 rfl) (wd hw 56 rfl) (fun s hZ => notFace_of_selects (args := #[]) (mvT hZ (wd hw 58 rfl))) (wd hw 58 rfl) (wd hw 57 rfl) rfl (argsL := []) (S := []) (au10_28 hw _ _ t1 t2 t3 s1 s2 s3 _) rfl rfl rfl rfl rfl rfl (Nat.le_of_ble_eq_true rfl) (Nat.le_of_ble_eq_true rfl) ?_
          rintro _ _ _ ⟨rfl, rfl, rfl⟩
          show WGo _ (211, [wJ t1, wS, wJ t2, wS, wJ t3, wS, wJ s1, wS, wJ s2, wS, wI mode, wI 3, wJ s3, wS, wR 0, wR 1, wR 2, wR 3, wR 0, wJ t1, wS, wJ s1, wS, wR 0, wR 0], [.int 3], [(.inr (cn0, [(fk0, (.long t1)), (fk1, .null), (fk2, .null), (fk3, (.long s1))])), (.inr (cn0, [(fk0, (.long t2)), (fk1, .null), (fk2, .null), (fk3, (.long s2))])), (.inr (cn0, [(fk0, (.long t3)), (fk1, .null), (fk2, .null), (fk3, (.long s3))])), (.inr (cn1, [(fk4, .ref 4), (fk5, .int 3)])), (.inl ((.object "com/example/chronogate/chronogate/Event"), [.ref 0, .ref 1, .ref 2, .null, .null, .null, .null, .null]))], 22) _
          refine .s (.iload a0_211 rfl) <| .s (.icmpF a0_213 (by decide)) <| .s (.iconst (1 : Int32) a0_216 rfl) <| .s (.goto a0_217) ?_
          refine .ireturn .boolean a0_221 rfl (by simp) ?_
          exact ⟨rfl, Nat.le_of_ble_eq_true rfl, Nat.le_of_ble_eq_true rfl⟩
        · exfalso
          simp only [Int32.lt_iff_toInt_lt, Int64.lt_iff_toInt_lt, ← Int32.toInt_inj, ← Int64.toInt_inj, Int32.reduceToInt, Int64.reduceToInt] at *
          omega
      · exfalso
        simp only [Int32.lt_iff_toInt_lt, Int64.lt_iff_toInt_lt, ← Int32.toInt_inj, ← Int64.toInt_inj, Int32.reduceToInt, Int64.reduceToInt] at *
        omega
      · exfalso
        simp only [Int32.lt_iff_toInt_lt, Int64.lt_iff_toInt_lt, ← Int32.toInt_inj, ← Int64.toInt_inj, Int32.reduceToInt, Int64.reduceToInt] at *
        omega
      · exfalso
        simp only [Int32.lt_iff_toInt_lt, Int64.lt_iff_toInt_lt, ← Int32.toInt_inj, ← Int64.toInt_inj, Int32.reduceToInt, Int64.reduceToInt] at *
        omega
    · skip
      show WGo _ (104, [wJ t1, wS, wJ t2, wS, wJ t3, wS, wJ s1, wS, wJ s2, wS, wI mode, wI 3, wJ s3, wS, wR 0, wR 1, wR 2, wR 3, wU, wU, wU, wU, wU, wU, wU], [], [(.inr (cn0, [(fk0, (.long t1)), (fk1, .null), (fk2, .null), (fk3, (.long s1))])), (.inr (cn0, [(fk0, (.long t2)), (fk1, .null), (fk2, .null), (fk3, (.long s2))])), (.inr (cn0, [(fk0, (.long t3)), (fk1, .null), (fk2, .null), (fk3, (.long s3))])), (.inr (cn1, [(fk4, .ref 4), (fk5, .int 3)])), (.inl ((.object "com/example/chronogate/chronogate/Event"), [.ref 0, .ref 1, .ref 2, .null, .null, .null, .null, .null]))], 22) _
      refine .s (.aconstNull a0_104) <| .s (.astore (L' := [wJ t1, wS, wJ t2, wS, wJ t3, wS, wJ s1, wS, wJ s2, wS, wI mode, wI 3, wJ s3, wS, wR 0, wR 1, wR 2, wR 3, wN, wU, wU, wU, wU, wU, wU]) a0_105 rfl rfl) <| .s (.lloadN a0_107 rfl) <| .s (.lstore (L' := [wJ t1, wS, wJ t2, wS, wJ t3, wS, wJ s1, wS, wJ s2, wS, wI mode, wI 3, wJ s3, wS, wR 0, wR 1, wR 2, wR 3, wN, wJ t1, wS, wU, wU, wU, wU]) a0_108 rfl) <| .s (.lload a0_110 rfl) <| .s (.lstore (L' := [wJ t1, wS, wJ t2, wS, wJ t3, wS, wJ s1, wS, wJ s2, wS, wI mode, wI 3, wJ s3, wS, wR 0, wR 1, wR 2, wR 3, wN, wJ t1, wS, wJ s1, wS, wU, wU]) a0_112 rfl) <| .s (.iload a0_114 rfl) ?_
      refine .s (.iconst (1 : Int32) a0_116 rfl) <| .s (.icmpF a0_117 (by decide)) <| .s (.aload a0_120 rfl rfl) <| .s (.astore (L' := [wJ t1, wS, wJ t2, wS, wJ t3, wS, wJ s1, wS, wJ s2, wS, wI mode, wI 3, wJ s3, wS, wR 0, wR 1, wR 2, wR 3, wR 0, wJ t1, wS, wJ s1, wS, wU, wU]) a0_122 rfl rfl) <| .s (.iload a0_124 rfl) <| .s (.iconst (2 : Int32) a0_126 rfl) <| .s (.icmpF a0_127 (by decide)) ?_
      refine .s (.lloadN a0_130 rfl) <| .s (.lload a0_131 rfl) <| .s (.lload a0_133 rfl) <| .s (.lload a0_135 rfl) ?_
      refine .callS a0_137 (ok8 hw _ _ _ _) (wd hw 46 rfl) (wd hw 47 rfl) (argsL := [(.long t2), (.long s2), (.long t1), (.long s1)]) (S := []) (au8_25 hw _ _ t1 t2 t3 s1 s2 s3 _) rfl rfl rfl rfl rfl rfl (Nat.le_of_ble_eq_true rfl) (Nat.le_of_ble_eq_true rfl) ?_
      rintro _ _ _ (⟨q258, q259, q260, rfl, rfl, rfl⟩ | ⟨q261, q262, q263, rfl, rfl, rfl⟩ | ⟨q264, q265, rfl, rfl, rfl⟩ | ⟨q266, rfl, rfl, rfl⟩)
      · skip
        show WGo _ (140, [wJ t1, wS, wJ t2, wS, wJ t3, wS, wJ s1, wS, wJ s2, wS, wI mode, wI 3, wJ s3, wS, wR 0, wR 1, wR 2, wR 3, wR 0, wJ t1, wS, wJ s1, wS, wU, wU], [.int 0], [(.inr (cn0, [(fk0, (.long t1)), (fk1, .null), (fk2, .null), (fk3, (.long s1))])), (.inr (cn0, [(fk0, (.long t2)), (fk1, .null), (fk2, .null), (fk3, (.long s2))])), (.inr (cn0, [(fk0, (.long t3)), (fk1, .null), (fk2, .null), (fk3, (.long s3))])), (.inr (cn1, [(fk4, .ref 4), (fk5, .int 3)])), (.inl ((.object "com/example/chronogate/chronogate/Event"), [.ref 0, .ref 1, .ref 2, .null, .null, .null, .null, .null]))], 22) _
        refine .s (.ifT a0_140 (by decide)) <| .s (.iload a0_154 rfl) <| .s (.iconst (3 : Int32) a0_156 rfl) <| .s (.icmpF a0_157 (by decide)) <| .s (.lload a0_160 rfl) <| .s (.lload a0_162 rfl) <| .s (.lload a0_164 rfl) ?_
        refine .s (.lload a0_166 rfl) ?_
        refine .callS a0_168 (ok8 hw _ _ _ _) (wd hw 46 rfl) (wd hw 47 rfl) (argsL := [(.long t3), (.long s3), (.long t1), (.long s1)]) (S := []) (au8_26 hw _ _ t1 t2 t3 s1 s2 s3 _) rfl rfl rfl rfl rfl rfl (Nat.le_of_ble_eq_true rfl) (Nat.le_of_ble_eq_true rfl) ?_
        rintro _ _ _ (⟨q267, q268, q269, rfl, rfl, rfl⟩ | ⟨q270, q271, q272, rfl, rfl, rfl⟩ | ⟨q273, q274, rfl, rfl, rfl⟩ | ⟨q275, rfl, rfl, rfl⟩)
        · skip
          show WGo _ (171, [wJ t1, wS, wJ t2, wS, wJ t3, wS, wJ s1, wS, wJ s2, wS, wI mode, wI 3, wJ s3, wS, wR 0, wR 1, wR 2, wR 3, wR 0, wJ t1, wS, wJ s1, wS, wU, wU], [.int 0], [(.inr (cn0, [(fk0, (.long t1)), (fk1, .null), (fk2, .null), (fk3, (.long s1))])), (.inr (cn0, [(fk0, (.long t2)), (fk1, .null), (fk2, .null), (fk3, (.long s2))])), (.inr (cn0, [(fk0, (.long t3)), (fk1, .null), (fk2, .null), (fk3, (.long s3))])), (.inr (cn1, [(fk4, .ref 4), (fk5, .int 3)])), (.inl ((.object "com/example/chronogate/chronogate/Event"), [.ref 0, .ref 1, .ref 2, .null, .null, .null, .null, .null]))], 22) _
          refine .s (.ifT a0_171 (by decide)) <| .s (.aload a0_178 rfl rfl) ?_
          refine .callV (k := 3) (z := (⟨"com/example/chronogate/chronogate/ReleaseQueue", "peek", "()Lcom/example/chronogate/chronogate/Event;"⟩ : MethodName)) a0_180 (ok9 hw _ _ _ _) ⟨rfl, by decide⟩ (wd hw 50 rfl) (wd hw 51 rfl) (fun s hZ => notFace_of_selects (args := #[]) (mvT hZ (wd hw 53 rfl))) (wd hw 53 rfl) (wd hw 52 rfl) rfl (argsL := []) (S := []) (au9_27 hw _ _ t1 t2 t3 s1 s2 s3 _) rfl rfl rfl rfl rfl rfl (Nat.le_of_ble_eq_true rfl) (Nat.le_of_ble_eq_true rfl) ?_
          rintro _ _ _ ⟨rfl, rfl, rfl⟩
          show WGo _ (183, [wJ t1, wS, wJ t2, wS, wJ t3, wS, wJ s1, wS, wJ s2, wS, wI mode, wI 3, wJ s3, wS, wR 0, wR 1, wR 2, wR 3, wR 0, wJ t1, wS, wJ s1, wS, wU, wU], [.ref 0], [(.inr (cn0, [(fk0, (.long t1)), (fk1, .null), (fk2, .null), (fk3, (.long s1))])), (.inr (cn0, [(fk0, (.long t2)), (fk1, .null), (fk2, .null), (fk3, (.long s2))])), (.inr (cn0, [(fk0, (.long t3)), (fk1, .null), (fk2, .null), (fk3, (.long s3))])), (.inr (cn1, [(fk4, .ref 4), (fk5, .int 3)])), (.inl ((.object "com/example/chronogate/chronogate/Event"), [.ref 0, .ref 1, .ref 2, .null, .null, .null, .null, .null]))], 22) _
          refine .s (.astore (L' := [wJ t1, wS, wJ t2, wS, wJ t3, wS, wJ s1, wS, wJ s2, wS, wI mode, wI 3, wJ s3, wS, wR 0, wR 1, wR 2, wR 3, wR 0, wJ t1, wS, wJ s1, wS, wR 0, wU]) a0_183 rfl rfl) <| .s (.aload a0_185 rfl rfl) ?_
          refine .callV (k := 3) (z := (⟨"com/example/chronogate/chronogate/ReleaseQueue", "peek", "()Lcom/example/chronogate/chronogate/Event;"⟩ : MethodName)) a0_187 (ok9 hw _ _ _ _) ⟨rfl, by decide⟩ (wd hw 50 rfl) (wd hw 51 rfl) (fun s hZ => notFace_of_selects (args := #[]) (mvT hZ (wd hw 53 rfl))) (wd hw 53 rfl) (wd hw 52 rfl) rfl (argsL := []) (S := []) (au9_27 hw _ _ t1 t2 t3 s1 s2 s3 _) rfl rfl rfl rfl rfl rfl (Nat.le_of_ble_eq_true rfl) (Nat.le_of_ble_eq_true rfl) ?_
          rintro _ _ _ ⟨rfl, rfl, rfl⟩
          show WGo _ (190, [wJ t1, wS, wJ t2, wS, wJ t3, wS, wJ s1, wS, wJ s2, wS, wI mode, wI 3, wJ s3, wS, wR 0, wR 1, wR 2, wR 3, wR 0, wJ t1, wS, wJ s1, wS, wR 0, wU], [.ref 0], [(.inr (cn0, [(fk0, (.long t1)), (fk1, .null), (fk2, .null), (fk3, (.long s1))])), (.inr (cn0, [(fk0, (.long t2)), (fk1, .null), (fk2, .null), (fk3, (.long s2))])), (.inr (cn0, [(fk0, (.long t3)), (fk1, .null), (fk2, .null), (fk3, (.long s3))])), (.inr (cn1, [(fk4, .ref 4), (fk5, .int 3)])), (.inl ((.object "com/example/chronogate/chronogate/Event"), [.ref 0, .ref 1, .ref 2, .null, .null, .null, .null, .null]))], 22) _
          refine .s (.astore (L' := [wJ t1, wS, wJ t2, wS, wJ t3, wS, wJ s1, wS, wJ s2, wS, wI mode, wI 3, wJ s3, wS, wR 0, wR 1, wR 2, wR 3, wR 0, wJ t1, wS, wJ s1, wS, wR 0, wR 0]) a0_190 rfl rfl) <| .s (.aload a0_192 rfl rfl) <| .s (.aload a0_194 rfl rfl) <| .s (.acmp true 199 a0_196 rfl rfl (by decide) rfl) <| .s (.aload a0_199 rfl rfl) <| .s (.aload a0_201 rfl rfl) <| .s (.acmp true 206 a0_203 rfl rfl (by decide) rfl) ?_
          refine .s (.aload a0_206 rfl rfl) ?_
          refine .callV (k := 3) (z := (⟨"com/example/chronogate/chronogate/ReleaseQueue", "size", "()I"⟩ : MethodName)) a0_208 (ok10 hw _ _ _ _) ⟨rfl, by decide⟩ (wd hw 55 rfl) (wd hw 56 rfl) (fun s hZ => notFace_of_selects (args := #[]) (mvT hZ (wd hw 58 rfl))) (wd hw 58 rfl) (wd hw 57 rfl) rfl (argsL := []) (S := []) (au10_28 hw _ _ t1 t2 t3 s1 s2 s3 _) rfl rfl rfl rfl rfl rfl (Nat.le_of_ble_eq_true rfl) (Nat.le_of_ble_eq_true rfl) ?_
          rintro _ _ _ ⟨rfl, rfl, rfl⟩
          show WGo _ (211, [wJ t1, wS, wJ t2, wS, wJ t3, wS, wJ s1, wS, wJ s2, wS, wI mode, wI 3, wJ s3, wS, wR 0, wR 1, wR 2, wR 3, wR 0, wJ t1, wS, wJ s1, wS, wR 0, wR 0], [.int 3], [(.inr (cn0, [(fk0, (.long t1)), (fk1, .null), (fk2, .null), (fk3, (.long s1))])), (.inr (cn0, [(fk0, (.long t2)), (fk1, .null), (fk2, .null), (fk3, (.long s2))])), (.inr (cn0, [(fk0, (.long t3)), (fk1, .null), (fk2, .null), (fk3, (.long s3))])), (.inr (cn1, [(fk4, .ref 4), (fk5, .int 3)])), (.inl ((.object "com/example/chronogate/chronogate/Event"), [.ref 0, .ref 1, .ref 2, .null, .null, .null, .null, .null]))], 22) _
          refine .s (.iload a0_211 rfl) <| .s (.icmpF a0_213 (by decide)) <| .s (.iconst (1 : Int32) a0_216 rfl) <| .s (.goto a0_217) ?_
          refine .ireturn .boolean a0_221 rfl (by simp) ?_
          exact ⟨rfl, Nat.le_of_ble_eq_true rfl, Nat.le_of_ble_eq_true rfl⟩
        · exfalso
          simp only [Int32.lt_iff_toInt_lt, Int64.lt_iff_toInt_lt, ← Int32.toInt_inj, ← Int64.toInt_inj, Int32.reduceToInt, Int64.reduceToInt] at *
          omega
        · exfalso
          simp only [Int32.lt_iff_toInt_lt, Int64.lt_iff_toInt_lt, ← Int32.toInt_inj, ← Int64.toInt_inj, Int32.reduceToInt, Int64.reduceToInt] at *
          omega
        · exfalso
          simp only [Int32.lt_iff_toInt_lt, Int64.lt_iff_toInt_lt, ← Int32.toInt_inj, ← Int64.toInt_inj, Int32.reduceToInt, Int64.reduceToInt] at *
          omega
      · exfalso
        simp only [Int32.lt_iff_toInt_lt, Int64.lt_iff_toInt_lt, ← Int32.toInt_inj, ← Int64.toInt_inj, Int32.reduceToInt, Int64.reduceToInt] at *
        omega
      · exfalso
        simp only [Int32.lt_iff_toInt_lt, Int64.lt_iff_toInt_lt, ← Int32.toInt_inj, ← Int64.toInt_inj, Int32.reduceToInt, Int64.reduceToInt] at *
        omega
      · exfalso
        simp only [Int32.lt_iff_toInt_lt, Int64.lt_iff_toInt_lt, ← Int32.toInt_inj, ← Int64.toInt_inj, Int32.reduceToInt, Int64.reduceToInt] at *
        omega
    · skip
      show WGo _ (104, [wJ t1, wS, wJ t2, wS, wJ t3, wS, wJ s1, wS, wJ s2, wS, wI mode, wI 3, wJ s3, wS, wR 0, wR 1, wR 2, wR 3, wU, wU, wU, wU, wU, wU, wU], [], [(.inr (cn0, [(fk0, (.long t1)), (fk1, .null), (fk2, .null), (fk3, (.long s1))])), (.inr (cn0, [(fk0, (.long t2)), (fk1, .null), (fk2, .null), (fk3, (.long s2))])), (.inr (cn0, [(fk0, (.long t3)), (fk1, .null), (fk2, .null), (fk3, (.long s3))])), (.inr (cn1, [(fk4, .ref 4), (fk5, .int 3)])), (.inl ((.object "com/example/chronogate/chronogate/Event"), [.ref 0, .ref 1, .ref 2, .null, .null, .null, .null, .null]))], 22) _
      refine .s (.aconstNull a0_104) <| .s (.astore (L' := [wJ t1, wS, wJ t2, wS, wJ t3, wS, wJ s1, wS, wJ s2, wS, wI mode, wI 3, wJ s3, wS, wR 0, wR 1, wR 2, wR 3, wN, wU, wU, wU, wU, wU, wU]) a0_105 rfl rfl) <| .s (.lloadN a0_107 rfl) <| .s (.lstore (L' := [wJ t1, wS, wJ t2, wS, wJ t3, wS, wJ s1, wS, wJ s2, wS, wI mode, wI 3, wJ s3, wS, wR 0, wR 1, wR 2, wR 3, wN, wJ t1, wS, wU, wU, wU, wU]) a0_108 rfl) <| .s (.lload a0_110 rfl) <| .s (.lstore (L' := [wJ t1, wS, wJ t2, wS, wJ t3, wS, wJ s1, wS, wJ s2, wS, wI mode, wI 3, wJ s3, wS, wR 0, wR 1, wR 2, wR 3, wN, wJ t1, wS, wJ s1, wS, wU, wU]) a0_112 rfl) <| .s (.iload a0_114 rfl) ?_
      refine .s (.iconst (1 : Int32) a0_116 rfl) <| .s (.icmpF a0_117 (by decide)) <| .s (.aload a0_120 rfl rfl) <| .s (.astore (L' := [wJ t1, wS, wJ t2, wS, wJ t3, wS, wJ s1, wS, wJ s2, wS, wI mode, wI 3, wJ s3, wS, wR 0, wR 1, wR 2, wR 3, wR 0, wJ t1, wS, wJ s1, wS, wU, wU]) a0_122 rfl rfl) <| .s (.iload a0_124 rfl) <| .s (.iconst (2 : Int32) a0_126 rfl) <| .s (.icmpF a0_127 (by decide)) ?_
      refine .s (.lloadN a0_130 rfl) <| .s (.lload a0_131 rfl) <| .s (.lload a0_133 rfl) <| .s (.lload a0_135 rfl) ?_
      refine .callS a0_137 (ok8 hw _ _ _ _) (wd hw 46 rfl) (wd hw 47 rfl) (argsL := [(.long t2), (.long s2), (.long t1), (.long s1)]) (S := []) (au8_25 hw _ _ t1 t2 t3 s1 s2 s3 _) rfl rfl rfl rfl rfl rfl (Nat.le_of_ble_eq_true rfl) (Nat.le_of_ble_eq_true rfl) ?_
      rintro _ _ _ (⟨q276, q277, q278, rfl, rfl, rfl⟩ | ⟨q279, q280, q281, rfl, rfl, rfl⟩ | ⟨q282, q283, rfl, rfl, rfl⟩ | ⟨q284, rfl, rfl, rfl⟩)
      · skip
        show WGo _ (140, [wJ t1, wS, wJ t2, wS, wJ t3, wS, wJ s1, wS, wJ s2, wS, wI mode, wI 3, wJ s3, wS, wR 0, wR 1, wR 2, wR 3, wR 0, wJ t1, wS, wJ s1, wS, wU, wU], [.int 0], [(.inr (cn0, [(fk0, (.long t1)), (fk1, .null), (fk2, .null), (fk3, (.long s1))])), (.inr (cn0, [(fk0, (.long t2)), (fk1, .null), (fk2, .null), (fk3, (.long s2))])), (.inr (cn0, [(fk0, (.long t3)), (fk1, .null), (fk2, .null), (fk3, (.long s3))])), (.inr (cn1, [(fk4, .ref 4), (fk5, .int 3)])), (.inl ((.object "com/example/chronogate/chronogate/Event"), [.ref 0, .ref 1, .ref 2, .null, .null, .null, .null, .null]))], 22) _
        refine .s (.ifT a0_140 (by decide)) <| .s (.iload a0_154 rfl) <| .s (.iconst (3 : Int32) a0_156 rfl) <| .s (.icmpF a0_157 (by decide)) <| .s (.lload a0_160 rfl) <| .s (.lload a0_162 rfl) <| .s (.lload a0_164 rfl) ?_
        refine .s (.lload a0_166 rfl) ?_
        refine .callS a0_168 (ok8 hw _ _ _ _) (wd hw 46 rfl) (wd hw 47 rfl) (argsL := [(.long t3), (.long s3), (.long t1), (.long s1)]) (S := []) (au8_26 hw _ _ t1 t2 t3 s1 s2 s3 _) rfl rfl rfl rfl rfl rfl (Nat.le_of_ble_eq_true rfl) (Nat.le_of_ble_eq_true rfl) ?_
        rintro _ _ _ (⟨q285, q286, q287, rfl, rfl, rfl⟩ | ⟨q288, q289, q290, rfl, rfl, rfl⟩ | ⟨q291, q292, rfl, rfl, rfl⟩ | ⟨q293, rfl, rfl, rfl⟩)
        · skip
          show WGo _ (171, [wJ t1, wS, wJ t2, wS, wJ t3, wS, wJ s1, wS, wJ s2, wS, wI mode, wI 3, wJ s3, wS, wR 0, wR 1, wR 2, wR 3, wR 0, wJ t1, wS, wJ s1, wS, wU, wU], [.int 0], [(.inr (cn0, [(fk0, (.long t1)), (fk1, .null), (fk2, .null), (fk3, (.long s1))])), (.inr (cn0, [(fk0, (.long t2)), (fk1, .null), (fk2, .null), (fk3, (.long s2))])), (.inr (cn0, [(fk0, (.long t3)), (fk1, .null), (fk2, .null), (fk3, (.long s3))])), (.inr (cn1, [(fk4, .ref 4), (fk5, .int 3)])), (.inl ((.object "com/example/chronogate/chronogate/Event"), [.ref 0, .ref 1, .ref 2, .null, .null, .null, .null, .null]))], 22) _
          refine .s (.ifT a0_171 (by decide)) <| .s (.aload a0_178 rfl rfl) ?_
          refine .callV (k := 3) (z := (⟨"com/example/chronogate/chronogate/ReleaseQueue", "peek", "()Lcom/example/chronogate/chronogate/Event;"⟩ : MethodName)) a0_180 (ok9 hw _ _ _ _) ⟨rfl, by decide⟩ (wd hw 50 rfl) (wd hw 51 rfl) (fun s hZ => notFace_of_selects (args := #[]) (mvT hZ (wd hw 53 rfl))) (wd hw 53 rfl) (wd hw 52 rfl) rfl (argsL := []) (S := []) (au9_27 hw _ _ t1 t2 t3 s1 s2 s3 _) rfl rfl rfl rfl rfl rfl (Nat.le_of_ble_eq_true rfl) (Nat.le_of_ble_eq_true rfl) ?_
          rintro _ _ _ ⟨rfl, rfl, rfl⟩
          show WGo _ (183, [wJ t1, wS, wJ t2, wS, wJ t3, wS, wJ s1, wS, wJ s2, wS, wI mode, wI 3, wJ s3, wS, wR 0, wR 1, wR 2, wR 3, wR 0, wJ t1, wS, wJ s1, wS, wU, wU], [.ref 0], [(.inr (cn0, [(fk0, (.long t1)), (fk1, .null), (fk2, .null), (fk3, (.long s1))])), (.inr (cn0, [(fk0, (.long t2)), (fk1, .null), (fk2, .null), (fk3, (.long s2))])), (.inr (cn0, [(fk0, (.long t3)), (fk1, .null), (fk2, .null), (fk3, (.long s3))])), (.inr (cn1, [(fk4, .ref 4), (fk5, .int 3)])), (.inl ((.object "com/example/chronogate/chronogate/Event"), [.ref 0, .ref 1, .ref 2, .null, .null, .null, .null, .null]))], 22) _
          refine .s (.astore (L' := [wJ t1, wS, wJ t2, wS, wJ t3, wS, wJ s1, wS, wJ s2, wS, wI mode, wI 3, wJ s3, wS, wR 0, wR 1, wR 2, wR 3, wR 0, wJ t1, wS, wJ s1, wS, wR 0, wU]) a0_183 rfl rfl) <| .s (.aload a0_185 rfl rfl) ?_
          refine .callV (k := 3) (z := (⟨"com/example/chronogate/chronogate/ReleaseQueue", "peek", "()Lcom/example/chronogate/chronogate/Event;"⟩ : MethodName)) a0_187 (ok9 hw _ _ _ _) ⟨rfl, by decide⟩ (wd hw 50 rfl) (wd hw 51 rfl) (fun s hZ => notFace_of_selects (args := #[]) (mvT hZ (wd hw 53 rfl))) (wd hw 53 rfl) (wd hw 52 rfl) rfl (argsL := []) (S := []) (au9_27 hw _ _ t1 t2 t3 s1 s2 s3 _) rfl rfl rfl rfl rfl rfl (Nat.le_of_ble_eq_true rfl) (Nat.le_of_ble_eq_true rfl) ?_
          rintro _ _ _ ⟨rfl, rfl, rfl⟩
          show WGo _ (190, [wJ t1, wS, wJ t2, wS, wJ t3, wS, wJ s1, wS, wJ s2, wS, wI mode, wI 3, wJ s3, wS, wR 0, wR 1, wR 2, wR 3, wR 0, wJ t1, wS, wJ s1, wS, wR 0, wU], [.ref 0], [(.inr (cn0, [(fk0, (.long t1)), (fk1, .null), (fk2, .null), (fk3, (.long s1))])), (.inr (cn0, [(fk0, (.long t2)), (fk1, .null), (fk2, .null), (fk3, (.long s2))])), (.inr (cn0, [(fk0, (.long t3)), (fk1, .null), (fk2, .null), (fk3, (.long s3))])), (.inr (cn1, [(fk4, .ref 4), (fk5, .int 3)])), (.inl ((.object "com/example/chronogate/chronogate/Event"), [.ref 0, .ref 1, .ref 2, .null, .null, .null, .null, .null]))], 22) _
          refine .s (.astore (L' := [wJ t1, wS, wJ t2, wS, wJ t3, wS, wJ s1, wS, wJ s2, wS, wI mode, wI 3, wJ s3, wS, wR 0, wR 1, wR 2, wR 3, wR 0, wJ t1, wS, wJ s1, wS, wR 0, wR 0]) a0_190 rfl rfl) <| .s (.aload a0_192 rfl rfl) <| .s (.aload a0_194 rfl rfl) <| .s (.acmp true 199 a0_196 rfl rfl (by decide) rfl) <| .s (.aload a0_199 rfl rfl) <| .s (.aload a0_201 rfl rfl) <| .s (.acmp true 206 a0_203 rfl rfl (by decide) rfl) ?_
          refine .s (.aload a0_206 rfl rfl) ?_
          refine .callV (k := 3) (z := (⟨"com/example/chronogate/chronogate/ReleaseQueue", "size", "()I"⟩ : MethodName)) a0_208 (ok10 hw _ _ _ _) ⟨rfl, by decide⟩ (wd hw 55 rfl) (wd hw 56 rfl) (fun s hZ => notFace_of_selects (args := #[]) (mvT hZ (wd hw 58 rfl))) (wd hw 58 rfl) (wd hw 57 rfl) rfl (argsL := []) (S := []) (au10_28 hw _ _ t1 t2 t3 s1 s2 s3 _) rfl rfl rfl rfl rfl rfl (Nat.le_of_ble_eq_true rfl) (Nat.le_of_ble_eq_true rfl) ?_
          rintro _ _ _ ⟨rfl, rfl, rfl⟩
          show WGo _ (211, [wJ t1, wS, wJ t2, wS, wJ t3, wS, wJ s1, wS, wJ s2, wS, wI mode, wI 3, wJ s3, wS, wR 0, wR 1, wR 2, wR 3, wR 0, wJ t1, wS, wJ s1, wS, wR 0, wR 0], [.int 3], [(.inr (cn0, [(fk0, (.long t1)), (fk1, .null), (fk2, .null), (fk3, (.long s1))])), (.inr (cn0, [(fk0, (.long t2)), (fk1, .null), (fk2, .null), (fk3, (.long s2))])), (.inr (cn0, [(fk0, (.long t3)), (fk1, .null), (fk2, .null), (fk3, (.long s3))])), (.inr (cn1, [(fk4, .ref 4), (fk5, .int 3)])), (.inl ((.object "com/example/chronogate/chronogate/Event"), [.ref 0, .ref 1, .ref 2, .null, .null, .null, .null, .null]))], 22) _
          refine .s (.iload a0_211 rfl) <| .s (.icmpF a0_213 (by decide)) <| .s (.iconst (1 : Int32) a0_216 rfl) <| .s (.goto a0_217) ?_
          refine .ireturn .boolean a0_221 rfl (by simp) ?_
          exact ⟨rfl, Nat.le_of_ble_eq_true rfl, Nat.le_of_ble_eq_true rfl⟩
        · exfalso
          simp only [Int32.lt_iff_toInt_lt, Int64.lt_iff_toInt_lt, ← Int32.toInt_inj, ← Int64.toInt_inj, Int32.reduceToInt, Int64.reduceToInt] at *
          omega
        · exfalso
          simp only [Int32.lt_iff_toInt_lt, Int64.lt_iff_toInt_lt, ← Int32.toInt_inj, ← Int64.toInt_inj, Int32.reduceToInt, Int64.reduceToInt] at *
          omega
        · exfalso
          simp only [Int32.lt_iff_toInt_lt, Int64.lt_iff_toInt_lt, ← Int32.toInt_inj, ← Int64.toInt_inj, Int32.reduceToInt, Int64.reduceToInt] at *
          omega
      · exfalso
        simp only [Int32.lt_iff_toInt_lt, Int64.lt_iff_toInt_lt, ← Int32.toInt_inj, ← Int64.toInt_inj, Int32.reduceToInt, Int64.reduceToInt] at *
        omega
      · exfalso
        simp only [Int32.lt_iff_toInt_lt, Int64.lt_iff_toInt_lt, ← Int32.toInt_inj, ← Int64.toInt_inj, Int32.reduceToInt, Int64.reduceToInt] at *
        omega
      · exfalso
        simp only [Int32.lt_iff_toInt_lt, Int64.lt_iff_toInt_lt, ← Int32.toInt_inj, ← Int64.toInt_inj, Int32.reduceToInt, Int64.reduceToInt] at *
        omega
    · skip
      show WGo _ (104, [wJ t1, wS, wJ t2, wS, wJ t3, wS, wJ s1, wS, wJ s2, wS, wI mode, wI 3, wJ s3, wS, wR 0, wR 1, wR 2, wR 3, wU, wU, wU, wU, wU, wU, wU], [], [(.inr (cn0, [(fk0, (.long t1)), (fk1, .null), (fk2, .null), (fk3, (.long s1))])), (.inr (cn0, [(fk0, (.long t2)), (fk1, .null), (fk2, .null), (fk3, (.long s2))])), (.inr (cn0, [(fk0, (.long t3)), (fk1, .null), (fk2, .null), (fk3, (.long s3))])), (.inr (cn1, [(fk4, .ref 4), (fk5, .int 3)])), (.inl ((.object "com/example/chronogate/chronogate/Event"), [.ref 2, .ref 1, .ref 0, .null, .null, .null, .null, .null]))], 22) _
      refine .s (.aconstNull a0_104) <| .s (.astore (L' := [wJ t1, wS, wJ t2, wS, wJ t3, wS, wJ s1, wS, wJ s2, wS, wI mode, wI 3, wJ s3, wS, wR 0, wR 1, wR 2, wR 3, wN, wU, wU, wU, wU, wU, wU]) a0_105 rfl rfl) <| .s (.lloadN a0_107 rfl) <| .s (.lstore (L' := [wJ t1, wS, wJ t2, wS, wJ t3, wS, wJ s1, wS, wJ s2, wS, wI mode, wI 3, wJ s3, wS, wR 0, wR 1, wR 2, wR 3, wN, wJ t1, wS, wU, wU, wU, wU]) a0_108 rfl) <| .s (.lload a0_110 rfl) <| .s (.lstore (L' := [wJ t1, wS, wJ t2, wS, wJ t3, wS, wJ s1, wS, wJ s2, wS, wI mode, wI 3, wJ s3, wS, wR 0, wR 1, wR 2, wR 3, wN, wJ t1, wS, wJ s1, wS, wU, wU]) a0_112 rfl) <| .s (.iload a0_114 rfl) ?_
      refine .s (.iconst (1 : Int32) a0_116 rfl) <| .s (.icmpF a0_117 (by decide)) <| .s (.aload a0_120 rfl rfl) <| .s (.astore (L' := [wJ t1, wS, wJ t2, wS, wJ t3, wS, wJ s1, wS, wJ s2, wS, wI mode, wI 3, wJ s3, wS, wR 0, wR 1, wR 2, wR 3, wR 0, wJ t1, wS, wJ s1, wS, wU, wU]) a0_122 rfl rfl) <| .s (.iload a0_124 rfl) <| .s (.iconst (2 : Int32) a0_126 rfl) <| .s (.icmpF a0_127 (by decide)) ?_
      refine .s (.lloadN a0_130 rfl) <| .s (.lload a0_131 rfl) <| .s (.lload a0_133 rfl) <| .s (.lload a0_135 rfl) ?_
      refine .callS a0_137 (ok8 hw _ _ _ _) (wd hw 46 rfl) (wd hw 47 rfl) (argsL := [(.long t2), (.long s2), (.long t1), (.long s1)]) (S := []) (au8_29 hw _ _ t1 t2 t3 s1 s2 s3 _) rfl rfl rfl rfl rfl rfl (Nat.le_of_ble_eq_true rfl) (Nat.le_of_ble_eq_true rfl) ?_
      rintro _ _ _ (⟨q294, q295, q296, rfl, rfl, rfl⟩ | ⟨q297, q298, q299, rfl, rfl, rfl⟩ | ⟨q300, q301, rfl, rfl, rfl⟩ | ⟨q302, rfl, rfl, rfl⟩)
      · skip
        show WGo _ (140, [wJ t1, wS, wJ t2, wS, wJ t3, wS, wJ s1, wS, wJ s2, wS, wI mode, wI 3, wJ s3, wS, wR 0, wR 1, wR 2, wR 3, wR 0, wJ t1, wS, wJ s1, wS, wU, wU], [.int 0], [(.inr (cn0, [(fk0, (.long t1)), (fk1, .null), (fk2, .null), (fk3, (.long s1))])), (.inr (cn0, [(fk0, (.long t2)), (fk1, .null), (fk2, .null), (fk3, (.long s2))])), (.inr (cn0, [(fk0, (.long t3)), (fk1, .null), (fk2, .null), (fk3, (.long s3))])), (.inr (cn1, [(fk4, .ref 4), (fk5, .int 3)])), (.inl ((.object "com/example/chronogate/chronogate/Event"), [.ref 2, .ref 1, .ref 0, .null, .null, .null, .null, .null]))], 22) _
        refine .s (.ifT a0_140 (by decide)) <| .s (.iload a0_154 rfl) <| .s (.iconst (3 : Int32) a0_156 rfl) <| .s (.icmpF a0_157 (by decide)) <| .s (.lload a0_160 rfl) <| .s (.lload a0_162 rfl) <| .s (.lload a0_164 rfl) ?_
        refine .s (.lload a0_166 rfl) ?_
        refine .callS a0_168 (ok8 hw _ _ _ _) (wd hw 46 rfl) (wd hw 47 rfl) (argsL := [(.long t3), (.long s3), (.long t1), (.long s1)]) (S := []) (au8_30 hw _ _ t1 t2 t3 s1 s2 s3 _) rfl rfl rfl rfl rfl rfl (Nat.le_of_ble_eq_true rfl) (Nat.le_of_ble_eq_true rfl) ?_
        rintro _ _ _ (⟨q303, q304, q305, rfl, rfl, rfl⟩ | ⟨q306, q307, q308, rfl, rfl, rfl⟩ | ⟨q309, q310, rfl, rfl, rfl⟩ | ⟨q311, rfl, rfl, rfl⟩)
        · exfalso
          simp only [Int32.lt_iff_toInt_lt, Int64.lt_iff_toInt_lt, ← Int32.toInt_inj, ← Int64.toInt_inj, Int32.reduceToInt, Int64.reduceToInt] at *
          omega
        · skip
          show WGo _ (171, [wJ t1, wS, wJ t2, wS, wJ t3, wS, wJ s1, wS, wJ s2, wS, wI mode, wI 3, wJ s3, wS, wR 0, wR 1, wR 2, wR 3, wR 0, wJ t1, wS, wJ s1, wS, wU, wU], [.int 1], [(.inr (cn0, [(fk0, (.long t1)), (fk1, .null), (fk2, .null), (fk3, (.long s1))])), (.inr (cn0, [(fk0, (.long t2)), (fk1, .null), (fk2, .null), (fk3, (.long s2))])), (.inr (cn0, [(fk0, (.long t3)), (fk1, .null), (fk2, .null), (fk3, (.long s3))])), (.inr (cn1, [(fk4, .ref 4), (fk5, .int 3)])), (.inl ((.object "com/example/chronogate/chronogate/Event"), [.ref 2, .ref 1, .ref 0, .null, .null, .null, .null, .null]))], 22) _
          refine .s (.ifF a0_171 (by decide)) <| .s (.aload a0_174 rfl rfl) <| .s (.astore (L' := [wJ t1, wS, wJ t2, wS, wJ t3, wS, wJ s1, wS, wJ s2, wS, wI mode, wI 3, wJ s3, wS, wR 0, wR 1, wR 2, wR 3, wR 2, wJ t1, wS, wJ s1, wS, wU, wU]) a0_176 rfl rfl) <| .s (.aload a0_178 rfl rfl) ?_
          refine .callV (k := 3) (z := (⟨"com/example/chronogate/chronogate/ReleaseQueue", "peek", "()Lcom/example/chronogate/chronogate/Event;"⟩ : MethodName)) a0_180 (ok9 hw _ _ _ _) ⟨rfl, by decide⟩ (wd hw 50 rfl) (wd hw 51 rfl) (fun s hZ => notFace_of_selects (args := #[]) (mvT hZ (wd hw 53 rfl))) (wd hw 53 rfl) (wd hw 52 rfl) rfl (argsL := []) (S := []) (au9_31 hw _ _ t1 t2 t3 s1 s2 s3 _) rfl rfl rfl rfl rfl rfl (Nat.le_of_ble_eq_true rfl) (Nat.le_of_ble_eq_true rfl) ?_
          rintro _ _ _ ⟨rfl, rfl, rfl⟩
          show WGo _ (183, [wJ t1, wS, wJ t2, wS, wJ t3, wS, wJ s1, wS, wJ s2, wS, wI mode, wI 3, wJ s3, wS, wR 0, wR 1, wR 2, wR 3, wR 2, wJ t1, wS, wJ s1, wS, wU, wU], [.ref 2], [(.inr (cn0, [(fk0, (.long t1)), (fk1, .null), (fk2, .null), (fk3, (.long s1))])), (.inr (cn0, [(fk0, (.long t2)), (fk1, .null), (fk2, .null), (fk3, (.long s2))])), (.inr (cn0, [(fk0, (.long t3)), (fk1, .null), (fk2, .null), (fk3, (.long s3))])), (.inr (cn1, [(fk4, .ref 4), (fk5, .int 3)])), (.inl ((.object "com/example/chronogate/chronogate/Event"), [.ref 2, .ref 1, .ref 0, .null, .null, .null, .null, .null]))], 22) _
          refine .s (.astore (L' := [wJ t1, wS, wJ t2, wS, wJ t3, wS, wJ s1, wS, wJ s2, wS, wI mode, wI 3, wJ s3, wS, wR 0, wR 1, wR 2, wR 3, wR 2, wJ t1, wS, wJ s1, wS, wR 2, wU]) a0_183 rfl rfl) <| .s (.aload a0_185 rfl rfl) ?_
          refine .callV (k := 3) (z := (⟨"com/example/chronogate/chronogate/ReleaseQueue", "peek", "()Lcom/example/chronogate/chronogate/Event;"⟩ : MethodName)) a0_187 (ok9 hw _ _ _ _) ⟨rfl, by decide⟩ (wd hw 50 rfl) (wd hw 51 rfl) (fun s hZ => notFace_of_selects (args := #[]) (mvT hZ (wd hw 53 rfl))) (wd hw 53 rfl) (wd hw 52 rfl) rfl (argsL := []) (S := []) (au9_31 hw _ _ t1 t2 t3 s1 s2 s3 _) rfl rfl rfl rfl rfl rfl (Nat.le_of_ble_eq_true rfl) (Nat.le_of_ble_eq_true rfl) ?_
          rintro _ _ _ ⟨rfl, rfl, rfl⟩
          show WGo _ (190, [wJ t1, wS, wJ t2, wS, wJ t3, wS, wJ s1, wS, wJ s2, wS, wI mode, wI 3, wJ s3, wS, wR 0, wR 1, wR 2, wR 3, wR 2, wJ t1, wS, wJ s1, wS, wR 2, wU], [.ref 2], [(.inr (cn0, [(fk0, (.long t1)), (fk1, .null), (fk2, .null), (fk3, (.long s1))])), (.inr (cn0, [(fk0, (.long t2)), (fk1, .null), (fk2, .null), (fk3, (.long s2))])), (.inr (cn0, [(fk0, (.long t3)), (fk1, .null), (fk2, .null), (fk3, (.long s3))])), (.inr (cn1, [(fk4, .ref 4), (fk5, .int 3)])), (.inl ((.object "com/example/chronogate/chronogate/Event"), [.ref 2, .ref 1, .ref 0, .null, .null, .null, .null, .null]))], 22) _
          refine .s (.astore (L' := [wJ t1, wS, wJ t2, wS, wJ t3, wS, wJ s1, wS, wJ s2, wS, wI mode, wI 3, wJ s3, wS, wR 0, wR 1, wR 2, wR 3, wR 2, wJ t1, wS, wJ s1, wS, wR 2, wR 2]) a0_190 rfl rfl) <| .s (.aload a0_192 rfl rfl) <| .s (.aload a0_194 rfl rfl) <| .s (.acmp true 199 a0_196 rfl rfl (by decide) rfl) <| .s (.aload a0_199 rfl rfl) <| .s (.aload a0_201 rfl rfl) <| .s (.acmp true 206 a0_203 rfl rfl (by decide) rfl) ?_
          refine .s (.aload a0_206 rfl rfl) ?_
          refine .callV (k := 3) (z := (⟨"com/example/chronogate/chronogate/ReleaseQueue", "size", "()I"⟩ : MethodName)) a0_208 (ok10 hw _ _ _ _) ⟨rfl, by decide⟩ (wd hw 55 rfl) (wd hw 56 rfl) (fun s hZ => notFace_of_selects (args := #[]) (mvT hZ (wd hw 58 rfl))) (wd hw 58 rfl) (wd hw 57 rfl) rfl (argsL := []) (S := []) (au10_32 hw _ _ t1 t2 t3 s1 s2 s3 _) rfl rfl rfl rfl rfl rfl (Nat.le_of_ble_eq_true rfl) (Nat.le_of_ble_eq_true rfl) ?_
          rintro _ _ _ ⟨rfl, rfl, rfl⟩
          show WGo _ (211, [wJ t1, wS, wJ t2, wS, wJ t3, wS, wJ s1, wS, wJ s2, wS, wI mode, wI 3, wJ s3, wS, wR 0, wR 1, wR 2, wR 3, wR 2, wJ t1, wS, wJ s1, wS, wR 2, wR 2], [.int 3], [(.inr (cn0, [(fk0, (.long t1)), (fk1, .null), (fk2, .null), (fk3, (.long s1))])), (.inr (cn0, [(fk0, (.long t2)), (fk1, .null), (fk2, .null), (fk3, (.long s2))])), (.inr (cn0, [(fk0, (.long t3)), (fk1, .null), (fk2, .null), (fk3, (.long s3))])), (.inr (cn1, [(fk4, .ref 4), (fk5, .int 3)])), (.inl ((.object "com/example/chronogate/chronogate/Event"), [.ref 2, .ref 1, .ref 0, .null, .null, .null, .null, .null]))], 22) _
          refine .s (.iload a0_211 rfl) <| .s (.icmpF a0_213 (by decide)) <| .s (.iconst (1 : Int32) a0_216 rfl) <| .s (.goto a0_217) ?_
          refine .ireturn .boolean a0_221 rfl (by simp) ?_
          exact ⟨rfl, Nat.le_of_ble_eq_true rfl, Nat.le_of_ble_eq_true rfl⟩
        · exfalso
          simp only [Int32.lt_iff_toInt_lt, Int64.lt_iff_toInt_lt, ← Int32.toInt_inj, ← Int64.toInt_inj, Int32.reduceToInt, Int64.reduceToInt] at *
          omega
        · exfalso
          simp only [Int32.lt_iff_toInt_lt, Int64.lt_iff_toInt_lt, ← Int32.toInt_inj, ← Int64.toInt_inj, Int32.reduceToInt, Int64.reduceToInt] at *
          omega
      · exfalso
        simp only [Int32.lt_iff_toInt_lt, Int64.lt_iff_toInt_lt, ← Int32.toInt_inj, ← Int64.toInt_inj, Int32.reduceToInt, Int64.reduceToInt] at *
        omega
      · exfalso
        simp only [Int32.lt_iff_toInt_lt, Int64.lt_iff_toInt_lt, ← Int32.toInt_inj, ← Int64.toInt_inj, Int32.reduceToInt, Int64.reduceToInt] at *
        omega
      · exfalso
        simp only [Int32.lt_iff_toInt_lt, Int64.lt_iff_toInt_lt, ← Int32.toInt_inj, ← Int64.toInt_inj, Int32.reduceToInt, Int64.reduceToInt] at *
        omega
    · skip
      show WGo _ (104, [wJ t1, wS, wJ t2, wS, wJ t3, wS, wJ s1, wS, wJ s2, wS, wI mode, wI 3, wJ s3, wS, wR 0, wR 1, wR 2, wR 3, wU, wU, wU, wU, wU, wU, wU], [], [(.inr (cn0, [(fk0, (.long t1)), (fk1, .null), (fk2, .null), (fk3, (.long s1))])), (.inr (cn0, [(fk0, (.long t2)), (fk1, .null), (fk2, .null), (fk3, (.long s2))])), (.inr (cn0, [(fk0, (.long t3)), (fk1, .null), (fk2, .null), (fk3, (.long s3))])), (.inr (cn1, [(fk4, .ref 4), (fk5, .int 3)])), (.inl ((.object "com/example/chronogate/chronogate/Event"), [.ref 2, .ref 1, .ref 0, .null, .null, .null, .null, .null]))], 22) _
      refine .s (.aconstNull a0_104) <| .s (.astore (L' := [wJ t1, wS, wJ t2, wS, wJ t3, wS, wJ s1, wS, wJ s2, wS, wI mode, wI 3, wJ s3, wS, wR 0, wR 1, wR 2, wR 3, wN, wU, wU, wU, wU, wU, wU]) a0_105 rfl rfl) <| .s (.lloadN a0_107 rfl) <| .s (.lstore (L' := [wJ t1, wS, wJ t2, wS, wJ t3, wS, wJ s1, wS, wJ s2, wS, wI mode, wI 3, wJ s3, wS, wR 0, wR 1, wR 2, wR 3, wN, wJ t1, wS, wU, wU, wU, wU]) a0_108 rfl) <| .s (.lload a0_110 rfl) <| .s (.lstore (L' := [wJ t1, wS, wJ t2, wS, wJ t3, wS, wJ s1, wS, wJ s2, wS, wI mode, wI 3, wJ s3, wS, wR 0, wR 1, wR 2, wR 3, wN, wJ t1, wS, wJ s1, wS, wU, wU]) a0_112 rfl) <| .s (.iload a0_114 rfl) ?_
      refine .s (.iconst (1 : Int32) a0_116 rfl) <| .s (.icmpF a0_117 (by decide)) <| .s (.aload a0_120 rfl rfl) <| .s (.astore (L' := [wJ t1, wS, wJ t2, wS, wJ t3, wS, wJ s1, wS, wJ s2, wS, wI mode, wI 3, wJ s3, wS, wR 0, wR 1, wR 2, wR 3, wR 0, wJ t1, wS, wJ s1, wS, wU, wU]) a0_122 rfl rfl) <| .s (.iload a0_124 rfl) <| .s (.iconst (2 : Int32) a0_126 rfl) <| .s (.icmpF a0_127 (by decide)) ?_
      refine .s (.lloadN a0_130 rfl) <| .s (.lload a0_131 rfl) <| .s (.lload a0_133 rfl) <| .s (.lload a0_135 rfl) ?_
      refine .callS a0_137 (ok8 hw _ _ _ _) (wd hw 46 rfl) (wd hw 47 rfl) (argsL := [(.long t2), (.long s2), (.long t1), (.long s1)]) (S := []) (au8_29 hw _ _ t1 t2 t3 s1 s2 s3 _) rfl rfl rfl rfl rfl rfl (Nat.le_of_ble_eq_true rfl) (Nat.le_of_ble_eq_true rfl) ?_
      rintro _ _ _ (⟨q312, q313, q314, rfl, rfl, rfl⟩ | ⟨q315, q316, q317, rfl, rfl, rfl⟩ | ⟨q318, q319, rfl, rfl, rfl⟩ | ⟨q320, rfl, rfl, rfl⟩)
      · skip
        show WGo _ (140, [wJ t1, wS, wJ t2, wS, wJ t3, wS, wJ s1, wS, wJ s2, wS, wI mode, wI 3, wJ s3, wS, wR 0, wR 1, wR 2, wR 3, wR 0, wJ t1, wS, wJ s1, wS, wU, wU], [.int 0], [(.inr (cn0, [(fk0, (.long t1)), (fk1, .null), (fk2, .null), (fk3, (.long s1))])), (.inr (cn0, [(fk0, (.long t2)), (fk1, .null), (fk2, .null), (fk3, (.long s2))])), (.inr (cn0, [(fk0, (.long t3)), (fk1, .null), (fk2, .null), (fk3, (.long s3))])), (.inr (cn1, [(fk4, .ref 4), (fk5, .int 3)])), (.inl ((.object "com/example/chronogate/chronogate/Event"), [.ref 2, .ref 1, .ref 0, .null, .null, .null, .null, .null]))], 22) _
        refine .s (.ifT a0_140 (by decide)) <| .s (.iload a0_154 rfl) <| .s (.iconst (3 : Int32) a0_156 rfl) <| .s (.icmpF a0_157 (by decide)) <| .s (.lload a0_160 rfl) <| .s (.lload a0_162 rfl) <| .s (.lload a0_164 rfl) ?_
        refine .s (.lload a0_166 rfl) ?_
        refine .callS a0_168 (ok8 hw _ _ _ _) (wd hw 46 rfl) (wd hw 47 rfl) (argsL := [(.long t3), (.long s3), (.long t1), (.long s1)]) (S := []) (au8_30 hw _ _ t1 t2 t3 s1 s2 s3 _) rfl rfl rfl rfl rfl rfl (Nat.le_of_ble_eq_true rfl) (Nat.le_of_ble_eq_true rfl) ?_
        rintro _ _ _ (⟨q321, q322, q323, rfl, rfl, rfl⟩ | ⟨q324, q325, q326, rfl, rfl, rfl⟩ | ⟨q327, q328, rfl, rfl, rfl⟩ | ⟨q329, rfl, rfl, rfl⟩)
        · exfalso
          simp only [Int32.lt_iff_toInt_lt, Int64.lt_iff_toInt_lt, ← Int32.toInt_inj, ← Int64.toInt_inj, Int32.reduceToInt, Int64.reduceToInt] at *
          omega
        · exfalso
          simp only [Int32.lt_iff_toInt_lt, Int64.lt_iff_toInt_lt, ← Int32.toInt_inj, ← Int64.toInt_inj, Int32.reduceToInt, Int64.reduceToInt] at *
          omega
        · exfalso
          simp only [Int32.lt_iff_toInt_lt, Int64.lt_iff_toInt_lt, ← Int32.toInt_inj, ← Int64.toInt_inj, Int32.reduceToInt, Int64.reduceToInt] at *
          omega
        · skip
          show WGo _ (171, [wJ t1, wS, wJ t2, wS, wJ t3, wS, wJ s1, wS, wJ s2, wS, wI mode, wI 3, wJ s3, wS, wR 0, wR 1, wR 2, wR 3, wR 0, wJ t1, wS, wJ s1, wS, wU, wU], [.int 1], [(.inr (cn0, [(fk0, (.long t1)), (fk1, .null), (fk2, .null), (fk3, (.long s1))])), (.inr (cn0, [(fk0, (.long t2)), (fk1, .null), (fk2, .null), (fk3, (.long s2))])), (.inr (cn0, [(fk0, (.long t3)), (fk1, .null), (fk2, .null), (fk3, (.long s3))])), (.inr (cn1, [(fk4, .ref 4), (fk5, .int 3)])), (.inl ((.object "com/example/chronogate/chronogate/Event"), [.ref 2, .ref 1, .ref 0, .null, .null, .null, .null, .null]))], 22) _
          refine .s (.ifF a0_171 (by decide)) <| .s (.aload a0_174 rfl rfl) <| .s (.astore (L' := [wJ t1, wS, wJ t2, wS, wJ t3, wS, wJ s1, wS, wJ s2, wS, wI mode, wI 3, wJ s3, wS, wR 0, wR 1, wR 2, wR 3, wR 2, wJ t1, wS, wJ s1, wS, wU, wU]) a0_176 rfl rfl) <| .s (.aload a0_178 rfl rfl) ?_
          refine .callV (k := 3) (z := (⟨"com/example/chronogate/chronogate/ReleaseQueue", "peek", "()Lcom/example/chronogate/chronogate/Event;"⟩ : MethodName)) a0_180 (ok9 hw _ _ _ _) ⟨rfl, by decide⟩ (wd hw 50 rfl) (wd hw 51 rfl) (fun s hZ => notFace_of_selects (args := #[]) (mvT hZ (wd hw 53 rfl))) (wd hw 53 rfl) (wd hw 52 rfl) rfl (argsL := []) (S := []) (au9_31 hw _ _ t1 t2 t3 s1 s2 s3 _) rfl rfl rfl rfl rfl rfl (Nat.le_of_ble_eq_true rfl) (Nat.le_of_ble_eq_true rfl) ?_
          rintro _ _ _ ⟨rfl, rfl, rfl⟩
          show WGo _ (183, [wJ t1, wS, wJ t2, wS, wJ t3, wS, wJ s1, wS, wJ s2, wS, wI mode, wI 3, wJ s3, wS, wR 0, wR 1, wR 2, wR 3, wR 2, wJ t1, wS, wJ s1, wS, wU, wU], [.ref 2], [(.inr (cn0, [(fk0, (.long t1)), (fk1, .null), (fk2, .null), (fk3, (.long s1))])), (.inr (cn0, [(fk0, (.long t2)), (fk1, .null), (fk2, .null), (fk3, (.long s2))])), (.inr (cn0, [(fk0, (.long t3)), (fk1, .null), (fk2, .null), (fk3, (.long s3))])), (.inr (cn1, [(fk4, .ref 4), (fk5, .int 3)])), (.inl ((.object "com/example/chronogate/chronogate/Event"), [.ref 2, .ref 1, .ref 0, .null, .null, .null, .null, .null]))], 22) _
          refine .s (.astore (L' := [wJ t1, wS, wJ t2, wS, wJ t3, wS, wJ s1, wS, wJ s2, wS, wI mode, wI 3, wJ s3, wS, wR 0, wR 1, wR 2, wR 3, wR 2, wJ t1, wS, wJ s1, wS, wR 2, wU]) a0_183 rfl rfl) <| .s (.aload a0_185 rfl rfl) ?_
          refine .callV (k := 3) (z := (⟨"com/example/chronogate/chronogate/ReleaseQueue", "peek", "()Lcom/example/chronogate/chronogate/Event;"⟩ : MethodName)) a0_187 (ok9 hw _ _ _ _) ⟨rfl, by decide⟩ (wd hw 50 rfl) (wd hw 51 rfl) (fun s hZ => notFace_of_selects (args := #[]) (mvT hZ (wd hw 53 rfl))) (wd hw 53 rfl) (wd hw 52 rfl) rfl (argsL := []) (S := []) (au9_31 hw _ _ t1 t2 t3 s1 s2 s3 _) rfl rfl rfl rfl rfl rfl (Nat.le_of_ble_eq_true rfl) (Nat.le_of_ble_eq_true rfl) ?_
          rintro _ _ _ ⟨rfl, rfl, rfl⟩
          show WGo _ (190, [wJ t1, wS, wJ t2, wS, wJ t3, wS, wJ s1, wS, wJ s2, wS, wI mode, wI 3, wJ s3, wS, wR 0, wR 1, wR 2, wR 3, wR 2, wJ t1, wS, wJ s1, wS, wR 2, wU], [.ref 2], [(.inr (cn0, [(fk0, (.long t1)), (fk1, .null), (fk2, .null), (fk3, (.long s1))])), (.inr (cn0, [(fk0, (.long t2)), (fk1, .null), (fk2, .null), (fk3, (.long s2))])), (.inr (cn0, [(fk0, (.long t3)), (fk1, .null), (fk2, .null), (fk3, (.long s3))])), (.inr (cn1, [(fk4, .ref 4), (fk5, .int 3)])), (.inl ((.object "com/example/chronogate/chronogate/Event"), [.ref 2, .ref 1, .ref 0, .null, .null, .null, .null, .null]))], 22) _
          refine .s (.astore (L' := [wJ t1, wS, wJ t2, wS, wJ t3, wS, wJ s1, wS, wJ s2, wS, wI mode, wI 3, wJ s3, wS, wR 0, wR 1, wR 2, wR 3, wR 2, wJ t1, wS, wJ s1, wS, wR 2, wR 2]) a0_190 rfl rfl) <| .s (.aload a0_192 rfl rfl) <| .s (.aload a0_194 rfl rfl) <| .s (.acmp true 199 a0_196 rfl rfl (by decide) rfl) <| .s (.aload a0_199 rfl rfl) <| .s (.aload a0_201 rfl rfl) <| .s (.acmp true 206 a0_203 rfl rfl (by decide) rfl) ?_
          refine .s (.aload a0_206 rfl rfl) ?_
          refine .callV (k := 3) (z := (⟨"com/example/chronogate/chronogate/ReleaseQueue", "size", "()I"⟩ : MethodName)) a0_208 (ok10 hw _ _ _ _) ⟨rfl, by decide⟩ (wd hw 55 rfl) (wd hw 56 rfl) (fun s hZ => notFace_of_selects (args := #[]) (mvT hZ (wd hw 58 rfl))) (wd hw 58 rfl) (wd hw 57 rfl) rfl (argsL := []) (S := []) (au10_32 hw _ _ t1 t2 t3 s1 s2 s3 _) rfl rfl rfl rfl rfl rfl (Nat.le_of_ble_eq_true rfl) (Nat.le_of_ble_eq_true rfl) ?_
          rintro _ _ _ ⟨rfl, rfl, rfl⟩
          show WGo _ (211, [wJ t1, wS, wJ t2, wS, wJ t3, wS, wJ s1, wS, wJ s2, wS, wI mode, wI 3, wJ s3, wS, wR 0, wR 1, wR 2, wR 3, wR 2, wJ t1, wS, wJ s1, wS, wR 2, wR 2], [.int 3], [(.inr (cn0, [(fk0, (.long t1)), (fk1, .null), (fk2, .null), (fk3, (.long s1))])), (.inr (cn0, [(fk0, (.long t2)), (fk1, .null), (fk2, .null), (fk3, (.long s2))])), (.inr (cn0, [(fk0, (.long t3)), (fk1, .null), (fk2, .null), (fk3, (.long s3))])), (.inr (cn1, [(fk4, .ref 4), (fk5, .int 3)])), (.inl ((.object "com/example/chronogate/chronogate/Event"), [.ref 2, .ref 1, .ref 0, .null, .null, .null, .null, .null]))], 22) _
          refine .s (.iload a0_211 rfl) <| .s (.icmpF a0_213 (by decide)) <| .s (.iconst (1 : Int32) a0_216 rfl) <| .s (.goto a0_217) ?_
          refine .ireturn .boolean a0_221 rfl (by simp) ?_
          exact ⟨rfl, Nat.le_of_ble_eq_true rfl, Nat.le_of_ble_eq_true rfl⟩
      · exfalso
        simp only [Int32.lt_iff_toInt_lt, Int64.lt_iff_toInt_lt, ← Int32.toInt_inj, ← Int64.toInt_inj, Int32.reduceToInt, Int64.reduceToInt] at *
        omega
      · exfalso
        simp only [Int32.lt_iff_toInt_lt, Int64.lt_iff_toInt_lt, ← Int32.toInt_inj, ← Int64.toInt_inj, Int32.reduceToInt, Int64.reduceToInt] at *
        omega
      · exfalso
        simp only [Int32.lt_iff_toInt_lt, Int64.lt_iff_toInt_lt, ← Int32.toInt_inj, ← Int64.toInt_inj, Int32.reduceToInt, Int64.reduceToInt] at *
        omega
  · skip
    show WGo _ (91, [wJ t1, wS, wJ t2, wS, wJ t3, wS, wJ s1, wS, wJ s2, wS, wI mode, wI 3, wJ s3, wS, wR 0, wR 1, wR 2, wR 3, wU, wU, wU, wU, wU, wU, wU], [], [(.inr (cn0, [(fk0, (.long t1)), (fk1, .null), (fk2, .null), (fk3, (.long s1))])), (.inr (cn0, [(fk0, (.long t2)), (fk1, .null), (fk2, .null), (fk3, (.long s2))])), (.inr (cn0, [(fk0, (.long t3)), (fk1, .null), (fk2, .null), (fk3, (.long s3))])), (.inr (cn1, [(fk4, .ref 4), (fk5, .int 2)])), (.inl ((.object "com/example/chronogate/chronogate/Event"), [.ref 0, .ref 1, .null, .null, .null, .null, .null, .null]))], 22) _
    refine .s (.iload a0_91 rfl) <| .s (.iconst (3 : Int32) a0_93 rfl) <| .s (.icmpF a0_94 (by decide)) <| .s (.aload a0_97 rfl rfl) <| .s (.aload a0_99 rfl rfl) ?_
    refine .callV (k := 3) (z := (⟨"com/example/chronogate/chronogate/ReleaseQueue", "add", "(Lcom/example/chronogate/chronogate/Event;)V"⟩ : MethodName)) a0_101 (ok5 hw _ _ _ _) ⟨rfl, by decide⟩ (wd hw 31 rfl) (wd hw 32 rfl) (fun s hZ => notFace_of_selects (args := #[]) (mvT hZ (wd hw 34 rfl))) (wd hw 34 rfl) (wd hw 33 rfl) rfl (argsL := [.ref 2]) (S := []) (au5_21 hw _ _ t1 t2 t3 s1 s2 s3 _) rfl rfl rfl rfl rfl rfl (Nat.le_of_ble_eq_true rfl) (Nat.le_of_ble_eq_true rfl) ?_
    rintro _ _ _ (⟨q330, q331, rfl, rfl, rfl⟩ | ⟨q332, q333, q334, q335, rfl, rfl, rfl⟩ | ⟨q336, q337, q338, q339, rfl, rfl, rfl⟩ | ⟨q340, q341, q342, rfl, rfl, rfl⟩ | ⟨q343, rfl, rfl, rfl⟩)
    · skip
      show WGo _ (104, [wJ t1, wS, wJ t2, wS, wJ t3, wS, wJ s1, wS, wJ s2, wS, wI mode, wI 3, wJ s3, wS, wR 0, wR 1, wR 2, wR 3, wU, wU, wU, wU, wU, wU, wU], [], [(.inr (cn0, [(fk0, (.long t1)), (fk1, .null), (fk2, .null), (fk3, (.long s1))])), (.inr (cn0, [(fk0, (.long t2)), (fk1, .null), (fk2, .null), (fk3, (.long s2))])), (.inr (cn0, [(fk0, (.long t3)), (fk1, .null), (fk2, .null), (fk3, (.long s3))])), (.inr (cn1, [(fk4, .ref 4), (fk5, .int 3)])), (.inl ((.object "com/example/chronogate/chronogate/Event"), [.ref 0, .ref 1, .ref 2, .null, .null, .null, .null, .null]))], 22) _
      refine .s (.aconstNull a0_104) <| .s (.astore (L' := [wJ t1, wS, wJ t2, wS, wJ t3, wS, wJ s1, wS, wJ s2, wS, wI mode, wI 3, wJ s3, wS, wR 0, wR 1, wR 2, wR 3, wN, wU, wU, wU, wU, wU, wU]) a0_105 rfl rfl) <| .s (.lloadN a0_107 rfl) <| .s (.lstore (L' := [wJ t1, wS, wJ t2, wS, wJ t3, wS, wJ s1, wS, wJ s2, wS, wI mode, wI 3, wJ s3, wS, wR 0, wR 1, wR 2, wR 3, wN, wJ t1, wS, wU, wU, wU, wU]) a0_108 rfl) <| .s (.lload a0_110 rfl) <| .s (.lstore (L' := [wJ t1, wS, wJ t2, wS, wJ t3, wS, wJ s1, wS, wJ s2, wS, wI mode, wI 3, wJ s3, wS, wR 0, wR 1, wR 2, wR 3, wN, wJ t1, wS, wJ s1, wS, wU, wU]) a0_112 rfl) <| .s (.iload a0_114 rfl) ?_
      refine .s (.iconst (1 : Int32) a0_116 rfl) <| .s (.icmpF a0_117 (by decide)) <| .s (.aload a0_120 rfl rfl) <| .s (.astore (L' := [wJ t1, wS, wJ t2, wS, wJ t3, wS, wJ s1, wS, wJ s2, wS, wI mode, wI 3, wJ s3, wS, wR 0, wR 1, wR 2, wR 3, wR 0, wJ t1, wS, wJ s1, wS, wU, wU]) a0_122 rfl rfl) <| .s (.iload a0_124 rfl) <| .s (.iconst (2 : Int32) a0_126 rfl) <| .s (.icmpF a0_127 (by decide)) ?_
      refine .s (.lloadN a0_130 rfl) <| .s (.lload a0_131 rfl) <| .s (.lload a0_133 rfl) <| .s (.lload a0_135 rfl) ?_
      refine .callS a0_137 (ok8 hw _ _ _ _) (wd hw 46 rfl) (wd hw 47 rfl) (argsL := [(.long t2), (.long s2), (.long t1), (.long s1)]) (S := []) (au8_25 hw _ _ t1 t2 t3 s1 s2 s3 _) rfl rfl rfl rfl rfl rfl (Nat.le_of_ble_eq_true rfl) (Nat.le_of_ble_eq_true rfl) ?_
      rintro _ _ _ (⟨q344, q345, q346, rfl, rfl, rfl⟩ | ⟨q347, q348, q349, rfl, rfl, rfl⟩ | ⟨q350, q351, rfl, rfl, rfl⟩ | ⟨q352, rfl, rfl, rfl⟩)
      · skip
        show WGo _ (140, [wJ t1, wS, wJ t2, wS, wJ t3, wS, wJ s1, wS, wJ s2, wS, wI mode, wI 3, wJ s3, wS, wR 0, wR 1, wR 2, wR 3, wR 0, wJ t1, wS, wJ s1, wS, wU, wU], [.int 0], [(.inr (cn0, [(fk0, (.long t1)), (fk1, .null), (fk2, .null), (fk3, (.long s1))])), (.inr (cn0, [(fk0, (.long t2)), (fk1, .null), (fk2, .null), (fk3, (.long s2))])), (.inr (cn0, [(fk0, (.long t3)), (fk1, .null), (fk2, .null), (fk3, (.long s3))])), (.inr (cn1, [(fk4, .ref 4), (fk5, .int 3)])), (.inl ((.object "com/example/chronogate/chronogate/Event"), [.ref 0, .ref 1, .ref 2, .null, .null, .null, .null, .null]))], 22) _
        refine .s (.ifT a0_140 (by decide)) <| .s (.iload a0_154 rfl) <| .s (.iconst (3 : Int32) a0_156 rfl) <| .s (.icmpF a0_157 (by decide)) <| .s (.lload a0_160 rfl) <| .s (.lload a0_162 rfl) <| .s (.lload a0_164 rfl) ?_
        refine .s (.lload a0_166 rfl) ?_
        refine .callS a0_168 (ok8 hw _ _ _ _) (wd hw 46 rfl) (wd hw 47 rfl) (argsL := [(.long t3), (.long s3), (.long t1), (.long s1)]) (S := []) (au8_26 hw _ _ t1 t2 t3 s1 s2 s3 _) rfl rfl rfl rfl rfl rfl (Nat.le_of_ble_eq_true rfl) (Nat.le_of_ble_eq_true rfl) ?_
        rintro _ _ _ (⟨q353, q354, q355, rfl, rfl, rfl⟩ | ⟨q356, q357, q358, rfl, rfl, rfl⟩ | ⟨q359, q360, rfl, rfl, rfl⟩ | ⟨q361, rfl, rfl, rfl⟩)
        · exfalso
          simp only [Int32.lt_iff_toInt_lt, Int64.lt_iff_toInt_lt, ← Int32.toInt_inj, ← Int64.toInt_inj, Int32.reduceToInt, Int64.reduceToInt] at *
          omega
        · exfalso
          simp only [Int32.lt_iff_toInt_lt, Int64.lt_iff_toInt_lt, ← Int32.toInt_inj, ← Int64.toInt_inj, Int32.reduceToInt, Int64.reduceToInt] at *
          omega
        · skip
          show WGo _ (171, [wJ t1, wS, wJ t2, wS, wJ t3, wS, wJ s1, wS, wJ s2, wS, wI mode, wI 3, wJ s3, wS, wR 0, wR 1, wR 2, wR 3, wR 0, wJ t1, wS, wJ s1, wS, wU, wU], [.int 0], [(.inr (cn0, [(fk0, (.long t1)), (fk1, .null), (fk2, .null), (fk3, (.long s1))])), (.inr (cn0, [(fk0, (.long t2)), (fk1, .null), (fk2, .null), (fk3, (.long s2))])), (.inr (cn0, [(fk0, (.long t3)), (fk1, .null), (fk2, .null), (fk3, (.long s3))])), (.inr (cn1, [(fk4, .ref 4), (fk5, .int 3)])), (.inl ((.object "com/example/chronogate/chronogate/Event"), [.ref 0, .ref 1, .ref 2, .null, .null, .null, .null, .null]))], 22) _
          refine .s (.ifT a0_171 (by decide)) <| .s (.aload a0_178 rfl rfl) ?_
          refine .callV (k := 3) (z := (⟨"com/example/chronogate/chronogate/ReleaseQueue", "peek", "()Lcom/example/chronogate/chronogate/Event;"⟩ : MethodName)) a0_180 (ok9 hw _ _ _ _) ⟨rfl, by decide⟩ (wd hw 50 rfl) (wd hw 51 rfl) (fun s hZ => notFace_of_selects (args := #[]) (mvT hZ (wd hw 53 rfl))) (wd hw 53 rfl) (wd hw 52 rfl) rfl (argsL := []) (S := []) (au9_27 hw _ _ t1 t2 t3 s1 s2 s3 _) rfl rfl rfl rfl rfl rfl (Nat.le_of_ble_eq_true rfl) (Nat.le_of_ble_eq_true rfl) ?_
          rintro _ _ _ ⟨rfl, rfl, rfl⟩
          show WGo _ (183, [wJ t1, wS, wJ t2, wS, wJ t3, wS, wJ s1, wS, wJ s2, wS, wI mode, wI 3, wJ s3, wS, wR 0, wR 1, wR 2, wR 3, wR 0, wJ t1, wS, wJ s1, wS, wU, wU], [.ref 0], [(.inr (cn0, [(fk0, (.long t1)), (fk1, .null), (fk2, .null), (fk3, (.long s1))])), (.inr (cn0, [(fk0, (.long t2)), (fk1, .null), (fk2, .null), (fk3, (.long s2))])), (.inr (cn0, [(fk0, (.long t3)), (fk1, .null), (fk2, .null), (fk3, (.long s3))])), (.inr (cn1, [(fk4, .ref 4), (fk5, .int 3)])), (.inl ((.object "com/example/chronogate/chronogate/Event"), [.ref 0, .ref 1, .ref 2, .null, .null, .null, .null, .null]))], 22) _
          refine .s (.astore (L' := [wJ t1, wS, wJ t2, wS, wJ t3, wS, wJ s1, wS, wJ s2, wS, wI mode, wI 3, wJ s3, wS, wR 0, wR 1, wR 2, wR 3, wR 0, wJ t1, wS, wJ s1, wS, wR 0, wU]) a0_183 rfl rfl) <| .s (.aload a0_185 rfl rfl) ?_
          refine .callV (k := 3) (z := (⟨"com/example/chronogate/chronogate/ReleaseQueue", "peek", "()Lcom/example/chronogate/chronogate/Event;"⟩ : MethodName)) a0_187 (ok9 hw _ _ _ _) ⟨rfl, by decide⟩ (wd hw 50 rfl) (wd hw 51 rfl) (fun s hZ => notFace_of_selects (args := #[]) (mvT hZ (wd hw 53 rfl))) (wd hw 53 rfl) (wd hw 52 rfl) rfl (argsL := []) (S := []) (au9_27 hw _ _ t1 t2 t3 s1 s2 s3 _) rfl rfl rfl rfl rfl rfl (Nat.le_of_ble_eq_true rfl) (Nat.le_of_ble_eq_true rfl) ?_
          rintro _ _ _ ⟨rfl, rfl, rfl⟩
          show WGo _ (190, [wJ t1, wS, wJ t2, wS, wJ t3, wS, wJ s1, wS, wJ s2, wS, wI mode, wI 3, wJ s3, wS, wR 0, wR 1, wR 2, wR 3, wR 0, wJ t1, wS, wJ s1, wS, wR 0, wU], [.ref 0], [(.inr (cn0, [(fk0, (.long t1)), (fk1, .null), (fk2, .null), (fk3, (.long s1))])), (.inr (cn0, [(fk0, (.long t2)), (fk1, .null), (fk2, .null), (fk3, (.long s2))])), (.inr (cn0, [(fk0, (.long t3)), (fk1, .null), (fk2, .null), (fk3, (.long s3))])), (.inr (cn1, [(fk4, .ref 4), (fk5, .int 3)])), (.inl ((.object "com/example/chronogate/chronogate/Event"), [.ref 0, .ref 1, .ref 2, .null, .null, .null, .null, .null]))], 22) _
          refine .s (.astore (L' := [wJ t1, wS, wJ t2, wS, wJ t3, wS, wJ s1, wS, wJ s2, wS, wI mode, wI 3, wJ s3, wS, wR 0, wR 1, wR 2, wR 3, wR 0, wJ t1, wS, wJ s1, wS, wR 0, wR 0]) a0_190 rfl rfl) <| .s (.aload a0_192 rfl rfl) <| .s (.aload a0_194 rfl rfl) <| .s (.acmp true 199 a0_196 rfl rfl (by decide) rfl) <| .s (.aload a0_199 rfl rfl) <| .s (.aload a0_201 rfl rfl) <| .s (.acmp true 206 a0_203 rfl rfl (by decide) rfl) ?_
          refine .s (.aload a0_206 rfl rfl) ?_
          refine .callV (k := 3) (z := (⟨"com/example/chronogate/chronogate/ReleaseQueue", "size", "()I"⟩ : MethodName)) a0_208 (ok10 hw _ _ _ _) ⟨rfl, by decide⟩ (wd hw 55 rfl) (wd hw 56 rfl) (fun s hZ => notFace_of_selects (args := #[]) (mvT hZ (wd hw 58 rfl))) (wd hw 58 rfl) (wd hw 57 rfl) rfl (argsL := []) (S := []) (au10_28 hw _ _ t1 t2 t3 s1 s2 s3 _) rfl rfl rfl rfl rfl rfl (Nat.le_of_ble_eq_true rfl) (Nat.le_of_ble_eq_true rfl) ?_
          rintro _ _ _ ⟨rfl, rfl, rfl⟩
          show WGo _ (211, [wJ t1, wS, wJ t2, wS, wJ t3, wS, wJ s1, wS, wJ s2, wS, wI mode, wI 3, wJ s3, wS, wR 0, wR 1, wR 2, wR 3, wR 0, wJ t1, wS, wJ s1, wS, wR 0, wR 0], [.int 3], [(.inr (cn0, [(fk0, (.long t1)), (fk1, .null), (fk2, .null), (fk3, (.long s1))])), (.inr (cn0, [(fk0, (.long t2)), (fk1, .null), (fk2, .null), (fk3, (.long s2))])), (.inr (cn0, [(fk0, (.long t3)), (fk1, .null), (fk2, .null), (fk3, (.long s3))])), (.inr (cn1, [(fk4, .ref 4), (fk5, .int 3)])), (.inl ((.object "com/example/chronogate/chronogate/Event"), [.ref 0, .ref 1, .ref 2, .null, .null, .null, .null, .null]))], 22) _
          refine .s (.iload a0_211 rfl) <| .s (.icmpF a0_213 (by decide)) <| .s (.iconst (1 : Int32) a0_216 rfl) <| .s (.goto a0_217) ?_
          refine .ireturn .boolean a0_221 rfl (by simp) ?_
          exact ⟨rfl, Nat.le_of_ble_eq_true rfl, Nat.le_of_ble_eq_true rfl⟩
        · exfalso
          simp only [Int32.lt_iff_toInt_lt, Int64.lt_iff_toInt_lt, ← Int32.toInt_inj, ← Int64.toInt_inj, Int32.reduceToInt, Int64.reduceToInt] at *
          omega
      · exfalso
        simp only [Int32.lt_iff_toInt_lt, Int64.lt_iff_toInt_lt, ← Int32.toInt_inj, ← Int64.toInt_inj, Int32.reduceToInt, Int64.reduceToInt] at *
        omega
      · exfalso
        simp only [Int32.lt_iff_toInt_lt, Int64.lt_iff_toInt_lt, ← Int32.toInt_inj, ← Int64.toInt_inj, Int32.reduceToInt, Int64.reduceToInt] at *
        omega
      · exfalso
        simp only [Int32.lt_iff_toInt_lt, Int64.lt_iff_toInt_lt, ← Int32.toInt_inj, ← Int64.toInt_inj, Int32.reduceToInt, Int64.reduceToInt] at *
        omega
    · skip
      show WGo _ (104, [wJ t1, wS, wJ t2, wS, wJ t3, wS, wJ s1, wS, wJ s2, wS, wI mode, wI 3, wJ s3, wS, wR 0, wR 1, wR 2, wR 3, wU, wU, wU, wU, wU, wU, wU], [], [(.inr (cn0, [(fk0, (.long t1)), (fk1, .null), (fk2, .null), (fk3, (.long s1))])), (.inr (cn0, [(fk0, (.long t2)), (fk1, .null), (fk2, .null), (fk3, (.long s2))])), (.inr (cn0, [(fk0, (.long t3)), (fk1, .null), (fk2, .null), (fk3, (.long s3))])), (.inr (cn1, [(fk4, .ref 4), (fk5, .int 3)])), (.inl ((.object "com/example/chronogate/chronogate/Event"), [.ref 0, .ref 1, .ref 2, .null, .null, .null, .null, .null]))], 22) _
      refine .s (.aconstNull a0_104) <| .s (.astore (L' := [wJ t1, wS, wJ t2, wS, wJ t3, wS, wJ s1, wS, wJ s2, wS, wI mode, wI 3, wJ s3, wS, wR 0, wR 1, wR 2, wR 3, wN, wU, wU, wU, wU, wU, wU]) a0_105 rfl rfl) <| .s (.lloadN a0_107 rfl) <| .s (.lstore (L' := [wJ t1, wS, wJ t2, wS, wJ t3, wS, wJ s1, wS, wJ s2, wS, wI mode, wI 3, wJ s3, wS, wR 0, wR 1, wR 2, wR 3, wN, wJ t1, wS, wU, wU, wU, wU]) a0_108 rfl) <| .s (.lload a0_110 rfl) <| .s (.lstore (L' := [wJ t1, wS, wJ t2, wS, wJ t3, wS, wJ s1, wS, wJ s2, wS, wI mode, wI 3, wJ s3, wS, wR 0, wR 1, wR 2, wR 3, wN, wJ t1, wS, wJ s1, wS, wU, wU]) a0_112 rfl) <| .s (.iload a0_114 rfl) ?_
      refine .s (.iconst (1 : Int32) a0_116 rfl) <| .s (.icmpF a0_117 (by decide)) <| .s (.aload a0_120 rfl rfl) <| .s (.astore (L' := [wJ t1, wS, wJ t2, wS, wJ t3, wS, wJ s1, wS, wJ s2, wS, wI mode, wI 3, wJ s3, wS, wR 0, wR 1, wR 2, wR 3, wR 0, wJ t1, wS, wJ s1, wS, wU, wU]) a0_122 rfl rfl) <| .s (.iload a0_124 rfl) <| .s (.iconst (2 : Int32) a0_126 rfl) <| .s (.icmpF a0_127 (by decide)) ?_
      refine .s (.lloadN a0_130 rfl) <| .s (.lload a0_131 rfl) <| .s (.lload a0_133 rfl) <| .s (.lload a0_135 rfl) ?_
      refine .callS a0_137 (ok8 hw _ _ _ _) (wd hw 46 rfl) (wd hw 47 rfl) (argsL := [(.long t2), (.long s2), (.long t1), (.long s1)]) (S := []) (au8_25 hw _ _ t1 t2 t3 s1 s2 s3 _) rfl rfl rfl rfl rfl rfl (Nat.le_of_ble_eq_true rfl) (Nat.le_of_ble_eq_true rfl) ?_
      rintro _ _ _ (⟨q362, q363, q364, rfl, rfl, rfl⟩ | ⟨q365, q366, q367, rfl, rfl, rfl⟩ | ⟨q368, q369, rfl, rfl, rfl⟩ | ⟨q370, rfl, rfl, rfl⟩)
      · skip
        show WGo _ (140, [wJ t1, wS, wJ t2, wS, wJ t3, wS, wJ s1, wS, wJ s2, wS, wI mode, wI 3, wJ s3, wS, wR 0, wR 1, wR 2, wR 3, wR 0, wJ t1, wS, wJ s1, wS, wU, wU], [.int 0], [(.inr (cn0, [(fk0, (.long t1)), (fk1, .null), (fk2, .null), (fk3, (.long s1))])), (.inr (cn0, [(fk0, (.long t2)), (fk1, .null), (fk2, .null), (fk3, (.long s2))])), (.inr (cn0, [(fk0, (.long t3)), (fk1, .null), (fk2, .null), (fk3, (.long s3))])), (.inr (cn1, [(fk4, .ref 4), (fk5, .int 3)])), (.inl ((.object "com/example/chronogate/chronogate/Event"), [.ref 0, .ref 1, .ref 2, .null, .null, .null, .null, .null]))], 22) _
        refine .s (.ifT a0_140 (by decide)) <| .s (.iload a0_154 rfl) <| .s (.iconst (3 : Int32) a0_156 rfl) <| .s (.icmpF a0_157 (by decide)) <| .s (.lload a0_160 rfl) <| .s (.lload a0_162 rfl) <| .s (.lload a0_164 rfl) ?_
        refine .s (.lload a0_166 rfl) ?_
        refine .callS a0_168 (ok8 hw _ _ _ _) (wd hw 46 rfl) (wd hw 47 rfl) (argsL := [(.long t3), (.long s3), (.long t1), (.long s1)]) (S := []) (au8_26 hw _ _ t1 t2 t3 s1 s2 s3 _) rfl rfl rfl rfl rfl rfl (Nat.le_of_ble_eq_true rfl) (Nat.le_of_ble_eq_true rfl) ?_
        rintro _ _ _ (⟨q371, q372, q373, rfl, rfl, rfl⟩ | ⟨q374, q375, q376, rfl, rfl, rfl⟩ | ⟨q377, q378, rfl, rfl, rfl⟩ | ⟨q379, rfl, rfl, rfl⟩)
        · skip
          show WGo _ (171, [wJ t1, wS, wJ t2, wS, wJ t3, wS, wJ s1, wS, wJ s2, wS, wI mode, wI 3, wJ s3, wS, wR 0, wR 1, wR 2, wR 3, wR 0, wJ t1, wS, wJ s1, wS, wU, wU], [.int 0], [(.inr (cn0, [(fk0, (.long t1)), (fk1, .null), (fk2, .null), (fk3, (.long s1))])), (.inr (cn0, [(fk0, (.long t2)), (fk1, .null), (fk2, .null), (fk3, (.long s2))])), (.inr (cn0, [(fk0, (.long t3)), (fk1, .null), (fk2, .null), (fk3, (.long s3))])), (.inr (cn1, [(fk4, .ref 4), (fk5, .int 3)])), (.inl ((.object "com/example/chronogate/chronogate/Event"), [.ref 0, .ref 1, .ref 2, .null, .null, .null, .null, .null]))], 22) _
          refine .s (.ifT a0_171 (by decide)) <| .s (.aload a0_178 rfl rfl) ?_
          refine .callV (k := 3) (z := (⟨"com/example/chronogate/chronogate/ReleaseQueue", "peek", "()Lcom/example/chronogate/chronogate/Event;"⟩ : MethodName)) a0_180 (ok9 hw _ _ _ _) ⟨rfl, by decide⟩ (wd hw 50 rfl) (wd hw 51 rfl) (fun s hZ => notFace_of_selects (args := #[]) (mvT hZ (wd hw 53 rfl))) (wd hw 53 rfl) (wd hw 52 rfl) rfl (argsL := []) (S := []) (au9_27 hw _ _ t1 t2 t3 s1 s2 s3 _) rfl rfl rfl rfl rfl rfl (Nat.le_of_ble_eq_true rfl) (Nat.le_of_ble_eq_true rfl) ?_
          rintro _ _ _ ⟨rfl, rfl, rfl⟩
          show WGo _ (183, [wJ t1, wS, wJ t2, wS, wJ t3, wS, wJ s1, wS, wJ s2, wS, wI mode, wI 3, wJ s3, wS, wR 0, wR 1, wR 2, wR 3, wR 0, wJ t1, wS, wJ s1, wS, wU, wU], [.ref 0], [(.inr (cn0, [(fk0, (.long t1)), (fk1, .null), (fk2, .null), (fk3, (.long s1))])), (.inr (cn0, [(fk0, (.long t2)), (fk1, .null), (fk2, .null), (fk3, (.long s2))])), (.inr (cn0, [(fk0, (.long t3)), (fk1, .null), (fk2, .null), (fk3, (.long s3))])), (.inr (cn1, [(fk4, .ref 4), (fk5, .int 3)])), (.inl ((.object "com/example/chronogate/chronogate/Event"), [.ref 0, .ref 1, .ref 2, .null, .null, .null, .null, .null]))], 22) _
          refine .s (.astore (L' := [wJ t1, wS, wJ t2, wS, wJ t3, wS, wJ s1, wS, wJ s2, wS, wI mode, wI 3, wJ s3, wS, wR 0, wR 1, wR 2, wR 3, wR 0, wJ t1, wS, wJ s1, wS, wR 0, wU]) a0_183 rfl rfl) <| .s (.aload a0_185 rfl rfl) ?_
          refine .callV (k := 3) (z := (⟨"com/example/chronogate/chronogate/ReleaseQueue", "peek", "()Lcom/example/chronogate/chronogate/Event;"⟩ : MethodName)) a0_187 (ok9 hw _ _ _ _) ⟨rfl, by decide⟩ (wd hw 50 rfl) (wd hw 51 rfl) (fun s hZ => notFace_of_selects (args := #[]) (mvT hZ (wd hw 53 rfl))) (wd hw 53 rfl) (wd hw 52 rfl) rfl (argsL := []) (S := []) (au9_27 hw _ _ t1 t2 t3 s1 s2 s3 _) rfl rfl rfl rfl rfl rfl (Nat.le_of_ble_eq_true rfl) (Nat.le_of_ble_eq_true rfl) ?_
          rintro _ _ _ ⟨rfl, rfl, rfl⟩
          show WGo _ (190, [wJ t1, wS, wJ t2, wS, wJ t3, wS, wJ s1, wS, wJ s2, wS, wI mode, wI 3, wJ s3, wS, wR 0, wR 1, wR 2, wR 3, wR 0, wJ t1, wS, wJ s1, wS, wR 0, wU], [.ref 0], [(.inr (cn0, [(fk0, (.long t1)), (fk1, .null), (fk2, .null), (fk3, (.long s1))])), (.inr (cn0, [(fk0, (.long t2)), (fk1, .null), (fk2, .null), (fk3, (.long s2))])), (.inr (cn0, [(fk0, (.long t3)), (fk1, .null), (fk2, .null), (fk3, (.long s3))])), (.inr (cn1, [(fk4, .ref 4), (fk5, .int 3)])), (.inl ((.object "com/example/chronogate/chronogate/Event"), [.ref 0, .ref 1, .ref 2, .null, .null, .null, .null, .null]))], 22) _
          refine .s (.astore (L' := [wJ t1, wS, wJ t2, wS, wJ t3, wS, wJ s1, wS, wJ s2, wS, wI mode, wI 3, wJ s3, wS, wR 0, wR 1, wR 2, wR 3, wR 0, wJ t1, wS, wJ s1, wS, wR 0, wR 0]) a0_190 rfl rfl) <| .s (.aload a0_192 rfl rfl) <| .s (.aload a0_194 rfl rfl) <| .s (.acmp true 199 a0_196 rfl rfl (by decide) rfl) <| .s (.aload a0_199 rfl rfl) <| .s (.aload a0_201 rfl rfl) <| .s (.acmp true 206 a0_203 rfl rfl (by decide) rfl) ?_
          refine .s (.aload a0_206 rfl rfl) ?_
          refine .callV (k := 3) (z := (⟨"com/example/chronogate/chronogate/ReleaseQueue", "size", "()I"⟩ : MethodName)) a0_208 (ok10 hw _ _ _ _) ⟨rfl, by decide⟩ (wd hw 55 rfl) (wd hw 56 rfl) (fun s hZ => notFace_of_selects (args := #[]) (mvT hZ (wd hw 58 rfl))) (wd hw 58 rfl) (wd hw 57 rfl) rfl (argsL := []) (S := []) (au10_28 hw _ _ t1 t2 t3 s1 s2 s3 _) rfl rfl rfl rfl rfl rfl (Nat.le_of_ble_eq_true rfl) (Nat.le_of_ble_eq_true rfl) ?_
          rintro _ _ _ ⟨rfl, rfl, rfl⟩
          show WGo _ (211, [wJ t1, wS, wJ t2, wS, wJ t3, wS, wJ s1, wS, wJ s2, wS, wI mode, wI 3, wJ s3, wS, wR 0, wR 1, wR 2, wR 3, wR 0, wJ t1, wS, wJ s1, wS, wR 0, wR 0], [.int 3], [(.inr (cn0, [(fk0, (.long t1)), (fk1, .null), (fk2, .null), (fk3, (.long s1))])), (.inr (cn0, [(fk0, (.long t2)), (fk1, .null), (fk2, .null), (fk3, (.long s2))])), (.inr (cn0, [(fk0, (.long t3)), (fk1, .null), (fk2, .null), (fk3, (.long s3))])), (.inr (cn1, [(fk4, .ref 4), (fk5, .int 3)])), (.inl ((.object "com/example/chronogate/chronogate/Event"), [.ref 0, .ref 1, .ref 2, .null, .null, .null, .null, .null]))], 22) _
          refine .s (.iload a0_211 rfl) <| .s (.icmpF a0_213 (by decide)) <| .s (.iconst (1 : Int32) a0_216 rfl) <| .s (.goto a0_217) ?_
          refine .ireturn .boolean a0_221 rfl (by simp) ?_
          exact ⟨rfl, Nat.le_of_ble_eq_true rfl, Nat.le_of_ble_eq_true rfl⟩
        · exfalso
          simp only [Int32.lt_iff_toInt_lt, Int64.lt_iff_toInt_lt, ← Int32.toInt_inj, ← Int64.toInt_inj, Int32.reduceToInt, Int64.reduceToInt] at *
          omega
        · exfalso
          simp only [Int32.lt_iff_toInt_lt, Int64.lt_iff_toInt_lt, ← Int32.toInt_inj, ← Int64.toInt_inj, Int32.reduceToInt, Int64.reduceToInt] at *
          omega
        · exfalso
          simp only [Int32.lt_iff_toInt_lt, Int64.lt_iff_toInt_lt, ← Int32.toInt_inj, ← Int64.toInt_inj, Int32.reduceToInt, Int64.reduceToInt] at *
          omega
      · exfalso
        simp only [Int32.lt_iff_toInt_lt, Int64.lt_iff_toInt_lt, ← Int32.toInt_inj, ← Int64.toInt_inj, Int32.reduceToInt, Int64.reduceToInt] at *
        omega
      · exfalso
        simp only [Int32.lt_iff_toInt_lt, Int64.lt_iff_toInt_lt, ← Int32.toInt_inj, ← Int64.toInt_inj, Int32.reduceToInt, Int64.reduceToInt] at *
        omega
      · exfalso
        simp only [Int32.lt_iff_toInt_lt, Int64.lt_iff_toInt_lt, ← Int32.toInt_inj, ← Int64.toInt_inj, Int32.reduceToInt, Int64.reduceToInt] at *
        omega
    · skip
      show WGo _ (104, [wJ t1, wS, wJ t2, wS, wJ t3, wS, wJ s1, wS, wJ s2, wS, wI mode, wI 3, wJ s3, wS, wR 0, wR 1, wR 2, wR 3, wU, wU, wU, wU, wU, wU, wU], [], [(.inr (cn0, [(fk0, (.long t1)), (fk1, .null), (fk2, .null), (fk3, (.long s1))])), (.inr (cn0, [(fk0, (.long t2)), (fk1, .null), (fk2, .null), (fk3, (.long s2))])), (.inr (cn0, [(fk0, (.long t3)), (fk1, .null), (fk2, .null), (fk3, (.long s3))])), (.inr (cn1, [(fk4, .ref 4), (fk5, .int 3)])), (.inl ((.object "com/example/chronogate/chronogate/Event"), [.ref 0, .ref 1, .ref 2, .null, .null, .null, .null, .null]))], 22) _
      refine .s (.aconstNull a0_104) <| .s (.astore (L' := [wJ t1, wS, wJ t2, wS, wJ t3, wS, wJ s1, wS, wJ s2, wS, wI mode, wI 3, wJ s3, wS, wR 0, wR 1, wR 2, wR 3, wN, wU, wU, wU, wU, wU, wU]) a0_105 rfl rfl) <| .s (.lloadN a0_107 rfl) <| .s (.lstore (L' := [wJ t1, wS, wJ t2, wS, wJ t3, wS, wJ s1, wS, wJ s2, wS, wI mode, wI 3, wJ s3, wS, wR 0, wR 1, wR 2, wR 3, wN, wJ t1, wS, wU, wU, wU, wU]) a0_108 rfl) <| .s (.lload a0_110 rfl) <| .s (.lstore (L' := [wJ t1, wS, wJ t2, wS, wJ t3, wS, wJ s1, wS, wJ s2, wS, wI mode, wI 3, wJ s3, wS, wR 0, wR 1, wR 2, wR 3, wN, wJ t1, wS, wJ s1, wS, wU, wU]) a0_112 rfl) <| .s (.iload a0_114 rfl) ?_
      refine .s (.iconst (1 : Int32) a0_116 rfl) <| .s (.icmpF a0_117 (by decide)) <| .s (.aload a0_120 rfl rfl) <| .s (.astore (L' := [wJ t1, wS, wJ t2, wS, wJ t3, wS, wJ s1, wS, wJ s2, wS, wI mode, wI 3, wJ s3, wS, wR 0, wR 1, wR 2, wR 3, wR 0, wJ t1, wS, wJ s1, wS, wU, wU]) a0_122 rfl rfl) <| .s (.iload a0_124 rfl) <| .s (.iconst (2 : Int32) a0_126 rfl) <| .s (.icmpF a0_127 (by decide)) ?_
      refine .s (.lloadN a0_130 rfl) <| .s (.lload a0_131 rfl) <| .s (.lload a0_133 rfl) <| .s (.lload a0_135 rfl) ?_
      refine .callS a0_137 (ok8 hw _ _ _ _) (wd hw 46 rfl) (wd hw 47 rfl) (argsL := [(.long t2), (.long s2), (.long t1), (.long s1)]) (S := []) (au8_25 hw _ _ t1 t2 t3 s1 s2 s3 _) rfl rfl rfl rfl rfl rfl (Nat.le_of_ble_eq_true rfl) (Nat.le_of_ble_eq_true rfl) ?_
      rintro _ _ _ (⟨q380, q381, q382, rfl, rfl, rfl⟩ | ⟨q383, q384, q385, rfl, rfl, rfl⟩ | ⟨q386, q387, rfl, rfl, rfl⟩ | ⟨q388, rfl, rfl, rfl⟩)
      · skip
        show WGo _ (140, [wJ t1, wS, wJ t2, wS, wJ t3, wS, wJ s1, wS, wJ s2, wS, wI mode, wI 3, wJ s3, wS, wR 0, wR 1, wR 2, wR 3, wR 0, wJ t1, wS, wJ s1, wS, wU, wU], [.int 0], [(.inr (cn0, [(fk0, (.long t1)), (fk1, .null), (fk2, .null), (fk3, (.long s1))])), (.inr (cn0, [(fk0, (.long t2)), (fk1, .null), (fk2, .null), (fk3, (.long s2))])), (.inr (cn0, [(fk0, (.long t3)), (fk1, .null), (fk2, .null), (fk3, (.long s3))])), (.inr (cn1, [(fk4, .ref 4), (fk5, .int 3)])), (.inl ((.object "com/example/chronogate/chronogate/Event"), [.ref 0, .ref 1, .ref 2, .null, .null, .null, .null, .null]))], 22) _
        refine .s (.ifT a0_140 (by decide)) <| .s (.iload a0_154 rfl) <| .s (.iconst (3 : Int32) a0_156 rfl) <| .s (.icmpF a0_157 (by decide)) <| .s (.lload a0_160 rfl) <| .s (.lload a0_162 rfl) <| .s (.lload a0_164 rfl) ?_
        refine .s (.lload a0_166 rfl) ?_
        refine .callS a0_168 (ok8 hw _ _ _ _) (wd hw 46 rfl) (wd hw 47 rfl) (argsL := [(.long t3), (.long s3), (.long t1), (.long s1)]) (S := []) (au8_26 hw _ _ t1 t2 t3 s1 s2 s3 _) rfl rfl rfl rfl rfl rfl (Nat.le_of_ble_eq_true rfl) (Nat.le_of_ble_eq_true rfl) ?_
        rintro _ _ _ (⟨q389, q390, q391, rfl, rfl, rfl⟩ | ⟨q392, q393, q394, rfl, rfl, rfl⟩ | ⟨q395, q396, rfl, rfl, rfl⟩ | ⟨q397, rfl, rfl, rfl⟩)
        · skip
          show WGo _ (171, [wJ t1, wS, wJ t2, wS, wJ t3, wS, wJ s1, wS, wJ s2, wS, wI mode, wI 3, wJ s3, wS, wR 0, wR 1, wR 2, wR 3, wR 0, wJ t1, wS, wJ s1, wS, wU, wU], [.int 0], [(.inr (cn0, [(fk0, (.long t1)), (fk1, .null), (fk2, .null), (fk3, (.long s1))])), (.inr (cn0, [(fk0, (.long t2)), (fk1, .null), (fk2, .null), (fk3, (.long s2))])), (.inr (cn0, [(fk0, (.long t3)), (fk1, .null), (fk2, .null), (fk3, (.long s3))])), (.inr (cn1, [(fk4, .ref 4), (fk5, .int 3)])), (.inl ((.object "com/example/chronogate/chronogate/Event"), [.ref 0, .ref 1, .ref 2, .null, .null, .null, .null, .null]))], 22) _
          refine .s (.ifT a0_171 (by decide)) <| .s (.aload a0_178 rfl rfl) ?_
          refine .callV (k := 3) (z := (⟨"com/example/chronogate/chronogate/ReleaseQueue", "peek", "()Lcom/example/chronogate/chronogate/Event;"⟩ : MethodName)) a0_180 (ok9 hw _ _ _ _) ⟨rfl, by decide⟩ (wd hw 50 rfl) (wd hw 51 rfl) (fun s hZ => notFace_of_selects (args := #[]) (mvT hZ (wd hw 53 rfl))) (wd hw 53 rfl) (wd hw 52 rfl) rfl (argsL := []) (S := []) (au9_27 hw _ _ t1 t2 t3 s1 s2 s3 _) rfl rfl rfl rfl rfl rfl (Nat.le_of_ble_eq_true rfl) (Nat.le_of_ble_eq_true rfl) ?_
          rintro _ _ _ ⟨rfl, rfl, rfl⟩
          show WGo _ (183, [wJ t1, wS, wJ t2, wS, wJ t3, wS, wJ s1, wS, wJ s2, wS, wI mode, wI 3, wJ s3, wS, wR 0, wR 1, wR 2, wR 3, wR 0, wJ t1, wS, wJ s1, wS, wU, wU], [.ref 0], [(.inr (cn0, [(fk0, (.long t1)), (fk1, .null), (fk2, .null), (fk3, (.long s1))])), (.inr (cn0, [(fk0, (.long t2)), (fk1, .null), (fk2, .null), (fk3, (.long s2))])), (.inr (cn0, [(fk0, (.long t3)), (fk1, .null), (fk2, .null), (fk3, (.long s3))])), (.inr (cn1, [(fk4, .ref 4), (fk5, .int 3)])), (.inl ((.object "com/example/chronogate/chronogate/Event"), [.ref 0, .ref 1, .ref 2, .null, .null, .null, .null, .null]))], 22) _
          refine .s (.astore (L' := [wJ t1, wS, wJ t2, wS, wJ t3, wS, wJ s1, wS, wJ s2, wS, wI mode, wI 3, wJ s3, wS, wR 0, wR 1, wR 2, wR 3, wR 0, wJ t1, wS, wJ s1, wS, wR 0, wU]) a0_183 rfl rfl) <| .s (.aload a0_185 rfl rfl) ?_
          refine .callV (k := 3) (z := (⟨"com/example/chronogate/chronogate/ReleaseQueue", "peek", "()Lcom/example/chronogate/chronogate/Event;"⟩ : MethodName)) a0_187 (ok9 hw _ _ _ _) ⟨rfl, by decide⟩ (wd hw 50 rfl) (wd hw 51 rfl) (fun s hZ => notFace_of_selects (args := #[]) (mvT hZ (wd hw 53 rfl))) (wd hw 53 rfl) (wd hw 52 rfl) rfl (argsL := []) (S := []) (au9_27 hw _ _ t1 t2 t3 s1 s2 s3 _) rfl rfl rfl rfl rfl rfl (Nat.le_of_ble_eq_true rfl) (Nat.le_of_ble_eq_true rfl) ?_
          rintro _ _ _ ⟨rfl, rfl, rfl⟩
          show WGo _ (190, [wJ t1, wS, wJ t2, wS, wJ t3, wS, wJ s1, wS, wJ s2, wS, wI mode, wI 3, wJ s3, wS, wR 0, wR 1, wR 2, wR 3, wR 0, wJ t1, wS, wJ s1, wS, wR 0, wU], [.ref 0], [(.inr (cn0, [(fk0, (.long t1)), (fk1, .null), (fk2, .null), (fk3, (.long s1))])), (.inr (cn0, [(fk0, (.long t2)), (fk1, .null), (fk2, .null), (fk3, (.long s2))])), (.inr (cn0, [(fk0, (.long t3)), (fk1, .null), (fk2, .null), (fk3, (.long s3))])), (.inr (cn1, [(fk4, .ref 4), (fk5, .int 3)])), (.inl ((.object "com/example/chronogate/chronogate/Event"), [.ref 0, .ref 1, .ref 2, .null, .null, .null, .null, .null]))], 22) _
          refine .s (.astore (L' := [wJ t1, wS, wJ t2, wS, wJ t3, wS, wJ s1, wS, wJ s2, wS, wI mode, wI 3, wJ s3, wS, wR 0, wR 1, wR 2, wR 3, wR 0, wJ t1, wS, wJ s1, wS, wR 0, wR 0]) a0_190 rfl rfl) <| .s (.aload a0_192 rfl rfl) <| .s (.aload a0_194 rfl rfl) <| .s (.acmp true 199 a0_196 rfl rfl (by decide) rfl) <| .s (.aload a0_199 rfl rfl) <| .s (.aload a0_201 rfl rfl) <| .s (.acmp true 206 a0_203 rfl rfl (by decide) rfl) ?_
          refine .s (.aload a0_206 rfl rfl) ?_
          refine .callV (k := 3) (z := (⟨"com/example/chronogate/chronogate/ReleaseQueue", "size", "()I"⟩ : MethodName)) a0_208 (ok10 hw _ _ _ _) ⟨rfl, by decide⟩ (wd hw 55 rfl) (wd hw 56 rfl) (fun s hZ => notFace_of_selects (args := #[]) (mvT hZ (wd hw 58 rfl))) (wd hw 58 rfl) (wd hw 57 rfl) rfl (argsL := []) (S := []) (au10_28 hw _ _ t1 t2 t3 s1 s2 s3 _) rfl rfl rfl rfl rfl rfl (Nat.le_of_ble_eq_true rfl) (Nat.le_of_ble_eq_true rfl) ?_
          rintro _ _ _ ⟨rfl, rfl, rfl⟩
          show WGo _ (211, [wJ t1, wS, wJ t2, wS, wJ t3, wS, wJ s1, wS, wJ s2, wS, wI mode, wI 3, wJ s3, wS, wR 0, wR 1, wR 2, wR 3, wR 0, wJ t1, wS, wJ s1, wS, wR 0, wR 0], [.int 3], [(.inr (cn0, [(fk0, (.long t1)), (fk1, .null), (fk2, .null), (fk3, (.long s1))])), (.inr (cn0, [(fk0, (.long t2)), (fk1, .null), (fk2, .null), (fk3, (.long s2))])), (.inr (cn0, [(fk0, (.long t3)), (fk1, .null), (fk2, .null), (fk3, (.long s3))])), (.inr (cn1, [(fk4, .ref 4), (fk5, .int 3)])), (.inl ((.object "com/example/chronogate/chronogate/Event"), [.ref 0, .ref 1, .ref 2, .null, .null, .null, .null, .null]))], 22) _
          refine .s (.iload a0_211 rfl) <| .s (.icmpF a0_213 (by decide)) <| .s (.iconst (1 : Int32) a0_216 rfl) <| .s (.goto a0_217) ?_
          refine .ireturn .boolean a0_221 rfl (by simp) ?_
          exact ⟨rfl, Nat.le_of_ble_eq_true rfl, Nat.le_of_ble_eq_true rfl⟩
        · exfalso
          simp only [Int32.lt_iff_toInt_lt, Int64.lt_iff_toInt_lt, ← Int32.toInt_inj, ← Int64.toInt_inj, Int32.reduceToInt, Int64.reduceToInt] at *
          omega
        · exfalso
          simp only [Int32.lt_iff_toInt_lt, Int64.lt_iff_toInt_lt, ← Int32.toInt_inj, ← Int64.toInt_inj, Int32.reduceToInt, Int64.reduceToInt] at *
          omega
        · exfalso
          simp only [Int32.lt_iff_toInt_lt, Int64.lt_iff_toInt_lt, ← Int32.toInt_inj, ← Int64.toInt_inj, Int32.reduceToInt, Int64.reduceToInt] at *
          omega
      · exfalso
        simp only [Int32.lt_iff_toInt_lt, Int64.lt_iff_toInt_lt, ← Int32.toInt_inj, ← Int64.toInt_inj, Int32.reduceToInt, Int64.reduceToInt] at *
        omega
      · exfalso
        simp only [Int32.lt_iff_toInt_lt, Int64.lt_iff_toInt_lt, ← Int32.toInt_inj, ← Int64.toInt_inj, Int32.reduceToInt, Int64.reduceToInt] at *
        omega
      · exfalso
        simp only [Int32.lt_iff_toInt_lt, Int64.lt_iff_toInt_lt, ← Int32.toInt_inj, ← Int64.toInt_inj, Int32.reduceToInt, Int64.reduceToInt] at *
        omega
    · skip
      show WGo _ (104, [wJ t1, wS, wJ t2, wS, wJ t3, wS, wJ s1, wS, wJ s2, wS, wI mode, wI 3, wJ s3, wS, wR 0, wR 1, wR 2, wR 3, wU, wU, wU, wU, wU, wU, wU], [], [(.inr (cn0, [(fk0, (.long t1)), (fk1, .null), (fk2, .null), (fk3, (.long s1))])), (.inr (cn0, [(fk0, (.long t2)), (fk1, .null), (fk2, .null), (fk3, (.long s2))])), (.inr (cn0, [(fk0, (.long t3)), (fk1, .null), (fk2, .null), (fk3, (.long s3))])), (.inr (cn1, [(fk4, .ref 4), (fk5, .int 3)])), (.inl ((.object "com/example/chronogate/chronogate/Event"), [.ref 2, .ref 1, .ref 0, .null, .null, .null, .null, .null]))], 22) _
      refine .s (.aconstNull a0_104) <| .s (.astore (L' := [wJ t1, wS, wJ t2, wS, wJ t3, wS, wJ s1, wS, wJ s2, wS, wI mode, wI 3, wJ s3, wS, wR 0, wR 1, wR 2, wR 3, wN, wU, wU, wU, wU, wU, wU]) a0_105 rfl rfl) <| .s (.lloadN a0_107 rfl) <| .s (.lstore (L' := [wJ t1, wS, wJ t2, wS, wJ t3, wS, wJ s1, wS, wJ s2, wS, wI mode, wI 3, wJ s3, wS, wR 0, wR 1, wR 2, wR 3, wN, wJ t1, wS, wU, wU, wU, wU]) a0_108 rfl) <| .s (.lload a0_110 rfl) <| .s (.lstore (L' := [wJ t1, wS, wJ t2, wS, wJ t3, wS, wJ s1, wS, wJ s2, wS, wI mode, wI 3, wJ s3, wS, wR 0, wR 1, wR 2, wR 3, wN, wJ t1, wS, wJ s1, wS, wU, wU]) a0_112 rfl) <| .s (.iload a0_114 rfl) ?_
      refine .s (.iconst (1 : Int32) a0_116 rfl) <| .s (.icmpF a0_117 (by decide)) <| .s (.aload a0_120 rfl rfl) <| .s (.astore (L' := [wJ t1, wS, wJ t2, wS, wJ t3, wS, wJ s1, wS, wJ s2, wS, wI mode, wI 3, wJ s3, wS, wR 0, wR 1, wR 2, wR 3, wR 0, wJ t1, wS, wJ s1, wS, wU, wU]) a0_122 rfl rfl) <| .s (.iload a0_124 rfl) <| .s (.iconst (2 : Int32) a0_126 rfl) <| .s (.icmpF a0_127 (by decide)) ?_
      refine .s (.lloadN a0_130 rfl) <| .s (.lload a0_131 rfl) <| .s (.lload a0_133 rfl) <| .s (.lload a0_135 rfl) ?_
      refine .callS a0_137 (ok8 hw _ _ _ _) (wd hw 46 rfl) (wd hw 47 rfl) (argsL := [(.long t2), (.long s2), (.long t1), (.long s1)]) (S := []) (au8_29 hw _ _ t1 t2 t3 s1 s2 s3 _) rfl rfl rfl rfl rfl rfl (Nat.le_of_ble_eq_true rfl) (Nat.le_of_ble_eq_true rfl) ?_
      rintro _ _ _ (⟨q398, q399, q400, rfl, rfl, rfl⟩ | ⟨q401, q402, q403, rfl, rfl, rfl⟩ | ⟨q404, q405, rfl, rfl, rfl⟩ | ⟨q406, rfl, rfl, rfl⟩)
      · skip
        show WGo _ (140, [wJ t1, wS, wJ t2, wS, wJ t3, wS, wJ s1, wS, wJ s2, wS, wI mode, wI 3, wJ s3, wS, wR 0, wR 1, wR 2, wR 3, wR 0, wJ t1, wS, wJ s1, wS, wU, wU], [.int 0], [(.inr (cn0, [(fk0, (.long t1)), (fk1, .null), (fk2, .null), (fk3, (.long s1))])), (.inr (cn0, [(fk0, (.long t2)), (fk1, .null), (fk2, .null), (fk3, (.long s2))])), (.inr (cn0, [(fk0, (.long t3)), (fk1, .null), (fk2, .null), (fk3, (.long s3))])), (.inr (cn1, [(fk4, .ref 4), (fk5, .int 3)])), (.inl ((.object "com/example/chronogate/chronogate/Event"), [.ref 2, .ref 1, .ref 0, .null, .null, .null, .null, .null]))], 22) _
        refine .s (.ifT a0_140 (by decide)) <| .s (.iload a0_154 rfl) <| .s (.iconst (3 : Int32) a0_156 rfl) <| .s (.icmpF a0_157 (by decide)) <| .s (.lload a0_160 rfl) <| .s (.lload a0_162 rfl) <| .s (.lload a0_164 rfl) ?_
        refine .s (.lload a0_166 rfl) ?_
        refine .callS a0_168 (ok8 hw _ _ _ _) (wd hw 46 rfl) (wd hw 47 rfl) (argsL := [(.long t3), (.long s3), (.long t1), (.long s1)]) (S := []) (au8_30 hw _ _ t1 t2 t3 s1 s2 s3 _) rfl rfl rfl rfl rfl rfl (Nat.le_of_ble_eq_true rfl) (Nat.le_of_ble_eq_true rfl) ?_
        rintro _ _ _ (⟨q407, q408, q409, rfl, rfl, rfl⟩ | ⟨q410, q411, q412, rfl, rfl, rfl⟩ | ⟨q413, q414, rfl, rfl, rfl⟩ | ⟨q415, rfl, rfl, rfl⟩)
        · exfalso
          simp only [Int32.lt_iff_toInt_lt, Int64.lt_iff_toInt_lt, ← Int32.toInt_inj, ← Int64.toInt_inj, Int32.reduceToInt, Int64.reduceToInt] at *
          omega
        · skip
          show WGo _ (171, [wJ t1, wS, wJ t2, wS, wJ t3, wS, wJ s1, wS, wJ s2, wS, wI mode, wI 3, wJ s3, wS, wR 0, wR 1, wR 2, wR 3, wR 0, wJ t1, wS, wJ s1, wS, wU, wU], [.int 1], [(.inr (cn0, [(fk0, (.long t1)), (fk1, .null), (fk2, .null), (fk3, (.long s1))])), (.inr (cn0, [(fk0, (.long t2)), (fk1, .null), (fk2, .null), (fk3, (.long s2))])), (.inr (cn0, [(fk0, (.long t3)), (fk1, .null), (fk2, .null), (fk3, (.long s3))])), (.inr (cn1, [(fk4, .ref 4), (fk5, .int 3)])), (.inl ((.object "com/example/chronogate/chronogate/Event"), [.ref 2, .ref 1, .ref 0, .null, .null, .null, .null, .null]))], 22) _
          refine .s (.ifF a0_171 (by decide)) <| .s (.aload a0_174 rfl rfl) <| .s (.astore (L' := [wJ t1, wS, wJ t2, wS, wJ t3, wS, wJ s1, wS, wJ s2, wS, wI mode, wI 3, wJ s3, wS, wR 0, wR 1, wR 2, wR 3, wR 2, wJ t1, wS, wJ s1, wS, wU, wU]) a0_176 rfl rfl) <| .s (.aload a0_178 rfl rfl) ?_
          refine .callV (k := 3) (z := (⟨"com/example/chronogate/chronogate/ReleaseQueue", "peek", "()Lcom/example/chronogate/chronogate/Event;"⟩ : MethodName)) a0_180 (ok9 hw _ _ _ _) ⟨rfl, by decide⟩ (wd hw 50 rfl) (wd hw 51 rfl) (fun s hZ => notFace_of_selects (args := #[]) (mvT hZ (wd hw 53 rfl))) (wd hw 53 rfl) (wd hw 52 rfl) rfl (argsL := []) (S := []) (au9_31 hw _ _ t1 t2 t3 s1 s2 s3 _) rfl rfl rfl rfl rfl rfl (Nat.le_of_ble_eq_true rfl) (Nat.le_of_ble_eq_true rfl) ?_
          rintro _ _ _ ⟨rfl, rfl, rfl⟩
          show WGo _ (183, [wJ t1, wS, wJ t2, wS, wJ t3, wS, wJ s1, wS, wJ s2, wS, wI mode, wI 3, wJ s3, wS, wR 0, wR 1, wR 2, wR 3, wR 2, wJ t1, wS, wJ s1, wS, wU, wU], [.ref 2], [(.inr (cn0, [(fk0, (.long t1)), (fk1, .null), (fk2, .null), (fk3, (.long s1))])), (.inr (cn0, [(fk0, (.long t2)), (fk1, .null), (fk2, .null), (fk3, (.long s2))])), (.inr (cn0, [(fk0, (.long t3)), (fk1, .null), (fk2, .null), (fk3, (.long s3))])), (.inr (cn1, [(fk4, .ref 4), (fk5, .int 3)])), (.inl ((.object "com/example/chronogate/chronogate/Event"), [.ref 2, .ref 1, .ref 0, .null, .null, .null, .null, .null]))], 22) _
          refine .s (.astore (L' := [wJ t1, wS, wJ t2, wS, wJ t3, wS, wJ s1, wS, wJ s2, wS, wI mode, wI 3, wJ s3, wS, wR 0, wR 1, wR 2, wR 3, wR 2, wJ t1, wS, wJ s1, wS, wR 2, wU]) a0_183 rfl rfl) <| .s (.aload a0_185 rfl rfl) ?_
          refine .callV (k := 3) (z := (⟨"com/example/chronogate/chronogate/ReleaseQueue", "peek", "()Lcom/example/chronogate/chronogate/Event;"⟩ : MethodName)) a0_187 (ok9 hw _ _ _ _) ⟨rfl, by decide⟩ (wd hw 50 rfl) (wd hw 51 rfl) (fun s hZ => notFace_of_selects (args := #[]) (mvT hZ (wd hw 53 rfl))) (wd hw 53 rfl) (wd hw 52 rfl) rfl (argsL := []) (S := []) (au9_31 hw _ _ t1 t2 t3 s1 s2 s3 _) rfl rfl rfl rfl rfl rfl (Nat.le_of_ble_eq_true rfl) (Nat.le_of_ble_eq_true rfl) ?_
          rintro _ _ _ ⟨rfl, rfl, rfl⟩
          show WGo _ (190, [wJ t1, wS, wJ t2, wS, wJ t3, wS, wJ s1, wS, wJ s2, wS, wI mode, wI 3, wJ s3, wS, wR 0, wR 1, wR 2, wR 3, wR 2, wJ t1, wS, wJ s1, wS, wR 2, wU], [.ref 2], [(.inr (cn0, [(fk0, (.long t1)), (fk1, .null), (fk2, .null), (fk3, (.long s1))])), (.inr (cn0, [(fk0, (.long t2)), (fk1, .null), (fk2, .null), (fk3, (.long s2))])), (.inr (cn0, [(fk0, (.long t3)), (fk1, .null), (fk2, .null), (fk3, (.long s3))])), (.inr (cn1, [(fk4, .ref 4), (fk5, .int 3)])), (.inl ((.object "com/example/chronogate/chronogate/Event"), [.ref 2, .ref 1, .ref 0, .null, .null, .null, .null, .null]))], 22) _
          refine .s (.astore (L' := [wJ t1, wS, wJ t2, wS, wJ t3, wS, wJ s1, wS, wJ s2, wS, wI mode, wI 3, wJ s3, wS, wR 0, wR 1, wR 2, wR 3, wR 2, wJ t1, wS, wJ s1, wS, wR 2, wR 2]) a0_190 rfl rfl) <| .s (.aload a0_192 rfl rfl) <| .s (.aload a0_194 rfl rfl) <| .s (.acmp true 199 a0_196 rfl rfl (by decide) rfl) <| .s (.aload a0_199 rfl rfl) <| .s (.aload a0_201 rfl rfl) <| .s (.acmp true 206 a0_203 rfl rfl (by decide) rfl) ?_
          refine .s (.aload a0_206 rfl rfl) ?_
          refine .callV (k := 3) (z := (⟨"com/example/chronogate/chronogate/ReleaseQueue", "size", "()I"⟩ : MethodName)) a0_208 (ok10 hw _ _ _ _) ⟨rfl, by decide⟩ (wd hw 55 rfl) (wd hw 56 rfl) (fun s hZ => notFace_of_selects (args := #[]) (mvT hZ (wd hw 58 rfl))) (wd hw 58 rfl) (wd hw 57 rfl) rfl (argsL := []) (S := []) (au10_32 hw _ _ t1 t2 t3 s1 s2 s3 _) rfl rfl rfl rfl rfl rfl (Nat.le_of_ble_eq_true rfl) (Nat.le_of_ble_eq_true rfl) ?_
          rintro _ _ _ ⟨rfl, rfl, rfl⟩
          show WGo _ (211, [wJ t1, wS, wJ t2, wS, wJ t3, wS, wJ s1, wS, wJ s2, wS, wI mode, wI 3, wJ s3, wS, wR 0, wR 1, wR 2, wR 3, wR 2, wJ t1, wS, wJ s1, wS, wR 2, wR 2], [.int 3], [(.inr (cn0, [(fk0, (.long t1)), (fk1, .null), (fk2, .null), (fk3, (.long s1))])), (.inr (cn0, [(fk0, (.long t2)), (fk1, .null), (fk2, .null), (fk3, (.long s2))])), (.inr (cn0, [(fk0, (.long t3)), (fk1, .null), (fk2, .null), (fk3, (.long s3))])), (.inr (cn1, [(fk4, .ref 4), (fk5, .int 3)])), (.inl ((.object "com/example/chronogate/chronogate/Event"), [.ref 2, .ref 1, .ref 0, .null, .null, .null, .null, .null]))], 22) _
          refine .s (.iload a0_211 rfl) <| .s (.icmpF a0_213 (by decide)) <| .s (.iconst (1 : Int32) a0_216 rfl) <| .s (.goto a0_217) ?_
          refine .ireturn .boolean a0_221 rfl (by simp) ?_
          exact ⟨rfl, Nat.le_of_ble_eq_true rfl, Nat.le_of_ble_eq_true rfl⟩
        · exfalso
          simp only [Int32.lt_iff_toInt_lt, Int64.lt_iff_toInt_lt, ← Int32.toInt_inj, ← Int64.toInt_inj, Int32.reduceToInt, Int64.reduceToInt] at *
          omega
        · exfalso
          simp only [Int32.lt_iff_toInt_lt, Int64.lt_iff_toInt_lt, ← Int32.toInt_inj, ← Int64.toInt_inj, Int32.reduceToInt, Int64.reduceToInt] at *
          omega
      · exfalso
        simp only [Int32.lt_iff_toInt_lt, Int64.lt_iff_toInt_lt, ← Int32.toInt_inj, ← Int64.toInt_inj, Int32.reduceToInt, Int64.reduceToInt] at *
        omega
      · exfalso
        simp only [Int32.lt_iff_toInt_lt, Int64.lt_iff_toInt_lt, ← Int32.toInt_inj, ← Int64.toInt_inj, Int32.reduceToInt, Int64.reduceToInt] at *
        omega
      · exfalso
        simp only [Int32.lt_iff_toInt_lt, Int64.lt_iff_toInt_lt, ← Int32.toInt_inj, ← Int64.toInt_inj, Int32.reduceToInt, Int64.reduceToInt] at *
        omega
    · skip
      show WGo _ (104, [wJ t1, wS, wJ t2, wS, wJ t3, wS, wJ s1, wS, wJ s2, wS, wI mode, wI 3, wJ s3, wS, wR 0, wR 1, wR 2, wR 3, wU, wU, wU, wU, wU, wU, wU], [], [(.inr (cn0, [(fk0, (.long t1)), (fk1, .null), (fk2, .null), (fk3, (.long s1))])), (.inr (cn0, [(fk0, (.long t2)), (fk1, .null), (fk2, .null), (fk3, (.long s2))])), (.inr (cn0, [(fk0, (.long t3)), (fk1, .null), (fk2, .null), (fk3, (.long s3))])), (.inr (cn1, [(fk4, .ref 4), (fk5, .int 3)])), (.inl ((.object "com/example/chronogate/chronogate/Event"), [.ref 2, .ref 1, .ref 0, .null, .null, .null, .null, .null]))], 22) _
      refine .s (.aconstNull a0_104) <| .s (.astore (L' := [wJ t1, wS, wJ t2, wS, wJ t3, wS, wJ s1, wS, wJ s2, wS, wI mode, wI 3, wJ s3, wS, wR 0, wR 1, wR 2, wR 3, wN, wU, wU, wU, wU, wU, wU]) a0_105 rfl rfl) <| .s (.lloadN a0_107 rfl) <| .s (.lstore (L' := [wJ t1, wS, wJ t2, wS, wJ t3, wS, wJ s1, wS, wJ s2, wS, wI mode, wI 3, wJ s3, wS, wR 0, wR 1, wR 2, wR 3, wN, wJ t1, wS, wU, wU, wU, wU]) a0_108 rfl) <| .s (.lload a0_110 rfl) <| .s (.lstore (L' := [wJ t1, wS, wJ t2, wS, wJ t3, wS, wJ s1, wS, wJ s2, wS, wI mode, wI 3, wJ s3, wS, wR 0, wR 1, wR 2, wR 3, wN, wJ t1, wS, wJ s1, wS, wU, wU]) a0_112 rfl) <| .s (.iload a0_114 rfl) ?_
      refine .s (.iconst (1 : Int32) a0_116 rfl) <| .s (.icmpF a0_117 (by decide)) <| .s (.aload a0_120 rfl rfl) <| .s (.astore (L' := [wJ t1, wS, wJ t2, wS, wJ t3, wS, wJ s1, wS, wJ s2, wS, wI mode, wI 3, wJ s3, wS, wR 0, wR 1, wR 2, wR 3, wR 0, wJ t1, wS, wJ s1, wS, wU, wU]) a0_122 rfl rfl) <| .s (.iload a0_124 rfl) <| .s (.iconst (2 : Int32) a0_126 rfl) <| .s (.icmpF a0_127 (by decide)) ?_
      refine .s (.lloadN a0_130 rfl) <| .s (.lload a0_131 rfl) <| .s (.lload a0_133 rfl) <| .s (.lload a0_135 rfl) ?_
      refine .callS a0_137 (ok8 hw _ _ _ _) (wd hw 46 rfl) (wd hw 47 rfl) (argsL := [(.long t2), (.long s2), (.long t1), (.long s1)]) (S := []) (au8_29 hw _ _ t1 t2 t3 s1 s2 s3 _) rfl rfl rfl rfl rfl rfl (Nat.le_of_ble_eq_true rfl) (Nat.le_of_ble_eq_true rfl) ?_
      rintro _ _ _ (⟨q416, q417, q418, rfl, rfl, rfl⟩ | ⟨q419, q420, q421, rfl, rfl, rfl⟩ | ⟨q422, q423, rfl, rfl, rfl⟩ | ⟨q424, rfl, rfl, rfl⟩)
      · skip
        show WGo _ (140, [wJ t1, wS, wJ t2, wS, wJ t3, wS, wJ s1, wS, wJ s2, wS, wI mode, wI 3, wJ s3, wS, wR 0, wR 1, wR 2, wR 3, wR 0, wJ t1, wS, wJ s1, wS, wU, wU], [.int 0], [(.inr (cn0, [(fk0, (.long t1)), (fk1, .null), (fk2, .null), (fk3, (.long s1))])), (.inr (cn0, [(fk0, (.long t2)), (fk1, .null), (fk2, .null), (fk3, (.long s2))])), (.inr (cn0, [(fk0, (.long t3)), (fk1, .null), (fk2, .null), (fk3, (.long s3))])), (.inr (cn1, [(fk4, .ref 4), (fk5, .int 3)])), (.inl ((.object "com/example/chronogate/chronogate/Event"), [.ref 2, .ref 1, .ref 0, .null, .null, .null, .null, .null]))], 22) _
        refine .s (.ifT a0_140 (by decide)) <| .s (.iload a0_154 rfl) <| .s (.iconst (3 : Int32) a0_156 rfl) <| .s (.icmpF a0_157 (by decide)) <| .s (.lload a0_160 rfl) <| .s (.lload a0_162 rfl) <| .s (.lload a0_164 rfl) ?_
        refine .s (.lload a0_166 rfl) ?_
        refine .callS a0_168 (ok8 hw _ _ _ _) (wd hw 46 rfl) (wd hw 47 rfl) (argsL := [(.long t3), (.long s3), (.long t1), (.long s1)]) (S := []) (au8_30 hw _ _ t1 t2 t3 s1 s2 s3 _) rfl rfl rfl rfl rfl rfl (Nat.le_of_ble_eq_true rfl) (Nat.le_of_ble_eq_true rfl) ?_
        rintro _ _ _ (⟨q425, q426, q427, rfl, rfl, rfl⟩ | ⟨q428, q429, q430, rfl, rfl, rfl⟩ | ⟨q431, q432, rfl, rfl, rfl⟩ | ⟨q433, rfl, rfl, rfl⟩)
        · exfalso
          simp only [Int32.lt_iff_toInt_lt, Int64.lt_iff_toInt_lt, ← Int32.toInt_inj, ← Int64.toInt_inj, Int32.reduceToInt, Int64.reduceToInt] at *
          omega
        · exfalso
          simp only [Int32.lt_iff_toInt_lt, Int64.lt_iff_toInt_lt, ← Int32.toInt_inj, ← Int64.toInt_inj, Int32.reduceToInt, Int64.reduceToInt] at *
          omega
        · exfalso
          simp only [Int32.lt_iff_toInt_lt, Int64.lt_iff_toInt_lt, ← Int32.toInt_inj, ← Int64.toInt_inj, Int32.reduceToInt, Int64.reduceToInt] at *
          omega
        · skip
          show WGo _ (171, [wJ t1, wS, wJ t2, wS, wJ t3, wS, wJ s1, wS, wJ s2, wS, wI mode, wI 3, wJ s3, wS, wR 0, wR 1, wR 2, wR 3, wR 0, wJ t1, wS, wJ s1, wS, wU, wU], [.int 1], [(.inr (cn0, [(fk0, (.long t1)), (fk1, .null), (fk2, .null), (fk3, (.long s1))])), (.inr (cn0, [(fk0, (.long t2)), (fk1, .null), (fk2, .null), (fk3, (.long s2))])), (.inr (cn0, [(fk0, (.long t3)), (fk1, .null), (fk2, .null), (fk3, (.long s3))])), (.inr (cn1, [(fk4, .ref 4), (fk5, .int 3)])), (.inl ((.object "com/example/chronogate/chronogate/Event"), [.ref 2, .ref 1, .ref 0, .null, .null, .null, .null, .null]))], 22) _
          refine .s (.ifF a0_171 (by decide)) <| .s (.aload a0_174 rfl rfl) <| .s (.astore (L' := [wJ t1, wS, wJ t2, wS, wJ t3, wS, wJ s1, wS, wJ s2, wS, wI mode, wI 3, wJ s3, wS, wR 0, wR 1, wR 2, wR 3, wR 2, wJ t1, wS, wJ s1, wS, wU, wU]) a0_176 rfl rfl) <| .s (.aload a0_178 rfl rfl) ?_
          refine .callV (k := 3) (z := (⟨"com/example/chronogate/chronogate/ReleaseQueue", "peek", "()Lcom/example/chronogate/chronogate/Event;"⟩ : MethodName)) a0_180 (ok9 hw _ _ _ _) ⟨rfl, by decide⟩ (wd hw 50 rfl) (wd hw 51 rfl) (fun s hZ => notFace_of_selects (args := #[]) (mvT hZ (wd hw 53 rfl))) (wd hw 53 rfl) (wd hw 52 rfl) rfl (argsL := []) (S := []) (au9_31 hw _ _ t1 t2 t3 s1 s2 s3 _) rfl rfl rfl rfl rfl rfl (Nat.le_of_ble_eq_true rfl) (Nat.le_of_ble_eq_true rfl) ?_
          rintro _ _ _ ⟨rfl, rfl, rfl⟩
          show WGo _ (183, [wJ t1, wS, wJ t2, wS, wJ t3, wS, wJ s1, wS, wJ s2, wS, wI mode, wI 3, wJ s3, wS, wR 0, wR 1, wR 2, wR 3, wR 2, wJ t1, wS, wJ s1, wS, wU, wU], [.ref 2], [(.inr (cn0, [(fk0, (.long t1)), (fk1, .null), (fk2, .null), (fk3, (.long s1))])), (.inr (cn0, [(fk0, (.long t2)), (fk1, .null), (fk2, .null), (fk3, (.long s2))])), (.inr (cn0, [(fk0, (.long t3)), (fk1, .null), (fk2, .null), (fk3, (.long s3))])), (.inr (cn1, [(fk4, .ref 4), (fk5, .int 3)])), (.inl ((.object "com/example/chronogate/chronogate/Event"), [.ref 2, .ref 1, .ref 0, .null, .null, .null, .null, .null]))], 22) _
          refine .s (.astore (L' := [wJ t1, wS, wJ t2, wS, wJ t3, wS, wJ s1, wS, wJ s2, wS, wI mode, wI 3, wJ s3, wS, wR 0, wR 1, wR 2, wR 3, wR 2, wJ t1, wS, wJ s1, wS, wR 2, wU]) a0_183 rfl rfl) <| .s (.aload a0_185 rfl rfl) ?_
          refine .callV (k := 3) (z := (⟨"com/example/chronogate/chronogate/ReleaseQueue", "peek", "()Lcom/example/chronogate/chronogate/Event;"⟩ : MethodName)) a0_187 (ok9 hw _ _ _ _) ⟨rfl, by decide⟩ (wd hw 50 rfl) (wd hw 51 rfl) (fun s hZ => notFace_of_selects (args := #[]) (mvT hZ (wd hw 53 rfl))) (wd hw 53 rfl) (wd hw 52 rfl) rfl (argsL := []) (S := []) (au9_31 hw _ _ t1 t2 t3 s1 s2 s3 _) rfl rfl rfl rfl rfl rfl (Nat.le_of_ble_eq_true rfl) (Nat.le_of_ble_eq_true rfl) ?_
          rintro _ _ _ ⟨rfl, rfl, rfl⟩
          show WGo _ (190, [wJ t1, wS, wJ t2, wS, wJ t3, wS, wJ s1, wS, wJ s2, wS, wI mode, wI 3, wJ s3, wS, wR 0, wR 1, wR 2, wR 3, wR 2, wJ t1, wS, wJ s1, wS, wR 2, wU], [.ref 2], [(.inr (cn0, [(fk0, (.long t1)), (fk1, .null), (fk2, .null), (fk3, (.long s1))])), (.inr (cn0, [(fk0, (.long t2)), (fk1, .null), (fk2, .null), (fk3, (.long s2))])), (.inr (cn0, [(fk0, (.long t3)), (fk1, .null), (fk2, .null), (fk3, (.long s3))])), (.inr (cn1, [(fk4, .ref 4), (fk5, .int 3)])), (.inl ((.object "com/example/chronogate/chronogate/Event"), [.ref 2, .ref 1, .ref 0, .null, .null, .null, .null, .null]))], 22) _
          refine .s (.astore (L' := [wJ t1, wS, wJ t2, wS, wJ t3, wS, wJ s1, wS, wJ s2, wS, wI mode, wI 3, wJ s3, wS, wR 0, wR 1, wR 2, wR 3, wR 2, wJ t1, wS, wJ s1, wS, wR 2, wR 2]) a0_190 rfl rfl) <| .s (.aload a0_192 rfl rfl) <| .s (.aload a0_194 rfl rfl) <| .s (.acmp true 199 a0_196 rfl rfl (by decide) rfl) <| .s (.aload a0_199 rfl rfl) <| .s (.aload a0_201 rfl rfl) <| .s (.acmp true 206 a0_203 rfl rfl (by decide) rfl) ?_
          refine .s (.aload a0_206 rfl rfl) ?_
          refine .callV (k := 3) (z := (⟨"com/example/chronogate/chronogate/ReleaseQueue", "size", "()I"⟩ : MethodName)) a0_208 (ok10 hw _ _ _ _) ⟨rfl, by decide⟩ (wd hw 55 rfl) (wd hw 56 rfl) (fun s hZ => notFace_of_selects (args := #[]) (mvT hZ (wd hw 58 rfl))) (wd hw 58 rfl) (wd hw 57 rfl) rfl (argsL := []) (S := []) (au10_32 hw _ _ t1 t2 t3 s1 s2 s3 _) rfl rfl rfl rfl rfl rfl (Nat.le_of_ble_eq_true rfl) (Nat.le_of_ble_eq_true rfl) ?_
          rintro _ _ _ ⟨rfl, rfl, rfl⟩
          show WGo _ (211, [wJ t1, wS, wJ t2, wS, wJ t3, wS, wJ s1, wS, wJ s2, wS, wI mode, wI 3, wJ s3, wS, wR 0, wR 1, wR 2, wR 3, wR 2, wJ t1, wS, wJ s1, wS, wR 2, wR 2], [.int 3], [(.inr (cn0, [(fk0, (.long t1)), (fk1, .null), (fk2, .null), (fk3, (.long s1))])), (.inr (cn0, [(fk0, (.long t2)), (fk1, .null), (fk2, .null), (fk3, (.long s2))])), (.inr (cn0, [(fk0, (.long t3)), (fk1, .null), (fk2, .null), (fk3, (.long s3))])), (.inr (cn1, [(fk4, .ref 4), (fk5, .int 3)])), (.inl ((.object "com/example/chronogate/chronogate/Event"), [.ref 2, .ref 1, .ref 0, .null, .null, .null, .null, .null]))], 22) _
          refine .s (.iload a0_211 rfl) <| .s (.icmpF a0_213 (by decide)) <| .s (.iconst (1 : Int32) a0_216 rfl) <| .s (.goto a0_217) ?_
          refine .ireturn .boolean a0_221 rfl (by simp) ?_
          exact ⟨rfl, Nat.le_of_ble_eq_true rfl, Nat.le_of_ble_eq_true rfl⟩
      · exfalso
        simp only [Int32.lt_iff_toInt_lt, Int64.lt_iff_toInt_lt, ← Int32.toInt_inj, ← Int64.toInt_inj, Int32.reduceToInt, Int64.reduceToInt] at *
        omega
      · exfalso
        simp only [Int32.lt_iff_toInt_lt, Int64.lt_iff_toInt_lt, ← Int32.toInt_inj, ← Int64.toInt_inj, Int32.reduceToInt, Int64.reduceToInt] at *
        omega
      · exfalso
        simp only [Int32.lt_iff_toInt_lt, Int64.lt_iff_toInt_lt, ← Int32.toInt_inj, ← Int64.toInt_inj, Int32.reduceToInt, Int64.reduceToInt] at *
        omega
  · skip
    show WGo _ (91, [wJ t1, wS, wJ t2, wS, wJ t3, wS, wJ s1, wS, wJ s2, wS, wI mode, wI 3, wJ s3, wS, wR 0, wR 1, wR 2, wR 3, wU, wU, wU, wU, wU, wU, wU], [], [(.inr (cn0, [(fk0, (.long t1)), (fk1, .null), (fk2, .null), (fk3, (.long s1))])), (.inr (cn0, [(fk0, (.long t2)), (fk1, .null), (fk2, .null), (fk3, (.long s2))])), (.inr (cn0, [(fk0, (.long t3)), (fk1, .null), (fk2, .null), (fk3, (.long s3))])), (.inr (cn1, [(fk4, .ref 4), (fk5, .int 2)])), (.inl ((.object "com/example/chronogate/chronogate/Event"), [.ref 1, .ref 0, .null, .null, .null, .null, .null, .null]))], 22) _
    refine .s (.iload a0_91 rfl) <| .s (.iconst (3 : Int32) a0_93 rfl) <| .s (.icmpF a0_94 (by decide)) <| .s (.aload a0_97 rfl rfl) <| .s (.aload a0_99 rfl rfl) ?_
    refine .callV (k := 3) (z := (⟨"com/example/chronogate/chronogate/ReleaseQueue", "add", "(Lcom/example/chronogate/chronogate/Event;)V"⟩ : MethodName)) a0_101 (ok5 hw _ _ _ _) ⟨rfl, by decide⟩ (wd hw 31 rfl) (wd hw 32 rfl) (fun s hZ => notFace_of_selects (args := #[]) (mvT hZ (wd hw 34 rfl))) (wd hw 34 rfl) (wd hw 33 rfl) rfl (argsL := [.ref 2]) (S := []) (au5_33 hw _ _ t1 t2 t3 s1 s2 s3 _) rfl rfl rfl rfl rfl rfl (Nat.le_of_ble_eq_true rfl) (Nat.le_of_ble_eq_true rfl) ?_
    rintro _ _ _ (⟨q458, q459, rfl, rfl, rfl⟩ | ⟨q460, q461, q462, q463, rfl, rfl, rfl⟩ | ⟨q464, q465, q466, q467, rfl, rfl, rfl⟩ | ⟨q468, q469, q470, rfl, rfl, rfl⟩ | ⟨q471, rfl, rfl, rfl⟩)
    · skip
      show WGo _ (104, [wJ t1, wS, wJ t2, wS, wJ t3, wS, wJ s1, wS, wJ s2, wS, wI mode, wI 3, wJ s3, wS, wR 0, wR 1, wR 2, wR 3, wU, wU, wU, wU, wU, wU, wU], [], [(.inr (cn0, [(fk0, (.long t1)), (fk1, .null), (fk2, .null), (fk3, (.long s1))])), (.inr (cn0, [(fk0, (.long t2)), (fk1, .null), (fk2, .null), (fk3, (.long s2))])), (.inr (cn0, [(fk0, (.long t3)), (fk1, .null), (fk2, .null), (fk3, (.long s3))])), (.inr (cn1, [(fk4, .ref 4), (fk5, .int 3)])), (.inl ((.object "com/example/chronogate/chronogate/Event"), [.ref 1, .ref 0, .ref 2, .null, .null, .null, .null, .null]))], 22) _
      refine .s (.aconstNull a0_104) <| .s (.astore (L' := [wJ t1, wS, wJ t2, wS, wJ t3, wS, wJ s1, wS, wJ s2, wS, wI mode, wI 3, wJ s3, wS, wR 0, wR 1, wR 2, wR 3, wN, wU, wU, wU, wU, wU, wU]) a0_105 rfl rfl) <| .s (.lloadN a0_107 rfl) <| .s (.lstore (L' := [wJ t1, wS, wJ t2, wS, wJ t3, wS, wJ s1, wS, wJ s2, wS, wI mode, wI 3, wJ s3, wS, wR 0, wR 1, wR 2, wR 3, wN, wJ t1, wS, wU, wU, wU, wU]) a0_108 rfl) <| .s (.lload a0_110 rfl) <| .s (.lstore (L' := [wJ t1, wS, wJ t2, wS, wJ t3, wS, wJ s1, wS, wJ s2, wS, wI mode, wI 3, wJ s3, wS, wR 0, wR 1, wR 2, wR 3, wN, wJ t1, wS, wJ s1, wS, wU, wU]) a0_112 rfl) <| .s (.iload a0_114 rfl) ?_
      refine .s (.iconst (1 : Int32) a0_116 rfl) <| .s (.icmpF a0_117 (by decide)) <| .s (.aload a0_120 rfl rfl) <| .s (.astore (L' := [wJ t1, wS, wJ t2, wS, wJ t3, wS, wJ s1, wS, wJ s2, wS, wI mode, wI 3, wJ s3, wS, wR 0, wR 1, wR 2, wR 3, wR 0, wJ t1, wS, wJ s1, wS, wU, wU]) a0_122 rfl rfl) <| .s (.iload a0_124 rfl) <| .s (.iconst (2 : Int32) a0_126 rfl) <| .s (.icmpF a0_127 (by decide)) ?_
      refine .s (.lloadN a0_130 rfl) <| .s (.lload a0_131 rfl) <| .s (.lload a0_133 rfl) <| .s (.lload a0_135 rfl) ?_
      refine .callS a0_137 (ok8 hw _ _ _ _) (wd hw 46 rfl) (wd hw 47 rfl) (argsL := [(.long t2), (.long s2), (.long t1), (.long s1)]) (S := []) (au8_37 hw _ _ t1 t2 t3 s1 s2 s3 _) rfl rfl rfl rfl rfl rfl (Nat.le_of_ble_eq_true rfl) (Nat.le_of_ble_eq_true rfl) ?_
      rintro _ _ _ (⟨q472, q473, q474, rfl, rfl, rfl⟩ | ⟨q475, q476, q477, rfl, rfl, rfl⟩ | ⟨q478, q479, rfl, rfl, rfl⟩ | ⟨q480, rfl, rfl, rfl⟩)
      · exfalso
        simp only [Int32.lt_iff_toInt_lt, Int64.lt_iff_toInt_lt, ← Int32.toInt_inj, ← Int64.toInt_inj, Int32.reduceToInt, Int64.reduceToInt] at *
        omega
      · skip
        show WGo _ (140, [wJ t1, wS, wJ t2, wS, wJ t3, wS, wJ s1, wS, wJ s2, wS, wI mode, wI 3, wJ s3, wS, wR 0, wR 1, wR 2, wR 3, wR 0, wJ t1, wS, wJ s1, wS, wU, wU], [.int 1], [(.inr (cn0, [(fk0, (.long t1)), (fk1, .null), (fk2, .null), (fk3, (.long s1))])), (.inr (cn0, [(fk0, (.long t2)), (fk1, .null), (fk2, .null), (fk3, (.long s2))])), (.inr (cn0, [(fk0, (.long t3)), (fk1, .null), (fk2, .null), (fk3, (.long s3))])), (.inr (cn1, [(fk4, .ref 4), (fk5, .int 3)])), (.inl ((.object "com/example/chronogate/chronogate/Event"), [.ref 1, .ref 0, .ref 2, .null, .null, .null, .null, .null]))], 22) _
        refine .s (.ifF a0_140 (by decide)) <| .s (.aload a0_143 rfl rfl) <| .s (.astore (L' := [wJ t1, wS, wJ t2, wS, wJ t3, wS, wJ s1, wS, wJ s2, wS, wI mode, wI 3, wJ s3, wS, wR 0, wR 1, wR 2, wR 3, wR 1, wJ t1, wS, wJ s1, wS, wU, wU]) a0_145 rfl rfl) <| .s (.lloadN a0_147 rfl) <| .s (.lstore (L' := [wJ t1, wS, wJ t2, wS, wJ t3, wS, wJ s1, wS, wJ s2, wS, wI mode, wI 3, wJ s3, wS, wR 0, wR 1, wR 2, wR 3, wR 1, wJ t2, wS, wJ s1, wS, wU, wU]) a0_148 rfl) <| .s (.lload a0_150 rfl) <| .s (.lstore (L' := [wJ t1, wS, wJ t2, wS, wJ t3, wS, wJ s1, wS, wJ s2, wS, wI mode, wI 3, wJ s3, wS, wR 0, wR 1, wR 2, wR 3, wR 1, wJ t2, wS, wJ s2, wS, wU, wU]) a0_152 rfl) ?_
        refine .s (.iload a0_154 rfl) <| .s (.iconst (3 : Int32) a0_156 rfl) <| .s (.icmpF a0_157 (by decide)) <| .s (.lload a0_160 rfl) <| .s (.lload a0_162 rfl) <| .s (.lload a0_164 rfl) <| .s (.lload a0_166 rfl) ?_
        refine .callS a0_168 (ok8 hw _ _ _ _) (wd hw 46 rfl) (wd hw 47 rfl) (argsL := [(.long t3), (.long s3), (.long t2), (.long s2)]) (S := []) (au8_38 hw _ _ t1 t2 t3 s1 s2 s3 _) rfl rfl rfl rfl rfl rfl (Nat.le_of_ble_eq_true rfl) (Nat.le_of_ble_eq_true rfl) ?_
        rintro _ _ _ (⟨q481, q482, q483, rfl, rfl, rfl⟩ | ⟨q484, q485, q486, rfl, rfl, rfl⟩ | ⟨q487, q488, rfl, rfl, rfl⟩ | ⟨q489, rfl, rfl, rfl⟩)
        · exfalso
          simp only [Int32.lt_iff_toInt_lt, Int64.lt_iff_toInt_lt, ← Int32.toInt_inj, ← Int64.toInt_inj, Int32.reduceToInt, Int64.reduceToInt] at *
          omega
        · exfalso
          simp only [Int32.lt_iff_toInt_lt, Int64.lt_iff_toInt_lt, ← Int32.toInt_inj, ← Int64.toInt_inj, Int32.reduceToInt, Int64.reduceToInt] at *
          omega
        · skip
          show WGo _ (171, [wJ t1, wS, wJ t2, wS, wJ t3, wS, wJ s1, wS, wJ s2, wS, wI mode, wI 3, wJ s3, wS, wR 0, wR 1, wR 2, wR 3, wR 1, wJ t2, wS, wJ s2, wS, wU, wU], [.int 0], [(.inr (cn0, [(fk0, (.long t1)), (fk1, .null), (fk2, .null), (fk3, (.long s1))])), (.inr (cn0, [(fk0, (.long t2)), (fk1, .null), (fk2, .null), (fk3, (.long s2))])), (.inr (cn0, [(fk0, (.long t3)), (fk1, .null), (fk2, .null), (fk3, (.long s3))])), (.inr (cn1, [(fk4, .ref 4), (fk5, .int 3)])), (.inl ((.object "com/example/chronogate/chronogate/Event"), [.ref 1, .ref 0, .ref 2, .null, .null, .null, .null, .null]))], 22) _
          refine .s (.ifT a0_171 (by decide)) <| .s (.aload a0_178 rfl rfl) ?_
          refine .callV (k := 3) (z := (⟨"com/example/chronogate/chronogate/ReleaseQueue", "peek", "()Lcom/example/chronogate/chronogate/Event;"⟩ : MethodName)) a0_180 (ok9 hw _ _ _ _) ⟨rfl, by decide⟩ (wd hw 50 rfl) (wd hw 51 rfl) (fun s hZ => notFace_of_selects (args := #[]) (mvT hZ (wd hw 53 rfl))) (wd hw 53 rfl) (wd hw 52 rfl) rfl (argsL := []) (S := []) (au9_39 hw _ _ t1 t2 t3 s1 s2 s3 _) rfl rfl rfl rfl rfl rfl (Nat.le_of_ble_eq_true rfl) (Nat.le_of_ble_eq_true rfl) ?_
          rintro _ _ _ ⟨rfl, rfl, rfl⟩
          show WGo _ (183, [wJ t1, wS, wJ t2, wS, wJ t3, wS, wJ s1, wS, wJ s2, wS, wI mode, wI 3, wJ s3, wS, wR 0, wR 1, wR 2, wR 3, wR 1, wJ t2, wS, wJ s2, wS, wU, wU], [.ref 1], [(.inr (cn0, [(fk0, (.long t1)), (fk1, .null), (fk2, .null), (fk3, (.long s1))])), (.inr (cn0, [(fk0, (.long t2)), (fk1, .null), (fk2, .null), (fk3, (.long s2))])), (.inr (cn0, [(fk0, (.long t3)), (fk1, .null), (fk2, .null), (fk3, (.long s3))])), (.inr (cn1, [(fk4, .ref 4), (fk5, .int 3)])), (.inl ((.object "com/example/chronogate/chronogate/Event"), [.ref 1, .ref 0, .ref 2, .null, .null, .null, .null, .null]))], 22) _
          refine .s (.astore (L' := [wJ t1, wS, wJ t2, wS, wJ t3, wS, wJ s1, wS, wJ s2, wS, wI mode, wI 3, wJ s3, wS, wR 0, wR 1, wR 2, wR 3, wR 1, wJ t2, wS, wJ s2, wS, wR 1, wU]) a0_183 rfl rfl) <| .s (.aload a0_185 rfl rfl) ?_
          refine .callV (k := 3) (z := (⟨"com/example/chronogate/chronogate/ReleaseQueue", "peek", "()Lcom/example/chronogate/chronogate/Event;"⟩ : MethodName)) a0_187 (ok9 hw _ _ _ _) ⟨rfl, by decide⟩ (wd hw 50 rfl) (wd hw 51 rfl) (fun s hZ => notFace_of_selects (args := #[]) (mvT hZ (wd hw 53 rfl))) (wd hw 53 rfl) (wd hw 52 rfl) rfl (argsL := []) (S := []) (au9_39 hw _ _ t1 t2 t3 s1 s2 s3 _) rfl rfl rfl rfl rfl rfl (Nat.le_of_ble_eq_true rfl) (Nat.le_of_ble_eq_true rfl) ?_
          rintro _ _ _ ⟨rfl, rfl, rfl⟩
          show WGo _ (190, [wJ t1, wS, wJ t2, wS, wJ t3, wS, wJ s1, wS, wJ s2, wS, wI mode, wI 3, wJ s3, wS, wR 0, wR 1, wR 2, wR 3, wR 1, wJ t2, wS, wJ s2, wS, wR 1, wU], [.ref 1], [(.inr (cn0, [(fk0, (.long t1)), (fk1, .null), (fk2, .null), (fk3, (.long s1))])), (.inr (cn0, [(fk0, (.long t2)), (fk1, .null), (fk2, .null), (fk3, (.long s2))])), (.inr (cn0, [(fk0, (.long t3)), (fk1, .null), (fk2, .null), (fk3, (.long s3))])), (.inr (cn1, [(fk4, .ref 4), (fk5, .int 3)])), (.inl ((.object "com/example/chronogate/chronogate/Event"), [.ref 1, .ref 0, .ref 2, .null, .null, .null, .null, .null]))], 22) _
          refine .s (.astore (L' := [wJ t1, wS, wJ t2, wS, wJ t3, wS, wJ s1, wS, wJ s2, wS, wI mode, wI 3, wJ s3, wS, wR 0, wR 1, wR 2, wR 3, wR 1, wJ t2, wS, wJ s2, wS, wR 1, wR 1]) a0_190 rfl rfl) <| .s (.aload a0_192 rfl rfl) <| .s (.aload a0_194 rfl rfl) <| .s (.acmp true 199 a0_196 rfl rfl (by decide) rfl) <| .s (.aload a0_199 rfl rfl) <| .s (.aload a0_201 rfl rfl) <| .s (.acmp true 206 a0_203 rfl rfl (by decide) rfl) ?_
          refine .s (.aload a0_206 rfl rfl) ?_
          refine .callV (k := 3) (z := (⟨"com/example/chronogate/chronogate/ReleaseQueue", "size", "()I"⟩ : MethodName)) a0_208 (ok10 hw _ _ _ _) ⟨rfl, by decide⟩ (wd hw 55 rfl) (wd hw 56 rfl) (fun s hZ => notFace_of_selects (args := #[]) (mvT hZ (wd hw 58 rfl))) (wd hw 58 rfl) (wd hw 57 rfl) rfl (argsL := []) (S := []) (au10_40 hw _ _ t1 t2 t3 s1 s2 s3 _) rfl rfl rfl rfl rfl rfl (Nat.le_of_ble_eq_true rfl) (Nat.le_of_ble_eq_true rfl) ?_
          rintro _ _ _ ⟨rfl, rfl, rfl⟩
          show WGo _ (211, [wJ t1, wS, wJ t2, wS, wJ t3, wS, wJ s1, wS, wJ s2, wS, wI mode, wI 3, wJ s3, wS, wR 0, wR 1, wR 2, wR 3, wR 1, wJ t2, wS, wJ s2, wS, wR 1, wR 1], [.int 3], [(.inr (cn0, [(fk0, (.long t1)), (fk1, .null), (fk2, .null), (fk3, (.long s1))])), (.inr (cn0, [(fk0, (.long t2)), (fk1, .null), (fk2, .null), (fk3, (.long s2))])), (.inr (cn0, [(fk0, (.long t3)), (fk1, .null), (fk2, .null), (fk3, (.long s3))])), (.inr (cn1, [(fk4, .ref 4), (fk5, .int 3)])), (.inl ((.object "com/example/chronogate/chronogate/Event"), [.ref 1, .ref 0, .ref 2, .null, .null, .null, .null, .null]))], 22) _
          refine .s (.iload a0_211 rfl) <| .s (.icmpF a0_213 (by decide)) <| .s (.iconst (1 : Int32) a0_216 rfl) <| .s (.goto a0_217) ?_
          refine .ireturn .boolean a0_221 rfl (by simp) ?_
          exact ⟨rfl, Nat.le_of_ble_eq_true rfl, Nat.le_of_ble_eq_true rfl⟩
        · exfalso
          simp only [Int32.lt_iff_toInt_lt, Int64.lt_iff_toInt_lt, ← Int32.toInt_inj, ← Int64.toInt_inj, Int32.reduceToInt, Int64.reduceToInt] at *
          omega
      · exfalso
        simp only [Int32.lt_iff_toInt_lt, Int64.lt_iff_toInt_lt, ← Int32.toInt_inj, ← Int64.toInt_inj, Int32.reduceToInt, Int64.reduceToInt] at *
        omega
      · exfalso
        simp only [Int32.lt_iff_toInt_lt, Int64.lt_iff_toInt_lt, ← Int32.toInt_inj, ← Int64.toInt_inj, Int32.reduceToInt, Int64.reduceToInt] at *
        omega
    · skip
      show WGo _ (104, [wJ t1, wS, wJ t2, wS, wJ t3, wS, wJ s1, wS, wJ s2, wS, wI mode, wI 3, wJ s3, wS, wR 0, wR 1, wR 2, wR 3, wU, wU, wU, wU, wU, wU, wU], [], [(.inr (cn0, [(fk0, (.long t1)), (fk1, .null), (fk2, .null), (fk3, (.long s1))])), (.inr (cn0, [(fk0, (.long t2)), (fk1, .null), (fk2, .null), (fk3, (.long s2))])), (.inr (cn0, [(fk0, (.long t3)), (fk1, .null), (fk2, .null), (fk3, (.long s3))])), (.inr (cn1, [(fk4, .ref 4), (fk5, .int 3)])), (.inl ((.object "com/example/chronogate/chronogate/Event"), [.ref 1, .ref 0, .ref 2, .null, .null, .null, .null, .null]))], 22) _
      refine .s (.aconstNull a0_104) <| .s (.astore (L' := [wJ t1, wS, wJ t2, wS, wJ t3, wS, wJ s1, wS, wJ s2, wS, wI mode, wI 3, wJ s3, wS, wR 0, wR 1, wR 2, wR 3, wN, wU, wU, wU, wU, wU, wU]) a0_105 rfl rfl) <| .s (.lloadN a0_107 rfl) <| .s (.lstore (L' := [wJ t1, wS, wJ t2, wS, wJ t3, wS, wJ s1, wS, wJ s2, wS, wI mode, wI 3, wJ s3, wS, wR 0, wR 1, wR 2, wR 3, wN, wJ t1, wS, wU, wU, wU, wU]) a0_108 rfl) <| .s (.lload a0_110 rfl) <| .s (.lstore (L' := [wJ t1, wS, wJ t2, wS, wJ t3, wS, wJ s1, wS, wJ s2, wS, wI mode, wI 3, wJ s3, wS, wR 0, wR 1, wR 2, wR 3, wN, wJ t1, wS, wJ s1, wS, wU, wU]) a0_112 rfl) <| .s (.iload a0_114 rfl) ?_
      refine .s (.iconst (1 : Int32) a0_116 rfl) <| .s (.icmpF a0_117 (by decide)) <| .s (.aload a0_120 rfl rfl) <| .s (.astore (L' := [wJ t1, wS, wJ t2, wS, wJ t3, wS, wJ s1, wS, wJ s2, wS, wI mode, wI 3, wJ s3, wS, wR 0, wR 1, wR 2, wR 3, wR 0, wJ t1, wS, wJ s1, wS, wU, wU]) a0_122 rfl rfl) <| .s (.iload a0_124 rfl) <| .s (.iconst (2 : Int32) a0_126 rfl) <| .s (.icmpF a0_127 (by decide)) ?_
      refine .s (.lloadN a0_130 rfl) <| .s (.lload a0_131 rfl) <| .s (.lload a0_133 rfl) <| .s (.lload a0_135 rfl) ?_
      refine .callS a0_137 (ok8 hw _ _ _ _) (wd hw 46 rfl) (wd hw 47 rfl) (argsL := [(.long t2), (.long s2), (.long t1), (.long s1)]) (S := []) (au8_37 hw _ _ t1 t2 t3 s1 s2 s3 _) rfl rfl rfl rfl rfl rfl (Nat.le_of_ble_eq_true rfl) (Nat.le_of_ble_eq_true rfl) ?_
      rintro _ _ _ (⟨q490, q491, q492, rfl, rfl, rfl⟩ | ⟨q493, q494, q495, rfl, rfl, rfl⟩ | ⟨q496, q497, rfl, rfl, rfl⟩ | ⟨q498, rfl, rfl, rfl⟩)
      · exfalso
        simp only [Int32.lt_iff_toInt_lt, Int64.lt_iff_toInt_lt, ← Int32.toInt_inj, ← Int64.toInt_inj, Int32.reduceToInt, Int64.reduceToInt] at *
        omega
      · skip
        show WGo _ (140, [wJ t1, wS, wJ t2, wS, wJ t3, wS, wJ s1, wS, wJ s2, wS, wI mode, wI 3, wJ s3, wS, wR 0, wR 1, wR 2, wR 3, wR 0, wJ t1, wS, wJ s1, wS, wU, wU], [.int 1], [(.inr (cn0, [(fk0, (.long t1)), (fk1, .null), (fk2, .null), (fk3, (.long s1))])), (.inr (cn0, [(fk0, (.long t2)), (fk1, .null), (fk2, .null), (fk3, (.long s2))])), (.inr (cn0, [(fk0, (.long t3)), (fk1, .null), (fk2, .null), (fk3, (.long s3))])), (.inr (cn1, [(fk4, .ref 4), (fk5, .int 3)])), (.inl ((.object "com/example/chronogate/chronogate/Event"), [.ref 1, .ref 0, .ref 2, .null, .null, .null, .null, .null]))], 22) _
        refine .s (.ifF a0_140 (by decide)) <| .s (.aload a0_143 rfl rfl) <| .s (.astore (L' := [wJ t1, wS, wJ t2, wS, wJ t3, wS, wJ s1, wS, wJ s2, wS, wI mode, wI 3, wJ s3, wS, wR 0, wR 1, wR 2, wR 3, wR 1, wJ t1, wS, wJ s1, wS, wU, wU]) a0_145 rfl rfl) <| .s (.lloadN a0_147 rfl) <| .s (.lstore (L' := [wJ t1, wS, wJ t2, wS, wJ t3, wS, wJ s1, wS, wJ s2, wS, wI mode, wI 3, wJ s3, wS, wR 0, wR 1, wR 2, wR 3, wR 1, wJ t2, wS, wJ s1, wS, wU, wU]) a0_148 rfl) <| .s (.lload a0_150 rfl) <| .s (.lstore (L' := [wJ t1, wS, wJ t2, wS, wJ t3, wS, wJ s1, wS, wJ s2, wS, wI mode, wI 3, wJ s3, wS, wR 0, wR 1, wR 2, wR 3, wR 1, wJ t2, wS, wJ s2, wS, wU, wU]) a0_152 rfl) ?_
        refine .s (.iload a0_154 rfl) <| .s (.iconst (3 : Int32) a0_156 rfl) <| .s (.icmpF a0_157 (by decide)) <| .s (.lload a0_160 rfl) <| .s (.lload a0_162 rfl) <| .s (.lload a0_164 rfl) <| .s (.lload a0_166 rfl) ?_
        refine .callS a0_168 (ok8 hw _ _ _ _) (wd hw 46 rfl) (wd hw 47 rfl) (argsL := [(.long t3), (.long s3), (.long t2), (.long s2)]) (S := []) (au8_38 hw _ _ t1 t2 t3 s1 s2 s3 _) rfl rfl rfl rfl rfl rfl (Nat.le_of_ble_eq_true rfl) (Nat.le_of_ble_eq_true rfl) ?_
        rintro _ _ _ (⟨q499, q500, q501, rfl, rfl, rfl⟩ | ⟨q502, q503, q504, rfl, rfl, rfl⟩ | ⟨q505, q506, rfl, rfl, rfl⟩ | ⟨q507, rfl, rfl, rfl⟩)
        · skip
          show WGo _ (171, [wJ t1, wS, wJ t2, wS, wJ t3, wS, wJ s1, wS, wJ s2, wS, wI mode, wI 3, wJ s3, wS, wR 0, wR 1, wR 2, wR 3, wR 1, wJ t2, wS, wJ s2, wS, wU, wU], [.int 0], [(.inr (cn0, [(fk0, (.long t1)), (fk1, .null), (fk2, .null), (fk3, (.long s1))])), (.inr (cn0, [(fk0, (.long t2)), (fk1, .null), (fk2, .null), (fk3, (.long s2))])), (.inr (cn0, [(fk0, (.long t3)), (fk1, .null), (fk2, .null), (fk3, (.long s3))])), (.inr (cn1, [(fk4, .ref 4), (fk5, .int 3)])), (.inl ((.object "com/example/chronogate/chronogate/Event"), [.ref 1, .ref 0, .ref 2, .null, .null, .null, .null, .null]))], 22) _
          refine .s (.ifT a0_171 (by decide)) <| .s (.aload a0_178 rfl rfl) ?_
          refine .callV (k := 3) (z := (⟨"com/example/chronogate/chronogate/ReleaseQueue", "peek", "()Lcom/example/chronogate/chronogate/Event;"⟩ : MethodName)) a0_180 (ok9 hw _ _ _ _) ⟨rfl, by decide⟩ (wd hw 50 rfl) (wd hw 51 rfl) (fun s hZ => notFace_of_selects (args := #[]) (mvT hZ (wd hw 53 rfl))) (wd hw 53 rfl) (wd hw 52 rfl) rfl (argsL := []) (S := []) (au9_39 hw _ _ t1 t2 t3 s1 s2 s3 _) rfl rfl rfl rfl rfl rfl (Nat.le_of_ble_eq_true rfl) (Nat.le_of_ble_eq_true rfl) ?_
          rintro _ _ _ ⟨rfl, rfl, rfl⟩
          show WGo _ (183, [wJ t1, wS, wJ t2, wS, wJ t3, wS, wJ s1, wS, wJ s2, wS, wI mode, wI 3, wJ s3, wS, wR 0, wR 1, wR 2, wR 3, wR 1, wJ t2, wS, wJ s2, wS, wU, wU], [.ref 1], [(.inr (cn0, [(fk0, (.long t1)), (fk1, .null), (fk2, .null), (fk3, (.long s1))])), (.inr (cn0, [(fk0, (.long t2)), (fk1, .null), (fk2, .null), (fk3, (.long s2))])), (.inr (cn0, [(fk0, (.long t3)), (fk1, .null), (fk2, .null), (fk3, (.long s3))])), (.inr (cn1, [(fk4, .ref 4), (fk5, .int 3)])), (.inl ((.object "com/example/chronogate/chronogate/Event"), [.ref 1, .ref 0, .ref 2, .null, .null, .null, .null, .null]))], 22) _
          refine .s (.astore (L' := [wJ t1, wS, wJ t2, wS, wJ t3, wS, wJ s1, wS, wJ s2, wS, wI mode, wI 3, wJ s3, wS, wR 0, wR 1, wR 2, wR 3, wR 1, wJ t2, wS, wJ s2, wS, wR 1, wU]) a0_183 rfl rfl) <| .s (.aload a0_185 rfl rfl) ?_
          refine .callV (k := 3) (z := (⟨"com/example/chronogate/chronogate/ReleaseQueue", "peek", "()Lcom/example/chronogate/chronogate/Event;"⟩ : MethodName)) a0_187 (ok9 hw _ _ _ _) ⟨rfl, by decide⟩ (wd hw 50 rfl) (wd hw 51 rfl) (fun s hZ => notFace_of_selects (args := #[]) (mvT hZ (wd hw 53 rfl))) (wd hw 53 rfl) (wd hw 52 rfl) rfl (argsL := []) (S := []) (au9_39 hw _ _ t1 t2 t3 s1 s2 s3 _) rfl rfl rfl rfl rfl rfl (Nat.le_of_ble_eq_true rfl) (Nat.le_of_ble_eq_true rfl) ?_
          rintro _ _ _ ⟨rfl, rfl, rfl⟩
          show WGo _ (190, [wJ t1, wS, wJ t2, wS, wJ t3, wS, wJ s1, wS, wJ s2, wS, wI mode, wI 3, wJ s3, wS, wR 0, wR 1, wR 2, wR 3, wR 1, wJ t2, wS, wJ s2, wS, wR 1, wU], [.ref 1], [(.inr (cn0, [(fk0, (.long t1)), (fk1, .null), (fk2, .null), (fk3, (.long s1))])), (.inr (cn0, [(fk0, (.long t2)), (fk1, .null), (fk2, .null), (fk3, (.long s2))])), (.inr (cn0, [(fk0, (.long t3)), (fk1, .null), (fk2, .null), (fk3, (.long s3))])), (.inr (cn1, [(fk4, .ref 4), (fk5, .int 3)])), (.inl ((.object "com/example/chronogate/chronogate/Event"), [.ref 1, .ref 0, .ref 2, .null, .null, .null, .null, .null]))], 22) _
          refine .s (.astore (L' := [wJ t1, wS, wJ t2, wS, wJ t3, wS, wJ s1, wS, wJ s2, wS, wI mode, wI 3, wJ s3, wS, wR 0, wR 1, wR 2, wR 3, wR 1, wJ t2, wS, wJ s2, wS, wR 1, wR 1]) a0_190 rfl rfl) <| .s (.aload a0_192 rfl rfl) <| .s (.aload a0_194 rfl rfl) <| .s (.acmp true 199 a0_196 rfl rfl (by decide) rfl) <| .s (.aload a0_199 rfl rfl) <| .s (.aload a0_201 rfl rfl) <| .s (.acmp true 206 a0_203 rfl rfl (by decide) rfl) ?_
          refine .s (.aload a0_206 rfl rfl) ?_
          refine .callV (k := 3) (z := (⟨"com/example/chronogate/chronogate/ReleaseQueue", "size", "()I"⟩ : MethodName)) a0_208 (ok10 hw _ _ _ _) ⟨rfl, by decide⟩ (wd hw 55 rfl) (wd hw 56 rfl) (fun s hZ => notFace_of_selects (args := #[]) (mvT hZ (wd hw 58 rfl))) (wd hw 58 rfl) (wd hw 57 rfl) rfl (argsL := []) (S := []) (au10_40 hw _ _ t1 t2 t3 s1 s2 s3 _) rfl rfl rfl rfl rfl rfl (Nat.le_of_ble_eq_true rfl) (Nat.le_of_ble_eq_true rfl) ?_
          rintro _ _ _ ⟨rfl, rfl, rfl⟩
          show WGo _ (211, [wJ t1, wS, wJ t2, wS, wJ t3, wS, wJ s1, wS, wJ s2, wS, wI mode, wI 3, wJ s3, wS, wR 0, wR 1, wR 2, wR 3, wR 1, wJ t2, wS, wJ s2, wS, wR 1, wR 1], [.int 3], [(.inr (cn0, [(fk0, (.long t1)), (fk1, .null), (fk2, .null), (fk3, (.long s1))])), (.inr (cn0, [(fk0, (.long t2)), (fk1, .null), (fk2, .null), (fk3, (.long s2))])), (.inr (cn0, [(fk0, (.long t3)), (fk1, .null), (fk2, .null), (fk3, (.long s3))])), (.inr (cn1, [(fk4, .ref 4), (fk5, .int 3)])), (.inl ((.object "com/example/chronogate/chronogate/Event"), [.ref 1, .ref 0, .ref 2, .null, .null, .null, .null, .null]))], 22) _
          refine .s (.iload a0_211 rfl) <| .s (.icmpF a0_213 (by decide)) <| .s (.iconst (1 : Int32) a0_216 rfl) <| .s (.goto a0_217) ?_
          refine .ireturn .boolean a0_221 rfl (by simp) ?_
          exact ⟨rfl, Nat.le_of_ble_eq_true rfl, Nat.le_of_ble_eq_true rfl⟩
        · exfalso
          simp only [Int32.lt_iff_toInt_lt, Int64.lt_iff_toInt_lt, ← Int32.toInt_inj, ← Int64.toInt_inj, Int32.reduceToInt, Int64.reduceToInt] at *
          omega
        · exfalso
          simp only [Int32.lt_iff_toInt_lt, Int64.lt_iff_toInt_lt, ← Int32.toInt_inj, ← Int64.toInt_inj, Int32.reduceToInt, Int64.reduceToInt] at *
          omega
        · exfalso
          simp only [Int32.lt_iff_toInt_lt, Int64.lt_iff_toInt_lt, ← Int32.toInt_inj, ← Int64.toInt_inj, Int32.reduceToInt, Int64.reduceToInt] at *
          omega
      · exfalso
        simp only [Int32.lt_iff_toInt_lt, Int64.lt_iff_toInt_lt, ← Int32.toInt_inj, ← Int64.toInt_inj, Int32.reduceToInt, Int64.reduceToInt] at *
        omega
      · exfalso
        simp only [Int32.lt_iff_toInt_lt, Int64.lt_iff_toInt_lt, ← Int32.toInt_inj, ← Int64.toInt_inj, Int32.reduceToInt, Int64.reduceToInt] at *
        omega
    · skip
      show WGo _ (104, [wJ t1, wS, wJ t2, wS, wJ t3, wS, wJ s1, wS, wJ s2, wS, wI mode, wI 3, wJ s3, wS, wR 0, wR 1, wR 2, wR 3, wU, wU, wU, wU, wU, wU, wU], [], [(.inr (cn0, [(fk0, (.long t1)), (fk1, .null), (fk2, .null), (fk3, (.long s1))])), (.inr (cn0, [(fk0, (.long t2)), (fk1, .null), (fk2, .null), (fk3, (.long s2))])), (.inr (cn0, [(fk0, (.long t3)), (fk1, .null), (fk2, .null), (fk3, (.long s3))])), (.inr (cn1, [(fk4, .ref 4), (fk5, .int 3)])), (.inl ((.object "com/example/chronogate/chronogate/Event"), [.ref 1, .ref 0, .ref 2, .null, .null, .null, .null, .null]))], 22) _
      refine .s (.aconstNull a0_104) <| .s (.astore (L' := [wJ t1, wS, wJ t2, wS, wJ t3, wS, wJ s1, wS, wJ s2, wS, wI mode, wI 3, wJ s3, wS, wR 0, wR 1, wR 2, wR 3, wN, wU, wU, wU, wU, wU, wU]) a0_105 rfl rfl) <| .s (.lloadN a0_107 rfl) <| .s (.lstore (L' := [wJ t1, wS, wJ t2, wS, wJ t3, wS, wJ s1, wS, wJ s2, wS, wI mode, wI 3, wJ s3, wS, wR 0, wR 1, wR 2, wR 3, wN, wJ t1, wS, wU, wU, wU, wU]) a0_108 rfl) <| .s (.lload a0_110 rfl) <| .s (.lstore (L' := [wJ t1, wS, wJ t2, wS, wJ t3, wS, wJ s1, wS, wJ s2, wS, wI mode, wI 3, wJ s3, wS, wR 0, wR 1, wR 2, wR 3, wN, wJ t1, wS, wJ s1, wS, wU, wU]) a0_112 rfl) <| .s (.iload a0_114 rfl) ?_
      refine .s (.iconst (1 : Int32) a0_116 rfl) <| .s (.icmpF a0_117 (by decide)) <| .s (.aload a0_120 rfl rfl) <| .s (.astore (L' := [wJ t1, wS, wJ t2, wS, wJ t3, wS, wJ s1, wS, wJ s2, wS, wI mode, wI 3, wJ s3, wS, wR 0, wR 1, wR 2, wR 3, wR 0, wJ t1, wS, wJ s1, wS, wU, wU]) a0_122 rfl rfl) <| .s (.iload a0_124 rfl) <| .s (.iconst (2 : Int32) a0_126 rfl) <| .s (.icmpF a0_127 (by decide)) ?_
      refine .s (.lloadN a0_130 rfl) <| .s (.lload a0_131 rfl) <| .s (.lload a0_133 rfl) <| .s (.lload a0_135 rfl) ?_
      refine .callS a0_137 (ok8 hw _ _ _ _) (wd hw 46 rfl) (wd hw 47 rfl) (argsL := [(.long t2), (.long s2), (.long t1), (.long s1)]) (S := []) (au8_37 hw _ _ t1 t2 t3 s1 s2 s3 _) rfl rfl rfl rfl rfl rfl (Nat.le_of_ble_eq_true rfl) (Nat.le_of_ble_eq_true rfl) ?_
      rintro _ _ _ (⟨q508, q509, q510, rfl, rfl, rfl⟩ | ⟨q511, q512, q513, rfl, rfl, rfl⟩ | ⟨q514, q515, rfl, rfl, rfl⟩ | ⟨q516, rfl, rfl, rfl⟩)
      · exfalso
        simp only [Int32.lt_iff_toInt_lt, Int64.lt_iff_toInt_lt, ← Int32.toInt_inj, ← Int64.toInt_inj, Int32.reduceToInt, Int64.reduceToInt] at *
        omega
      · skip
        show WGo _ (140, [wJ t1, wS, wJ t2, wS, wJ t3, wS, wJ s1, wS, wJ s2, wS, wI mode, wI 3, wJ s3, wS, wR 0, wR 1, wR 2, wR 3, wR 0, wJ t1, wS, wJ s1, wS, wU, wU], [.int 1], [(.inr (cn0, [(fk0, (.long t1)), (fk1, .null), (fk2, .null), (fk3, (.long s1))])), (.inr (cn0, [(fk0, (.long t2)), (fk1, .null), (fk2, .null), (fk3, (.long s2))])), (.inr (cn0, [(fk0, (.long t3)), (fk1, .null), (fk2, .null), (fk3, (.long s3))])), (.inr (cn1, [(fk4, .ref 4), (fk5, .int 3)])), (.inl ((.object "com/example/chronogate/chronogate/Event"), [.ref 1, .ref 0, .ref 2, .null, .null, .null, .null, .null]))], 22) _
        refine .s (.ifF a0_140 (by decide)) <| .s (.aload a0_143 rfl rfl) <| .s (.astore (L' := [wJ t1, wS, wJ t2, wS, wJ t3, wS, wJ s1, wS, wJ s2, wS, wI mode, wI 3, wJ s3, wS, wR 0, wR 1, wR 2, wR 3, wR 1, wJ t1, wS, wJ s1, wS, wU, wU]) a0_145 rfl rfl) <| .s (.lloadN a0_147 rfl) <| .s (.lstore (L' := [wJ t1, wS, wJ t2, wS, wJ t3, wS, wJ s1, wS, wJ s2, wS, wI mode, wI 3, wJ s3, wS, wR 0, wR 1, wR 2, wR 3, wR 1, wJ t2, wS, wJ s1, wS, wU, wU]) a0_148 rfl) <| .s (.lload a0_150 rfl) <| .s (.lstore (L' := [wJ t1, wS, wJ t2, wS, wJ t3, wS, wJ s1, wS, wJ s2, wS, wI mode, wI 3, wJ s3, wS, wR 0, wR 1, wR 2, wR 3, wR 1, wJ t2, wS, wJ s2, wS, wU, wU]) a0_152 rfl) ?_
        refine .s (.iload a0_154 rfl) <| .s (.iconst (3 : Int32) a0_156 rfl) <| .s (.icmpF a0_157 (by decide)) <| .s (.lload a0_160 rfl) <| .s (.lload a0_162 rfl) <| .s (.lload a0_164 rfl) <| .s (.lload a0_166 rfl) ?_
        refine .callS a0_168 (ok8 hw _ _ _ _) (wd hw 46 rfl) (wd hw 47 rfl) (argsL := [(.long t3), (.long s3), (.long t2), (.long s2)]) (S := []) (au8_38 hw _ _ t1 t2 t3 s1 s2 s3 _) rfl rfl rfl rfl rfl rfl (Nat.le_of_ble_eq_true rfl) (Nat.le_of_ble_eq_true rfl) ?_
        rintro _ _ _ (⟨q517, q518, q519, rfl, rfl, rfl⟩ | ⟨q520, q521, q522, rfl, rfl, rfl⟩ | ⟨q523, q524, rfl, rfl, rfl⟩ | ⟨q525, rfl, rfl, rfl⟩)
        · skip
          show WGo _ (171, [wJ t1, wS, wJ t2, wS, wJ t3, wS, wJ s1, wS, wJ s2, wS, wI mode, wI 3, wJ s3, wS, wR 0, wR 1, wR 2, wR 3, wR 1, wJ t2, wS, wJ s2, wS, wU, wU], [.int 0], [(.inr (cn0, [(fk0, (.long t1)), (fk1, .null), (fk2, .null), (fk3, (.long s1))])), (.inr (cn0, [(fk0, (.long t2)), (fk1, .null), (fk2, .null), (fk3, (.long s2))])), (.inr (cn0, [(fk0, (.long t3)), (fk1, .null), (fk2, .null), (fk3, (.long s3))])), (.inr (cn1, [(fk4, .ref 4), (fk5, .int 3)])), (.inl ((.object "com/example/chronogate/chronogate/Event"), [.ref 1, .ref 0, .ref 2, .null, .null, .null, .null, .null]))], 22) _
          refine .s (.ifT a0_171 (by decide)) <| .s (.aload a0_178 rfl rfl) ?_
          refine .callV (k := 3) (z := (⟨"com/example/chronogate/chronogate/ReleaseQueue", "peek", "()Lcom/example/chronogate/chronogate/Event;"⟩ : MethodName)) a0_180 (ok9 hw _ _ _ _) ⟨rfl, by decide⟩ (wd hw 50 rfl) (wd hw 51 rfl) (fun s hZ => notFace_of_selects (args := #[]) (mvT hZ (wd hw 53 rfl))) (wd hw 53 rfl) (wd hw 52 rfl) rfl (argsL := []) (S := []) (au9_39 hw _ _ t1 t2 t3 s1 s2 s3 _) rfl rfl rfl rfl rfl rfl (Nat.le_of_ble_eq_true rfl) (Nat.le_of_ble_eq_true rfl) ?_
          rintro _ _ _ ⟨rfl, rfl, rfl⟩
          show WGo _ (183, [wJ t1, wS, wJ t2, wS, wJ t3, wS, wJ s1, wS, wJ s2, wS, wI mode, wI 3, wJ s3, wS, wR 0, wR 1, wR 2, wR 3, wR 1, wJ t2, wS, wJ s2, wS, wU, wU], [.ref 1], [(.inr (cn0, [(fk0, (.long t1)), (fk1, .null), (fk2, .null), (fk3, (.long s1))])), (.inr (cn0, [(fk0, (.long t2)), (fk1, .null), (fk2, .null), (fk3, (.long s2))])), (.inr (cn0, [(fk0, (.long t3)), (fk1, .null), (fk2, .null), (fk3, (.long s3))])), (.inr (cn1, [(fk4, .ref 4), (fk5, .int 3)])), (.inl ((.object "com/example/chronogate/chronogate/Event"), [.ref 1, .ref 0, .ref 2, .null, .null, .null, .null, .null]))], 22) _
          refine .s (.astore (L' := [wJ t1, wS, wJ t2, wS, wJ t3, wS, wJ s1, wS, wJ s2, wS, wI mode, wI 3, wJ s3, wS, wR 0, wR 1, wR 2, wR 3, wR 1, wJ t2, wS, wJ s2, wS, wR 1, wU]) a0_183 rfl rfl) <| .s (.aload a0_185 rfl rfl) ?_
          refine .callV (k := 3) (z := (⟨"com/example/chronogate/chronogate/ReleaseQueue", "peek", "()Lcom/example/chronogate/chronogate/Event;"⟩ : MethodName)) a0_187 (ok9 hw _ _ _ _) ⟨rfl, by decide⟩ (wd hw 50 rfl) (wd hw 51 rfl) (fun s hZ => notFace_of_selects (args := #[]) (mvT hZ (wd hw 53 rfl))) (wd hw 53 rfl) (wd hw 52 rfl) rfl (argsL := []) (S := []) (au9_39 hw _ _ t1 t2 t3 s1 s2 s3 _) rfl rfl rfl rfl rfl rfl (Nat.le_of_ble_eq_true rfl) (Nat.le_of_ble_eq_true rfl) ?_
          rintro _ _ _ ⟨rfl, rfl, rfl⟩
          show WGo _ (190, [wJ t1, wS, wJ t2, wS, wJ t3, wS, wJ s1, wS, wJ s2, wS, wI mode, wI 3, wJ s3, wS, wR 0, wR 1, wR 2, wR 3, wR 1, wJ t2, wS, wJ s2, wS, wR 1, wU], [.ref 1], [(.inr (cn0, [(fk0, (.long t1)), (fk1, .null), (fk2, .null), (fk3, (.long s1))])), (.inr (cn0, [(fk0, (.long t2)), (fk1, .null), (fk2, .null), (fk3, (.long s2))])), (.inr (cn0, [(fk0, (.long t3)), (fk1, .null), (fk2, .null), (fk3, (.long s3))])), (.inr (cn1, [(fk4, .ref 4), (fk5, .int 3)])), (.inl ((.object "com/example/chronogate/chronogate/Event"), [.ref 1, .ref 0, .ref 2, .null, .null, .null, .null, .null]))], 22) _
          refine .s (.astore (L' := [wJ t1, wS, wJ t2, wS, wJ t3, wS, wJ s1, wS, wJ s2, wS, wI mode, wI 3, wJ s3, wS, wR 0, wR 1, wR 2, wR 3, wR 1, wJ t2, wS, wJ s2, wS, wR 1, wR 1]) a0_190 rfl rfl) <| .s (.aload a0_192 rfl rfl) <| .s (.aload a0_194 rfl rfl) <| .s (.acmp true 199 a0_196 rfl rfl (by decide) rfl) <| .s (.aload a0_199 rfl rfl) <| .s (.aload a0_201 rfl rfl) <| .s (.acmp true 206 a0_203 rfl rfl (by decide) rfl) ?_
          refine .s (.aload a0_206 rfl rfl) ?_
          refine .callV (k := 3) (z := (⟨"com/example/chronogate/chronogate/ReleaseQueue", "size", "()I"⟩ : MethodName)) a0_208 (ok10 hw _ _ _ _) ⟨rfl, by decide⟩ (wd hw 55 rfl) (wd hw 56 rfl) (fun s hZ => notFace_of_selects (args := #[]) (mvT hZ (wd hw 58 rfl))) (wd hw 58 rfl) (wd hw 57 rfl) rfl (argsL := []) (S := []) (au10_40 hw _ _ t1 t2 t3 s1 s2 s3 _) rfl rfl rfl rfl rfl rfl (Nat.le_of_ble_eq_true rfl) (Nat.le_of_ble_eq_true rfl) ?_
          rintro _ _ _ ⟨rfl, rfl, rfl⟩
          show WGo _ (211, [wJ t1, wS, wJ t2, wS, wJ t3, wS, wJ s1, wS, wJ s2, wS, wI mode, wI 3, wJ s3, wS, wR 0, wR 1, wR 2, wR 3, wR 1, wJ t2, wS, wJ s2, wS, wR 1, wR 1], [.int 3], [(.inr (cn0, [(fk0, (.long t1)), (fk1, .null), (fk2, .null), (fk3, (.long s1))])), (.inr (cn0, [(fk0, (.long t2)), (fk1, .null), (fk2, .null), (fk3, (.long s2))])), (.inr (cn0, [(fk0, (.long t3)), (fk1, .null), (fk2, .null), (fk3, (.long s3))])), (.inr (cn1, [(fk4, .ref 4), (fk5, .int 3)])), (.inl ((.object "com/example/chronogate/chronogate/Event"), [.ref 1, .ref 0, .ref 2, .null, .null, .null, .null, .null]))], 22) _
          refine .s (.iload a0_211 rfl) <| .s (.icmpF a0_213 (by decide)) <| .s (.iconst (1 : Int32) a0_216 rfl) <| .s (.goto a0_217) ?_
          refine .ireturn .boolean a0_221 rfl (by simp) ?_
          exact ⟨rfl, Nat.le_of_ble_eq_true rfl, Nat.le_of_ble_eq_true rfl⟩
        · exfalso
          simp only [Int32.lt_iff_toInt_lt, Int64.lt_iff_toInt_lt, ← Int32.toInt_inj, ← Int64.toInt_inj, Int32.reduceToInt, Int64.reduceToInt] at *
          omega
        · exfalso
          simp only [Int32.lt_iff_toInt_lt, Int64.lt_iff_toInt_lt, ← Int32.toInt_inj, ← Int64.toInt_inj, Int32.reduceToInt, Int64.reduceToInt] at *
          omega
        · exfalso
          simp only [Int32.lt_iff_toInt_lt, Int64.lt_iff_toInt_lt, ← Int32.toInt_inj, ← Int64.toInt_inj, Int32.reduceToInt, Int64.reduceToInt] at *
          omega
      · exfalso
        simp only [Int32.lt_iff_toInt_lt, Int64.lt_iff_toInt_lt, ← Int32.toInt_inj, ← Int64.toInt_inj, Int32.reduceToInt, Int64.reduceToInt] at *
        omega
      · exfalso
        simp only [Int32.lt_iff_toInt_lt, Int64.lt_iff_toInt_lt, ← Int32.toInt_inj, ← Int64.toInt_inj, Int32.reduceToInt, Int64.reduceToInt] at *
        omega
    · skip
      show WGo _ (104, [wJ t1, wS, wJ t2, wS, wJ t3, wS, wJ s1, wS, wJ s2, wS, wI mode, wI 3, wJ s3, wS, wR 0, wR 1, wR 2, wR 3, wU, wU, wU, wU, wU, wU, wU], [], [(.inr (cn0, [(fk0, (.long t1)), (fk1, .null), (fk2, .null), (fk3, (.long s1))])), (.inr (cn0, [(fk0, (.long t2)), (fk1, .null), (fk2, .null), (fk3, (.long s2))])), (.inr (cn0, [(fk0, (.long t3)), (fk1, .null), (fk2, .null), (fk3, (.long s3))])), (.inr (cn1, [(fk4, .ref 4), (fk5, .int 3)])), (.inl ((.object "com/example/chronogate/chronogate/Event"), [.ref 2, .ref 0, .ref 1, .null, .null, .null, .null, .null]))], 22) _
      refine .s (.aconstNull a0_104) <| .s (.astore (L' := [wJ t1, wS, wJ t2, wS, wJ t3, wS, wJ s1, wS, wJ s2, wS, wI mode, wI 3, wJ s3, wS, wR 0, wR 1, wR 2, wR 3, wN, wU, wU, wU, wU, wU, wU]) a0_105 rfl rfl) <| .s (.lloadN a0_107 rfl) <| .s (.lstore (L' := [wJ t1, wS, wJ t2, wS, wJ t3, wS, wJ s1, wS, wJ s2, wS, wI mode, wI 3, wJ s3, wS, wR 0, wR 1, wR 2, wR 3, wN, wJ t1, wS, wU, wU, wU, wU]) a0_108 rfl) <| .s (.lload a0_110 rfl) <| .s (.lstore (L' := [wJ t1, wS, wJ t2, wS, wJ t3, wS, wJ s1, wS, wJ s2, wS, wI mode, wI 3, wJ s3, wS, wR 0, wR 1, wR 2, wR 3, wN, wJ t1, wS, wJ s1, wS, wU, wU]) a0_112 rfl) <| .s (.iload a0_114 rfl) ?_
      refine .s (.iconst (1 : Int32) a0_116 rfl) <| .s (.icmpF a0_117 (by decide)) <| .s (.aload a0_120 rfl rfl) <| .s (.astore (L' := [wJ t1, wS, wJ t2, wS, wJ t3, wS, wJ s1, wS, wJ s2, wS, wI mode, wI 3, wJ s3, wS, wR 0, wR 1, wR 2, wR 3, wR 0, wJ t1, wS, wJ s1, wS, wU, wU]) a0_122 rfl rfl) <| .s (.iload a0_124 rfl) <| .s (.iconst (2 : Int32) a0_126 rfl) <| .s (.icmpF a0_127 (by decide)) ?_
      refine .s (.lloadN a0_130 rfl) <| .s (.lload a0_131 rfl) <| .s (.lload a0_133 rfl) <| .s (.lload a0_135 rfl) ?_
      refine .callS a0_137 (ok8 hw _ _ _ _) (wd hw 46 rfl) (wd hw 47 rfl) (argsL := [(.long t2), (.long s2), (.long t1), (.long s1)]) (S := []) (au8_41 hw _ _ t1 t2 t3 s1 s2 s3 _) rfl rfl rfl rfl rfl rfl (Nat.le_of_ble_eq_true rfl) (Nat.le_of_ble_eq_true rfl) ?_
      rintro _ _ _ (⟨q526, q527, q528, rfl, rfl, rfl⟩ | ⟨q529, q530, q531, rfl, rfl, rfl⟩ | ⟨q532, q533, rfl, rfl, rfl⟩ | ⟨q534, rfl, rfl, rfl⟩)
      · exfalso
        simp only [Int32.lt_iff_toInt_lt, Int64.lt_iff_toInt_lt, ← Int32.toInt_inj, ← Int64.toInt_inj, Int32.reduceToInt, Int64.reduceToInt] at *
        omega
      · skip
        show WGo _ (140, [wJ t1, wS, wJ t2, wS, wJ t3, wS, wJ s1, wS, wJ s2, wS, wI mode, wI 3, wJ s3, wS, wR 0, wR 1, wR 2, wR 3, wR 0, wJ t1, wS, wJ s1, wS, wU, wU], [.int 1], [(.inr (cn0, [(fk0, (.long t1)), (fk1, .null), (fk2, .null), (fk3, (.long s1))])), (.inr (cn0, [(fk0, (.long t2)), (fk1, .null), (fk2, .null), (fk3, (.long s2))])), (.inr (cn0, [(fk0, (.long t3)), (fk1, .null), (fk2, .null), (fk3, (.long s3))])), (.inr (cn1, [(fk4, .ref 4), (fk5, .int 3)])), (.inl ((.object "com/example/chronogate/chronogate/Event"), [.ref 2, .ref 0, .ref 1, .null, .null, .null, .null, .null]))], 22) _
        refine .s (.ifF a0_140 (by decide)) <| .s (.aload a0_143 rfl rfl) <| .s (.astore (L' := [wJ t1, wS, wJ t2, wS, wJ t3, wS, wJ s1, wS, wJ s2, wS, wI mode, wI 3, wJ s3, wS, wR 0, wR 1, wR 2, wR 3, wR 1, wJ t1, wS, wJ s1, wS, wU, wU]) a0_145 rfl rfl) <| .s (.lloadN a0_147 rfl) <| .s (.lstore (L' := [wJ t1, wS, wJ t2, wS, wJ t3, wS, wJ s1, wS, wJ s2, wS, wI mode, wI 3, wJ s3, wS, wR 0, wR 1, wR 2, wR 3, wR 1, wJ t2, wS, wJ s1, wS, wU, wU]) a0_148 rfl) <| .s (.lload a0_150 rfl) <| .s (.lstore (L' := [wJ t1, wS, wJ t2, wS, wJ t3, wS, wJ s1, wS, wJ s2, wS, wI mode, wI 3, wJ s3, wS, wR 0, wR 1, wR 2, wR 3, wR 1, wJ t2, wS, wJ s2, wS, wU, wU]) a0_152 rfl) ?_
        refine .s (.iload a0_154 rfl) <| .s (.iconst (3 : Int32) a0_156 rfl) <| .s (.icmpF a0_157 (by decide)) <| .s (.lload a0_160 rfl) <| .s (.lload a0_162 rfl) <| .s (.lload a0_164 rfl) <| .s (.lload a0_166 rfl) ?_
        refine .callS a0_168 (ok8 hw _ _ _ _) (wd hw 46 rfl) (wd hw 47 rfl) (argsL := [(.long t3), (.long s3), (.long t2), (.long s2)]) (S := []) (au8_42 hw _ _ t1 t2 t3 s1 s2 s3 _) rfl rfl rfl rfl rfl rfl (Nat.le_of_ble_eq_true rfl) (Nat.le_of_ble_eq_true rfl) ?_
        rintro _ _ _ (⟨q535, q536, q537, rfl, rfl, rfl⟩ | ⟨q538, q539, q540, rfl, rfl, rfl⟩ | ⟨q541, q542, rfl, rfl, rfl⟩ | ⟨q543, rfl, rfl, rfl⟩)
        · exfalso
          simp only [Int32.lt_iff_toInt_lt, Int64.lt_iff_toInt_lt, ← Int32.toInt_inj, ← Int64.toInt_inj, Int32.reduceToInt, Int64.reduceToInt] at *
          omega
        · skip
          show WGo _ (171, [wJ t1, wS, wJ t2, wS, wJ t3, wS, wJ s1, wS, wJ s2, wS, wI mode, wI 3, wJ s3, wS, wR 0, wR 1, wR 2, wR 3, wR 1, wJ t2, wS, wJ s2, wS, wU, wU], [.int 1], [(.inr (cn0, [(fk0, (.long t1)), (fk1, .null), (fk2, .null), (fk3, (.long s1))])), (.inr (cn0, [(fk0, (.long t2)), (fk1, .null), (fk2, .null), (fk3, (.long s2))])), (.inr (cn0, [(fk0, (.long t3)), (fk1, .null), (fk2, .null), (fk3, (.long s3))])), (.inr (cn1, [(fk4, .ref 4), (fk5, .int 3)])), (.inl ((.object "com/example/chronogate/chronogate/Event"), [.ref 2, .ref 0, .ref 1, .null, .null, .null, .null, .null]))], 22) _
          refine .s (.ifF a0_171 (by decide)) <| .s (.aload a0_174 rfl rfl) <| .s (.astore (L' := [wJ t1, wS, wJ t2, wS, wJ t3, wS, wJ s1, wS, wJ s2, wS, wI mode, wI 3, wJ s3, wS, wR 0, wR 1, wR 2, wR 3, wR 2, wJ t2, wS, wJ s2, wS, wU, wU]) a0_176 rfl rfl) <| .s (.aload a0_178 rfl rfl) ?_
          refine .callV (k := 3) (z := (⟨"com/example/chronogate/chronogate/ReleaseQueue", "peek", "()Lcom/example/chronogate/chronogate/Event;"⟩ : MethodName)) a0_180 (ok9 hw _ _ _ _) ⟨rfl, by decide⟩ (wd hw 50 rfl) (wd hw 51 rfl) (fun s hZ => notFace_of_selects (args := #[]) (mvT hZ (wd hw 53 rfl))) (wd hw 53 rfl) (wd hw 52 rfl) rfl (argsL := []) (S := []) (au9_43 hw _ _ t1 t2 t3 s1 s2 s3 _) rfl rfl rfl rfl rfl rfl (Nat.le_of_ble_eq_true rfl) (Nat.le_of_ble_eq_true rfl) ?_
          rintro _ _ _ ⟨rfl, rfl, rfl⟩
          show WGo _ (183, [wJ t1, wS, wJ t2, wS, wJ t3, wS, wJ s1, wS, wJ s2, wS, wI mode, wI 3, wJ s3, wS, wR 0, wR 1, wR 2, wR 3, wR 2, wJ t2, wS, wJ s2, wS, wU, wU], [.ref 2], [(.inr (cn0, [(fk0, (.long t1)), (fk1, .null), (fk2, .null), (fk3, (.long s1))])), (.inr (cn0, [(fk0, (.long t2)), (fk1, .null), (fk2, .null), (fk3, (.long s2))])), (.inr (cn0, [(fk0, (.long t3)), (fk1, .null), (fk2, .null), (fk3, (.long s3))])), (.inr (cn1, [(fk4, .ref 4), (fk5, .int 3)])), (.inl ((.object "com/example/chronogate/chronogate/Event"), [.ref 2, .ref 0, .ref 1, .null, .null, .null, .null, .null]))], 22) _
          refine .s (.astore (L' := [wJ t1, wS, wJ t2, wS, wJ t3, wS, wJ s1, wS, wJ s2, wS, wI mode, wI 3, wJ s3, wS, wR 0, wR 1, wR 2, wR 3, wR 2, wJ t2, wS, wJ s2, wS, wR 2, wU]) a0_183 rfl rfl) <| .s (.aload a0_185 rfl rfl) ?_
          refine .callV (k := 3) (z := (⟨"com/example/chronogate/chronogate/ReleaseQueue", "peek", "()Lcom/example/chronogate/chronogate/Event;"⟩ : MethodName)) a0_187 (ok9 hw _ _ _ _) ⟨rfl, by decide⟩ (wd hw 50 rfl) (wd hw 51 rfl) (fun s hZ => notFace_of_selects (args := #[]) (mvT hZ (wd hw 53 rfl))) (wd hw 53 rfl) (wd hw 52 rfl) rfl (argsL := []) (S := []) (au9_43 hw _ _ t1 t2 t3 s1 s2 s3 _) rfl rfl rfl rfl rfl rfl (Nat.le_of_ble_eq_true rfl) (Nat.le_of_ble_eq_true rfl) ?_
          rintro _ _ _ ⟨rfl, rfl, rfl⟩
          show WGo _ (190, [wJ t1, wS, wJ t2, wS, wJ t3, wS, wJ s1, wS, wJ s2, wS, wI mode, wI 3, wJ s3, wS, wR 0, wR 1, wR 2, wR 3, wR 2, wJ t2, wS, wJ s2, wS, wR 2, wU], [.ref 2], [(.inr (cn0, [(fk0, (.long t1)), (fk1, .null), (fk2, .null), (fk3, (.long s1))])), (.inr (cn0, [(fk0, (.long t2)), (fk1, .null), (fk2, .null), (fk3, (.long s2))])), (.inr (cn0, [(fk0, (.long t3)), (fk1, .null), (fk2, .null), (fk3, (.long s3))])), (.inr (cn1, [(fk4, .ref 4), (fk5, .int 3)])), (.inl ((.object "com/example/chronogate/chronogate/Event"), [.ref 2, .ref 0, .ref 1, .null, .null, .null, .null, .null]))], 22) _
          refine .s (.astore (L' := [wJ t1, wS, wJ t2, wS, wJ t3, wS, wJ s1, wS, wJ s2, wS, wI mode, wI 3, wJ s3, wS, wR 0, wR 1, wR 2, wR 3, wR 2, wJ t2, wS, wJ s2, wS, wR 2, wR 2]) a0_190 rfl rfl) <| .s (.aload a0_192 rfl rfl) <| .s (.aload a0_194 rfl rfl) <| .s (.acmp true 199 a0_196 rfl rfl (by decide) rfl) <| .s (.aload a0_199 rfl rfl) <| .s (.aload a0_201 rfl rfl) <| .s (.acmp true 206 a0_203 rfl rfl (by decide) rfl) ?_
          refine .s (.aload a0_206 rfl rfl) ?_
          refine .callV (k := 3) (z := (⟨"com/example/chronogate/chronogate/ReleaseQueue", "size", "()I"⟩ : MethodName)) a0_208 (ok10 hw _ _ _ _) ⟨rfl, by decide⟩ (wd hw 55 rfl) (wd hw 56 rfl) (fun s hZ => notFace_of_selects (args := #[]) (mvT hZ (wd hw 58 rfl))) (wd hw 58 rfl) (wd hw 57 rfl) rfl (argsL := []) (S := []) (au10_44 hw _ _ t1 t2 t3 s1 s2 s3 _) rfl rfl rfl rfl rfl rfl (Nat.le_of_ble_eq_true rfl) (Nat.le_of_ble_eq_true rfl) ?_
          rintro _ _ _ ⟨rfl, rfl, rfl⟩
          show WGo _ (211, [wJ t1, wS, wJ t2, wS, wJ t3, wS, wJ s1, wS, wJ s2, wS, wI mode, wI 3, wJ s3, wS, wR 0, wR 1, wR 2, wR 3, wR 2, wJ t2, wS, wJ s2, wS, wR 2, wR 2], [.int 3], [(.inr (cn0, [(fk0, (.long t1)), (fk1, .null), (fk2, .null), (fk3, (.long s1))])), (.inr (cn0, [(fk0, (.long t2)), (fk1, .null), (fk2, .null), (fk3, (.long s2))])), (.inr (cn0, [(fk0, (.long t3)), (fk1, .null), (fk2, .null), (fk3, (.long s3))])), (.inr (cn1, [(fk4, .ref 4), (fk5, .int 3)])), (.inl ((.object "com/example/chronogate/chronogate/Event"), [.ref 2, .ref 0, .ref 1, .null, .null, .null, .null, .null]))], 22) _
          refine .s (.iload a0_211 rfl) <| .s (.icmpF a0_213 (by decide)) <| .s (.iconst (1 : Int32) a0_216 rfl) <| .s (.goto a0_217) ?_
          refine .ireturn .boolean a0_221 rfl (by simp) ?_
          exact ⟨rfl, Nat.le_of_ble_eq_true rfl, Nat.le_of_ble_eq_true rfl⟩
        · exfalso
          simp only [Int32.lt_iff_toInt_lt, Int64.lt_iff_toInt_lt, ← Int32.toInt_inj, ← Int64.toInt_inj, Int32.reduceToInt, Int64.reduceToInt] at *
          omega
        · exfalso
          simp only [Int32.lt_iff_toInt_lt, Int64.lt_iff_toInt_lt, ← Int32.toInt_inj, ← Int64.toInt_inj, Int32.reduceToInt, Int64.reduceToInt] at *
          omega
      · exfalso
        simp only [Int32.lt_iff_toInt_lt, Int64.lt_iff_toInt_lt, ← Int32.toInt_inj, ← Int64.toInt_inj, Int32.reduceToInt, Int64.reduceToInt] at *
        omega
      · exfalso
        simp only [Int32.lt_iff_toInt_lt, Int64.lt_iff_toInt_lt, ← Int32.toInt_inj, ← Int64.toInt_inj, Int32.reduceToInt, Int64.reduceToInt] at *
        omega
    · skip
      show WGo _ (104, [wJ t1, wS, wJ t2, wS, wJ t3, wS, wJ s1, wS, wJ s2, wS, wI mode, wI 3, wJ s3, wS, wR 0, wR 1, wR 2, wR 3, wU, wU, wU, wU, wU, wU, wU], [], [(.inr (cn0, [(fk0, (.long t1)), (fk1, .null), (fk2, .null), (fk3, (.long s1))])), (.inr (cn0, [(fk0, (.long t2)), (fk1, .null), (fk2, .null), (fk3, (.long s2))])), (.inr (cn0, [(fk0, (.long t3)), (fk1, .null), (fk2, .null), (fk3, (.long s3))])), (.inr (cn1, [(fk4, .ref 4), (fk5, .int 3)])), (.inl ((.object "com/example/chronogate/chronogate/Event"), [.ref 2, .ref 0, .ref 1, .null, .null, .null, .null, .null]))], 22) _
      refine .s (.aconstNull a0_104) <| .s (.astore (L' := [wJ t1, wS, wJ t2, wS, wJ t3, wS, wJ s1, wS, wJ s2, wS, wI mode, wI 3, wJ s3, wS, wR 0, wR 1, wR 2, wR 3, wN, wU, wU, wU, wU, wU, wU]) a0_105 rfl rfl) <| .s (.lloadN a0_107 rfl) <| .s (.lstore (L' := [wJ t1, wS, wJ t2, wS, wJ t3, wS, wJ s1, wS, wJ s2, wS, wI mode, wI 3, wJ s3, wS, wR 0, wR 1, wR 2, wR 3, wN, wJ t1, wS, wU, wU, wU, wU]) a0_108 rfl) <| .s (.lload a0_110 rfl) <| .s (.lstore (L' := [wJ t1, wS, wJ t2, wS, wJ t3, wS, wJ s1, wS, wJ s2, wS, wI mode, wI 3, wJ s3, wS, wR 0, wR 1, wR 2, wR 3, wN, wJ t1, wS, wJ s1, wS, wU, wU]) a0_112 rfl) <| .s (.iload a0_114 rfl) ?_
      refine .s (.iconst (1 : Int32) a0_116 rfl) <| .s (.icmpF a0_117 (by decide)) <| .s (.aload a0_120 rfl rfl) <| .s (.astore (L' := [wJ t1, wS, wJ t2, wS, wJ t3, wS, wJ s1, wS, wJ s2, wS, wI mode, wI 3, wJ s3, wS, wR 0, wR 1, wR 2, wR 3, wR 0, wJ t1, wS, wJ s1, wS, wU, wU]) a0_122 rfl rfl) <| .s (.iload a0_124 rfl) <| .s (.iconst (2 : Int32) a0_126 rfl) <| .s (.icmpF a0_127 (by decide)) ?_
      refine .s (.lloadN a0_130 rfl) <| .s (.lload a0_131 rfl) <| .s (.lload a0_133 rfl) <| .s (.lload a0_135 rfl) ?_
      refine .callS a0_137 (ok8 hw _ _ _ _) (wd hw 46 rfl) (wd hw 47 rfl) (argsL := [(.long t2), (.long s2), (.long t1), (.long s1)]) (S := []) (au8_41 hw _ _ t1 t2 t3 s1 s2 s3 _) rfl rfl rfl rfl rfl rfl (Nat.le_of_ble_eq_true rfl) (Nat.le_of_ble_eq_true rfl) ?_
      rintro _ _ _ (⟨q544, q545, q546, rfl, rfl, rfl⟩ | ⟨q547, q548, q549, rfl, rfl, rfl⟩ | ⟨q550, q551, rfl, rfl, rfl⟩ | ⟨q552, rfl, rfl, rfl⟩)
      · exfalso
        simp only [Int32.lt_iff_toInt_lt, Int64.lt_iff_toInt_lt, ← Int32.toInt_inj, ← Int64.toInt_inj, Int32.reduceToInt, Int64.reduceToInt] at *
        omega
      · skip
        show WGo _ (140, [wJ t1, wS, wJ t2, wS, wJ t3, wS, wJ s1, wS, wJ s2, wS, wI mode, wI 3, wJ s3, wS, wR 0, wR 1, wR 2, wR 3, wR 0, wJ t1, wS, wJ s1, wS, wU, wU], [.int 1], [(.inr (cn0, [(fk0, (.long t1)), (fk1, .null), (fk2, .null), (fk3, (.long s1))])), (.inr (cn0, [(fk0, (.long t2)), (fk1, .null), (fk2, .null), (fk3, (.long s2))])), (.inr (cn0, [(fk0, (.long t3)), (fk1, .null), (fk2, .null), (fk3, (.long s3))])), (.inr (cn1, [(fk4, .ref 4), (fk5, .int 3)])), (.inl ((.object "com/example/chronogate/chronogate/Event"), [.ref 2, .ref 0, .ref 1, .null, .null, .null, .null, .null]))], 22) _
        refine .s (.ifF a0_140 (by decide)) <| .s (.aload a0_143 rfl rfl) <| .s (.astore (L' := [wJ t1, wS, wJ t2, wS, wJ t3, wS, wJ s1, wS, wJ s2, wS, wI mode, wI 3, wJ s3, wS, wR 0, wR 1, wR 2, wR 3, wR 1, wJ t1, wS, wJ s1, wS, wU, wU]) a0_145 rfl rfl) <| .s (.lloadN a0_147 rfl) <| .s (.lstore (L' := [wJ t1, wS, wJ t2, wS, wJ t3, wS, wJ s1, wS, wJ s2, wS, wI mode, wI 3, wJ s3, wS, wR 0, wR 1, wR 2, wR 3, wR 1, wJ t2, wS, wJ s1, wS, wU, wU]) a0_148 rfl) <| .s (.lload a0_150 rfl) <| .s (.lstore (L' := [wJ t1, wS, wJ t2, wS, wJ t3, wS, wJ s1, wS, wJ s2, wS, wI mode, wI 3, wJ s3, wS, wR 0, wR 1, wR 2, wR 3, wR 1, wJ t2, wS, wJ s2, wS, wU, wU]) a0_152 rfl) ?_
        refine .s (.iload a0_154 rfl) <| .s (.iconst (3 : Int32) a0_156 rfl) <| .s (.icmpF a0_157 (by decide)) <| .s (.lload a0_160 rfl) <| .s (.lload a0_162 rfl) <| .s (.lload a0_164 rfl) <| .s (.lload a0_166 rfl) ?_
        refine .callS a0_168 (ok8 hw _ _ _ _) (wd hw 46 rfl) (wd hw 47 rfl) (argsL := [(.long t3), (.long s3), (.long t2), (.long s2)]) (S := []) (au8_42 hw _ _ t1 t2 t3 s1 s2 s3 _) rfl rfl rfl rfl rfl rfl (Nat.le_of_ble_eq_true rfl) (Nat.le_of_ble_eq_true rfl) ?_
        rintro _ _ _ (⟨q553, q554, q555, rfl, rfl, rfl⟩ | ⟨q556, q557, q558, rfl, rfl, rfl⟩ | ⟨q559, q560, rfl, rfl, rfl⟩ | ⟨q561, rfl, rfl, rfl⟩)
        · exfalso
          simp only [Int32.lt_iff_toInt_lt, Int64.lt_iff_toInt_lt, ← Int32.toInt_inj, ← Int64.toInt_inj, Int32.reduceToInt, Int64.reduceToInt] at *
          omega
        · exfalso
          simp only [Int32.lt_iff_toInt_lt, Int64.lt_iff_toInt_lt, ← Int32.toInt_inj, ← Int64.toInt_inj, Int32.reduceToInt, Int64.reduceToInt] at *
          omega
        · exfalso
          simp only [Int32.lt_iff_toInt_lt, Int64.lt_iff_toInt_lt, ← Int32.toInt_inj, ← Int64.toInt_inj, Int32.reduceToInt, Int64.reduceToInt] at *
          omega
        · skip
          show WGo _ (171, [wJ t1, wS, wJ t2, wS, wJ t3, wS, wJ s1, wS, wJ s2, wS, wI mode, wI 3, wJ s3, wS, wR 0, wR 1, wR 2, wR 3, wR 1, wJ t2, wS, wJ s2, wS, wU, wU], [.int 1], [(.inr (cn0, [(fk0, (.long t1)), (fk1, .null), (fk2, .null), (fk3, (.long s1))])), (.inr (cn0, [(fk0, (.long t2)), (fk1, .null), (fk2, .null), (fk3, (.long s2))])), (.inr (cn0, [(fk0, (.long t3)), (fk1, .null), (fk2, .null), (fk3, (.long s3))])), (.inr (cn1, [(fk4, .ref 4), (fk5, .int 3)])), (.inl ((.object "com/example/chronogate/chronogate/Event"), [.ref 2, .ref 0, .ref 1, .null, .null, .null, .null, .null]))], 22) _
          refine .s (.ifF a0_171 (by decide)) <| .s (.aload a0_174 rfl rfl) <| .s (.astore (L' := [wJ t1, wS, wJ t2, wS, wJ t3, wS, wJ s1, wS, wJ s2, wS, wI mode, wI 3, wJ s3, wS, wR 0, wR 1, wR 2, wR 3, wR 2, wJ t2, wS, wJ s2, wS, wU, wU]) a0_176 rfl rfl) <| .s (.aload a0_178 rfl rfl) ?_
          refine .callV (k := 3) (z := (⟨"com/example/chronogate/chronogate/ReleaseQueue", "peek", "()Lcom/example/chronogate/chronogate/Event;"⟩ : MethodName)) a0_180 (ok9 hw _ _ _ _) ⟨rfl, by decide⟩ (wd hw 50 rfl) (wd hw 51 rfl) (fun s hZ => notFace_of_selects (args := #[]) (mvT hZ (wd hw 53 rfl))) (wd hw 53 rfl) (wd hw 52 rfl) rfl (argsL := []) (S := []) (au9_43 hw _ _ t1 t2 t3 s1 s2 s3 _) rfl rfl rfl rfl rfl rfl (Nat.le_of_ble_eq_true rfl) (Nat.le_of_ble_eq_true rfl) ?_
          rintro _ _ _ ⟨rfl, rfl, rfl⟩
          show WGo _ (183, [wJ t1, wS, wJ t2, wS, wJ t3, wS, wJ s1, wS, wJ s2, wS, wI mode, wI 3, wJ s3, wS, wR 0, wR 1, wR 2, wR 3, wR 2, wJ t2, wS, wJ s2, wS, wU, wU], [.ref 2], [(.inr (cn0, [(fk0, (.long t1)), (fk1, .null), (fk2, .null), (fk3, (.long s1))])), (.inr (cn0, [(fk0, (.long t2)), (fk1, .null), (fk2, .null), (fk3, (.long s2))])), (.inr (cn0, [(fk0, (.long t3)), (fk1, .null), (fk2, .null), (fk3, (.long s3))])), (.inr (cn1, [(fk4, .ref 4), (fk5, .int 3)])), (.inl ((.object "com/example/chronogate/chronogate/Event"), [.ref 2, .ref 0, .ref 1, .null, .null, .null, .null, .null]))], 22) _
          refine .s (.astore (L' := [wJ t1, wS, wJ t2, wS, wJ t3, wS, wJ s1, wS, wJ s2, wS, wI mode, wI 3, wJ s3, wS, wR 0, wR 1, wR 2, wR 3, wR 2, wJ t2, wS, wJ s2, wS, wR 2, wU]) a0_183 rfl rfl) <| .s (.aload a0_185 rfl rfl) ?_
          refine .callV (k := 3) (z := (⟨"com/example/chronogate/chronogate/ReleaseQueue", "peek", "()Lcom/example/chronogate/chronogate/Event;"⟩ : MethodName)) a0_187 (ok9 hw _ _ _ _) ⟨rfl, by decide⟩ (wd hw 50 rfl) (wd hw 51 rfl) (fun s hZ => notFace_of_selects (args := #[]) (mvT hZ (wd hw 53 rfl))) (wd hw 53 rfl) (wd hw 52 rfl) rfl (argsL := []) (S := []) (au9_43 hw _ _ t1 t2 t3 s1 s2 s3 _) rfl rfl rfl rfl rfl rfl (Nat.le_of_ble_eq_true rfl) (Nat.le_of_ble_eq_true rfl) ?_
          rintro _ _ _ ⟨rfl, rfl, rfl⟩
          show WGo _ (190, [wJ t1, wS, wJ t2, wS, wJ t3, wS, wJ s1, wS, wJ s2, wS, wI mode, wI 3, wJ s3, wS, wR 0, wR 1, wR 2, wR 3, wR 2, wJ t2, wS, wJ s2, wS, wR 2, wU], [.ref 2], [(.inr (cn0, [(fk0, (.long t1)), (fk1, .null), (fk2, .null), (fk3, (.long s1))])), (.inr (cn0, [(fk0, (.long t2)), (fk1, .null), (fk2, .null), (fk3, (.long s2))])), (.inr (cn0, [(fk0, (.long t3)), (fk1, .null), (fk2, .null), (fk3, (.long s3))])), (.inr (cn1, [(fk4, .ref 4), (fk5, .int 3)])), (.inl ((.object "com/example/chronogate/chronogate/Event"), [.ref 2, .ref 0, .ref 1, .null, .null, .null, .null, .null]))], 22) _
          refine .s (.astore (L' := [wJ t1, wS, wJ t2, wS, wJ t3, wS, wJ s1, wS, wJ s2, wS, wI mode, wI 3, wJ s3, wS, wR 0, wR 1, wR 2, wR 3, wR 2, wJ t2, wS, wJ s2, wS, wR 2, wR 2]) a0_190 rfl rfl) <| .s (.aload a0_192 rfl rfl) <| .s (.aload a0_194 rfl rfl) <| .s (.acmp true 199 a0_196 rfl rfl (by decide) rfl) <| .s (.aload a0_199 rfl rfl) <| .s (.aload a0_201 rfl rfl) <| .s (.acmp true 206 a0_203 rfl rfl (by decide) rfl) ?_
          refine .s (.aload a0_206 rfl rfl) ?_
          refine .callV (k := 3) (z := (⟨"com/example/chronogate/chronogate/ReleaseQueue", "size", "()I"⟩ : MethodName)) a0_208 (ok10 hw _ _ _ _) ⟨rfl, by decide⟩ (wd hw 55 rfl) (wd hw 56 rfl) (fun s hZ => notFace_of_selects (args := #[]) (mvT hZ (wd hw 58 rfl))) (wd hw 58 rfl) (wd hw 57 rfl) rfl (argsL := []) (S := []) (au10_44 hw _ _ t1 t2 t3 s1 s2 s3 _) rfl rfl rfl rfl rfl rfl (Nat.le_of_ble_eq_true rfl) (Nat.le_of_ble_eq_true rfl) ?_
          rintro _ _ _ ⟨rfl, rfl, rfl⟩
          show WGo _ (211, [wJ t1, wS, wJ t2, wS, wJ t3, wS, wJ s1, wS, wJ s2, wS, wI mode, wI 3, wJ s3, wS, wR 0, wR 1, wR 2, wR 3, wR 2, wJ t2, wS, wJ s2, wS, wR 2, wR 2], [.int 3], [(.inr (cn0, [(fk0, (.long t1)), (fk1, .null), (fk2, .null), (fk3, (.long s1))])), (.inr (cn0, [(fk0, (.long t2)), (fk1, .null), (fk2, .null), (fk3, (.long s2))])), (.inr (cn0, [(fk0, (.long t3)), (fk1, .null), (fk2, .null), (fk3, (.long s3))])), (.inr (cn1, [(fk4, .ref 4), (fk5, .int 3)])), (.inl ((.object "com/example/chronogate/chronogate/Event"), [.ref 2, .ref 0, .ref 1, .null, .null, .null, .null, .null]))], 22) _
          refine .s (.iload a0_211 rfl) <| .s (.icmpF a0_213 (by decide)) <| .s (.iconst (1 : Int32) a0_216 rfl) <| .s (.goto a0_217) ?_
          refine .ireturn .boolean a0_221 rfl (by simp) ?_
          exact ⟨rfl, Nat.le_of_ble_eq_true rfl, Nat.le_of_ble_eq_true rfl⟩
      · exfalso
        simp only [Int32.lt_iff_toInt_lt, Int64.lt_iff_toInt_lt, ← Int32.toInt_inj, ← Int64.toInt_inj, Int32.reduceToInt, Int64.reduceToInt] at *
        omega
      · exfalso
        simp only [Int32.lt_iff_toInt_lt, Int64.lt_iff_toInt_lt, ← Int32.toInt_inj, ← Int64.toInt_inj, Int32.reduceToInt, Int64.reduceToInt] at *
        omega
  · skip
    show WGo _ (91, [wJ t1, wS, wJ t2, wS, wJ t3, wS, wJ s1, wS, wJ s2, wS, wI mode, wI 3, wJ s3, wS, wR 0, wR 1, wR 2, wR 3, wU, wU, wU, wU, wU, wU, wU], [], [(.inr (cn0, [(fk0, (.long t1)), (fk1, .null), (fk2, .null), (fk3, (.long s1))])), (.inr (cn0, [(fk0, (.long t2)), (fk1, .null), (fk2, .null), (fk3, (.long s2))])), (.inr (cn0, [(fk0, (.long t3)), (fk1, .null), (fk2, .null), (fk3, (.long s3))])), (.inr (cn1, [(fk4, .ref 4), (fk5, .int 2)])), (.inl ((.object "com/example/chronogate/chronogate/Event"), [.ref 1, .ref 0, .null, .null, .null, .null, .null, .null]))], 22) _
    refine .s (.iload a0_91 rfl) <| .s (.iconst (3 : Int32) a0_93 rfl) <| .s (.icmpF a0_94 (by decide)) <| .s (.aload a0_97 rfl rfl) <| .s (.aload a0_99 rfl rfl) ?_
    refine .callV (k := 3) (z := (⟨"com/example/chronogate/chronogate/ReleaseQueue", "add", "(Lcom/example/chronogate/chronogate/Event;)V"⟩ : MethodName)) a0_101 (ok5 hw _ _ _ _) ⟨rfl, by decide⟩ (wd hw 31 rfl) (wd hw 32 rfl) (fun s hZ => notFace_of_selects (args := #[]) (mvT hZ (wd hw 34 rfl))) (wd hw 34 rfl) (wd hw 33 rfl) rfl (argsL := [.ref 2]) (S := []) (au5_33 hw _ _ t1 t2 t3 s1 s2 s3 _) rfl rfl rfl rfl rfl rfl (Nat.le_of_ble_eq_true rfl) (Nat.le_of_ble_eq_true rfl) ?_
    rintro _ _ _ (⟨q562, q563, rfl, rfl, rfl⟩ | ⟨q564, q565, q566, q567, rfl, rfl, rfl⟩ | ⟨q568, q569, q570, q571, rfl, rfl, rfl⟩ | ⟨q572, q573, q574, rfl, rfl, rfl⟩ | ⟨q575, rfl, rfl, rfl⟩)
    · skip
      show WGo _ (104, [wJ t1, wS, wJ t2, wS, wJ t3, wS, wJ s1, wS, wJ s2, wS, wI mode, wI 3, wJ s3, wS, wR 0, wR 1, wR 2, wR 3, wU, wU, wU, wU, wU, wU, wU], [], [(.inr (cn0, [(fk0, (.long t1)), (fk1, .null), (fk2, .null), (fk3, (.long s1))])), (.inr (cn0, [(fk0, (.long t2)), (fk1, .null), (fk2, .null), (fk3, (.long s2))])), (.inr (cn0, [(fk0, (.long t3)), (fk1, .null), (fk2, .null), (fk3, (.long s3))])), (.inr (cn1, [(fk4, .ref 4), (fk5, .int 3)])), (.inl ((.object "com/example/chronogate/chronogate/Event"), [.ref 1, .ref 0, .ref 2, .null, .null, .null, .null, .null]))], 22) _
      refine .s (.aconstNull a0_104) <| .s (.astore (L' := [wJ t1, wS, wJ t2, wS, wJ t3, wS, wJ s1, wS, wJ s2, wS, wI mode, wI 3, wJ s3, wS, wR 0, wR 1, wR 2, wR 3, wN, wU, wU, wU, wU, wU, wU]) a0_105 rfl rfl) <| .s (.lloadN a0_107 rfl) <| .s (.lstore (L' := [wJ t1, wS, wJ t2, wS, wJ t3, wS, wJ s1, wS, wJ s2, wS, wI mode, wI 3, wJ s3, wS, wR 0, wR 1, wR 2, wR 3, wN, wJ t1, wS, wU, wU, wU, wU]) a0_108 rfl) <| .s (.lload a0_110 rfl) <| .s (.lstore (L' := [wJ t1, wS, wJ t2, wS, wJ t3, wS, wJ s1, wS, wJ s2, wS, wI mode, wI 3, wJ s3, wS, wR 0, wR 1, wR 2, wR 3, wN, wJ t1, wS, wJ s1, wS, wU, wU]) a0_112 rfl) <| .s (.iload a0_114 rfl) ?_
      refine .s (.iconst (1 : Int32) a0_116 rfl) <| .s (.icmpF a0_117 (by decide)) <| .s (.aload a0_120 rfl rfl) <| .s (.astore (L' := [wJ t1, wS, wJ t2, wS, wJ t3, wS, wJ s1, wS, wJ s2, wS, wI mode, wI 3, wJ s3, wS, wR 0, wR 1, wR 2, wR 3, wR 0, wJ t1, wS, wJ s1, wS, wU, wU]) a0_122 rfl rfl) <| .s (.iload a0_124 rfl) <| .s (.iconst (2 : Int32) a0_126 rfl) <| .s (.icmpF a0_127 (by decide)) ?_
      refine .s (.lloadN a0_130 rfl) <| .s (.lload a0_131 rfl) <| .s (.lload a0_133 rfl) <| .s (.lload a0_135 rfl) ?_
      refine .callS a0_137 (ok8 hw _ _ _ _) (wd hw 46 rfl) (wd hw 47 rfl) (argsL := [(.long t2), (.long s2), (.long t1), (.long s1)]) (S := []) (au8_37 hw _ _ t1 t2 t3 s1 s2 s3 _) rfl rfl rfl rfl rfl rfl (Nat.le_of_ble_eq_true rfl) (Nat.le_of_ble_eq_true rfl) ?_
      rintro _ _ _ (⟨q576, q577, q578, rfl, rfl, rfl⟩ | ⟨q579, q580, q581, rfl, rfl, rfl⟩ | ⟨q582, q583, rfl, rfl, rfl⟩ | ⟨q584, rfl, rfl, rfl⟩)
      · exfalso
        simp only [Int32.lt_iff_toInt_lt, Int64.lt_iff_toInt_lt, ← Int32.toInt_inj, ← Int64.toInt_inj, Int32.reduceToInt, Int64.reduceToInt] at *
        omega
      · exfalso
        simp only [Int32.lt_iff_toInt_lt, Int64.lt_iff_toInt_lt, ← Int32.toInt_inj, ← Int64.toInt_inj, Int32.reduceToInt, Int64.reduceToInt] at *
        omega
      · exfalso
        simp only [Int32.lt_iff_toInt_lt, Int64.lt_iff_toInt_lt, ← Int32.toInt_inj, ← Int64.toInt_inj, Int32.reduceToInt, Int64.reduceToInt] at *
        omega
      · skip
        show WGo _ (140, [wJ t1, wS, wJ t2, wS, wJ t3, wS, wJ s1, wS, wJ s2, wS, wI mode, wI 3, wJ s3, wS, wR 0, wR 1, wR 2, wR 3, wR 0, wJ t1, wS, wJ s1, wS, wU, wU], [.int 1], [(.inr (cn0, [(fk0, (.long t1)), (fk1, .null), (fk2, .null), (fk3, (.long s1))])), (.inr (cn0, [(fk0, (.long t2)), (fk1, .null), (fk2, .null), (fk3, (.long s2))])), (.inr (cn0, [(fk0, (.long t3)), (fk1, .null), (fk2, .null), (fk3, (.long s3))])), (.inr (cn1, [(fk4, .ref 4), (fk5, .int 3)])), (.inl ((.object "com/example/chronogate/chronogate/Event"), [.ref 1, .ref 0, .ref 2, .null, .null, .null, .null, .null]))], 22) _
        refine .s (.ifF a0_140 (by decide)) <| .s (.aload a0_143 rfl rfl) <| .s (.astore (L' := [wJ t1, wS, wJ t2, wS, wJ t3, wS, wJ s1, wS, wJ s2, wS, wI mode, wI 3, wJ s3, wS, wR 0, wR 1, wR 2, wR 3, wR 1, wJ t1, wS, wJ s1, wS, wU, wU]) a0_145 rfl rfl) <| .s (.lloadN a0_147 rfl) <| .s (.lstore (L' := [wJ t1, wS, wJ t2, wS, wJ t3, wS, wJ s1, wS, wJ s2, wS, wI mode, wI 3, wJ s3, wS, wR 0, wR 1, wR 2, wR 3, wR 1, wJ t2, wS, wJ s1, wS, wU, wU]) a0_148 rfl) <| .s (.lload a0_150 rfl) <| .s (.lstore (L' := [wJ t1, wS, wJ t2, wS, wJ t3, wS, wJ s1, wS, wJ s2, wS, wI mode, wI 3, wJ s3, wS, wR 0, wR 1, wR 2, wR 3, wR 1, wJ t2, wS, wJ s2, wS, wU, wU]) a0_152 rfl) ?_
        refine .s (.iload a0_154 rfl) <| .s (.iconst (3 : Int32) a0_156 rfl) <| .s (.icmpF a0_157 (by decide)) <| .s (.lload a0_160 rfl) <| .s (.lload a0_162 rfl) <| .s (.lload a0_164 rfl) <| .s (.lload a0_166 rfl) ?_
        refine .callS a0_168 (ok8 hw _ _ _ _) (wd hw 46 rfl) (wd hw 47 rfl) (argsL := [(.long t3), (.long s3), (.long t2), (.long s2)]) (S := []) (au8_38 hw _ _ t1 t2 t3 s1 s2 s3 _) rfl rfl rfl rfl rfl rfl (Nat.le_of_ble_eq_true rfl) (Nat.le_of_ble_eq_true rfl) ?_
        rintro _ _ _ (⟨q585, q586, q587, rfl, rfl, rfl⟩ | ⟨q588, q589, q590, rfl, rfl, rfl⟩ | ⟨q591, q592, rfl, rfl, rfl⟩ | ⟨q593, rfl, rfl, rfl⟩)
        · exfalso
          simp only [Int32.lt_iff_toInt_lt, Int64.lt_iff_toInt_lt, ← Int32.toInt_inj, ← Int64.toInt_inj, Int32.reduceToInt, Int64.reduceToInt] at *
          omega
        · exfalso
          simp only [Int32.lt_iff_toInt_lt, Int64.lt_iff_toInt_lt, ← Int32.toInt_inj, ← Int64.toInt_inj, Int32.reduceToInt, Int64.reduceToInt] at *
          omega
        · skip
          show WGo _ (171, [wJ t1, wS, wJ t2, wS, wJ t3, wS, wJ s1, wS, wJ s2, wS, wI mode, wI 3, wJ s3, wS, wR 0, wR 1, wR 2, wR 3, wR 1, wJ t2, wS, wJ s2, wS, wU, wU], [.int 0], [(.inr (cn0, [(fk0, (.long t1)), (fk1, .null), (fk2, .null), (fk3, (.long s1))])), (.inr (cn0, [(fk0, (.long t2)), (fk1, .null), (fk2, .null), (fk3, (.long s2))])), (.inr (cn0, [(fk0, (.long t3)), (fk1, .null), (fk2, .null), (fk3, (.long s3))])), (.inr (cn1, [(fk4, .ref 4), (fk5, .int 3)])), (.inl ((.object "com/example/chronogate/chronogate/Event"), [.ref 1, .ref 0, .ref 2, .null, .null, .null, .null, .null]))], 22) _
          refine .s (.ifT a0_171 (by decide)) <| .s (.aload a0_178 rfl rfl) ?_
          refine .callV (k := 3) (z := (⟨"com/example/chronogate/chronogate/ReleaseQueue", "peek", "()Lcom/example/chronogate/chronogate/Event;"⟩ : MethodName)) a0_180 (ok9 hw _ _ _ _) ⟨rfl, by decide⟩ (wd hw 50 rfl) (wd hw 51 rfl) (fun s hZ => notFace_of_selects (args := #[]) (mvT hZ (wd hw 53 rfl))) (wd hw 53 rfl) (wd hw 52 rfl) rfl (argsL := []) (S := []) (au9_39 hw _ _ t1 t2 t3 s1 s2 s3 _) rfl rfl rfl rfl rfl rfl (Nat.le_of_ble_eq_true rfl) (Nat.le_of_ble_eq_true rfl) ?_
          rintro _ _ _ ⟨rfl, rfl, rfl⟩
          show WGo _ (183, [wJ t1, wS, wJ t2, wS, wJ t3, wS, wJ s1, wS, wJ s2, wS, wI mode, wI 3, wJ s3, wS, wR 0, wR 1, wR 2, wR 3, wR 1, wJ t2, wS, wJ s2, wS, wU, wU], [.ref 1], [(.inr (cn0, [(fk0, (.long t1)), (fk1, .null), (fk2, .null), (fk3, (.long s1))])), (.inr (cn0, [(fk0, (.long t2)), (fk1, .null), (fk2, .null), (fk3, (.long s2))])), (.inr (cn0, [(fk0, (.long t3)), (fk1, .null), (fk2, .null), (fk3, (.long s3))])), (.inr (cn1, [(fk4, .ref 4), (fk5, .int 3)])), (.inl ((.object "com/example/chronogate/chronogate/Event"), [.ref 1, .ref 0, .ref 2, .null, .null, .null, .null, .null]))], 22) _
          refine .s (.astore (L' := [wJ t1, wS, wJ t2, wS, wJ t3, wS, wJ s1, wS, wJ s2, wS, wI mode, wI 3, wJ s3, wS, wR 0, wR 1, wR 2, wR 3, wR 1, wJ t2, wS, wJ s2, wS, wR 1, wU]) a0_183 rfl rfl) <| .s (.aload a0_185 rfl rfl) ?_
          refine .callV (k := 3) (z := (⟨"com/example/chronogate/chronogate/ReleaseQueue", "peek", "()Lcom/example/chronogate/chronogate/Event;"⟩ : MethodName)) a0_187 (ok9 hw _ _ _ _) ⟨rfl, by decide⟩ (wd hw 50 rfl) (wd hw 51 rfl) (fun s hZ => notFace_of_selects (args := #[]) (mvT hZ (wd hw 53 rfl))) (wd hw 53 rfl) (wd hw 52 rfl) rfl (argsL := []) (S := []) (au9_39 hw _ _ t1 t2 t3 s1 s2 s3 _) rfl rfl rfl rfl rfl rfl (Nat.le_of_ble_eq_true rfl) (Nat.le_of_ble_eq_true rfl) ?_
          rintro _ _ _ ⟨rfl, rfl, rfl⟩
          show WGo _ (190, [wJ t1, wS, wJ t2, wS, wJ t3, wS, wJ s1, wS, wJ s2, wS, wI mode, wI 3, wJ s3, wS, wR 0, wR 1, wR 2, wR 3, wR 1, wJ t2, wS, wJ s2, wS, wR 1, wU], [.ref 1], [(.inr (cn0, [(fk0, (.long t1)), (fk1, .null), (fk2, .null), (fk3, (.long s1))])), (.inr (cn0, [(fk0, (.long t2)), (fk1, .null), (fk2, .null), (fk3, (.long s2))])), (.inr (cn0, [(fk0, (.long t3)), (fk1, .null), (fk2, .null), (fk3, (.long s3))])), (.inr (cn1, [(fk4, .ref 4), (fk5, .int 3)])), (.inl ((.object "com/example/chronogate/chronogate/Event"), [.ref 1, .ref 0, .ref 2, .null, .null, .null, .null, .null]))], 22) _
          refine .s (.astore (L' := [wJ t1, wS, wJ t2, wS, wJ t3, wS, wJ s1, wS, wJ s2, wS, wI mode, wI 3, wJ s3, wS, wR 0, wR 1, wR 2, wR 3, wR 1, wJ t2, wS, wJ s2, wS, wR 1, wR 1]) a0_190 rfl rfl) <| .s (.aload a0_192 rfl rfl) <| .s (.aload a0_194 rfl rfl) <| .s (.acmp true 199 a0_196 rfl rfl (by decide) rfl) <| .s (.aload a0_199 rfl rfl) <| .s (.aload a0_201 rfl rfl) <| .s (.acmp true 206 a0_203 rfl rfl (by decide) rfl) ?_
          refine .s (.aload a0_206 rfl rfl) ?_
          refine .callV (k := 3) (z := (⟨"com/example/chronogate/chronogate/ReleaseQueue", "size", "()I"⟩ : MethodName)) a0_208 (ok10 hw _ _ _ _) ⟨rfl, by decide⟩ (wd hw 55 rfl) (wd hw 56 rfl) (fun s hZ => notFace_of_selects (args := #[]) (mvT hZ (wd hw 58 rfl))) (wd hw 58 rfl) (wd hw 57 rfl) rfl (argsL := []) (S := []) (au10_40 hw _ _ t1 t2 t3 s1 s2 s3 _) rfl rfl rfl rfl rfl rfl (Nat.le_of_ble_eq_true rfl) (Nat.le_of_ble_eq_true rfl) ?_
          rintro _ _ _ ⟨rfl, rfl, rfl⟩
          show WGo _ (211, [wJ t1, wS, wJ t2, wS, wJ t3, wS, wJ s1, wS, wJ s2, wS, wI mode, wI 3, wJ s3, wS, wR 0, wR 1, wR 2, wR 3, wR 1, wJ t2, wS, wJ s2, wS, wR 1, wR 1], [.int 3], [(.inr (cn0, [(fk0, (.long t1)), (fk1, .null), (fk2, .null), (fk3, (.long s1))])), (.inr (cn0, [(fk0, (.long t2)), (fk1, .null), (fk2, .null), (fk3, (.long s2))])), (.inr (cn0, [(fk0, (.long t3)), (fk1, .null), (fk2, .null), (fk3, (.long s3))])), (.inr (cn1, [(fk4, .ref 4), (fk5, .int 3)])), (.inl ((.object "com/example/chronogate/chronogate/Event"), [.ref 1, .ref 0, .ref 2, .null, .null, .null, .null, .null]))], 22) _
          refine .s (.iload a0_211 rfl) <| .s (.icmpF a0_213 (by decide)) <| .s (.iconst (1 : Int32) a0_216 rfl) <| .s (.goto a0_217) ?_
          refine .ireturn .boolean a0_221 rfl (by simp) ?_
          exact ⟨rfl, Nat.le_of_ble_eq_true rfl, Nat.le_of_ble_eq_true rfl⟩
        · exfalso
          simp only [Int32.lt_iff_toInt_lt, Int64.lt_iff_toInt_lt, ← Int32.toInt_inj, ← Int64.toInt_inj, Int32.reduceToInt, Int64.reduceToInt] at *
          omega
    · skip
      show WGo _ (104, [wJ t1, wS, wJ t2, wS, wJ t3, wS, wJ s1, wS, wJ s2, wS, wI mode, wI 3, wJ s3, wS, wR 0, wR 1, wR 2, wR 3, wU, wU, wU, wU, wU, wU, wU], [], [(.inr (cn0, [(fk0, (.long t1)), (fk1, .null), (fk2, .null), (fk3, (.long s1))])), (.inr (cn0, [(fk0, (.long t2)), (fk1, .null), (fk2, .null), (fk3, (.long s2))])), (.inr (cn0, [(fk0, (.long t3)), (fk1, .null), (fk2, .null), (fk3, (.long s3))])), (.inr (cn1, [(fk4, .ref 4), (fk5, .int 3)])), (.inl ((.object "com/example/chronogate/chronogate/Event"), [.ref 1, .ref 0, .ref 2, .null, .null, .null, .null, .null]))], 22) _
      refine .s (.aconstNull a0_104) <| .s (.astore (L' := [wJ t1, wS, wJ t2, wS, wJ t3, wS, wJ s1, wS, wJ s2, wS, wI mode, wI 3, wJ s3, wS, wR 0, wR 1, wR 2, wR 3, wN, wU, wU, wU, wU, wU, wU]) a0_105 rfl rfl) <| .s (.lloadN a0_107 rfl) <| .s (.lstore (L' := [wJ t1, wS, wJ t2, wS, wJ t3, wS, wJ s1, wS, wJ s2, wS, wI mode, wI 3, wJ s3, wS, wR 0, wR 1, wR 2, wR 3, wN, wJ t1, wS, wU, wU, wU, wU]) a0_108 rfl) <| .s (.lload a0_110 rfl) <| .s (.lstore (L' := [wJ t1, wS, wJ t2, wS, wJ t3, wS, wJ s1, wS, wJ s2, wS, wI mode, wI 3, wJ s3, wS, wR 0, wR 1, wR 2, wR 3, wN, wJ t1, wS, wJ s1, wS, wU, wU]) a0_112 rfl) <| .s (.iload a0_114 rfl) ?_
      refine .s (.iconst (1 : Int32) a0_116 rfl) <| .s (.icmpF a0_117 (by decide)) <| .s (.aload a0_120 rfl rfl) <| .s (.astore (L' := [wJ t1, wS, wJ t2, wS, wJ t3, wS, wJ s1, wS, wJ s2, wS, wI mode, wI 3, wJ s3, wS, wR 0, wR 1, wR 2, wR 3, wR 0, wJ t1, wS, wJ s1, wS, wU, wU]) a0_122 rfl rfl) <| .s (.iload a0_124 rfl) <| .s (.iconst (2 : Int32) a0_126 rfl) <| .s (.icmpF a0_127 (by decide)) ?_
      refine .s (.lloadN a0_130 rfl) <| .s (.lload a0_131 rfl) <| .s (.lload a0_133 rfl) <| .s (.lload a0_135 rfl) ?_
      refine .callS a0_137 (ok8 hw _ _ _ _) (wd hw 46 rfl) (wd hw 47 rfl) (argsL := [(.long t2), (.long s2), (.long t1), (.long s1)]) (S := []) (au8_37 hw _ _ t1 t2 t3 s1 s2 s3 _) rfl rfl rfl rfl rfl rfl (Nat.le_of_ble_eq_true rfl) (Nat.le_of_ble_eq_true rfl) ?_
      rintro _ _ _ (⟨q594, q595, q596, rfl, rfl, rfl⟩ | ⟨q597, q598, q599, rfl, rfl, rfl⟩ | ⟨q600, q601, rfl, rfl, rfl⟩ | ⟨q602, rfl, rfl, rfl⟩)
      · exfalso
        simp only [Int32.lt_iff_toInt_lt, Int64.lt_iff_toInt_lt, ← Int32.toInt_inj, ← Int64.toInt_inj, Int32.reduceToInt, Int64.reduceToInt] at *
        omega
      · exfalso
        simp only [Int32.lt_iff_toInt_lt, Int64.lt_iff_toInt_lt, ← Int32.toInt_inj, ← Int64.toInt_inj, Int32.reduceToInt, Int64.reduceToInt] at *
        omega
      · exfalso
        simp only [Int32.lt_iff_toInt_lt, Int64.lt_iff_toInt_lt, ← Int32.toInt_inj, ← Int64.toInt_inj, Int32.reduceToInt, Int64.reduceToInt] at *
        omega
      · skip
        show WGo _ (140, [wJ t1, wS, wJ t2, wS, wJ t3, wS, wJ s1, wS, wJ s2, wS, wI mode, wI 3, wJ s3, wS, wR 0, wR 1, wR 2, wR 3, wR 0, wJ t1, wS, wJ s1, wS, wU, wU], [.int 1], [(.inr (cn0, [(fk0, (.long t1)), (fk1, .null), (fk2, .null), (fk3, (.long s1))])), (.inr (cn0, [(fk0, (.long t2)), (fk1, .null), (fk2, .null), (fk3, (.long s2))])), (.inr (cn0, [(fk0, (.long t3)), (fk1, .null), (fk2, .null), (fk3, (.long s3))])), (.inr (cn1, [(fk4, .ref 4), (fk5, .int 3)])), (.inl ((.object "com/example/chronogate/chronogate/Event"), [.ref 1, .ref 0, .ref 2, .null, .null, .null, .null, .null]))], 22) _
        refine .s (.ifF a0_140 (by decide)) <| .s (.aload a0_143 rfl rfl) <| .s (.astore (L' := [wJ t1, wS, wJ t2, wS, wJ t3, wS, wJ s1, wS, wJ s2, wS, wI mode, wI 3, wJ s3, wS, wR 0, wR 1, wR 2, wR 3, wR 1, wJ t1, wS, wJ s1, wS, wU, wU]) a0_145 rfl rfl) <| .s (.lloadN a0_147 rfl) <| .s (.lstore (L' := [wJ t1, wS, wJ t2, wS, wJ t3, wS, wJ s1, wS, wJ s2, wS, wI mode, wI 3, wJ s3, wS, wR 0, wR 1, wR 2, wR 3, wR 1, wJ t2, wS, wJ s1, wS, wU, wU]) a0_148 rfl) <| .s (.lload a0_150 rfl) <| .s (.lstore (L' := [wJ t1, wS, wJ t2, wS, wJ t3, wS, wJ s1, wS, wJ s2, wS, wI mode, wI 3, wJ s3, wS, wR 0, wR 1, wR 2, wR 3, wR 1, wJ t2, wS, wJ s2, wS, wU, wU]) a0_152 rfl) ?_
        refine .s (.iload a0_154 rfl) <| .s (.iconst (3 : Int32) a0_156 rfl) <| .s (.icmpF a0_157 (by decide)) <| .s (.lload a0_160 rfl) <| .s (.lload a0_162 rfl) <| .s (.lload a0_164 rfl) <| .s (.lload a0_166 rfl) ?_
        refine .callS a0_168 (ok8 hw _ _ _ _) (wd hw 46 rfl) (wd hw 47 rfl) (argsL := [(.long t3), (.long s3), (.long t2), (.long s2)]) (S := []) (au8_38 hw _ _ t1 t2 t3 s1 s2 s3 _) rfl rfl rfl rfl rfl rfl (Nat.le_of_ble_eq_true rfl) (Nat.le_of_ble_eq_true rfl) ?_
        rintro _ _ _ (⟨q603, q604, q605, rfl, rfl, rfl⟩ | ⟨q606, q607, q608, rfl, rfl, rfl⟩ | ⟨q609, q610, rfl, rfl, rfl⟩ | ⟨q611, rfl, rfl, rfl⟩)
        · skip
          show WGo _ (171, [wJ t1, wS, wJ t2, wS, wJ t3, wS, wJ s1, wS, wJ s2, wS, wI mode, wI 3, wJ s3, wS, wR 0, wR 1, wR 2, wR 3, wR 1, wJ t2, wS, wJ s2, wS, wU, wU], [.int 0], [(.inr (cn0, [(fk0, (.long t1)), (fk1, .null), (fk2, .null), (fk3, (.long s1))])), (.inr (cn0, [(fk0, (.long t2)), (fk1, .null), (fk2, .null), (fk3, (.long s2))])), (.inr (cn0, [(fk0, (.long t3)), (fk1, .null), (fk2, .null), (fk3, (.long s3))])), (.inr (cn1, [(fk4, .ref 4), (fk5, .int 3)])), (.inl ((.object "com/example/chronogate/chronogate/Event"), [.ref 1, .ref 0, .ref 2, .null, .null, .null, .null, .null]))], 22) _
          refine .s (.ifT a0_171 (by decide)) <| .s (.aload a0_178 rfl rfl) ?_
          refine .callV (k := 3) (z := (⟨"com/example/chronogate/chronogate/ReleaseQueue", "peek", "()Lcom/example/chronogate/chronogate/Event;"⟩ : MethodName)) a0_180 (ok9 hw _ _ _ _) ⟨rfl, by decide⟩ (wd hw 50 rfl) (wd hw 51 rfl) (fun s hZ => notFace_of_selects (args := #[]) (mvT hZ (wd hw 53 rfl))) (wd hw 53 rfl) (wd hw 52 rfl) rfl (argsL := []) (S := []) (au9_39 hw _ _ t1 t2 t3 s1 s2 s3 _) rfl rfl rfl rfl rfl rfl (Nat.le_of_ble_eq_true rfl) (Nat.le_of_ble_eq_true rfl) ?_
          rintro _ _ _ ⟨rfl, rfl, rfl⟩
          show WGo _ (183, [wJ t1, wS, wJ t2, wS, wJ t3, wS, wJ s1, wS, wJ s2, wS, wI mode, wI 3, wJ s3, wS, wR 0, wR 1, wR 2, wR 3, wR 1, wJ t2, wS, wJ s2, wS, wU, wU], [.ref 1], [(.inr (cn0, [(fk0, (.long t1)), (fk1, .null), (fk2, .null), (fk3, (.long s1))])), (.inr (cn0, [(fk0, (.long t2)), (fk1, .null), (fk2, .null), (fk3, (.long s2))])), (.inr (cn0, [(fk0, (.long t3)), (fk1, .null), (fk2, .null), (fk3, (.long s3))])), (.inr (cn1, [(fk4, .ref 4), (fk5, .int 3)])), (.inl ((.object "com/example/chronogate/chronogate/Event"), [.ref 1, .ref 0, .ref 2, .null, .null, .null, .null, .null]))], 22) _
          refine .s (.astore (L' := [wJ t1, wS, wJ t2, wS, wJ t3, wS, wJ s1, wS, wJ s2, wS, wI mode, wI 3, wJ s3, wS, wR 0, wR 1, wR 2, wR 3, wR 1, wJ t2, wS, wJ s2, wS, wR 1, wU]) a0_183 rfl rfl) <| .s (.aload a0_185 rfl rfl) ?_
          refine .callV (k := 3) (z := (⟨"com/example/chronogate/chronogate/ReleaseQueue", "peek", "()Lcom/example/chronogate/chronogate/Event;"⟩ : MethodName)) a0_187 (ok9 hw _ _ _ _) ⟨rfl, by decide⟩ (wd hw 50 rfl) (wd hw 51 rfl) (fun s hZ => notFace_of_selects (args := #[]) (mvT hZ (wd hw 53 rfl))) (wd hw 53 rfl) (wd hw 52 rfl) rfl (argsL := []) (S := []) (au9_39 hw _ _ t1 t2 t3 s1 s2 s3 _) rfl rfl rfl rfl rfl rfl (Nat.le_of_ble_eq_true rfl) (Nat.le_of_ble_eq_true rfl) ?_
          rintro _ _ _ ⟨rfl, rfl, rfl⟩
          show WGo _ (190, [wJ t1, wS, wJ t2, wS, wJ t3, wS, wJ s1, wS, wJ s2, wS, wI mode, wI 3, wJ s3, wS, wR 0, wR 1, wR 2, wR 3, wR 1, wJ t2, wS, wJ s2, wS, wR 1, wU], [.ref 1], [(.inr (cn0, [(fk0, (.long t1)), (fk1, .null), (fk2, .null), (fk3, (.long s1))])), (.inr (cn0, [(fk0, (.long t2)), (fk1, .null), (fk2, .null), (fk3, (.long s2))])), (.inr (cn0, [(fk0, (.long t3)), (fk1, .null), (fk2, .null), (fk3, (.long s3))])), (.inr (cn1, [(fk4, .ref 4), (fk5, .int 3)])), (.inl ((.object "com/example/chronogate/chronogate/Event"), [.ref 1, .ref 0, .ref 2, .null, .null, .null, .null, .null]))], 22) _
          refine .s (.astore (L' := [wJ t1, wS, wJ t2, wS, wJ t3, wS, wJ s1, wS, wJ s2, wS, wI mode, wI 3, wJ s3, wS, wR 0, wR 1, wR 2, wR 3, wR 1, wJ t2, wS, wJ s2, wS, wR 1, wR 1]) a0_190 rfl rfl) <| .s (.aload a0_192 rfl rfl) <| .s (.aload a0_194 rfl rfl) <| .s (.acmp true 199 a0_196 rfl rfl (by decide) rfl) <| .s (.aload a0_199 rfl rfl) <| .s (.aload a0_201 rfl rfl) <| .s (.acmp true 206 a0_203 rfl rfl (by decide) rfl) ?_
          refine .s (.aload a0_206 rfl rfl) ?_
          refine .callV (k := 3) (z := (⟨"com/example/chronogate/chronogate/ReleaseQueue", "size", "()I"⟩ : MethodName)) a0_208 (ok10 hw _ _ _ _) ⟨rfl, by decide⟩ (wd hw 55 rfl) (wd hw 56 rfl) (fun s hZ => notFace_of_selects (args := #[]) (mvT hZ (wd hw 58 rfl))) (wd hw 58 rfl) (wd hw 57 rfl) rfl (argsL := []) (S := []) (au10_40 hw _ _ t1 t2 t3 s1 s2 s3 _) rfl rfl rfl rfl rfl rfl (Nat.le_of_ble_eq_true rfl) (Nat.le_of_ble_eq_true rfl) ?_
          rintro _ _ _ ⟨rfl, rfl, rfl⟩
          show WGo _ (211, [wJ t1, wS, wJ t2, wS, wJ t3, wS, wJ s1, wS, wJ s2, wS, wI mode, wI 3, wJ s3, wS, wR 0, wR 1, wR 2, wR 3, wR 1, wJ t2, wS, wJ s2, wS, wR 1, wR 1], [.int 3], [(.inr (cn0, [(fk0, (.long t1)), (fk1, .null), (fk2, .null), (fk3, (.long s1))])), (.inr (cn0, [(fk0, (.long t2)), (fk1, .null), (fk2, .null), (fk3, (.long s2))])), (.inr (cn0, [(fk0, (.long t3)), (fk1, .null), (fk2, .null), (fk3, (.long s3))])), (.inr (cn1, [(fk4, .ref 4), (fk5, .int 3)])), (.inl ((.object "com/example/chronogate/chronogate/Event"), [.ref 1, .ref 0, .ref 2, .null, .null, .null, .null, .null]))], 22) _
          refine .s (.iload a0_211 rfl) <| .s (.icmpF a0_213 (by decide)) <| .s (.iconst (1 : Int32) a0_216 rfl) <| .s (.goto a0_217) ?_
          refine .ireturn .boolean a0_221 rfl (by simp) ?_
          exact ⟨rfl, Nat.le_of_ble_eq_true rfl, Nat.le_of_ble_eq_true rfl⟩
        · exfalso
          simp only [Int32.lt_iff_toInt_lt, Int64.lt_iff_toInt_lt, ← Int32.toInt_inj, ← Int64.toInt_inj, Int32.reduceToInt, Int64.reduceToInt] at *
          omega
        · exfalso
          simp only [Int32.lt_iff_toInt_lt, Int64.lt_iff_toInt_lt, ← Int32.toInt_inj, ← Int64.toInt_inj, Int32.reduceToInt, Int64.reduceToInt] at *
          omega
        · exfalso
          simp only [Int32.lt_iff_toInt_lt, Int64.lt_iff_toInt_lt, ← Int32.toInt_inj, ← Int64.toInt_inj, Int32.reduceToInt, Int64.reduceToInt] at *
          omega
    · skip
      show WGo _ (104, [wJ t1, wS, wJ t2, wS, wJ t3, wS, wJ s1, wS, wJ s2, wS, wI mode, wI 3, wJ s3, wS, wR 0, wR 1, wR 2, wR 3, wU, wU, wU, wU, wU, wU, wU], [], [(.inr (cn0, [(fk0, (.long t1)), (fk1, .null), (fk2, .null), (fk3, (.long s1))])), (.inr (cn0, [(fk0, (.long t2)), (fk1, .null), (fk2, .null), (fk3, (.long s2))])), (.inr (cn0, [(fk0, (.long t3)), (fk1, .null), (fk2, .null), (fk3, (.long s3))])), (.inr (cn1, [(fk4, .ref 4), (fk5, .int 3)])), (.inl ((.object "com/example/chronogate/chronogate/Event"), [.ref 1, .ref 0, .ref 2, .null, .null, .null, .null, .null]))], 22) _
      refine .s (.aconstNull a0_104) <| .s (.astore (L' := [wJ t1, wS, wJ t2, wS, wJ t3, wS, wJ s1, wS, wJ s2, wS, wI mode, wI 3, wJ s3, wS, wR 0, wR 1, wR 2, wR 3, wN, wU, wU, wU, wU, wU, wU]) a0_105 rfl rfl) <| .s (.lloadN a0_107 rfl) <| .s (.lstore (L' := [wJ t1, wS, wJ t2, wS, wJ t3, wS, wJ s1, wS, wJ s2, wS, wI mode, wI 3, wJ s3, wS, wR 0, wR 1, wR 2, wR 3, wN, wJ t1, wS, wU, wU, wU, wU]) a0_108 rfl) <| .s (.lload a0_110 rfl) <| .s (.lstore (L' := [wJ t1, wS, wJ t2, wS, wJ t3, wS, wJ s1, wS, wJ s2, wS, wI mode, wI 3, wJ s3, wS, wR 0, wR 1, wR 2, wR 3, wN, wJ t1, wS, wJ s1, wS, wU, wU]) a0_112 rfl) <| .s (.iload a0_114 rfl) ?_
      refine .s (.iconst (1 : Int32) a0_116 rfl) <| .s (.icmpF a0_117 (by decide)) <| .s (.aload a0_120 rfl rfl) <| .s (.astore (L' := [wJ t1, wS, wJ t2, wS, wJ t3, wS, wJ s1, wS, wJ s2, wS, wI mode, wI 3, wJ s3, wS, wR 0, wR 1, wR 2, wR 3, wR 0, wJ t1, wS, wJ s1, wS, wU, wU]) a0_122 rfl rfl) <| .s (.iload a0_124 rfl) <| .s (.iconst (2 : Int32) a0_126 rfl) <| .s (.icmpF a0_127 (by decide)) ?_
      refine .s (.lloadN a0_130 rfl) <| .s (.lload a0_131 rfl) <| .s (.lload a0_133 rfl) <| .s (.lload a0_135 rfl) ?_
      refine .callS a0_137 (ok8 hw _ _ _ _) (wd hw 46 rfl) (wd hw 47 rfl) (argsL := [(.long t2), (.long s2), (.long t1), (.long s1)]) (S := []) (au8_37 hw _ _ t1 t2 t3 s1 s2 s3 _) rfl rfl rfl rfl rfl rfl (Nat.le_of_ble_eq_true rfl) (Nat.le_of_ble_eq_true rfl) ?_
      rintro _ _ _ (⟨q612, q613, q614, rfl, rfl, rfl⟩ | ⟨q615, q616, q617, rfl, rfl, rfl⟩ | ⟨q618, q619, rfl, rfl, rfl⟩ | ⟨q620, rfl, rfl, rfl⟩)
      · exfalso
        simp only [Int32.lt_iff_toInt_lt, Int64.lt_iff_toInt_lt, ← Int32.toInt_inj, ← Int64.toInt_inj, Int32.reduceToInt, Int64.reduceToInt] at *
        omega
      · exfalso
        simp only [Int32.lt_iff_toInt_lt, Int64.lt_iff_toInt_lt, ← Int32.toInt_inj, ← Int64.toInt_inj, Int32.reduceToInt, Int64.reduceToInt] at *
        omega
      · exfalso
        simp only [Int32.lt_iff_toInt_lt, Int64.lt_iff_toInt_lt, ← Int32.toInt_inj, ← Int64.toInt_inj, Int32.reduceToInt, Int64.reduceToInt] at *
        omega
      · skip
        show WGo _ (140, [wJ t1, wS, wJ t2, wS, wJ t3, wS, wJ s1, wS, wJ s2, wS, wI mode, wI 3, wJ s3, wS, wR 0, wR 1, wR 2, wR 3, wR 0, wJ t1, wS, wJ s1, wS, wU, wU], [.int 1], [(.inr (cn0, [(fk0, (.long t1)), (fk1, .null), (fk2, .null), (fk3, (.long s1))])), (.inr (cn0, [(fk0, (.long t2)), (fk1, .null), (fk2, .null), (fk3, (.long s2))])), (.inr (cn0, [(fk0, (.long t3)), (fk1, .null), (fk2, .null), (fk3, (.long s3))])), (.inr (cn1, [(fk4, .ref 4), (fk5, .int 3)])), (.inl ((.object "com/example/chronogate/chronogate/Event"), [.ref 1, .ref 0, .ref 2, .null, .null, .null, .null, .null]))], 22) _
        refine .s (.ifF a0_140 (by decide)) <| .s (.aload a0_143 rfl rfl) <| .s (.astore (L' := [wJ t1, wS, wJ t2, wS, wJ t3, wS, wJ s1, wS, wJ s2, wS, wI mode, wI 3, wJ s3, wS, wR 0, wR 1, wR 2, wR 3, wR 1, wJ t1, wS, wJ s1, wS, wU, wU]) a0_145 rfl rfl) <| .s (.lloadN a0_147 rfl) <| .s (.lstore (L' := [wJ t1, wS, wJ t2, wS, wJ t3, wS, wJ s1, wS, wJ s2, wS, wI mode, wI 3, wJ s3, wS, wR 0, wR 1, wR 2, wR 3, wR 1, wJ t2, wS, wJ s1, wS, wU, wU]) a0_148 rfl) <| .s (.lload a0_150 rfl) <| .s (.lstore (L' := [wJ t1, wS, wJ t2, wS, wJ t3, wS, wJ s1, wS, wJ s2, wS, wI mode, wI 3, wJ s3, wS, wR 0, wR 1, wR 2, wR 3, wR 1, wJ t2, wS, wJ s2, wS, wU, wU]) a0_152 rfl) ?_
        refine .s (.iload a0_154 rfl) <| .s (.iconst (3 : Int32) a0_156 rfl) <| .s (.icmpF a0_157 (by decide)) <| .s (.lload a0_160 rfl) <| .s (.lload a0_162 rfl) <| .s (.lload a0_164 rfl) <| .s (.lload a0_166 rfl) ?_
        refine .callS a0_168 (ok8 hw _ _ _ _) (wd hw 46 rfl) (wd hw 47 rfl) (argsL := [(.long t3), (.long s3), (.long t2), (.long s2)]) (S := []) (au8_38 hw _ _ t1 t2 t3 s1 s2 s3 _) rfl rfl rfl rfl rfl rfl (Nat.le_of_ble_eq_true rfl) (Nat.le_of_ble_eq_true rfl) ?_
        rintro _ _ _ (⟨q621, q622, q623, rfl, rfl, rfl⟩ | ⟨q624, q625, q626, rfl, rfl, rfl⟩ | ⟨q627, q628, rfl, rfl, rfl⟩ | ⟨q629, rfl, rfl, rfl⟩)
        · skip
          show WGo _ (171, [wJ t1, wS, wJ t2, wS, wJ t3, wS, wJ s1, wS, wJ s2, wS, wI mode, wI 3, wJ s3, wS, wR 0, wR 1, wR 2, wR 3, wR 1, wJ t2, wS, wJ s2, wS, wU, wU], [.int 0], [(.inr (cn0, [(fk0, (.long t1)), (fk1, .null), (fk2, .null), (fk3, (.long s1))])), (.inr (cn0, [(fk0, (.long t2)), (fk1, .null), (fk2, .null), (fk3, (.long s2))])), (.inr (cn0, [(fk0, (.long t3)), (fk1, .null), (fk2, .null), (fk3, (.long s3))])), (.inr (cn1, [(fk4, .ref 4), (fk5, .int 3)])), (.inl ((.object "com/example/chronogate/chronogate/Event"), [.ref 1, .ref 0, .ref 2, .null, .null, .null, .null, .null]))], 22) _
          refine .s (.ifT a0_171 (by decide)) <| .s (.aload a0_178 rfl rfl) ?_
          refine .callV (k := 3) (z := (⟨"com/example/chronogate/chronogate/ReleaseQueue", "peek", "()Lcom/example/chronogate/chronogate/Event;"⟩ : MethodName)) a0_180 (ok9 hw _ _ _ _) ⟨rfl, by decide⟩ (wd hw 50 rfl) (wd hw 51 rfl) (fun s hZ => notFace_of_selects (args := #[]) (mvT hZ (wd hw 53 rfl))) (wd hw 53 rfl) (wd hw 52 rfl) rfl (argsL := []) (S := []) (au9_39 hw _ _ t1 t2 t3 s1 s2 s3 _) rfl rfl rfl rfl rfl rfl (Nat.le_of_ble_eq_true rfl) (Nat.le_of_ble_eq_true rfl) ?_
          rintro _ _ _ ⟨rfl, rfl, rfl⟩
          show WGo _ (183, [wJ t1, wS, wJ t2, wS, wJ t3, wS, wJ s1, wS, wJ s2, wS, wI mode, wI 3, wJ s3, wS, wR 0, wR 1, wR 2, wR 3, wR 1, wJ t2, wS, wJ s2, wS, wU, wU], [.ref 1], [(.inr (cn0, [(fk0, (.long t1)), (fk1, .null), (fk2, .null), (fk3, (.long s1))])), (.inr (cn0, [(fk0, (.long t2)), (fk1, .null), (fk2, .null), (fk3, (.long s2))])), (.inr (cn0, [(fk0, (.long t3)), (fk1, .null), (fk2, .null), (fk3, (.long s3))])), (.inr (cn1, [(fk4, .ref 4), (fk5, .int 3)])), (.inl ((.object "com/example/chronogate/chronogate/Event"), [.ref 1, .ref 0, .ref 2, .null, .null, .null, .null, .null]))], 22) _
          refine .s (.astore (L' := [wJ t1, wS, wJ t2, wS, wJ t3, wS, wJ s1, wS, wJ s2, wS, wI mode, wI 3, wJ s3, wS, wR 0, wR 1, wR 2, wR 3, wR 1, wJ t2, wS, wJ s2, wS, wR 1, wU]) a0_183 rfl rfl) <| .s (.aload a0_185 rfl rfl) ?_
          refine .callV (k := 3) (z := (⟨"com/example/chronogate/chronogate/ReleaseQueue", "peek", "()Lcom/example/chronogate/chronogate/Event;"⟩ : MethodName)) a0_187 (ok9 hw _ _ _ _) ⟨rfl, by decide⟩ (wd hw 50 rfl) (wd hw 51 rfl) (fun s hZ => notFace_of_selects (args := #[]) (mvT hZ (wd hw 53 rfl))) (wd hw 53 rfl) (wd hw 52 rfl) rfl (argsL := []) (S := []) (au9_39 hw _ _ t1 t2 t3 s1 s2 s3 _) rfl rfl rfl rfl rfl rfl (Nat.le_of_ble_eq_true rfl) (Nat.le_of_ble_eq_true rfl) ?_
          rintro _ _ _ ⟨rfl, rfl, rfl⟩
          show WGo _ (190, [wJ t1, wS, wJ t2, wS, wJ t3, wS, wJ s1, wS, wJ s2, wS, wI mode, wI 3, wJ s3, wS, wR 0, wR 1, wR 2, wR 3, wR 1, wJ t2, wS, wJ s2, wS, wR 1, wU], [.ref 1], [(.inr (cn0, [(fk0, (.long t1)), (fk1, .null), (fk2, .null), (fk3, (.long s1))])), (.inr (cn0, [(fk0, (.long t2)), (fk1, .null), (fk2, .null), (fk3, (.long s2))])), (.inr (cn0, [(fk0, (.long t3)), (fk1, .null), (fk2, .null), (fk3, (.long s3))])), (.inr (cn1, [(fk4, .ref 4), (fk5, .int 3)])), (.inl ((.object "com/example/chronogate/chronogate/Event"), [.ref 1, .ref 0, .ref 2, .null, .null, .null, .null, .null]))], 22) _
          refine .s (.astore (L' := [wJ t1, wS, wJ t2, wS, wJ t3, wS, wJ s1, wS, wJ s2, wS, wI mode, wI 3, wJ s3, wS, wR 0, wR 1, wR 2, wR 3, wR 1, wJ t2, wS, wJ s2, wS, wR 1, wR 1]) a0_190 rfl rfl) <| .s (.aload a0_192 rfl rfl) <| .s (.aload a0_194 rfl rfl) <| .s (.acmp true 199 a0_196 rfl rfl (by decide) rfl) <| .s (.aload a0_199 rfl rfl) <| .s (.aload a0_201 rfl rfl) <| .s (.acmp true 206 a0_203 rfl rfl (by decide) rfl) ?_
          refine .s (.aload a0_206 rfl rfl) ?_
          refine .callV (k := 3) (z := (⟨"com/example/chronogate/chronogate/ReleaseQueue", "size", "()I"⟩ : MethodName)) a0_208 (ok10 hw _ _ _ _) ⟨rfl, by decide⟩ (wd hw 55 rfl) (wd hw 56 rfl) (fun s hZ => notFace_of_selects (args := #[]) (mvT hZ (wd hw 58 rfl))) (wd hw 58 rfl) (wd hw 57 rfl) rfl (argsL := []) (S := []) (au10_40 hw _ _ t1 t2 t3 s1 s2 s3 _) rfl rfl rfl rfl rfl rfl (Nat.le_of_ble_eq_true rfl) (Nat.le_of_ble_eq_true rfl) ?_
          rintro _ _ _ ⟨rfl, rfl, rfl⟩
          show WGo _ (211, [wJ t1, wS, wJ t2, wS, wJ t3, wS, wJ s1, wS, wJ s2, wS, wI mode, wI 3, wJ s3, wS, wR 0, wR 1, wR 2, wR 3, wR 1, wJ t2, wS, wJ s2, wS, wR 1, wR 1], [.int 3], [(.inr (cn0, [(fk0, (.long t1)), (fk1, .null), (fk2, .null), (fk3, (.long s1))])), (.inr (cn0, [(fk0, (.long t2)), (fk1, .null), (fk2, .null), (fk3, (.long s2))])), (.inr (cn0, [(fk0, (.long t3)), (fk1, .null), (fk2, .null), (fk3, (.long s3))])), (.inr (cn1, [(fk4, .ref 4), (fk5, .int 3)])), (.inl ((.object "com/example/chronogate/chronogate/Event"), [.ref 1, .ref 0, .ref 2, .null, .null, .null, .null, .null]))], 22) _
          refine .s (.iload a0_211 rfl) <| .s (.icmpF a0_213 (by decide)) <| .s (.iconst (1 : Int32) a0_216 rfl) <| .s (.goto a0_217) ?_
          refine .ireturn .boolean a0_221 rfl (by simp) ?_
          exact ⟨rfl, Nat.le_of_ble_eq_true rfl, Nat.le_of_ble_eq_true rfl⟩
        · exfalso
          simp only [Int32.lt_iff_toInt_lt, Int64.lt_iff_toInt_lt, ← Int32.toInt_inj, ← Int64.toInt_inj, Int32.reduceToInt, Int64.reduceToInt] at *
          omega
        · exfalso
          simp only [Int32.lt_iff_toInt_lt, Int64.lt_iff_toInt_lt, ← Int32.toInt_inj, ← Int64.toInt_inj, Int32.reduceToInt, Int64.reduceToInt] at *
          omega
        · exfalso
          simp only [Int32.lt_iff_toInt_lt, Int64.lt_iff_toInt_lt, ← Int32.toInt_inj, ← Int64.toInt_inj, Int32.reduceToInt, Int64.reduceToInt] at *
          omega
    · skip
      show WGo _ (104, [wJ t1, wS, wJ t2, wS, wJ t3, wS, wJ s1, wS, wJ s2, wS, wI mode, wI 3, wJ s3, wS, wR 0, wR 1, wR 2, wR 3, wU, wU, wU, wU, wU, wU, wU], [], [(.inr (cn0, [(fk0, (.long t1)), (fk1, .null), (fk2, .null), (fk3, (.long s1))])), (.inr (cn0, [(fk0, (.long t2)), (fk1, .null), (fk2, .null), (fk3, (.long s2))])), (.inr (cn0, [(fk0, (.long t3)), (fk1, .null), (fk2, .null), (fk3, (.long s3))])), (.inr (cn1, [(fk4, .ref 4), (fk5, .int 3)])), (.inl ((.object "com/example/chronogate/chronogate/Event"), [.ref 2, .ref 0, .ref 1, .null, .null, .null, .null, .null]))], 22) _
      refine .s (.aconstNull a0_104) <| .s (.astore (L' := [wJ t1, wS, wJ t2, wS, wJ t3, wS, wJ s1, wS, wJ s2, wS, wI mode, wI 3, wJ s3, wS, wR 0, wR 1, wR 2, wR 3, wN, wU, wU, wU, wU, wU, wU]) a0_105 rfl rfl) <| .s (.lloadN a0_107 rfl) <| .s (.lstore (L' := [wJ t1, wS, wJ t2, wS, wJ t3, wS, wJ s1, wS, wJ s2, wS, wI mode, wI 3, wJ s3, wS, wR 0, wR 1, wR 2, wR 3, wN, wJ t1, wS, wU, wU, wU, wU]) a0_108 rfl) <| .s (.lload a0_110 rfl) <| .s (.lstore (L' := [wJ t1, wS, wJ t2, wS, wJ t3, wS, wJ s1, wS, wJ s2, wS, wI mode, wI 3, wJ s3, wS, wR 0, wR 1, wR 2, wR 3, wN, wJ t1, wS, wJ s1, wS, wU, wU]) a0_112 rfl) <| .s (.iload a0_114 rfl) ?_
      refine .s (.iconst (1 : Int32) a0_116 rfl) <| .s (.icmpF a0_117 (by decide)) <| .s (.aload a0_120 rfl rfl) <| .s (.astore (L' := [wJ t1, wS, wJ t2, wS, wJ t3, wS, wJ s1, wS, wJ s2, wS, wI mode, wI 3, wJ s3, wS, wR 0, wR 1, wR 2, wR 3, wR 0, wJ t1, wS, wJ s1, wS, wU, wU]) a0_122 rfl rfl) <| .s (.iload a0_124 rfl) <| .s (.iconst (2 : Int32) a0_126 rfl) <| .s (.icmpF a0_127 (by decide)) ?_
      refine .s (.lloadN a0_130 rfl) <| .s (.lload a0_131 rfl) <| .s (.lload a0_133 rfl) <| .s (.lload a0_135 rfl) ?_
      refine .callS a0_137 (ok8 hw _ _ _ _) (wd hw 46 rfl) (wd hw 47 rfl) (argsL := [(.long t2), (.long s2), (.long t1), (.long s1)]) (S := []) (au8_41 hw _ _ t1 t2 t3 s1 s2 s3 _) rfl rfl rfl rfl rfl rfl (Nat.le_of_ble_eq_true rfl) (Nat.le_of_ble_eq_true rfl) ?_
      rintro _ _ _ (⟨q630, q631, q632, rfl, rfl, rfl⟩ | ⟨q633, q634, q635, rfl, rfl, rfl⟩ | ⟨q636, q637, rfl, rfl, rfl⟩ | ⟨q638, rfl, rfl, rfl⟩)
      · exfalso
        simp only [Int32.lt_iff_toInt_lt, Int64.lt_iff_toInt_lt, ← Int32.toInt_inj, ← Int64.toInt_inj, Int32.reduceToInt, Int64.reduceToInt] at *
        omega
      · exfalso
        simp only [Int32.lt_iff_toInt_lt, Int64.lt_iff_toInt_lt, ← Int32.toInt_inj, ← Int64.toInt_inj, Int32.reduceToInt, Int64.reduceToInt] at *
        omega
      · exfalso
        simp only [Int32.lt_iff_toInt_lt, Int64.lt_iff_toInt_lt, ← Int32.toInt_inj, ← Int64.toInt_inj, Int32.reduceToInt, Int64.reduceToInt] at *
        omega
      · skip
        show WGo _ (140, [wJ t1, wS, wJ t2, wS, wJ t3, wS, wJ s1, wS, wJ s2, wS, wI mode, wI 3, wJ s3, wS, wR 0, wR 1, wR 2, wR 3, wR 0, wJ t1, wS, wJ s1, wS, wU, wU], [.int 1], [(.inr (cn0, [(fk0, (.long t1)), (fk1, .null), (fk2, .null), (fk3, (.long s1))])), (.inr (cn0, [(fk0, (.long t2)), (fk1, .null), (fk2, .null), (fk3, (.long s2))])), (.inr (cn0, [(fk0, (.long t3)), (fk1, .null), (fk2, .null), (fk3, (.long s3))])), (.inr (cn1, [(fk4, .ref 4), (fk5, .int 3)])), (.inl ((.object "com/example/chronogate/chronogate/Event"), [.ref 2, .ref 0, .ref 1, .null, .null, .null, .null, .null]))], 22) _
        refine .s (.ifF a0_140 (by decide)) <| .s (.aload a0_143 rfl rfl) <| .s (.astore (L' := [wJ t1, wS, wJ t2, wS, wJ t3, wS, wJ s1, wS, wJ s2, wS, wI mode, wI 3, wJ s3, wS, wR 0, wR 1, wR 2, wR 3, wR 1, wJ t1, wS, wJ s1, wS, wU, wU]) a0_145 rfl rfl) <| .s (.lloadN a0_147 rfl) <| .s (.lstore (L' := [wJ t1, wS, wJ t2, wS, wJ t3, wS, wJ s1, wS, wJ s2, wS, wI mode, wI 3, wJ s3, wS, wR 0, wR 1, wR 2, wR 3, wR 1, wJ t2, wS, wJ s1, wS, wU, wU]) a0_148 rfl) <| .s (.lload a0_150 rfl) <| .s (.lstore (L' := [wJ t1, wS, wJ t2, wS, wJ t3, wS, wJ s1, wS, wJ s2, wS, wI mode, wI 3, wJ s3, wS, wR 0, wR 1, wR 2, wR 3, wR 1, wJ t2, wS, wJ s2, wS, wU, wU]) a0_152 rfl) ?_
        refine .s (.iload a0_154 rfl) <| .s (.iconst (3 : Int32) a0_156 rfl) <| .s (.icmpF a0_157 (by decide)) <| .s (.lload a0_160 rfl) <| .s (.lload a0_162 rfl) <| .s (.lload a0_164 rfl) <| .s (.lload a0_166 rfl) ?_
        refine .callS a0_168 (ok8 hw _ _ _ _) (wd hw 46 rfl) (wd hw 47 rfl) (argsL := [(.long t3), (.long s3), (.long t2), (.long s2)]) (S := []) (au8_42 hw _ _ t1 t2 t3 s1 s2 s3 _) rfl rfl rfl rfl rfl rfl (Nat.le_of_ble_eq_true rfl) (Nat.le_of_ble_eq_true rfl) ?_
        rintro _ _ _ (⟨q639, q640, q641, rfl, rfl, rfl⟩ | ⟨q642, q643, q644, rfl, rfl, rfl⟩ | ⟨q645, q646, rfl, rfl, rfl⟩ | ⟨q647, rfl, rfl, rfl⟩)
        · exfalso
          simp only [Int32.lt_iff_toInt_lt, Int64.lt_iff_toInt_lt, ← Int32.toInt_inj, ← Int64.toInt_inj, Int32.reduceToInt, Int64.reduceToInt] at *
          omega
        · skip
          show WGo _ (171, [wJ t1, wS, wJ t2, wS, wJ t3, wS, wJ s1, wS, wJ s2, wS, wI mode, wI 3, wJ s3, wS, wR 0, wR 1, wR 2, wR 3, wR 1, wJ t2, wS, wJ s2, wS, wU, wU], [.int 1], [(.inr (cn0, [(fk0, (.long t1)), (fk1, .null), (fk2, .null), (fk3, (.long s1))])), (.inr (cn0, [(fk0, (.long t2)), (fk1, .null), (fk2, .null), (fk3, (.long s2))])), (.inr (cn0, [(fk0, (.long t3)), (fk1, .null), (fk2, .null), (fk3, (.long s3))])), (.inr (cn1, [(fk4, .ref 4), (fk5, .int 3)])), (.inl ((.object "com/example/chronogate/chronogate/Event"), [.ref 2, .ref 0, .ref 1, .null, .null, .null, .null, .null]))], 22) _
          refine .s (.ifF a0_171 (by decide)) <| .s (.aload a0_174 rfl rfl) <| .s (.astore (L' := [wJ t1, wS, wJ t2, wS, wJ t3, wS, wJ s1, wS, wJ s2, wS, wI mode, wI 3, wJ s3, wS, wR 0, wR 1, wR 2, wR 3, wR 2, wJ t2, wS, wJ s2, wS, wU, wU]) a0_176 rfl rfl) <| .s (.aload a0_178 rfl rfl) ?_
          refine .callV (k := 3) (z := (⟨"com/example/chronogate/chronogate/ReleaseQueue", "peek", "()Lcom/example/chronogate/chronogate/Event;"⟩ : MethodName)) a0_180 (ok9 hw _ _ _ _) ⟨rfl, by decide⟩ (wd hw 50 rfl) (wd hw 51 rfl) (fun s hZ => notFace_of_selects (args := #[]) (mvT hZ (wd hw 53 rfl))) (wd hw 53 rfl) (wd hw 52 rfl) rfl (argsL := []) (S := []) (au9_43 hw _ _ t1 t2 t3 s1 s2 s3 _) rfl rfl rfl rfl rfl rfl (Nat.le_of_ble_eq_true rfl) (Nat.le_of_ble_eq_true rfl) ?_
          rintro _ _ _ ⟨rfl, rfl, rfl⟩
          show WGo _ (183, [wJ t1, wS, wJ t2, wS, wJ t3, wS, wJ s1, wS, wJ s2, wS, wI mode, wI 3, wJ s3, wS, wR 0, wR 1, wR 2, wR 3, wR 2, wJ t2, wS, wJ s2, wS, wU, wU], [.ref 2], [(.inr (cn0, [(fk0, (.long t1)), (fk1, .null), (fk2, .null), (fk3, (.long s1))])), (.inr (cn0, [(fk0, (.long t2)), (fk1, .null), (fk2, .null), (fk3, (.long s2))])), (.inr (cn0, [(fk0, (.long t3)), (fk1, .null), (fk2, .null), (fk3, (.long s3))])), (.inr (cn1, [(fk4, .ref 4), (fk5, .int 3)])), (.inl ((.object "com/example/chronogate/chronogate/Event"), [.ref 2, .ref 0, .ref 1, .null, .null, .null, .null, .null]))], 22) _
          refine .s (.astore (L' := [wJ t1, wS, wJ t2, wS, wJ t3, wS, wJ s1, wS, wJ s2, wS, wI mode, wI 3, wJ s3, wS, wR 0, wR 1, wR 2, wR 3, wR 2, wJ t2, wS, wJ s2, wS, wR 2, wU]) a0_183 rfl rfl) <| .s (.aload a0_185 rfl rfl) ?_
          refine .callV (k := 3) (z := (⟨"com/example/chronogate/chronogate/ReleaseQueue", "peek", "()Lcom/example/chronogate/chronogate/Event;"⟩ : MethodName)) a0_187 (ok9 hw _ _ _ _) ⟨rfl, by decide⟩ (wd hw 50 rfl) (wd hw 51 rfl) (fun s hZ => notFace_of_selects (args := #[]) (mvT hZ (wd hw 53 rfl))) (wd hw 53 rfl) (wd hw 52 rfl) rfl (argsL := []) (S := []) (au9_43 hw _ _ t1 t2 t3 s1 s2 s3 _) rfl rfl rfl rfl rfl rfl (Nat.le_of_ble_eq_true rfl) (Nat.le_of_ble_eq_true rfl) ?_
          rintro _ _ _ ⟨rfl, rfl, rfl⟩
          show WGo _ (190, [wJ t1, wS, wJ t2, wS, wJ t3, wS, wJ s1, wS, wJ s2, wS, wI mode, wI 3, wJ s3, wS, wR 0, wR 1, wR 2, wR 3, wR 2, wJ t2, wS, wJ s2, wS, wR 2, wU], [.ref 2], [(.inr (cn0, [(fk0, (.long t1)), (fk1, .null), (fk2, .null), (fk3, (.long s1))])), (.inr (cn0, [(fk0, (.long t2)), (fk1, .null), (fk2, .null), (fk3, (.long s2))])), (.inr (cn0, [(fk0, (.long t3)), (fk1, .null), (fk2, .null), (fk3, (.long s3))])), (.inr (cn1, [(fk4, .ref 4), (fk5, .int 3)])), (.inl ((.object "com/example/chronogate/chronogate/Event"), [.ref 2, .ref 0, .ref 1, .null, .null, .null, .null, .null]))], 22) _
          refine .s (.astore (L' := [wJ t1, wS, wJ t2, wS, wJ t3, wS, wJ s1, wS, wJ s2, wS, wI mode, wI 3, wJ s3, wS, wR 0, wR 1, wR 2, wR 3, wR 2, wJ t2, wS, wJ s2, wS, wR 2, wR 2]) a0_190 rfl rfl) <| .s (.aload a0_192 rfl rfl) <| .s (.aload a0_194 rfl rfl) <| .s (.acmp true 199 a0_196 rfl rfl (by decide) rfl) <| .s (.aload a0_199 rfl rfl) <| .s (.aload a0_201 rfl rfl) <| .s (.acmp true 206 a0_203 rfl rfl (by decide) rfl) ?_
          refine .s (.aload a0_206 rfl rfl) ?_
          refine .callV (k := 3) (z := (⟨"com/example/chronogate/chronogate/ReleaseQueue", "size", "()I"⟩ : MethodName)) a0_208 (ok10 hw _ _ _ _) ⟨rfl, by decide⟩ (wd hw 55 rfl) (wd hw 56 rfl) (fun s hZ => notFace_of_selects (args := #[]) (mvT hZ (wd hw 58 rfl))) (wd hw 58 rfl) (wd hw 57 rfl) rfl (argsL := []) (S := []) (au10_44 hw _ _ t1 t2 t3 s1 s2 s3 _) rfl rfl rfl rfl rfl rfl (Nat.le_of_ble_eq_true rfl) (Nat.le_of_ble_eq_true rfl) ?_
          rintro _ _ _ ⟨rfl, rfl, rfl⟩
          show WGo _ (211, [wJ t1, wS, wJ t2, wS, wJ t3, wS, wJ s1, wS, wJ s2, wS, wI mode, wI 3, wJ s3, wS, wR 0, wR 1, wR 2, wR 3, wR 2, wJ t2, wS, wJ s2, wS, wR 2, wR 2], [.int 3], [(.inr (cn0, [(fk0, (.long t1)), (fk1, .null), (fk2, .null), (fk3, (.long s1))])), (.inr (cn0, [(fk0, (.long t2)), (fk1, .null), (fk2, .null), (fk3, (.long s2))])), (.inr (cn0, [(fk0, (.long t3)), (fk1, .null), (fk2, .null), (fk3, (.long s3))])), (.inr (cn1, [(fk4, .ref 4), (fk5, .int 3)])), (.inl ((.object "com/example/chronogate/chronogate/Event"), [.ref 2, .ref 0, .ref 1, .null, .null, .null, .null, .null]))], 22) _
          refine .s (.iload a0_211 rfl) <| .s (.icmpF a0_213 (by decide)) <| .s (.iconst (1 : Int32) a0_216 rfl) <| .s (.goto a0_217) ?_
          refine .ireturn .boolean a0_221 rfl (by simp) ?_
          exact ⟨rfl, Nat.le_of_ble_eq_true rfl, Nat.le_of_ble_eq_true rfl⟩
        · exfalso
          simp only [Int32.lt_iff_toInt_lt, Int64.lt_iff_toInt_lt, ← Int32.toInt_inj, ← Int64.toInt_inj, Int32.reduceToInt, Int64.reduceToInt] at *
          omega
        · exfalso
          simp only [Int32.lt_iff_toInt_lt, Int64.lt_iff_toInt_lt, ← Int32.toInt_inj, ← Int64.toInt_inj, Int32.reduceToInt, Int64.reduceToInt] at *
          omega
    · skip
      show WGo _ (104, [wJ t1, wS, wJ t2, wS, wJ t3, wS, wJ s1, wS, wJ s2, wS, wI mode, wI 3, wJ s3, wS, wR 0, wR 1, wR 2, wR 3, wU, wU, wU, wU, wU, wU, wU], [], [(.inr (cn0, [(fk0, (.long t1)), (fk1, .null), (fk2, .null), (fk3, (.long s1))])), (.inr (cn0, [(fk0, (.long t2)), (fk1, .null), (fk2, .null), (fk3, (.long s2))])), (.inr (cn0, [(fk0, (.long t3)), (fk1, .null), (fk2, .null), (fk3, (.long s3))])), (.inr (cn1, [(fk4, .ref 4), (fk5, .int 3)])), (.inl ((.object "com/example/chronogate/chronogate/Event"), [.ref 2, .ref 0, .ref 1, .null, .null, .null, .null, .null]))], 22) _
      refine .s (.aconstNull a0_104) <| .s (.astore (L' := [wJ t1, wS, wJ t2, wS, wJ t3, wS, wJ s1, wS, wJ s2, wS, wI mode, wI 3, wJ s3, wS, wR 0, wR 1, wR 2, wR 3, wN, wU, wU, wU, wU, wU, wU]) a0_105 rfl rfl) <| .s (.lloadN a0_107 rfl) <| .s (.lstore (L' := [wJ t1, wS, wJ t2, wS, wJ t3, wS, wJ s1, wS, wJ s2, wS, wI mode, wI 3, wJ s3, wS, wR 0, wR 1, wR 2, wR 3, wN, wJ t1, wS, wU, wU, wU, wU]) a0_108 rfl) <| .s (.lload a0_110 rfl) <| .s (.lstore (L' := [wJ t1, wS, wJ t2, wS, wJ t3, wS, wJ s1, wS, wJ s2, wS, wI mode, wI 3, wJ s3, wS, wR 0, wR 1, wR 2, wR 3, wN, wJ t1, wS, wJ s1, wS, wU, wU]) a0_112 rfl) <| .s (.iload a0_114 rfl) ?_
      refine .s (.iconst (1 : Int32) a0_116 rfl) <| .s (.icmpF a0_117 (by decide)) <| .s (.aload a0_120 rfl rfl) <| .s (.astore (L' := [wJ t1, wS, wJ t2, wS, wJ t3, wS, wJ s1, wS, wJ s2, wS, wI mode, wI 3, wJ s3, wS, wR 0, wR 1, wR 2, wR 3, wR 0, wJ t1, wS, wJ s1, wS, wU, wU]) a0_122 rfl rfl) <| .s (.iload a0_124 rfl) <| .s (.iconst (2 : Int32) a0_126 rfl) <| .s (.icmpF a0_127 (by decide)) ?_
      refine .s (.lloadN a0_130 rfl) <| .s (.lload a0_131 rfl) <| .s (.lload a0_133 rfl) <| .s (.lload a0_135 rfl) ?_
      refine .callS a0_137 (ok8 hw _ _ _ _) (wd hw 46 rfl) (wd hw 47 rfl) (argsL := [(.long t2), (.long s2), (.long t1), (.long s1)]) (S := []) (au8_41 hw _ _ t1 t2 t3 s1 s2 s3 _) rfl rfl rfl rfl rfl rfl (Nat.le_of_ble_eq_true rfl) (Nat.le_of_ble_eq_true rfl) ?_
      rintro _ _ _ (⟨q648, q649, q650, rfl, rfl, rfl⟩ | ⟨q651, q652, q653, rfl, rfl, rfl⟩ | ⟨q654, q655, rfl, rfl, rfl⟩ | ⟨q656, rfl, rfl, rfl⟩)
      · exfalso
        simp only [Int32.lt_iff_toInt_lt, Int64.lt_iff_toInt_lt, ← Int32.toInt_inj, ← Int64.toInt_inj, Int32.reduceToInt, Int64.reduceToInt] at *
        omega
      · exfalso
        simp only [Int32.lt_iff_toInt_lt, Int64.lt_iff_toInt_lt, ← Int32.toInt_inj, ← Int64.toInt_inj, Int32.reduceToInt, Int64.reduceToInt] at *
        omega
      · exfalso
        simp only [Int32.lt_iff_toInt_lt, Int64.lt_iff_toInt_lt, ← Int32.toInt_inj, ← Int64.toInt_inj, Int32.reduceToInt, Int64.reduceToInt] at *
        omega
      · skip
        show WGo _ (140, [wJ t1, wS, wJ t2, wS, wJ t3, wS, wJ s1, wS, wJ s2, wS, wI mode, wI 3, wJ s3, wS, wR 0, wR 1, wR 2, wR 3, wR 0, wJ t1, wS, wJ s1, wS, wU, wU], [.int 1], [(.inr (cn0, [(fk0, (.long t1)), (fk1, .null), (fk2, .null), (fk3, (.long s1))])), (.inr (cn0, [(fk0, (.long t2)), (fk1, .null), (fk2, .null), (fk3, (.long s2))])), (.inr (cn0, [(fk0, (.long t3)), (fk1, .null), (fk2, .null), (fk3, (.long s3))])), (.inr (cn1, [(fk4, .ref 4), (fk5, .int 3)])), (.inl ((.object "com/example/chronogate/chronogate/Event"), [.ref 2, .ref 0, .ref 1, .null, .null, .null, .null, .null]))], 22) _
        refine .s (.ifF a0_140 (by decide)) <| .s (.aload a0_143 rfl rfl) <| .s (.astore (L' := [wJ t1, wS, wJ t2, wS, wJ t3, wS, wJ s1, wS, wJ s2, wS, wI mode, wI 3, wJ s3, wS, wR 0, wR 1, wR 2, wR 3, wR 1, wJ t1, wS, wJ s1, wS, wU, wU]) a0_145 rfl rfl) <| .s (.lloadN a0_147 rfl) <| .s (.lstore (L' := [wJ t1, wS, wJ t2, wS, wJ t3, wS, wJ s1, wS, wJ s2, wS, wI mode, wI 3, wJ s3, wS, wR 0, wR 1, wR 2, wR 3, wR 1, wJ t2, wS, wJ s1, wS, wU, wU]) a0_148 rfl) <| .s (.lload a0_150 rfl) <| .s (.lstore (L' := [wJ t1, wS, wJ t2, wS, wJ t3, wS, wJ s1, wS, wJ s2, wS, wI mode, wI 3, wJ s3, wS, wR 0, wR 1, wR 2, wR 3, wR 1, wJ t2, wS, wJ s2, wS, wU, wU]) a0_152 rfl) ?_
        refine .s (.iload a0_154 rfl) <| .s (.iconst (3 : Int32) a0_156 rfl) <| .s (.icmpF a0_157 (by decide)) <| .s (.lload a0_160 rfl) <| .s (.lload a0_162 rfl) <| .s (.lload a0_164 rfl) <| .s (.lload a0_166 rfl) ?_
        refine .callS a0_168 (ok8 hw _ _ _ _) (wd hw 46 rfl) (wd hw 47 rfl) (argsL := [(.long t3), (.long s3), (.long t2), (.long s2)]) (S := []) (au8_42 hw _ _ t1 t2 t3 s1 s2 s3 _) rfl rfl rfl rfl rfl rfl (Nat.le_of_ble_eq_true rfl) (Nat.le_of_ble_eq_true rfl) ?_
        rintro _ _ _ (⟨q657, q658, q659, rfl, rfl, rfl⟩ | ⟨q660, q661, q662, rfl, rfl, rfl⟩ | ⟨q663, q664, rfl, rfl, rfl⟩ | ⟨q665, rfl, rfl, rfl⟩)
        · exfalso
          simp only [Int32.lt_iff_toInt_lt, Int64.lt_iff_toInt_lt, ← Int32.toInt_inj, ← Int64.toInt_inj, Int32.reduceToInt, Int64.reduceToInt] at *
          omega
        · exfalso
          simp only [Int32.lt_iff_toInt_lt, Int64.lt_iff_toInt_lt, ← Int32.toInt_inj, ← Int64.toInt_inj, Int32.reduceToInt, Int64.reduceToInt] at *
          omega
        · exfalso
          simp only [Int32.lt_iff_toInt_lt, Int64.lt_iff_toInt_lt, ← Int32.toInt_inj, ← Int64.toInt_inj, Int32.reduceToInt, Int64.reduceToInt] at *
          omega
        · skip
          show WGo _ (171, [wJ t1, wS, wJ t2, wS, wJ t3, wS, wJ s1, wS, wJ s2, wS, wI mode, wI 3, wJ s3, wS, wR 0, wR 1, wR 2, wR 3, wR 1, wJ t2, wS, wJ s2, wS, wU, wU], [.int 1], [(.inr (cn0, [(fk0, (.long t1)), (fk1, .null), (fk2, .null), (fk3, (.long s1))])), (.inr (cn0, [(fk0, (.long t2)), (fk1, .null), (fk2, .null), (fk3, (.long s2))])), (.inr (cn0, [(fk0, (.long t3)), (fk1, .null), (fk2, .null), (fk3, (.long s3))])), (.inr (cn1, [(fk4, .ref 4), (fk5, .int 3)])), (.inl ((.object "com/example/chronogate/chronogate/Event"), [.ref 2, .ref 0, .ref 1, .null, .null, .null, .null, .null]))], 22) _
          refine .s (.ifF a0_171 (by decide)) <| .s (.aload a0_174 rfl rfl) <| .s (.astore (L' := [wJ t1, wS, wJ t2, wS, wJ t3, wS, wJ s1, wS, wJ s2, wS, wI mode, wI 3, wJ s3, wS, wR 0, wR 1, wR 2, wR 3, wR 2, wJ t2, wS, wJ s2, wS, wU, wU]) a0_176 rfl rfl) <| .s (.aload a0_178 rfl rfl) ?_
          refine .callV (k := 3) (z := (⟨"com/example/chronogate/chronogate/ReleaseQueue", "peek", "()Lcom/example/chronogate/chronogate/Event;"⟩ : MethodName)) a0_180 (ok9 hw _ _ _ _) ⟨rfl, by decide⟩ (wd hw 50 rfl) (wd hw 51 rfl) (fun s hZ => notFace_of_selects (args := #[]) (mvT hZ (wd hw 53 rfl))) (wd hw 53 rfl) (wd hw 52 rfl) rfl (argsL := []) (S := []) (au9_43 hw _ _ t1 t2 t3 s1 s2 s3 _) rfl rfl rfl rfl rfl rfl (Nat.le_of_ble_eq_true rfl) (Nat.le_of_ble_eq_true rfl) ?_
          rintro _ _ _ ⟨rfl, rfl, rfl⟩
          show WGo _ (183, [wJ t1, wS, wJ t2, wS, wJ t3, wS, wJ s1, wS, wJ s2, wS, wI mode, wI 3, wJ s3, wS, wR 0, wR 1, wR 2, wR 3, wR 2, wJ t2, wS, wJ s2, wS, wU, wU], [.ref 2], [(.inr (cn0, [(fk0, (.long t1)), (fk1, .null), (fk2, .null), (fk3, (.long s1))])), (.inr (cn0, [(fk0, (.long t2)), (fk1, .null), (fk2, .null), (fk3, (.long s2))])), (.inr (cn0, [(fk0, (.long t3)), (fk1, .null), (fk2, .null), (fk3, (.long s3))])), (.inr (cn1, [(fk4, .ref 4), (fk5, .int 3)])), (.inl ((.object "com/example/chronogate/chronogate/Event"), [.ref 2, .ref 0, .ref 1, .null, .null, .null, .null, .null]))], 22) _
          refine .s (.astore (L' := [wJ t1, wS, wJ t2, wS, wJ t3, wS, wJ s1, wS, wJ s2, wS, wI mode, wI 3, wJ s3, wS, wR 0, wR 1, wR 2, wR 3, wR 2, wJ t2, wS, wJ s2, wS, wR 2, wU]) a0_183 rfl rfl) <| .s (.aload a0_185 rfl rfl) ?_
          refine .callV (k := 3) (z := (⟨"com/example/chronogate/chronogate/ReleaseQueue", "peek", "()Lcom/example/chronogate/chronogate/Event;"⟩ : MethodName)) a0_187 (ok9 hw _ _ _ _) ⟨rfl, by decide⟩ (wd hw 50 rfl) (wd hw 51 rfl) (fun s hZ => notFace_of_selects (args := #[]) (mvT hZ (wd hw 53 rfl))) (wd hw 53 rfl) (wd hw 52 rfl) rfl (argsL := []) (S := []) (au9_43 hw _ _ t1 t2 t3 s1 s2 s3 _) rfl rfl rfl rfl rfl rfl (Nat.le_of_ble_eq_true rfl) (Nat.le_of_ble_eq_true rfl) ?_
          rintro _ _ _ ⟨rfl, rfl, rfl⟩
          show WGo _ (190, [wJ t1, wS, wJ t2, wS, wJ t3, wS, wJ s1, wS, wJ s2, wS, wI mode, wI 3, wJ s3, wS, wR 0, wR 1, wR 2, wR 3, wR 2, wJ t2, wS, wJ s2, wS, wR 2, wU], [.ref 2], [(.inr (cn0, [(fk0, (.long t1)), (fk1, .null), (fk2, .null), (fk3, (.long s1))])), (.inr (cn0, [(fk0, (.long t2)), (fk1, .null), (fk2, .null), (fk3, (.long s2))])), (.inr (cn0, [(fk0, (.long t3)), (fk1, .null), (fk2, .null), (fk3, (.long s3))])), (.inr (cn1, [(fk4, .ref 4), (fk5, .int 3)])), (.inl ((.object "com/example/chronogate/chronogate/Event"), [.ref 2, .ref 0, .ref 1, .null, .null, .null, .null, .null]))], 22) _
          refine .s (.astore (L' := [wJ t1, wS, wJ t2, wS, wJ t3, wS, wJ s1, wS, wJ s2, wS, wI mode, wI 3, wJ s3, wS, wR 0, wR 1, wR 2, wR 3, wR 2, wJ t2, wS, wJ s2, wS, wR 2, wR 2]) a0_190 rfl rfl) <| .s (.aload a0_192 rfl rfl) <| .s (.aload a0_194 rfl rfl) <| .s (.acmp true 199 a0_196 rfl rfl (by decide) rfl) <| .s (.aload a0_199 rfl rfl) <| .s (.aload a0_201 rfl rfl) <| .s (.acmp true 206 a0_203 rfl rfl (by decide) rfl) ?_
          refine .s (.aload a0_206 rfl rfl) ?_
          refine .callV (k := 3) (z := (⟨"com/example/chronogate/chronogate/ReleaseQueue", "size", "()I"⟩ : MethodName)) a0_208 (ok10 hw _ _ _ _) ⟨rfl, by decide⟩ (wd hw 55 rfl) (wd hw 56 rfl) (fun s hZ => notFace_of_selects (args := #[]) (mvT hZ (wd hw 58 rfl))) (wd hw 58 rfl) (wd hw 57 rfl) rfl (argsL := []) (S := []) (au10_44 hw _ _ t1 t2 t3 s1 s2 s3 _) rfl rfl rfl rfl rfl rfl (Nat.le_of_ble_eq_true rfl) (Nat.le_of_ble_eq_true rfl) ?_
          rintro _ _ _ ⟨rfl, rfl, rfl⟩
          show WGo _ (211, [wJ t1, wS, wJ t2, wS, wJ t3, wS, wJ s1, wS, wJ s2, wS, wI mode, wI 3, wJ s3, wS, wR 0, wR 1, wR 2, wR 3, wR 2, wJ t2, wS, wJ s2, wS, wR 2, wR 2], [.int 3], [(.inr (cn0, [(fk0, (.long t1)), (fk1, .null), (fk2, .null), (fk3, (.long s1))])), (.inr (cn0, [(fk0, (.long t2)), (fk1, .null), (fk2, .null), (fk3, (.long s2))])), (.inr (cn0, [(fk0, (.long t3)), (fk1, .null), (fk2, .null), (fk3, (.long s3))])), (.inr (cn1, [(fk4, .ref 4), (fk5, .int 3)])), (.inl ((.object "com/example/chronogate/chronogate/Event"), [.ref 2, .ref 0, .ref 1, .null, .null, .null, .null, .null]))], 22) _
          refine .s (.iload a0_211 rfl) <| .s (.icmpF a0_213 (by decide)) <| .s (.iconst (1 : Int32) a0_216 rfl) <| .s (.goto a0_217) ?_
          refine .ireturn .boolean a0_221 rfl (by simp) ?_
          exact ⟨rfl, Nat.le_of_ble_eq_true rfl, Nat.le_of_ble_eq_true rfl⟩
theorem law_go (Z : State) (a0 : Array Value) (hw : ∀ d ∈ tables_1, d.before a0 Z = true) (n0 : Nat) (t1 t2 t3 s1 s2 : Int64) (mode : Int32) : WGo (g0 Z (fun k => n0 + k) n0 0 0) (0, [wJ t1, wS, wJ t2, wS, wJ t3, wS, wJ s1, wS, wJ s2, wS, wI mode, wU, wU, wU, wU, wU, wU, wU, wU, wU, wU, wU, wU, wU, wU], [], [], 0) (fun v σ' u' => v = some (.int 1) ∧ σ'.length ≤ 24 ∧ u' ≤ 128) := by
  refine .s (.iload a0_0 rfl) <| .s (.iconst (3 : Int32) a0_2 rfl) <| .s (.iand a0_3) ?_
  generalize hg_k : (mode &&& (3 : Int32)) = k
  obtain hs := four _ _ hg_k
  rcases hs with rfl | rfl | rfl | rfl
  · show WGo _ (4, [wJ t1, wS, wJ t2, wS, wJ t3, wS, wJ s1, wS, wJ s2, wS, wI mode, wU, wU, wU, wU, wU, wU, wU, wU, wU, wU, wU, wU, wU, wU], [.int 0], [], 0) _
    refine .s (.istore (L' := [wJ t1, wS, wJ t2, wS, wJ t3, wS, wJ s1, wS, wJ s2, wS, wI mode, wI 0, wU, wU, wU, wU, wU, wU, wU, wU, wU, wU, wU, wU, wU]) a0_4 rfl) <| .s (.iload a0_6 rfl) <| .s (.iconst (2 : Int32) a0_8 rfl) <| .s (.ishr a0_9) <| .s (.i2l a0_10) <| .s (.lstore (L' := [wJ t1, wS, wJ t2, wS, wJ t3, wS, wJ s1, wS, wJ s2, wS, wI mode, wI 0, wJ ((mode >>> ((2 : Int32) &&& 31)).toInt64), wS, wU, wU, wU, wU, wU, wU, wU, wU, wU, wU, wU]) a0_11 rfl) ?_
    exact seg0 Z a0 hw n0 t1 t2 t3 s1 s2 mode _
  · show WGo _ (4, [wJ t1, wS, wJ t2, wS, wJ t3, wS, wJ s1, wS, wJ s2, wS, wI mode, wU, wU, wU, wU, wU, wU, wU, wU, wU, wU, wU, wU, wU, wU], [.int 1], [], 0) _
    refine .s (.istore (L' := [wJ t1, wS, wJ t2, wS, wJ t3, wS, wJ s1, wS, wJ s2, wS, wI mode, wI 1, wU, wU, wU, wU, wU, wU, wU, wU, wU, wU, wU, wU, wU]) a0_4 rfl) <| .s (.iload a0_6 rfl) <| .s (.iconst (2 : Int32) a0_8 rfl) <| .s (.ishr a0_9) <| .s (.i2l a0_10) <| .s (.lstore (L' := [wJ t1, wS, wJ t2, wS, wJ t3, wS, wJ s1, wS, wJ s2, wS, wI mode, wI 1, wJ ((mode >>> ((2 : Int32) &&& 31)).toInt64), wS, wU, wU, wU, wU, wU, wU, wU, wU, wU, wU, wU]) a0_11 rfl) ?_
    exact seg1 Z a0 hw n0 t1 t2 t3 s1 s2 mode _
  · show WGo _ (4, [wJ t1, wS, wJ t2, wS, wJ t3, wS, wJ s1, wS, wJ s2, wS, wI mode, wU, wU, wU, wU, wU, wU, wU, wU, wU, wU, wU, wU, wU, wU], [.int 2], [], 0) _
    refine .s (.istore (L' := [wJ t1, wS, wJ t2, wS, wJ t3, wS, wJ s1, wS, wJ s2, wS, wI mode, wI 2, wU, wU, wU, wU, wU, wU, wU, wU, wU, wU, wU, wU, wU]) a0_4 rfl) <| .s (.iload a0_6 rfl) <| .s (.iconst (2 : Int32) a0_8 rfl) <| .s (.ishr a0_9) <| .s (.i2l a0_10) <| .s (.lstore (L' := [wJ t1, wS, wJ t2, wS, wJ t3, wS, wJ s1, wS, wJ s2, wS, wI mode, wI 2, wJ ((mode >>> ((2 : Int32) &&& 31)).toInt64), wS, wU, wU, wU, wU, wU, wU, wU, wU, wU, wU, wU]) a0_11 rfl) ?_
    exact seg2 Z a0 hw n0 t1 t2 t3 s1 s2 mode _
  · show WGo _ (4, [wJ t1, wS, wJ t2, wS, wJ t3, wS, wJ s1, wS, wJ s2, wS, wI mode, wU, wU, wU, wU, wU, wU, wU, wU, wU, wU, wU, wU, wU, wU], [.int 3], [], 0) _
    refine .s (.istore (L' := [wJ t1, wS, wJ t2, wS, wJ t3, wS, wJ s1, wS, wJ s2, wS, wI mode, wI 3, wU, wU, wU, wU, wU, wU, wU, wU, wU, wU, wU, wU, wU]) a0_4 rfl) <| .s (.iload a0_6 rfl) <| .s (.iconst (2 : Int32) a0_8 rfl) <| .s (.ishr a0_9) <| .s (.i2l a0_10) <| .s (.lstore (L' := [wJ t1, wS, wJ t2, wS, wJ t3, wS, wJ s1, wS, wJ s2, wS, wI mode, wI 3, wJ ((mode >>> ((2 : Int32) &&& 31)).toInt64), wS, wU, wU, wU, wU, wU, wU, wU, wU, wU, wU, wU]) a0_11 rfl) ?_
    exact seg3 Z a0 hw n0 t1 t2 t3 s1 s2 mode _
theorem plx : plainFor x = true := plainFor_of_name (by first | (simp [plainName, overriddenIn, x]; done) | decide +kernel)
set_option maxRecDepth 65536 in
set_option maxHeartbeats 40000000 in
theorem comes_1 {Post : Tables → Env → Array Value → State → Outcome → State → Prop} (hpost : ∀ tb e args s v u, (limb_1_1.after args s (.returned v) u = true ∧ limb_1_2.after args s (.returned v) u = true ∧ True) → FrameEnd s (.returned v) u (Jvm.fieldLocs frame_1_writes args s ++ Jvm.arrayLocs frame_1_arrays args s ++ Jvm.staticLocs frame_1_statics s) 24 128 → Post tb e args s (.returned v) u) :
    ArmFor flags0 classFile x code maxLocals ret World_1 tables_1 room_1 Calls_1 rest_1 Pre_1 Post := by
  intro l hfl _ _ p e ha hc hk s m args below hf hA hF happ hP
  obtain ⟨hcalls, hrest, hpre⟩ := hP
  obtain ⟨-, -, -, hnamed, -, -, -, hat⟩ := (Spec.applies_iff hf).mp happ
  obtain ⟨hg, hn⟩ := and_e (Cond.before_iff.mp (show (Jvm.Cond.and given_1 narrow_1).before args s = true from hpre))
  obtain ⟨gg1, gg2⟩ := and_e hg
  obtain ⟨gg3, gg4⟩ := and_e gg2
  obtain ⟨gg5, gg6⟩ := and_e gg4
  obtain ⟨gg7, gg8⟩ := and_e gg6
  obtain ⟨gg9, gg10⟩ := and_e gg8
  obtain ⟨gg11, gg12⟩ := and_e gg10
  obtain ⟨w0, w1, w2, w3, w4, w5, rfl⟩ : ∃ w0 w1 w2 w3 w4 w5 : Value, args = #[w0, w1, w2, w3, w4, w5] := by
    have hs : args.size = 6 := by simpa [Cond.value, given_1] using gg1
    obtain ⟨L⟩ := args
    match L, hs with
    | [w0, w1, w2, w3, w4, w5], _ => exact ⟨w0, w1, w2, w3, w4, w5, rfl⟩
  have hw := fun d (hd : d ∈ tables_1) => atoms_spec (ws := Jvm.Cond.code x code maxLocals ret :: tables_1) hat d (List.mem_cons_of_mem _ hd)
  obtain ⟨i0, ei0⟩ := isL_v gg3
  obtain rfl : w0 = (.long i0) := Option.some.inj ei0
  obtain ⟨i1, ei1⟩ := isL_v gg5
  obtain rfl : w1 = (.long i1) := Option.some.inj ei1
  obtain ⟨i2, ei2⟩ := isL_v gg7
  obtain rfl : w2 = (.long i2) := Option.some.inj ei2
  obtain ⟨i3, ei3⟩ := isL_v gg9
  obtain rfl : w3 = (.long i3) := Option.some.inj ei3
  obtain ⟨i4, ei4⟩ := isL_v gg11
  obtain rfl : w4 = (.long i4) := Option.some.inj ei4
  obtain ⟨i5, ei5⟩ := is_v gg12
  obtain rfl : w5 = (.int i5) := Option.some.inj ei5
  obtain ⟨v, σ', u', ⟨rfl, hc1, hu1⟩, r⟩ := law_go s _ hw s.heap.size i0 i1 i2 i3 i4 i5
  have D0 : WDen s (fun k => s.heap.size + k) s.heap.size [] s.heap := ⟨rfl, Nat.zero_le _, fun k o h => by cases h⟩
  obtain ⟨n, o, h1, h2, h3, _, L, rfl, ⟨rfl, N, -⟩, hq⟩ := met_of (l := l) (y := x) (ws := tables_1) (argsL := [(.long i0), (.long i1), (.long i2), (.long i3), (.long i4), (.int i5)]) (h := s.heap) rfl rfl rfl rfl plx (fun k _ => rfl) (fun i j h => Nat.add_left_cancel h) r D0 room_1 (Nat.le_of_ble_eq_true rfl) (Nat.le_trans (Nat.sub_le _ _) (Nat.le_trans hc1 (by decide))) (Nat.le_trans (Nat.sub_le _ _) (Nat.le_trans hu1 (by decide))) (Nat.le_of_ble_eq_true rfl) p e ha hc hk s m _ below hf ((Spec.applies_iff_loose hf).mp happ).1 ⟨rfl, State.Warmed39.refl s, rfl⟩ trivial
  refine ⟨n, _, h1, h2, h3, hpost _ _ _ _ _ _ ⟨Cond.after_iff.mpr rfl, Cond.after_iff.mpr (eq_i res_at (Term.int_eval (1)) rfl), trivial⟩ ⟨hq.1, hq.2.1, (hq.2.2.sift fun y hy => Or.inr (N y hy)).mono (Nat.le_trans (Nat.sub_le _ _) (Nat.le_trans hc1 (by decide))) (Nat.le_trans (Nat.sub_le _ _) (Nat.le_trans hu1 (by decide)))⟩⟩
theorem main_1_1 : Claimed_1_1 := comes_1 fun _ _ _ _ _ _ h hF => ⟨h.1, hF⟩
theorem main_1_2 : Claimed_1_2 := comes_1 fun _ _ _ _ _ _ h hF => ⟨h.2.1, hF⟩
end Jvm.Pilot.@@N@@
namespace Jvm.Pilot.@@N@@
open Jvm Jvm.ClassFile Sem Op Lib Jvm.Free Jvm.Stand Jvm.Pilot.@@N@@.Jvm.D
/-! MADE BY PROGRAM (witnessworld.py) out of the Statement's table words and the real class files: 17 classes; the members and pool entries that the words name. The judged class is class 1, her method 2. -/
namespace start1
open Jvm.ClassFile
def u (s : String) : CpInfo := .utf8 (stringToUtf16 s)
/-- a pool by its gaps: so many unusable entries, then the entry; so many at the end -/
def gap : Nat → List CpInfo → List CpInfo
  | 0, r => r
  | n + 1, r => .unusable :: gap n r
def poolList (es : List (Nat × CpInfo)) (last : Nat) : List CpInfo := es.foldr (fun e r => gap e.1 (e.2 :: r)) (gap last [])
def pool (es : List (Nat × CpInfo)) (last : Nat) : Array CpInfo := ⟨poolList es last⟩
def fileOf (pool : Array CpInfo) (this : Nat) (attrs : Array Attribute := #[]) (ms : Array MethodInfo := #[]) (fl : Nat := 33) (sup : Nat := 0) (ifs : Array Nat := #[]) (fds : Array FieldInfo := #[]) : ClassFile where
  minorVersion := 0
  majorVersion := 65
  constantPool := pool
  accessFlags := fl
  thisClass := this
  superClass := sup
  interfaces := ifs
  fields := fds
  methods := ms
  attributes := attrs
def plain (name : String) (sup : Option ClassId) : Class where
  name := name
  kind := .ordinary
  loader := none
  accessFlags := 33
  super := sup
  interfaces := #[]
  cf := none
  fields := #[]
  methods := #[]
  instanceTypes := #[]
  staticTypes := #[]
  resolved := #[]
  callSites := []
  init := .initialized
  statics := none
  mirror := none

def pool0 : Array CpInfo := pool [(5, u "<init>"), (0, u "()V"), (1, .class_ 10), (1, u "java/lang/Object")] 113

def k0c0 : Code := { maxStack := 0, maxLocals := 1, code := object_method_1_code, exceptionTable := #[], attributes := #[] }
def k0m0 : Method := { name := "<init>", desc := "()V", sig := { parameters := [], returnType := none }, accessFlags := 1, code := some k0c0 }
/-- java/lang/Object -/
def k0 : Class := { plain "java/lang/Object" none with
  accessFlags := 33
  interfaces := #[]
  cf := some (fileOf pool0 8 #[] #[{ accessFlags := 1, nameIndex := 5, descriptorIndex := 6, attributes := #[] }] 33 0 #[] #[])
  fields := #[]
  methods := #[k0m0]
  instanceTypes := #[]
  staticTypes := #[]
  resolved := Array.replicate 124 none
  statics := none }

def pool1 : Array CpInfo := pool [(2, .class_ 4), (0, .nameAndType 5 6), (0, u "java/lang/Object"), (0, u "<init>"), (0, u "()V"), (0, .class_ 8), (0, u "com/example/chronogate/chronogate/Event"), (0, .methodref 7 10), (0, .nameAndType 5 11), (0, u "(JLjava/util/List;Ljava/lang/Object;J)V"), (0, .class_ 13), (0, u "com/example/chronogate/chronogate/ReleaseQueue"), (0, .methodref 12 3), (0, .methodref 12 16), (0, .nameAndType 17 18), (0, u "add"), (0, u "(Lcom/example/chronogate/chronogate/Event;)V"), (0, .methodref 20 21), (0, .class_ 22), (0, .nameAndType 23 24), (0, u "com/example/chronogate/chronogate/ReleaseQueuePeekPinLaw"), (0, u "less"), (0, u "(JJJJ)Z"), (0, .methodref 12 26), (0, .nameAndType 27 28), (0, u "peek"), (0, u "()Lcom/example/chronogate/chronogate/Event;"), (0, .methodref 12 30), (0, .nameAndType 31 32), (0, u "size"), (0, u "()I"), (3, u "law"), (0, u "(JJJJJI)Z")] 2

def k1m0 : Method := { name := "<init>", desc := "()V", sig := { parameters := [], returnType := none }, accessFlags := 1, code := none }
def k1c1 : Code := { maxStack := 4, maxLocals := 8, code := method_2_code, exceptionTable := #[], attributes := #[] }
def k1m1 : Method := { name := "less", desc := "(JJJJ)Z", sig := { parameters := [.long, .long, .long, .long], returnType := some .boolean }, accessFlags := 10, code := some k1c1 }
def k1c2 : Code := { maxStack := 8, maxLocals := 25, code := code, exceptionTable := #[], attributes := #[] }
def k1m2 : Method := { name := "law", desc := "(JJJJJI)Z", sig := { parameters := [.long, .long, .long, .long, .long, .int], returnType := some .boolean }, accessFlags := 9, code := some k1c2 }
/-- com/example/chronogate/chronogate/ReleaseQueuePeekPinLaw -/
def k1 : Class := { plain "com/example/chronogate/chronogate/ReleaseQueuePeekPinLaw" (some 0) with
  accessFlags := 49
  interfaces := #[]
  cf := some (fileOf pool1 20 #[] #[{ accessFlags := 1, nameIndex := 5, descriptorIndex := 6, attributes := #[] }, { accessFlags := 10, nameIndex := 23, descriptorIndex := 24, attributes := #[] }, { accessFlags := 9, nameIndex := 36, descriptorIndex := 37, attributes := #[] }] 49 2 #[] #[])
  fields := #[]
  methods := #[k1m0, k1m1, k1m2]
  instanceTypes := #[]
  staticTypes := #[]
  resolved := Array.replicate 40 none
  statics := none }

def pool2 : Array CpInfo := pool [(1, .methodref 2 3), (0, .class_ 4), (0, .nameAndType 5 6), (0, u "java/lang/Object"), (0, u "<init>"), (0, u "()V"), (0, .fieldref 8 9), (0, .class_ 10), (0, .nameAndType 11 12), (0, u "com/example/chronogate/chronogate/Event"), (0, u "timestamp"), (0, u "J"), (0, .fieldref 8 14), (0, .nameAndType 15 16), (0, u "adjustments"), (0, u "Ljava/util/List;"), (0, .fieldref 8 18), (0, .nameAndType 19 20), (0, u "payload"), (0, u "Ljava/lang/Object;"), (0, .fieldref 8 22), (0, .nameAndType 23 12), (0, u "sequence"), (0, .methodref 25 26), (0, .class_ 27), (0, .nameAndType 28 29), (0, u "java/lang/Long"), (0, u "compare"), (0, u "(JJ)I"), (50, u "(JLjava/util/List;Ljava/lang/Object;J)V"), (19, u "releaseOrder"), (0, u "(Lcom/example/chronogate/chronogate/Event;Lcom/example/chronogate/chronogate/Event;)I")] 15

def k2c0 : Code := { maxStack := 3, maxLocals := 7, code := prog_8_method_1_code, exceptionTable := #[], attributes := #[] }
def k2m0 : Method := { name := "<init>", desc := "(JLjava/util/List;Ljava/lang/Object;J)V", sig := { parameters := [.long, (.object "java/util/List"), (.object "java/lang/Object"), .long], returnType := none }, accessFlags := 0, code := some k2c0 }
def k2c1 : Code := { maxStack := 4, maxLocals := 3, code := prog_8_method_6_code, exceptionTable := #[], attributes := #[] }
def k2m1 : Method := { name := "releaseOrder", desc := "(Lcom/example/chronogate/chronogate/Event;Lcom/example/chronogate/chronogate/Event;)I", sig := { parameters := [(.object "com/example/chronogate/chronogate/Event"), (.object "com/example/chronogate/chronogate/Event")], returnType := some .int }, accessFlags := 8, code := some k2c1 }
/-- com/example/chronogate/chronogate/Event -/
def k2 : Class := { plain "com/example/chronogate/chronogate/Event" (some 0) with
  accessFlags := 49
  interfaces := #[]
  cf := some (fileOf pool2 8 #[] #[{ accessFlags := 0, nameIndex := 5, descriptorIndex := 80, attributes := #[] }, { accessFlags := 8, nameIndex := 100, descriptorIndex := 101, attributes := #[] }] 49 2 #[] #[{ accessFlags := 18, nameIndex := 11, descriptorIndex := 12, attributes := #[] }, { accessFlags := 18, nameIndex := 15, descriptorIndex := 16, attributes := #[] }, { accessFlags := 18, nameIndex := 19, descriptorIndex := 20, attributes := #[] }, { accessFlags := 18, nameIndex := 23, descriptorIndex := 12, attributes := #[] }])
  fields := #[{ name := "timestamp", type := .long, accessFlags := 18, slot := 0, constantValue := 0 }, { name := "adjustments", type := (.object "java/util/List"), accessFlags := 18, slot := 1, constantValue := 0 }, { name := "payload", type := (.object "java/lang/Object"), accessFlags := 18, slot := 2, constantValue := 0 }, { name := "sequence", type := .long, accessFlags := 18, slot := 3, constantValue := 0 }]
  methods := #[k2m0, k2m1]
  instanceTypes := #[.long, (.object "java/util/List"), (.object "java/lang/Object"), .long]
  staticTypes := #[]
  resolved := Array.replicate 117 none
  statics := none }

def pool3 : Array CpInfo := pool [(8, .class_ 10), (1, u "java/lang/Iterable"), (24, .class_ 36), (0, u "java/lang/Object")] 25

/-- java/lang/Iterable -/
def k3 : Class := { plain "java/lang/Iterable" (some 0) with
  accessFlags := 1537
  interfaces := #[]
  cf := some (fileOf pool3 8 #[] #[] 1537 35 #[] #[])
  fields := #[]
  methods := #[]
  instanceTypes := #[]
  staticTypes := #[]
  resolved := Array.replicate 62 none
  statics := none }

def pool4 : Array CpInfo := pool [(1, .methodref 2 3), (0, .class_ 4), (0, .nameAndType 5 6), (0, u "java/lang/Object"), (0, u "<init>"), (0, u "()V"), (0, .class_ 8), (0, u "com/example/chronogate/chronogate/ReleaseQueue"), (0, .methodref 7 10), (0, .nameAndType 11 12), (0, u "newArray"), (0, u "(I)[Lcom/example/chronogate/chronogate/Event;"), (0, .fieldref 7 14), (0, .nameAndType 15 16), (0, u "heap"), (0, u "[Lcom/example/chronogate/chronogate/Event;"), (0, .fieldref 7 18), (0, .nameAndType 19 20), (0, u "size"), (0, u "I"), (7, .methodref 29 30), (0, .class_ 31), (0, .nameAndType 32 33), (0, u "com/example/chronogate/chronogate/Event"), (0, u "releaseOrder"), (0, u "(Lcom/example/chronogate/chronogate/Event;Lcom/example/chronogate/chronogate/Event;)I"), (0, .class_ 35), (0, u "com/example/chronogate/chronogate/ReleaseQueue$1"), (3, .class_ 40), (0, u "java/lang/Iterable"), (0, u "FIRST_CAPACITY"), (6, u "add"), (0, u "(Lcom/example/chronogate/chronogate/Event;)V"), (4, u "()I"), (0, u "peek"), (0, u "()Lcom/example/chronogate/chronogate/Event;")] 11

def k4c0 : Code := { maxStack := 2, maxLocals := 1, code := prog_24_method_1_code, exceptionTable := #[], attributes := #[] }
def k4m0 : Method := { name := "<init>", desc := "()V", sig := { parameters := [], returnType := none }, accessFlags := 0, code := some k4c0 }
def k4c1 : Code := { maxStack := 4, maxLocals := 4, code := prog_24_method_2_code, exceptionTable := #[], attributes := #[] }
def k4m1 : Method := { name := "add", desc := "(Lcom/example/chronogate/chronogate/Event;)V", sig := { parameters := [(.object "com/example/chronogate/chronogate/Event")], returnType := none }, accessFlags := 0, code := some k4c1 }
def k4c2 : Code := { maxStack := 1, maxLocals := 1, code := prog_24_method_4_code, exceptionTable := #[], attributes := #[] }
def k4m2 : Method := { name := "size", desc := "()I", sig := { parameters := [], returnType := some .int }, accessFlags := 0, code := some k4c2 }
def k4c3 : Code := { maxStack := 2, maxLocals := 1, code := prog_24_method_5_code, exceptionTable := #[], attributes := #[] }
def k4m3 : Method := { name := "peek", desc := "()Lcom/example/chronogate/chronogate/Event;", sig := { parameters := [], returnType := some (.object "com/example/chronogate/chronogate/Event") }, accessFlags := 0, code := some k4c3 }
def k4c4 : Code := { maxStack := 1, maxLocals := 1, code := prog_24_method_8_code, exceptionTable := #[], attributes := #[] }
def k4m4 : Method := { name := "newArray", desc := "(I)[Lcom/example/chronogate/chronogate/Event;", sig := { parameters := [.int], returnType := some (.array (.object "com/example/chronogate/chronogate/Event")) }, accessFlags := 10, code := some k4c4 }
/-- com/example/chronogate/chronogate/ReleaseQueue -/
def k4 : Class := { plain "com/example/chronogate/chronogate/ReleaseQueue" (some 0) with
  accessFlags := 48
  interfaces := #[3]
  cf := some (fileOf pool4 7 #[.nestMembers #[34]] #[{ accessFlags := 0, nameIndex := 5, descriptorIndex := 6, attributes := #[] }, { accessFlags := 0, nameIndex := 48, descriptorIndex := 49, attributes := #[] }, { accessFlags := 0, nameIndex := 19, descriptorIndex := 54, attributes := #[] }, { accessFlags := 0, nameIndex := 55, descriptorIndex := 56, attributes := #[] }, { accessFlags := 10, nameIndex := 11, descriptorIndex := 12, attributes := #[] }] 48 2 #[39] #[{ accessFlags := 26, nameIndex := 41, descriptorIndex := 20, attributes := #[] }, { accessFlags := 2, nameIndex := 15, descriptorIndex := 16, attributes := #[] }, { accessFlags := 2, nameIndex := 19, descriptorIndex := 20, attributes := #[] }])
  fields := #[{ name := "FIRST_CAPACITY", type := .int, accessFlags := 26, slot := 0, constantValue := 0 }, { name := "heap", type := (.array (.object "com/example/chronogate/chronogate/Event")), accessFlags := 2, slot := 0, constantValue := 0 }, { name := "size", type := .int, accessFlags := 2, slot := 1, constantValue := 0 }]
  methods := #[k4m0, k4m1, k4m2, k4m3, k4m4]
  instanceTypes := #[(.array (.object "com/example/chronogate/chronogate/Event")), .int]
  staticTypes := #[.int]
  resolved := Array.replicate 68 none
  statics := none }

def pool5 : Array CpInfo := pool [(1, .class_ 2), (0, u "java/io/Serializable"), (0, .class_ 4), (0, u "java/lang/Object")] 2

/-- java/io/Serializable -/
def k5 : Class := { plain "java/io/Serializable" (some 0) with
  accessFlags := 1537
  interfaces := #[]
  cf := some (fileOf pool5 1 #[] #[] 1537 3 #[] #[])
  fields := #[]
  methods := #[]
  instanceTypes := #[]
  staticTypes := #[]
  resolved := Array.replicate 7 none
  statics := none }

def pool6 : Array CpInfo := pool [(2, .class_ 4), (1, u "java/lang/Object"), (0, u "<init>"), (0, u "()V"), (1, .class_ 10), (1, u "java/lang/Number"), (2, .class_ 14), (0, u "java/io/Serializable"), (0, u "serialVersionUID"), (0, u "J")] 20

def k6m0 : Method := { name := "<init>", desc := "()V", sig := { parameters := [], returnType := none }, accessFlags := 1, code := none }
/-- java/lang/Number -/
def k6 : Class := { plain "java/lang/Number" (some 0) with
  accessFlags := 1057
  interfaces := #[5]
  cf := some (fileOf pool6 8 #[] #[{ accessFlags := 1, nameIndex := 5, descriptorIndex := 6, attributes := #[] }] 1057 2 #[13] #[{ accessFlags := 26, nameIndex := 15, descriptorIndex := 16, attributes := #[] }])
  fields := #[{ name := "serialVersionUID", type := .long, accessFlags := 26, slot := 0, constantValue := 0 }]
  methods := #[k6m0]
  instanceTypes := #[]
  staticTypes := #[.long]
  resolved := Array.replicate 37 none
  statics := none }

def pool7 : Array CpInfo := pool [(1, .class_ 2), (0, u "java/lang/Comparable"), (0, .class_ 4), (0, u "java/lang/Object")] 7

/-- java/lang/Comparable -/
def k7 : Class := { plain "java/lang/Comparable" (some 0) with
  accessFlags := 1537
  interfaces := #[]
  cf := some (fileOf pool7 1 #[] #[] 1537 3 #[] #[])
  fields := #[]
  methods := #[]
  instanceTypes := #[]
  staticTypes := #[]
  resolved := Array.replicate 12 none
  statics := none }

def pool8 : Array CpInfo := pool [(1, .class_ 2), (0, u "java/lang/constant/Constable"), (0, .class_ 4), (0, u "java/lang/Object")] 6

/-- java/lang/constant/Constable -/
def k8 : Class := { plain "java/lang/constant/Constable" (some 0) with
  accessFlags := 1537
  interfaces := #[]
  cf := some (fileOf pool8 1 #[] #[] 1537 3 #[] #[])
  fields := #[]
  methods := #[]
  instanceTypes := #[]
  staticTypes := #[]
  resolved := Array.replicate 11 none
  statics := none }

def pool9 : Array CpInfo := pool [(1, .class_ 2), (0, u "java/lang/constant/ConstantDesc"), (0, .class_ 4), (0, u "java/lang/Object")] 32

/-- java/lang/constant/ConstantDesc -/
def k9 : Class := { plain "java/lang/constant/ConstantDesc" (some 0) with
  accessFlags := 1537
  interfaces := #[]
  cf := some (fileOf pool9 1 #[] #[] 1537 3 #[] #[])
  fields := #[]
  methods := #[]
  instanceTypes := #[]
  staticTypes := #[]
  resolved := Array.replicate 37 none
  statics := none }

def pool10 : Array CpInfo := pool [(1, .class_ 2), (0, u "java/lang/Long"), (232, .class_ 237), (1, u "java/lang/Long$LongCache"), (33, .class_ 272), (0, u "java/lang/Number"), (2, u "value"), (0, u "J"), (27, u "compare"), (0, u "(JJ)I"), (55, u "TYPE"), (0, u "Ljava/lang/Class;"), (0, .class_ 364), (0, u "java/lang/Comparable"), (0, .class_ 366), (0, u "java/lang/constant/Constable"), (0, .class_ 368), (0, u "java/lang/constant/ConstantDesc"), (0, u "MIN_VALUE"), (1, u "MAX_VALUE"), (4, u "SIZE"), (0, u "I"), (1, u "BYTES"), (1, u "serialVersionUID")] 142

def k10c0 : Code := { maxStack := 4, maxLocals := 4, code := jdk_35_method_42_code, exceptionTable := #[], attributes := #[] }
def k10m0 : Method := { name := "compare", desc := "(JJ)I", sig := { parameters := [.long, .long], returnType := some .int }, accessFlags := 9, code := some k10c0 }
/-- java/lang/Long -/
def k10 : Class := { plain "java/lang/Long" (some 6) with
  accessFlags := 49
  interfaces := #[7, 8, 9]
  cf := some (fileOf pool10 1 #[.nestMembers #[235]] #[{ accessFlags := 9, nameIndex := 304, descriptorIndex := 305, attributes := #[] }] 49 271 #[363, 365, 367] #[{ accessFlags := 25, nameIndex := 369, descriptorIndex := 276, attributes := #[] }, { accessFlags := 25, nameIndex := 371, descriptorIndex := 276, attributes := #[] }, { accessFlags := 25, nameIndex := 361, descriptorIndex := 362, attributes := #[] }, { accessFlags := 18, nameIndex := 275, descriptorIndex := 276, attributes := #[] }, { accessFlags := 25, nameIndex := 376, descriptorIndex := 377, attributes := #[] }, { accessFlags := 25, nameIndex := 379, descriptorIndex := 377, attributes := #[] }, { accessFlags := 26, nameIndex := 381, descriptorIndex := 276, attributes := #[] }])
  fields := #[{ name := "MIN_VALUE", type := .long, accessFlags := 25, slot := 0, constantValue := 0 }, { name := "MAX_VALUE", type := .long, accessFlags := 25, slot := 1, constantValue := 0 }, { name := "TYPE", type := (.object "java/lang/Class"), accessFlags := 25, slot := 2, constantValue := 0 }, { name := "value", type := .long, accessFlags := 18, slot := 0, constantValue := 0 }, { name := "SIZE", type := .int, accessFlags := 25, slot := 3, constantValue := 0 }, { name := "BYTES", type := .int, accessFlags := 25, slot := 4, constantValue := 0 }, { name := "serialVersionUID", type := .long, accessFlags := 26, slot := 5, constantValue := 0 }]
  methods := #[k10m0]
  instanceTypes := #[.long]
  staticTypes := #[.long, .long, (.object "java/lang/Class"), .int, .int, .long]
  resolved := Array.replicate 524 none
  statics := none }

def pool11 : Array CpInfo := pool [(1, u "java/lang/Cloneable"), (0, .class_ 1), (0, u "java/lang/Object"), (0, .class_ 3)] 3

/-- java/lang/Cloneable -/
def k11 : Class := { plain "java/lang/Cloneable" (some 0) with
  accessFlags := 1537
  interfaces := #[]
  cf := some (fileOf pool11 2 #[] #[] 1537 4 #[] #[])
  fields := #[]
  methods := #[]
  instanceTypes := #[]
  staticTypes := #[]
  resolved := Array.replicate 8 none
  statics := none }

/-- the primitive byte -/
def k12 : Class := { plain "byte" none with kind := .primitive 'B', accessFlags := 0x411 }
/-- [B -/
def k13 : Class := { plain "[B" (some 0) with kind := .array 12 .byte, interfaces := #[11, 5], accessFlags := 1041 }

/-- the primitive int -/
def k14 : Class := { plain "int" none with kind := .primitive 'I', accessFlags := 0x411 }
/-- [I -/
def k15 : Class := { plain "[I" (some 0) with kind := .array 14 .int, interfaces := #[11, 5], accessFlags := 1041 }

/-- [Lcom/example/chronogate/chronogate/Event; -/
def k16 : Class := { plain "[Lcom/example/chronogate/chronogate/Event;" (some 0) with kind := .array 2 (.object "com/example/chronogate/chronogate/Event"), interfaces := #[11, 5], accessFlags := 1041 }

def heap : Heap := #[]
def classes : Array Class := #[k0, k1, k2, k3, k4, k5, k6, k7, k8, k9, k10, k11, k12, k13, k14, k15, k16]
def interned : List (Array UInt16 × Addr) := []
def slotsUsed : Nat := 0
def theMethod : MethodId := ⟨1, 2⟩
def args0 : Array Value := #[.long 5, .long 6, .long 3, .long 1, .long 2, .int 3]
def aboutOver (below : List Frame) : State where
  vm := { classes := classes, interned := interned.toArray }
  heap := heap
  slotsUsed := slotsUsed
  threads := #[{ frames := .invoking theMethod args0 :: below }]
def below0 : List Frame := [.native { method := ⟨0, 0⟩, args := #[] }]
def about1 : State := aboutOver below0
def p0 : Program := .bare "" "" ""
def e0 : Env := launch0.env 0 0 0
theorem w_frames : about1.frames = Frame.invoking theMethod args0 :: below0 := rfl
set_option maxRecDepth 65536 in
theorem w_args : argsFit about1.vm theMethod args0 = true := by decide +kernel
set_option maxRecDepth 65536 in
theorem w_heap : heapFits about1 = true := by decide +kernel
set_option maxRecDepth 65536 in
theorem w_runnable : about1.curStatus? = some .runnable := by decide +kernel
set_option maxRecDepth 65536 in
theorem w_alone : about1.alone = true := by decide +kernel
set_option maxRecDepth 65536 in
theorem w_named : about1.methodNamed? x = some theMethod := by decide +kernel
set_option maxRecDepth 65536 in
theorem w_hears : about1.hears theMethod below0 = true := by decide +kernel
set_option maxRecDepth 65536 in
theorem w_ripe : about1.ripe theMethod args0 below0 = true := by decide +kernel
theorem w_running : about1.status = .running := rfl
set_option maxRecDepth 65536 in
theorem w_room : about1.hasRoom e0.platform room_1 = true :=
  launch0.hasRoom_least _ room_1 (by decide +kernel) (by decide +kernel) (by decide +kernel) (by decide +kernel) (by decide +kernel) (by decide +kernel)
theorem allAtoms_all (ts : List Jvm.Cond) (a : Array Jvm.Value) (st : Jvm.State) : (allAtoms ts).before a st = ts.all (fun c => c.before a st) := by
  induction ts with
  | nil => rfl
  | cons c t ih =>
    show (Jvm.Cond.and c (allAtoms t)).before a st = _
    rw [Jvm.Cond.before_and, ih, List.all_cons]
def words1 : List Jvm.Cond := Jvm.Cond.code x code maxLocals ret :: tables_1
/-- a 'code' word, met by the world's own term for the bytes: nothing is compared byte by byte -/
theorem code_word {y : MethodName} {bytes : ByteArray} {mx : Nat} {rt : Option FieldType} {a : Array Value} {s : State} {m : MethodId} {meth : Method} {c : Code} (h1 : s.methodNamed? y = some m) (h2 : s.vm.method? m = some meth) (h3 : meth.code = some c) (h4 : c.code = bytes)
    (h5 : (c.maxLocals == mx && c.exceptionTable.isEmpty && decide (c.maxStack ≤ mostOperands) && decide (meth.sig.returnType = rt) && !meth.locks && decide (parseMethodDescriptor y.desc = some meth.sig)) = true) : (Jvm.Cond.code y bytes mx rt).before a s = true := by
  simp only [Bool.and_eq_true, beq_iff_eq, Bool.not_eq_true', decide_eq_true_eq] at h5
  obtain ⟨⟨⟨⟨⟨g1, g2⟩, g3⟩, g4⟩, g5⟩, g6⟩ := h5
  simp [Cond.before, Cond.holds, Cond.value, h1, h2, h3, h4, g1, g2, g3, g4, g5, g6]
def isCode : Jvm.Cond → Bool
  | .code _ _ _ _ => true
  | _ => false
theorem all_split {L : List Jvm.Cond} {P : Jvm.Cond → Bool} (h1 : L.all (fun c => isCode c || P c) = true) (h2 : ∀ c ∈ L.filter isCode, P c = true) : L.all P = true := by
  refine List.all_eq_true.mpr fun c hc => ?_
  have h := List.all_eq_true.mp h1 c hc
  rcases Bool.eq_false_or_eq_true (isCode c) with hi | hi
  · exact h2 c (List.mem_filter.mpr ⟨hc, hi⟩)
  · simpa [hi] using h
set_option maxRecDepth 65536 in
theorem w_c0 : (Jvm.Cond.code x code maxLocals ret).before args0 about1 = true := code_word (m := ⟨1, 2⟩) (meth := k1m2) (c := k1c2) (by decide +kernel) rfl rfl rfl (by decide +kernel)
set_option maxRecDepth 65536 in
theorem w_c1 : (Jvm.Cond.code ({ cls := "com/example/chronogate/chronogate/Event", name := "<init>", desc := "(JLjava/util/List;Ljava/lang/Object;J)V" } : Jvm.MethodName) prog_8_method_1_code (7 : Nat) (Option.none : Option Jvm.ClassFile.FieldType)).before args0 about1 = true := code_word (m := ⟨2, 0⟩) (meth := k2m0) (c := k2c0) (by decide +kernel) rfl rfl rfl (by decide +kernel)
set_option maxRecDepth 65536 in
theorem w_c2 : (Jvm.Cond.code ({ cls := "java/lang/Object", name := "<init>", desc := "()V" } : Jvm.MethodName) object_method_1_code (1 : Nat) (Option.none : Option Jvm.ClassFile.FieldType)).before args0 about1 = true := code_word (m := ⟨0, 0⟩) (meth := k0m0) (c := k0c0) (by decide +kernel) rfl rfl rfl (by decide +kernel)
set_option maxRecDepth 65536 in
theorem w_c3 : (Jvm.Cond.code ({ cls := "com/example/chronogate/chronogate/ReleaseQueue", name := "<init>", desc := "()V" } : Jvm.MethodName) prog_24_method_1_code (1 : Nat) (Option.none : Option Jvm.ClassFile.FieldType)).before args0 about1 = true := code_word (m := ⟨4, 0⟩) (meth := k4m0) (c := k4c0) (by decide +kernel) rfl rfl rfl (by decide +kernel)
set_option maxRecDepth 65536 in
theorem w_c4 : (Jvm.Cond.code ({ cls := "com/example/chronogate/chronogate/ReleaseQueue", name := "newArray", desc := "(I)[Lcom/example/chronogate/chronogate/Event;" } : Jvm.MethodName) prog_24_method_8_code (1 : Nat) (Option.some (Jvm.ClassFile.FieldType.array (Jvm.ClassFile.FieldType.object "com/example/chronogate/chronogate/Event")))).before args0 about1 = true := code_word (m := ⟨4, 4⟩) (meth := k4m4) (c := k4c4) (by decide +kernel) rfl rfl rfl (by decide +kernel)
set_option maxRecDepth 65536 in
theorem w_c5 : (Jvm.Cond.code ({ cls := "com/example/chronogate/chronogate/ReleaseQueue", name := "add", desc := "(Lcom/example/chronogate/chronogate/Event;)V" } : Jvm.MethodName) prog_24_method_2_code (4 : Nat) (Option.none : Option Jvm.ClassFile.FieldType)).before args0 about1 = true := code_word (m := ⟨4, 1⟩) (meth := k4m1) (c := k4c1) (by decide +kernel) rfl rfl rfl (by decide +kernel)
set_option maxRecDepth 65536 in
theorem w_c6 : (Jvm.Cond.code ({ cls := "com/example/chronogate/chronogate/Event", name := "releaseOrder", desc := "(Lcom/example/chronogate/chronogate/Event;Lcom/example/chronogate/chronogate/Event;)I" } : Jvm.MethodName) prog_8_method_6_code (3 : Nat) (Option.some Jvm.ClassFile.FieldType.int)).before args0 about1 = true := code_word (m := ⟨2, 1⟩) (meth := k2m1) (c := k2c1) (by decide +kernel) rfl rfl rfl (by decide +kernel)
set_option maxRecDepth 65536 in
theorem w_c7 : (Jvm.Cond.code ({ cls := "java/lang/Long", name := "compare", desc := "(JJ)I" } : Jvm.MethodName) jdk_35_method_42_code (4 : Nat) (Option.some Jvm.ClassFile.FieldType.int)).before args0 about1 = true := code_word (m := ⟨10, 0⟩) (meth := k10m0) (c := k10c0) (by decide +kernel) rfl rfl rfl (by decide +kernel)
set_option maxRecDepth 65536 in
theorem w_c8 : (Jvm.Cond.code ({ cls := "com/example/chronogate/chronogate/ReleaseQueuePeekPinLaw", name := "less", desc := "(JJJJ)Z" } : Jvm.MethodName) method_2_code (8 : Nat) (Option.some Jvm.ClassFile.FieldType.boolean)).before args0 about1 = true := code_word (m := ⟨1, 1⟩) (meth := k1m1) (c := k1c1) (by decide +kernel) rfl rfl rfl (by decide +kernel)
set_option maxRecDepth 65536 in
theorem w_c9 : (Jvm.Cond.code ({ cls := "com/example/chronogate/chronogate/ReleaseQueue", name := "peek", desc := "()Lcom/example/chronogate/chronogate/Event;" } : Jvm.MethodName) prog_24_method_5_code (1 : Nat) (Option.some (Jvm.ClassFile.FieldType.object "com/example/chronogate/chronogate/Event"))).before args0 about1 = true := code_word (m := ⟨4, 3⟩) (meth := k4m3) (c := k4c3) (by decide +kernel) rfl rfl rfl (by decide +kernel)
set_option maxRecDepth 65536 in
theorem w_c10 : (Jvm.Cond.code ({ cls := "com/example/chronogate/chronogate/ReleaseQueue", name := "size", desc := "()I" } : Jvm.MethodName) prog_24_method_4_code (1 : Nat) (Option.some Jvm.ClassFile.FieldType.int)).before args0 about1 = true := code_word (m := ⟨4, 2⟩) (meth := k4m2) (c := k4c2) (by decide +kernel) rfl rfl rfl (by decide +kernel)
def codes1 : List Jvm.Cond := [Jvm.Cond.code x code maxLocals ret, Jvm.Cond.code ({ cls := "com/example/chronogate/chronogate/Event", name := "<init>", desc := "(JLjava/util/List;Ljava/lang/Object;J)V" } : Jvm.MethodName) prog_8_method_1_code (7 : Nat) (Option.none : Option Jvm.ClassFile.FieldType), Jvm.Cond.code ({ cls := "java/lang/Object", name := "<init>", desc := "()V" } : Jvm.MethodName) object_method_1_code (1 : Nat) (Option.none : Option Jvm.ClassFile.FieldType), Jvm.Cond.code ({ cls := "com/example/chronogate/chronogate/ReleaseQueue", name := "<init>", desc := "()V" } : Jvm.MethodName) prog_24_method_1_code (1 : Nat) (Option.none : Option Jvm.ClassFile.FieldType), Jvm.Cond.code ({ cls := "com/example/chronogate/chronogate/ReleaseQueue", name := "newArray", desc := "(I)[Lcom/example/chronogate/chronogate/Event;" } : Jvm.MethodName) prog_24_method_8_code (1 : Nat) (Option.some (Jvm.ClassFile.FieldType.array (Jvm.ClassFile.FieldType.object "com/example/chronogate/chronogate/Event"))), Jvm.Cond.code ({ cls := "com/example/chronogate/chronogate/ReleaseQueue", name := "add", desc := "(Lcom/example/chronogate/chronogate/Event;)V" } : Jvm.MethodName) prog_24_method_2_code (4 : Nat) (Option.none : Option Jvm.ClassFile.FieldType), Jvm.Cond.code ({ cls := "com/example/chronogate/chronogate/Event", name := "releaseOrder", desc := "(Lcom/example/chronogate/chronogate/Event;Lcom/example/chronogate/chronogate/Event;)I" } : Jvm.MethodName) prog_8_method_6_code (3 : Nat) (Option.some Jvm.ClassFile.FieldType.int), Jvm.Cond.code ({ cls := "java/lang/Long", name := "compare", desc := "(JJ)I" } : Jvm.MethodName) jdk_35_method_42_code (4 : Nat) (Option.some Jvm.ClassFile.FieldType.int), Jvm.Cond.code ({ cls := "com/example/chronogate/chronogate/ReleaseQueuePeekPinLaw", name := "less", desc := "(JJJJ)Z" } : Jvm.MethodName) method_2_code (8 : Nat) (Option.some Jvm.ClassFile.FieldType.boolean), Jvm.Cond.code ({ cls := "com/example/chronogate/chronogate/ReleaseQueue", name := "peek", desc := "()Lcom/example/chronogate/chronogate/Event;" } : Jvm.MethodName) prog_24_method_5_code (1 : Nat) (Option.some (Jvm.ClassFile.FieldType.object "com/example/chronogate/chronogate/Event")), Jvm.Cond.code ({ cls := "com/example/chronogate/chronogate/ReleaseQueue", name := "size", desc := "()I" } : Jvm.MethodName) prog_24_method_4_code (1 : Nat) (Option.some Jvm.ClassFile.FieldType.int)]
set_option maxRecDepth 65536 in
theorem codes_eq : words1.filter isCode = codes1 := rfl
theorem w_codes : ∀ c ∈ words1.filter isCode, c.before args0 about1 = true := by
  rw [codes_eq]
  intro c hc
  simp only [codes1, List.mem_cons, List.not_mem_nil, or_false] at hc
  rcases hc with rfl | rfl | rfl | rfl | rfl | rfl | rfl | rfl | rfl | rfl | rfl
  · exact w_c0
  · exact w_c1
  · exact w_c2
  · exact w_c3
  · exact w_c4
  · exact w_c5
  · exact w_c6
  · exact w_c7
  · exact w_c8
  · exact w_c9
  · exact w_c10
set_option maxRecDepth 65536 in
theorem w_t1 : (words1.take 24).all (fun c => isCode c || c.before args0 about1) = true := by decide +kernel
set_option maxRecDepth 65536 in
theorem w_t2 : ((words1.drop 24).take 24).all (fun c => isCode c || c.before args0 about1) = true := by decide +kernel
set_option maxRecDepth 65536 in
theorem w_t3 : ((words1.drop 24).drop 24).all (fun c => isCode c || c.before args0 about1) = true := by decide +kernel
theorem w_tables : (allAtoms (Jvm.Cond.code x code maxLocals ret :: tables_1)).before args0 about1 = true := by
  rw [allAtoms_all]
  show words1.all (fun c => c.before args0 about1) = true
  refine all_split ?_ w_codes
  rw [← List.take_append_drop 24 words1, List.all_append, w_t1, ← List.take_append_drop 24 (words1.drop 24), List.all_append, w_t2, w_t3]
  rfl
set_option maxRecDepth 65536 in
theorem w_case : (Jvm.Cond.and given_1 narrow_1).before args0 about1 = true := by decide +kernel
theorem w_applies : (headSpec (Jvm.Cond.code x code maxLocals ret :: tables_1) room_1).applies x e0.platform about1 = true :=
  (Spec.applies_iff w_frames).mpr ⟨w_running, w_runnable, w_alone, w_named, w_hears, w_ripe, w_room, w_tables⟩
theorem atStart : AtStart classFile x code maxLocals ret World_1 tables_1 room_1 Calls_1 rest_1 Pre_1 launch0 p0 e0 about1 theMethod args0 below0 :=
  ⟨lists_1, trivial, launch0.admits_env _ _ _, launch0.least_env, fairChoices_fair.cas, fairChoices_fair.clock, w_frames, w_args, w_heap, w_applies, trivial, trivial, w_case⟩
end start1
theorem witness_1 : WitnessClaimed_1 := ⟨start1.p0, start1.e0, start1.about1, start1.theMethod, start1.args0, start1.below0, start1.atStart⟩
end Jvm.Pilot.@@N@@
